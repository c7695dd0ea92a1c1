/-
  Parts of the proof that the law FnParseExact holds for every input (texts Kf, Kg). Conditions: none.
-/
import Derived.Test.YtengepcafdnalaaGreatDoorM25
namespace Go.Proofs.YtengepcafdnalaaGreatDoor
section
open Go Go.RowKit
set_option maxRecDepth 20000
theorem sStrGo_q {s : Bs} {q : Nat} {t : RS} {acc : Bs} (h : t.p < s.length) (e : bat s t.p = q) : sStrGo s q t acc = (acc, t.go (t.p + 1)) := by
 unfold sStrGo; rw [if_pos h, if_pos e]
theorem sStrGo_n {s : Bs} {q : Nat} {t : RS} {acc : Bs} (h : t.p < s.length) (e : bat s t.p ≠ q) (n : isNl (bat s t.p) = true) : sStrGo s q t acc = ([], t.no) := by
 unfold sStrGo; rw [if_pos h, if_neg e, if_pos n]
theorem sStrGo_ch {s : Bs} {q : Nat} {t : RS} {acc : Bs} (h : t.p < s.length) (e : bat s t.p ≠ q) (n : isNl (bat s t.p) = false) (c : bat s t.p ≠ 92) :
 sStrGo s q t acc = sStrGo s q (t.go (t.p + 1)) (acc ++ [s.getD t.p 0]) := by
 conv => lhs; unfold sStrGo
 rw [if_pos h, if_neg e, if_neg (by rw [n]; simp), if_pos c]
theorem sStrGo_es {s : Bs} {q : Nat} {t : RS} {acc : Bs} (h : t.p < s.length) (e : bat s t.p ≠ q) (c : bat s t.p = 92) (f : escF s t.p = true) :
 sStrGo s q t acc = sStrGo s q (sEsc s t).2 (acc ++ (sEsc s t).1) := by
 conv => lhs; unfold sStrGo
 rw [if_pos h, if_neg e, if_neg (by rw [c]; decide), if_neg (by simp [c]), if_pos f]
theorem sStrGo_ln {s : Bs} {q : Nat} {t : RS} {acc : Bs} (h : t.p < s.length) (e : bat s t.p ≠ q) (c : bat s t.p = 92) (f : escF s t.p = false) :
 sStrGo s q t acc = sStrGo s q (t.go (if bat s (t.p + 1) = 13 ∧ bat s (t.p + 2) = 10 ∧ t.p + 3 ≤ s.length then t.p + 3 else t.p + 2)) acc := by
 conv => lhs; unfold sStrGo
 rw [if_pos h, if_neg e, if_neg (by rw [c]; decide), if_neg (by simp [c]), if_neg (by rw [f]; simp)]
theorem sStrGo_z {s : Bs} {q : Nat} {t : RS} {acc : Bs} (h : ¬ t.p < s.length) : sStrGo s q t acc = ([], t.no) := by
 unfold sStrGo; rw [if_neg h]
theorem kst {K : Out → Option SB → Prop} {s : Bs} {ps : Bool} {r : Bs × RS} {v : Bs} {p : Nat} {b u : Bool}
 (hk : K (.val (.str r.1)) (some (.blk 46 [.str s, .nat r.2.p, .bool r.2.bad, .bool r.2.un, .bool ps]))) (e : r = (v, ⟨p, b, u⟩)) :
 K (.val (.str v)) (some (.blk 46 [.str s, .nat p, .bool b, .bool u, .bool ps])) := by rw [e] at hk; exact hk
theorem lf2 {s : Bs} {e : Nat} (h : hereB s [13, 10] e = true) : bat s e = 13 ∧ bat s (e + 1) = 10 ∧ e + 2 ≤ s.length := by
 have q := (here2 s e 13 10 (by decide)).symm.trans h
 simp at q
 have := bat_lt q.2 (by decide)
 exact ⟨q.1, q.2, by omega⟩
theorem lf2n {s : Bs} {e : Nat} (h : hereB s [13, 10] e = false) : ¬ (bat s e = 13 ∧ bat s (e + 1) = 10 ∧ e + 2 ≤ s.length) := by
 have q := (here2 s e 13 10 (by decide)).symm.trans h
 simp at q
 exact fun h => q h.1 h.2.1
def c96 (svs : List SV) (b : Option SB) : FR := match svs, b with
 | [.ptr 0 0], some (.blk 46 [.str s, .nat p, .bool bad, .bool un, .bool ps]) => some ([s.length ≤ 1000000, p ≤ s.length + 1], .val (.str (sName s ⟨p, bad, un⟩).1),
  some (.blk 46 [.str s, .nat (sName s ⟨p, bad, un⟩).2.p, .bool (sName s ⟨p, bad, un⟩).2.bad, .bool (sName s ⟨p, bad, un⟩).2.un, .bool ps]))
 | _, _ => none
noncomputable def W96 : Wk := ⟨[(95, .fn c95), (108, .fn c108)], bodyOf Tryz.f96, true, false, [.tmp 2], [9], [], []⟩
theorem has96 : Has 96 := Has.of (fn := Tryz.f96) (by kernel_rfl) (by kernel_rfl) (by kernel_rfl)
theorem kfz0 {p q : Prop} (k : q) (h : p := by first | omega | (simp; done) | (simp; omega) | (simp; assumption)) : p ∧ q := ⟨h, k⟩
theorem sat96 : Sat 96 (fnS c96) := by
 have hD : CxOk W96.D := (CxOk.cons has95 sat95 (CxOk.cons has108 sat108 CxOk.nil))
 refine W96.sat hD (fn := Tryz.f96) (by kernel_rfl) (by kernel_rfl) (by kernel_rfl) (by decide) fun svs b K hP => ?_
 obtain ⟨ps, o, b', e, hp, hk⟩ := fnS_inv hP
 unfold c96 at e
 split at e
 · rename_i s p bad un ps
   cases e
   obtain ⟨h01, h02, _⟩ := hp
   refine W96.entry rfl (X := have a0 := sRest s (RS.mk p bad (un || nmUn s p)) []; (s.length ≤ 1000000) ∧ (p ≤ s.length + 1) ∧ cond (!(nmFollow s p)) (K (.val (.str [])) (some (.blk 46 [(.str s), (.nat p), (.bool true), (.bool (un || nmUn s p)), (.bool ps)]))) ((s.length ≤ 1000000) ∧ (p ≤ s.length + 1) ∧ K (.val (.str (a0.1))) (some (.blk 46 [(.str s), (.nat (a0.2.p)), (.bool (a0.2.bad)), (.bool (a0.2.un)), (.bool ps)])))) (by kernel_rfl) ?_
   refine kfz0 (kfz0 ?_)
   refine cndI ?_ ?_ <;> intro h1 <;> simp -failIfUnchanged [-List.getD_eq_getElem?_getD] at h1
   · exact kst hk (by unfold sName; rw [if_neg (by simp [h1])]; rfl)
   refine kfz0 (kfz0 ?_)
   exact kst hk (by unfold sName; rw [if_pos (by simpa using h1)]; rfl)
 cases e
def c109 (svs : List SV) (b : Option SB) : FR := match svs, b with
 | [.ptr 0 0], some (.blk 46 [.str s, .nat p, .bool bad, .bool un, .bool ps]) => some ([s.length ≤ 1000000, p ≤ s.length + 1], .val (.str (sHash s ⟨p, bad, un⟩).1),
  some (.blk 46 [.str s, .nat (sHash s ⟨p, bad, un⟩).2.p, .bool (sHash s ⟨p, bad, un⟩).2.bad, .bool (sHash s ⟨p, bad, un⟩).2.un, .bool ps]))
 | _, _ => none
noncomputable def W109 : Wk := ⟨[(66, .pure c66), (89, .pure c89), (95, .fn c95), (108, .fn c108)], bodyOf Tryz.f109, true, false, [.tmp 2], [9], [], []⟩
theorem has109 : Has 109 := Has.of (fn := Tryz.f109) (by kernel_rfl) (by kernel_rfl) (by kernel_rfl)
theorem kfz1 {c0 p0 p1 q : Prop} (k : q) (h : c0 → p0 ∧ p1 ∧ True := by intro g0; (try simp at g0); exact ⟨(by first | omega | (simp; done) | (simp; omega) | (simp; assumption)), (by first | omega | (simp; done) | (simp; omega) | (simp; assumption)), trivial⟩) : (c0 → p0 ∧ p1 ∧ True) ∧ q := ⟨h, k⟩
theorem sat109 : Sat 109 (fnS c109) := by
 have hD : CxOk W109.D := (CxOk.cons has66 sat66 (CxOk.cons has89 sat89 (CxOk.cons has95 sat95 (CxOk.cons has108 sat108 CxOk.nil))))
 refine W109.sat hD (fn := Tryz.f109) (by kernel_rfl) (by kernel_rfl) (by kernel_rfl) (by decide) fun svs b K hP => ?_
 obtain ⟨ps, o, b', e, hp, hk⟩ := fnS_inv hP
 unfold c109 at e
 split at e
 · rename_i s p bad un ps
   cases e
   obtain ⟨h01, h02, _⟩ := hp
   refine W109.entry rfl (X := have a0 := sRest s (RS.mk p (bad || (!(nmChar (bat s p)))) ((un || nmUn s p) || (nmChar (bat s p)))) []; have a1 := sRest s (RS.mk p bad (un || nmUn s p)) []; have a2 := s.length ≤ 1000000; have a3 := p ≤ s.length + 1; a2 ∧ a3 ∧ cond (!(nmFollow s p)) (((un || nmUn s p) = false → a2 ∧ a3 ∧ True) ∧ (bad = false → a2 ∧ a3 ∧ True) ∧ cond (bad || (!(nmChar (bat s p)))) (K (.val (.str [])) (some (.blk 46 [(.str s), (.nat p), (.bool (bad || (!(nmChar (bat s p))))), (.bool ((un || nmUn s p) || (nmChar (bat s p)))), (.bool ps)]))) (a2 ∧ a3 ∧ K (.val (.str (a0.1))) (some (.blk 46 [(.str s), (.nat (a0.2.p)), (.bool (a0.2.bad)), (.bool (a0.2.un)), (.bool ps)])))) (cond bad (K (.val (.str [])) (some (.blk 46 [(.str s), (.nat p), (.bool bad), (.bool (un || nmUn s p)), (.bool ps)]))) (a2 ∧ a3 ∧ K (.val (.str (a1.1))) (some (.blk 46 [(.str s), (.nat (a1.2.p)), (.bool (a1.2.bad)), (.bool (a1.2.un)), (.bool ps)]))))) (by kernel_rfl) ?_
   refine kfz0 (kfz0 ?_)
   refine cndI ?_ ?_ <;> intro h1 <;> simp -failIfUnchanged [-List.getD_eq_getElem?_getD] at h1
   · refine kfz1 ?_
     refine kfz1 ?_
     refine cndI ?_ ?_ <;> intro h2 <;> simp -failIfUnchanged [-List.getD_eq_getElem?_getD] at h2
     · refine kst hk ?_
       unfold sHash
       simp_all [RS.unI, RS.no, Bool.or_assoc]
     refine kfz0 (kfz0 ?_)
     refine kst hk ?_
     unfold sHash
     simp_all [RS.unI, RS.no, Bool.or_assoc]
   refine cndI (fun h2 => ?_) (fun h2 => ?_)
   · simp -failIfUnchanged [-List.getD_eq_getElem?_getD] at h2
     refine kst hk ?_
     unfold sHash
     simp_all [RS.unI, RS.no, Bool.or_assoc]
   simp -failIfUnchanged [-List.getD_eq_getElem?_getD] at h2
   refine kfz0 (kfz0 ?_)
   refine kst hk ?_
   unfold sHash
   simp_all [RS.unI, RS.no, Bool.or_assoc]
 cases e
def c139 (svs : List SV) (b : Option SB) : FR := match svs, b with
 | [.ptr 0 0], some (.blk 46 [.str s, .nat p, .bool bad, .bool un, .bool ps]) => some ([s.length ≤ 1000000, p ≤ s.length + 1, p < s.length], .val (.str (sQuoted s ⟨p, bad, un⟩).1),
  some (.blk 46 [.str s, .nat (sQuoted s ⟨p, bad, un⟩).2.p, .bool (sQuoted s ⟨p, bad, un⟩).2.bad, .bool (sQuoted s ⟨p, bad, un⟩).2.un, .bool ps]))
 | _, _ => none
noncomputable def W139 : Wk := ⟨[(43, .plain c43), (66, .pure c66), (107, .pure c107), (122, .fn c122)], bodyOf Tryz.f139, true, false, [.tmp 2], [9], [(4, 25)], []⟩
theorem has139 : Has 139 := Has.of (fn := Tryz.f139) (by kernel_rfl) (by kernel_rfl) (by kernel_rfl)
theorem kfz2 {p q : Prop} (k : q) (h : p := by first | omega | (have := sEsc_n4 s t; omega) | (simp; omega) | assumption | (intro h; simp [h]) | (simp; done)) : p ∧ q := ⟨h, k⟩
theorem sat139 : Sat 139 (fnS c139) := by
 have hD : CxOk W139.D := (CxOk.cons has43 sat43 (CxOk.cons has66 sat66 (CxOk.cons has107 sat107 (CxOk.cons has122 sat122 CxOk.nil))))
 refine W139.sat hD (fn := Tryz.f139) (by kernel_rfl) (by kernel_rfl) (by kernel_rfl) (by decide) fun svs b K hP => ?_
 obtain ⟨ps, o, b', e, hp, hk⟩ := fnS_inv hP
 unfold c139 at e
 split at e
 · rename_i s p bad un ps
   cases e
   obtain ⟨h01, h02, h03, _⟩ := hp
   have L4 : ∀ (mm : Nat) (t : RS) (acc : Bs), s.length - t.p = mm → t.p ≤ s.length + 1 ∧ acc.length ≤ t.p * 4 ∧ sStrGo s (bat s p) t acc = sQuoted s ⟨p, bad, un⟩ → W139.L K 4 (mkS 110 [(0, (.ptr 0 0)), (3, (.byt (s.getD p 0))), (4, (.str acc))] [(0, .blk 46 [(.str s), (.nat t.p), (.bool t.bad), (.bool t.un), (.bool ps)])] 1) := by
    intro mm
    induction mm using Nat.strongRecOn with
    | _ mm ih =>
     intro t acc hm hI
     obtain ⟨k1, k2, k3⟩ := hI
     refine W139.atL hD (X := have a0 := t.p + 1 ≤ 9223372036854775807; have a1 : Option SB := some (.blk 46 [(.str s), (.nat t.p), (.bool true), (.bool t.un), (.bool ps)]); have a2 := s.length ≤ 1000000; have a3 : SV := .byt (s.getD p 0); cond (decide (t.p < s.length)) (a2 ∧ (t.p ≤ s.length + 1) ∧ cond (decide (bat s t.p = bat s p)) (a0 ∧ K (.val (.str acc)) (some (.blk 46 [(.str s), (.nat (t.p + 1)), (.bool t.bad), (.bool t.un), (.bool ps)]))) (cond (((decide (bat s t.p = 10)) || (decide (bat s t.p = 13))) || (decide (bat s t.p = 12))) (K (.val (.str [])) a1) (cond (!(decide (bat s t.p = 92))) (a0 ∧ (t.p ≤ t.p + 1 ∧ t.p + 1 ≤ s.length) ∧ (acc.length + ((s.take (t.p + 1)).drop t.p).length ≤ 2305843009213693952) ∧ a0 ∧ (W139).L K 4 (mkS 110 [(0, (.ptr 0 0)), (3, a3), (4, (.str (acc ++ ((s.take (t.p + 1)).drop t.p))))] [(0, .blk 46 [(.str s), (.nat (t.p + 1)), (.bool t.bad), (.bool t.un), (.bool ps)])] 1)) (a2 ∧ (t.p ≤ s.length + 1) ∧ cond (escF s t.p) (a2 ∧ (t.p ≤ s.length + 1) ∧ (escF s t.p = true) ∧ (acc.length + ((sEsc s t).1).length ≤ 2305843009213693952) ∧ (W139).L K 4 (mkS 110 [(0, (.ptr 0 0)), (3, a3), (4, (.str (acc ++ ((sEsc s t).1))))] [(0, .blk 46 [(.str s), (.nat ((sEsc s t).2.p)), (.bool ((sEsc s t).2.bad)), (.bool ((sEsc s t).2.un)), (.bool ps)])] 1)) (a0 ∧ a2 ∧ (t.p + 1 ≤ s.length + 1) ∧ (2 ≤ 1000) ∧ cond (hereB s [13, 10] (t.p + 1)) ((W139).L K 4 (mkS 110 [(0, (.ptr 0 0)), (3, a3), (4, (.str acc))] [(0, .blk 46 [(.str s), (.nat (t.p + 3)), (.bool t.bad), (.bool t.un), (.bool ps)])] 1)) ((t.p + 2 ≤ 9223372036854775807) ∧ (W139).L K 4 (mkS 110 [(0, (.ptr 0 0)), (3, a3), (4, (.str acc))] [(0, .blk 46 [(.str s), (.nat (t.p + 2)), (.bool t.bad), (.bool t.un), (.bool ps)])] 1))))))) (K (.val (.str [])) a1)) (by kernel_rfl) ?_
     refine cndI ?_ ?_ <;> intro h1 <;> simp -failIfUnchanged [-List.getD_eq_getElem?_getD] at h1
     · refine kfz2 (kfz2 ?_)
       refine cndI ?_ ?_ <;> intro h2 <;> simp -failIfUnchanged [-List.getD_eq_getElem?_getD] at h2
       · refine kfz2 ?_
         exact kst hk (by rw [← k3]; exact sStrGo_q h1 h2)
       refine cndI (fun h3 => ?_) (fun h3 => ?_)
       · simp -failIfUnchanged [-List.getD_eq_getElem?_getD] at h3
         exact kst hk (by rw [← k3]; exact sStrGo_n h1 h2 (by simp [isNl]; omega))
       simp -failIfUnchanged [-List.getD_eq_getElem?_getD] at h3
       refine cndI ?_ ?_ <;> intro h4 <;> simp -failIfUnchanged [-List.getD_eq_getElem?_getD] at h4
       · refine kfz2 ?_
         refine kfz2 ?_
         refine kfz2 ?_
         refine kfz2 ?_
         rw [cut1 h1]
         exact ih _ (by simp only [RS.go_p]; omega) (t.go (t.p + 1)) _ rfl ⟨by simp only [RS.go_p]; omega, by simp; omega, by rw [← sStrGo_ch h1 h2 (by simp [isNl]; omega) h4]; exact k3⟩
       refine kfz2 (kfz2 ?_)
       refine cndI ?_ ?_ <;> intro h5 <;> simp -failIfUnchanged [-List.getD_eq_getElem?_getD] at h5
       · refine kfz2 (kfz2 (kfz2 ?_))
         refine kfz2 ?_
         have q1 := sEsc_p s t
         have q2 := sEsc_le h5
         have q3 := sEsc_n4 s t
         exact ih _ (by omega) (sEsc s t).2 _ rfl ⟨by omega, by simp; omega, by rw [← sStrGo_es h1 h2 h4 h5]; exact k3⟩
       refine kfz2 ?_
       refine kfz2 (kfz2 (kfz2 ?_))
       refine cndI ?_ ?_ <;> intro h6 <;> simp -failIfUnchanged [-List.getD_eq_getElem?_getD] at h6
       · have q := lf2 h6
         exact ih _ (by simp only [RS.go_p]; omega) (t.go (t.p + 1 + 2)) _ rfl ⟨by simp only [RS.go_p]; omega, by simp only [RS.go_p]; omega, by rw [← k3, sStrGo_ln h1 h2 h4 h5, if_pos ⟨q.1, q.2.1, q.2.2⟩]⟩
       refine kfz2 ?_
       have q := lf2n h6
       exact ih _ (by simp only [RS.go_p]; omega) (t.go (t.p + 1 + 1)) _ rfl ⟨by simp only [RS.go_p]; omega, by simp only [RS.go_p]; omega, by rw [← k3, sStrGo_ln h1 h2 h4 h5, if_neg (fun h => q ⟨h.1, h.2.1, h.2.2⟩)]⟩
     exact kst hk (by rw [← k3]; exact sStrGo_z (by omega))
   refine W139.entry rfl (X := (s.length ≤ 1000000) ∧ (p ≤ s.length + 1) ∧ (p + 1 ≤ 9223372036854775807) ∧ (W139).L K 4 (mkS 110 [(0, (.ptr 0 0)), (3, (.byt (s.getD p 0))), (4, (.str []))] [(0, .blk 46 [(.str s), (.nat (p + 1)), (.bool bad), (.bool un), (.bool ps)])] 1)) (by kernel_rfl) ?_
   refine kfz2 (kfz2 ?_)
   refine kfz2 ?_
   exact L4 _ (RS.go ⟨p, bad, un⟩ (p + 1)) [] rfl ⟨by simp only [RS.go_p]; omega, by simp, rfl⟩
 cases e
def c123 (svs : List SV) (b : Option SB) : FR := match svs, b with
 | [.ptr 0 0], some (.blk 46 [.str s, .nat p, .bool bad, .bool un, .bool ps]) => some ([s.length ≤ 1000000, p ≤ s.length + 1], .val (.str (sValue s ⟨p, bad, un⟩).1),
  some (.blk 46 [.str s, .nat (sValue s ⟨p, bad, un⟩).2.p, .bool (sValue s ⟨p, bad, un⟩).2.bad, .bool (sValue s ⟨p, bad, un⟩).2.un, .bool ps]))
 | _, _ => none
noncomputable def W123 : Wk := ⟨[(66, .pure c66), (89, .pure c89), (95, .fn c95), (96, .fn c96), (139, .fn c139)], bodyOf Tryz.f123, true, false, [.tmp 2], [9], [], []⟩
theorem has123 : Has 123 := Has.of (fn := Tryz.f123) (by kernel_rfl) (by kernel_rfl) (by kernel_rfl)
theorem kfz3 {p q : Prop} (k : q) (h : p := by first | omega | (simp; done) | (simp; omega) | assumption | (rcases h1 with h1 | h1 <;> exact bat_lt h1 (by decide))) : p ∧ q := ⟨h, k⟩
theorem sat123 : Sat 123 (fnS c123) := by
 have hD : CxOk W123.D := (CxOk.cons has66 sat66 (CxOk.cons has89 sat89 (CxOk.cons has95 sat95 (CxOk.cons has96 sat96 (CxOk.cons has139 sat139 CxOk.nil)))))
 refine W123.sat hD (fn := Tryz.f123) (by kernel_rfl) (by kernel_rfl) (by kernel_rfl) (by decide) fun svs b K hP => ?_
 obtain ⟨ps, o, b', e, hp, hk⟩ := fnS_inv hP
 unfold c123 at e
 split at e
 · rename_i s p bad un ps
   cases e
   obtain ⟨h01, h02, _⟩ := hp
   refine W123.entry rfl (X := have a0 := sName s (RS.mk p bad (un || nmUn s p)); have a1 := s.length ≤ 1000000; have a2 := sQuoted s (RS.mk p bad un); have a3 := sName s (RS.mk p bad true); have a4 := p ≤ s.length + 1; a1 ∧ a4 ∧ cond ((decide (bat s p = 34)) || (decide (bat s p = 39))) (a1 ∧ a4 ∧ (p < s.length) ∧ K (.val (.str (a2.1))) (some (.blk 46 [(.str s), (.nat (a2.2.p)), (.bool (a2.2.bad)), (.bool (a2.2.un)), (.bool ps)]))) (a1 ∧ a4 ∧ cond ((!(nmFollow s p)) && ((nmChar (bat s p)) || (decide (128 ≤ bat s p)))) (a1 ∧ a4 ∧ K (.val (.str (a3.1))) (some (.blk 46 [(.str s), (.nat (a3.2.p)), (.bool (a3.2.bad)), (.bool (a3.2.un)), (.bool ps)]))) (a1 ∧ a4 ∧ K (.val (.str (a0.1))) (some (.blk 46 [(.str s), (.nat (a0.2.p)), (.bool (a0.2.bad)), (.bool (a0.2.un)), (.bool ps)]))))) (by kernel_rfl) ?_
   refine kfz3 (kfz3 ?_)
   refine cndI ?_ ?_ <;> intro h1 <;> simp -failIfUnchanged [-List.getD_eq_getElem?_getD] at h1
   · refine kfz3 (kfz3 (kfz3 ?_))
     exact kst hk (by unfold sValue; rw [if_pos (by simp [isQ]; omega)])
   refine kfz3 (kfz3 ?_)
   refine cndI ?_ ?_ <;> intro h2 <;> simp -failIfUnchanged [-List.getD_eq_getElem?_getD] at h2
   · refine kfz3 (kfz3 ?_)
     have e : (nmChar (bat s p) || decide (128 ≤ bat s p)) = true := by simpa using h2.2
     exact kst hk (by unfold sValue; rw [if_neg (by simp [isQ]; omega)]; simp [RS.unI, h2.1, e])
   refine kfz3 (kfz3 ?_)
   have e : (!nmFollow s p && (nmChar (bat s p) || decide (128 ≤ bat s p))) = false := by simpa using h2
   exact kst hk (by unfold sValue; rw [if_neg (by simp [isQ]; omega)]; simp [RS.unI, e])
 cases e
end
section
open Go Go.RowKit
set_option maxRecDepth 20000
theorem low_at (l : Bs) (i : Nat) (h : i < l.length) : (low (l.take i) ++ l.drop i).getD i 0 = l.getD i 0 := by
 have e : (low (l.take i)).length = i := by simp [low]; omega
 rw [List.getD_eq_getElem?_getD, List.getElem?_append_right (by omega), e, Nat.sub_self, List.getElem?_drop, Nat.add_zero, List.getD_eq_getElem?_getD]
theorem low_set (l : Bs) (i : Nat) (h : i < l.length) : (low (l.take i) ++ l.drop i).set i (lowB (l.getD i 0)) = low (l.take (i + 1)) ++ l.drop (i + 1) := by
 have e : (low (l.take i)).length = i := by simp [low]; omega
 rw [List.set_append_right _ _ (by omega), e, Nat.sub_self, List.take_add_one, List.drop_eq_getElem_cons h, List.set_cons_zero, List.getElem?_eq_getElem h]
 simp only [low, List.map_append, List.getD_eq_getElem?_getD, List.getElem?_eq_getElem h, Option.getD_some, Option.toList_some, List.map_cons, List.map_nil, List.append_assoc, List.singleton_append]
theorem low_same (l : Bs) (i : Nat) (h : i < l.length) (hc : lowB (l.getD i 0) = l.getD i 0) : low (l.take i) ++ l.drop i = low (l.take (i + 1)) ++ l.drop (i + 1) := by
 have e : (low (l.take i)).length = i := by simp [low]; omega
 rw [List.take_add_one, List.drop_eq_getElem_cons h, List.getElem?_eq_getElem h]
 simp only [List.getD_eq_getElem?_getD, List.getElem?_eq_getElem h, Option.getD_some] at hc
 simp only [low, List.map_append, Option.toList_some, List.map_cons, List.map_nil, List.append_assoc, List.singleton_append, hc]
theorem bat_low (l : Bs) (i : Nat) (h : i < l.length) : bat (low (l.take i) ++ l.drop i) i = bat l i := by unfold bat; rw [low_at l i h]
def c77 (svs : List SV) (b : Option SB) : QR := match svs, b with
 | [.str l], none => some ([l.length ≤ 1000000000], .str (low l))
 | _, _ => none
noncomputable def W77 : Wk := ⟨[], bodyOf Tryz.f77, false, false, [.tmp 2], [9], [(3, 24)], []⟩
theorem has77 : Has 77 := Has.of (fn := Tryz.f77) (by kernel_rfl) (by kernel_rfl) (by kernel_rfl)
theorem kgz1 {c0 p0 q : Prop} (k : q) (h : c0 → p0 ∧ True := by intro g0; (try simp at g0); exact ⟨(by first | omega | (simp; done) | (simp; omega) | (simp; assumption)), trivial⟩) : (c0 → p0 ∧ True) ∧ q := ⟨h, k⟩
theorem kgz0 {p q : Prop} (k : q) (h : p := by first | omega | (simp; done) | (simp; omega) | (simp; assumption)) : p ∧ q := ⟨h, k⟩
theorem sat77 : Sat 77 (pureS c77) := by
 have hD : CxOk W77.D := CxOk.nil
 refine W77.sat hD (fn := Tryz.f77) (by kernel_rfl) (by kernel_rfl) (by kernel_rfl) (Nat.le_of_ble_eq_true (by kernel_rfl)) fun svs b K hP => ?_
 obtain ⟨ps, v, e, hp, hk⟩ := pureS_inv hP
 unfold c77 at e
 split at e
 · rename_i l
   cases e
   obtain ⟨h01, _⟩ := hp
   have L3 : ∀ (mm : Nat) (i : Nat), l.length - i = mm → (i ≤ l.length) → W77.L K 3 (mkS 33 [(3, (.own 1)), (4, (.nat i))] [(1, .row (.bytes (low (l.take i) ++ l.drop i)) false)] 2) := by
    intro mm
    induction mm using Nat.strongRecOn with
    | _ mm ih =>
     intro i hm hI
     have q : (low (l.take i) ++ l.drop i).length = l.length := by simp [low]; omega
     refine W77.atL hD (X := have a0 := low (l.take i) ++ l.drop i; have a1 := (decide (65 ≤ bat a0 i)) = true → (i < a0.length) ∧ True; cond (decide (i < a0.length)) ((i < a0.length) ∧ (i < a0.length) ∧ a1 ∧ a1 ∧ cond ((decide (65 ≤ bat a0 i)) && (decide (bat a0 i ≤ 90))) ((i < a0.length) ∧ (i < a0.length) ∧ (i < a0.length) ∧ (i < a0.length) ∧ (i + 1 ≤ 9223372036854775807) ∧ (W77).L K 3 (mkS 33 [(3, (.own 1)), (4, (.nat (i + 1)))] [(1, .row (.bytes (a0.set i (a0.getD i 0 + 32))) false)] 2)) ((i + 1 ≤ 9223372036854775807) ∧ (W77).L K 3 (mkS 33 [(3, (.own 1)), (4, (.nat (i + 1)))] [(1, .row (.bytes a0) false)] 2))) (K (.val (.str a0)) none)) (by kernel_rfl) ?_
     refine cndI ?_ ?_ <;> intro h1 <;> simp -failIfUnchanged [-List.getD_eq_getElem?_getD] at h1
     · refine kgz0 ?_
       refine kgz0 ?_
       refine kgz1 ?_
       refine kgz1 ?_
       refine cndI ?_ ?_ <;> intro h2 <;> simp -failIfUnchanged [-List.getD_eq_getElem?_getD] at h2
       · refine kgz0 ?_
         refine kgz0 ?_
         refine kgz0 ?_
         refine kgz0 ?_
         refine kgz0 ?_
         have h0 : i < l.length := by simp [low] at h1; omega
         rw [bat_low l i h0] at h2
         have e : ((low (l.take i) ++ l.drop i).set i ((low (l.take i) ++ l.drop i).getD i 0 + 32)) = low (l.take (i + 1)) ++ l.drop (i + 1) := by
          rw [← low_set l i h0, low_at l i h0]; unfold lowB; rw [if_pos (show 65 ≤ (l.getD i 0).toNat ∧ (l.getD i 0).toNat ≤ 90 from h2)]
         rw [e]
         exact ih _ (by omega) (i + 1) rfl (by omega)
       refine kgz0 ?_
       have h0 : i < l.length := by simp [low] at h1; omega
       rw [bat_low l i h0] at h2
       rw [low_same l i h0 (by unfold lowB; rw [if_neg (fun h => by have := h2 h.1; have h3 : bat l i ≤ 90 := h.2; omega)])]
       exact ih _ (by omega) (i + 1) rfl (by omega)
     have h0 : i = l.length := by simp [low] at h1; omega
     rw [h0, List.take_length, List.drop_length, List.append_nil]
     exact hk
   refine W77.entry rfl (X := (l.length ≤ 1099511627776) ∧ (W77).L K 3 (mkS 33 [(3, (.own 1)), (4, (.nat 0))] [(1, .row (.bytes l) false)] 2)) (by kernel_rfl) ?_
   refine kgz0 ?_
   exact L3 _ 0 rfl (by omega)
 cases e
theorem sum_take (l : List (List SelD)) (i : Nat) : (l.take i).flatten.length ≤ l.flatten.length := by
 conv => rhs; rw [← List.take_append_drop i l, List.flatten_append, List.length_append]
 omega
theorem flat_take (l : List (List SelD)) (i : Nat) (h : i < l.length) : (l.take (i + 1)).flatten = (l.take i).flatten ++ l.getD i [] := by
 rw [List.take_add_one, List.flatten_append, List.getElem?_eq_getElem h]
 simp [List.getD_eq_getElem?_getD, List.getElem?_eq_getElem h]
def c29i (svs : List SV) (b : Option SB) : FR := match svs, b with
 | [.agg [.int .i64 k, .int .i64 o, .str ke, .str va, .int .i64 a, .int .i64 bb, .int .i64 fl, .int .i64 sz], .sl (.selss l)], none => some ([l.length ≤ 1000000000, l.flatten.length ≤ 1000000000000], .row (.sels (selMade ⟨k, o, ke, va, a, bb, fl, sz⟩ l.flatten)), none)
 | _, _ => none
noncomputable def W29 : Wk := ⟨[], bodyOf Tryz.f29, false, true, [.tmp 4], [22], [(3, 98)], []⟩
theorem has29 : Has 29 := Has.of (fn := Tryz.f29) (by kernel_rfl) (by kernel_rfl) (by kernel_rfl)
theorem kgz2 {p q : Prop} (k : q) (h : p := by first | omega | (simp only [List.length_append]; have := q3 h1; omega)) : p ∧ q := ⟨h, k⟩
theorem sat29i : Sat 29 (fnS c29i) := by
 have hD : CxOk W29.D := CxOk.nil
 refine W29.sat hD (fn := Tryz.f29) (by kernel_rfl) (by kernel_rfl) (by kernel_rfl) (Nat.le_of_ble_eq_true (by kernel_rfl)) fun svs b K hP => ?_
 obtain ⟨ps, o, b', e, hp, hk⟩ := fnS_inv hP
 unfold c29i at e
 split at e
 · rename_i k o ke va a bb fl sz l
   cases e
   obtain ⟨h01, h02, _⟩ := hp
   have L3 : ∀ (mm : Nat) (i : Nat) (r : List SelD), l.length - i = mm → (i ≤ l.length ∧ r = ⟨k, o, ke, va, a, bb, fl, sz⟩ :: (l.take i).flatten) → W29.L K 3 (mkS 27 [(1, (.sl (.selss l))), (5, (.own 1)), (6, (.nat i))] [(1, .row (.sels r) true)] 2) := by
    intro mm
    induction mm using Nat.strongRecOn with
    | _ mm ih =>
     intro i r hm hI
     obtain ⟨k1, k2⟩ := hI
     have q1 := sum_take l i
     have q2 := sum_take l (i + 1)
     have q3 := fun h => congrArg List.length (flat_take l i h)
     have q4 : r.length = (l.take i).flatten.length + 1 := by rw [k2]; simp
     simp only [List.length_append] at q3
     refine W29.atL hD (X := cond (decide (i < l.length)) ((i < l.length) ∧ (r.length + (l.getD i []).length ≤ 1099511627776) ∧ (i + 1 ≤ 9223372036854775807) ∧ (W29).L K 3 (mkS 27 [(1, (.sl (.selss l))), (5, (.own 2)), (6, (.nat (i + 1)))] [(2, .row (.sels (r ++ (l.getD i []))) true)] 3)) ((0 < r.length) ∧ (0 < r.length) ∧ K (.row (.sels (r.set 0 { r.getD 0 default with size := ((r.length : Nat) : Int) }))) none)) (by kernel_rfl) ?_
     refine cndI ?_ ?_ <;> intro h1 <;> simp -failIfUnchanged [-List.getD_eq_getElem?_getD] at h1
     · refine kgz2 ?_
       refine kgz2 ?_
       refine kgz2 ?_
       exact Wk.L.ren [0, 2] (by kernel_rfl) (by kernel_rfl) (by kernel_rfl) (ih _ (by omega) (i + 1) (r ++ l.getD i []) rfl ⟨by omega, by rw [k2, flat_take l i h1]; simp⟩)
     refine kgz2 ?_
     refine kgz2 ?_
     refine keq hk ?_ rfl
     rw [k2, show i = l.length from by omega, List.take_length]
     simp [selMade, sizedD]
   refine W29.entry rfl (X := (W29).L K 3 (mkS 27 [(1, (.sl (.selss l))), (5, (.own 2)), (6, (.nat 0))] [(2, .row (.sels [SelD.mk k o ke va a bb fl sz]) true), (1, .blk 33 [(.int .i64 k), (.int .i64 o), (.str ke), (.str va), (.int .i64 a), (.int .i64 bb), (.int .i64 fl), (.int .i64 sz)])] 3)) (by kernel_rfl) ?_
   exact Wk.L.ren [0, 2] (by kernel_rfl) (by kernel_rfl) (by kernel_rfl) (L3 _ 0 [⟨k, o, ke, va, a, bb, fl, sz⟩] rfl ⟨by omega, by simp⟩)
 cases e
def c29 (svs : List SV) (b : Option SB) : FR := match svs, b with
 | [x, k], none => match toSel x, toSelss k with
  | some x, some l => some ([l.length ≤ 1000000000, l.flatten.length ≤ 1000000000000], .row (.sels (selMade x l.flatten)), none)
  | _, _ => none
 | _, _ => none
theorem sat29 : Sat 29 (fnS c29) := by
 refine Sat.wk sat29i fun svs b K h => ?_
 obtain ⟨ps, o, b', e, hp, hk⟩ := fnS_inv h
 unfold c29 at e
 split at e
 · rename_i x k
   split at e
   · rename_i x' l hx hl
     cases e
     refine ⟨[.agg (selCells x'), .sl (.selss l)], ⟨fun ω v => toSel_rel hx, fun ω v => toSelss_rel hl ω v, trivial⟩, ?_⟩
     exact ⟨hp.1, hp.2.1, hk⟩
   cases e
 cases e
def beneathD (l : List SelD) (i : Nat) : List SelD := if l.length ≤ i then [] else (l.take ((i : Int) + (l.getD i default).size).toNat).drop i
def kidsGo (l : List SelD) (fin : Int) (k : Nat) : List Nat :=
 if (k : Int) < fin ∧ k < l.length then k :: kidsGo l fin (k + (max 1 (l.getD k default).size).toNat) else []
 termination_by l.length - k
 decreasing_by have : 1 ≤ (max 1 (l.getD k default).size).toNat := by omega
               omega
theorem kidsGo_len (l : List SelD) (fin : Int) (k : Nat) : (kidsGo l fin k).length ≤ l.length - k := by
 fun_induction kidsGo l fin k with
 | case1 k h ih => simp only [List.length_cons]; omega
 | case2 => simp
def kidsD (l : List SelD) (i : Nat) : List Nat := kidsGo l ((i : Int) + (l.getD i default).size) (i + 1)
def c24 (svs : List SV) (b : Option SB) : QR := match svs, b with
 | [.sl (.sels l), .nat i], none => some ([i ≤ 1000000000000 ∧ l.length ≤ 1000000000000, i < l.length → 0 ≤ (l.getD i default).size ∧ (i : Int) + (l.getD i default).size ≤ l.length], .sl (.sels (beneathD l i)))
 | _, _ => none
noncomputable def W24 : Wk := ⟨[], bodyOf Tryz.f24, false, false, [.tmp 4], [22], [], []⟩
theorem has24 : Has 24 := Has.of (fn := Tryz.f24) (by kernel_rfl) (by kernel_rfl) (by kernel_rfl)
theorem kgz3 {p q : Prop} (k : q) (h : p := by first | omega | (have := h02 (by omega); unfold inI; omega) | (have := h02 (by omega); omega)) : p ∧ q := ⟨h, k⟩
theorem sat24 : Sat 24 (pureS c24) := by
 have hD : CxOk W24.D := CxOk.nil
 refine W24.sat hD (fn := Tryz.f24) (by kernel_rfl) (by kernel_rfl) (by kernel_rfl) (Nat.le_of_ble_eq_true (by kernel_rfl)) fun svs b K hP => ?_
 obtain ⟨ps, v, e, hp, hk⟩ := pureS_inv hP
 unfold c24 at e
 split at e
 · rename_i l i
   cases e
   obtain ⟨h01, h02, _⟩ := hp
   refine W24.entry rfl (X := have a0 := ((i : Nat) : Int) + (l.getD i default).size; cond (decide (l.length ≤ i)) (K (.val (.sl (.sels []))) none) ((i < l.length) ∧ (inI a0) ∧ (0 ≤ a0) ∧ (i ≤ (a0).toNat ∧ (a0).toNat ≤ l.length) ∧ K (.val (.sl (.sels ((l.take ((a0).toNat)).drop i)))) none)) (by kernel_rfl) ?_
   refine cndI ?_ ?_ <;> intro h1 <;> simp -failIfUnchanged [-List.getD_eq_getElem?_getD] at h1
   · unfold beneathD at hk
     rw [if_pos h1] at hk
     exact hk
   refine kgz3 ?_
   refine kgz3 ?_
   refine kgz3 (kgz3 ?_)
   unfold beneathD at hk
   rw [if_neg (by omega)] at hk
   exact hk
 cases e
def c17 (svs : List SV) (b : Option SB) : FR := match svs, b with
 | [.sl (.sels l), .nat i], none => some ([i < l.length ∧ l.length ≤ 1000000000000, 0 ≤ (l.getD i default).size ∧ (i : Int) + (l.getD i default).size ≤ l.length, ∀ k, k ∈ kidsD l i → (l.getD k default).size ≤ 1000000000000], .row (.ints (kidsD l i)), none)
 | _, _ => none
noncomputable def W17 : Wk := ⟨[], bodyOf Tryz.f17, false, true, [.tmp 4], [34], [(3, 99)], []⟩
theorem has17 : Has 17 := Has.of (fn := Tryz.f17) (by kernel_rfl) (by kernel_rfl) (by kernel_rfl)
theorem kgz4 {p q : Prop} (k : q) (h : p := by first | omega | (unfold inI; omega) | (have := h03 k (by rw [k1, kidsGo, if_pos ⟨h1, by omega⟩]; simp); unfold inI; omega) | (simp only [List.length_singleton]; omega)) : p ∧ q := ⟨h, k⟩
theorem sat17 : Sat 17 (fnS c17) := by
 have hD : CxOk W17.D := CxOk.nil
 refine W17.sat hD (fn := Tryz.f17) (by kernel_rfl) (by kernel_rfl) (by kernel_rfl) (Nat.le_of_ble_eq_true (by kernel_rfl)) fun svs b K hP => ?_
 obtain ⟨ps, o, b', e, hp, hk⟩ := fnS_inv hP
 unfold c17 at e
 split at e
 · rename_i l i
   cases e
   obtain ⟨h01, h02, h03, _⟩ := hp
   have L3 : ∀ (mm : Nat) (k : Nat) (r : List Nat), l.length - k = mm → (kidsD l i = r ++ kidsGo l ((i : Int) + (l.getD i default).size) k ∧ r.length ≤ k) → W17.L K 3 (mkS 31 [(0, (.sl (.sels l))), (1, (.nat i)), (5, (.own 1)), (6, (.nat k))] [(1, .row (.ints r) true)] 2) := by
    intro mm
    induction mm using Nat.strongRecOn with
    | _ mm ih =>
     intro k r hm hI
     obtain ⟨k1, k2⟩ := hI
     refine W17.atL hD (X := have a0 := ((k : Nat) : Int) + (max (1 : Int) ((l.getD k default).size)); (i < l.length) ∧ (inI (((i : Nat) : Int) + (l.getD i default).size)) ∧ cond (decide (((k : Nat) : Int) < (((i : Nat) : Int) + (l.getD i default).size))) ((r.length + 1 ≤ 1099511627776) ∧ (k < l.length) ∧ (inI a0) ∧ (W17).L K 3 (mkS 31 [(0, (.sl (.sels l))), (1, (.nat i)), (5, (.own 3)), (6, (.int .i64 a0))] [(3, .row (.ints (r ++ [k])) true)] 4)) (K (.row (.ints r)) none)) (by kernel_rfl) ?_
     refine kgz4 ?_
     refine kgz4 ?_
     refine cndI ?_ ?_ <;> intro h1 <;> simp -failIfUnchanged [-List.getD_eq_getElem?_getD] at h1
     · refine kgz4 ?_
       refine kgz4 ?_
       refine kgz4 ?_
       have e0 : ((k : Int) + max 1 (l.getD k default).size) = ((k + (max 1 (l.getD k default).size).toNat : Nat) : Int) := by omega
       rw [e0]
       exact Wk.L.ren [0, 3] (by kernel_rfl) (by kernel_rfl) (by kernel_rfl) (ih _ (by omega) (k + (max 1 (l.getD k default).size).toNat) (r ++ [k]) rfl ⟨by
        rw [k1]
        conv => lhs; rw [kidsGo]
        rw [if_pos ⟨h1, by omega⟩]
        simp, by simp only [List.length_append, List.length_singleton]; omega⟩)
     rw [kidsGo, if_neg (by omega), List.append_nil] at k1
     rw [k1] at hk
     exact hk
   refine W17.entry rfl (X := (i + 1 ≤ 9223372036854775807) ∧ (W17).L K 3 (mkS 31 [(0, (.sl (.sels l))), (1, (.nat i)), (5, .nilsl), (6, (.nat (i + 1)))] [] 1)) (by kernel_rfl) ?_
   refine kgz4 ?_
   exact Wk.L.le (SSle.adopt 5 (T := 34) (x := .ints []) (by kernel_rfl) (by kernel_rfl)) (Wk.L.ren [0, 1] (by kernel_rfl) (by kernel_rfl) (by kernel_rfl) (L3 _ (i + 1) [] rfl ⟨rfl, by simp⟩))
 cases e
end
end Go.Proofs.YtengepcafdnalaaGreatDoor
