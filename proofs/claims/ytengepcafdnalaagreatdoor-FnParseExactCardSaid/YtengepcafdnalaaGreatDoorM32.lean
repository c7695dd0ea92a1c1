/-
  Parts of the proof that the law FnParseExact holds for every input (texts Kn). Conditions: none.
-/
import Derived.Test.YtengepcafdnalaaGreatDoorM31
namespace Go.Proofs.YtengepcafdnalaaGreatDoor
section
open Go Go.RowKit
set_option maxRecDepth 20000
theorem kindS_le (n : Bs) : kindS n ≤ 20 := by
 unfold kindS
 repeat' split
 all_goals decide
def c112 (m : Nat) (svs : List SV) (b : Option SB) : FR := match svs, b with
 | [.ptr 0 0], some (.blk 46 [.str s, .nat p, .bool bad, .bool un, .bool ps]) => some ([s.length ≤ 100000, p ≤ s.length + 1, s.length ≤ m + p, m ≤ 200000], .row (.sels (sPseudo (sGrp s ps (m + 1)) s ⟨p, bad, un⟩).1), some (.blk 46 [.str s, .nat (sPseudo (sGrp s ps (m + 1)) s ⟨p, bad, un⟩).2.p, .bool (sPseudo (sGrp s ps (m + 1)) s ⟨p, bad, un⟩).2.bad, .bool (sPseudo (sGrp s ps (m + 1)) s ⟨p, bad, un⟩).2.un, .bool ps]))
 | _, _ => none
noncomputable def W112 (m : Nat) : Wk := ⟨[(29, .fn c29), (43, .plain c43), (66, .pure c66), (68, .fn c68), (77, .pure c77), (96, .fn c96), (124, .plain c124), (125, .pure c125), (126, .pure c126), (127, .fn (c127 m))], bodyOf Tryz.f112, true, true, [.tmp 2], [22], [(28, 193)], [28]⟩
theorem has112 : Has 112 := Has.of (fn := Tryz.f112) (by kernel_rfl) (by kernel_rfl) (by kernel_rfl)
theorem knz0 {p q : Prop} (k : q) (h : p := by first | omega | (simp; done) | (have := u1.2; omega) | exact u1.2 | (have := bat_lt (h40t h2) (by decide); omega)) : p ∧ q := ⟨h, k⟩
theorem sat112 (m : Nat) (hG : Sat 23 (fnS (c23 m))) : Sat 112 (fnS (c112 m)) := by
 have hD : CxOk (W112 m).D := (CxOk.cons has29 sat29 (CxOk.cons has43 sat43 (CxOk.cons has66 sat66 (CxOk.cons has68 sat68 (CxOk.cons has77 sat77 (CxOk.cons has96 sat96 (CxOk.cons has124 sat124 (CxOk.cons has125 sat125 (CxOk.cons has126 sat126 (CxOk.cons has127 (sat127 m hG) CxOk.nil))))))))))
 refine (W112 m).sat hD (fn := Tryz.f112) (by kernel_rfl) (by kernel_rfl) (by kernel_rfl) (Nat.le_of_ble_eq_true (by kernel_rfl)) fun svs b K hP => ?_
 obtain ⟨ps, o, b', e, hp, hk⟩ := fnS_inv hP
 unfold c112 at e
 split at e
 · rename_i s p bad un ps
   cases e
   obtain ⟨h01, h02, h03, h04, _⟩ := hp
   have u1 := sName_up s ⟨p, bad, un⟩ h02
   have n1 := sName_n s ⟨p, bad, un⟩ h02
   have L28 : ∀ (mm : Nat) (kk fl : Int) (t : RS), 0 = mm → (Up s ⟨p, bad, un⟩ t ∧ kk ≤ 20 ∧ sPseudo (sGrp s ps (m + 1)) s ⟨p, bad, un⟩ = if (fl < 0 ∧ kk = 0) ∨ bat s t.p ≠ 40 then (failL, t.no) else sArg (sGrp s ps (m + 1)) s kk fl (t.go (t.p + 1))) → (W112 m).C K 28 (mkS 72 [(0, (.ptr 0 0)), (6, (.int .i64 fl)), (7, (.int .i64 kk))] [(0, .blk 46 [(.str s), (.nat t.p), (.bool t.bad), (.bool t.un), (.bool ps)])] 1) := by
    intro mm
    induction mm using Nat.strongRecOn with
    | _ mm ih =>
     intro kk fl t hm hI
     obtain ⟨k1, k2, k3⟩ := hI
     have k4 : p ≤ t.p := k1.1
     have k5 : t.p ≤ s.length + 1 := k1.2
     refine (W112 m).atC hD (X := have a0 := sArg (sGrp s ps (m + 1)) s kk fl (RS.mk (t.p + 1) t.bad t.un); have a1 : Option SB := some (.blk 46 [(.str s), (.nat t.p), (.bool true), (.bool t.un), (.bool ps)]); have a2 := (decide (fl < (0 : Int))) && (decide (kk = (0 : Int))); (a2 = false → (s.length ≤ 1000000) ∧ (t.p ≤ s.length + 1) ∧ (1 ≤ 1000) ∧ cond (hereB s [40] t.p) ((s.length ≤ 100000) ∧ (t.p + 1 ≤ s.length) ∧ (s.length + 1 ≤ m + t.p + 1) ∧ (m ≤ 200000) ∧ (kk ≤ 20) ∧ K (.row (.sels (a0.1))) (some (.blk 46 [(.str s), (.nat (a0.2.p)), (.bool (a0.2.bad)), (.bool (a0.2.un)), (.bool ps)]))) (K (.row (.sels failL)) a1)) ∧ (a2 = true → K (.row (.sels failL)) a1)) (by kernel_rfl) ?_
     refine ⟨fun h1 => ?_, fun h1 => ?_⟩
     · simp -failIfUnchanged [-List.getD_eq_getElem?_getD] at h1
       refine knz0 (knz0 (knz0 ?_))
       refine cndI ?_ ?_ <;> intro h2 <;> simp -failIfUnchanged [-List.getD_eq_getElem?_getD] at h2
       · refine knz0 (knz0 (knz0 (knz0 (knz0 ?_))))
         exact krow hk ((k3.trans (if_neg (fun h => h.elim (fun a => h1 a.1 a.2) (fun a => a (h40t h2))))).trans rfl)
       exact krow hk ((k3.trans (if_pos (.inr (h40f h2)))).trans rfl)
     simp -failIfUnchanged [-List.getD_eq_getElem?_getD] at h1
     exact krow hk ((k3.trans (if_pos (.inl h1))).trans rfl)
   refine (W112 m).entry rfl (X := have a0 := sName s (RS.mk p bad un); have a1 : SV := .int .i64 (nthFlagS (low (a0.1))); have a2 : SV := .nat (a0.2.p); have a3 : SV := .bool (a0.2.un); have a4 : SV := .bool (a0.2.bad); have a5 : Option SB := some (.blk 46 [(.str s), a2, (.bool true), (.bool true), (.bool ps)]); (s.length ≤ 1000000) ∧ (p ≤ s.length + 1) ∧ ((a0.1).length ≤ 1000000000) ∧ cond a0.2.bad (K (.row (.sels failL)) (some (.blk 46 [(.str s), a2, (.bool true), a3, (.bool ps)]))) (optK (sPlain (low (a0.1))) (fun x1 => (s.length ≤ 1000000) ∧ (a0.2.p ≤ s.length + 1) ∧ cond (decide (bat s (a0.2.p) = 40)) (K (.row (.sels failL)) a5) ((([] : List (List SelD)).length ≤ 1000000000) ∧ (([] : List (List SelD)).flatten.length ≤ 1000000000000) ∧ K (.row (.sels (selMade (SelD.mk x1.kind x1.op x1.key x1.val x1.a x1.b x1.flag x1.size) ([] : List (List SelD)).flatten))) (some (.blk 46 [(.str s), a2, a4, a3, (.bool ps)])))) (cond (decide ((low (a0.1)) ∈ openNames)) (K (.row (.sels failL)) a5) (cond (decide (low (a0.1) = [110, 111, 116])) ((W112 m).C K 28 (mkS 72 [(0, (.ptr 0 0)), (6, a1), (7, (.nat 18))] [(1, .blk 33 [(.int .i64 0), (.int .i64 0), (.str []), (.str []), (.int .i64 0), (.int .i64 0), (.int .i64 0), (.int .i64 0)]), (0, .blk 46 [(.str s), a2, a4, a3, (.bool ps)])] 2)) (cond (decide (low (a0.1) = [104, 97, 115])) ((W112 m).C K 28 (mkS 72 [(0, (.ptr 0 0)), (6, a1), (7, (.nat 19))] [(1, .blk 33 [(.int .i64 0), (.int .i64 0), (.str []), (.str []), (.int .i64 0), (.int .i64 0), (.int .i64 0), (.int .i64 0)]), (0, .blk 46 [(.str s), a2, a4, a3, (.bool ps)])] 2)) (cond (decide (low (a0.1) = [104, 97, 115, 99, 104, 105, 108, 100])) ((W112 m).C K 28 (mkS 72 [(0, (.ptr 0 0)), (6, a1), (7, (.nat 20))] [(1, .blk 33 [(.int .i64 0), (.int .i64 0), (.str []), (.str []), (.int .i64 0), (.int .i64 0), (.int .i64 0), (.int .i64 0)]), (0, .blk 46 [(.str s), a2, a4, a3, (.bool ps)])] 2)) (cond (decide (low (a0.1) = [99, 111, 110, 116, 97, 105, 110, 115])) ((W112 m).C K 28 (mkS 72 [(0, (.ptr 0 0)), (6, a1), (7, (.nat 16))] [(1, .blk 33 [(.int .i64 0), (.int .i64 0), (.str []), (.str []), (.int .i64 0), (.int .i64 0), (.int .i64 0), (.int .i64 0)]), (0, .blk 46 [(.str s), a2, a4, a3, (.bool ps)])] 2)) (cond (decide (low (a0.1) = [99, 111, 110, 116, 97, 105, 110, 115, 111, 119, 110])) ((W112 m).C K 28 (mkS 72 [(0, (.ptr 0 0)), (6, a1), (7, (.nat 17))] [(1, .blk 33 [(.int .i64 0), (.int .i64 0), (.str []), (.str []), (.int .i64 0), (.int .i64 0), (.int .i64 0), (.int .i64 0)]), (0, .blk 46 [(.str s), a2, a4, a3, (.bool ps)])] 2)) (cond (decide (low (a0.1) = [108, 97, 110, 103])) ((W112 m).C K 28 (mkS 72 [(0, (.ptr 0 0)), (6, a1), (7, (.nat 15))] [(1, .blk 33 [(.int .i64 0), (.int .i64 0), (.str []), (.str []), (.int .i64 0), (.int .i64 0), (.int .i64 0), (.int .i64 0)]), (0, .blk 46 [(.str s), a2, a4, a3, (.bool ps)])] 2)) ((W112 m).C K 28 (mkS 72 [(0, (.ptr 0 0)), (6, a1), (7, (.nat 0))] [(1, .blk 33 [(.int .i64 0), (.int .i64 0), (.str []), (.str []), (.int .i64 0), (.int .i64 0), (.int .i64 0), (.int .i64 0)]), (0, .blk 46 [(.str s), a2, a4, a3, (.bool ps)])] 2))))))))))) (by kernel_rfl) ?_
   refine knz0 (knz0 ?_)
   refine knz0 ?_
   refine cndI ?_ ?_ <;> intro h1 <;> simp -failIfUnchanged [-List.getD_eq_getElem?_getD] at h1
   · refine krow hk ?_
     unfold sPseudo
     simp only
     rw [if_pos h1]
     rfl
   refine optI (fun x1 h2 => ?_) (fun h2 => ?_)
   ·
    refine knz0 (knz0 ?_)
    refine cndI ?_ ?_ <;> intro h3 <;> simp -failIfUnchanged [-List.getD_eq_getElem?_getD] at h3
    · refine krow hk ?_
      unfold sPseudo
      simp only
      rw [if_neg (by rw [h1]; simp), h2]
      simp only
      rw [if_pos h3]
      simp [RS.unI, RS.no]
    refine knz0 (knz0 ?_)
    refine krow hk ?_
    unfold sPseudo
    simp only
    rw [if_neg (by rw [h1]; simp), h2]
    simp only
    rw [if_neg h3]
    rfl
   refine cndI ?_ ?_ <;> intro h3 <;> simp -failIfUnchanged [-List.getD_eq_getElem?_getD] at h3
   · refine krow hk ?_
     unfold sPseudo
     simp only
     rw [if_neg (by rw [h1]; simp), h2]
     simp only
     rw [if_pos h3]
     simp [RS.unI, RS.no]
   refine cndI (fun h4 => ?_) (fun h4 => ?_)
   · simp -failIfUnchanged [-List.getD_eq_getElem?_getD] at h4
     have e : sPseudo (sGrp s ps (m + 1)) s ⟨p, bad, un⟩ = if (nthFlagS (low (sName s ⟨p, bad, un⟩).1) < 0 ∧ kindS (low (sName s ⟨p, bad, un⟩).1) = 0) ∨ bat s (sName s ⟨p, bad, un⟩).2.p ≠ 40 then (failL, (sName s ⟨p, bad, un⟩).2.no) else sArg (sGrp s ps (m + 1)) s (kindS (low (sName s ⟨p, bad, un⟩).1)) (nthFlagS (low (sName s ⟨p, bad, un⟩).1)) ((sName s ⟨p, bad, un⟩).2.go ((sName s ⟨p, bad, un⟩).2.p + 1)) := by
      unfold sPseudo
      simp only
      rw [if_neg (by rw [h1]; simp), h2]
      simp only
      rw [if_neg h3]
     have ek : kindS (low (sName s ⟨p, bad, un⟩).1) = 18 := by unfold kindS nNot nHas nHasChild nContains nContainsOwn nLang; rw [if_pos h4]
     rw [ek] at e
     exact Wk.C.ren [0] (by kernel_rfl) (by kernel_rfl) (by kernel_rfl) (L28 _ 18 (nthFlagS (low (sName s ⟨p, bad, un⟩).1)) (sName s ⟨p, bad, un⟩).2 rfl ⟨u1, by omega, e⟩)
   simp -failIfUnchanged [-List.getD_eq_getElem?_getD] at h4
   refine cndI ?_ ?_ <;> intro h5 <;> simp -failIfUnchanged [-List.getD_eq_getElem?_getD] at h5
   · have e : sPseudo (sGrp s ps (m + 1)) s ⟨p, bad, un⟩ = if (nthFlagS (low (sName s ⟨p, bad, un⟩).1) < 0 ∧ kindS (low (sName s ⟨p, bad, un⟩).1) = 0) ∨ bat s (sName s ⟨p, bad, un⟩).2.p ≠ 40 then (failL, (sName s ⟨p, bad, un⟩).2.no) else sArg (sGrp s ps (m + 1)) s (kindS (low (sName s ⟨p, bad, un⟩).1)) (nthFlagS (low (sName s ⟨p, bad, un⟩).1)) ((sName s ⟨p, bad, un⟩).2.go ((sName s ⟨p, bad, un⟩).2.p + 1)) := by
      unfold sPseudo
      simp only
      rw [if_neg (by rw [h1]; simp), h2]
      simp only
      rw [if_neg h3]
     have ek : kindS (low (sName s ⟨p, bad, un⟩).1) = 19 := by unfold kindS nNot nHas nHasChild nContains nContainsOwn nLang; rw [if_neg h4, if_pos h5]
     rw [ek] at e
     exact Wk.C.ren [0] (by kernel_rfl) (by kernel_rfl) (by kernel_rfl) (L28 _ 19 (nthFlagS (low (sName s ⟨p, bad, un⟩).1)) (sName s ⟨p, bad, un⟩).2 rfl ⟨u1, by omega, e⟩)
   refine cndI (fun h6 => ?_) (fun h6 => ?_)
   · simp -failIfUnchanged [-List.getD_eq_getElem?_getD] at h6
     have e : sPseudo (sGrp s ps (m + 1)) s ⟨p, bad, un⟩ = if (nthFlagS (low (sName s ⟨p, bad, un⟩).1) < 0 ∧ kindS (low (sName s ⟨p, bad, un⟩).1) = 0) ∨ bat s (sName s ⟨p, bad, un⟩).2.p ≠ 40 then (failL, (sName s ⟨p, bad, un⟩).2.no) else sArg (sGrp s ps (m + 1)) s (kindS (low (sName s ⟨p, bad, un⟩).1)) (nthFlagS (low (sName s ⟨p, bad, un⟩).1)) ((sName s ⟨p, bad, un⟩).2.go ((sName s ⟨p, bad, un⟩).2.p + 1)) := by
      unfold sPseudo
      simp only
      rw [if_neg (by rw [h1]; simp), h2]
      simp only
      rw [if_neg h3]
     have ek : kindS (low (sName s ⟨p, bad, un⟩).1) = 20 := by unfold kindS nNot nHas nHasChild nContains nContainsOwn nLang; rw [if_neg h4, if_neg h5, if_pos h6]
     rw [ek] at e
     exact Wk.C.ren [0] (by kernel_rfl) (by kernel_rfl) (by kernel_rfl) (L28 _ 20 (nthFlagS (low (sName s ⟨p, bad, un⟩).1)) (sName s ⟨p, bad, un⟩).2 rfl ⟨u1, by omega, e⟩)
   simp -failIfUnchanged [-List.getD_eq_getElem?_getD] at h6
   refine cndI ?_ ?_ <;> intro h7 <;> simp -failIfUnchanged [-List.getD_eq_getElem?_getD] at h7
   · have e : sPseudo (sGrp s ps (m + 1)) s ⟨p, bad, un⟩ = if (nthFlagS (low (sName s ⟨p, bad, un⟩).1) < 0 ∧ kindS (low (sName s ⟨p, bad, un⟩).1) = 0) ∨ bat s (sName s ⟨p, bad, un⟩).2.p ≠ 40 then (failL, (sName s ⟨p, bad, un⟩).2.no) else sArg (sGrp s ps (m + 1)) s (kindS (low (sName s ⟨p, bad, un⟩).1)) (nthFlagS (low (sName s ⟨p, bad, un⟩).1)) ((sName s ⟨p, bad, un⟩).2.go ((sName s ⟨p, bad, un⟩).2.p + 1)) := by
      unfold sPseudo
      simp only
      rw [if_neg (by rw [h1]; simp), h2]
      simp only
      rw [if_neg h3]
     have ek : kindS (low (sName s ⟨p, bad, un⟩).1) = 16 := by unfold kindS nNot nHas nHasChild nContains nContainsOwn nLang; rw [if_neg h4, if_neg h5, if_neg h6, if_pos h7]
     rw [ek] at e
     exact Wk.C.ren [0] (by kernel_rfl) (by kernel_rfl) (by kernel_rfl) (L28 _ 16 (nthFlagS (low (sName s ⟨p, bad, un⟩).1)) (sName s ⟨p, bad, un⟩).2 rfl ⟨u1, by omega, e⟩)
   refine cndI (fun h8 => ?_) (fun h8 => ?_)
   · simp -failIfUnchanged [-List.getD_eq_getElem?_getD] at h8
     have e : sPseudo (sGrp s ps (m + 1)) s ⟨p, bad, un⟩ = if (nthFlagS (low (sName s ⟨p, bad, un⟩).1) < 0 ∧ kindS (low (sName s ⟨p, bad, un⟩).1) = 0) ∨ bat s (sName s ⟨p, bad, un⟩).2.p ≠ 40 then (failL, (sName s ⟨p, bad, un⟩).2.no) else sArg (sGrp s ps (m + 1)) s (kindS (low (sName s ⟨p, bad, un⟩).1)) (nthFlagS (low (sName s ⟨p, bad, un⟩).1)) ((sName s ⟨p, bad, un⟩).2.go ((sName s ⟨p, bad, un⟩).2.p + 1)) := by
      unfold sPseudo
      simp only
      rw [if_neg (by rw [h1]; simp), h2]
      simp only
      rw [if_neg h3]
     have ek : kindS (low (sName s ⟨p, bad, un⟩).1) = 17 := by unfold kindS nNot nHas nHasChild nContains nContainsOwn nLang; rw [if_neg h4, if_neg h5, if_neg h6, if_neg h7, if_pos h8]
     rw [ek] at e
     exact Wk.C.ren [0] (by kernel_rfl) (by kernel_rfl) (by kernel_rfl) (L28 _ 17 (nthFlagS (low (sName s ⟨p, bad, un⟩).1)) (sName s ⟨p, bad, un⟩).2 rfl ⟨u1, by omega, e⟩)
   simp -failIfUnchanged [-List.getD_eq_getElem?_getD] at h8
   refine cndI ?_ ?_ <;> intro h9 <;> simp -failIfUnchanged [-List.getD_eq_getElem?_getD] at h9
   · have e : sPseudo (sGrp s ps (m + 1)) s ⟨p, bad, un⟩ = if (nthFlagS (low (sName s ⟨p, bad, un⟩).1) < 0 ∧ kindS (low (sName s ⟨p, bad, un⟩).1) = 0) ∨ bat s (sName s ⟨p, bad, un⟩).2.p ≠ 40 then (failL, (sName s ⟨p, bad, un⟩).2.no) else sArg (sGrp s ps (m + 1)) s (kindS (low (sName s ⟨p, bad, un⟩).1)) (nthFlagS (low (sName s ⟨p, bad, un⟩).1)) ((sName s ⟨p, bad, un⟩).2.go ((sName s ⟨p, bad, un⟩).2.p + 1)) := by
      unfold sPseudo
      simp only
      rw [if_neg (by rw [h1]; simp), h2]
      simp only
      rw [if_neg h3]
     have ek : kindS (low (sName s ⟨p, bad, un⟩).1) = 15 := by unfold kindS nNot nHas nHasChild nContains nContainsOwn nLang; rw [if_neg h4, if_neg h5, if_neg h6, if_neg h7, if_neg h8, if_pos h9]
     rw [ek] at e
     exact Wk.C.ren [0] (by kernel_rfl) (by kernel_rfl) (by kernel_rfl) (L28 _ 15 (nthFlagS (low (sName s ⟨p, bad, un⟩).1)) (sName s ⟨p, bad, un⟩).2 rfl ⟨u1, by omega, e⟩)
   have e : sPseudo (sGrp s ps (m + 1)) s ⟨p, bad, un⟩ = if (nthFlagS (low (sName s ⟨p, bad, un⟩).1) < 0 ∧ kindS (low (sName s ⟨p, bad, un⟩).1) = 0) ∨ bat s (sName s ⟨p, bad, un⟩).2.p ≠ 40 then (failL, (sName s ⟨p, bad, un⟩).2.no) else sArg (sGrp s ps (m + 1)) s (kindS (low (sName s ⟨p, bad, un⟩).1)) (nthFlagS (low (sName s ⟨p, bad, un⟩).1)) ((sName s ⟨p, bad, un⟩).2.go ((sName s ⟨p, bad, un⟩).2.p + 1)) := by
    unfold sPseudo
    simp only
    rw [if_neg (by rw [h1]; simp), h2]
    simp only
    rw [if_neg h3]
   have ek : kindS (low (sName s ⟨p, bad, un⟩).1) = 0 := by unfold kindS nNot nHas nHasChild nContains nContainsOwn nLang; rw [if_neg h4, if_neg h5, if_neg h6, if_neg h7, if_neg h8, if_neg h9]
   rw [ek] at e
   exact Wk.C.ren [0] (by kernel_rfl) (by kernel_rfl) (by kernel_rfl) (L28 _ 0 (nthFlagS (low (sName s ⟨p, bad, un⟩).1)) (sName s ⟨p, bad, un⟩).2 rfl ⟨u1, by omega, e⟩)
 cases e
theorem ksim {K : Out → Option SB → Prop} {s : Bs} {ps : Bool} {r : (List SelD × Bs) × RS} {v : List SelD} {n : Bs} {p : Nat} {b u : Bool}
 (hk : K (.val (.tup [.sl (.sels r.1.1), .str r.1.2, .bool true])) (some (.blk 46 [.str s, .nat r.2.p, .bool r.2.bad, .bool r.2.un, .bool ps]))) (e : r = ((v, n), ⟨p, b, u⟩)) :
 K (.val (.tup [.sl (.sels v), .str n, .bool true])) (some (.blk 46 [.str s, .nat p, .bool b, .bool u, .bool ps])) := by rw [e] at hk; exact hk
def c97 (m : Nat) : Spec := fun svs b K => match svs, b with
 | [.ptr 0 0], some (.blk 46 [.str s, .nat p, .bool bad, .bool un, .bool ps]) => s.length ≤ 100000 ∧ p ≤ s.length + 1 ∧ s.length ≤ m + p ∧ m ≤ 200000 ∧ cond (isSim (bat s p))
  (K (.val (.tup [.sl (.sels (sSimple (sGrp s ps (m + 1)) s ⟨p, bad, un⟩).1.1), .str (sSimple (sGrp s ps (m + 1)) s ⟨p, bad, un⟩).1.2, .bool true])) (some (.blk 46 [.str s, .nat (sSimple (sGrp s ps (m + 1)) s ⟨p, bad, un⟩).2.p, .bool (sSimple (sGrp s ps (m + 1)) s ⟨p, bad, un⟩).2.bad, .bool (sSimple (sGrp s ps (m + 1)) s ⟨p, bad, un⟩).2.un, .bool ps])))
  (K (.val (.tup [.sl (.sels []), .str [], .bool false])) (some (.blk 46 [.str s, .nat p, .bool bad, .bool un, .bool ps])))
 | _, _ => False
noncomputable def W97 (m : Nat) : Wk := ⟨[(29, .fn c29), (43, .plain c43), (66, .pure c66), (96, .fn c96), (109, .fn c109), (110, .fn c110), (111, .fn c111), (112, .fn (c112 m))], bodyOf Tryz.f97, true, false, [.tmp 2, .tmp 3, .tmp 4], [22, 9, 4], [], []⟩
theorem has97 : Has 97 := Has.of (fn := Tryz.f97) (by kernel_rfl) (by kernel_rfl) (by kernel_rfl)
theorem knz1 {p q : Prop} (k : q) (h : p := by first | omega | (simp; done) | (have := bat_pos (s := s) (p := p) (by omega); omega) | (have := bat_lt (h58t h5) (by decide); omega)) : p ∧ q := ⟨h, k⟩
theorem sat97 (m : Nat) (hG : Sat 23 (fnS (c23 m))) : Sat 97 (c97 m) := by
 have hD : CxOk (W97 m).D := (CxOk.cons has29 sat29 (CxOk.cons has43 sat43 (CxOk.cons has66 sat66 (CxOk.cons has96 sat96 (CxOk.cons has109 sat109 (CxOk.cons has110 sat110 (CxOk.cons has111 sat111 (CxOk.cons has112 (sat112 m hG) CxOk.nil))))))))
 refine (W97 m).sat hD (fn := Tryz.f97) (by kernel_rfl) (by kernel_rfl) (by kernel_rfl) (Nat.le_of_ble_eq_true (by kernel_rfl)) fun svs b K hP => ?_
 unfold c97 at hP
 split at hP
 · rename_i s p bad un ps
   obtain ⟨h01, h02, h03, h04, hk⟩ := hP
   refine (W97 m).entry rfl (X := have a0 := RS.mk (p + 1) bad un; have a1 := s.length ≤ 1000000; have a2 := sPseudo (sGrp s ps (m + 1)) s a0; have a3 := sElem s (RS.mk (p + 2) bad un); have a4 := p + 1 ≤ 9223372036854775807; have a5 := p + 1 ≤ s.length + 1; have a6 := ([] : List (List SelD)).flatten.length ≤ 1000000000000; have a7 := ([] : List (List SelD)).length ≤ 1000000000; a1 ∧ (p ≤ s.length + 1) ∧ cond (decide (bat s p = 46)) (a4 ∧ a1 ∧ a5 ∧ a7 ∧ a6 ∧ K (.val (.tup [(.sl (.sels (selMade (SelD.mk (3 : Int) (0 : Int) [] ((sName s a0).1) (0 : Int) (0 : Int) (0 : Int) (0 : Int)) ([] : List (List SelD)).flatten))), (.str []), (.bool true)])) (some (.blk 46 [(.str s), (.nat ((sName s a0).2.p)), (.bool ((sName s a0).2.bad)), (.bool ((sName s a0).2.un)), (.bool ps)]))) (cond (decide (bat s p = 35)) (a4 ∧ a1 ∧ a5 ∧ a7 ∧ a6 ∧ K (.val (.tup [(.sl (.sels (selMade (SelD.mk (4 : Int) (0 : Int) [] ((sHash s a0).1) (0 : Int) (0 : Int) (0 : Int) (0 : Int)) ([] : List (List SelD)).flatten))), (.str []), (.bool true)])) (some (.blk 46 [(.str s), (.nat ((sHash s a0).2.p)), (.bool ((sHash s a0).2.bad)), (.bool ((sHash s a0).2.un)), (.bool ps)]))) (cond (decide (bat s p = 91)) (a4 ∧ a1 ∧ a5 ∧ K (.val (.tup [(.sl (.sels ((sAttr s a0).1))), (.str []), (.bool true)])) (some (.blk 46 [(.str s), (.nat ((sAttr s a0).2.p)), (.bool ((sAttr s a0).2.bad)), (.bool ((sAttr s a0).2.un)), (.bool ps)]))) (cond (decide (bat s p = 58)) (a4 ∧ a1 ∧ a5 ∧ (1 ≤ 1000) ∧ cond (hereB s [58] (p + 1)) (a1 ∧ (p + 2 ≤ s.length + 1) ∧ K (.val (.tup [(.sl (.sels [])), (.str (a3.1)), (.bool true)])) (some (.blk 46 [(.str s), (.nat (a3.2.p)), (.bool (a3.2.bad)), (.bool (a3.2.un)), (.bool ps)]))) ((s.length ≤ 100000) ∧ a5 ∧ (s.length ≤ m + p + 1) ∧ (m ≤ 200000) ∧ K (.val (.tup [(.sl (.sels (a2.1))), (.str []), (.bool true)])) (some (.blk 46 [(.str s), (.nat (a2.2.p)), (.bool (a2.2.bad)), (.bool (a2.2.un)), (.bool ps)])))) (K (.val (.tup [(.sl (.sels [])), (.str []), (.bool false)])) (some (.blk 46 [(.str s), (.nat p), (.bool bad), (.bool un), (.bool ps)]))))))) (by kernel_rfl) ?_
   refine knz1 (knz1 ?_)
   refine cndI ?_ ?_ <;> intro h1 <;> simp -failIfUnchanged [-List.getD_eq_getElem?_getD] at h1
   · refine knz1 ?_
     refine knz1 (knz1 ?_)
     refine knz1 (knz1 ?_)
     rw [show isSim (bat s p) = true from by rw [isSim]; simp; omega] at hk
     refine ksim hk ?_
     unfold sSimple
     rw [if_pos h1]
     rfl
   refine cndI (fun h2 => ?_) (fun h2 => ?_)
   · simp -failIfUnchanged [-List.getD_eq_getElem?_getD] at h2
     refine knz1 ?_
     refine knz1 (knz1 ?_)
     refine knz1 (knz1 ?_)
     rw [show isSim (bat s p) = true from by rw [isSim]; simp; omega] at hk
     refine ksim hk ?_
     unfold sSimple
     rw [if_neg h1, if_pos h2]
     rfl
   simp -failIfUnchanged [-List.getD_eq_getElem?_getD] at h2
   refine cndI ?_ ?_ <;> intro h3 <;> simp -failIfUnchanged [-List.getD_eq_getElem?_getD] at h3
   · refine knz1 ?_
     refine knz1 (knz1 ?_)
     rw [show isSim (bat s p) = true from by rw [isSim]; simp; omega] at hk
     refine ksim hk ?_
     unfold sSimple
     rw [if_neg h1, if_neg h2, if_pos h3]
     rfl
   refine cndI (fun h4 => ?_) (fun h4 => ?_)
   · simp -failIfUnchanged [-List.getD_eq_getElem?_getD] at h4
     refine knz1 ?_
     refine knz1 (knz1 (knz1 ?_))
     refine cndI ?_ ?_ <;> intro h5 <;> simp -failIfUnchanged [-List.getD_eq_getElem?_getD] at h5
     · refine knz1 (knz1 ?_)
       rw [show isSim (bat s p) = true from by rw [isSim]; simp; omega] at hk
       refine ksim hk ?_
       unfold sSimple
       rw [if_neg h1, if_neg h2, if_neg h3, if_pos (h58t h5)]
       rfl
     refine knz1 (knz1 (knz1 (knz1 ?_)))
     rw [show isSim (bat s p) = true from by rw [isSim]; simp; omega] at hk
     refine ksim hk ?_
     unfold sSimple
     rw [if_neg h1, if_neg h2, if_neg h3, if_neg (h58f h5)]
     rfl
   simp -failIfUnchanged [-List.getD_eq_getElem?_getD] at h4
   rw [show isSim (bat s p) = false from by rw [isSim]; simp; omega] at hk
   exact hk
 exact hP.elim
end
end Go.Proofs.YtengepcafdnalaaGreatDoor
