/-
  Parts of the proof that the law FnParseExact holds for every input (texts Kc). Conditions: none.
-/
import Derived.Test.YtengepcafdnalaaGreatDoorM22
namespace Go.Proofs.YtengepcafdnalaaGreatDoor
section
open Go Go.RowKit
set_option maxRecDepth 20000
def hereB (s w : Bs) (p : Nat) : Bool := decide (p + w.length ≤ s.length) && decide ((s.take (p + w.length)).drop p = w)
theorem bat_lt {s : Bs} {p c : Nat} (h : bat s p = c) (hc : c ≠ 0) : p < s.length := by
 by_cases hp : p < s.length
 · exact hp
 exfalso
 apply hc
 rw [← h]
 unfold bat
 simp [List.getD_eq_getElem?_getD, List.getElem?_eq_none (show s.length ≤ p from by omega)]
theorem take1 (s : Bs) (p : Nat) (a : UInt8) (h : p + 1 ≤ s.length) : (s.take (p + 1)).drop p = [a] ↔ bat s p = a.toNat := by
 have h1 : (s.take (p + 1)).drop p = [s[p]] := by
  rw [List.drop_take, List.drop_eq_getElem_cons (by omega), show p + 1 - p = 1 from by omega]
  rfl
 rw [h1]
 unfold bat
 simp only [List.getD_eq_getElem?_getD, List.getElem?_eq_getElem (show p < s.length from by omega), Option.getD_some, List.cons.injEq, and_true]
 exact ⟨fun h => by rw [h], fun h => UInt8.toNat_inj.1 h⟩
theorem here1 (s : Bs) (p : Nat) (a : UInt8) (ha : a.toNat ≠ 0) : hereB s [a] p = decide (bat s p = a.toNat) := by
 unfold hereB
 rw [Bool.eq_iff_iff]
 simp only [Bool.and_eq_true, decide_eq_true_eq, List.length_singleton]
 constructor
 · rintro ⟨h1, h2⟩; exact (take1 s p a h1).1 h2
 intro h; have := bat_lt h ha; exact ⟨by omega, (take1 s p a (by omega)).2 h⟩
theorem here2 (s : Bs) (p : Nat) (a b : UInt8) (hb : b.toNat ≠ 0) : hereB s [a, b] p = decide (bat s p = a.toNat ∧ bat s (p + 1) = b.toNat) := by
 unfold hereB
 rw [Bool.eq_iff_iff]
 simp only [Bool.and_eq_true, decide_eq_true_eq, List.length_cons, List.length_nil]
 have e : (s.take (p + (0 + 1 + 1))).drop p = (s.drop p).take 2 := by rw [List.drop_take]; congr 1; omega
 rw [e]
 constructor
 · rintro ⟨h1, h2⟩; exact (take2 s p a b (by omega)).1 h2
 intro h; have := bat_lt h.2 hb; exact ⟨by omega, (take2 s p a b (by omega)).2 h⟩
def c66 (svs : List SV) (b : Option SB) : QR := match svs, b with
 | [.ptr 0 0], some (.blk 46 [.str s, .nat p, .bool bad, .bool un, .bool ps]) => some ([s.length ≤ 1000000, p ≤ s.length + 1], .byt (s.getD p 0))
 | _, _ => none
noncomputable def W66 : Wk := ⟨[], bodyOf Tryz.f66, true, false, [.tmp 2], [5], [], []⟩
theorem has66 : Has 66 := Has.of (fn := Tryz.f66) (by kernel_rfl) (by kernel_rfl) (by kernel_rfl)
theorem kcz0 {p q : Prop} (k : q) (h : p := by first | omega | (simp; done) | (simp; omega) | (simp; assumption)) : p ∧ q := ⟨h, k⟩
theorem sat66 : Sat 66 (pureS c66) := by
 have hD : CxOk W66.D := CxOk.nil
 refine W66.sat hD (fn := Tryz.f66) (by kernel_rfl) (by kernel_rfl) (by kernel_rfl) (by decide) fun svs b K hP => ?_
 obtain ⟨ps, v, e, hp, hk⟩ := pureS_inv hP
 unfold c66 at e
 split at e
 · rename_i s p bad un ps
   cases e
   obtain ⟨h01, h02, _⟩ := hp
   refine W66.entry rfl (X := have a0 : Option SB := some (.blk 46 [(.str s), (.nat p), (.bool bad), (.bool un), (.bool ps)]); cond (decide (s.length ≤ p)) (K (.val (.byt 0)) a0) ((p < s.length) ∧ K (.val (.byt (s.getD p 0))) a0)) (by kernel_rfl) ?_
   refine cndI ?_ ?_ <;> intro h1 <;> simp -failIfUnchanged [-List.getD_eq_getElem?_getD] at h1
   · exact keq hk (by simp [List.getD_eq_getElem?_getD, List.getElem?_eq_none (show s.length ≤ p from by omega)]) rfl
   refine kcz0 ?_
   exact hk
 cases e
def c69 (svs : List SV) (b : Option SB) : QR := match svs, b with
 | [.ptr 0 0, .str w], some (.blk 46 [.str s, .nat p, .bool bad, .bool un, .bool ps]) => some ([s.length ≤ 1000000, p ≤ s.length + 1, w.length ≤ 1000], .bool (hereB s w p))
 | _, _ => none
noncomputable def W69 : Wk := ⟨[], bodyOf Tryz.f69, true, false, [.tmp 4], [4], [], []⟩
theorem has69 : Has 69 := Has.of (fn := Tryz.f69) (by kernel_rfl) (by kernel_rfl) (by kernel_rfl)
theorem kcz4 {c0 p0 p1 q : Prop} (k : q) (h : c0 → p0 ∧ p1 ∧ True := by intro g0; (try simp at g0); exact ⟨(by first | omega | (simp; done) | (simp; omega) | (simp; assumption)), (by first | omega | (simp; done) | (simp; omega) | (simp; assumption)), trivial⟩) : (c0 → p0 ∧ p1 ∧ True) ∧ q := ⟨h, k⟩
theorem kcz3 {c0 p0 p1 p2 p3 q : Prop} (k : q) (h : c0 → p0 ∧ p1 ∧ p2 ∧ p3 ∧ True := by intro g0; (try simp at g0); exact ⟨(by first | omega | (simp; done) | (simp; omega) | (simp; assumption)), (by first | omega | (simp; done) | (simp; omega) | (simp; assumption)), (by first | omega | (simp; done) | (simp; omega) | (simp; assumption)), (by first | omega | (simp; done) | (simp; omega) | (simp; assumption)), trivial⟩) : (c0 → p0 ∧ p1 ∧ p2 ∧ p3 ∧ True) ∧ q := ⟨h, k⟩
theorem kcz2 {c0 p0 p1 p2 q : Prop} (k : q) (h : c0 → p0 ∧ p1 ∧ p2 ∧ True := by intro g0; (try simp at g0); exact ⟨(by first | omega | (simp; done) | (simp; omega) | (simp; assumption)), (by first | omega | (simp; done) | (simp; omega) | (simp; assumption)), (by first | omega | (simp; done) | (simp; omega) | (simp; assumption)), trivial⟩) : (c0 → p0 ∧ p1 ∧ p2 ∧ True) ∧ q := ⟨h, k⟩
theorem kcz1 {c0 p0 q : Prop} (k : q) (h : c0 → p0 ∧ True := by intro g0; (try simp at g0); exact ⟨(by first | omega | (simp; done) | (simp; omega) | (simp; assumption)), trivial⟩) : (c0 → p0 ∧ True) ∧ q := ⟨h, k⟩
theorem sat69 : Sat 69 (pureS c69) := by
 have hD : CxOk W69.D := CxOk.nil
 refine W69.sat hD (fn := Tryz.f69) (by kernel_rfl) (by kernel_rfl) (by kernel_rfl) (by decide) fun svs b K hP => ?_
 obtain ⟨ps, v, e, hp, hk⟩ := pureS_inv hP
 unfold c69 at e
 split at e
 · rename_i w s p bad un ps
   cases e
   obtain ⟨h01, h02, h03, _⟩ := hp
   refine W69.entry rfl (X := have a0 := decide (p + w.length ≤ s.length); have a2 := (a0 == true) = true; have a1 := a0 = true → a2 ∧ True; (p + w.length ≤ 9223372036854775807) ∧ a1 ∧ a1 ∧ a1 ∧ a1 ∧ a1 ∧ a1 ∧ a1 ∧ a1 ∧ a1 ∧ a1 ∧ (a0 = true → a2 ∧ a2 ∧ (p + w.length ≤ 9223372036854775807) ∧ True) ∧ (a0 = true → a2 ∧ a2 ∧ a2 ∧ (p ≤ p + w.length ∧ p + w.length ≤ s.length) ∧ True) ∧ (a0 = true → a2 ∧ a2 ∧ True) ∧ (a0 = true → (a0 == true) = true) ∧ K (.val (.bool (a0 && (decide ((s.take (p + w.length)).drop p = w))))) (some (.blk 46 [(.str s), (.nat p), (.bool bad), (.bool un), (.bool ps)]))) (by kernel_rfl) ?_
   refine kcz0 ?_
   refine kcz1 ?_
   refine kcz1 ?_
   refine kcz1 ?_
   refine kcz1 ?_
   refine kcz1 ?_
   refine kcz1 ?_
   refine kcz1 ?_
   refine kcz1 ?_
   refine kcz1 ?_
   refine kcz1 ?_
   refine kcz2 ?_
   refine kcz3 ?_
   refine kcz4 ?_
   refine kcz0 ?_
   exact hk
 cases e
def c43 : Spec := fun svs b K => match svs, b with
 | [.ptr 0 0, .str w], some (.blk 46 [.str s, .nat p, .bool bad, .bool un, .bool ps]) => s.length ≤ 1000000 ∧ p ≤ s.length + 1 ∧ w.length ≤ 1000 ∧
  cond (hereB s w p) (K (.val (.bool true)) (some (.blk 46 [.str s, .nat (p + w.length), .bool bad, .bool un, .bool ps]))) (K (.val (.bool false)) (some (.blk 46 [.str s, .nat p, .bool bad, .bool un, .bool ps])))
 | _, _ => False
noncomputable def W43 : Wk := ⟨[(69, .pure c69)], bodyOf Tryz.f43, true, false, [.tmp 4], [4], [], []⟩
theorem has43 : Has 43 := Has.of (fn := Tryz.f43) (by kernel_rfl) (by kernel_rfl) (by kernel_rfl)
theorem kcz5 {p q : Prop} (k : q) (h : p := by first | omega | (unfold hereB at *; simp at *; omega)) : p ∧ q := ⟨h, k⟩
theorem sat43 : Sat 43 c43 := by
 have hD : CxOk W43.D := (CxOk.cons has69 sat69 CxOk.nil)
 refine W43.sat hD (fn := Tryz.f43) (by kernel_rfl) (by kernel_rfl) (by kernel_rfl) (by decide) fun svs b K hP => ?_
 unfold c43 at hP
 split at hP
 · rename_i w s p bad un ps
   obtain ⟨h01, h02, h03, hk⟩ := hP
   refine W43.entry rfl (X := (s.length ≤ 1000000) ∧ (p ≤ s.length + 1) ∧ (w.length ≤ 1000) ∧ cond (!(hereB s w p)) (K (.val (.bool false)) (some (.blk 46 [(.str s), (.nat p), (.bool bad), (.bool un), (.bool ps)]))) ((p + w.length ≤ 9223372036854775807) ∧ K (.val (.bool true)) (some (.blk 46 [(.str s), (.nat (p + w.length)), (.bool bad), (.bool un), (.bool ps)])))) (by kernel_rfl) ?_
   refine kcz5 (kcz5 (kcz5 ?_))
   refine cndI ?_ ?_ <;> intro h1 <;> simp -failIfUnchanged [-List.getD_eq_getElem?_getD] at h1
   · rw [h1] at hk; exact hk
   refine kcz5 ?_
   rw [h1] at hk; exact hk
 exact hP.elim
def c68 (svs : List SV) (b : Option SB) : FR := match svs, b with
 | [.ptr 0 0], some (.blk 46 [.str s, .nat p, .bool bad, .bool un, .bool ps]) => some ([], .row (.sels failL), some (.blk 46 [.str s, .nat p, .bool true, .bool un, .bool ps]))
 | _, _ => none
noncomputable def W68 : Wk := ⟨[], bodyOf Tryz.f68, true, true, [.tmp 2], [22], [], []⟩
theorem has68 : Has 68 := Has.of (fn := Tryz.f68) (by kernel_rfl) (by kernel_rfl) (by kernel_rfl)
theorem sat68 : Sat 68 (fnS c68) := by
 have hD : CxOk W68.D := CxOk.nil
 refine W68.sat hD (fn := Tryz.f68) (by kernel_rfl) (by kernel_rfl) (by kernel_rfl) (by decide) fun svs b K hP => ?_
 obtain ⟨ps, o, b', e, hp, hk⟩ := fnS_inv hP
 unfold c68 at e
 split at e
 · rename_i s p bad un ps
   cases e
   refine W68.entry rfl (X := K (.row (.sels [SelD.mk (1 : Int) (0 : Int) [] [] (0 : Int) (0 : Int) (0 : Int) (1 : Int)])) (some (.blk 46 [(.str s), (.nat p), (.bool true), (.bool un), (.bool ps)]))) (by kernel_rfl) ?_
   exact hk
 cases e
def c94 : Spec := fun svs b K => match svs, b with
 | [.ptr 0 0], some (.blk 46 [.str s, .nat p, .bool bad, .bool un, .bool ps]) => s.length ≤ 1000000 ∧ p ≤ s.length + 1 ∧
  optK (cmtEnd s (p + 2)) (fun j => p < j ∧ j ≤ s.length → K (.val (.tup [])) (some (.blk 46 [.str s, .nat j, .bool bad, .bool un, .bool ps])))
   (K (.val (.tup [])) (some (.blk 46 [.str s, .nat p, .bool true, .bool true, .bool ps])))
 | _, _ => False
noncomputable def W94 : Wk := ⟨[], bodyOf Tryz.f94, true, false, [], [], [(1, 5)], []⟩
theorem has94 : Has 94 := Has.of (fn := Tryz.f94) (by kernel_rfl) (by kernel_rfl) (by kernel_rfl)
theorem sat94 : Sat 94 c94 := by
 have hD : CxOk W94.D := CxOk.nil
 refine W94.sat hD (fn := Tryz.f94) (by kernel_rfl) (by kernel_rfl) (by kernel_rfl) (by decide) fun svs b K hP => ?_
 unfold c94 at hP
 split at hP
 · rename_i s p bad un ps
   obtain ⟨h01, h02, hk⟩ := hP
   have L1 : ∀ (mm : Nat) (i : Nat), s.length + 4 - i = mm → p + 2 ≤ i ∧ i ≤ s.length + 3 ∧ cmtEnd s i = cmtEnd s (p + 2) → W94.L K 1 (mkS 46 [(0, (.ptr 0 0)), (2, (.nat i))] [(0, .blk 46 [(.str s), (.nat p), (.bool bad), (.bool un), (.bool ps)])] 1) := by
    intro mm
    induction mm using Nat.strongRecOn with
    | _ mm ih =>
     intro i hm hI
     refine W94.atL hD (X := have a0 := i + 1 ≤ 9223372036854775807; a0 ∧ cond (decide (i + 1 < s.length)) ((i < s.length) ∧ ((decide (bat s i = 42)) = true → a0 ∧ True) ∧ ((decide (bat s i = 42)) = true → (i + 1 < s.length) ∧ True) ∧ cond ((decide (bat s i = 42)) && (decide (bat s (i + 1) = 47))) ((i + 2 ≤ 9223372036854775807) ∧ K (.val (.tup [])) (some (.blk 46 [(.str s), (.nat (i + 2)), (.bool bad), (.bool un), (.bool ps)]))) (a0 ∧ (W94).L K 1 (mkS 46 [(0, (.ptr 0 0)), (2, (.nat (i + 1)))] [(0, .blk 46 [(.str s), (.nat p), (.bool bad), (.bool un), (.bool ps)])] 1))) (K (.val (.tup [])) (some (.blk 46 [(.str s), (.nat p), (.bool true), (.bool true), (.bool ps)])))) (by kernel_rfl) ?_
     refine kcz0 ?_
     refine cndI ?_ ?_ <;> intro h1 <;> simp -failIfUnchanged [-List.getD_eq_getElem?_getD] at h1
     · refine kcz0 ?_
       refine kcz1 ?_
       refine kcz1 ?_
       refine cndI ?_ ?_ <;> intro h2 <;> simp -failIfUnchanged [-List.getD_eq_getElem?_getD] at h2
       · refine kcz0 ?_
         have e : cmtEnd s i = some (i + 2) := by unfold cmtEnd; rw [if_pos (by omega), if_pos (by omega)]
         rw [← hI.2.2, e] at hk
         exact hk (by omega)
       refine kcz0 ?_
       refine ih _ (by omega) _ rfl ⟨by omega, by omega, ?_⟩
       rw [← hI.2.2]
       conv => rhs; unfold cmtEnd
       rw [if_pos (by omega), if_neg (by omega)]
     have e : cmtEnd s i = none := by unfold cmtEnd; rw [if_neg (by omega)]
     rw [← hI.2.2, e] at hk
     exact hk
   refine W94.entry rfl (X := (p + 2 ≤ 9223372036854775807) ∧ (W94).L K 1 (mkS 46 [(0, (.ptr 0 0)), (2, (.nat (p + 2)))] [(0, .blk 46 [(.str s), (.nat p), (.bool bad), (.bool un), (.bool ps)])] 1)) (by kernel_rfl) ?_
   refine kcz0 ?_
   exact L1 _ _ rfl ⟨by omega, by omega, rfl⟩
 exact hP.elim
def c107 (svs : List SV) (b : Option SB) : QR := match svs, b with
 | [.ptr 0 0, .nat i], some (.blk 46 [.str s, .nat p, .bool bad, .bool un, .bool ps]) => some ([s.length ≤ 1000000, i ≤ s.length + 1], .bool (escF s i))
 | _, _ => none
noncomputable def W107 : Wk := ⟨[], bodyOf Tryz.f107, true, false, [.tmp 4], [4], [], []⟩
theorem has107 : Has 107 := Has.of (fn := Tryz.f107) (by kernel_rfl) (by kernel_rfl) (by kernel_rfl)
theorem sat107 : Sat 107 (pureS c107) := by
 have hD : CxOk W107.D := CxOk.nil
 refine W107.sat hD (fn := Tryz.f107) (by kernel_rfl) (by kernel_rfl) (by kernel_rfl) (by decide) fun svs b K hP => ?_
 obtain ⟨ps, v, e, hp, hk⟩ := pureS_inv hP
 unfold c107 at e
 split at e
 · rename_i i s p bad un ps
   cases e
   obtain ⟨h01, h02, _⟩ := hp
   refine W107.entry rfl (X := have a1 := i + 1 ≤ 9223372036854775807; have a3 := (decide (i + 1 < s.length)) && (decide (bat s i = 92)); have a0 := a3 && (!(decide (bat s (i + 1) = 10))); have a2 := a0 && (!(decide (bat s (i + 1) = 13))); a1 ∧ ((decide (i + 1 < s.length)) = true → (i < s.length) ∧ True) ∧ (a3 = true → a1 ∧ True) ∧ (a3 = true → (i + 1 < s.length) ∧ True) ∧ (a0 = true → a1 ∧ True) ∧ (a0 = true → (i + 1 < s.length) ∧ True) ∧ (a2 = true → a1 ∧ True) ∧ (a2 = true → (i + 1 < s.length) ∧ True) ∧ K (.val (.bool (a2 && (!(decide (bat s (i + 1) = 12)))))) (some (.blk 46 [(.str s), (.nat p), (.bool bad), (.bool un), (.bool ps)]))) (by kernel_rfl) ?_
   refine kcz0 ?_
   refine kcz1 ?_
   refine kcz1 ?_
   refine kcz1 ?_
   refine kcz1 ?_
   refine kcz1 ?_
   refine kcz1 ?_
   refine kcz1 ?_
   exact keq hk (by simp [escF, isNl]; rw [Bool.eq_iff_iff]; simp; omega) rfl
 cases e
theorem sSp_ws {s : Bs} {t : RS} (h : t.bad = false ∧ t.p < s.length) (hw : isWs (bat s t.p) = true) : sSp s t = sSp s (t.go (t.p + 1)) := by
 conv => lhs; unfold sSp
 rw [if_pos h, if_pos hw]
theorem sSp_cm {s : Bs} {t : RS} {j : Nat} (hb : t.bad = false) (h : t.p + 2 ≤ s.length ∧ bat s t.p = 47 ∧ bat s (t.p + 1) = 42) (hc : cmtEnd s (t.p + 2) = some j) : sSp s t = sSp s (t.go j) := by
 conv => lhs; unfold sSp
 rw [if_pos ⟨hb, by omega⟩, if_neg (by rw [h.2.1]; decide), if_pos h]
 split
 · rename_i e; rw [hc] at e; cases e; rfl
 rename_i e; rw [hc] at e; cases e
theorem sSp_cn {s : Bs} {t : RS} (hb : t.bad = false) (h : t.p + 2 ≤ s.length ∧ bat s t.p = 47 ∧ bat s (t.p + 1) = 42) (hc : cmtEnd s (t.p + 2) = none) : sSp s t = ⟨t.p, true, true⟩ := by
 unfold sSp
 rw [if_pos ⟨hb, by omega⟩, if_neg (by rw [h.2.1]; decide), if_pos h]
 split
 · rename_i e; rw [hc] at e; cases e
 simp [RS.unI, RS.no]
theorem sSp_bad {s : Bs} {t : RS} (h : t.bad = true ∨ s.length ≤ t.p) : sSp s t = t := by
 unfold sSp
 rw [if_neg]
 rintro ⟨h1, h2⟩
 rcases h with h | h
 · rw [h1] at h; cases h
 omega
theorem sSp_st {s : Bs} {t : RS} (hw : isWs (bat s t.p) = false) (h : ¬ (bat s t.p = 47 ∧ bat s (t.p + 1) = 42)) : sSp s t = t := by
 unfold sSp
 split
 · rw [if_neg (by rw [hw]; simp), if_neg (fun h' => h h'.2)]
 rfl
theorem sSp_le (s : Bs) (t : RS) (h : t.p ≤ s.length + 1) : (sSp s t).p ≤ s.length + 1 := by
 fun_induction sSp s t with
 | case1 t h1 h2 ih => exact ih (by simp only [RS.go_p]; omega)
 | case2 t h1 h2 h3 j hj ih => exact ih (by have := cmtEnd_some _ _ hj; simp only [RS.go_p]; omega)
 | case3 t h1 h2 h3 hj => exact h
 | case4 t h1 h2 h3 => exact h
 | case5 t h1 => exact h
theorem sSp_ge (s : Bs) (t : RS) : t.p ≤ (sSp s t).p := by
 fun_induction sSp s t with
 | case1 t h1 h2 ih => simp only [RS.go_p] at ih; omega
 | case2 t h1 h2 h3 j hj ih => have := cmtEnd_some _ _ hj; simp only [RS.go_p] at ih; omega
 | case3 t h1 h2 h3 hj => exact Nat.le_refl _
 | case4 t h1 h2 h3 => exact Nat.le_refl _
 | case5 t h1 => exact Nat.le_refl _
def c64 (svs : List SV) (b : Option SB) : FR := match svs, b with
 | [.ptr 0 0], some (.blk 46 [.str s, .nat p, .bool bad, .bool un, .bool ps]) => some ([s.length ≤ 1000000, p ≤ s.length + 1], .val (.bool (decide (p < (sSp s ⟨p, bad, un⟩).p))),
  some (.blk 46 [.str s, .nat (sSp s ⟨p, bad, un⟩).p, .bool (sSp s ⟨p, bad, un⟩).bad, .bool (sSp s ⟨p, bad, un⟩).un, .bool ps]))
 | _, _ => none
noncomputable def W64 : Wk := ⟨[(66, .pure c66), (69, .pure c69), (93, .pure c93), (94, .plain c94)], bodyOf Tryz.f64, true, false, [.tmp 2], [4], [(2, 9)], []⟩
theorem has64 : Has 64 := Has.of (fn := Tryz.f64) (by kernel_rfl) (by kernel_rfl) (by kernel_rfl)
theorem sat64 : Sat 64 (fnS c64) := by
 have hD : CxOk W64.D := (CxOk.cons has66 sat66 (CxOk.cons has69 sat69 (CxOk.cons has93 sat93 (CxOk.cons has94 sat94 CxOk.nil))))
 refine W64.sat hD (fn := Tryz.f64) (by kernel_rfl) (by kernel_rfl) (by kernel_rfl) (by decide) fun svs b K hP => ?_
 obtain ⟨ps, o, b', e, hp, hk⟩ := fnS_inv hP
 unfold c64 at e
 split at e
 · rename_i s p bad un ps
   cases e
   obtain ⟨h01, h02, _⟩ := hp
   have L2 : ∀ (mm : Nat) (t : RS), s.length + 2 - t.p + (if t.bad = true then 0 else 1) = mm → p ≤ t.p ∧ t.p ≤ s.length + 1 ∧ sSp s t = sSp s ⟨p, bad, un⟩ → W64.L K 2 (mkS 53 [(0, (.ptr 0 0)), (3, (.nat p))] [(0, .blk 46 [(.str s), (.nat t.p), (.bool t.bad), (.bool t.un), (.bool ps)])] 1) := by
    intro mm
    induction mm using Nat.strongRecOn with
    | _ mm ih =>
     intro t hm hI
     refine W64.atL hD (X := have a0 := (!t.bad) = true → (((!t.bad) == true) = true) ∧ True; have a1 : Option SB := some (.blk 46 [(.str s), (.nat t.p), (.bool t.bad), (.bool t.un), (.bool ps)]); a0 ∧ a0 ∧ a0 ∧ a0 ∧ a0 ∧ a0 ∧ a0 ∧ ((!t.bad) = true → (((!t.bad) == true) = true) ∧ (((!t.bad) == true) = true) ∧ True) ∧ ((!t.bad) = true → ((!t.bad) == true) = true) ∧ cond ((!t.bad) && (decide (t.p < s.length))) ((s.length ≤ 1000000) ∧ (t.p ≤ s.length + 1) ∧ cond (isWs (bat s t.p)) ((t.p + 1 ≤ 9223372036854775807) ∧ (W64).L K 2 (mkS 53 [(0, (.ptr 0 0)), (3, (.nat p))] [(0, .blk 46 [(.str s), (.nat (t.p + 1)), (.bool t.bad), (.bool t.un), (.bool ps)])] 1)) ((s.length ≤ 1000000) ∧ (t.p ≤ s.length + 1) ∧ (2 ≤ 1000) ∧ cond (hereB s [47, 42] t.p) ((s.length ≤ 1000000) ∧ (t.p ≤ s.length + 1) ∧ optK (cmtEnd s (t.p + 2)) (fun j1 => (t.p < j1 ∧ j1 ≤ s.length) → (W64).L K 2 (mkS 53 [(0, (.ptr 0 0)), (3, (.nat p))] [(0, .blk 46 [(.str s), (.nat j1), (.bool t.bad), (.bool t.un), (.bool ps)])] 1)) ((W64).L K 2 (mkS 53 [(0, (.ptr 0 0)), (3, (.nat p))] [(0, .blk 46 [(.str s), (.nat t.p), (.bool true), (.bool true), (.bool ps)])] 1))) (K (.val (.bool (decide (p < t.p)))) a1))) (K (.val (.bool (decide (p < t.p)))) a1)) (by kernel_rfl) ?_
     refine kcz1 ?_
     refine kcz1 ?_
     refine kcz1 ?_
     refine kcz1 ?_
     refine kcz1 ?_
     refine kcz1 ?_
     refine kcz1 ?_
     refine kcz4 ?_
     refine kcz0 ?_
     refine cndI ?_ ?_ <;> intro h1 <;> simp -failIfUnchanged [-List.getD_eq_getElem?_getD] at h1
     · refine kcz0 (kcz0 ?_)
       refine cndI ?_ ?_ <;> intro h2 <;> simp -failIfUnchanged [-List.getD_eq_getElem?_getD] at h2
       · refine kcz0 ?_
         refine ih _ (by rw [← hm, RS.go_p, RS.go_bad]; omega) (t.go (t.p + 1)) rfl ⟨by rw [RS.go_p]; omega, by rw [RS.go_p]; omega, ?_⟩
         exact (sSp_ws (by simpa using h1) (by assumption)).symm.trans hI.2.2
       refine kcz0 (kcz0 (kcz0 ?_))
       refine cndI ?_ ?_ <;> intro h3 <;> simp -failIfUnchanged [-List.getD_eq_getElem?_getD] at h3
       · refine kcz0 (kcz0 ?_)
         refine optI (fun j1 h4 => ?_) (fun h4 => ?_)
         ·
          intro h5
          simp -failIfUnchanged [-List.getD_eq_getElem?_getD] at h5
          have q := (here2 s t.p 47 42 (by decide)).symm.trans h3
          simp at q
          refine ih _ (by rw [← hm, RS.go_p, RS.go_bad]; omega) (t.go j1) rfl ⟨by rw [RS.go_p]; omega, by rw [RS.go_p]; omega, ?_⟩
          exact (sSp_cm (by simp_all) ⟨by have := bat_lt q.2 (by decide); omega, q⟩ h4).symm.trans hI.2.2
         have q := (here2 s t.p 47 42 (by decide)).symm.trans h3
         simp at q
         have hb : t.bad = false := by simp_all
         refine ih _ (by rw [← hm, hb]; simp) ⟨t.p, true, true⟩ rfl ⟨by simpa using hI.1, by simpa using hI.2.1, ?_⟩
         rw [sSp_bad (.inl rfl), ← hI.2.2]
         exact (sSp_cn hb ⟨by have := bat_lt q.2 (by decide); omega, q⟩ h4).symm
       have q := (here2 s t.p 47 42 (by decide)).symm.trans h3
       simp at q
       have e : sSp s t = t := sSp_st (by simpa using h2) (fun h => q h.1 h.2)
       rw [e] at hI
       rw [← hI.2.2] at hk
       exact hk
     have e : sSp s t = t := sSp_bad (by cases hb : t.bad <;> simp_all)
     rw [e] at hI
     rw [← hI.2.2] at hk
     exact hk
   refine W64.entry rfl (X := (W64).L K 2 (mkS 53 [(0, (.ptr 0 0)), (3, (.nat p))] [(0, .blk 46 [(.str s), (.nat p), (.bool bad), (.bool un), (.bool ps)])] 1)) (by kernel_rfl) ?_
   exact L2 _ ⟨p, bad, un⟩ rfl ⟨by simp, by simpa using h02, rfl⟩
 cases e
end
end Go.Proofs.YtengepcafdnalaaGreatDoor
