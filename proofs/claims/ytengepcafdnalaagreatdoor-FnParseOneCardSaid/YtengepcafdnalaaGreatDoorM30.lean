/-
  Parts of the proof that the law FnParseOne holds for every input (texts Lh, Li). Conditions: none.
-/
import Derived.Test.YtengepcafdnalaaGreatDoorM29
namespace Go.Proofs.YtengepcafdnalaaGreatDoor
section
open Go Go.RowKit
set_option maxRecDepth 20000
section
variable {s : Bs} {p : Bool}
theorem parse_m {v : List CSel × Nat} (h : iGrp s p (1001 - 0) 0 = some v) (hj : ¬ v.2 < s.length) : iParse s true p = some v.1 := by
 obtain ⟨l, j⟩ := v
 have h : iGrp s p 1001 0 = some (l, j) := h
 unfold iParse; rw [if_pos rfl, h]; exact if_neg hj
theorem parse_mx {v : List CSel × Nat} (h : iGrp s p (1001 - 0) 0 = some v) (hj : v.2 < s.length) : iParse s true p = none := by
 obtain ⟨l, j⟩ := v
 have h : iGrp s p 1001 0 = some (l, j) := h
 unfold iParse; rw [if_pos rfl, h]; exact if_pos hj
theorem parse_mn (h : iGrp s p (1001 - 0) 0 = none) : iParse s true p = none := by
 have h : iGrp s p 1001 0 = none := h
 unfold iParse; rw [if_pos rfl, h]
theorem parse_o {v : CSel × Nat} (h : iSel (iGrp s p (1001 - 0)) s p 0 = some v) (hj : ¬ v.2 < s.length) : iParse s false p = some [v.1] := by
 obtain ⟨l, j⟩ := v
 have h : iSel (iGrp s p 1001) s p 0 = some (l, j) := h
 unfold iParse; rw [if_neg (by decide), h]; exact if_neg hj
theorem parse_ox {v : CSel × Nat} (h : iSel (iGrp s p (1001 - 0)) s p 0 = some v) (hj : v.2 < s.length) : iParse s false p = none := by
 obtain ⟨l, j⟩ := v
 have h : iSel (iGrp s p 1001) s p 0 = some (l, j) := h
 unfold iParse; rw [if_neg (by decide), h]; exact if_pos hj
theorem parse_on (h : iSel (iGrp s p (1001 - 0)) s p 0 = none) : iParse s false p = none := by
 have h : iSel (iGrp s p 1001) s p 0 = none := h
 unfold iParse; rw [if_neg (by decide), h]
end
def c44 (svs : List SV) (b : Option SB) (K : Out → Option SB → Prop) : Prop := match svs, b with
 | [.str s], none => s.length ≤ 1000000 ∧ optK (iParse s true false) (fun v => K (.val (.tup [.sl (.csels v), .nilif])) none) (K (.val (.tup [.sl (.csels []), .ifx])) none)
 | _, _ => False
noncomputable def W44 : Wk := ⟨[(70, .plain (c70 1002)), (71, .pure c71)], bodyOf Tryz.f44, false, false, [.tmp 2, .tmp 3], [50, 71], [], []⟩
theorem has44 : Has 44 := Has.of (fn := Tryz.f44) (by kernel_rfl) (by kernel_rfl) (by kernel_rfl)
theorem lhz0 {p q : Prop} (k : q) (h : p := by first | omega | (simp; done) | (simp; omega) | (simp; assumption)) : p ∧ q := ⟨h, k⟩
theorem sat44 : Sat 44 c44 := by
 have hD : CxOk W44.D := (CxOk.cons has70 (sat70 1002) (CxOk.cons has71 sat71 CxOk.nil))
 refine W44.sat hD (fn := Tryz.f44) (by kernel_rfl) (by kernel_rfl) (by kernel_rfl) (Nat.le_of_ble_eq_true (by kernel_rfl)) fun svs b K hP => ?_
 unfold c44 at hP
 split at hP
 · rename_i s
   obtain ⟨h01, hk⟩ := hP
   refine W44.entry rfl (X := (s.length ≤ 1000000) ∧ (0 ≤ s.length) ∧ (0 ≤ 1001) ∧ (1002 ≤ 0 + 1002) ∧ optK ((iGrp s false (1001 - 0)) 0) (fun v1 => (0 < v1.2 ∧ v1.2 ≤ s.length) → cond (decide (v1.2 < s.length)) (K (.val (.tup [(.sl (.csels [])), .ifx])) none) (K (.val (.tup [(.sl (.csels v1.1)), .nilif])) none)) (∀ j2 : Nat, K (.val (.tup [(.sl (.csels [])), .ifx])) none)) (by kernel_rfl) ?_
   refine lhz0 (lhz0 (lhz0 (lhz0 ?_)))
   refine optI (fun v1 h1 => ?_) (fun h1 => ?_)
   ·
    intro h2
    simp -failIfUnchanged [-List.getD_eq_getElem?_getD, -UInt8.toNat_or] at h2
    refine cndI ?_ ?_ <;> intro h3 <;> simp -failIfUnchanged [-List.getD_eq_getElem?_getD, -UInt8.toNat_or] at h3
    · exact opt_none hk (parse_mx h1 h3)
    have q := opt_some hk (parse_m h1 (by omega))
    exact q
   intro j2
   exact opt_none hk (parse_mn h1)
 exact hP.elim
def c45 (svs : List SV) (b : Option SB) (K : Out → Option SB → Prop) : Prop := match svs, b with
 | [.str s], none => s.length ≤ 1000000 ∧ optK (iParse s true true) (fun v => K (.val (.tup [.sl (.csels v), .nilif])) none) (K (.val (.tup [.sl (.csels []), .ifx])) none)
 | _, _ => False
noncomputable def W45 : Wk := ⟨[(70, .plain (c70 1002)), (71, .pure c71)], bodyOf Tryz.f45, false, false, [.tmp 2, .tmp 3], [50, 71], [], []⟩
theorem has45 : Has 45 := Has.of (fn := Tryz.f45) (by kernel_rfl) (by kernel_rfl) (by kernel_rfl)
theorem sat45 : Sat 45 c45 := by
 have hD : CxOk W45.D := (CxOk.cons has70 (sat70 1002) (CxOk.cons has71 sat71 CxOk.nil))
 refine W45.sat hD (fn := Tryz.f45) (by kernel_rfl) (by kernel_rfl) (by kernel_rfl) (Nat.le_of_ble_eq_true (by kernel_rfl)) fun svs b K hP => ?_
 unfold c45 at hP
 split at hP
 · rename_i s
   obtain ⟨h01, hk⟩ := hP
   refine W45.entry rfl (X := (s.length ≤ 1000000) ∧ (0 ≤ s.length) ∧ (0 ≤ 1001) ∧ (1002 ≤ 0 + 1002) ∧ optK ((iGrp s true (1001 - 0)) 0) (fun v1 => (0 < v1.2 ∧ v1.2 ≤ s.length) → cond (decide (v1.2 < s.length)) (K (.val (.tup [(.sl (.csels [])), .ifx])) none) (K (.val (.tup [(.sl (.csels v1.1)), .nilif])) none)) (∀ j2 : Nat, K (.val (.tup [(.sl (.csels [])), .ifx])) none)) (by kernel_rfl) ?_
   refine lhz0 (lhz0 (lhz0 (lhz0 ?_)))
   refine optI (fun v1 h1 => ?_) (fun h1 => ?_)
   ·
    intro h2
    simp -failIfUnchanged [-List.getD_eq_getElem?_getD, -UInt8.toNat_or] at h2
    refine cndI ?_ ?_ <;> intro h3 <;> simp -failIfUnchanged [-List.getD_eq_getElem?_getD, -UInt8.toNat_or] at h3
    · exact opt_none hk (parse_mx h1 h3)
    have q := opt_some hk (parse_m h1 (by omega))
    exact q
   intro j2
   exact opt_none hk (parse_mn h1)
 exact hP.elim
def c46 (svs : List SV) (b : Option SB) (K : Out → Option SB → Prop) : Prop := match svs, b with
 | [.str s], none => s.length ≤ 1000000 ∧ optK (iParse s false false) (fun v => K (.val (.tup [.cs (v.headD default), .nilif])) none) (K (.val (.tup [.nilif, .ifx])) none)
 | _, _ => False
noncomputable def W46 : Wk := ⟨[(71, .pure c71), (72, .plain (c72 1002))], bodyOf Tryz.f46, false, false, [.tmp 2, .tmp 3], [56, 71], [], []⟩
theorem has46 : Has 46 := Has.of (fn := Tryz.f46) (by kernel_rfl) (by kernel_rfl) (by kernel_rfl)
theorem sat46 : Sat 46 c46 := by
 have hD : CxOk W46.D := (CxOk.cons has71 sat71 (CxOk.cons has72 (sat72 1002 (sat70 1002)) CxOk.nil))
 refine W46.sat hD (fn := Tryz.f46) (by kernel_rfl) (by kernel_rfl) (by kernel_rfl) (Nat.le_of_ble_eq_true (by kernel_rfl)) fun svs b K hP => ?_
 unfold c46 at hP
 split at hP
 · rename_i s
   obtain ⟨h01, hk⟩ := hP
   refine W46.entry rfl (X := (s.length ≤ 1000000) ∧ (0 ≤ s.length) ∧ (0 ≤ 1001) ∧ (1002 ≤ 0 + 1002) ∧ optK (iSel (iGrp s false (1001 - 0)) s false 0) (fun v1 => (0 < v1.2 ∧ v1.2 ≤ s.length) → cond (decide (v1.2 < s.length)) (K (.val (.tup [.nilif, .ifx])) none) (K (.val (.tup [(.cs v1.1), .nilif])) none)) (∀ j2 : Nat, K (.val (.tup [.nilif, .ifx])) none)) (by kernel_rfl) ?_
   refine lhz0 (lhz0 (lhz0 (lhz0 ?_)))
   refine optI (fun v1 h1 => ?_) (fun h1 => ?_)
   ·
    intro h2
    simp -failIfUnchanged [-List.getD_eq_getElem?_getD, -UInt8.toNat_or] at h2
    refine cndI ?_ ?_ <;> intro h3 <;> simp -failIfUnchanged [-List.getD_eq_getElem?_getD, -UInt8.toNat_or] at h3
    · exact opt_none hk (parse_ox h1 h3)
    have q := opt_some hk (parse_o h1 (by omega))
    exact q
   intro j2
   exact opt_none hk (parse_on h1)
 exact hP.elim
def c47 (svs : List SV) (b : Option SB) (K : Out → Option SB → Prop) : Prop := match svs, b with
 | [.str s], none => s.length ≤ 1000000 ∧ optK (iParse s false true) (fun v => K (.val (.tup [.cs (v.headD default), .nilif])) none) (K (.val (.tup [.nilif, .ifx])) none)
 | _, _ => False
noncomputable def W47 : Wk := ⟨[(71, .pure c71), (72, .plain (c72 1002))], bodyOf Tryz.f47, false, false, [.tmp 2, .tmp 3], [56, 71], [], []⟩
theorem has47 : Has 47 := Has.of (fn := Tryz.f47) (by kernel_rfl) (by kernel_rfl) (by kernel_rfl)
theorem sat47 : Sat 47 c47 := by
 have hD : CxOk W47.D := (CxOk.cons has71 sat71 (CxOk.cons has72 (sat72 1002 (sat70 1002)) CxOk.nil))
 refine W47.sat hD (fn := Tryz.f47) (by kernel_rfl) (by kernel_rfl) (by kernel_rfl) (Nat.le_of_ble_eq_true (by kernel_rfl)) fun svs b K hP => ?_
 unfold c47 at hP
 split at hP
 · rename_i s
   obtain ⟨h01, hk⟩ := hP
   refine W47.entry rfl (X := (s.length ≤ 1000000) ∧ (0 ≤ s.length) ∧ (0 ≤ 1001) ∧ (1002 ≤ 0 + 1002) ∧ optK (iSel (iGrp s true (1001 - 0)) s true 0) (fun v1 => (0 < v1.2 ∧ v1.2 ≤ s.length) → cond (decide (v1.2 < s.length)) (K (.val (.tup [.nilif, .ifx])) none) (K (.val (.tup [(.cs v1.1), .nilif])) none)) (∀ j2 : Nat, K (.val (.tup [.nilif, .ifx])) none)) (by kernel_rfl) ?_
   refine lhz0 (lhz0 (lhz0 (lhz0 ?_)))
   refine optI (fun v1 h1 => ?_) (fun h1 => ?_)
   ·
    intro h2
    simp -failIfUnchanged [-List.getD_eq_getElem?_getD, -UInt8.toNat_or] at h2
    refine cndI ?_ ?_ <;> intro h3 <;> simp -failIfUnchanged [-List.getD_eq_getElem?_getD, -UInt8.toNat_or] at h3
    · exact opt_none hk (parse_ox h1 h3)
    have q := opt_some hk (parse_o h1 (by omega))
    exact q
   intro j2
   exact opt_none hk (parse_on h1)
 exact hP.elim
def c25 (svs : List SV) (b : Option SB) (K : Out → Option SB → Prop) : Prop := match svs, b with
 | [.str s, .bool m, .bool p], none => s.length ≤ 1000000 ∧ cond m (optK (iParse s true p) (fun v => K (.val (.tup [.sl (.csels v), .bool true])) none) (K (.val (.tup [.sl (.csels []), .bool false])) none))
  (optK (iParse s false p) (fun v => K (.val (.tup [.sl (.csels [v.headD default]), .bool true])) none) (K (.val (.tup [.undef, .bool false])) none))
 | _, _ => False
noncomputable def W25 : Wk := ⟨[(44, .plain c44), (45, .plain c45), (46, .plain c46), (47, .plain c47)], bodyOf Tryz.f25, false, false, [.tmp 6, .tmp 7], [50, 4], [], []⟩
theorem has25 : Has 25 := Has.of (fn := Tryz.f25) (by kernel_rfl) (by kernel_rfl) (by kernel_rfl)
theorem sat25 : Sat 25 c25 := by
 have hD : CxOk W25.D := (CxOk.cons has44 sat44 (CxOk.cons has45 sat45 (CxOk.cons has46 sat46 (CxOk.cons has47 sat47 CxOk.nil))))
 refine W25.sat hD (fn := Tryz.f25) (by kernel_rfl) (by kernel_rfl) (by kernel_rfl) (Nat.le_of_ble_eq_true (by kernel_rfl)) fun svs b K hP => ?_
 unfold c25 at hP
 split at hP
 · rename_i s m p
   obtain ⟨h01, hk⟩ := hP
   refine W25.entry rfl (X := have a0 := s.length ≤ 1000000; have a1 : Out := .val (.tup [(.sl (.csels [])), (.bool false)]); cond m (cond p (a0 ∧ optK (iParse s true true) (fun v1 => K (.val (.tup [(.sl (.csels v1)), (.bool true)])) none) (K a1 none)) (a0 ∧ optK (iParse s true false) (fun v2 => K (.val (.tup [(.sl (.csels v2)), (.bool true)])) none) (K a1 none))) (cond p (a0 ∧ optK (iParse s false true) (fun v3 => K (.val (.tup [(.sl (.csels [v3.headD default])), (.bool true)])) none) (K (.val (.tup [.undef, (.bool false)])) none)) (a0 ∧ optK (iParse s false false) (fun v4 => K (.val (.tup [(.sl (.csels [v4.headD default])), (.bool true)])) none) (K (.val (.tup [.undef, (.bool false)])) none)))) (by kernel_rfl) ?_
   refine cndI ?_ ?_ <;> intro h1 <;> simp -failIfUnchanged [-List.getD_eq_getElem?_getD, -UInt8.toNat_or] at h1
   · refine cndI (fun h2 => ?_) (fun h2 => ?_)
     · simp -failIfUnchanged [-List.getD_eq_getElem?_getD, -UInt8.toNat_or] at h2
       refine lhz0 ?_
       refine optI (fun v1 h3 => ?_) (fun h3 => ?_)
       ·
        subst h1
        subst h2
        rw [cond_true] at hk
        have q := opt_some hk h3
        exact q
       subst h1
       subst h2
       rw [cond_true] at hk
       have q := opt_none hk h3
       exact q
     simp -failIfUnchanged [-List.getD_eq_getElem?_getD, -UInt8.toNat_or] at h2
     refine lhz0 ?_
     refine optI (fun v2 h3 => ?_) (fun h3 => ?_)
     ·
      subst h1
      subst h2
      rw [cond_true] at hk
      have q := opt_some hk h3
      exact q
     subst h1
     subst h2
     rw [cond_true] at hk
     have q := opt_none hk h3
     exact q
   refine cndI (fun h2 => ?_) (fun h2 => ?_)
   · simp -failIfUnchanged [-List.getD_eq_getElem?_getD, -UInt8.toNat_or] at h2
     refine lhz0 ?_
     refine optI (fun v3 h3 => ?_) (fun h3 => ?_)
     ·
      subst h1
      subst h2
      rw [cond_false] at hk
      have q := opt_some hk h3
      exact q
     subst h1
     subst h2
     rw [cond_false] at hk
     have q := opt_none hk h3
     exact q
   simp -failIfUnchanged [-List.getD_eq_getElem?_getD, -UInt8.toNat_or] at h2
   refine lhz0 ?_
   refine optI (fun v4 h3 => ?_) (fun h3 => ?_)
   ·
    subst h1
    subst h2
    rw [cond_false] at hk
    have q := opt_some hk h3
    exact q
   subst h1
   subst h2
   rw [cond_false] at hk
   have q := opt_none hk h3
   exact q
 exact hP.elim
end
section
open Go Go.RowKit
set_option maxRecDepth 20000
def signN (l : List Bs) (x : Bs) : Nat := if l.idxOf x < l.length then l.idxOf x + 1 else 0
theorem signAt_N (l : List Bs) (x : Bs) : signAt l x = (signN l x : Int) := by unfold signAt signN; split <;> simp
def flagN (l t : Bool) : Nat := (if l = true then 1 else 0) + (if t = true then 2 else 0)
theorem signN_hit {l : List Bs} {x : Bs} {i : Nat} (h1 : i < l.length) (h2 : l.getD i [] = x) (h3 : ∀ j, j < i → ¬ l.getD j [] = x) : signN l x = i + 1 := by
 have e : l.idxOf x = i := by
  induction l generalizing i with
  | nil => simp at h1
  | cons y l ih =>
   by_cases hy : y = x
   · subst hy
     rcases i with _ | i
     · simp
     exact absurd rfl (h3 0 (by omega))
   rcases i with _ | i
   · exact absurd h2 hy
   have := ih (i := i) (by simpa using h1) (by simpa using h2) (fun j hj => by simpa using h3 (j + 1) (by omega))
   rw [List.idxOf_cons, beq_false_of_ne hy]
   simp [this]
 unfold signN; rw [e, if_pos h1]
theorem signN_no {l : List Bs} {x : Bs} (h3 : ∀ j, j < l.length → ¬ l.getD j [] = x) : signN l x = 0 := by
 unfold signN; rw [if_neg]
 intro h
 refine h3 _ h ?_
 rw [List.getD_eq_getElem?_getD, List.getElem?_eq_getElem h]
 simp
def c73 (svs : List SV) (b : Option SB) : QR := match svs, b with
 | [.sl (.strs l), .str x], none => some ([l.length ≤ 1000000], .nat (signN l x))
 | _, _ => none
noncomputable def W73 : Wk := ⟨[], bodyOf Tryz.f73, false, false, [.tmp 4], [3], [(2, 387)], []⟩
theorem has73 : Has 73 := Has.of (fn := Tryz.f73) (by kernel_rfl) (by kernel_rfl) (by kernel_rfl)
theorem liz0 {p q : Prop} (k : q) (h : p := by first | omega | (simp; done) | (simp; omega) | (simp; assumption)) : p ∧ q := ⟨h, k⟩
theorem sat73 : Sat 73 (pureS c73) := by
 have hD : CxOk W73.D := CxOk.nil
 refine W73.sat hD (fn := Tryz.f73) (by kernel_rfl) (by kernel_rfl) (by kernel_rfl) (Nat.le_of_ble_eq_true (by kernel_rfl)) fun svs b K hP => ?_
 obtain ⟨ps, v, e, hp, hk⟩ := pureS_inv hP
 unfold c73 at e
 split at e
 · rename_i l x
   cases e
   obtain ⟨h01, _⟩ := hp
   have L2 : ∀ (mm : Nat) (i : Nat), l.length - i = mm → (i ≤ l.length ∧ ∀ j, j < i → ¬ l.getD j [] = x) → W73.L K 2 (mkS 20 [(0, (.sl (.strs l))), (1, (.str x)), (7, (.nat l.length)), (8, (.nat i))] [] 1) := by
    intro mm
    induction mm using Nat.strongRecOn with
    | _ mm ih =>
     intro i hm hI
     obtain ⟨k1, k2⟩ := hI
     refine W73.atL hD (X := cond (decide (i < l.length)) ((i < l.length) ∧ cond (decide (l.getD i [] = x)) ((i + 1 ≤ 9223372036854775807) ∧ K (.val (.nat (i + 1))) none) ((i + 1 ≤ 9223372036854775807) ∧ (W73).L K 2 (mkS 20 [(0, (.sl (.strs l))), (1, (.str x)), (7, (.nat l.length)), (8, (.nat (i + 1)))] [] 1))) (K (.val (.nat 0)) none)) (by kernel_rfl) ?_
     refine cndI ?_ ?_ <;> intro h1 <;> simp -failIfUnchanged [-List.getD_eq_getElem?_getD, -UInt8.toNat_or] at h1
     · refine liz0 ?_
       refine cndI ?_ ?_ <;> intro h2 <;> simp -failIfUnchanged [-List.getD_eq_getElem?_getD, -UInt8.toNat_or] at h2
       · refine liz0 ?_
         rw [signN_hit h1 h2 k2] at hk
         exact hk
       refine liz0 ?_
       exact ih _ (by omega) _ rfl ⟨by omega, fun j hj => by
        rcases (by omega : j < i ∨ j = i) with q | q
        · exact k2 j q
        subst q; exact h2⟩
     rw [signN_no (fun j hj => k2 j (by omega))] at hk
     exact hk
   refine W73.entry rfl (X := (W73).L K 2 (mkS 20 [(0, (.sl (.strs l))), (1, (.str x)), (7, (.nat l.length)), (8, (.nat 0))] [] 1)) (by kernel_rfl) ?_
   exact L2 _ _ rfl ⟨by omega, fun j hj => by omega⟩
 cases e
def c74 (svs : List SV) (b : Option SB) : QR := match svs, b with
 | [], none => some ([], .sl (.strs [[], [61], [33, 61], [126, 61], [124, 61], [94, 61], [36, 61], [42, 61]]))
 | _, _ => none
noncomputable def W74 : Wk := ⟨[], bodyOf Tryz.f74, false, false, [.tmp 0], [83], [], []⟩
theorem has74 : Has 74 := Has.of (fn := Tryz.f74) (by kernel_rfl) (by kernel_rfl) (by kernel_rfl)
theorem sat74 : Sat 74 (pureS c74) := by
 have hD : CxOk W74.D := CxOk.nil
 refine W74.sat hD (fn := Tryz.f74) (by kernel_rfl) (by kernel_rfl) (by kernel_rfl) (Nat.le_of_ble_eq_true (by kernel_rfl)) fun svs b K hP => ?_
 obtain ⟨ps, v, e, hp, hk⟩ := pureS_inv hP
 unfold c74 at e
 split at e
 ·
  cases e
  refine W74.entry rfl (X := K (.val (.sl (.strs [[], [61], [33, 61], [126, 61], [124, 61], [94, 61], [36, 61], [42, 61]]))) none) (by kernel_rfl) ?_
  exact hk
 cases e
def c76 (svs : List SV) (b : Option SB) : QR := match svs, b with
 | [], none => some ([], .sl (.strs [[32], [62], [43], [126]]))
 | _, _ => none
noncomputable def W76 : Wk := ⟨[], bodyOf Tryz.f76, false, false, [.tmp 0], [83], [], []⟩
theorem has76 : Has 76 := Has.of (fn := Tryz.f76) (by kernel_rfl) (by kernel_rfl) (by kernel_rfl)
theorem sat76 : Sat 76 (pureS c76) := by
 have hD : CxOk W76.D := CxOk.nil
 refine W76.sat hD (fn := Tryz.f76) (by kernel_rfl) (by kernel_rfl) (by kernel_rfl) (Nat.le_of_ble_eq_true (by kernel_rfl)) fun svs b K hP => ?_
 obtain ⟨ps, v, e, hp, hk⟩ := pureS_inv hP
 unfold c76 at e
 split at e
 ·
  cases e
  refine W76.entry rfl (X := K (.val (.sl (.strs [[32], [62], [43], [126]]))) none) (by kernel_rfl) ?_
  exact hk
 cases e
def c75 (svs : List SV) (b : Option SB) : QR := match svs, b with
 | [.bool l, .bool t], none => some ([], .nat (flagN l t))
 | _, _ => none
noncomputable def W75 : Wk := ⟨[], bodyOf Tryz.f75, false, false, [.tmp 4], [3], [], []⟩
theorem has75 : Has 75 := Has.of (fn := Tryz.f75) (by kernel_rfl) (by kernel_rfl) (by kernel_rfl)
theorem sat75 : Sat 75 (pureS c75) := by
 have hD : CxOk W75.D := CxOk.nil
 refine W75.sat hD (fn := Tryz.f75) (by kernel_rfl) (by kernel_rfl) (by kernel_rfl) (Nat.le_of_ble_eq_true (by kernel_rfl)) fun svs b K hP => ?_
 obtain ⟨ps, v, e, hp, hk⟩ := pureS_inv hP
 unfold c75 at e
 split at e
 · rename_i l t
   cases e
   refine W75.entry rfl (X := cond l ((1 ≤ 9223372036854775807) ∧ cond t ((3 ≤ 9223372036854775807) ∧ K (.val (.nat 3)) none) (K (.val (.nat 1)) none)) (cond t ((2 ≤ 9223372036854775807) ∧ K (.val (.nat 2)) none) (K (.val (.nat 0)) none))) (by kernel_rfl) ?_
   refine cndI ?_ ?_ <;> intro h1 <;> simp -failIfUnchanged [-List.getD_eq_getElem?_getD, -UInt8.toNat_or] at h1
   · refine liz0 ?_
     refine cndI ?_ ?_ <;> intro h2 <;> simp -failIfUnchanged [-List.getD_eq_getElem?_getD, -UInt8.toNat_or] at h2
     · refine liz0 ?_
       subst h1
       subst h2
       exact hk
     subst h1
     subst h2
     exact hk
   refine cndI (fun h2 => ?_) (fun h2 => ?_)
   · simp -failIfUnchanged [-List.getD_eq_getElem?_getD, -UInt8.toNat_or] at h2
     refine liz0 ?_
     subst h1
     subst h2
     exact hk
   simp -failIfUnchanged [-List.getD_eq_getElem?_getD, -UInt8.toNat_or] at h2
   subst h1
   subst h2
   exact hk
 cases e
def sizeAt (l : List SelD) (i : Nat) : List SelD := l.set i { (l.getD i default) with size := ((l.length - i : Nat) : Int) }
theorem conv_agg {cs cs' : List SV} (h : wkL cs cs') (ω : Wit) (v : Value) (hr : Rel ω (.agg cs) v) : Rel ω (.agg cs') v := by
 obtain ⟨h1, h2⟩ := wkL_ok h
 cases hr with
 | agg _ vs hn hh =>
  refine .agg _ vs (by omega) fun i s u e1 e2 => ?_
  obtain ⟨t, e3, h3⟩ := h2 i s e1
  exact h3 ω u (hh i t u e3 e2)
def Cv (s s' : SV) : Prop := ∀ ω v, Rel ω s v → Rel ω s' v
def c48 (svs : List SV) (b : Option SB) (K : Out → Option SB → Prop) : Prop := match svs, b with
 | [.own 0, .nat i], some (.row (.sels l) true) => l.length ≤ 1000000000 ∧ i < l.length ∧ ∀ b' : Option SB, K (.row (.sels (sizeAt l i))) b'
 | _, _ => False
noncomputable def W48 : Wk := ⟨[], bodyOf Tryz.f48, true, true, [.tmp 4], [22], [], []⟩
theorem has48 : Has 48 := Has.of (fn := Tryz.f48) (by kernel_rfl) (by kernel_rfl) (by kernel_rfl)
theorem sat48 : Sat 48 c48 := by
 have hD : CxOk W48.D := CxOk.nil
 refine W48.sat hD (fn := Tryz.f48) (by kernel_rfl) (by kernel_rfl) (by kernel_rfl) (Nat.le_of_ble_eq_true (by kernel_rfl)) fun svs b K hP => ?_
 unfold c48 at hP
 split at hP
 · rename_i i l
   obtain ⟨h01, h02, hk⟩ := hP
   refine W48.entry rfl (X := have a0 : RV := .sels (l.set i { l.getD i default with size := ((l.length - i : Nat) : Int) }); (i ≤ l.length ∧ l.length ≤ 9223372036854775807) ∧ (i < l.length) ∧ (i < l.length) ∧ K (.row a0) (some (.row a0 true))) (by kernel_rfl) ?_
   refine liz0 ?_
   refine liz0 ?_
   refine liz0 ?_
   exact hk _
 exact hP.elim
end
end Go.Proofs.YtengepcafdnalaaGreatDoor
