/-
  Parts of the proof that the law FnParseExact holds for every input (texts Kk). Conditions: none.
-/
import Derived.Test.YtengepcafdnalaaGreatDoorM28
namespace Go.Proofs.YtengepcafdnalaaGreatDoor
section
open Go Go.RowKit
set_option maxRecDepth 20000
def p6 (n : Bs) : Prop := n ≠ [102, 105, 114, 115, 116, 45, 99, 104, 105, 108, 100] ∧ n ≠ [108, 97, 115, 116, 45, 99, 104, 105, 108, 100] ∧ n ≠ [102, 105, 114, 115, 116, 45, 111, 102, 45, 116, 121, 112, 101] ∧ n ≠ [108, 97, 115, 116, 45, 111, 102, 45, 116, 121, 112, 101] ∧ n ≠ [111, 110, 108, 121, 45, 99, 104, 105, 108, 100] ∧ n ≠ [111, 110, 108, 121, 45, 111, 102, 45, 116, 121, 112, 101]
def names7 : List Bs := [[101, 109, 112, 116, 121], [114, 111, 111, 116], [105, 110, 112, 117, 116], [108, 105, 110, 107], [101, 110, 97, 98, 108, 101, 100], [100, 105, 115, 97, 98, 108, 101, 100], [99, 104, 101, 99, 107, 101, 100]]
theorem names7_at {n : Bs} {i : Nat} (h : i < 7) (e : names7.getD i [] = n) : sPlain n = some (nodeK ((8 + i : Nat) : Int)) := by
 subst e
 obtain rfl | rfl | rfl | rfl | rfl | rfl | rfl : i = 0 ∨ i = 1 ∨ i = 2 ∨ i = 3 ∨ i = 4 ∨ i = 5 ∨ i = 6 := by omega
 all_goals kernel_rfl
theorem names7_no {n : Bs} (h6 : p6 n) (h : ∀ j, j < 7 → ¬ names7.getD j [] = n) : sPlain n = none := by
 obtain ⟨a1, a2, a3, a4, a5, a6⟩ := h6
 unfold sPlain
 rw [if_neg a1, if_neg a2, if_neg a3, if_neg a4, if_neg a5, if_neg a6, if_neg (fun e => h 0 (by omega) e.symm), if_neg (fun e => h 1 (by omega) e.symm), if_neg (fun e => h 2 (by omega) e.symm), if_neg (fun e => h 3 (by omega) e.symm),
  if_neg (fun e => h 4 (by omega) e.symm), if_neg (fun e => h 5 (by omega) e.symm), if_neg (fun e => h 6 (by omega) e.symm)]
def c124i : Spec := fun svs b K => match svs, b with
 | [.str n], none => optK (sPlain n) (fun x => ∀ a, toSel a = some x → K (.val (.tup [a, .bool true])) none) (∀ a, toSel a = some default → K (.val (.tup [a, .bool false])) none)
 | _, _ => False
noncomputable def W124 : Wk := ⟨[], bodyOf Tryz.f124, false, false, [.cell 2 33, .tmp 3], [33, 4], [(17, 117)], []⟩
theorem has124 : Has 124 := Has.of (fn := Tryz.f124) (by kernel_rfl) (by kernel_rfl) (by kernel_rfl)
theorem kkz0 {p q : Prop} (k : q) (h : p := by first | omega | (simp; done) | (simp; omega)) : p ∧ q := ⟨h, k⟩
theorem sat124i : Sat 124 c124i := by
 have hD : CxOk W124.D := CxOk.nil
 refine W124.sat hD (fn := Tryz.f124) (by kernel_rfl) (by kernel_rfl) (by kernel_rfl) (by decide) fun svs b K hP => ?_
 unfold c124i at hP
 split at hP
 · rename_i n
   have hk := hP
   have L17 : ∀ (mm : Nat) (i : Nat), 7 - i = mm → (i ≤ 7 ∧ p6 n ∧ ∀ j, j < i → ¬ names7.getD j [] = n) → W124.L K 17 (mkS 46 [(0, (.str n)), (2, (.ptr 1 0)), (4, (.own 2)), (5, (.own 3)), (6, (.nat i))] [(3, .row (.ints [8, 9, 10, 11, 12, 13, 14]) true), (2, .row (.strs names7) true), (1, .blk 33 [(.nat 0), (.nat 0), (.str []), (.str []), (.nat 0), (.nat 0), (.nat 0), (.nat 0)])] 4) := by
    intro mm
    induction mm using Nat.strongRecOn with
    | _ mm ih =>
     intro i hm hI
     obtain ⟨k1, k2, k3⟩ := hI
     have q7 : names7.length = 7 := rfl
     refine W124.atL hD (X := cond (decide (i < names7.length)) ((i < names7.length) ∧ (i < names7.length) ∧ cond (decide (names7.getD i [] = n)) ((i < 7) ∧ (i < 7) ∧ K (.val (.tup [(.agg [(.nat (([8, 9, 10, 11, 12, 13, 14] : List Nat).getD i 0)), (.nat 0), (.str []), (.str []), (.nat 0), (.nat 0), (.nat 0), (.nat 0)]), (.bool true)])) none) ((i + 1 ≤ 9223372036854775807) ∧ (W124).L K 17 (mkS 46 [(0, (.str n)), (2, (.ptr 1 0)), (4, (.own 2)), (5, (.own 3)), (6, (.nat (i + 1)))] [(3, .row (.ints [8, 9, 10, 11, 12, 13, 14]) true), (2, .row (.strs names7) true), (1, .blk 33 [(.nat 0), (.nat 0), (.str []), (.str []), (.nat 0), (.nat 0), (.nat 0), (.nat 0)])] 4))) (K (.val (.tup [(.agg [(.nat 0), (.nat 0), (.str []), (.str []), (.nat 0), (.nat 0), (.nat 0), (.nat 0)]), (.bool false)])) none)) (by kernel_rfl) ?_
     refine cndI ?_ ?_ <;> intro h1 <;> simp -failIfUnchanged [-List.getD_eq_getElem?_getD] at h1
     · refine kkz0 ?_
       refine kkz0 ?_
       refine cndI ?_ ?_ <;> intro h2 <;> simp -failIfUnchanged [-List.getD_eq_getElem?_getD] at h2
       · refine kkz0 ?_
         refine kkz0 ?_
         have e := names7_at (by omega) h2
         rw [e] at hk
         refine hk _ ?_
         obtain rfl | rfl | rfl | rfl | rfl | rfl | rfl : i = 0 ∨ i = 1 ∨ i = 2 ∨ i = 3 ∨ i = 4 ∨ i = 5 ∨ i = 6 := by omega
         all_goals rfl
       refine kkz0 ?_
       exact ih _ (by omega) (i + 1) rfl ⟨by omega, k2, fun j hj => by
        by_cases e : j = i
        · rw [e]; exact h2
        exact k3 j (by omega)⟩
     rw [names7_no k2 (fun j hj => k3 j (by omega))] at hk
     exact hk _ rfl
   refine W124.entry rfl (X := cond (decide (n = [102, 105, 114, 115, 116, 45, 99, 104, 105, 108, 100])) (K (.val (.tup [(.agg [(.nat 6), (.nat 0), (.str []), (.str []), (.nat 0), (.nat 1), (.nat 0), (.nat 0)]), (.bool true)])) none) (cond (decide (n = [108, 97, 115, 116, 45, 99, 104, 105, 108, 100])) (K (.val (.tup [(.agg [(.nat 6), (.nat 0), (.str []), (.str []), (.nat 0), (.nat 1), (.nat 1), (.nat 0)]), (.bool true)])) none) (cond (decide (n = [102, 105, 114, 115, 116, 45, 111, 102, 45, 116, 121, 112, 101])) (K (.val (.tup [(.agg [(.nat 6), (.nat 0), (.str []), (.str []), (.nat 0), (.nat 1), (.nat 2), (.nat 0)]), (.bool true)])) none) (cond (decide (n = [108, 97, 115, 116, 45, 111, 102, 45, 116, 121, 112, 101])) (K (.val (.tup [(.agg [(.nat 6), (.nat 0), (.str []), (.str []), (.nat 0), (.nat 1), (.nat 3), (.nat 0)]), (.bool true)])) none) (cond (decide (n = [111, 110, 108, 121, 45, 99, 104, 105, 108, 100])) (K (.val (.tup [(.agg [(.nat 7), (.nat 0), (.str []), (.str []), (.nat 0), (.nat 0), (.nat 0), (.nat 0)]), (.bool true)])) none) (cond (decide (n = [111, 110, 108, 121, 45, 111, 102, 45, 116, 121, 112, 101])) (K (.val (.tup [(.agg [(.nat 7), (.nat 0), (.str []), (.str []), (.nat 0), (.nat 0), (.nat 2), (.nat 0)]), (.bool true)])) none) ((W124).L K 17 (mkS 46 [(0, (.str n)), (2, (.ptr 1 0)), (4, (.own 2)), (5, (.own 3)), (6, (.nat 0))] [(3, .row (.ints [8, 9, 10, 11, 12, 13, 14]) true), (2, .row (.strs [[101, 109, 112, 116, 121], [114, 111, 111, 116], [105, 110, 112, 117, 116], [108, 105, 110, 107], [101, 110, 97, 98, 108, 101, 100], [100, 105, 115, 97, 98, 108, 101, 100], [99, 104, 101, 99, 107, 101, 100]]) true), (1, .blk 33 [(.nat 0), (.nat 0), (.str []), (.str []), (.nat 0), (.nat 0), (.nat 0), (.nat 0)])] 4)))))))) (by kernel_rfl) ?_
   refine cndI ?_ ?_ <;> intro h1 <;> simp -failIfUnchanged [-List.getD_eq_getElem?_getD] at h1
   · have e : sPlain n = some ⟨6, 0, [], [], 0, 1, 0, 0⟩ := by subst h1; kernel_rfl
     rw [e] at hk
     exact hk _ rfl
   refine cndI (fun h2 => ?_) (fun h2 => ?_)
   · simp -failIfUnchanged [-List.getD_eq_getElem?_getD] at h2
     have e : sPlain n = some ⟨6, 0, [], [], 0, 1, 1, 0⟩ := by subst h2; kernel_rfl
     rw [e] at hk
     exact hk _ rfl
   simp -failIfUnchanged [-List.getD_eq_getElem?_getD] at h2
   refine cndI ?_ ?_ <;> intro h3 <;> simp -failIfUnchanged [-List.getD_eq_getElem?_getD] at h3
   · have e : sPlain n = some ⟨6, 0, [], [], 0, 1, 2, 0⟩ := by subst h3; kernel_rfl
     rw [e] at hk
     exact hk _ rfl
   refine cndI (fun h4 => ?_) (fun h4 => ?_)
   · simp -failIfUnchanged [-List.getD_eq_getElem?_getD] at h4
     have e : sPlain n = some ⟨6, 0, [], [], 0, 1, 3, 0⟩ := by subst h4; kernel_rfl
     rw [e] at hk
     exact hk _ rfl
   simp -failIfUnchanged [-List.getD_eq_getElem?_getD] at h4
   refine cndI ?_ ?_ <;> intro h5 <;> simp -failIfUnchanged [-List.getD_eq_getElem?_getD] at h5
   · have e : sPlain n = some ⟨7, 0, [], [], 0, 0, 0, 0⟩ := by subst h5; kernel_rfl
     rw [e] at hk
     exact hk _ rfl
   refine cndI (fun h6 => ?_) (fun h6 => ?_)
   · simp -failIfUnchanged [-List.getD_eq_getElem?_getD] at h6
     have e : sPlain n = some ⟨7, 0, [], [], 0, 0, 2, 0⟩ := by subst h6; kernel_rfl
     rw [e] at hk
     exact hk _ rfl
   simp -failIfUnchanged [-List.getD_eq_getElem?_getD] at h6
   exact L17 _ 0 rfl ⟨by omega, ⟨h1, h2, h3, h4, h5, h6⟩, fun j hj => by omega⟩
 exact hP.elim
def c125 (svs : List SV) (b : Option SB) : QR := match svs, b with
 | [.str n], none => some ([], .bool (decide (n ∈ openNames)))
 | _, _ => none
noncomputable def W125 : Wk := ⟨[], bodyOf Tryz.f125, false, false, [.tmp 2], [4], [(3, 25)], []⟩
theorem has125 : Has 125 := Has.of (fn := Tryz.f125) (by kernel_rfl) (by kernel_rfl) (by kernel_rfl)
theorem sat125 : Sat 125 (pureS c125) := by
 have hD : CxOk W125.D := CxOk.nil
 refine W125.sat hD (fn := Tryz.f125) (by kernel_rfl) (by kernel_rfl) (by kernel_rfl) (by decide) fun svs b K hP => ?_
 obtain ⟨ps, v, e, hp, hk⟩ := pureS_inv hP
 unfold c125 at e
 split at e
 · rename_i n
   cases e
   have L3 : ∀ (mm : Nat) (i : Nat), openNames.length - i = mm → (i ≤ openNames.length ∧ ∀ j, j < i → ¬ openNames.getD j [] = n) → W125.L K 3 (mkS 18 [(0, (.str n)), (3, (.own 1)), (4, (.nat i))] [(1, .row (.strs openNames) true)] 2) := by
    intro mm
    induction mm using Nat.strongRecOn with
    | _ mm ih =>
     intro i hm hI
     obtain ⟨k1, k2⟩ := hI
     have q7 : openNames.length = 66 := rfl
     refine W125.atL hD (X := cond (decide (i < openNames.length)) ((i < openNames.length) ∧ (i < openNames.length) ∧ cond (decide (openNames.getD i [] = n)) (K (.val (.bool true)) none) ((i + 1 ≤ 9223372036854775807) ∧ (W125).L K 3 (mkS 18 [(0, (.str n)), (3, (.own 1)), (4, (.nat (i + 1)))] [(1, .row (.strs openNames) true)] 2))) (K (.val (.bool false)) none)) (by kernel_rfl) ?_
     refine cndI ?_ ?_ <;> intro h1 <;> simp -failIfUnchanged [-List.getD_eq_getElem?_getD] at h1
     · refine kkz0 ?_
       refine kkz0 ?_
       refine cndI ?_ ?_ <;> intro h2 <;> simp -failIfUnchanged [-List.getD_eq_getElem?_getD] at h2
       · rw [decide_eq_true (show n ∈ openNames from by rw [← h2, List.getD_eq_getElem?_getD, List.getElem?_eq_getElem h1]; exact List.getElem_mem h1)] at hk
         exact hk
       refine kkz0 ?_
       exact ih _ (by omega) (i + 1) rfl ⟨by omega, fun j hj => by
        by_cases e : j = i
        · rw [e]; exact h2
        exact k2 j (by omega)⟩
     rw [decide_eq_false (show ¬ n ∈ openNames from fun hm => by
      obtain ⟨j, hj, e⟩ := List.mem_iff_getElem.1 hm
      exact k2 j (by omega) (by rw [List.getD_eq_getElem?_getD, List.getElem?_eq_getElem hj]; exact e))] at hk
     exact hk
   refine W125.entry rfl (X := (W125).L K 3 (mkS 18 [(0, (.str n)), (3, (.own 1)), (4, (.nat 0))] [(1, .row (.strs [[118, 105, 115, 105, 116, 101, 100], [104, 111, 118, 101, 114], [97, 99, 116, 105, 118, 101], [102, 111, 99, 117, 115], [116, 97, 114, 103, 101, 116], [109, 97, 116, 99, 104, 101, 115], [109, 97, 116, 99, 104, 101, 115, 111, 119, 110], [105, 115], [119, 104, 101, 114, 101], [115, 99, 111, 112, 101], [102, 105, 114, 115, 116, 45, 108, 105, 110, 101], [102, 105, 114, 115, 116, 45, 108, 101, 116, 116, 101, 114], [98, 101, 102, 111, 114, 101], [97, 102, 116, 101, 114], [97, 110, 121, 45, 108, 105, 110, 107], [102, 111, 99, 117, 115, 45, 119, 105, 116, 104, 105, 110], [102, 111, 99, 117, 115, 45, 118, 105, 115, 105, 98, 108, 101], [114, 101, 113, 117, 105, 114, 101, 100], [111, 112, 116, 105, 111, 110, 97, 108], [114, 101, 97, 100, 45, 111, 110, 108, 121], [114, 101, 97, 100, 45, 119, 114, 105, 116, 101], [100, 101, 102, 97, 117, 108, 116], [118, 97, 108, 105, 100], [105, 110, 118, 97, 108, 105, 100], [105, 110, 100, 101, 116, 101, 114, 109, 105, 110, 97, 116, 101], [100, 101, 102, 105, 110, 101, 100], [102, 117, 108, 108, 115, 99, 114, 101, 101, 110], [104, 111, 115, 116], [108, 111, 99, 97, 108, 45, 108, 105, 110, 107], [99, 117, 114, 114, 101, 110, 116], [112, 97, 115, 116], [102, 117, 116, 117, 114, 101], [100, 105, 114], [110, 116, 104, 45, 99, 111, 108], [110, 116, 104, 45, 108, 97, 115, 116, 45, 99, 111, 108], [112, 108, 97, 99, 101, 104, 111, 108, 100, 101, 114, 45, 115, 104, 111, 119, 110], [105, 110, 45, 114, 97, 110, 103, 101], [111, 117, 116, 45, 111, 102, 45, 114, 97, 110, 103, 101], [112, 97, 114, 101, 110, 116], [98, 97, 99, 107, 100, 114, 111, 112], [99, 117, 101], [103, 114, 97, 109, 109, 97, 114, 45, 101, 114, 114, 111, 114], [109, 97, 114, 107, 101, 114], [112, 108, 97, 99, 101, 104, 111, 108, 100, 101, 114], [115, 101, 108, 101, 99, 116, 105, 111, 110], [115, 112, 101, 108, 108, 105, 110, 103, 45, 101, 114, 114, 111, 114], [104, 101, 97, 100, 101, 114], [98, 117, 116, 116, 111, 110], [99, 104, 101, 99, 107, 98, 111, 120], [114, 97, 100, 105, 111], [115, 117, 98, 109, 105, 116], [116, 101, 120, 116], [105, 109, 97, 103, 101], [102, 105, 108, 101], [112, 97, 115, 115, 119, 111, 114, 100], [114, 101, 115, 101, 116], [115, 101, 108, 101, 99, 116, 101, 100], [104, 105, 100, 100, 101, 110], [118, 105, 115, 105, 98, 108, 101], [102, 105, 114, 115, 116], [108, 97, 115, 116], [101, 118, 101, 110], [111, 100, 100], [101, 113], [103, 116], [108, 116]]) true)] 2)) (by kernel_rfl) ?_
   exact L3 _ 0 rfl ⟨by omega, fun j hj => by omega⟩
 cases e
def c126i : Spec := fun svs b K => match svs, b with
 | [.str n], none => ∀ a, toI a = some (nthFlagS n) → K (.val a) none
 | _, _ => False
noncomputable def W126 : Wk := ⟨[], bodyOf Tryz.f126, false, false, [.tmp 2], [3], [], []⟩
theorem has126 : Has 126 := Has.of (fn := Tryz.f126) (by kernel_rfl) (by kernel_rfl) (by kernel_rfl)
theorem sat126i : Sat 126 c126i := by
 have hD : CxOk W126.D := CxOk.nil
 refine W126.sat hD (fn := Tryz.f126) (by kernel_rfl) (by kernel_rfl) (by kernel_rfl) (by decide) fun svs b K hP => ?_
 unfold c126i at hP
 split at hP
 · rename_i n
   have hk := hP
   refine W126.entry rfl (X := cond (decide (n = [110, 116, 104, 45, 99, 104, 105, 108, 100])) (K (.val (.nat 0)) none) (cond (decide (n = [110, 116, 104, 45, 108, 97, 115, 116, 45, 99, 104, 105, 108, 100])) (K (.val (.nat 1)) none) (cond (decide (n = [110, 116, 104, 45, 111, 102, 45, 116, 121, 112, 101])) (K (.val (.nat 2)) none) (cond (decide (n = [110, 116, 104, 45, 108, 97, 115, 116, 45, 111, 102, 45, 116, 121, 112, 101])) (K (.val (.nat 3)) none) (K (.val (.int .i64 (-1))) none))))) (by kernel_rfl) ?_
   refine cndI ?_ ?_ <;> intro h1 <;> simp -failIfUnchanged [-List.getD_eq_getElem?_getD] at h1
   · have e : nthFlagS n = 0 := by subst h1; kernel_rfl
     rw [e] at hk
     exact hk _ rfl
   refine cndI (fun h2 => ?_) (fun h2 => ?_)
   · simp -failIfUnchanged [-List.getD_eq_getElem?_getD] at h2
     have e : nthFlagS n = 1 := by subst h2; kernel_rfl
     rw [e] at hk
     exact hk _ rfl
   simp -failIfUnchanged [-List.getD_eq_getElem?_getD] at h2
   refine cndI ?_ ?_ <;> intro h3 <;> simp -failIfUnchanged [-List.getD_eq_getElem?_getD] at h3
   · have e : nthFlagS n = 2 := by subst h3; kernel_rfl
     rw [e] at hk
     exact hk _ rfl
   refine cndI (fun h4 => ?_) (fun h4 => ?_)
   · simp -failIfUnchanged [-List.getD_eq_getElem?_getD] at h4
     have e : nthFlagS n = 3 := by subst h4; kernel_rfl
     rw [e] at hk
     exact hk _ rfl
   simp -failIfUnchanged [-List.getD_eq_getElem?_getD] at h4
   have e : nthFlagS n = -1 := by unfold nthFlagS nNthChild nNthLastChild nNthType nNthLastType; rw [if_neg h1, if_neg h2, if_neg h3, if_neg h4]
   rw [e] at hk
   exact hk _ rfl
 exact hP.elim
def c126 (svs : List SV) (b : Option SB) : QR := match svs, b with
 | [.str n], none => some ([], .int .i64 (nthFlagS n))
 | _, _ => none
theorem sat126 : Sat 126 (pureS c126) := by
 refine Sat.outW sat126i fun svs b K h => ?_
 obtain ⟨ps, v, e, hp, hk⟩ := pureS_inv h
 unfold c126 at e
 split at e
 · cases e
   exact fun a ha => ⟨_, _, rfl, rfl, fun ω v => toI_rel ha, hk⟩
 cases e
theorem tupA_rel {x : SV} {y : SelD} {b : Bool} (hx : toSel x = some y) (ω : Wit) (v : Value) (h : Rel ω (.tup [x, .bool b]) v) : Rel ω (.tup [.agg (selCells y), .bool b]) v := by
 cases h with
 | tup _ vs hn hh =>
  refine .tup _ vs hn fun i s v e1 e2 => ?_
  match i, e1 with
  | 0, e1 => cases e1; exact toSel_rel hx (hh 0 x v rfl e2)
  | 1, e1 => cases e1; exact hh 1 _ v rfl e2
def c124 : Spec := fun svs b K => match svs, b with
 | [.str n], none => optK (sPlain n) (fun x => K (.val (.tup [.agg (selCells x), .bool true])) none) (K (.val (.tup [.agg (selCells default), .bool false])) none)
 | _, _ => False
theorem sat124 : Sat 124 c124 := by
 refine Sat.outW sat124i fun svs b K h => ?_
 unfold c124 at h
 split at h
 · rename_i n
   show optK (sPlain n) _ _
   cases hs : sPlain n with
   | none => rw [hs] at h; exact fun a ha => ⟨_, _, rfl, rfl, tupA_rel ha, h⟩
   | some x => rw [hs] at h; exact fun a ha => ⟨_, _, rfl, rfl, tupA_rel ha, h⟩
 exact h.elim
end
end Go.Proofs.YtengepcafdnalaaGreatDoor
