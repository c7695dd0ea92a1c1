/-
  Parts of the proof that the law FnParseOne holds for every input (texts Lk, Ll). Conditions: none.
-/
import Derived.Test.YtengepcafdnalaaGreatDoorM31
namespace Go.Proofs.YtengepcafdnalaaGreatDoor
section
open Go Go.RowKit
set_option maxRecDepth 20000
theorem tk_K_le (x : CSel) : tk_K x ≤ 19 := by cases x <;> simp [tk_K]
def mkN (p : Nat × Nat × Bs × Bs × Int × Int × Nat) : SelD := ⟨p.1, p.2.1, p.2.2.1, p.2.2.2.1, p.2.2.2.2.1, p.2.2.2.2.2.1, p.2.2.2.2.2.2, (0 : Nat)⟩
theorem node_eq (x : CSel) : mkN (node50 (tk_K x) (tk_key x) (tk_val x) (tk_op x) (tk_a x) (tk_b x) (tk_l x) (tk_t x) (tk_ow x) (tk_ig x)) = nodeOf x := by
 cases x
 case attr k v o i =>
  have e : attrSigns = [[61], [33, 61], [126, 61], [124, 61], [94, 61], [36, 61], [42, 61]] := rfl
  cases i <;> simp [mkN, node50, nodeOf, tk_K, tk_key, tk_val, tk_op, tk_a, tk_b, tk_l, tk_t, tk_ow, tk_ig, b2i, signAt_N, e]
 case rel n ks =>
  have e : [nNot, nHas, nHasChild] = [[110, 111, 116], [104, 97, 115], [104, 97, 115, 99, 104, 105, 108, 100]] := rfl
  simp [mkN, node50, nodeOf, tk_K, tk_key, tk_val, tk_op, tk_a, tk_b, tk_l, tk_t, tk_ow, tk_ig, signAt_N, e]
 case combined f c y => simp [mkN, node50, nodeOf, tk_K, tk_key, tk_val, tk_op, tk_a, tk_b, tk_l, tk_t, tk_ow, tk_ig, signAt_N]
 case nth a b l t => cases l <;> cases t <;> simp [mkN, node50, nodeOf, tk_K, tk_key, tk_val, tk_op, tk_a, tk_b, tk_l, tk_t, tk_ow, tk_ig, b2i, flagN]
 case only t => cases t <;> simp [mkN, node50, nodeOf, tk_K, tk_key, tk_val, tk_op, tk_a, tk_b, tk_l, tk_t, tk_ow, tk_ig, b2i, flagN]
 case contains v o => cases o <;> simp [mkN, node50, nodeOf, tk_K, tk_key, tk_val, tk_op, tk_a, tk_b, tk_l, tk_t, tk_ow, tk_ig, b2i]
 all_goals simp [mkN, node50, nodeOf, tk_K, tk_key, tk_val, tk_op, tk_a, tk_b, tk_l, tk_t, tk_ow, tk_ig]
theorem dataOf_17 {x : CSel} (h : tk_K x = 17) : dataOf x = sizedD (nodeOf x) (sizedD grpNode (dataAll (tk_ks x))) := by
 cases x <;> simp [tk_K] at h
 simp [dataOf, tk_ks]
theorem dataOf_n {x : CSel} (h : ¬ tk_K x = 17) : dataOf x = sizedD (nodeOf x) (dataAll (tk_ks x)) := by
 cases x <;> simp [tk_K] at h <;> simp [dataOf, tk_ks, dataAll]
theorem sizeAt_mid {l c : List SelD} {x : SelD} : sizeAt (l ++ x :: c) l.length = l ++ sizedD x c := by
 unfold sizeAt sizedD
 rw [List.set_append_right _ _ (Nat.le_refl _)]
 simp [List.getD_eq_getElem?_getD]
theorem dataAll_take {ks : List CSel} {j : Nat} (h : j < ks.length) : dataAll (ks.take (j + 1)) = dataAll (ks.take j) ++ dataOf (ks.getD j default) := by
 have app : ∀ (a b : List CSel), dataAll (a ++ b) = dataAll a ++ dataAll b := by
  intro a b
  induction a with
  | nil => simp [dataAll]
  | cons x a ih => simp [dataAll, ih]
 rw [List.take_add_one, app, List.getD_eq_getElem?_getD, List.getElem?_eq_getElem h]
 simp [dataAll]
theorem dataAll_le {ks : List CSel} : ∀ {j : Nat}, (dataAll (ks.take j)).length ≤ (dataAll ks).length := by
 intro j
 have app : ∀ (a b : List CSel), (dataAll (a ++ b)).length = (dataAll a).length + (dataAll b).length := by
  intro a b
  induction a with
  | nil => simp [dataAll]
  | cons x a ih => simp [dataAll, ih]; omega
 have := app (ks.take j) (ks.drop j)
 rw [List.take_append_drop] at this
 omega
theorem dataAll_two {ks : List CSel} {j : Nat} (h : j < ks.length) : (dataAll (ks.take j)).length + (dataOf (ks.getD j default)).length ≤ (dataAll ks).length := by
 have h1 := dataAll_le (ks := ks) (j := j + 1)
 rw [dataAll_take h, List.length_append] at h1
 exact h1
theorem ks_le {ks : List CSel} : ks.length ≤ (dataAll ks).length := by
 have pos : ∀ x : CSel, 0 < (dataOf x).length := by intro x; cases x <;> simp [dataOf, sizedD]
 induction ks with
 | nil => simp
 | cons x ks ih => have := pos x; simp [dataAll]; omega
theorem dataOf_pos (x : CSel) : 0 < (dataOf x).length := by cases x <;> simp [dataOf, sizedD]
def c27 (m : Nat) (svs : List SV) (b : Option SB) (K : Out → Option SB → Prop) : Prop := match svs, b with
 | [.cs x, .own 0], some (.row (.sels l) true) => l.length + (dataOf x).length ≤ 1000000000 ∧ (dataOf x).length ≤ m ∧ ∀ b' : Option SB, K (.row (.sels (l ++ dataOf x))) b'
 | _, _ => False
theorem has27 : Has 27 := Has.of (fn := Tryz.f27) (by kernel_rfl) (by kernel_rfl) (by kernel_rfl)
def c26 (m : Nat) (svs : List SV) (b : Option SB) (K : Out → Option SB → Prop) : Prop := match svs, b with
 | [.sl (.csels ks), .own 0], some (.row (.sels l) true) => l.length + (dataAll ks).length + 1 ≤ 1000000000 ∧ (dataAll ks).length ≤ m ∧ ∀ b' : Option SB, K (.row (.sels (l ++ sizedD grpNode (dataAll ks)))) b'
 | _, _ => False
noncomputable def W26 (m : Nat) : Wk := ⟨[(27, .own 22 (c27 m)), (48, .own 22 c48)], bodyOf Tryz.f26, true, true, [.tmp 4], [22], [(4, 114722)], []⟩
theorem has26 : Has 26 := Has.of (fn := Tryz.f26) (by kernel_rfl) (by kernel_rfl) (by kernel_rfl)
theorem lkz0 {p q : Prop} (k : q) (h : p := by first | omega | (simp; done) | (simp; omega) | (simp; assumption)) : p ∧ q := ⟨h, k⟩
theorem sat26 (m : Nat) (hG : Sat 27 (c27 m)) : Sat 26 (c26 m) := by
 have hD : CxOk (W26 m).D := (CxOk.cons has27 hG (CxOk.cons has48 sat48 CxOk.nil))
 refine (W26 m).sat hD (fn := Tryz.f26) (by kernel_rfl) (by kernel_rfl) (by kernel_rfl) (Nat.le_of_ble_eq_true (by kernel_rfl)) fun svs b K hP => ?_
 unfold c26 at hP
 split at hP
 · rename_i ks l
   obtain ⟨h01, h02, hk⟩ := hP
   have w0 := ks_le (ks := ks)
   have L4 : ∀ (mm : Nat) (j : Nat) (r : List SelD), ks.length - j = mm → (j ≤ ks.length ∧ r = l ++ grpNode :: dataAll (ks.take j)) → (W26 m).L K 4 (mkS 27 [(1, (.own 1)), (5, (.nat l.length)), (14, (.sl (.csels ks))), (15, (.nat ks.length)), (16, (.nat j))] [(1, .row (.sels r) true)] 2) := by
    intro mm
    induction mm using Nat.strongRecOn with
    | _ mm ih =>
     intro j r hm hI
     obtain ⟨k1, k2⟩ := hI
     have w1 : r.length = l.length + 1 + (dataAll (ks.take j)).length := by rw [k2]; simp; omega
     have w2 := dataAll_le (ks := ks) (j := j)
     have w3 : j < ks.length → _ := fun h => dataAll_two (ks := ks) (j := j) h
     refine (W26 m).atL hD (X := cond (decide (j < ks.length)) ((j < ks.length) ∧ (r.length + (dataOf (ks.getD j default)).length ≤ 1000000000) ∧ ((dataOf (ks.getD j default)).length ≤ m) ∧ ∀ b1 : Option SB, (j + 1 ≤ 9223372036854775807) ∧ (W26 m).L K 4 (mkS 27 [(1, (.own 2)), (5, (.nat l.length)), (14, (.sl (.csels ks))), (15, (.nat ks.length)), (16, (.nat (j + 1)))] [(2, .row (.sels (r ++ dataOf (ks.getD j default))) true)] 3)) ((r.length ≤ 1000000000) ∧ (l.length < r.length) ∧ ∀ b2 : Option SB, K (.row (.sels (sizeAt r l.length))) none)) (by kernel_rfl) ?_
     refine cndI ?_ ?_ <;> intro h1 <;> simp -failIfUnchanged [-List.getD_eq_getElem?_getD, -UInt8.toNat_or] at h1
     · refine lkz0 ?_
       refine lkz0 (lkz0 ?_)
       intro b1
       refine lkz0 ?_
       exact Wk.L.ren [0, 2] (by kernel_rfl) (by kernel_rfl) (by kernel_rfl) (ih _ (by omega) (j + 1) (r ++ dataOf (ks.getD j default)) rfl ⟨by omega, by rw [dataAll_take h1, k2]; simp⟩)
     refine lkz0 (lkz0 ?_)
     intro b2
     have e : ks.take j = ks := List.take_of_length_le (by omega)
     rw [e] at k2
     subst k2
     rw [sizeAt_mid]
     exact hk _
   refine (W26 m).entry rfl (X := (l.length + 1 ≤ 1099511627776) ∧ (W26 m).L K 4 (mkS 27 [(1, (.own 2)), (5, (.nat l.length)), (14, (.sl (.csels ks))), (15, (.nat ks.length)), (16, (.nat 0))] [(2, .row (.sels (l ++ [SelD.mk (23 : Int) (0 : Int) [] [] (0 : Int) (0 : Int) (0 : Int) (0 : Int)])) true)] 3)) (by kernel_rfl) ?_
   refine lkz0 ?_
   exact Wk.L.ren [0, 2] (by kernel_rfl) (by kernel_rfl) (by kernel_rfl) (L4 _ 0 (l ++ [grpNode]) rfl ⟨by omega, by simp [dataAll]⟩)
 exact hP.elim
def c27s (m : Nat) (svs : List SV) (b : Option SB) (K : Out → Option SB → Prop) : Prop := match svs, b with
 | [.cs x, .own 0], some (.row (.sels l) true) => l.length + (dataOf x).length ≤ 1000000000 ∧ (dataOf x).length ≤ m + 1 ∧ ∀ b' : Option SB, K (.row (.sels (l ++ dataOf x))) b'
 | _, _ => False
noncomputable def W27 (m : Nat) : Wk := ⟨[(26, .own 22 (c26 m)), (27, .own 22 (c27 m)), (48, .own 22 c48), (49, .plain c49), (50, .plain c50)], bodyOf Tryz.f27, true, true, [.tmp 4], [22], [(7, 1879048226)], []⟩
theorem sat27s (m : Nat) (hG : Sat 26 (c26 m)) (hH : Sat 27 (c27 m)) : Sat 27 (c27s m) := by
 have hD : CxOk (W27 m).D := (CxOk.cons has26 hG (CxOk.cons has27 hH (CxOk.cons has48 sat48 (CxOk.cons has49 sat49 (CxOk.cons has50 sat50 CxOk.nil)))))
 refine (W27 m).sat hD (fn := Tryz.f27) (by kernel_rfl) (by kernel_rfl) (by kernel_rfl) (Nat.le_of_ble_eq_true (by kernel_rfl)) fun svs b K hP => ?_
 unfold c27s at hP
 split at hP
 · rename_i x l
   obtain ⟨h01, h02, hk⟩ := hP
   have w0 := ks_le (ks := tk_ks x)
   have w1 := tk_K_le x
   have w2 := dataOf_pos x
   have w3 : tk_K x = 17 → (dataOf x).length = 2 + (dataAll (tk_ks x)).length := fun h => by rw [dataOf_17 h]; simp [sizedD]; omega
   have w4 : ¬ tk_K x = 17 → (dataOf x).length = 1 + (dataAll (tk_ks x)).length := fun h => by rw [dataOf_n h]; simp [sizedD]; omega
   have w5 : (sizedD grpNode (dataAll (tk_ks x))).length = 1 + (dataAll (tk_ks x)).length := by simp [sizedD]; omega
   have L7 : ∀ (mm : Nat) (j : Nat) (r : List SelD), (tk_ks x).length - j = mm → (¬ tk_K x = 17 ∧ j ≤ (tk_ks x).length ∧ r = l ++ nodeOf x :: dataAll ((tk_ks x).take j)) → (W27 m).L K 7 (mkS 41 [(1, (.own 1)), (5, (.nat l.length)), (28, (.sl (.csels (tk_ks x)))), (29, (.nat ((tk_ks x).length))), (30, (.nat j))] [(1, .row (.sels r) true)] 2) := by
    intro mm
    induction mm using Nat.strongRecOn with
    | _ mm ih =>
     intro j r hm hI
     obtain ⟨k0, k1, k2⟩ := hI
     have u1 : r.length = l.length + 1 + (dataAll ((tk_ks x).take j)).length := by rw [k2]; simp; omega
     have u2 := dataAll_le (ks := tk_ks x) (j := j)
     have u3 : j < (tk_ks x).length → _ := fun h => dataAll_two (ks := tk_ks x) (j := j) h
     have u4 := w4 k0
     refine (W27 m).atL hD (X := have a0 := (tk_ks x).getD j default; cond (decide (j < (tk_ks x).length)) ((j < (tk_ks x).length) ∧ (r.length + (dataOf a0).length ≤ 1000000000) ∧ ((dataOf a0).length ≤ m) ∧ ∀ b3 : Option SB, (j + 1 ≤ 9223372036854775807) ∧ (W27 m).L K 7 (mkS 41 [(1, (.own 2)), (5, (.nat l.length)), (28, (.sl (.csels (tk_ks x)))), (29, (.nat ((tk_ks x).length))), (30, (.nat (j + 1)))] [(2, .row (.sels (r ++ dataOf a0)) true)] 3)) ((r.length ≤ 1000000000) ∧ (l.length < r.length) ∧ ∀ b4 : Option SB, K (.row (.sels (sizeAt r l.length))) none)) (by kernel_rfl) ?_
     refine cndI ?_ ?_ <;> intro h1 <;> simp -failIfUnchanged [-List.getD_eq_getElem?_getD, -UInt8.toNat_or] at h1
     · refine lkz0 ?_
       refine lkz0 (lkz0 ?_)
       intro b3
       refine lkz0 ?_
       exact Wk.L.ren [0, 2] (by kernel_rfl) (by kernel_rfl) (by kernel_rfl) (ih _ (by omega) (j + 1) (r ++ dataOf ((tk_ks x).getD j default)) rfl ⟨k0, by omega, by rw [dataAll_take h1, k2]; simp⟩)
     refine lkz0 (lkz0 ?_)
     intro b4
     have e : (tk_ks x).take j = tk_ks x := List.take_of_length_le (by omega)
     rw [e] at k2
     subst k2
     rw [sizeAt_mid, ← dataOf_n k0]
     exact hk _
   refine (W27 m).entry rfl (X := have a0 := dataAll (tk_ks x); (tk_K x ≤ 19) ∧ (l.length + 1 ≤ 1099511627776) ∧ cond (decide (tk_K x = 17)) (((l ++ [SelD.mk (((node50 (tk_K x) (tk_key x) (tk_val x) (tk_op x) (tk_a x) (tk_b x) (tk_l x) (tk_t x) (tk_ow x) (tk_ig x)).1 : Nat) : Int) (((node50 (tk_K x) (tk_key x) (tk_val x) (tk_op x) (tk_a x) (tk_b x) (tk_l x) (tk_t x) (tk_ow x) (tk_ig x)).2.1 : Nat) : Int) ((node50 (tk_K x) (tk_key x) (tk_val x) (tk_op x) (tk_a x) (tk_b x) (tk_l x) (tk_t x) (tk_ow x) (tk_ig x)).2.2.1) ((node50 (tk_K x) (tk_key x) (tk_val x) (tk_op x) (tk_a x) (tk_b x) (tk_l x) (tk_t x) (tk_ow x) (tk_ig x)).2.2.2.1) ((node50 (tk_K x) (tk_key x) (tk_val x) (tk_op x) (tk_a x) (tk_b x) (tk_l x) (tk_t x) (tk_ow x) (tk_ig x)).2.2.2.2.1) ((node50 (tk_K x) (tk_key x) (tk_val x) (tk_op x) (tk_a x) (tk_b x) (tk_l x) (tk_t x) (tk_ow x) (tk_ig x)).2.2.2.2.2.1) (((node50 (tk_K x) (tk_key x) (tk_val x) (tk_op x) (tk_a x) (tk_b x) (tk_l x) (tk_t x) (tk_ow x) (tk_ig x)).2.2.2.2.2.2 : Nat) : Int) (0 : Int)]).length + a0.length + 1 ≤ 1000000000) ∧ (a0.length ≤ m) ∧ ∀ b1 : Option SB, (((l ++ [SelD.mk (((node50 (tk_K x) (tk_key x) (tk_val x) (tk_op x) (tk_a x) (tk_b x) (tk_l x) (tk_t x) (tk_ow x) (tk_ig x)).1 : Nat) : Int) (((node50 (tk_K x) (tk_key x) (tk_val x) (tk_op x) (tk_a x) (tk_b x) (tk_l x) (tk_t x) (tk_ow x) (tk_ig x)).2.1 : Nat) : Int) ((node50 (tk_K x) (tk_key x) (tk_val x) (tk_op x) (tk_a x) (tk_b x) (tk_l x) (tk_t x) (tk_ow x) (tk_ig x)).2.2.1) ((node50 (tk_K x) (tk_key x) (tk_val x) (tk_op x) (tk_a x) (tk_b x) (tk_l x) (tk_t x) (tk_ow x) (tk_ig x)).2.2.2.1) ((node50 (tk_K x) (tk_key x) (tk_val x) (tk_op x) (tk_a x) (tk_b x) (tk_l x) (tk_t x) (tk_ow x) (tk_ig x)).2.2.2.2.1) ((node50 (tk_K x) (tk_key x) (tk_val x) (tk_op x) (tk_a x) (tk_b x) (tk_l x) (tk_t x) (tk_ow x) (tk_ig x)).2.2.2.2.2.1) (((node50 (tk_K x) (tk_key x) (tk_val x) (tk_op x) (tk_a x) (tk_b x) (tk_l x) (tk_t x) (tk_ow x) (tk_ig x)).2.2.2.2.2.2 : Nat) : Int) (0 : Int)]) ++ sizedD grpNode a0).length ≤ 1000000000) ∧ (l.length < ((l ++ [SelD.mk (((node50 (tk_K x) (tk_key x) (tk_val x) (tk_op x) (tk_a x) (tk_b x) (tk_l x) (tk_t x) (tk_ow x) (tk_ig x)).1 : Nat) : Int) (((node50 (tk_K x) (tk_key x) (tk_val x) (tk_op x) (tk_a x) (tk_b x) (tk_l x) (tk_t x) (tk_ow x) (tk_ig x)).2.1 : Nat) : Int) ((node50 (tk_K x) (tk_key x) (tk_val x) (tk_op x) (tk_a x) (tk_b x) (tk_l x) (tk_t x) (tk_ow x) (tk_ig x)).2.2.1) ((node50 (tk_K x) (tk_key x) (tk_val x) (tk_op x) (tk_a x) (tk_b x) (tk_l x) (tk_t x) (tk_ow x) (tk_ig x)).2.2.2.1) ((node50 (tk_K x) (tk_key x) (tk_val x) (tk_op x) (tk_a x) (tk_b x) (tk_l x) (tk_t x) (tk_ow x) (tk_ig x)).2.2.2.2.1) ((node50 (tk_K x) (tk_key x) (tk_val x) (tk_op x) (tk_a x) (tk_b x) (tk_l x) (tk_t x) (tk_ow x) (tk_ig x)).2.2.2.2.2.1) (((node50 (tk_K x) (tk_key x) (tk_val x) (tk_op x) (tk_a x) (tk_b x) (tk_l x) (tk_t x) (tk_ow x) (tk_ig x)).2.2.2.2.2.2 : Nat) : Int) (0 : Int)]) ++ sizedD grpNode a0).length) ∧ ∀ b2 : Option SB, K (.row (.sels (sizeAt ((l ++ [SelD.mk (((node50 (tk_K x) (tk_key x) (tk_val x) (tk_op x) (tk_a x) (tk_b x) (tk_l x) (tk_t x) (tk_ow x) (tk_ig x)).1 : Nat) : Int) (((node50 (tk_K x) (tk_key x) (tk_val x) (tk_op x) (tk_a x) (tk_b x) (tk_l x) (tk_t x) (tk_ow x) (tk_ig x)).2.1 : Nat) : Int) ((node50 (tk_K x) (tk_key x) (tk_val x) (tk_op x) (tk_a x) (tk_b x) (tk_l x) (tk_t x) (tk_ow x) (tk_ig x)).2.2.1) ((node50 (tk_K x) (tk_key x) (tk_val x) (tk_op x) (tk_a x) (tk_b x) (tk_l x) (tk_t x) (tk_ow x) (tk_ig x)).2.2.2.1) ((node50 (tk_K x) (tk_key x) (tk_val x) (tk_op x) (tk_a x) (tk_b x) (tk_l x) (tk_t x) (tk_ow x) (tk_ig x)).2.2.2.2.1) ((node50 (tk_K x) (tk_key x) (tk_val x) (tk_op x) (tk_a x) (tk_b x) (tk_l x) (tk_t x) (tk_ow x) (tk_ig x)).2.2.2.2.2.1) (((node50 (tk_K x) (tk_key x) (tk_val x) (tk_op x) (tk_a x) (tk_b x) (tk_l x) (tk_t x) (tk_ow x) (tk_ig x)).2.2.2.2.2.2 : Nat) : Int) (0 : Int)]) ++ sizedD grpNode a0) l.length))) none) ((W27 m).L K 7 (mkS 41 [(1, (.own 3)), (5, (.nat l.length)), (28, (.sl (.csels (tk_ks x)))), (29, (.nat ((tk_ks x).length))), (30, (.nat 0))] [(3, .row (.sels (l ++ [SelD.mk (((node50 (tk_K x) (tk_key x) (tk_val x) (tk_op x) (tk_a x) (tk_b x) (tk_l x) (tk_t x) (tk_ow x) (tk_ig x)).1 : Nat) : Int) (((node50 (tk_K x) (tk_key x) (tk_val x) (tk_op x) (tk_a x) (tk_b x) (tk_l x) (tk_t x) (tk_ow x) (tk_ig x)).2.1 : Nat) : Int) ((node50 (tk_K x) (tk_key x) (tk_val x) (tk_op x) (tk_a x) (tk_b x) (tk_l x) (tk_t x) (tk_ow x) (tk_ig x)).2.2.1) ((node50 (tk_K x) (tk_key x) (tk_val x) (tk_op x) (tk_a x) (tk_b x) (tk_l x) (tk_t x) (tk_ow x) (tk_ig x)).2.2.2.1) ((node50 (tk_K x) (tk_key x) (tk_val x) (tk_op x) (tk_a x) (tk_b x) (tk_l x) (tk_t x) (tk_ow x) (tk_ig x)).2.2.2.2.1) ((node50 (tk_K x) (tk_key x) (tk_val x) (tk_op x) (tk_a x) (tk_b x) (tk_l x) (tk_t x) (tk_ow x) (tk_ig x)).2.2.2.2.2.1) (((node50 (tk_K x) (tk_key x) (tk_val x) (tk_op x) (tk_a x) (tk_b x) (tk_l x) (tk_t x) (tk_ow x) (tk_ig x)).2.2.2.2.2.2 : Nat) : Int) (0 : Int)])) true), (1, .blk 76 [(.nat (tk_K x)), (.str (tk_key x)), (.str (tk_val x)), (.str (tk_op x)), (.int .i64 (tk_a x)), (.int .i64 (tk_b x)), (.bool (tk_l x)), (.bool (tk_t x)), (.bool (tk_ow x)), (.bool (tk_ig x)), (.sl (.csels (tk_ks x)))])] 4))) (by kernel_rfl) ?_
   refine lkz0 ?_
   refine lkz0 ?_
   refine cndI ?_ ?_ <;> intro h1 <;> simp -failIfUnchanged [-List.getD_eq_getElem?_getD, -UInt8.toNat_or] at h1
   · refine lkz0 (lkz0 ?_)
     intro b1
     refine lkz0 (lkz0 ?_)
     intro b2
     refine (congrArg (fun q => K (.row (.sels q)) _) ?_).mpr (hk _)
     rw [dataOf_17 h1, ← node_eq x, List.append_assoc]
     exact sizeAt_mid
   exact Wk.L.ren [0, 3] (by kernel_rfl) (by kernel_rfl) (by kernel_rfl) (L7 _ 0 (l ++ [mkN (node50 (tk_K x) (tk_key x) (tk_val x) (tk_op x) (tk_a x) (tk_b x) (tk_l x) (tk_t x) (tk_ow x) (tk_ig x))]) rfl ⟨h1, by omega, by rw [node_eq]; simp [dataAll]⟩)
 exact hP.elim
end
section
open Go Go.RowKit
set_option maxRecDepth 20000
def IB (G : Nat → Option (List CSel × Nat)) : Prop := ∀ i v, G i = some v → (dataAll v.1).length + 2 * i ≤ 2 * v.2 + 1
section
variable {G : Nat → Option (List CSel × Nat)} {s : Bs} {a : Bool}
theorem dataAll_app (l : List CSel) (x : CSel) : (dataAll (l ++ [x])).length = (dataAll l).length + (dataOf x).length := by
 induction l with
 | nil => simp [dataAll]
 | cons y l ih => simp [dataAll, ih]; omega
theorem iOpen_lt {i k : Nat} (h : iOpen s i = some k) : i < k := by
 unfold iOpen at h
 split at h
 · cases h; have := iWs_ge s (i + 1); omega
 cases h
theorem iClose_lt {i k : Nat} (h : iClose s i = some k) : i < k := by
 unfold iClose at h
 split at h
 · cases h; have := iWs_ge s i; omega
 cases h
theorem ite_some {α : Type} {c : Prop} [Decidable c] {p q : Option α} {x : α} {P : Prop} (h : (if c then p else q) = some x) (hp : p = some x → P) (hq : q = some x → P) : P := by
 by_cases hc : c
 · rw [if_pos hc] at h; exact hp h
 rw [if_neg hc] at h; exact hq h
theorem plainI_one {n : Bs} {x : CSel} (h : plainI n = some x) : (dataOf x).length = 1 := by
 unfold plainI at h
 iterate 14 refine ite_some h (fun h => by cases h; rfl) (fun h => ?_)
 cases h
theorem ps_b (hG : IB G) {i j : Nat} {x : CSel} {n : Bs} (h : iPs G s i = some (some x, n, j)) (hj : i < j) : (dataOf x).length + 2 * i ≤ 2 * j := by
 unfold iPs at h
 split at h
 · split at h
   · cases h
   rename_i nm p hp
   split at h
   · cases h
   have hlt : i + 1 < p := by
    have := (Law.iIdent_lt hp).1
    split at this <;> omega
   unfold iPsN at h
   split at h
   · simp only [Option.map_eq_some_iff, Prod.mk.injEq, Option.some.injEq] at h
     obtain ⟨⟨y, e⟩, h1, rfl, _, rfl⟩ := h
     unfold iArgG at h1
     split at h1
     · cases h1
     rename_i k hk
     split at h1
     · cases h1
     rename_i l m hg
     simp only [Option.map_eq_some_iff, Prod.mk.injEq] at h1
     obtain ⟨e', h2, rfl, rfl⟩ := h1
     have h3 := hG _ _ hg
     have h4 := iOpen_lt hk
     have h5 := iClose_lt h2
     simp only [dataOf, sizedD, List.length_cons]
     dsimp only at h3 ⊢
     omega
   split at h
   · simp only [Option.map_eq_some_iff, Prod.mk.injEq, Option.some.injEq] at h
     obtain ⟨⟨y, e⟩, h1, rfl, _, rfl⟩ := h
     have : (dataOf y).length = 1 := by
      unfold iArgV at h1
      split at h1
      · cases h1
      split at h1
      · split at h1
        · cases h1
        simp only [Option.map_eq_some_iff, Prod.mk.injEq] at h1
        obtain ⟨_, _, rfl, _⟩ := h1; rfl
      cases h1
     dsimp only at hj ⊢
     omega
   split at h
   · simp only [Option.map_eq_some_iff, Prod.mk.injEq, Option.some.injEq] at h
     obtain ⟨⟨y, e⟩, h1, rfl, _, rfl⟩ := h
     have : (dataOf y).length = 1 := by
      unfold iArgN at h1
      split at h1
      · cases h1
      split at h1
      · cases h1
      simp only [Option.map_eq_some_iff, Prod.mk.injEq] at h1
      obtain ⟨_, _, rfl, _⟩ := h1; rfl
     dsimp only at hj ⊢
     omega
   split at h
   · simp only [Option.map_eq_some_iff, Prod.mk.injEq, Option.some.injEq] at h
     obtain ⟨⟨y, e⟩, h1, rfl, _, rfl⟩ := h
     have : (dataOf y).length = 1 := by
      unfold iArgL at h1
      split at h1
      · cases h1
      split at h1
      · split at h1
        · cases h1
        simp only [Option.map_eq_some_iff, Prod.mk.injEq] at h1
        obtain ⟨_, _, rfl, _⟩ := h1; rfl
      cases h1
     dsimp only at hj ⊢
     omega
   split at h
   · rename_i y hy
     simp only [Option.some.injEq, Prod.mk.injEq] at h
     obtain ⟨rfl, _, rfl⟩ := h
     have := plainI_one hy
     omega
   split at h
   · simp at h
   cases h
 cases h
theorem simple_b (hG : IB G) {i j : Nat} {x : CSel} {n : Bs} (h : iSimple G s i = some (some x, n, j)) (hj : i < j) : (dataOf x).length + 2 * i ≤ 2 * j := by
 unfold iSimple at h
 split at h
 · simp only [Option.map_eq_some_iff, Prod.mk.injEq, Option.some.injEq] at h
   obtain ⟨⟨y, e⟩, _, rfl, _, rfl⟩ := h
   have : (dataOf (CSel.idn y)).length = 1 := rfl
   dsimp only at hj ⊢
   omega
 split at h
 · simp only [Option.map_eq_some_iff, Prod.mk.injEq, Option.some.injEq] at h
   obtain ⟨⟨y, e⟩, _, rfl, _, rfl⟩ := h
   have : (dataOf (CSel.cls y)).length = 1 := rfl
   dsimp only at hj ⊢
   omega
 split at h
 · rw [iAttr_C] at h
   simp only [Option.map_eq_some_iff, Prod.mk.injEq, Option.some.injEq] at h
   obtain ⟨_, ⟨y, _, rfl⟩, rfl, _, rfl⟩ := h
   have : (dataOf (attrOf y).1).length = 1 := rfl
   omega
 exact ps_b hG h hj
theorem seqEnd_b (l : List CSel) (pe : Bs) : (dataOf (seqEnd l pe)).length ≤ (dataAll l).length + 1 := by
 unfold seqEnd
 split
 · simp [dataAll]
 simp [dataOf, sizedD]
theorem seqGo_b (hG : IB G) {i0 : Nat} : ∀ (n i : Nat) (l : List CSel) (pe : Bs), s.length - i = n → (dataAll l).length + 2 * i0 ≤ 2 * i → ∀ x m, iSeqGo G s a i l pe = some (x, m) → (dataOf x).length + 2 * i0 ≤ 2 * m + 1 := by
 intro n
 induction n using Nat.strongRecOn with
 | _ n ih =>
  intro i l pe hn hl x m h
  rw [iSeqGo] at h
  split at h
  · rename_i hc
    split at h
    · cases h
    rename_i y nm j hy
    split at h
    · rename_i hj
      split at h
      · split at h
        · exact ih _ (by omega) j l nm rfl (by omega) x m h
        cases h
      rename_i z
      have hb := simple_b hG hy hj
      split at h
      · exact ih _ (by omega) j (l ++ [z]) pe rfl (by rw [dataAll_app]; omega) x m h
      cases h
    cases h
  simp only [Option.some.injEq, Prod.mk.injEq] at h
  obtain ⟨rfl, rfl⟩ := h
  have := seqEnd_b l pe
  omega
theorem seq_b (hG : IB G) {i : Nat} {x : CSel} {m : Nat} (h : iSeq G s a i = some (x, m)) : (dataOf x).length + 2 * i ≤ 2 * m + 1 := by
 unfold iSeq at h
 split at h
 · split at h
   · exact seqGo_b hG _ _ [] [] rfl (by simp only [dataAll, List.length_nil]; split <;> omega) x m h
   split at h
   · exact seqGo_b hG _ _ [] [] rfl (by simp [dataAll]) x m h
   split at h
   · cases h
   rename_i t j ht
   have := (Law.iIdent_lt ht).1
   exact seqGo_b hG _ _ _ [] rfl (by simp [dataAll, dataOf, sizedD]; omega) x m h
 cases h
theorem selGo_b (hG : IB G) {i0 : Nat} : ∀ (n j : Nat) (x : CSel), s.length - j = n → (dataOf x).length + 2 * i0 ≤ 2 * j + 1 → ∀ y m, iSelGo G s a x j = some (y, m) → (dataOf y).length + 2 * i0 ≤ 2 * m + 1 := by
 intro n
 induction n using Nat.strongRecOn with
 | _ n ih =>
  intro j x hn hx y m h
  have w0 := iWs_ge s j
  have w1 := iWs_ge s (iWs s j + 1)
  rw [iSelGo] at h
  split at h
  · split at h
    · split at h
      · cases h
      rename_i z p hz
      split at h
      · have := seq_b hG hz
        exact ih _ (by omega) p _ rfl (by simp only [dataOf, sizedD, List.length_cons, List.length_append]; omega) y m h
      cases h
    split at h
    · simp only [Option.some.injEq, Prod.mk.injEq] at h
      obtain ⟨rfl, rfl⟩ := h
      omega
    split at h
    · cases h
    rename_i z p hz
    split at h
    · have := seq_b hG hz
      exact ih _ (by omega) p _ rfl (by simp only [dataOf, sizedD, List.length_cons, List.length_append]; omega) y m h
    cases h
  simp only [Option.some.injEq, Prod.mk.injEq] at h
  obtain ⟨rfl, rfl⟩ := h
  omega
theorem sel_b (hG : IB G) {i : Nat} {x : CSel} {m : Nat} (h : iSel G s a i = some (x, m)) : (dataOf x).length + 2 * i ≤ 2 * m + 1 := by
 unfold iSel at h
 split at h
 · cases h
 rename_i y j hy
 have := seq_b hG hy
 have w0 := iWs_ge s i
 exact selGo_b hG _ _ _ rfl (by omega) x m h
theorem grpGo_b (hG : IB G) {i0 : Nat} : ∀ (n j : Nat) (l : List CSel), s.length - j = n → (dataAll l).length + 2 * i0 ≤ 2 * j + 1 → ∀ v m, iGrpGo G s a l j = some (v, m) → (dataAll v).length + 2 * i0 ≤ 2 * m + 1 := by
 intro n
 induction n using Nat.strongRecOn with
 | _ n ih =>
  intro j l hn hx v m h
  rw [iGrpGo] at h
  split at h
  · split at h
    · cases h
    rename_i z p hz
    split at h
    · have := sel_b hG hz
      exact ih _ (by omega) p _ rfl (by rw [dataAll_app]; omega) v m h
    cases h
  simp only [Option.some.injEq, Prod.mk.injEq] at h
  obtain ⟨rfl, rfl⟩ := h
  omega
theorem grp_b : ∀ k, IB (iGrp s a k)
 | 0 => fun i v h => by simp [iGrp] at h
 | k + 1 => fun i v h => by
  obtain ⟨v, m⟩ := v
  rw [iGrp] at h
  split at h
  · cases h
  rename_i x j hx
  have := sel_b (grp_b k) hx
  exact grpGo_b (grp_b k) _ _ _ rfl (by simp [dataAll]; omega) v m h
end
section
variable {G : Nat → Option (List CSel × Nat)} {s : Bs} {a : Bool}
theorem iClose_le {i k : Nat} (h : iClose s i = some k) : k ≤ s.length := by
 unfold iClose at h
 split at h
 · cases h; omega
 cases h
theorem ps_le {i j : Nat} {x : Option CSel} {n : Bs} (h : iPs G s i = some (x, n, j)) : j ≤ s.length := by
 unfold iPs at h
 split at h
 · split at h
   · cases h
   rename_i nm p hp
   split at h
   · cases h
   have hle := (Law.iIdent_lt hp).2
   unfold iPsN at h
   split at h
   · simp only [Option.map_eq_some_iff, Prod.mk.injEq] at h
     obtain ⟨⟨y, e⟩, h1, _, _, rfl⟩ := h
     unfold iArgG at h1
     split at h1
     · cases h1
     split at h1
     · cases h1
     simp only [Option.map_eq_some_iff, Prod.mk.injEq] at h1
     obtain ⟨e', h2, _, rfl⟩ := h1
     exact iClose_le h2
   split at h
   · simp only [Option.map_eq_some_iff, Prod.mk.injEq] at h
     obtain ⟨⟨y, e⟩, h1, _, _, rfl⟩ := h
     unfold iArgV at h1
     split at h1
     · cases h1
     split at h1
     · split at h1
       · cases h1
       simp only [Option.map_eq_some_iff, Prod.mk.injEq] at h1
       obtain ⟨e', h2, _, rfl⟩ := h1
       exact iClose_le h2
     cases h1
   split at h
   · simp only [Option.map_eq_some_iff, Prod.mk.injEq] at h
     obtain ⟨⟨y, e⟩, h1, _, _, rfl⟩ := h
     unfold iArgN at h1
     split at h1
     · cases h1
     split at h1
     · cases h1
     simp only [Option.map_eq_some_iff, Prod.mk.injEq] at h1
     obtain ⟨e', h2, _, rfl⟩ := h1
     exact iClose_le h2
   split at h
   · simp only [Option.map_eq_some_iff, Prod.mk.injEq] at h
     obtain ⟨⟨y, e⟩, h1, _, _, rfl⟩ := h
     unfold iArgL at h1
     split at h1
     · cases h1
     split at h1
     · split at h1
       · cases h1
       simp only [Option.map_eq_some_iff, Prod.mk.injEq] at h1
       obtain ⟨e', h2, _, rfl⟩ := h1
       exact iClose_le h2
     cases h1
   split at h
   · simp only [Option.some.injEq, Prod.mk.injEq] at h
     obtain ⟨_, _, rfl⟩ := h
     exact hle
   split at h
   · simp only [Option.some.injEq, Prod.mk.injEq] at h
     obtain ⟨_, _, rfl⟩ := h
     exact hle
   cases h
 cases h
theorem aV_le {key op : Bs} {k : Nat} {v : (Bs × Bs × Bs × Bool) × Nat} (h : aV s key op k = some v) : v.2 ≤ s.length := by
 unfold aV at h
 refine ite_some h (fun h => ?_) (fun h => by cases h)
 split at h
 · cases h
 rename_i val m hv
 unfold aW at h
 refine ite_some h (fun h => ?_) (fun h => by cases h)
 unfold aE at h
 by_cases hc : iWs s (if bat s (iWs s m) = 105 ∨ bat s (iWs s m) = 73 then iWs s m + 1 else iWs s m) < s.length ∧ bat s (iWs s (if bat s (iWs s m) = 105 ∨ bat s (iWs s m) = 73 then iWs s m + 1 else iWs s m)) = 93 ∧ op ∈ attrSigns
 · rw [if_pos hc] at h
   cases h
   exact hc.1
 rw [if_neg hc] at h
 cases h
theorem attr_le {i : Nat} {v : (Bs × Bs × Bs × Bool) × Nat} (h : iAttrC s i = some v) : v.2 ≤ s.length := by
 unfold iAttrC at h
 split at h
 · cases h
 split at h
 · refine ite_some h (fun h => ?_) (fun h => ?_)
   · cases h; simp only; omega
   exact ite_some h (fun h => aV_le h) (fun h => by cases h)
 cases h
theorem simple_le {i j : Nat} {x : Option CSel} {n : Bs} (h : iSimple G s i = some (x, n, j)) : j ≤ s.length := by
 unfold iSimple at h
 split at h
 · simp only [Option.map_eq_some_iff, Prod.mk.injEq] at h
   obtain ⟨⟨y, e⟩, h1, _, _, rfl⟩ := h
   exact (Law.iName_lt h1).2
 split at h
 · simp only [Option.map_eq_some_iff, Prod.mk.injEq] at h
   obtain ⟨⟨y, e⟩, h1, _, _, rfl⟩ := h
   exact (Law.iIdent_lt h1).2
 split at h
 · rw [iAttr_C] at h
   simp only [Option.map_eq_some_iff, Prod.mk.injEq] at h
   obtain ⟨_, ⟨y, h1, rfl⟩, _, _, rfl⟩ := h
   exact attr_le h1
 exact ps_le h
theorem seqGo_le : ∀ (n i : Nat) (l : List CSel) (pe : Bs), s.length - i = n → i ≤ s.length → ∀ x m, iSeqGo G s a i l pe = some (x, m) → m ≤ s.length := by
 intro n
 induction n using Nat.strongRecOn with
 | _ n ih =>
  intro i l pe hn hl x m h
  rw [iSeqGo] at h
  split at h
  · split at h
    · cases h
    rename_i y nm j hy
    have hb := simple_le hy
    split at h
    · rename_i hj
      split at h
      · split at h
        · exact ih _ (by omega) j l nm rfl hb x m h
        cases h
      split at h
      · exact ih _ (by omega) j _ pe rfl hb x m h
      cases h
    cases h
  simp only [Option.some.injEq, Prod.mk.injEq] at h
  obtain ⟨rfl, rfl⟩ := h
  exact hl
theorem seq_le {i : Nat} {x : CSel} {m : Nat} (h : iSeq G s a i = some (x, m)) : m ≤ s.length := by
 unfold iSeq at h
 split at h
 · split at h
   · exact seqGo_le _ _ [] [] rfl (by split <;> omega) x m h
   split at h
   · exact seqGo_le _ _ [] [] rfl (by omega) x m h
   split at h
   · cases h
   rename_i t j ht
   exact seqGo_le _ _ _ [] rfl (Law.iIdent_lt ht).2 x m h
 cases h
theorem selGo_le : ∀ (n j : Nat) (x : CSel), s.length - j = n → j ≤ s.length → ∀ y m, iSelGo G s a x j = some (y, m) → m ≤ s.length := by
 intro n
 induction n using Nat.strongRecOn with
 | _ n ih =>
  intro j x hn hx y m h
  have w0 := iWs_le s j hx
  have w00 := iWs_ge s j
  rw [iSelGo] at h
  split at h
  · split at h
    · split at h
      · cases h
      rename_i z p hz
      split at h
      · exact ih _ (by omega) p _ rfl (seq_le hz) y m h
      cases h
    split at h
    · simp only [Option.some.injEq, Prod.mk.injEq] at h
      obtain ⟨rfl, rfl⟩ := h
      exact w0
    split at h
    · cases h
    rename_i z p hz
    split at h
    · exact ih _ (by omega) p _ rfl (seq_le hz) y m h
    cases h
  simp only [Option.some.injEq, Prod.mk.injEq] at h
  obtain ⟨rfl, rfl⟩ := h
  exact w0
theorem sel_le {i : Nat} {x : CSel} {m : Nat} (h : iSel G s a i = some (x, m)) : m ≤ s.length := by
 unfold iSel at h
 split at h
 · cases h
 rename_i y j hy
 exact selGo_le _ _ _ rfl (seq_le hy) x m h
theorem grpGo_le : ∀ (n j : Nat) (l : List CSel), s.length - j = n → j ≤ s.length → ∀ v m, iGrpGo G s a l j = some (v, m) → m ≤ s.length := by
 intro n
 induction n using Nat.strongRecOn with
 | _ n ih =>
  intro j l hn hx v m h
  rw [iGrpGo] at h
  split at h
  · split at h
    · cases h
    rename_i z p hz
    split at h
    · exact ih _ (by omega) p _ rfl (sel_le hz) v m h
    cases h
  simp only [Option.some.injEq, Prod.mk.injEq] at h
  obtain ⟨rfl, rfl⟩ := h
  exact hx
theorem grp_le : ∀ {k i : Nat} {v : List CSel × Nat}, iGrp s a k i = some v → v.2 ≤ s.length
 | 0, i, v, h => by simp [iGrp] at h
 | k + 1, i, v, h => by
  obtain ⟨v, m⟩ := v
  rw [iGrp] at h
  split at h
  · cases h
  rename_i x j hx
  exact grpGo_le _ _ _ rfl (sel_le hx) v m h
theorem parse_len {s : Bs} {many p : Bool} {l : List CSel} (h : iParse s many p = some l) : (parseData many l).length ≤ 2 * s.length + 2 := by
 unfold iParse at h
 split at h
 · rename_i hm
   split at h
   · rename_i l' j hg
     split at h
     · cases h
     cases h
     have h1 := grp_b 1001 _ _ hg
     have h2 := grp_le hg
     unfold parseData
     rw [if_pos hm]
     simp only [sizedD, List.length_cons]
     dsimp only at h1 h2
     omega
   cases h
 rename_i hm
 split at h
 · rename_i x j hg
   split at h
   · cases h
   cases h
   have h1 := sel_b (grp_b 1001) hg
   have h2 := sel_le hg
   unfold parseData
   rw [if_neg hm]
   simp only [List.headD_cons]
   omega
 cases h
end
end
end Go.Proofs.YtengepcafdnalaaGreatDoor
