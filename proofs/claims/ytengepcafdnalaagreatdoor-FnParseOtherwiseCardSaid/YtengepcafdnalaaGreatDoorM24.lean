/-
  Parts of the proof that the law FnParseOtherwise holds for every input (texts Lb). Conditions: none.
-/
import Derived.Test.YtengepcafdnalaaGreatDoorM23
namespace Go.Proofs.YtengepcafdnalaaGreatDoor
section
open Go Go.RowKit
set_option maxRecDepth 20000
theorem Yc {s : Bs} {i : Nat} (ho : ZY (bat s i) = true) {v : Bs × Nat} (h : V0 s i = some v) : VU s i = if low v.1 = [111, 100, 100] then some (2, 1, v.2) else if low v.1 = [101, 118, 101, 110] then some (2, 0, v.2) else none := by
 obtain ⟨w, j⟩ := v
 rw [Law.iNth_oe ho, h]
theorem Qbf {s : Bs} {i : Nat} (ho : ZY (bat s i) = true) (h : V0 s i = none) : VU s i = none := by
 rw [Law.iNth_oe ho, h]
def c136i (svs : List SV) (b : Option SB) (K : Out -> Option SB -> Prop) : Prop := match svs, b with
 | [.ptr 0 0], some (.blk 94 [.str s, .nat i, .nat d, .bool a]) => s.length <= 1000000 /\ i <= s.length /\ Qx (VU s i) (fun v => ∀ x y, i <= v.2.2 -> v.2.2 <= s.length -> toI x = some v.1 -> toI y = some v.2.1 -> K (.val (.tup [x, y, .nilif])) (some (.blk 94 [.str s, .nat v.2.2, .nat d, .bool a]))) (∀ j, K (.val (.tup [.nat 0, .nat 0, .ifx])) (some (.blk 94 [.str s, .nat j, .nat d, .bool a])))
 | _, _ => False
noncomputable def VT : Wk := ⟨[(71, .pure c71), (99, .fn c99), (130, .pure Qlp), (131, .plain c131), (146, .plain c146)], Qm Tryz.f136, true, false, [.tmp 2, .tmp 3, .tmp 4], [3, 3, 71], [(34, 1), (53, 1), (73, 5), (79, 5)], [34, 53, 73, 79]⟩
theorem Qse : Has 136 := hsf Tryz.f136
theorem Q0 {p q : Prop} (k : q) (h : p := by first | omega | (simp; done) | (unfold inI; omega) | (have := Vn s (iWs s p + 1) (by omega); omega) | (simp; omega) | assumption) : p /\ q := ⟨h, k⟩
theorem Qor : Sat 136 c136i := by
 have hD : Qe VT.D := (Qe.cons Zt Zr (Qe.cons QeH Qeh (Qe.cons QfS Qff (Qe.cons QiL Qia (Qe.cons Qsa Qq3 Qe.nil)))))
 refine VT.sa hD Tryz.f136 fun svs b K hP => ?_
 unfold c136i at hP
 split at hP
 rename_i s i d a
 obtain ⟨h01, h02, hk⟩ := hP
 have L79 : ∀ (mm : Nat) (x : Int) (p : Nat), 0 = mm -> (i <= p /\ p <= s.length /\ inI x /\ VU s i = Zg s x p) -> VT.C K 79 (mkS 280 [(0, (.ptr 0 0)), (2, (.int .i64 x))] [(0, .blk 94 [(.str s), (.nat p), (.nat d), (.bool a)])] 1) := by
  intro mm
  induction mm using Nat.strongRecOn with
  | _ mm ih =>
   intro x p hm hI
   obtain ⟨k1, k2, k3, k4⟩ := hI
   have q1 := Vn s p k2
   have q2 := VB s p
   have q3 := VB s (iWs s p + 1)
   refine VT.aC hD (have a0 := s.length <= 1000000; have a1 : Out := .val (.tup [(.nat 0), (.nat 0), .ifx]); have a2 : Option SB := some (.blk 94 [(.str s), (.nat (iWs s p)), (.nat d), (.bool a)]); a0 /\ (p <= s.length) /\ cond (decide (s.length <= iWs s p)) (K a1 a2) ((iWs s p < s.length) /\ cond (decide (bat s (iWs s p) = 43)) ((iWs s p + 1 <= 9223372036854775807) /\ a0 /\ (iWs s p + 1 <= s.length) /\ a0 /\ (iWs s (iWs s p + 1) <= s.length) /\ Qx (Ye s (iWs s (iWs s p + 1))) (fun v9 => (iWs s (iWs s p + 1) < v9.2 /\ v9.2 <= s.length /\ v9.1 <= 9223372036854775807) -> K (.val (.tup [(.int .i64 x), (.nat v9.1), .nilif])) (some (.blk 94 [(.str s), (.nat v9.2), (.nat d), (.bool a)]))) (∀ j10 : Nat, K a1 (some (.blk 94 [(.str s), (.nat j10), (.nat d), (.bool a)])))) (cond (decide (bat s (iWs s p) = 45)) ((iWs s p + 1 <= 9223372036854775807) /\ a0 /\ (iWs s p + 1 <= s.length) /\ a0 /\ (iWs s (iWs s p + 1) <= s.length) /\ Qx (Ye s (iWs s (iWs s p + 1))) (fun v11 => (iWs s (iWs s p + 1) < v11.2 /\ v11.2 <= s.length /\ v11.1 <= 9223372036854775807) -> (inI (0 - ((v11.1 : Nat) : Int))) /\ K (.val (.tup [(.int .i64 x), (.int .i64 (0 - ((v11.1 : Nat) : Int))), .nilif])) (some (.blk 94 [(.str s), (.nat v11.2), (.nat d), (.bool a)]))) (∀ j12 : Nat, K a1 (some (.blk 94 [(.str s), (.nat j12), (.nat d), (.bool a)])))) (K (.val (.tup [(.int .i64 x), (.nat 0), .nilif])) a2)))) ?_
   refine Q0 (Q0 ?_)
   refine Qd ?_ ?_ <;> intro h1 <;> simp -failIfUnchanged [-List.getD_eq_getElem?_getD, -UInt8.toNat_or] at h1
   exact Qa hk (by rw [k4]; unfold Zg; rw [if_neg (by omega)]) _
   refine Q0 ?_
   refine Qd ?_ ?_ <;> intro h2 <;> simp -failIfUnchanged [-List.getD_eq_getElem?_getD, -UInt8.toNat_or] at h2
   refine Q0 (Q0 (Q0 (Q0 (Q0 ?_))))
   refine QJ (fun v9 h3 => ?_) (fun h3 => ?_)
   intro h4
   simp -failIfUnchanged [-List.getD_eq_getElem?_getD, -UInt8.toNat_or] at h4
   have e : VU s i = some (x, (v9.1 : Int), v9.2) := by rw [k4]; unfold Zg; rw [if_pos h1, if_pos h2, Q1, h3]; rfl
   have q := Qi hk e (.int .i64 x) (.nat v9.1) (by dsimp only; omega) (by dsimp only; omega) rfl rfl
   dsimp only at q
   exact q
   intro j10
   exact Qa hk (by rw [k4]; unfold Zg; rw [if_pos h1, if_pos h2, Q1, h3]; rfl) _
   refine Qd (fun h3 => ?_) (fun h3 => ?_)
   simp -failIfUnchanged [-List.getD_eq_getElem?_getD, -UInt8.toNat_or] at h3
   refine Q0 (Q0 (Q0 (Q0 (Q0 ?_))))
   refine QJ (fun v11 h4 => ?_) (fun h4 => ?_)
   intro h5
   simp -failIfUnchanged [-List.getD_eq_getElem?_getD, -UInt8.toNat_or] at h5
   refine Q0 ?_
   have e : VU s i = some (x, 0 - (v11.1 : Int), v11.2) := by rw [k4]; unfold Zg; rw [if_pos h1, if_neg h2, if_pos h3, Q1, h4]; rfl
   have q := Qi hk e (.int .i64 x) (.int .i64 (0 - (v11.1 : Int))) (by dsimp only; omega) (by dsimp only; omega) rfl rfl
   dsimp only at q
   exact q
   intro j12
   exact Qa hk (by rw [k4]; unfold Zg; rw [if_pos h1, if_neg h2, if_pos h3, Q1, h4]; rfl) _
   simp -failIfUnchanged [-List.getD_eq_getElem?_getD, -UInt8.toNat_or] at h3
   have e : VU s i = some (x, 0, iWs s p) := by rw [k4]; unfold Zg; rw [if_pos h1, if_neg h2, if_neg h3]
   have q := Qi hk e (.int .i64 x) (.nat 0) (by dsimp only; omega) (by dsimp only; omega) rfl rfl
   dsimp only at q
   exact q
 have L73 : ∀ (mm : Nat) (x : Int) (p : Nat), 0 = mm -> (i <= p /\ p <= s.length /\ inI x /\ VU s i = ZA s x p) -> VT.C K 73 (mkS 280 [(0, (.ptr 0 0)), (2, (.int .i64 x))] [(0, .blk 94 [(.str s), (.nat p), (.nat d), (.bool a)])] 1) := by
  intro mm
  induction mm using Nat.strongRecOn with
  | _ mm ih =>
   intro x p hm hI
   obtain ⟨k1, k2, k3, k4⟩ := hI
   refine VT.aC hD (have a0 := mkS 280 [(0, (.ptr 0 0)), (2, (.int .i64 x))] [(0, .blk 94 [(.str s), (.nat (p + 1)), (.nat d), (.bool a)])] 1; have a1 : Option SB := some (.blk 94 [(.str s), (.nat p), (.nat d), (.bool a)]); cond (decide (s.length <= p)) (K (.val (.tup [(.nat 0), (.nat 0), .ifx])) a1) ((p < s.length) /\ cond (decide (bat s p = 110)) ((p + 1 <= 9223372036854775807) /\ (VT).C K 79 a0) (cond (decide (bat s p = 78)) ((p + 1 <= 9223372036854775807) /\ (VT).C K 79 a0) (K (.val (.tup [(.nat 0), (.int .i64 x), .nilif])) a1)))) ?_
   refine Qd ?_ ?_ <;> intro h1 <;> simp -failIfUnchanged [-List.getD_eq_getElem?_getD, -UInt8.toNat_or] at h1
   exact Qa hk (by rw [k4]; unfold ZA; rw [if_neg (by omega)]) _
   refine Q0 ?_
   refine Qd ?_ ?_ <;> intro h2 <;> simp -failIfUnchanged [-List.getD_eq_getElem?_getD, -UInt8.toNat_or] at h2
   refine Q0 ?_
   exact L79 _ x (p + 1) rfl ⟨by omega, by omega, k3, by rw [k4]; unfold ZA; rw [if_pos h1, if_pos (by simp [isN, h2])]⟩
   refine Qd (fun h3 => ?_) (fun h3 => ?_)
   simp -failIfUnchanged [-List.getD_eq_getElem?_getD, -UInt8.toNat_or] at h3
   refine Q0 ?_
   exact L79 _ x (p + 1) rfl ⟨by omega, by omega, k3, by rw [k4]; unfold ZA; rw [if_pos h1, if_pos (by simp [isN, h3])]⟩
   simp -failIfUnchanged [-List.getD_eq_getElem?_getD, -UInt8.toNat_or] at h3
   have e : VU s i = some (0, x, p) := by rw [k4]; unfold ZA; rw [if_pos h1, if_neg (by simp [isN]; omega)]
   have q := Qi hk e (.nat 0) (.int .i64 x) (by dsimp only; omega) (by dsimp only; omega) rfl rfl
   dsimp only at q
   exact q
 have L34 : ∀ (mm : Nat) (p : Nat), 0 = mm -> (i <= p /\ p <= s.length /\ VU s i = VZ s p) -> VT.C K 34 (mkS 280 [(0, (.ptr 0 0))] [(0, .blk 94 [(.str s), (.nat p), (.nat d), (.bool a)])] 1) := by
  intro mm
  induction mm using Nat.strongRecOn with
  | _ mm ih =>
   intro p hm hI
   obtain ⟨k1, k2, k4⟩ := hI
   refine VT.aC hD (have a0 : Out := .val (.tup [(.nat 0), (.nat 0), .ifx]); have a1 := s.length <= 1000000; have a2 := p <= s.length; have a3 := mkS 280 [(0, (.ptr 0 0)), (2, (.nat 1))] [(0, .blk 94 [(.str s), (.nat (p + 1)), (.nat d), (.bool a)])] 1; have a4 : Option SB := some (.blk 94 [(.str s), (.nat p), (.nat d), (.bool a)]); cond (decide (s.length <= p)) (K a0 a4) ((p < s.length) /\ cond (decide (bat s p = 48)) (a1 /\ a2 /\ Qx (Ye s p) (fun v13 => (p < v13.2 /\ v13.2 <= s.length /\ v13.1 <= 9223372036854775807) -> (VT).C K 73 (mkS 280 [(0, (.ptr 0 0)), (2, (.nat v13.1))] [(0, .blk 94 [(.str s), (.nat v13.2), (.nat d), (.bool a)])] 1)) (∀ j14 : Nat, K a0 (some (.blk 94 [(.str s), (.nat j14), (.nat d), (.bool a)])))) (cond (decide (bat s p = 49)) (a1 /\ a2 /\ Qx (Ye s p) (fun v15 => (p < v15.2 /\ v15.2 <= s.length /\ v15.1 <= 9223372036854775807) -> (VT).C K 73 (mkS 280 [(0, (.ptr 0 0)), (2, (.nat v15.1))] [(0, .blk 94 [(.str s), (.nat v15.2), (.nat d), (.bool a)])] 1)) (∀ j16 : Nat, K a0 (some (.blk 94 [(.str s), (.nat j16), (.nat d), (.bool a)])))) (cond (decide (bat s p = 50)) (a1 /\ a2 /\ Qx (Ye s p) (fun v17 => (p < v17.2 /\ v17.2 <= s.length /\ v17.1 <= 9223372036854775807) -> (VT).C K 73 (mkS 280 [(0, (.ptr 0 0)), (2, (.nat v17.1))] [(0, .blk 94 [(.str s), (.nat v17.2), (.nat d), (.bool a)])] 1)) (∀ j18 : Nat, K a0 (some (.blk 94 [(.str s), (.nat j18), (.nat d), (.bool a)])))) (cond (decide (bat s p = 51)) (a1 /\ a2 /\ Qx (Ye s p) (fun v19 => (p < v19.2 /\ v19.2 <= s.length /\ v19.1 <= 9223372036854775807) -> (VT).C K 73 (mkS 280 [(0, (.ptr 0 0)), (2, (.nat v19.1))] [(0, .blk 94 [(.str s), (.nat v19.2), (.nat d), (.bool a)])] 1)) (∀ j20 : Nat, K a0 (some (.blk 94 [(.str s), (.nat j20), (.nat d), (.bool a)])))) (cond (decide (bat s p = 52)) (a1 /\ a2 /\ Qx (Ye s p) (fun v21 => (p < v21.2 /\ v21.2 <= s.length /\ v21.1 <= 9223372036854775807) -> (VT).C K 73 (mkS 280 [(0, (.ptr 0 0)), (2, (.nat v21.1))] [(0, .blk 94 [(.str s), (.nat v21.2), (.nat d), (.bool a)])] 1)) (∀ j22 : Nat, K a0 (some (.blk 94 [(.str s), (.nat j22), (.nat d), (.bool a)])))) (cond (decide (bat s p = 53)) (a1 /\ a2 /\ Qx (Ye s p) (fun v23 => (p < v23.2 /\ v23.2 <= s.length /\ v23.1 <= 9223372036854775807) -> (VT).C K 73 (mkS 280 [(0, (.ptr 0 0)), (2, (.nat v23.1))] [(0, .blk 94 [(.str s), (.nat v23.2), (.nat d), (.bool a)])] 1)) (∀ j24 : Nat, K a0 (some (.blk 94 [(.str s), (.nat j24), (.nat d), (.bool a)])))) (cond (decide (bat s p = 54)) (a1 /\ a2 /\ Qx (Ye s p) (fun v25 => (p < v25.2 /\ v25.2 <= s.length /\ v25.1 <= 9223372036854775807) -> (VT).C K 73 (mkS 280 [(0, (.ptr 0 0)), (2, (.nat v25.1))] [(0, .blk 94 [(.str s), (.nat v25.2), (.nat d), (.bool a)])] 1)) (∀ j26 : Nat, K a0 (some (.blk 94 [(.str s), (.nat j26), (.nat d), (.bool a)])))) (cond (decide (bat s p = 55)) (a1 /\ a2 /\ Qx (Ye s p) (fun v27 => (p < v27.2 /\ v27.2 <= s.length /\ v27.1 <= 9223372036854775807) -> (VT).C K 73 (mkS 280 [(0, (.ptr 0 0)), (2, (.nat v27.1))] [(0, .blk 94 [(.str s), (.nat v27.2), (.nat d), (.bool a)])] 1)) (∀ j28 : Nat, K a0 (some (.blk 94 [(.str s), (.nat j28), (.nat d), (.bool a)])))) (cond (decide (bat s p = 56)) (a1 /\ a2 /\ Qx (Ye s p) (fun v29 => (p < v29.2 /\ v29.2 <= s.length /\ v29.1 <= 9223372036854775807) -> (VT).C K 73 (mkS 280 [(0, (.ptr 0 0)), (2, (.nat v29.1))] [(0, .blk 94 [(.str s), (.nat v29.2), (.nat d), (.bool a)])] 1)) (∀ j30 : Nat, K a0 (some (.blk 94 [(.str s), (.nat j30), (.nat d), (.bool a)])))) (cond (decide (bat s p = 57)) (a1 /\ a2 /\ Qx (Ye s p) (fun v31 => (p < v31.2 /\ v31.2 <= s.length /\ v31.1 <= 9223372036854775807) -> (VT).C K 73 (mkS 280 [(0, (.ptr 0 0)), (2, (.nat v31.1))] [(0, .blk 94 [(.str s), (.nat v31.2), (.nat d), (.bool a)])] 1)) (∀ j32 : Nat, K a0 (some (.blk 94 [(.str s), (.nat j32), (.nat d), (.bool a)])))) (cond (decide (bat s p = 110)) ((p + 1 <= 9223372036854775807) /\ (VT).C K 79 a3) (cond (decide (bat s p = 78)) ((p + 1 <= 9223372036854775807) /\ (VT).C K 79 a3) (K a0 a4)))))))))))))) ?_
   refine Qd ?_ ?_ <;> intro h1 <;> simp -failIfUnchanged [-List.getD_eq_getElem?_getD, -UInt8.toNat_or] at h1
   exact Qa hk (by rw [k4]; unfold VZ; rw [if_neg (by omega)]) _
   refine Q0 ?_
   refine Qd ?_ ?_ <;> intro h2 <;> simp -failIfUnchanged [-List.getD_eq_getElem?_getD, -UInt8.toNat_or] at h2
   refine Q0 (Q0 ?_)
   refine QJ (fun v13 h3 => ?_) (fun h3 => ?_)
   intro h4
   simp -failIfUnchanged [-List.getD_eq_getElem?_getD, -UInt8.toNat_or] at h4
   exact Wk.C.rn [0] (L73 _ (v13.1 : Int) v13.2 rfl ⟨by omega, by omega, by unfold inI; omega, by rw [k4]; unfold VZ; rw [if_pos h1, if_pos (by simp [Qy, h2]), Q1, h3]; rfl⟩)
   intro j14
   exact Qa hk (by rw [k4]; unfold VZ; rw [if_pos h1, if_pos (by simp [Qy, h2]), Q1, h3]; rfl) _
   refine Qd (fun h3 => ?_) (fun h3 => ?_)
   simp -failIfUnchanged [-List.getD_eq_getElem?_getD, -UInt8.toNat_or] at h3
   refine Q0 (Q0 ?_)
   refine QJ (fun v15 h4 => ?_) (fun h4 => ?_)
   intro h5
   simp -failIfUnchanged [-List.getD_eq_getElem?_getD, -UInt8.toNat_or] at h5
   exact Wk.C.rn [0] (L73 _ (v15.1 : Int) v15.2 rfl ⟨by omega, by omega, by unfold inI; omega, by rw [k4]; unfold VZ; rw [if_pos h1, if_pos (by simp [Qy, h3]), Q1, h4]; rfl⟩)
   intro j16
   exact Qa hk (by rw [k4]; unfold VZ; rw [if_pos h1, if_pos (by simp [Qy, h3]), Q1, h4]; rfl) _
   simp -failIfUnchanged [-List.getD_eq_getElem?_getD, -UInt8.toNat_or] at h3
   refine Qd ?_ ?_ <;> intro h4 <;> simp -failIfUnchanged [-List.getD_eq_getElem?_getD, -UInt8.toNat_or] at h4
   refine Q0 (Q0 ?_)
   refine QJ (fun v17 h5 => ?_) (fun h5 => ?_)
   intro h6
   simp -failIfUnchanged [-List.getD_eq_getElem?_getD, -UInt8.toNat_or] at h6
   exact Wk.C.rn [0] (L73 _ (v17.1 : Int) v17.2 rfl ⟨by omega, by omega, by unfold inI; omega, by rw [k4]; unfold VZ; rw [if_pos h1, if_pos (by simp [Qy, h4]), Q1, h5]; rfl⟩)
   intro j18
   exact Qa hk (by rw [k4]; unfold VZ; rw [if_pos h1, if_pos (by simp [Qy, h4]), Q1, h5]; rfl) _
   refine Qd (fun h5 => ?_) (fun h5 => ?_)
   simp -failIfUnchanged [-List.getD_eq_getElem?_getD, -UInt8.toNat_or] at h5
   refine Q0 (Q0 ?_)
   refine QJ (fun v19 h6 => ?_) (fun h6 => ?_)
   intro h7
   simp -failIfUnchanged [-List.getD_eq_getElem?_getD, -UInt8.toNat_or] at h7
   exact Wk.C.rn [0] (L73 _ (v19.1 : Int) v19.2 rfl ⟨by omega, by omega, by unfold inI; omega, by rw [k4]; unfold VZ; rw [if_pos h1, if_pos (by simp [Qy, h5]), Q1, h6]; rfl⟩)
   intro j20
   exact Qa hk (by rw [k4]; unfold VZ; rw [if_pos h1, if_pos (by simp [Qy, h5]), Q1, h6]; rfl) _
   simp -failIfUnchanged [-List.getD_eq_getElem?_getD, -UInt8.toNat_or] at h5
   refine Qd ?_ ?_ <;> intro h6 <;> simp -failIfUnchanged [-List.getD_eq_getElem?_getD, -UInt8.toNat_or] at h6
   refine Q0 (Q0 ?_)
   refine QJ (fun v21 h7 => ?_) (fun h7 => ?_)
   intro h8
   simp -failIfUnchanged [-List.getD_eq_getElem?_getD, -UInt8.toNat_or] at h8
   exact Wk.C.rn [0] (L73 _ (v21.1 : Int) v21.2 rfl ⟨by omega, by omega, by unfold inI; omega, by rw [k4]; unfold VZ; rw [if_pos h1, if_pos (by simp [Qy, h6]), Q1, h7]; rfl⟩)
   intro j22
   exact Qa hk (by rw [k4]; unfold VZ; rw [if_pos h1, if_pos (by simp [Qy, h6]), Q1, h7]; rfl) _
   refine Qd (fun h7 => ?_) (fun h7 => ?_)
   simp -failIfUnchanged [-List.getD_eq_getElem?_getD, -UInt8.toNat_or] at h7
   refine Q0 (Q0 ?_)
   refine QJ (fun v23 h8 => ?_) (fun h8 => ?_)
   intro h9
   simp -failIfUnchanged [-List.getD_eq_getElem?_getD, -UInt8.toNat_or] at h9
   exact Wk.C.rn [0] (L73 _ (v23.1 : Int) v23.2 rfl ⟨by omega, by omega, by unfold inI; omega, by rw [k4]; unfold VZ; rw [if_pos h1, if_pos (by simp [Qy, h7]), Q1, h8]; rfl⟩)
   intro j24
   exact Qa hk (by rw [k4]; unfold VZ; rw [if_pos h1, if_pos (by simp [Qy, h7]), Q1, h8]; rfl) _
   simp -failIfUnchanged [-List.getD_eq_getElem?_getD, -UInt8.toNat_or] at h7
   refine Qd ?_ ?_ <;> intro h8 <;> simp -failIfUnchanged [-List.getD_eq_getElem?_getD, -UInt8.toNat_or] at h8
   refine Q0 (Q0 ?_)
   refine QJ (fun v25 h9 => ?_) (fun h9 => ?_)
   intro h10
   simp -failIfUnchanged [-List.getD_eq_getElem?_getD, -UInt8.toNat_or] at h10
   exact Wk.C.rn [0] (L73 _ (v25.1 : Int) v25.2 rfl ⟨by omega, by omega, by unfold inI; omega, by rw [k4]; unfold VZ; rw [if_pos h1, if_pos (by simp [Qy, h8]), Q1, h9]; rfl⟩)
   intro j26
   exact Qa hk (by rw [k4]; unfold VZ; rw [if_pos h1, if_pos (by simp [Qy, h8]), Q1, h9]; rfl) _
   refine Qd (fun h9 => ?_) (fun h9 => ?_)
   simp -failIfUnchanged [-List.getD_eq_getElem?_getD, -UInt8.toNat_or] at h9
   refine Q0 (Q0 ?_)
   refine QJ (fun v27 h10 => ?_) (fun h10 => ?_)
   intro h11
   simp -failIfUnchanged [-List.getD_eq_getElem?_getD, -UInt8.toNat_or] at h11
   exact Wk.C.rn [0] (L73 _ (v27.1 : Int) v27.2 rfl ⟨by omega, by omega, by unfold inI; omega, by rw [k4]; unfold VZ; rw [if_pos h1, if_pos (by simp [Qy, h9]), Q1, h10]; rfl⟩)
   intro j28
   exact Qa hk (by rw [k4]; unfold VZ; rw [if_pos h1, if_pos (by simp [Qy, h9]), Q1, h10]; rfl) _
   simp -failIfUnchanged [-List.getD_eq_getElem?_getD, -UInt8.toNat_or] at h9
   refine Qd ?_ ?_ <;> intro h10 <;> simp -failIfUnchanged [-List.getD_eq_getElem?_getD, -UInt8.toNat_or] at h10
   refine Q0 (Q0 ?_)
   refine QJ (fun v29 h11 => ?_) (fun h11 => ?_)
   intro h12
   simp -failIfUnchanged [-List.getD_eq_getElem?_getD, -UInt8.toNat_or] at h12
   exact Wk.C.rn [0] (L73 _ (v29.1 : Int) v29.2 rfl ⟨by omega, by omega, by unfold inI; omega, by rw [k4]; unfold VZ; rw [if_pos h1, if_pos (by simp [Qy, h10]), Q1, h11]; rfl⟩)
   intro j30
   exact Qa hk (by rw [k4]; unfold VZ; rw [if_pos h1, if_pos (by simp [Qy, h10]), Q1, h11]; rfl) _
   refine Qd (fun h11 => ?_) (fun h11 => ?_)
   simp -failIfUnchanged [-List.getD_eq_getElem?_getD, -UInt8.toNat_or] at h11
   refine Q0 (Q0 ?_)
   refine QJ (fun v31 h12 => ?_) (fun h12 => ?_)
   intro h13
   simp -failIfUnchanged [-List.getD_eq_getElem?_getD, -UInt8.toNat_or] at h13
   exact Wk.C.rn [0] (L73 _ (v31.1 : Int) v31.2 rfl ⟨by omega, by omega, by unfold inI; omega, by rw [k4]; unfold VZ; rw [if_pos h1, if_pos (by simp [Qy, h11]), Q1, h12]; rfl⟩)
   intro j32
   exact Qa hk (by rw [k4]; unfold VZ; rw [if_pos h1, if_pos (by simp [Qy, h11]), Q1, h12]; rfl) _
   simp -failIfUnchanged [-List.getD_eq_getElem?_getD, -UInt8.toNat_or] at h11
   refine Qd ?_ ?_ <;> intro h12 <;> simp -failIfUnchanged [-List.getD_eq_getElem?_getD, -UInt8.toNat_or] at h12
   refine Q0 ?_
   exact Wk.C.rn [0] (L79 _ 1 (p + 1) rfl ⟨by omega, by omega, by unfold inI; omega, by rw [k4]; unfold VZ; rw [if_pos h1, if_neg (by simp [Qy]; omega), if_pos (by simp [isN, h12])]⟩)
   refine Qd (fun h13 => ?_) (fun h13 => ?_)
   simp -failIfUnchanged [-List.getD_eq_getElem?_getD, -UInt8.toNat_or] at h13
   refine Q0 ?_
   exact Wk.C.rn [0] (L79 _ 1 (p + 1) rfl ⟨by omega, by omega, by unfold inI; omega, by rw [k4]; unfold VZ; rw [if_pos h1, if_neg (by simp [Qy]; omega), if_pos (by simp [isN, h13])]⟩)
   simp -failIfUnchanged [-List.getD_eq_getElem?_getD, -UInt8.toNat_or] at h13
   exact Qa hk (by rw [k4]; unfold VZ; rw [if_pos h1, if_neg (by simp [Qy]; omega), if_neg (by simp [isN]; omega)]) _
 have L53 : ∀ (mm : Nat) (p : Nat), 0 = mm -> (i <= p /\ p <= s.length /\ VU s i = V9 s p) -> VT.C K 53 (mkS 280 [(0, (.ptr 0 0))] [(0, .blk 94 [(.str s), (.nat p), (.nat d), (.bool a)])] 1) := by
  intro mm
  induction mm using Nat.strongRecOn with
  | _ mm ih =>
   intro p hm hI
   obtain ⟨k1, k2, k4⟩ := hI
   refine VT.aC hD (have a0 : Out := .val (.tup [(.nat 0), (.nat 0), .ifx]); have a1 := s.length <= 1000000; have a2 := p <= s.length; have a3 := mkS 280 [(0, (.ptr 0 0)), (2, (.int .i64 (-1)))] [(0, .blk 94 [(.str s), (.nat (p + 1)), (.nat d), (.bool a)])] 1; have a4 : Option SB := some (.blk 94 [(.str s), (.nat p), (.nat d), (.bool a)]); cond (decide (s.length <= p)) (K a0 a4) ((p < s.length) /\ cond (decide (bat s p = 48)) (a1 /\ a2 /\ Qx (Ye s p) (fun v33 => (p < v33.2 /\ v33.2 <= s.length /\ v33.1 <= 9223372036854775807) -> (inI (0 - ((v33.1 : Nat) : Int))) /\ (VT).C K 73 (mkS 280 [(0, (.ptr 0 0)), (2, (.int .i64 (0 - ((v33.1 : Nat) : Int))))] [(0, .blk 94 [(.str s), (.nat v33.2), (.nat d), (.bool a)])] 1)) (∀ j34 : Nat, K a0 (some (.blk 94 [(.str s), (.nat j34), (.nat d), (.bool a)])))) (cond (decide (bat s p = 49)) (a1 /\ a2 /\ Qx (Ye s p) (fun v35 => (p < v35.2 /\ v35.2 <= s.length /\ v35.1 <= 9223372036854775807) -> (inI (0 - ((v35.1 : Nat) : Int))) /\ (VT).C K 73 (mkS 280 [(0, (.ptr 0 0)), (2, (.int .i64 (0 - ((v35.1 : Nat) : Int))))] [(0, .blk 94 [(.str s), (.nat v35.2), (.nat d), (.bool a)])] 1)) (∀ j36 : Nat, K a0 (some (.blk 94 [(.str s), (.nat j36), (.nat d), (.bool a)])))) (cond (decide (bat s p = 50)) (a1 /\ a2 /\ Qx (Ye s p) (fun v37 => (p < v37.2 /\ v37.2 <= s.length /\ v37.1 <= 9223372036854775807) -> (inI (0 - ((v37.1 : Nat) : Int))) /\ (VT).C K 73 (mkS 280 [(0, (.ptr 0 0)), (2, (.int .i64 (0 - ((v37.1 : Nat) : Int))))] [(0, .blk 94 [(.str s), (.nat v37.2), (.nat d), (.bool a)])] 1)) (∀ j38 : Nat, K a0 (some (.blk 94 [(.str s), (.nat j38), (.nat d), (.bool a)])))) (cond (decide (bat s p = 51)) (a1 /\ a2 /\ Qx (Ye s p) (fun v39 => (p < v39.2 /\ v39.2 <= s.length /\ v39.1 <= 9223372036854775807) -> (inI (0 - ((v39.1 : Nat) : Int))) /\ (VT).C K 73 (mkS 280 [(0, (.ptr 0 0)), (2, (.int .i64 (0 - ((v39.1 : Nat) : Int))))] [(0, .blk 94 [(.str s), (.nat v39.2), (.nat d), (.bool a)])] 1)) (∀ j40 : Nat, K a0 (some (.blk 94 [(.str s), (.nat j40), (.nat d), (.bool a)])))) (cond (decide (bat s p = 52)) (a1 /\ a2 /\ Qx (Ye s p) (fun v41 => (p < v41.2 /\ v41.2 <= s.length /\ v41.1 <= 9223372036854775807) -> (inI (0 - ((v41.1 : Nat) : Int))) /\ (VT).C K 73 (mkS 280 [(0, (.ptr 0 0)), (2, (.int .i64 (0 - ((v41.1 : Nat) : Int))))] [(0, .blk 94 [(.str s), (.nat v41.2), (.nat d), (.bool a)])] 1)) (∀ j42 : Nat, K a0 (some (.blk 94 [(.str s), (.nat j42), (.nat d), (.bool a)])))) (cond (decide (bat s p = 53)) (a1 /\ a2 /\ Qx (Ye s p) (fun v43 => (p < v43.2 /\ v43.2 <= s.length /\ v43.1 <= 9223372036854775807) -> (inI (0 - ((v43.1 : Nat) : Int))) /\ (VT).C K 73 (mkS 280 [(0, (.ptr 0 0)), (2, (.int .i64 (0 - ((v43.1 : Nat) : Int))))] [(0, .blk 94 [(.str s), (.nat v43.2), (.nat d), (.bool a)])] 1)) (∀ j44 : Nat, K a0 (some (.blk 94 [(.str s), (.nat j44), (.nat d), (.bool a)])))) (cond (decide (bat s p = 54)) (a1 /\ a2 /\ Qx (Ye s p) (fun v45 => (p < v45.2 /\ v45.2 <= s.length /\ v45.1 <= 9223372036854775807) -> (inI (0 - ((v45.1 : Nat) : Int))) /\ (VT).C K 73 (mkS 280 [(0, (.ptr 0 0)), (2, (.int .i64 (0 - ((v45.1 : Nat) : Int))))] [(0, .blk 94 [(.str s), (.nat v45.2), (.nat d), (.bool a)])] 1)) (∀ j46 : Nat, K a0 (some (.blk 94 [(.str s), (.nat j46), (.nat d), (.bool a)])))) (cond (decide (bat s p = 55)) (a1 /\ a2 /\ Qx (Ye s p) (fun v47 => (p < v47.2 /\ v47.2 <= s.length /\ v47.1 <= 9223372036854775807) -> (inI (0 - ((v47.1 : Nat) : Int))) /\ (VT).C K 73 (mkS 280 [(0, (.ptr 0 0)), (2, (.int .i64 (0 - ((v47.1 : Nat) : Int))))] [(0, .blk 94 [(.str s), (.nat v47.2), (.nat d), (.bool a)])] 1)) (∀ j48 : Nat, K a0 (some (.blk 94 [(.str s), (.nat j48), (.nat d), (.bool a)])))) (cond (decide (bat s p = 56)) (a1 /\ a2 /\ Qx (Ye s p) (fun v49 => (p < v49.2 /\ v49.2 <= s.length /\ v49.1 <= 9223372036854775807) -> (inI (0 - ((v49.1 : Nat) : Int))) /\ (VT).C K 73 (mkS 280 [(0, (.ptr 0 0)), (2, (.int .i64 (0 - ((v49.1 : Nat) : Int))))] [(0, .blk 94 [(.str s), (.nat v49.2), (.nat d), (.bool a)])] 1)) (∀ j50 : Nat, K a0 (some (.blk 94 [(.str s), (.nat j50), (.nat d), (.bool a)])))) (cond (decide (bat s p = 57)) (a1 /\ a2 /\ Qx (Ye s p) (fun v51 => (p < v51.2 /\ v51.2 <= s.length /\ v51.1 <= 9223372036854775807) -> (inI (0 - ((v51.1 : Nat) : Int))) /\ (VT).C K 73 (mkS 280 [(0, (.ptr 0 0)), (2, (.int .i64 (0 - ((v51.1 : Nat) : Int))))] [(0, .blk 94 [(.str s), (.nat v51.2), (.nat d), (.bool a)])] 1)) (∀ j52 : Nat, K a0 (some (.blk 94 [(.str s), (.nat j52), (.nat d), (.bool a)])))) (cond (decide (bat s p = 110)) ((p + 1 <= 9223372036854775807) /\ (VT).C K 79 a3) (cond (decide (bat s p = 78)) ((p + 1 <= 9223372036854775807) /\ (VT).C K 79 a3) (K a0 a4)))))))))))))) ?_
   refine Qd ?_ ?_ <;> intro h1 <;> simp -failIfUnchanged [-List.getD_eq_getElem?_getD, -UInt8.toNat_or] at h1
   exact Qa hk (by rw [k4]; unfold V9; rw [if_neg (by omega)]) _
   refine Q0 ?_
   refine Qd ?_ ?_ <;> intro h2 <;> simp -failIfUnchanged [-List.getD_eq_getElem?_getD, -UInt8.toNat_or] at h2
   refine Q0 (Q0 ?_)
   refine QJ (fun v33 h3 => ?_) (fun h3 => ?_)
   intro h4
   simp -failIfUnchanged [-List.getD_eq_getElem?_getD, -UInt8.toNat_or] at h4
   refine Q0 ?_
   exact L73 _ (0 - (v33.1 : Int)) v33.2 rfl ⟨by omega, by omega, by unfold inI; omega, by rw [k4]; unfold V9; rw [if_pos h1, if_pos (by simp [Qy, h2]), Q1, h3]; rfl⟩
   intro j34
   exact Qa hk (by rw [k4]; unfold V9; rw [if_pos h1, if_pos (by simp [Qy, h2]), Q1, h3]; rfl) _
   refine Qd (fun h3 => ?_) (fun h3 => ?_)
   simp -failIfUnchanged [-List.getD_eq_getElem?_getD, -UInt8.toNat_or] at h3
   refine Q0 (Q0 ?_)
   refine QJ (fun v35 h4 => ?_) (fun h4 => ?_)
   intro h5
   simp -failIfUnchanged [-List.getD_eq_getElem?_getD, -UInt8.toNat_or] at h5
   refine Q0 ?_
   exact L73 _ (0 - (v35.1 : Int)) v35.2 rfl ⟨by omega, by omega, by unfold inI; omega, by rw [k4]; unfold V9; rw [if_pos h1, if_pos (by simp [Qy, h3]), Q1, h4]; rfl⟩
   intro j36
   exact Qa hk (by rw [k4]; unfold V9; rw [if_pos h1, if_pos (by simp [Qy, h3]), Q1, h4]; rfl) _
   simp -failIfUnchanged [-List.getD_eq_getElem?_getD, -UInt8.toNat_or] at h3
   refine Qd ?_ ?_ <;> intro h4 <;> simp -failIfUnchanged [-List.getD_eq_getElem?_getD, -UInt8.toNat_or] at h4
   refine Q0 (Q0 ?_)
   refine QJ (fun v37 h5 => ?_) (fun h5 => ?_)
   intro h6
   simp -failIfUnchanged [-List.getD_eq_getElem?_getD, -UInt8.toNat_or] at h6
   refine Q0 ?_
   exact L73 _ (0 - (v37.1 : Int)) v37.2 rfl ⟨by omega, by omega, by unfold inI; omega, by rw [k4]; unfold V9; rw [if_pos h1, if_pos (by simp [Qy, h4]), Q1, h5]; rfl⟩
   intro j38
   exact Qa hk (by rw [k4]; unfold V9; rw [if_pos h1, if_pos (by simp [Qy, h4]), Q1, h5]; rfl) _
   refine Qd (fun h5 => ?_) (fun h5 => ?_)
   simp -failIfUnchanged [-List.getD_eq_getElem?_getD, -UInt8.toNat_or] at h5
   refine Q0 (Q0 ?_)
   refine QJ (fun v39 h6 => ?_) (fun h6 => ?_)
   intro h7
   simp -failIfUnchanged [-List.getD_eq_getElem?_getD, -UInt8.toNat_or] at h7
   refine Q0 ?_
   exact L73 _ (0 - (v39.1 : Int)) v39.2 rfl ⟨by omega, by omega, by unfold inI; omega, by rw [k4]; unfold V9; rw [if_pos h1, if_pos (by simp [Qy, h5]), Q1, h6]; rfl⟩
   intro j40
   exact Qa hk (by rw [k4]; unfold V9; rw [if_pos h1, if_pos (by simp [Qy, h5]), Q1, h6]; rfl) _
   simp -failIfUnchanged [-List.getD_eq_getElem?_getD, -UInt8.toNat_or] at h5
   refine Qd ?_ ?_ <;> intro h6 <;> simp -failIfUnchanged [-List.getD_eq_getElem?_getD, -UInt8.toNat_or] at h6
   refine Q0 (Q0 ?_)
   refine QJ (fun v41 h7 => ?_) (fun h7 => ?_)
   intro h8
   simp -failIfUnchanged [-List.getD_eq_getElem?_getD, -UInt8.toNat_or] at h8
   refine Q0 ?_
   exact L73 _ (0 - (v41.1 : Int)) v41.2 rfl ⟨by omega, by omega, by unfold inI; omega, by rw [k4]; unfold V9; rw [if_pos h1, if_pos (by simp [Qy, h6]), Q1, h7]; rfl⟩
   intro j42
   exact Qa hk (by rw [k4]; unfold V9; rw [if_pos h1, if_pos (by simp [Qy, h6]), Q1, h7]; rfl) _
   refine Qd (fun h7 => ?_) (fun h7 => ?_)
   simp -failIfUnchanged [-List.getD_eq_getElem?_getD, -UInt8.toNat_or] at h7
   refine Q0 (Q0 ?_)
   refine QJ (fun v43 h8 => ?_) (fun h8 => ?_)
   intro h9
   simp -failIfUnchanged [-List.getD_eq_getElem?_getD, -UInt8.toNat_or] at h9
   refine Q0 ?_
   exact L73 _ (0 - (v43.1 : Int)) v43.2 rfl ⟨by omega, by omega, by unfold inI; omega, by rw [k4]; unfold V9; rw [if_pos h1, if_pos (by simp [Qy, h7]), Q1, h8]; rfl⟩
   intro j44
   exact Qa hk (by rw [k4]; unfold V9; rw [if_pos h1, if_pos (by simp [Qy, h7]), Q1, h8]; rfl) _
   simp -failIfUnchanged [-List.getD_eq_getElem?_getD, -UInt8.toNat_or] at h7
   refine Qd ?_ ?_ <;> intro h8 <;> simp -failIfUnchanged [-List.getD_eq_getElem?_getD, -UInt8.toNat_or] at h8
   refine Q0 (Q0 ?_)
   refine QJ (fun v45 h9 => ?_) (fun h9 => ?_)
   intro h10
   simp -failIfUnchanged [-List.getD_eq_getElem?_getD, -UInt8.toNat_or] at h10
   refine Q0 ?_
   exact L73 _ (0 - (v45.1 : Int)) v45.2 rfl ⟨by omega, by omega, by unfold inI; omega, by rw [k4]; unfold V9; rw [if_pos h1, if_pos (by simp [Qy, h8]), Q1, h9]; rfl⟩
   intro j46
   exact Qa hk (by rw [k4]; unfold V9; rw [if_pos h1, if_pos (by simp [Qy, h8]), Q1, h9]; rfl) _
   refine Qd (fun h9 => ?_) (fun h9 => ?_)
   simp -failIfUnchanged [-List.getD_eq_getElem?_getD, -UInt8.toNat_or] at h9
   refine Q0 (Q0 ?_)
   refine QJ (fun v47 h10 => ?_) (fun h10 => ?_)
   intro h11
   simp -failIfUnchanged [-List.getD_eq_getElem?_getD, -UInt8.toNat_or] at h11
   refine Q0 ?_
   exact L73 _ (0 - (v47.1 : Int)) v47.2 rfl ⟨by omega, by omega, by unfold inI; omega, by rw [k4]; unfold V9; rw [if_pos h1, if_pos (by simp [Qy, h9]), Q1, h10]; rfl⟩
   intro j48
   exact Qa hk (by rw [k4]; unfold V9; rw [if_pos h1, if_pos (by simp [Qy, h9]), Q1, h10]; rfl) _
   simp -failIfUnchanged [-List.getD_eq_getElem?_getD, -UInt8.toNat_or] at h9
   refine Qd ?_ ?_ <;> intro h10 <;> simp -failIfUnchanged [-List.getD_eq_getElem?_getD, -UInt8.toNat_or] at h10
   refine Q0 (Q0 ?_)
   refine QJ (fun v49 h11 => ?_) (fun h11 => ?_)
   intro h12
   simp -failIfUnchanged [-List.getD_eq_getElem?_getD, -UInt8.toNat_or] at h12
   refine Q0 ?_
   exact L73 _ (0 - (v49.1 : Int)) v49.2 rfl ⟨by omega, by omega, by unfold inI; omega, by rw [k4]; unfold V9; rw [if_pos h1, if_pos (by simp [Qy, h10]), Q1, h11]; rfl⟩
   intro j50
   exact Qa hk (by rw [k4]; unfold V9; rw [if_pos h1, if_pos (by simp [Qy, h10]), Q1, h11]; rfl) _
   refine Qd (fun h11 => ?_) (fun h11 => ?_)
   simp -failIfUnchanged [-List.getD_eq_getElem?_getD, -UInt8.toNat_or] at h11
   refine Q0 (Q0 ?_)
   refine QJ (fun v51 h12 => ?_) (fun h12 => ?_)
   intro h13
   simp -failIfUnchanged [-List.getD_eq_getElem?_getD, -UInt8.toNat_or] at h13
   refine Q0 ?_
   exact L73 _ (0 - (v51.1 : Int)) v51.2 rfl ⟨by omega, by omega, by unfold inI; omega, by rw [k4]; unfold V9; rw [if_pos h1, if_pos (by simp [Qy, h11]), Q1, h12]; rfl⟩
   intro j52
   exact Qa hk (by rw [k4]; unfold V9; rw [if_pos h1, if_pos (by simp [Qy, h11]), Q1, h12]; rfl) _
   simp -failIfUnchanged [-List.getD_eq_getElem?_getD, -UInt8.toNat_or] at h11
   refine Qd ?_ ?_ <;> intro h12 <;> simp -failIfUnchanged [-List.getD_eq_getElem?_getD, -UInt8.toNat_or] at h12
   refine Q0 ?_
   exact L79 _ (-1) (p + 1) rfl ⟨by omega, by omega, by unfold inI; omega, by rw [k4]; unfold V9; rw [if_pos h1, if_neg (by simp [Qy]; omega), if_pos (by simp [isN, h12])]⟩
   refine Qd (fun h13 => ?_) (fun h13 => ?_)
   simp -failIfUnchanged [-List.getD_eq_getElem?_getD, -UInt8.toNat_or] at h13
   refine Q0 ?_
   exact L79 _ (-1) (p + 1) rfl ⟨by omega, by omega, by unfold inI; omega, by rw [k4]; unfold V9; rw [if_pos h1, if_neg (by simp [Qy]; omega), if_pos (by simp [isN, h13])]⟩
   simp -failIfUnchanged [-List.getD_eq_getElem?_getD, -UInt8.toNat_or] at h13
   exact Qa hk (by rw [k4]; unfold V9; rw [if_pos h1, if_neg (by simp [Qy]; omega), if_neg (by simp [isN]; omega)]) _
 refine VT.en (have a0 := mkS 280 [(0, (.ptr 0 0))] [(0, .blk 94 [(.str s), (.nat i), (.nat d), (.bool a)])] 1; have a1 : Out := .val (.tup [(.nat 0), (.nat 0), .ifx]); have a2 : Out := .val (.tup [(.nat 2), (.nat 1), .nilif]); have a3 : Out := .val (.tup [(.nat 2), (.nat 0), .nilif]); have a4 := mkS 280 [(0, (.ptr 0 0)), (2, (.nat 1))] [(0, .blk 94 [(.str s), (.nat (i + 1)), (.nat d), (.bool a)])] 1; have a5 := mkS 280 [(0, (.ptr 0 0))] [(0, .blk 94 [(.str s), (.nat (i + 1)), (.nat d), (.bool a)])] 1; have a6 := i + 1 <= 9223372036854775807; have a7 := s.length <= 1000000; have a8 : Option SB := some (.blk 94 [(.str s), (.nat i), (.nat d), (.bool a)]); cond (decide (s.length <= i)) (K a1 a8) ((i < s.length) /\ cond (decide (bat s i = 45)) (a6 /\ (VT).C K 53 a5) (cond (decide (bat s i = 43)) (a6 /\ (VT).C K 34 a5) (cond (decide (bat s i = 48)) ((VT).C K 34 a0) (cond (decide (bat s i = 49)) ((VT).C K 34 a0) (cond (decide (bat s i = 50)) ((VT).C K 34 a0) (cond (decide (bat s i = 51)) ((VT).C K 34 a0) (cond (decide (bat s i = 52)) ((VT).C K 34 a0) (cond (decide (bat s i = 53)) ((VT).C K 34 a0) (cond (decide (bat s i = 54)) ((VT).C K 34 a0) (cond (decide (bat s i = 55)) ((VT).C K 34 a0) (cond (decide (bat s i = 56)) ((VT).C K 34 a0) (cond (decide (bat s i = 57)) ((VT).C K 34 a0) (cond (decide (bat s i = 110)) (a6 /\ (VT).C K 79 a4) (cond (decide (bat s i = 78)) (a6 /\ (VT).C K 79 a4) (cond (decide (bat s i = 111)) (a7 /\ (i <= s.length) /\ Qx (V0 s i) (fun v1 => (i < v1.2 /\ v1.2 <= s.length /\ v1.1.length <= 4 * (v1.2 - i)) -> (v1.1.length <= 1000000000) /\ cond (decide (low v1.1 = [111, 100, 100])) (K a2 (some (.blk 94 [(.str s), (.nat v1.2), (.nat d), (.bool a)]))) (cond (decide (low v1.1 = [101, 118, 101, 110])) (K a3 (some (.blk 94 [(.str s), (.nat v1.2), (.nat d), (.bool a)]))) (K a1 (some (.blk 94 [(.str s), (.nat v1.2), (.nat d), (.bool a)]))))) (∀ j2 : Nat, K a1 (some (.blk 94 [(.str s), (.nat j2), (.nat d), (.bool a)])))) (cond (decide (bat s i = 79)) (a7 /\ (i <= s.length) /\ Qx (V0 s i) (fun v3 => (i < v3.2 /\ v3.2 <= s.length /\ v3.1.length <= 4 * (v3.2 - i)) -> (v3.1.length <= 1000000000) /\ cond (decide (low v3.1 = [111, 100, 100])) (K a2 (some (.blk 94 [(.str s), (.nat v3.2), (.nat d), (.bool a)]))) (cond (decide (low v3.1 = [101, 118, 101, 110])) (K a3 (some (.blk 94 [(.str s), (.nat v3.2), (.nat d), (.bool a)]))) (K a1 (some (.blk 94 [(.str s), (.nat v3.2), (.nat d), (.bool a)]))))) (∀ j4 : Nat, K a1 (some (.blk 94 [(.str s), (.nat j4), (.nat d), (.bool a)])))) (cond (decide (bat s i = 101)) (a7 /\ (i <= s.length) /\ Qx (V0 s i) (fun v5 => (i < v5.2 /\ v5.2 <= s.length /\ v5.1.length <= 4 * (v5.2 - i)) -> (v5.1.length <= 1000000000) /\ cond (decide (low v5.1 = [111, 100, 100])) (K a2 (some (.blk 94 [(.str s), (.nat v5.2), (.nat d), (.bool a)]))) (cond (decide (low v5.1 = [101, 118, 101, 110])) (K a3 (some (.blk 94 [(.str s), (.nat v5.2), (.nat d), (.bool a)]))) (K a1 (some (.blk 94 [(.str s), (.nat v5.2), (.nat d), (.bool a)]))))) (∀ j6 : Nat, K a1 (some (.blk 94 [(.str s), (.nat j6), (.nat d), (.bool a)])))) (cond (decide (bat s i = 69)) (a7 /\ (i <= s.length) /\ Qx (V0 s i) (fun v7 => (i < v7.2 /\ v7.2 <= s.length /\ v7.1.length <= 4 * (v7.2 - i)) -> (v7.1.length <= 1000000000) /\ cond (decide (low v7.1 = [111, 100, 100])) (K a2 (some (.blk 94 [(.str s), (.nat v7.2), (.nat d), (.bool a)]))) (cond (decide (low v7.1 = [101, 118, 101, 110])) (K a3 (some (.blk 94 [(.str s), (.nat v7.2), (.nat d), (.bool a)]))) (K a1 (some (.blk 94 [(.str s), (.nat v7.2), (.nat d), (.bool a)]))))) (∀ j8 : Nat, K a1 (some (.blk 94 [(.str s), (.nat j8), (.nat d), (.bool a)])))) (K a1 a8)))))))))))))))))))) ?_
 refine Qd ?_ ?_ <;> intro h1 <;> simp -failIfUnchanged [-List.getD_eq_getElem?_getD, -UInt8.toNat_or] at h1
 exact Qa hk (by unfold VU; rw [if_neg (by omega)]) _
 refine Q0 ?_
 refine Qd ?_ ?_ <;> intro h2 <;> simp -failIfUnchanged [-List.getD_eq_getElem?_getD, -UInt8.toNat_or] at h2
 refine Q0 ?_
 exact L53 _ (i + 1) rfl ⟨by omega, by omega, by unfold VU; rw [if_pos h1, if_pos h2]⟩
 refine Qd (fun h3 => ?_) (fun h3 => ?_)
 simp -failIfUnchanged [-List.getD_eq_getElem?_getD, -UInt8.toNat_or] at h3
 refine Q0 ?_
 exact L34 _ (i + 1) rfl ⟨by omega, by omega, by unfold VU; rw [if_pos h1, if_neg h2, if_pos h3]⟩
 simp -failIfUnchanged [-List.getD_eq_getElem?_getD, -UInt8.toNat_or] at h3
 refine Qd ?_ ?_ <;> intro h4 <;> simp -failIfUnchanged [-List.getD_eq_getElem?_getD, -UInt8.toNat_or] at h4
 exact L34 _ i rfl ⟨by omega, by omega, by unfold VU; rw [if_pos h1, if_neg h2, if_neg h3, if_pos (by simp [Qy, h4])]⟩
 refine Qd (fun h5 => ?_) (fun h5 => ?_)
 simp -failIfUnchanged [-List.getD_eq_getElem?_getD, -UInt8.toNat_or] at h5
 exact L34 _ i rfl ⟨by omega, by omega, by unfold VU; rw [if_pos h1, if_neg h2, if_neg h3, if_pos (by simp [Qy, h5])]⟩
 simp -failIfUnchanged [-List.getD_eq_getElem?_getD, -UInt8.toNat_or] at h5
 refine Qd ?_ ?_ <;> intro h6 <;> simp -failIfUnchanged [-List.getD_eq_getElem?_getD, -UInt8.toNat_or] at h6
 exact L34 _ i rfl ⟨by omega, by omega, by unfold VU; rw [if_pos h1, if_neg h2, if_neg h3, if_pos (by simp [Qy, h6])]⟩
 refine Qd (fun h7 => ?_) (fun h7 => ?_)
 simp -failIfUnchanged [-List.getD_eq_getElem?_getD, -UInt8.toNat_or] at h7
 exact L34 _ i rfl ⟨by omega, by omega, by unfold VU; rw [if_pos h1, if_neg h2, if_neg h3, if_pos (by simp [Qy, h7])]⟩
 simp -failIfUnchanged [-List.getD_eq_getElem?_getD, -UInt8.toNat_or] at h7
 refine Qd ?_ ?_ <;> intro h8 <;> simp -failIfUnchanged [-List.getD_eq_getElem?_getD, -UInt8.toNat_or] at h8
 exact L34 _ i rfl ⟨by omega, by omega, by unfold VU; rw [if_pos h1, if_neg h2, if_neg h3, if_pos (by simp [Qy, h8])]⟩
 refine Qd (fun h9 => ?_) (fun h9 => ?_)
 simp -failIfUnchanged [-List.getD_eq_getElem?_getD, -UInt8.toNat_or] at h9
 exact L34 _ i rfl ⟨by omega, by omega, by unfold VU; rw [if_pos h1, if_neg h2, if_neg h3, if_pos (by simp [Qy, h9])]⟩
 simp -failIfUnchanged [-List.getD_eq_getElem?_getD, -UInt8.toNat_or] at h9
 refine Qd ?_ ?_ <;> intro h10 <;> simp -failIfUnchanged [-List.getD_eq_getElem?_getD, -UInt8.toNat_or] at h10
 exact L34 _ i rfl ⟨by omega, by omega, by unfold VU; rw [if_pos h1, if_neg h2, if_neg h3, if_pos (by simp [Qy, h10])]⟩
 refine Qd (fun h11 => ?_) (fun h11 => ?_)
 simp -failIfUnchanged [-List.getD_eq_getElem?_getD, -UInt8.toNat_or] at h11
 exact L34 _ i rfl ⟨by omega, by omega, by unfold VU; rw [if_pos h1, if_neg h2, if_neg h3, if_pos (by simp [Qy, h11])]⟩
 simp -failIfUnchanged [-List.getD_eq_getElem?_getD, -UInt8.toNat_or] at h11
 refine Qd ?_ ?_ <;> intro h12 <;> simp -failIfUnchanged [-List.getD_eq_getElem?_getD, -UInt8.toNat_or] at h12
 exact L34 _ i rfl ⟨by omega, by omega, by unfold VU; rw [if_pos h1, if_neg h2, if_neg h3, if_pos (by simp [Qy, h12])]⟩
 refine Qd (fun h13 => ?_) (fun h13 => ?_)
 simp -failIfUnchanged [-List.getD_eq_getElem?_getD, -UInt8.toNat_or] at h13
 exact L34 _ i rfl ⟨by omega, by omega, by unfold VU; rw [if_pos h1, if_neg h2, if_neg h3, if_pos (by simp [Qy, h13])]⟩
 simp -failIfUnchanged [-List.getD_eq_getElem?_getD, -UInt8.toNat_or] at h13
 refine Qd ?_ ?_ <;> intro h14 <;> simp -failIfUnchanged [-List.getD_eq_getElem?_getD, -UInt8.toNat_or] at h14
 refine Q0 ?_
 exact Wk.C.rn [0] (L79 _ 1 (i + 1) rfl ⟨by omega, by omega, by unfold inI; omega, by unfold VU; rw [if_pos h1, if_neg h2, if_neg h3, if_neg (by simp [Qy]; omega), if_pos (by simp [isN, h14])]⟩)
 refine Qd (fun h15 => ?_) (fun h15 => ?_)
 simp -failIfUnchanged [-List.getD_eq_getElem?_getD, -UInt8.toNat_or] at h15
 refine Q0 ?_
 exact Wk.C.rn [0] (L79 _ 1 (i + 1) rfl ⟨by omega, by omega, by unfold inI; omega, by unfold VU; rw [if_pos h1, if_neg h2, if_neg h3, if_neg (by simp [Qy]; omega), if_pos (by simp [isN, h15])]⟩)
 simp -failIfUnchanged [-List.getD_eq_getElem?_getD, -UInt8.toNat_or] at h15
 refine Qd ?_ ?_ <;> intro h16 <;> simp -failIfUnchanged [-List.getD_eq_getElem?_getD, -UInt8.toNat_or] at h16
 refine Q0 (Q0 ?_)
 refine QJ (fun v1 h17 => ?_) (fun h17 => ?_)
 intro h18
 simp -failIfUnchanged [-List.getD_eq_getElem?_getD, -UInt8.toNat_or] at h18
 refine Q0 ?_
 refine Qd ?_ ?_ <;> intro h19 <;> simp -failIfUnchanged [-List.getD_eq_getElem?_getD, -UInt8.toNat_or] at h19
 have q := Qi hk (by rw [Yc (by simp [ZY, h16]) h17, if_pos h19]) (.nat 2) (.nat 1) (by dsimp only; omega) (by dsimp only; omega) rfl rfl
 dsimp only at q
 exact q
 refine Qd (fun h20 => ?_) (fun h20 => ?_)
 simp -failIfUnchanged [-List.getD_eq_getElem?_getD, -UInt8.toNat_or] at h20
 have q := Qi hk (by rw [Yc (by simp [ZY, h16]) h17, if_neg h19, if_pos h20]) (.nat 2) (.nat 0) (by dsimp only; omega) (by dsimp only; omega) rfl rfl
 dsimp only at q
 exact q
 simp -failIfUnchanged [-List.getD_eq_getElem?_getD, -UInt8.toNat_or] at h20
 exact Qa hk (by rw [Yc (by simp [ZY, h16]) h17, if_neg h19, if_neg h20]) _
 intro j2
 exact Qa hk (Qbf (by simp [ZY, h16]) h17) _
 refine Qd (fun h17 => ?_) (fun h17 => ?_)
 simp -failIfUnchanged [-List.getD_eq_getElem?_getD, -UInt8.toNat_or] at h17
 refine Q0 (Q0 ?_)
 refine QJ (fun v3 h18 => ?_) (fun h18 => ?_)
 intro h19
 simp -failIfUnchanged [-List.getD_eq_getElem?_getD, -UInt8.toNat_or] at h19
 refine Q0 ?_
 refine Qd ?_ ?_ <;> intro h20 <;> simp -failIfUnchanged [-List.getD_eq_getElem?_getD, -UInt8.toNat_or] at h20
 have q := Qi hk (by rw [Yc (by simp [ZY, h17]) h18, if_pos h20]) (.nat 2) (.nat 1) (by dsimp only; omega) (by dsimp only; omega) rfl rfl
 dsimp only at q
 exact q
 refine Qd (fun h21 => ?_) (fun h21 => ?_)
 simp -failIfUnchanged [-List.getD_eq_getElem?_getD, -UInt8.toNat_or] at h21
 have q := Qi hk (by rw [Yc (by simp [ZY, h17]) h18, if_neg h20, if_pos h21]) (.nat 2) (.nat 0) (by dsimp only; omega) (by dsimp only; omega) rfl rfl
 dsimp only at q
 exact q
 simp -failIfUnchanged [-List.getD_eq_getElem?_getD, -UInt8.toNat_or] at h21
 exact Qa hk (by rw [Yc (by simp [ZY, h17]) h18, if_neg h20, if_neg h21]) _
 intro j4
 exact Qa hk (Qbf (by simp [ZY, h17]) h18) _
 simp -failIfUnchanged [-List.getD_eq_getElem?_getD, -UInt8.toNat_or] at h17
 refine Qd ?_ ?_ <;> intro h18 <;> simp -failIfUnchanged [-List.getD_eq_getElem?_getD, -UInt8.toNat_or] at h18
 refine Q0 (Q0 ?_)
 refine QJ (fun v5 h19 => ?_) (fun h19 => ?_)
 intro h20
 simp -failIfUnchanged [-List.getD_eq_getElem?_getD, -UInt8.toNat_or] at h20
 refine Q0 ?_
 refine Qd ?_ ?_ <;> intro h21 <;> simp -failIfUnchanged [-List.getD_eq_getElem?_getD, -UInt8.toNat_or] at h21
 have q := Qi hk (by rw [Yc (by simp [ZY, h18]) h19, if_pos h21]) (.nat 2) (.nat 1) (by dsimp only; omega) (by dsimp only; omega) rfl rfl
 dsimp only at q
 exact q
 refine Qd (fun h22 => ?_) (fun h22 => ?_)
 simp -failIfUnchanged [-List.getD_eq_getElem?_getD, -UInt8.toNat_or] at h22
 have q := Qi hk (by rw [Yc (by simp [ZY, h18]) h19, if_neg h21, if_pos h22]) (.nat 2) (.nat 0) (by dsimp only; omega) (by dsimp only; omega) rfl rfl
 dsimp only at q
 exact q
 simp -failIfUnchanged [-List.getD_eq_getElem?_getD, -UInt8.toNat_or] at h22
 exact Qa hk (by rw [Yc (by simp [ZY, h18]) h19, if_neg h21, if_neg h22]) _
 intro j6
 exact Qa hk (Qbf (by simp [ZY, h18]) h19) _
 refine Qd (fun h19 => ?_) (fun h19 => ?_)
 simp -failIfUnchanged [-List.getD_eq_getElem?_getD, -UInt8.toNat_or] at h19
 refine Q0 (Q0 ?_)
 refine QJ (fun v7 h20 => ?_) (fun h20 => ?_)
 intro h21
 simp -failIfUnchanged [-List.getD_eq_getElem?_getD, -UInt8.toNat_or] at h21
 refine Q0 ?_
 refine Qd ?_ ?_ <;> intro h22 <;> simp -failIfUnchanged [-List.getD_eq_getElem?_getD, -UInt8.toNat_or] at h22
 have q := Qi hk (by rw [Yc (by simp [ZY, h19]) h20, if_pos h22]) (.nat 2) (.nat 1) (by dsimp only; omega) (by dsimp only; omega) rfl rfl
 dsimp only at q
 exact q
 refine Qd (fun h23 => ?_) (fun h23 => ?_)
 simp -failIfUnchanged [-List.getD_eq_getElem?_getD, -UInt8.toNat_or] at h23
 have q := Qi hk (by rw [Yc (by simp [ZY, h19]) h20, if_neg h22, if_pos h23]) (.nat 2) (.nat 0) (by dsimp only; omega) (by dsimp only; omega) rfl rfl
 dsimp only at q
 exact q
 simp -failIfUnchanged [-List.getD_eq_getElem?_getD, -UInt8.toNat_or] at h23
 exact Qa hk (by rw [Yc (by simp [ZY, h19]) h20, if_neg h22, if_neg h23]) _
 intro j8
 exact Qa hk (Qbf (by simp [ZY, h19]) h20) _
 simp -failIfUnchanged [-List.getD_eq_getElem?_getD, -UInt8.toNat_or] at h19
 exact Qa hk (by unfold VU; rw [if_pos h1, if_neg h2, if_neg h3, if_neg (by simp [Qy]; omega), if_neg (by simp [isN]; omega), if_neg (by simp [ZY]; omega)]) _
 exact hP.elim
def c136 (svs : List SV) (b : Option SB) (K : Out -> Option SB -> Prop) : Prop := match svs, b with
 | [.ptr 0 0], some (.blk 94 [.str s, .nat i, .nat d, .bool a]) => s.length <= 1000000 /\ i <= s.length /\ Qx (VU s i) (fun v => i <= v.2.2 /\ v.2.2 <= s.length -> K (.val (.tup [.int .i64 v.1, .int .i64 v.2.1, .nilif])) (some (.blk 94 [.str s, .nat v.2.2, .nat d, .bool a]))) (∀ j, K (.val (.tup [.nat 0, .nat 0, .ifx])) (some (.blk 94 [.str s, .nat j, .nat d, .bool a])))
 | _, _ => False
theorem QlD {x y z : SV} {a c : Int} (hx : toI x = some a) (hy : toI y = some c) (ω : Wit) (v : Value) (h : Rel ω (.tup [x, y, z]) v) : Rel ω (.tup [.int .i64 a, .int .i64 c, z]) v := by
 cases h with
 | tup _ vs hn hh =>
  refine .tup _ vs (by simpa using hn) fun i s u e1 e2 => ?_
  match i with
  | 0 => simp at e1; subst e1; exact YG hx (hh 0 _ u rfl e2)
  | 1 => simp at e1; subst e1; exact YG hy (hh 1 _ u rfl e2)
  | 2 => simp at e1; subst e1; exact hh 2 _ u rfl e2
  | i + 3 => simp at e1
theorem Qq7 : Sat 136 c136 := by
 refine Sat.outW Qor fun svs b K h => ?_
 unfold c136 at h
 split at h
 obtain ⟨h1, h2, h3⟩ := h
 refine ⟨h1, h2, ?_⟩
 rename_i s i d a
 cases hn : VU s i with
 | none =>
  rw [hn] at h3
  exact fun j => ⟨_, _, rfl, rfl, fun _ _ h => h, h3 j⟩
 | some v =>
  rw [hn] at h3
  exact fun x y k1 k2 hx hy => ⟨_, _, rfl, rfl, QlD hx hy, h3 ⟨k1, k2⟩⟩
 exact h.elim
end
end Go.Proofs.YtengepcafdnalaaGreatDoor
