/-
  Parts of the proof that the law FnParseOtherwise holds for every input (texts Le). Conditions: none.
-/
import Derived.Test.YtengepcafdnalaaGreatDoorM26
namespace Go.Proofs.YtengepcafdnalaaGreatDoor
section
open Go Go.RowKit
set_option maxRecDepth 20000
section
variable {G : Nat -> Option (List CSel × Nat)} {s pe n : Bs} {a : Bool} {p j : Nat} {l : List CSel} {x : CSel}
theorem s35 (h : bat s p = 35) : Vq G s p = (V0 s (p + 1)).map fun q => (some (.idn q.1), [], q.2) := by unfold Vq; rw [if_pos h]
theorem s46 (h : bat s p = 46) : Vq G s p = (QL s (p + 1)).map fun q => (some (.cls q.1), [], q.2) := by unfold Vq; rw [if_neg (by omega), if_pos h]
theorem s91 (h : bat s p = 91) : Vq G s p = (Yk s p).map fun q => (some (attrOf q).1, [], q.2) := by
 unfold Vq; rw [if_neg (by omega), if_neg (by omega), if_pos h, QfN, Option.map_map]; rfl
theorem s58 (h : bat s p = 58) : Vq G s p = iPs G s p := by unfold Vq; rw [if_neg (by omega), if_neg (by omega), if_neg (by omega)]
theorem Qj8 (h1 : p < s.length) (h2 : QX (bat s p) = true) (h : Vq G s p = none) : Vo G s a p l pe = none := by
 rw [Vo, if_pos ⟨h1, h2⟩, h]
theorem go_x (h1 : p < s.length) (h2 : QX (bat s p) = true) (h : Vq G s p = some (some x, n, j)) (hj : p < j) (he : pe = []) : Vo G s a p l pe = Vo G s a j (l ++ [x]) pe := by
 rw [Vo, if_pos ⟨h1, h2⟩, h]; dsimp only; rw [if_pos hj, if_pos he]
theorem Qj6 (h1 : p < s.length) (h2 : QX (bat s p) = true) (h : Vq G s p = some (some x, n, j)) (hj : p < j) (he : ¬ pe = []) : Vo G s a p l pe = none := by
 rw [Vo, if_pos ⟨h1, h2⟩, h]; dsimp only; rw [if_pos hj, if_neg he]
theorem go_e (h1 : p < s.length) (h2 : QX (bat s p) = true) (h : Vq G s p = some (none, n, j)) (hj : p < j) (he : pe = [] /\ a = true) : Vo G s a p l pe = Vo G s a j l n := by
 rw [Vo, if_pos ⟨h1, h2⟩, h]; dsimp only; rw [if_pos hj, if_pos he]
theorem Qqp (h1 : p < s.length) (h2 : QX (bat s p) = true) (h : Vq G s p = some (none, n, j)) (hj : p < j) (he : ¬ (pe = [] /\ a = true)) : Vo G s a p l pe = none := by
 rw [Vo, if_pos ⟨h1, h2⟩, h]; dsimp only; rw [if_pos hj, if_neg he]
theorem Qnq (h : ¬ (p < s.length /\ QX (bat s p) = true)) : Vo G s a p l pe = some (Yh l pe, p) := by
 rw [Vo, if_neg h]
theorem Qon (h : s.length <= p) : YL G s a p = none := by unfold YL; rw [if_neg (by omega)]
theorem Qci (h1 : p < s.length) (h2 : QX (bat s p) = true) : YL G s a p = Vo G s a p [] [] := by
 have h3 : ¬ bat s p = 42 := fun q => by rw [q] at h2; exact absurd h2 (by decide)
 unfold YL; rw [if_pos h1, if_neg h3, if_pos h2]
theorem Qom {v : Bs × Nat} (h1 : p < s.length) (h2 : ¬ bat s p = 42) (h3 : ¬ QX (bat s p) = true) (h : QL s p = some v) : YL G s a p = Vo G s a v.2 [.tag (low v.1)] [] := by
 unfold YL; rw [if_pos h1, if_neg h2, if_neg h3, h]
theorem QqJ (h1 : p < s.length) (h2 : ¬ bat s p = 42) (h3 : ¬ QX (bat s p) = true) (h : QL s p = none) : YL G s a p = none := by
 unfold YL; rw [if_pos h1, if_neg h2, if_neg h3, h]
theorem QlT (h1 : p < s.length) (h2 : bat s p = 42) (h : p + 3 < s.length /\ bat s (p + 1) = 124 /\ bat s (p + 2) = 42) : YL G s a p = Vo G s a (p + 3) [] [] := by
 unfold YL; rw [if_pos h1, if_pos h2, if_pos h]
theorem QkG (h1 : p < s.length) (h2 : bat s p = 42) (h : ¬ (p + 3 < s.length /\ bat s (p + 1) = 124 /\ bat s (p + 2) = 42)) : YL G s a p = Vo G s a (p + 1) [] [] := by
 unfold YL; rw [if_pos h1, if_pos h2, if_neg h]
theorem QlX (h1 : l.length = 1) (h2 : pe = []) : Yh l pe = l.getD 0 default := by
 subst h2; match l, h1 with | [x], _ => rfl
theorem QlV (h : ¬ (l.length = 1 /\ pe = [])) : Yh l pe = .compound l pe := by
 unfold Yh; split
 exact absurd ⟨rfl, rfl⟩ h
 rfl
theorem Qi9 {c e : UInt8} (h : p + 2 <= s.length) : (s.take (p + 2)).drop p = [c, e] ↔ bat s p = c.toNat /\ bat s (p + 1) = e.toNat := by
 have h1 : (s.take (p + 2)).drop p = [s.getD p 0, s.getD (p + 1) 0] := by
  apply List.ext_getElem
  simp; omega
  intro i h2 h3
  have : i = 0 \/ i = 1 := by simp at h3; omega
  rcases this with q | q <;> subst q <;> simp [List.getD_eq_getElem?_getD, List.getElem?_eq_getElem (show p < s.length by omega), List.getElem?_eq_getElem (show p + 1 < s.length by omega)]
 rw [h1]
 simp [bat, <- UInt8.toNat_inj, -List.getD_eq_getElem?_getD]
end
def c100 (m : Nat) (svs : List SV) (b : Option SB) (K : Out -> Option SB -> Prop) : Prop := match svs, b with
 | [.ptr 0 0], some (.blk 94 [.str s, .nat i, .nat d, .bool a]) => s.length <= 1000000 /\ i <= s.length /\ d <= 1001 /\ 1002 <= d + m /\ Qx (YL (QD s a (1001 - d)) s a i) (fun v => i < v.2 /\ v.2 <= s.length -> K (.val (.tup [.cs v.1, .nilif])) (some (.blk 94 [.str s, .nat v.2, .nat d, .bool a]))) (∀ j, K (.val (.tup [.nilif, .ifx])) (some (.blk 94 [.str s, .nat j, .nat d, .bool a])))
 | _, _ => False
noncomputable def JG (m : Nat) : Wk := ⟨[(71, .pure c71), (115, .plain c115), (116, .plain c116), (117, .plain c117), (118, .plain c118), (119, .plain (c119 m))], Qm Tryz.f100, true, false, [.tmp 2, .tmp 3], [56, 71], [(18, 145), (42, 145)], [42]⟩
theorem Qss : Has 100 := hsf Tryz.f100
theorem lez3 {c0 p0 p1 p2 p3 q : Prop} (k : q) (h : c0 -> p0 /\ p1 /\ p2 /\ p3 /\ True := by intro g0; (try simp at g0); exact ⟨(by first | omega | (simp; done) | (simp; omega) | (simp; assumption)), (by first | omega | (simp; done) | (simp; omega) | (simp; assumption)), (by first | omega | (simp; done) | (simp; omega) | (simp; assumption)), (by first | omega | (simp; done) | (simp; omega) | (simp; assumption)), trivial⟩) : (c0 -> p0 /\ p1 /\ p2 /\ p3 /\ True) /\ q := ⟨h, k⟩
theorem lez2 {c0 p0 p1 q : Prop} (k : q) (h : c0 -> p0 /\ p1 /\ True := by intro g0; (try simp at g0); exact ⟨(by first | omega | (simp; done) | (simp; omega) | (simp; assumption)), (by first | omega | (simp; done) | (simp; omega) | (simp; assumption)), trivial⟩) : (c0 -> p0 /\ p1 /\ True) /\ q := ⟨h, k⟩
theorem Qd5 {c0 p0 q : Prop} (k : q) (h : c0 -> p0 /\ True := by intro g0; (try simp at g0); exact ⟨(by first | omega | (simp; done) | (simp; omega) | (simp; assumption)), trivial⟩) : (c0 -> p0 /\ True) /\ q := ⟨h, k⟩
theorem QU {p q : Prop} (k : q) (h : p := by first | omega | (simp; done) | (simp; omega) | (simp; assumption)) : p /\ q := ⟨h, k⟩
theorem Qrl (m : Nat) (hG : Sat 70 (c70 m)) : Sat 100 (c100 m) := by
 have hD : Qe (JG m).D := (Qe.cons Zt Zr (Qe.cons Qsn Qrg (Qe.cons Qsm Qrf (Qe.cons Qsl Qre (Qe.cons Qsk Qrd (Qe.cons Qsj (Qrc m hG) Qe.nil))))))
 refine (JG m).sa hD Tryz.f100 fun svs b K hP => ?_
 unfold c100 at hP
 split at hP
 rename_i s i d a
 obtain ⟨h01, h02, h03, h04, hk⟩ := hP
 have L42 : ∀ (mm : Nat) (p : Nat) (l : List CSel) (pe : Bs), 0 = mm -> (i < p /\ p <= s.length /\ YL (QD s a (1001 - d)) s a i = some (Yh l pe, p)) -> (JG m).C K 42 (mkS 180 [(0, (.ptr 0 0)), (4, (.sl (.csels l))), (7, (.str pe))] [(0, .blk 94 [(.str s), (.nat p), (.nat d), (.bool a)])] 1) := by
  intro mm
  induction mm using Nat.strongRecOn with
  | _ mm ih =>
   intro p l pe hm hI
   obtain ⟨k1, k2, k3⟩ := hI
   refine (JG m).aC hD (have a0 : Option SB := some (.blk 94 [(.str s), (.nat p), (.nat d), (.bool a)]); cond ((decide (l.length = 1)) && (decide (pe = []))) ((0 < l.length) /\ K (.val (.tup [(.cs (l.getD 0 default)), .nilif])) a0) (K (.val (.tup [(.cs (.compound l pe)), .nilif])) a0)) ?_
   refine Qd ?_ ?_ <;> intro h1 <;> simp -failIfUnchanged [-List.getD_eq_getElem?_getD, -UInt8.toNat_or] at h1
   refine QU ?_
   exact Qi hk (k3.trans (by rw [QlX h1.1 h1.2])) ⟨k1, k2⟩
   exact Qi hk (k3.trans (by rw [QlV (by simpa using h1)])) ⟨k1, k2⟩
 have L18 : ∀ (mm : Nat) (p : Nat) (l : List CSel) (pe : Bs), s.length - p = mm -> (i <= p /\ p <= s.length /\ (i < p \/ QX (bat s p) = true /\ p < s.length) /\ YL (QD s a (1001 - d)) s a i = Vo (QD s a (1001 - d)) s a p l pe /\ l.length <= p) -> (JG m).L K 18 (mkS 180 [(0, (.ptr 0 0)), (4, (.own 1)), (7, (.str pe))] [(1, .row (.csels l) true), (0, .blk 94 [(.str s), (.nat p), (.nat d), (.bool a)])] 2) := by
  intro mm
  induction mm using Nat.strongRecOn with
  | _ mm ih =>
   intro p l pe hm hI
   obtain ⟨k1, k2, k3, k4, k5⟩ := hI
   refine (JG m).aL hD (have a0 : Out := .val (.tup [.nilif, .ifx]); have a1 := mkS 180 [(0, (.ptr 0 0)), (4, (.own 1)), (7, (.str pe))] [(1, .row (.csels l) true), (0, .blk 94 [(.str s), (.nat p), (.nat d), (.bool a)])] 2; have a2 := l.length + 1 <= 1099511627776; have a3 := !(decide (pe = [])); have a4 := s.length <= 1000000; cond (decide (p < s.length)) ((p < s.length) /\ cond (decide (bat s p = 35)) (a4 /\ (p <= s.length) /\ (p < s.length) /\ (bat s p = 35) /\ Qx (V0 s (p + 1)) (fun v3 => (p < v3.2 /\ v3.2 <= s.length) -> cond a3 (K a0 (some (.blk 94 [(.str s), (.nat v3.2), (.nat d), (.bool a)]))) (a2 /\ (JG m).L K 18 (mkS 180 [(0, (.ptr 0 0)), (4, (.own 3)), (7, (.str pe))] [(3, .row (.csels (l ++ [.idn v3.1])) true), (0, .blk 94 [(.str s), (.nat v3.2), (.nat d), (.bool a)])] 4))) (∀ j4 : Nat, K a0 (some (.blk 94 [(.str s), (.nat j4), (.nat d), (.bool a)])))) (cond (decide (bat s p = 46)) (a4 /\ (p <= s.length) /\ (p < s.length) /\ (bat s p = 46) /\ Qx (QL s (p + 1)) (fun v5 => (p < v5.2 /\ v5.2 <= s.length) -> cond a3 (K a0 (some (.blk 94 [(.str s), (.nat v5.2), (.nat d), (.bool a)]))) (a2 /\ (JG m).L K 18 (mkS 180 [(0, (.ptr 0 0)), (4, (.own 3)), (7, (.str pe))] [(3, .row (.csels (l ++ [.cls v5.1])) true), (0, .blk 94 [(.str s), (.nat v5.2), (.nat d), (.bool a)])] 4))) (∀ j6 : Nat, K a0 (some (.blk 94 [(.str s), (.nat j6), (.nat d), (.bool a)])))) (cond (decide (bat s p = 91)) (a4 /\ (p <= s.length) /\ (p < s.length) /\ (bat s p = 91) /\ Qx (Yk s p) (fun v7 => (p < v7.2 /\ v7.2 <= s.length) -> cond a3 (K a0 (some (.blk 94 [(.str s), (.nat v7.2), (.nat d), (.bool a)]))) (a2 /\ (JG m).L K 18 (mkS 180 [(0, (.ptr 0 0)), (4, (.own 3)), (7, (.str pe))] [(3, .row (.csels (l ++ [.attr v7.1.1 v7.1.2.1 v7.1.2.2.1 v7.1.2.2.2])) true), (0, .blk 94 [(.str s), (.nat v7.2), (.nat d), (.bool a)])] 4))) (∀ j8 : Nat, K a0 (some (.blk 94 [(.str s), (.nat j8), (.nat d), (.bool a)])))) (cond (decide (bat s p = 58)) (a4 /\ (p <= s.length) /\ (d <= 1001) /\ (1002 <= d + m) /\ (p < s.length) /\ (bat s p = 58) /\ Qx (iPs (QD s a (1001 - d)) s p) (fun v9 => (p < v9.2.2 /\ v9.2.2 <= s.length) -> Qx v9.1 (fun x10 => cond a3 (K a0 (some (.blk 94 [(.str s), (.nat v9.2.2), (.nat d), (.bool a)]))) (a2 /\ (JG m).L K 18 (mkS 180 [(0, (.ptr 0 0)), (4, (.own 3)), (7, (.str pe))] [(3, .row (.csels (l ++ [x10])) true), (0, .blk 94 [(.str s), (.nat v9.2.2), (.nat d), (.bool a)])] 4))) (cond a3 (K a0 (some (.blk 94 [(.str s), (.nat v9.2.2), (.nat d), (.bool a)]))) (cond (!a) (K a0 (some (.blk 94 [(.str s), (.nat v9.2.2), (.nat d), (.bool a)]))) ((JG m).L K 18 (mkS 180 [(0, (.ptr 0 0)), (4, (.own 1)), (7, (.str v9.2.1))] [(1, .row (.csels l) true), (0, .blk 94 [(.str s), (.nat v9.2.2), (.nat d), (.bool a)])] 2))))) (∀ j11 : Nat, K a0 (some (.blk 94 [(.str s), (.nat j11), (.nat d), (.bool a)])))) ((JG m).C K 42 a1))))) ((JG m).C K 42 a1)) ?_
   refine Qd ?_ ?_ <;> intro h1 <;> simp -failIfUnchanged [-List.getD_eq_getElem?_getD, -UInt8.toNat_or] at h1
   refine QU ?_
   refine Qd ?_ ?_ <;> intro h2 <;> simp -failIfUnchanged [-List.getD_eq_getElem?_getD, -UInt8.toNat_or] at h2
   refine QU (QU (QU (QU ?_)))
   refine QJ (fun v3 h3 => ?_) (fun h3 => ?_)
   intro h4
   simp -failIfUnchanged [-List.getD_eq_getElem?_getD, -UInt8.toNat_or] at h4
   refine Qd ?_ ?_ <;> intro h5 <;> simp -failIfUnchanged [-List.getD_eq_getElem?_getD, -UInt8.toNat_or] at h5
   exact Qa hk (k4.trans (Qj6 h1 (by simp [QX, h2]) (by rw [s35 h2, h3]; rfl) h4.1 h5)) _
   refine QU ?_
   exact Wk.L.rn [0, 3] (ih _ (by omega) _ _ _ rfl ⟨by omega, h4.2, .inl (by omega), k4.trans (go_x h1 (by simp [QX, h2]) (by rw [s35 h2, h3]; rfl) h4.1 h5), by simp; omega⟩)
   intro j4
   exact Qa hk (k4.trans (Qj8 h1 (by simp [QX, h2]) (by rw [s35 h2, h3]; rfl))) _
   refine Qd (fun h3 => ?_) (fun h3 => ?_)
   simp -failIfUnchanged [-List.getD_eq_getElem?_getD, -UInt8.toNat_or] at h3
   refine QU (QU (QU (QU ?_)))
   refine QJ (fun v5 h4 => ?_) (fun h4 => ?_)
   intro h5
   simp -failIfUnchanged [-List.getD_eq_getElem?_getD, -UInt8.toNat_or] at h5
   refine Qd ?_ ?_ <;> intro h6 <;> simp -failIfUnchanged [-List.getD_eq_getElem?_getD, -UInt8.toNat_or] at h6
   exact Qa hk (k4.trans (Qj6 h1 (by simp [QX, h3]) (by rw [s46 h3, h4]; rfl) h5.1 h6)) _
   refine QU ?_
   exact Wk.L.rn [0, 3] (ih _ (by omega) _ _ _ rfl ⟨by omega, h5.2, .inl (by omega), k4.trans (go_x h1 (by simp [QX, h3]) (by rw [s46 h3, h4]; rfl) h5.1 h6), by simp; omega⟩)
   intro j6
   exact Qa hk (k4.trans (Qj8 h1 (by simp [QX, h3]) (by rw [s46 h3, h4]; rfl))) _
   simp -failIfUnchanged [-List.getD_eq_getElem?_getD, -UInt8.toNat_or] at h3
   refine Qd ?_ ?_ <;> intro h4 <;> simp -failIfUnchanged [-List.getD_eq_getElem?_getD, -UInt8.toNat_or] at h4
   refine QU (QU (QU (QU ?_)))
   refine QJ (fun v7 h5 => ?_) (fun h5 => ?_)
   intro h6
   simp -failIfUnchanged [-List.getD_eq_getElem?_getD, -UInt8.toNat_or] at h6
   refine Qd ?_ ?_ <;> intro h7 <;> simp -failIfUnchanged [-List.getD_eq_getElem?_getD, -UInt8.toNat_or] at h7
   exact Qa hk (k4.trans (Qj6 h1 (by simp [QX, h4]) (by rw [s91 h4, h5]; rfl) h6.1 h7)) _
   refine QU ?_
   exact Wk.L.rn [0, 3] (ih _ (by omega) _ _ _ rfl ⟨by omega, h6.2, .inl (by omega), k4.trans (go_x h1 (by simp [QX, h4]) (by rw [s91 h4, h5]; rfl) h6.1 h7), by simp; omega⟩)
   intro j8
   exact Qa hk (k4.trans (Qj8 h1 (by simp [QX, h4]) (by rw [s91 h4, h5]; rfl))) _
   refine Qd (fun h5 => ?_) (fun h5 => ?_)
   simp -failIfUnchanged [-List.getD_eq_getElem?_getD, -UInt8.toNat_or] at h5
   refine QU (QU (QU (QU (QU (QU ?_)))))
   refine QJ (fun v9 h6 => ?_) (fun h6 => ?_)
   intro h7
   simp -failIfUnchanged [-List.getD_eq_getElem?_getD, -UInt8.toNat_or] at h7
   refine QJ (fun x10 h8 => ?_) (fun h8 => ?_)
   refine Qd ?_ ?_ <;> intro h9 <;> simp -failIfUnchanged [-List.getD_eq_getElem?_getD, -UInt8.toNat_or] at h9
   exact Qa hk (k4.trans (Qj6 h1 (by simp [QX, h5]) (by rw [s58 h5, h6, <- h8]) h7.1 h9)) _
   refine QU ?_
   exact Wk.L.rn [0, 3] (ih _ (by omega) _ _ _ rfl ⟨by omega, h7.2, .inl (by omega), k4.trans (go_x h1 (by simp [QX, h5]) (by rw [s58 h5, h6, <- h8]) h7.1 h9), by simp; omega⟩)
   refine Qd ?_ ?_ <;> intro h9 <;> simp -failIfUnchanged [-List.getD_eq_getElem?_getD, -UInt8.toNat_or] at h9
   exact Qa hk (k4.trans (Qqp h1 (by simp [QX, h5]) (by rw [s58 h5, h6, <- h8]) h7.1 (fun q => h9 q.1))) _
   refine Qd (fun h10 => ?_) (fun h10 => ?_)
   simp -failIfUnchanged [-List.getD_eq_getElem?_getD, -UInt8.toNat_or] at h10
   exact Qa hk (k4.trans (Qqp h1 (by simp [QX, h5]) (by rw [s58 h5, h6, <- h8]) h7.1 (fun q => by simp [h10] at q))) _
   simp -failIfUnchanged [-List.getD_eq_getElem?_getD, -UInt8.toNat_or] at h10
   exact ih _ (by omega) _ _ _ rfl ⟨by omega, h7.2, .inl (by omega), k4.trans (go_e h1 (by simp [QX, h5]) (by rw [s58 h5, h6, <- h8]) h7.1 ⟨h9, h10⟩), by omega⟩
   intro j11
   exact Qa hk (k4.trans (Qj8 h1 (by simp [QX, h5]) (by rw [s58 h5, h6]))) _
   simp -failIfUnchanged [-List.getD_eq_getElem?_getD, -UInt8.toNat_or] at h5
   have q : ¬ QX (bat s p) = true := by simp [QX, h2, h3, h4, h5]
   exact Wk.C.le (Yg.pub 1 (b := .row (.csels l) true) (by kernel_rfl)) (Wk.C.rn [0] (L42 _ _ _ _ rfl ⟨k3.elim id fun w => absurd w.1 q, k2, k4.trans (Qnq fun w => q w.2)⟩))
   exact Wk.C.le (Yg.pub 1 (b := .row (.csels l) true) (by kernel_rfl)) (Wk.C.rn [0] (L42 _ _ _ _ rfl ⟨by omega, k2, k4.trans (Qnq fun w => by omega)⟩))
 refine (JG m).en (have a1 := mkS 180 [(0, (.ptr 0 0)), (4, .nilsl), (7, (.str []))] [(0, .blk 94 [(.str s), (.nat i), (.nat d), (.bool a)])] 1; have a2 := decide (i + 3 < s.length); have a3 := i + 3 <= 9223372036854775807; have a4 := (a2 == true) = true; have a0 := a2 = true -> a4 /\ True; cond (decide (s.length <= i)) (K (.val (.tup [.nilif, .ifx])) (some (.blk 94 [(.str s), (.nat i), (.nat d), (.bool a)]))) ((i < s.length) /\ cond (decide (bat s i = 42)) ((i + 1 <= 9223372036854775807) /\ a3 /\ a0 /\ a0 /\ a0 /\ a0 /\ a0 /\ a0 /\ a0 /\ a0 /\ a0 /\ (a2 = true -> a4 /\ a3 /\ True) /\ (a2 = true -> a4 /\ a4 /\ a4 /\ (i + 1 <= i + 3 /\ i + 3 <= s.length) /\ True) /\ a0 /\ (a2 = true -> (a2 == true) = true) /\ cond (a2 && (decide ((s.take (i + 3)).drop (i + 1) = [124, 42]))) (a3 /\ (JG m).L K 18 (mkS 180 [(0, (.ptr 0 0)), (4, .nilsl), (7, (.str []))] [(0, .blk 94 [(.str s), (.nat (i + 3)), (.nat d), (.bool a)])] 1)) ((JG m).L K 18 (mkS 180 [(0, (.ptr 0 0)), (4, .nilsl), (7, (.str []))] [(0, .blk 94 [(.str s), (.nat (i + 1)), (.nat d), (.bool a)])] 1))) (cond (decide (bat s i = 35)) ((JG m).L K 18 a1) (cond (decide (bat s i = 46)) ((JG m).L K 18 a1) (cond (decide (bat s i = 91)) ((JG m).L K 18 a1) (cond (decide (bat s i = 58)) ((JG m).L K 18 a1) ((s.length <= 1000000) /\ (i <= s.length) /\ Qx (QL s i) (fun v1 => (i < v1.2 /\ v1.2 <= s.length) -> (0 + 1 <= 1099511627776) /\ (JG m).L K 18 (mkS 180 [(0, (.ptr 0 0)), (4, (.own 3)), (7, (.str []))] [(3, .row (.csels ([] ++ [.tag (low v1.1)])) true), (1, .blk 99 [(.str (low v1.1))]), (0, .blk 94 [(.str s), (.nat v1.2), (.nat d), (.bool a)])] 4)) (∀ j2 : Nat, K (.val (.tup [.nilif, .ifx])) (some (.blk 94 [(.str s), (.nat j2), (.nat d), (.bool a)])))))))))) ?_
 refine Qd ?_ ?_ <;> intro h1 <;> simp -failIfUnchanged [-List.getD_eq_getElem?_getD, -UInt8.toNat_or] at h1
 exact Qa hk (Qon (by omega)) _
 refine QU ?_
 refine Qd ?_ ?_ <;> intro h2 <;> simp -failIfUnchanged [-List.getD_eq_getElem?_getD, -UInt8.toNat_or] at h2
 refine QU (QU (Qd5 (Qd5 (Qd5 (Qd5 (Qd5 (Qd5 (Qd5 (Qd5 (Qd5 (lez2 (lez3 (Qd5 (QU ?_))))))))))))))
 refine Qd ?_ ?_ <;> intro h3 <;> simp -failIfUnchanged [-List.getD_eq_getElem?_getD, -UInt8.toNat_or] at h3
 refine QU ?_
 exact Wk.L.le (Yg.adopt 4 (T := 49) (x := .csels []) (by kernel_rfl) (by kernel_rfl)) (Wk.L.rn [0, 1] (L18 _ _ _ _ rfl ⟨by omega, by omega, .inl (by omega), QlT h1 h2 ⟨h3.1, (Qi9 (p := i + 1) (by omega)).1 h3.2⟩, by simp⟩))
 exact Wk.L.le (Yg.adopt 4 (T := 49) (x := .csels []) (by kernel_rfl) (by kernel_rfl)) (Wk.L.rn [0, 1] (L18 _ _ _ _ rfl ⟨by omega, by omega, .inl (by omega), QkG h1 h2 (fun q => h3 q.1 ((Qi9 (p := i + 1) (by omega)).2 q.2)), by simp⟩))
 refine Qd (fun h3 => ?_) (fun h3 => ?_)
 simp -failIfUnchanged [-List.getD_eq_getElem?_getD, -UInt8.toNat_or] at h3
 exact Wk.L.le (Yg.adopt 4 (T := 49) (x := .csels []) (by kernel_rfl) (by kernel_rfl)) (Wk.L.rn [0, 1] (L18 _ _ _ _ rfl ⟨by omega, by omega, .inr ⟨(by simp [QX, h3]), h1⟩, Qci h1 (by simp [QX, h3]), by simp⟩))
 simp -failIfUnchanged [-List.getD_eq_getElem?_getD, -UInt8.toNat_or] at h3
 refine Qd ?_ ?_ <;> intro h4 <;> simp -failIfUnchanged [-List.getD_eq_getElem?_getD, -UInt8.toNat_or] at h4
 exact Wk.L.le (Yg.adopt 4 (T := 49) (x := .csels []) (by kernel_rfl) (by kernel_rfl)) (Wk.L.rn [0, 1] (L18 _ _ _ _ rfl ⟨by omega, by omega, .inr ⟨(by simp [QX, h4]), h1⟩, Qci h1 (by simp [QX, h4]), by simp⟩))
 refine Qd (fun h5 => ?_) (fun h5 => ?_)
 simp -failIfUnchanged [-List.getD_eq_getElem?_getD, -UInt8.toNat_or] at h5
 exact Wk.L.le (Yg.adopt 4 (T := 49) (x := .csels []) (by kernel_rfl) (by kernel_rfl)) (Wk.L.rn [0, 1] (L18 _ _ _ _ rfl ⟨by omega, by omega, .inr ⟨(by simp [QX, h5]), h1⟩, Qci h1 (by simp [QX, h5]), by simp⟩))
 simp -failIfUnchanged [-List.getD_eq_getElem?_getD, -UInt8.toNat_or] at h5
 refine Qd ?_ ?_ <;> intro h6 <;> simp -failIfUnchanged [-List.getD_eq_getElem?_getD, -UInt8.toNat_or] at h6
 exact Wk.L.le (Yg.adopt 4 (T := 49) (x := .csels []) (by kernel_rfl) (by kernel_rfl)) (Wk.L.rn [0, 1] (L18 _ _ _ _ rfl ⟨by omega, by omega, .inr ⟨(by simp [QX, h6]), h1⟩, Qci h1 (by simp [QX, h6]), by simp⟩))
 refine QU (QU ?_)
 refine QJ (fun v1 h7 => ?_) (fun h7 => ?_)
 intro h8
 simp -failIfUnchanged [-List.getD_eq_getElem?_getD, -UInt8.toNat_or] at h8
 refine QU ?_
 exact Wk.L.rn [0, 3] (L18 _ _ _ _ rfl ⟨by omega, h8.2, .inl h8.1, Qom h1 h2 (by simp [QX, h3, h4, h5, h6]) h7, by simp; omega⟩)
 intro j2
 exact Qa hk (QqJ h1 h2 (by simp [QX, h3, h4, h5, h6]) h7) _
 exact hP.elim
section
variable {G : Nat -> Option (List CSel × Nat)} {s : Bs} {a : Bool} {p : Nat} {x : CSel} {v : CSel × Nat}
theorem selGo_end (h : ¬ iWs s p < s.length) : VF G s a x p = some (x, iWs s p) := by rw [VF, if_neg h]
theorem Jg (h1 : iWs s p < s.length) (h2 : ¬ Vh (bat s (iWs s p)) = true) (h3 : bat s (iWs s p) = 44 \/ bat s (iWs s p) = 41 \/ iWs s p = p) : VF G s a x p = some (x, iWs s p) := by
 rw [VF, if_pos h1, if_neg h2, if_pos h3]
theorem Qac (h1 : iWs s p < s.length) (h2 : Vh (bat s (iWs s p)) = true) (h : YL G s a (iWs s (iWs s p + 1)) = some v) (hj : p < v.2) : VF G s a x p = VF G s a (.combined x (s.getD (iWs s p) 0) v.1) v.2 := by
 rw [VF, if_pos h1, if_pos h2, h]; dsimp only; rw [if_pos hj]
theorem JK (h1 : iWs s p < s.length) (h2 : Vh (bat s (iWs s p)) = true) (h : YL G s a (iWs s (iWs s p + 1)) = none) : VF G s a x p = none := by
 rw [VF, if_pos h1, if_pos h2, h]
theorem Qoo (h1 : iWs s p < s.length) (h2 : ¬ Vh (bat s (iWs s p)) = true) (h3 : ¬ (bat s (iWs s p) = 44 \/ bat s (iWs s p) = 41 \/ iWs s p = p)) (h : YL G s a (iWs s p) = some v) (hj : p < v.2) : VF G s a x p = VF G s a (.combined x 32 v.1) v.2 := by
 rw [VF, if_pos h1, if_neg h2, if_neg h3, h]; dsimp only; rw [if_pos hj]
theorem Ql0 (h1 : iWs s p < s.length) (h2 : ¬ Vh (bat s (iWs s p)) = true) (h3 : ¬ (bat s (iWs s p) = 44 \/ bat s (iWs s p) = 41 \/ iWs s p = p)) (h : YL G s a (iWs s p) = none) : VF G s a x p = none := by
 rw [VF, if_pos h1, if_neg h2, if_neg h3, h]
end
def c72 (m : Nat) (svs : List SV) (b : Option SB) (K : Out -> Option SB -> Prop) : Prop := match svs, b with
 | [.ptr 0 0], some (.blk 94 [.str s, .nat i, .nat d, .bool a]) => s.length <= 1000000 /\ i <= s.length /\ d <= 1001 /\ 1002 <= d + m /\ Qx (Zp (QD s a (1001 - d)) s a i) (fun v => i < v.2 /\ v.2 <= s.length -> K (.val (.tup [.cs v.1, .nilif])) (some (.blk 94 [.str s, .nat v.2, .nat d, .bool a]))) (∀ j, K (.val (.tup [.nilif, .ifx])) (some (.blk 94 [.str s, .nat j, .nat d, .bool a])))
 | _, _ => False
noncomputable def W72 (m : Nat) : Wk := ⟨[(99, .fn c99), (100, .plain (c100 m))], Qm Tryz.f72, true, false, [.tmp 2, .tmp 3], [56, 71], [(5, 17)], []⟩
theorem Qhs : Has 72 := hsf Tryz.f72
theorem QgL (m : Nat) (hG : Sat 70 (c70 m)) : Sat 72 (c72 m) := by
 have hD : Qe (W72 m).D := (Qe.cons QeH Qeh (Qe.cons Qss (Qrl m hG) Qe.nil))
 refine (W72 m).sa hD Tryz.f72 fun svs b K hP => ?_
 unfold c72 at hP
 split at hP
 rename_i s i d a
 obtain ⟨h01, h02, h03, h04, hk⟩ := hP
 have u0 := VB s i
 have u1 := Vn s i h02
 have L5 : ∀ (mm : Nat) (p : Nat) (x : CSel), s.length - p = mm -> (i < p /\ p <= s.length /\ Zp (QD s a (1001 - d)) s a i = VF (QD s a (1001 - d)) s a x p) -> (W72 m).L K 5 (mkS 82 [(0, (.ptr 0 0)), (4, (.cs x))] [(0, .blk 94 [(.str s), (.nat p), (.nat d), (.bool a)])] 1) := by
  intro mm
  induction mm using Nat.strongRecOn with
  | _ mm ih =>
   intro p x hm hI
   obtain ⟨k1, k2, k3⟩ := hI
   have w0 := VB s p
   have w1 := Vn s p k2
   have w2 := VB s (iWs s p + 1)
   have w3 := Vn s (iWs s p + 1)
   refine (W72 m).aL hD (have a0 : Option SB := some (.blk 94 [(.str s), (.nat (iWs s p)), (.nat d), (.bool a)]); have a1 : Option SB := some (.blk 94 [(.str s), (.nat (iWs s (iWs s p + 1))), (.nat d), (.bool a)]); have a2 : Out := .val (.tup [(.cs x), .nilif]); have a3 := YL (QD s a (1001 - d)) s a (iWs s (iWs s p + 1)); have a4 := s.length <= 1000000; have a5 := iWs s p + 1 <= 9223372036854775807; have a6 := iWs s (iWs s p + 1) <= s.length; have a7 : Out := .val (.tup [.nilif, .ifx]); have a8 := decide (bat s (iWs s p) = 0); have a9 := iWs s p < s.length; have a10 := iWs s p + 1 <= s.length; have a11 := s.getD (iWs s p) 0; a4 /\ (p <= s.length) /\ cond (decide (p < iWs s p)) (cond (decide (s.length <= iWs s p)) (K a2 a0) (a9 /\ cond (decide (bat s (iWs s p) = 43)) (a9 /\ a5 /\ a4 /\ a10 /\ cond a8 (K a2 a1) (a4 /\ a6 /\ (d <= 1001) /\ (1002 <= d + m) /\ Qx a3 (fun v3 => (iWs s (iWs s p + 1) < v3.2 /\ v3.2 <= s.length) -> (W72 m).L K 5 (mkS 82 [(0, (.ptr 0 0)), (4, (.cs (.combined x a11 v3.1)))] [(0, .blk 94 [(.str s), (.nat v3.2), (.nat d), (.bool a)])] 1)) (∀ j4 : Nat, K a7 (some (.blk 94 [(.str s), (.nat j4), (.nat d), (.bool a)]))))) (cond (decide (bat s (iWs s p) = 62)) (a9 /\ a5 /\ a4 /\ a10 /\ cond a8 (K a2 a1) (a4 /\ a6 /\ (d <= 1001) /\ (1002 <= d + m) /\ Qx a3 (fun v5 => (iWs s (iWs s p + 1) < v5.2 /\ v5.2 <= s.length) -> (W72 m).L K 5 (mkS 82 [(0, (.ptr 0 0)), (4, (.cs (.combined x a11 v5.1)))] [(0, .blk 94 [(.str s), (.nat v5.2), (.nat d), (.bool a)])] 1)) (∀ j6 : Nat, K a7 (some (.blk 94 [(.str s), (.nat j6), (.nat d), (.bool a)]))))) (cond (decide (bat s (iWs s p) = 126)) (a9 /\ a5 /\ a4 /\ a10 /\ cond a8 (K a2 a1) (a4 /\ a6 /\ (d <= 1001) /\ (1002 <= d + m) /\ Qx a3 (fun v7 => (iWs s (iWs s p + 1) < v7.2 /\ v7.2 <= s.length) -> (W72 m).L K 5 (mkS 82 [(0, (.ptr 0 0)), (4, (.cs (.combined x a11 v7.1)))] [(0, .blk 94 [(.str s), (.nat v7.2), (.nat d), (.bool a)])] 1)) (∀ j8 : Nat, K a7 (some (.blk 94 [(.str s), (.nat j8), (.nat d), (.bool a)]))))) (cond (decide (bat s (iWs s p) = 44)) (K a2 a0) (cond (decide (bat s (iWs s p) = 41)) (K a2 a0) (a4 /\ (iWs s p <= s.length) /\ (d <= 1001) /\ (1002 <= d + m) /\ Qx (YL (QD s a (1001 - d)) s a (iWs s p)) (fun v9 => (iWs s p < v9.2 /\ v9.2 <= s.length) -> (W72 m).L K 5 (mkS 82 [(0, (.ptr 0 0)), (4, (.cs (.combined x 32 v9.1)))] [(0, .blk 94 [(.str s), (.nat v9.2), (.nat d), (.bool a)])] 1)) (∀ j10 : Nat, K a7 (some (.blk 94 [(.str s), (.nat j10), (.nat d), (.bool a)])))))))))) (cond (decide (s.length <= iWs s p)) (K a2 a0) (a9 /\ cond (decide (bat s (iWs s p) = 43)) (a9 /\ a5 /\ a4 /\ a10 /\ cond a8 (K a2 a1) (a4 /\ a6 /\ (d <= 1001) /\ (1002 <= d + m) /\ Qx a3 (fun v11 => (iWs s (iWs s p + 1) < v11.2 /\ v11.2 <= s.length) -> (W72 m).L K 5 (mkS 82 [(0, (.ptr 0 0)), (4, (.cs (.combined x a11 v11.1)))] [(0, .blk 94 [(.str s), (.nat v11.2), (.nat d), (.bool a)])] 1)) (∀ j12 : Nat, K a7 (some (.blk 94 [(.str s), (.nat j12), (.nat d), (.bool a)]))))) (cond (decide (bat s (iWs s p) = 62)) (a9 /\ a5 /\ a4 /\ a10 /\ cond a8 (K a2 a1) (a4 /\ a6 /\ (d <= 1001) /\ (1002 <= d + m) /\ Qx a3 (fun v13 => (iWs s (iWs s p + 1) < v13.2 /\ v13.2 <= s.length) -> (W72 m).L K 5 (mkS 82 [(0, (.ptr 0 0)), (4, (.cs (.combined x a11 v13.1)))] [(0, .blk 94 [(.str s), (.nat v13.2), (.nat d), (.bool a)])] 1)) (∀ j14 : Nat, K a7 (some (.blk 94 [(.str s), (.nat j14), (.nat d), (.bool a)]))))) (cond (decide (bat s (iWs s p) = 126)) (a9 /\ a5 /\ a4 /\ a10 /\ cond a8 (K a2 a1) (a4 /\ a6 /\ (d <= 1001) /\ (1002 <= d + m) /\ Qx a3 (fun v15 => (iWs s (iWs s p + 1) < v15.2 /\ v15.2 <= s.length) -> (W72 m).L K 5 (mkS 82 [(0, (.ptr 0 0)), (4, (.cs (.combined x a11 v15.1)))] [(0, .blk 94 [(.str s), (.nat v15.2), (.nat d), (.bool a)])] 1)) (∀ j16 : Nat, K a7 (some (.blk 94 [(.str s), (.nat j16), (.nat d), (.bool a)]))))) (cond (decide (bat s (iWs s p) = 44)) (K a2 a0) (cond (decide (bat s (iWs s p) = 41)) (K a2 a0) (K a2 a0)))))))) ?_
   refine QU (QU ?_)
   refine Qd ?_ ?_ <;> intro h1 <;> simp -failIfUnchanged [-List.getD_eq_getElem?_getD, -UInt8.toNat_or] at h1
   refine Qd (fun h2 => ?_) (fun h2 => ?_)
   simp -failIfUnchanged [-List.getD_eq_getElem?_getD, -UInt8.toNat_or] at h2
   exact Qi hk (k3.trans (selGo_end (by omega))) ⟨by omega, by omega⟩
   simp -failIfUnchanged [-List.getD_eq_getElem?_getD, -UInt8.toNat_or] at h2
   refine QU ?_
   refine Qd ?_ ?_ <;> intro h3 <;> simp -failIfUnchanged [-List.getD_eq_getElem?_getD, -UInt8.toNat_or] at h3
   refine QU (QU (QU (QU ?_)))
   refine Qd ?_ ?_ <;> intro h4 <;> simp -failIfUnchanged [-List.getD_eq_getElem?_getD, -UInt8.toNat_or] at h4
   exfalso
   omega
   refine QU (QU (QU (QU ?_)))
   refine QJ (fun v3 h5 => ?_) (fun h5 => ?_)
   intro h6
   simp -failIfUnchanged [-List.getD_eq_getElem?_getD, -UInt8.toNat_or] at h6
   exact ih _ (by omega) _ _ rfl ⟨by omega, by omega, k3.trans (Qac (by omega) (by simp [Vh, h3]) h5 (by omega))⟩
   intro j4
   exact Qa hk (k3.trans (JK (by omega) (by simp [Vh, h3]) h5)) _
   refine Qd (fun h4 => ?_) (fun h4 => ?_)
   simp -failIfUnchanged [-List.getD_eq_getElem?_getD, -UInt8.toNat_or] at h4
   refine QU (QU (QU (QU ?_)))
   refine Qd ?_ ?_ <;> intro h5 <;> simp -failIfUnchanged [-List.getD_eq_getElem?_getD, -UInt8.toNat_or] at h5
   exfalso
   omega
   refine QU (QU (QU (QU ?_)))
   refine QJ (fun v5 h6 => ?_) (fun h6 => ?_)
   intro h7
   simp -failIfUnchanged [-List.getD_eq_getElem?_getD, -UInt8.toNat_or] at h7
   exact ih _ (by omega) _ _ rfl ⟨by omega, by omega, k3.trans (Qac (by omega) (by simp [Vh, h4]) h6 (by omega))⟩
   intro j6
   exact Qa hk (k3.trans (JK (by omega) (by simp [Vh, h4]) h6)) _
   simp -failIfUnchanged [-List.getD_eq_getElem?_getD, -UInt8.toNat_or] at h4
   refine Qd ?_ ?_ <;> intro h5 <;> simp -failIfUnchanged [-List.getD_eq_getElem?_getD, -UInt8.toNat_or] at h5
   refine QU (QU (QU (QU ?_)))
   refine Qd ?_ ?_ <;> intro h6 <;> simp -failIfUnchanged [-List.getD_eq_getElem?_getD, -UInt8.toNat_or] at h6
   exfalso
   omega
   refine QU (QU (QU (QU ?_)))
   refine QJ (fun v7 h7 => ?_) (fun h7 => ?_)
   intro h8
   simp -failIfUnchanged [-List.getD_eq_getElem?_getD, -UInt8.toNat_or] at h8
   exact ih _ (by omega) _ _ rfl ⟨by omega, by omega, k3.trans (Qac (by omega) (by simp [Vh, h5]) h7 (by omega))⟩
   intro j8
   exact Qa hk (k3.trans (JK (by omega) (by simp [Vh, h5]) h7)) _
   refine Qd (fun h6 => ?_) (fun h6 => ?_)
   simp -failIfUnchanged [-List.getD_eq_getElem?_getD, -UInt8.toNat_or] at h6
   exact Qi hk (k3.trans (Jg (by omega) (by simp [Vh, h3, h4, h5]) (by omega))) ⟨by omega, by omega⟩
   simp -failIfUnchanged [-List.getD_eq_getElem?_getD, -UInt8.toNat_or] at h6
   refine Qd ?_ ?_ <;> intro h7 <;> simp -failIfUnchanged [-List.getD_eq_getElem?_getD, -UInt8.toNat_or] at h7
   exact Qi hk (k3.trans (Jg (by omega) (by simp [Vh, h3, h4, h5]) (by omega))) ⟨by omega, by omega⟩
   refine QU (QU (QU (QU ?_)))
   refine QJ (fun v9 h8 => ?_) (fun h8 => ?_)
   intro h9
   simp -failIfUnchanged [-List.getD_eq_getElem?_getD, -UInt8.toNat_or] at h9
   exact ih _ (by omega) _ _ rfl ⟨by omega, by omega, k3.trans (Qoo (by omega) (by simp [Vh, h3, h4, h5]) (by omega) h8 (by omega))⟩
   intro j10
   exact Qa hk (k3.trans (Ql0 (by omega) (by simp [Vh, h3, h4, h5]) (by omega) h8)) _
   refine Qd (fun h2 => ?_) (fun h2 => ?_)
   simp -failIfUnchanged [-List.getD_eq_getElem?_getD, -UInt8.toNat_or] at h2
   exact Qi hk (k3.trans (selGo_end (by omega))) ⟨by omega, by omega⟩
   simp -failIfUnchanged [-List.getD_eq_getElem?_getD, -UInt8.toNat_or] at h2
   refine QU ?_
   refine Qd ?_ ?_ <;> intro h3 <;> simp -failIfUnchanged [-List.getD_eq_getElem?_getD, -UInt8.toNat_or] at h3
   refine QU (QU (QU (QU ?_)))
   refine Qd ?_ ?_ <;> intro h4 <;> simp -failIfUnchanged [-List.getD_eq_getElem?_getD, -UInt8.toNat_or] at h4
   exfalso
   omega
   refine QU (QU (QU (QU ?_)))
   refine QJ (fun v11 h5 => ?_) (fun h5 => ?_)
   intro h6
   simp -failIfUnchanged [-List.getD_eq_getElem?_getD, -UInt8.toNat_or] at h6
   exact ih _ (by omega) _ _ rfl ⟨by omega, by omega, k3.trans (Qac (by omega) (by simp [Vh, h3]) h5 (by omega))⟩
   intro j12
   exact Qa hk (k3.trans (JK (by omega) (by simp [Vh, h3]) h5)) _
   refine Qd (fun h4 => ?_) (fun h4 => ?_)
   simp -failIfUnchanged [-List.getD_eq_getElem?_getD, -UInt8.toNat_or] at h4
   refine QU (QU (QU (QU ?_)))
   refine Qd ?_ ?_ <;> intro h5 <;> simp -failIfUnchanged [-List.getD_eq_getElem?_getD, -UInt8.toNat_or] at h5
   exfalso
   omega
   refine QU (QU (QU (QU ?_)))
   refine QJ (fun v13 h6 => ?_) (fun h6 => ?_)
   intro h7
   simp -failIfUnchanged [-List.getD_eq_getElem?_getD, -UInt8.toNat_or] at h7
   exact ih _ (by omega) _ _ rfl ⟨by omega, by omega, k3.trans (Qac (by omega) (by simp [Vh, h4]) h6 (by omega))⟩
   intro j14
   exact Qa hk (k3.trans (JK (by omega) (by simp [Vh, h4]) h6)) _
   simp -failIfUnchanged [-List.getD_eq_getElem?_getD, -UInt8.toNat_or] at h4
   refine Qd ?_ ?_ <;> intro h5 <;> simp -failIfUnchanged [-List.getD_eq_getElem?_getD, -UInt8.toNat_or] at h5
   refine QU (QU (QU (QU ?_)))
   refine Qd ?_ ?_ <;> intro h6 <;> simp -failIfUnchanged [-List.getD_eq_getElem?_getD, -UInt8.toNat_or] at h6
   exfalso
   omega
   refine QU (QU (QU (QU ?_)))
   refine QJ (fun v15 h7 => ?_) (fun h7 => ?_)
   intro h8
   simp -failIfUnchanged [-List.getD_eq_getElem?_getD, -UInt8.toNat_or] at h8
   exact ih _ (by omega) _ _ rfl ⟨by omega, by omega, k3.trans (Qac (by omega) (by simp [Vh, h5]) h7 (by omega))⟩
   intro j16
   exact Qa hk (k3.trans (JK (by omega) (by simp [Vh, h5]) h7)) _
   refine Qd (fun h6 => ?_) (fun h6 => ?_)
   simp -failIfUnchanged [-List.getD_eq_getElem?_getD, -UInt8.toNat_or] at h6
   exact Qi hk (k3.trans (Jg (by omega) (by simp [Vh, h3, h4, h5]) (by omega))) ⟨by omega, by omega⟩
   simp -failIfUnchanged [-List.getD_eq_getElem?_getD, -UInt8.toNat_or] at h6
   refine Qd ?_ ?_ <;> intro h7 <;> simp -failIfUnchanged [-List.getD_eq_getElem?_getD, -UInt8.toNat_or] at h7
   exact Qi hk (k3.trans (Jg (by omega) (by simp [Vh, h3, h4, h5]) (by omega))) ⟨by omega, by omega⟩
   exact Qi hk (k3.trans (Jg (by omega) (by simp [Vh, h3, h4, h5]) (by omega))) ⟨by omega, by omega⟩
 refine (W72 m).en ((s.length <= 1000000) /\ (i <= s.length) /\ (s.length <= 1000000) /\ (iWs s i <= s.length) /\ (d <= 1001) /\ (1002 <= d + m) /\ Qx (YL (QD s a (1001 - d)) s a (iWs s i)) (fun v1 => (iWs s i < v1.2 /\ v1.2 <= s.length) -> (W72 m).L K 5 (mkS 82 [(0, (.ptr 0 0)), (4, (.cs v1.1))] [(0, .blk 94 [(.str s), (.nat v1.2), (.nat d), (.bool a)])] 1)) (∀ j2 : Nat, K (.val (.tup [.nilif, .ifx])) (some (.blk 94 [(.str s), (.nat j2), (.nat d), (.bool a)])))) ?_
 refine QU (QU (QU (QU (QU (QU ?_)))))
 refine QJ (fun v1 h1 => ?_) (fun h1 => ?_)
 intro h2
 simp -failIfUnchanged [-List.getD_eq_getElem?_getD, -UInt8.toNat_or] at h2
 exact L5 _ _ _ rfl ⟨by omega, by omega, by unfold Zp; rw [h1]⟩
 intro j2
 exact Qa hk (by unfold Zp; rw [h1]) _
 exact hP.elim
end
end Go.Proofs.YtengepcafdnalaaGreatDoor
