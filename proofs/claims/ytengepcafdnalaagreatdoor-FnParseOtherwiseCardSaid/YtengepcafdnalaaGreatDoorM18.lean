/-
  Parts of the proof that the law FnParseOtherwise holds for every input (texts Kb, Kd, Ke). Conditions: none.
-/
import Derived.Test.YtengepcafdnalaaGreatDoorM17
namespace Go.Proofs.YtengepcafdnalaaGreatDoor
section
open Go Go.RowKit
set_option maxRecDepth 20000
def c71 (svs : List SV) (b : Option SB) : QR := match svs, b with
 | [.str _], none => some ([], .ifx)
 | _, _ => none
noncomputable def W71 : Wk := ⟨[], Qm Tryz.f71, false, false, [.tmp 2], [71], [], []⟩
theorem Zt : Has 71 := hsf Tryz.f71
theorem Zr : Sat 71 (QC c71) := by
 have hD : Qe W71.D := Qe.nil
 refine W71.sat hD (fn := Tryz.f71) (by kernel_rfl) (by kernel_rfl) (by kernel_rfl) (by decide) fun svs b K hP => ?_
 obtain ⟨ps, v, e, hp, hk⟩ := Qo hP
 unfold c71 at e
 split at e
 rename_i l
 cases e
 refine W71.en (K (.val .ifx) none) ?_
 exact hk
 cases e
def c128 (svs : List SV) (b : Option SB) : QR := match svs, b with
 | [.str s, .str p], none => some ([], .bool (decide (p.length <= s.length) && decide (s.take p.length = p)))
 | _, _ => none
noncomputable def W128 : Wk := ⟨[], Qm Tryz.f128, false, false, [.tmp 4], [4], [], []⟩
theorem Qsi : Has 128 := hsf Tryz.f128
theorem kbz0 {c0 p0 q : Prop} (k : q) (h : c0 -> p0 /\ True := by intro g0; (try simp at g0); exact ⟨(by first | omega | (simp; done) | (simp; omega) | (simp; assumption)), trivial⟩) : (c0 -> p0 /\ True) /\ q := ⟨h, k⟩
theorem Qrb : Sat 128 (QC c128) := by
 have hD : Qe W128.D := Qe.nil
 refine W128.sat hD (fn := Tryz.f128) (by kernel_rfl) (by kernel_rfl) (by kernel_rfl) (by decide) fun svs b K hP => ?_
 obtain ⟨ps, v, e, hp, hk⟩ := Qo hP
 unfold c128 at e
 split at e
 rename_i s p
 cases e
 refine W128.en (((decide (p.length <= s.length)) = true -> (p.length <= s.length) /\ True) /\ K (.val (.bool ((decide (p.length <= s.length)) && (decide (s.take p.length = p))))) none) ?_
 refine kbz0 ?_
 exact hk
 cases e
def c113 (svs : List SV) (b : Option SB) : QR := match svs, b with
 | [.str s, .str p], none => some ([], .bool (decide (p.length <= s.length) && decide (s.take p.length = p)))
 | _, _ => none
noncomputable def W113 : Wk := ⟨[(128, .pure c128)], Qm Tryz.f113, false, false, [.tmp 4], [4], [], []⟩
theorem Qsp : Has 113 := hsf Tryz.f113
theorem Qri : Sat 113 (QC c113) := by
 have hD : Qe W113.D := (Qe.cons Qsi Qrb Qe.nil)
 refine W113.sat hD (fn := Tryz.f113) (by kernel_rfl) (by kernel_rfl) (by kernel_rfl) (by decide) fun svs b K hP => ?_
 obtain ⟨ps, v, e, hp, hk⟩ := Qo hP
 unfold c113 at e
 split at e
 rename_i s p
 cases e
 refine W113.en (K (.val (.bool (decide (p.length <= s.length) && decide (s.take p.length = p)))) none) ?_
 exact hk
 cases e
def Ux (s p : Bs) (i : Nat) : Option Nat :=
 if i + p.length <= s.length then
  if (s.take (i + p.length)).drop i = p then some i else Ux s p (i + 1)
 else none
 termination_by s.length + 1 - i
def c114 : Spec := fun svs b K => match svs, b with
 | [.str s, .str p], none => (s.length <= 1000000 /\ p.length <= 1000000) /\ Qx (Ux s p 0) (fun j => j + p.length <= s.length -> K (.val (.nat j)) none) (K (.val (.int .i64 (-1))) none)
 | _, _ => False
noncomputable def Qi4 : Wk := ⟨[], Qm Tryz.f114, false, false, [.tmp 4], [3], [(2, 35)], []⟩
theorem Qso : Has 114 := hsf Tryz.f114
theorem kbz1 {p q : Prop} (k : q) (h : p := by first | omega | (simp; done) | (simp; omega) | (simp; assumption)) : p /\ q := ⟨h, k⟩
theorem Qrh : Sat 114 c114 := by
 have hD : Qe Qi4.D := Qe.nil
 refine Qi4.sat hD (fn := Tryz.f114) (by kernel_rfl) (by kernel_rfl) (by kernel_rfl) (by decide) fun svs b K hP => ?_
 unfold c114 at hP
 split at hP
 rename_i s p
 obtain ⟨⟨h01, h02⟩, hk⟩ := hP
 have L2 : ∀ (mm : Nat) (i : Nat), s.length + 1 - i = mm -> i <= s.length + 1 /\ Ux s p i = Ux s p 0 -> Qi4.L K 2 (mkS 25 [(0, (.str s)), (1, (.str p)), (5, (.nat i))] [] 1) := by
  intro mm
  induction mm using Nat.strongRecOn with
  | _ mm ih =>
   intro i hm hI
   refine Qi4.aL hD ((i + p.length <= 9223372036854775807) /\ cond (decide (i + p.length <= s.length)) ((i + p.length <= 9223372036854775807) /\ (i <= i + p.length /\ i + p.length <= s.length) /\ cond (decide ((s.take (i + p.length)).drop i = p)) (K (.val (.nat i)) none) ((i + 1 <= 9223372036854775807) /\ (Qi4).L K 2 (mkS 25 [(0, (.str s)), (1, (.str p)), (5, (.nat (i + 1)))] [] 1))) (K (.val (.int .i64 (-1))) none)) ?_
   refine kbz1 ?_
   refine Qd ?_ ?_ <;> intro h1 <;> simp -failIfUnchanged [-List.getD_eq_getElem?_getD] at h1
   refine kbz1 (kbz1 ?_)
   refine Qd ?_ ?_ <;> intro h2 <;> simp -failIfUnchanged [-List.getD_eq_getElem?_getD] at h2
   rw [<- hI.2] at hk; unfold Ux at hk; rw [if_pos (by omega), if_pos (by assumption)] at hk; exact hk (by omega)
   refine kbz1 ?_
   refine ih _ (by omega) _ rfl ⟨by omega, ?_⟩
   rw [<- hI.2]
   conv => rhs; unfold Ux
   rw [if_pos (by omega), if_neg (by assumption)]
   rw [<- hI.2] at hk; unfold Ux at hk; rw [if_neg (by omega)] at hk; exact hk
 refine Qi4.en ((Qi4).L K 2 (mkS 25 [(0, (.str s)), (1, (.str p)), (5, (.nat 0))] [] 1)) ?_
 exact L2 _ _ rfl ⟨by omega, rfl⟩
 exact hP.elim
theorem UE (s : Bs) (i : Nat) (a b : UInt8) (h : i + 2 <= s.length) : (s.drop i).take 2 = [a, b] ↔ bat s i = a.toNat /\ bat s (i + 1) = b.toNat := by
 have h1 : s.drop i = s[i] :: s[i + 1] :: s.drop (i + 2) := by
  rw [List.drop_eq_getElem_cons (by omega), List.drop_eq_getElem_cons (by omega)]
 rw [h1]
 simp only [List.take_succ_cons, List.take_zero, List.cons.injEq, and_true]
 unfold bat
 simp only [List.getD_eq_getElem?_getD, List.getElem?_eq_getElem (show i < s.length from by omega), List.getElem?_eq_getElem (show i + 1 < s.length from by omega), Option.getD_some]
 constructor
 rintro ⟨rfl, rfl⟩; exact ⟨rfl, rfl⟩
 rintro ⟨h1, h2⟩; exact ⟨UInt8.toNat_inj.1 h1, UInt8.toNat_inj.1 h2⟩
theorem Qhv (s : Bs) (k : Nat) : ∀ i, k + i <= s.length -> Ux (s.drop k) [42, 47] i = (ZD s (k + i)).map fun j => j - 2 - k := by
 intro i
 fun_induction Ux (s.drop k) [42, 47] i with
 | case1 i h1 h2 =>
  intro hi
  simp only [List.length_drop, List.length_cons, List.length_nil] at h1
  have h3 : (s.drop (k + i)).take 2 = [42, 47] := by
   rw [<- h2]
   simp only [List.length_cons, List.length_nil, List.drop_take, List.drop_drop]
   congr 1
   omega
  have h4 := (UE s (k + i) 42 47 (by omega)).1 h3
  unfold ZD
  rw [if_pos (by omega), if_pos (by exact h4)]
  simp only [Option.map_some]
  congr 1
  omega
 | case2 i h1 h2 ih =>
  intro hi
  simp only [List.length_drop, List.length_cons, List.length_nil] at h1
  have h3 : ¬ (bat s (k + i) = 42 /\ bat s (k + i + 1) = 47) := by
   intro h4
   apply h2
   have h5 := (UE s (k + i) 42 47 (by omega)).2 h4
   simp only [List.length_cons, List.length_nil, List.drop_take, List.drop_drop]
   rw [show i + (0 + 1 + 1) - i = 2 from by omega]
   exact h5
  rw [ih (by omega)]
  conv => rhs; unfold ZD
  rw [if_pos (by omega), if_neg h3]
  rfl
 | case3 i h1 =>
  intro hi
  simp only [List.length_drop, List.length_cons, List.length_nil] at h1
  unfold ZD
  rw [if_neg (by omega)]
  rfl
theorem Qdk {s : Bs} {i : Nat} (h : i < s.length) (hw : VM (bat s i) = true) : iWs s i = iWs s (i + 1) := by
 conv => lhs; unfold iWs
 rw [if_pos h, if_pos hw]
theorem Qr3 {s : Bs} {i j : Nat} (h : i + 2 <= s.length /\ bat s i = 47 /\ bat s (i + 1) = 42) (hc : ZD s (i + 2) = some j) : iWs s i = iWs s j := by
 conv => lhs; unfold iWs
 rw [if_pos (by omega), if_neg (by rw [h.2.1]; decide), if_pos h]
 split
 rename_i e; rw [hc] at e; cases e; rfl
 rename_i e; rw [hc] at e; cases e
theorem UV {s : Bs} {i : Nat} (h : i < s.length -> VM (bat s i) = false /\ ((i + 2 <= s.length /\ bat s i = 47 /\ bat s (i + 1) = 42) -> ZD s (i + 2) = none)) : iWs s i = i := by
 unfold iWs
 split
 rename_i h1
 obtain ⟨h2, h3⟩ := h h1
 rw [if_neg (by rw [h2]; simp)]
 split
 rename_i h4
 split
 rename_i e; rw [h3 h4] at e; cases e
 rfl
 rfl
 rfl
theorem Qpn {s : Bs} {j y : Nat} (h : Ux (s.drop (j + 2)) [42, 47] 0 = some y) (hl : j + 2 <= s.length) : ZD s (j + 2) = some (j + (y + 4)) /\ j + (y + 4) <= s.length := by
 have h1 := Qhv s (j + 2) 0 (by omega)
 rw [h] at h1
 cases hc : ZD s (j + 2) with
 | none => rw [show j + 2 + 0 = j + 2 from rfl, hc] at h1; cases h1
 | some e =>
  rw [show j + 2 + 0 = j + 2 from rfl, hc] at h1
  simp only [Option.map_some, Option.some.injEq] at h1
  have := JC _ _ hc
  exact ⟨by congr 1; omega, by omega⟩
theorem JB {s : Bs} {j : Nat} (h : Ux (s.drop (j + 2)) [42, 47] 0 = none) (hl : j + 2 <= s.length) : ZD s (j + 2) = none := by
 have h1 := Qhv s (j + 2) 0 (by omega)
 rw [h] at h1
 simpa using h1.symm
def c99 (svs : List SV) (b : Option SB) : FR := match svs, b with
 | [.ptr 0 0], some (.blk 94 [.str s, .nat i, .nat d, .bool a]) =>
  some ([s.length <= 1000000, i <= s.length], .val (.bool (decide (i < iWs s i))), some (.blk 94 [.str s, .nat (iWs s i), .nat d, .bool a]))
 | _, _ => none
noncomputable def W99 : Wk := ⟨[(113, .pure c113), (114, .plain c114)], Qm Tryz.f99, true, false, [.tmp 2], [4], [(2, 9)], []⟩
theorem QeH : Has 99 := hsf Tryz.f99
theorem Qb9 {p q : Prop} (k : q) (h : p := by first | omega | (simp; omega)) : p /\ q := ⟨h, k⟩
theorem Qeh : Sat 99 (fnS c99) := by
 have hD : Qe W99.D := (Qe.cons Qsp Qri (Qe.cons Qso Qrh Qe.nil))
 refine W99.sat hD (fn := Tryz.f99) (by kernel_rfl) (by kernel_rfl) (by kernel_rfl) (by decide) fun svs b K hP => ?_
 obtain ⟨ps, o, b', e, hp, hk⟩ := Yp hP
 unfold c99 at e
 split at e
 rename_i s i d a
 cases e
 obtain ⟨h01, h02, _⟩ := hp
 have L2 : ∀ (mm : Nat) (j : Nat), s.length - j = mm -> i <= j /\ j <= s.length /\ iWs s j = iWs s i -> W99.L K 2 (mkS 63 [(0, (.ptr 0 0)), (3, (.nat j))] [(0, .blk 94 [(.str s), (.nat i), (.nat d), (.bool a)])] 1) := by
  intro mm
  induction mm using Nat.strongRecOn with
  | _ mm ih =>
   intro j hm hI
   refine W99.aL hD (have a0 := mkS 63 [(0, (.ptr 0 0)), (3, (.nat (j + 1)))] [(0, .blk 94 [(.str s), (.nat i), (.nat d), (.bool a)])] 1; have a1 : Option SB := some (.blk 94 [(.str s), (.nat j), (.nat d), (.bool a)]); have a2 : Option SB := some (.blk 94 [(.str s), (.nat i), (.nat d), (.bool a)]); have a3 := j + 1 <= 9223372036854775807; have a4 : Out := .val (.bool false); have a5 : Out := .val (.bool true); have a6 := decide (i < j); cond (decide (j < s.length)) ((j < s.length) /\ cond (decide (bat s j = 32)) (a3 /\ (W99).L K 2 a0) (cond (decide (bat s j = 9)) (a3 /\ (W99).L K 2 a0) (cond (decide (bat s j = 13)) (a3 /\ (W99).L K 2 a0) (cond (decide (bat s j = 10)) (a3 /\ (W99).L K 2 a0) (cond (decide (bat s j = 12)) (a3 /\ (W99).L K 2 a0) (cond (decide (bat s j = 47)) ((j <= s.length) /\ cond (decide (2 <= (s.drop j).length) && decide ((s.drop j).take 2 = [47, 42])) ((j + 2 <= 9223372036854775807) /\ (j + 2 <= s.length) /\ ((s.drop (j + 2)).length <= 1000000 /\ 2 <= 1000000) /\ Qx (Ux (s.drop (j + 2)) [42, 47] 0) (fun j1 => (j1 + 2 <= (s.drop (j + 2)).length) -> cond (!(decide (((j1 : Nat) : Int) = (-1)))) ((j1 + 4 <= 9223372036854775807) /\ (j + (j1 + 4) <= 9223372036854775807) /\ (W99).L K 2 (mkS 63 [(0, (.ptr 0 0)), (3, (.nat (j + (j1 + 4))))] [(0, .blk 94 [(.str s), (.nat i), (.nat d), (.bool a)])] 1)) (cond a6 (K a5 a1) (K a4 a2))) (cond a6 (K a5 a1) (K a4 a2))) (cond a6 (K a5 a1) (K a4 a2))) (cond a6 (K a5 a1) (K a4 a2)))))))) (cond a6 (K a5 a1) (K a4 a2))) ?_
   refine Qd ?_ ?_ <;> intro h1 <;> simp -failIfUnchanged [-List.getD_eq_getElem?_getD] at h1
   refine Qb9 ?_
   refine Qd ?_ ?_ <;> intro h2 <;> simp -failIfUnchanged [-List.getD_eq_getElem?_getD] at h2
   refine Qb9 ?_
   refine ih _ (by omega) _ rfl ⟨by omega, by omega, ?_⟩
   exact (Qdk (by omega) (by simp [VM, *])).symm.trans hI.2.2
   refine Qd (fun h3 => ?_) (fun h3 => ?_)
   simp -failIfUnchanged [-List.getD_eq_getElem?_getD] at h3
   refine Qb9 ?_
   refine ih _ (by omega) _ rfl ⟨by omega, by omega, ?_⟩
   exact (Qdk (by omega) (by simp [VM, *])).symm.trans hI.2.2
   simp -failIfUnchanged [-List.getD_eq_getElem?_getD] at h3
   refine Qd ?_ ?_ <;> intro h4 <;> simp -failIfUnchanged [-List.getD_eq_getElem?_getD] at h4
   refine Qb9 ?_
   refine ih _ (by omega) _ rfl ⟨by omega, by omega, ?_⟩
   exact (Qdk (by omega) (by simp [VM, *])).symm.trans hI.2.2
   refine Qd (fun h5 => ?_) (fun h5 => ?_)
   simp -failIfUnchanged [-List.getD_eq_getElem?_getD] at h5
   refine Qb9 ?_
   refine ih _ (by omega) _ rfl ⟨by omega, by omega, ?_⟩
   exact (Qdk (by omega) (by simp [VM, *])).symm.trans hI.2.2
   simp -failIfUnchanged [-List.getD_eq_getElem?_getD] at h5
   refine Qd ?_ ?_ <;> intro h6 <;> simp -failIfUnchanged [-List.getD_eq_getElem?_getD] at h6
   refine Qb9 ?_
   refine ih _ (by omega) _ rfl ⟨by omega, by omega, ?_⟩
   exact (Qdk (by omega) (by simp [VM, *])).symm.trans hI.2.2
   refine Qd (fun h7 => ?_) (fun h7 => ?_)
   simp -failIfUnchanged [-List.getD_eq_getElem?_getD] at h7
   refine Qb9 ?_
   refine Qd ?_ ?_ <;> intro h8 <;> simp -failIfUnchanged [-List.getD_eq_getElem?_getD] at h8
   refine Qb9 (Qb9 (Qb9 ?_))
   refine QJ (fun j1 h9 => ?_) (fun h9 => ?_)
   intro h10
   simp -failIfUnchanged [-List.getD_eq_getElem?_getD] at h10
   refine Qd (fun h11 => ?_) (fun h11 => ?_)
   simp -failIfUnchanged [-List.getD_eq_getElem?_getD] at h11
   refine Qb9 (Qb9 ?_)
   obtain ⟨q1, q2⟩ := Qpn (by assumption) (by omega)
   refine ih _ (by omega) _ rfl ⟨by omega, by omega, ?_⟩
   exact (Qr3 (by have q := (UE s j 47 42 (by omega)).1 h8.2; exact ⟨by omega, q.1, q.2⟩) q1).symm.trans hI.2.2
   simp -failIfUnchanged [-List.getD_eq_getElem?_getD] at h11
   refine Qd ?_ ?_ <;> intro h10 <;> simp -failIfUnchanged [-List.getD_eq_getElem?_getD] at h10
   . have e : iWs s j = j := UV fun q0 => by
      first
      | (exfalso; omega)
      | exact ⟨by simp [VM, *], fun q => by
       have q2 := (UE s j 47 42 q.1).2 ⟨q.2.1, q.2.2⟩
       first | exact JB (by assumption) (by omega) | (exfalso; simp_all; omega) | simp_all⟩
     rw [<- hI.2.2, e] at hk
     exact keq hk (by simp; omega) (by first | rfl | rw [show j = i from by omega])
   have e : iWs s j = j := UV fun q0 => by
    first
    | (exfalso; omega)
    | exact ⟨by simp [VM, *], fun q => by
     have q2 := (UE s j 47 42 q.1).2 ⟨q.2.1, q.2.2⟩
     first | exact JB (by assumption) (by omega) | (exfalso; simp_all; omega) | simp_all⟩
   rw [<- hI.2.2, e] at hk
   exact keq hk (by simp; omega) (by first | rfl | rw [show j = i from by omega])
   refine Qd (fun h9 => ?_) (fun h9 => ?_)
   simp -failIfUnchanged [-List.getD_eq_getElem?_getD] at h9
   have e : iWs s j = j := UV fun q0 => by
    first
    | (exfalso; omega)
    | exact ⟨by simp [VM, *], fun q => by
     have q2 := (UE s j 47 42 q.1).2 ⟨q.2.1, q.2.2⟩
     first | exact JB (by assumption) (by omega) | (exfalso; simp_all; omega) | simp_all⟩
   rw [<- hI.2.2, e] at hk
   exact keq hk (by simp; omega) (by first | rfl | rw [show j = i from by omega])
   simp -failIfUnchanged [-List.getD_eq_getElem?_getD] at h9
   have e : iWs s j = j := UV fun q0 => by
    first
    | (exfalso; omega)
    | exact ⟨by simp [VM, *], fun q => by
     have q2 := (UE s j 47 42 q.1).2 ⟨q.2.1, q.2.2⟩
     first | exact JB (by assumption) (by omega) | (exfalso; simp_all; omega) | simp_all⟩
   rw [<- hI.2.2, e] at hk
   exact keq hk (by simp; omega) (by first | rfl | rw [show j = i from by omega])
   simp -failIfUnchanged [-List.getD_eq_getElem?_getD] at h7
   refine Qd ?_ ?_ <;> intro h8 <;> simp -failIfUnchanged [-List.getD_eq_getElem?_getD] at h8
   . have e : iWs s j = j := UV fun q0 => by
      first
      | (exfalso; omega)
      | exact ⟨by simp [VM, *], fun q => by
       have q2 := (UE s j 47 42 q.1).2 ⟨q.2.1, q.2.2⟩
       first | exact JB (by assumption) (by omega) | (exfalso; simp_all; omega) | simp_all⟩
     rw [<- hI.2.2, e] at hk
     exact keq hk (by simp; omega) (by first | rfl | rw [show j = i from by omega])
   have e : iWs s j = j := UV fun q0 => by
    first
    | (exfalso; omega)
    | exact ⟨by simp [VM, *], fun q => by
     have q2 := (UE s j 47 42 q.1).2 ⟨q.2.1, q.2.2⟩
     first | exact JB (by assumption) (by omega) | (exfalso; simp_all; omega) | simp_all⟩
   rw [<- hI.2.2, e] at hk
   exact keq hk (by simp; omega) (by first | rfl | rw [show j = i from by omega])
   refine Qd (fun h2 => ?_) (fun h2 => ?_)
   simp -failIfUnchanged [-List.getD_eq_getElem?_getD] at h2
   have e : iWs s j = j := UV fun q0 => by
    first
    | (exfalso; omega)
    | exact ⟨by simp [VM, *], fun q => by
     have q2 := (UE s j 47 42 q.1).2 ⟨q.2.1, q.2.2⟩
     first | exact JB (by assumption) (by omega) | (exfalso; simp_all; omega) | simp_all⟩
   rw [<- hI.2.2, e] at hk
   exact keq hk (by simp; omega) (by first | rfl | rw [show j = i from by omega])
   simp -failIfUnchanged [-List.getD_eq_getElem?_getD] at h2
   have e : iWs s j = j := UV fun q0 => by
    first
    | (exfalso; omega)
    | exact ⟨by simp [VM, *], fun q => by
     have q2 := (UE s j 47 42 q.1).2 ⟨q.2.1, q.2.2⟩
     first | exact JB (by assumption) (by omega) | (exfalso; simp_all; omega) | simp_all⟩
   rw [<- hI.2.2, e] at hk
   exact keq hk (by simp; omega) (by first | rfl | rw [show j = i from by omega])
 refine W99.en ((W99).L K 2 (mkS 63 [(0, (.ptr 0 0)), (3, (.nat i))] [(0, .blk 94 [(.str s), (.nat i), (.nat d), (.bool a)])] 1)) ?_
 exact L2 _ _ rfl ⟨by omega, by omega, rfl⟩
 cases e
end
section
open Go Go.RowKit
set_option maxRecDepth 20000
def c95 (svs : List SV) (b : Option SB) : FR := match svs, b with
 | [.ptr 0 0], some (.blk 46 [.str s, .nat p, .bool bad, .bool un, .bool ps]) => some ([s.length <= 1000000, p <= s.length + 1], .val (.bool (QmM s p)), some (.blk 46 [.str s, .nat p, .bool bad, .bool (un || nmUn s p), .bool ps]))
 | _, _ => none
theorem Qbd {p q : Prop} (k : q) (h : p := by first | omega | (simp; done) | (simp; omega) | (simp; assumption)) : p /\ q := ⟨h, k⟩
theorem kdz0 {c0 p0 q : Prop} (k : q) (h : c0 -> p0 /\ True := by intro g0; (try simp at g0); exact ⟨(by first | omega | (simp; done) | (simp; omega) | (simp; assumption)), trivial⟩) : (c0 -> p0 /\ True) /\ q := ⟨h, k⟩
def c137 : Spec := fun svs b K => match svs, b with
 | [.byt c], none => cond (Q2 c.toNat) (K (.val (.nat (Yv c.toNat))) none) (K (.val (.int .i64 (-1))) none)
 | _, _ => False
theorem pm2 {b : Nat} (h : 194 <= b /\ b < 224) : VA b = (b - 192, 2, 128) := by unfold VA; rw [if_pos h]
theorem pm3 {b : Nat} (h : 224 <= b /\ b < 240) : VA b = (b - 224, 3, 2048) := by unfold VA; rw [if_neg (by omega), if_pos h]
theorem pm4 {b : Nat} (h : 240 <= b /\ b < 245) : VA b = (b - 240, 4, 65536) := by unfold VA; rw [if_neg (by omega), if_neg (by omega), if_pos h]
theorem Qfr {s : Bs} {k i c : Nat} (h : bat s i < 128 \/ 191 < bat s i) : VV s (k + 1) i c = none := by
 unfold VV; rw [if_pos h]
theorem Qfq {s : Bs} {k i c : Nat} (h : ¬ (bat s i < 128 \/ 191 < bat s i)) : VV s (k + 1) i c = VV s k (i + 1) (c * 64 + bat s i - 128) := by
 conv => lhs; unfold VV
 rw [if_neg h]
def JO (c least many : Nat) : Nat × Nat := if c < least \/ 1114111 < c \/ (55296 <= c /\ c < 57344) then (0, 0) else (c, many)
theorem Qc1 {s : Bs} {i c0 many least : Nat} (h : ¬ bat s i < 128) (hm : VA (bat s i) = (c0, many, least)) (hn : many ≠ 0) (hl : i + many <= s.length) :
 Qk s i = match VV s (many - 1) (i + 1) c0 with
  | none => (0, 0)
  | some c => JO c least many := by
 unfold Qk
 rw [if_neg h, hm]
 simp only
 rw [if_neg (by omega)]
 rfl
def c41 (svs : List SV) (b : Option SB) : QR := match svs, b with
 | [.str s, .nat i], none => some ([s.length <= 1000000, i < s.length], .tup [.nat (Qk s i).1, .nat (Qk s i).2])
 | _, _ => none
noncomputable def W41 : Wk := ⟨[], Qm Tryz.f41, false, false, [.tmp 4, .tmp 5], [3, 3], [(14, 435)], []⟩
theorem Qni : Has 41 := hsf Tryz.f41
theorem Ql8 : Sat 41 (QC c41) := by
 have hD : Qe W41.D := Qe.nil
 refine W41.sat hD (fn := Tryz.f41) (by kernel_rfl) (by kernel_rfl) (by kernel_rfl) (by decide) fun svs b K hP => ?_
 obtain ⟨ps, v, e, hp, hk⟩ := Qo hP
 unfold c41 at e
 split at e
 rename_i s i
 cases e
 obtain ⟨h01, h02, _⟩ := hp
 have L14 : ∀ (mm : Nat) (c m l j : Nat), i + m - j = mm -> i + 1 <= j /\ j <= i + m /\ m <= 4 /\ i + m <= s.length /\ c < 64 * 64 ^ (j - i - 1) /\ Qk s i = (match VV s (i + m - j) j c with | none => (0, 0) | some c => JO c l m) -> W41.L K 14 (mkS 98 [(0, (.str s)), (1, (.nat i)), (4, (.nat c)), (5, (.nat m)), (7, (.nat l)), (8, (.nat j))] [] 1) := by
  intro mm
  induction mm using Nat.strongRecOn with
  | _ mm ih =>
   intro c m l j hm hI
   obtain ⟨k1, k2, k3, k4, k5, k6⟩ := hI
   have k7 : c < 64 * 64 ^ 3 := Nat.lt_of_lt_of_le k5 (Nat.mul_le_mul_left _ (Nat.pow_le_pow_right (by omega) (by omega)))
   refine W41.aL hD ((i + m <= 9223372036854775807) /\ cond (decide (j < i + m)) ((j < s.length) /\ ((decide (bat s j < 128)) = false -> (j < s.length) /\ True) /\ cond ((decide (bat s j < 128)) || (decide (191 < bat s j))) (K (.val (.tup [(.nat 0), (.nat 0)])) none) ((6 <= 62 /\ c * 2 ^ 6 <= 9223372036854775807) /\ (j < s.length) /\ ((c * 2 ^ 6) + (bat s j) <= 9223372036854775807) /\ (128 <= (c * 2 ^ 6) + (bat s j) /\ (c * 2 ^ 6) + (bat s j) <= 9223372036854775807) /\ (j + 1 <= 9223372036854775807) /\ (W41).L K 14 (mkS 98 [(0, (.str s)), (1, (.nat i)), (4, (.nat ((c * 2 ^ 6) + (bat s j) - 128))), (5, (.nat m)), (7, (.nat l)), (8, (.nat (j + 1)))] [] 1))) (cond (((decide (c < l)) || (decide (1114111 < c))) || ((decide (55296 <= c)) && (decide (c < 57344)))) (K (.val (.tup [(.nat 0), (.nat 0)])) none) (K (.val (.tup [(.nat c), (.nat m)])) none))) ?_
   refine Qbd ?_
   refine Qd ?_ ?_ <;> intro h1 <;> simp -failIfUnchanged [-List.getD_eq_getElem?_getD] at h1
   refine Qbd (kdz0 ?_)
   refine Qd ?_ ?_ <;> intro h2 <;> simp -failIfUnchanged [-List.getD_eq_getElem?_getD] at h2
   have e : Qk s i = (0, 0) := by rw [k6, show i + m - j = (i + m - j - 1) + 1 from by omega, Qfr (by omega)]
   rw [e] at hk
   exact hk
   refine Qbd (Qbd (Qbd (Qbd (Qbd ?_))))
   refine ih _ (by omega) _ _ _ _ rfl ⟨by omega, by omega, by omega, by omega, ?_, ?_⟩
   rw [show j + 1 - i - 1 = (j - i - 1) + 1 from by omega, Nat.pow_succ]; omega
   rw [k6, show i + m - j = (i + m - (j + 1)) + 1 from by omega, Qfq (by omega)]
   refine Qd (fun h2 => ?_) (fun h2 => ?_)
   simp -failIfUnchanged [-List.getD_eq_getElem?_getD] at h2
   have e : Qk s i = (0, 0) := by
    rw [k6, show i + m - j = 0 from by omega]
    show JO c l m = _
    unfold JO
    rw [if_pos (by omega)]
   rw [e] at hk
   exact hk
   simp -failIfUnchanged [-List.getD_eq_getElem?_getD] at h2
   have e : Qk s i = (c, m) := by
    rw [k6, show i + m - j = 0 from by omega]
    show JO c l m = _
    unfold JO
    rw [if_neg (by omega)]
   rw [e] at hk
   exact hk
 refine W41.en (have a0 : Out := .val (.tup [(.nat 0), (.nat 0)]); have a1 := i + 1 <= 9223372036854775807; (i < s.length) /\ cond (decide (bat s i < 128)) (K (.val (.tup [(.nat (bat s i)), (.nat 1)])) none) (cond ((decide (194 <= bat s i)) && (decide (bat s i < 224))) ((192 <= bat s i /\ bat s i <= 9223372036854775807) /\ (false = false -> (i + 2 <= 9223372036854775807) /\ True) /\ cond (decide (s.length < i + 2)) (K a0 none) (a1 /\ (W41).L K 14 (mkS 98 [(0, (.str s)), (1, (.nat i)), (4, (.nat (bat s i - 192))), (5, (.nat 2)), (7, (.nat 128)), (8, (.nat (i + 1)))] [] 1))) (cond ((decide (224 <= bat s i)) && (decide (bat s i < 240))) ((224 <= bat s i /\ bat s i <= 9223372036854775807) /\ (false = false -> (i + 3 <= 9223372036854775807) /\ True) /\ cond (decide (s.length < i + 3)) (K a0 none) (a1 /\ (W41).L K 14 (mkS 98 [(0, (.str s)), (1, (.nat i)), (4, (.nat (bat s i - 224))), (5, (.nat 3)), (7, (.nat 2048)), (8, (.nat (i + 1)))] [] 1))) (cond ((decide (240 <= bat s i)) && (decide (bat s i < 245))) ((240 <= bat s i /\ bat s i <= 9223372036854775807) /\ (false = false -> (i + 4 <= 9223372036854775807) /\ True) /\ cond (decide (s.length < i + 4)) (K a0 none) (a1 /\ (W41).L K 14 (mkS 98 [(0, (.str s)), (1, (.nat i)), (4, (.nat (bat s i - 240))), (5, (.nat 4)), (7, (.nat 65536)), (8, (.nat (i + 1)))] [] 1))) ((true = false -> (i <= 9223372036854775807) /\ True) /\ K a0 none))))) ?_
 refine Qbd ?_
 refine Qd ?_ ?_ <;> intro h1 <;> simp -failIfUnchanged [-List.getD_eq_getElem?_getD] at h1
 have e : Qk s i = (bat s i, 1) := by unfold Qk; rw [if_pos (by omega)]
 rw [e] at hk
 exact hk
 refine Qd (fun h2 => ?_) (fun h2 => ?_)
 simp -failIfUnchanged [-List.getD_eq_getElem?_getD] at h2
 refine Qbd (kdz0 ?_)
 refine Qd ?_ ?_ <;> intro h3 <;> simp -failIfUnchanged [-List.getD_eq_getElem?_getD] at h3
 . have e : Qk s i = (0, 0) := by
    unfold Qk
    rw [if_neg (by omega), show VA (bat s i) = (bat s i - 192, 2, 128) from pm2 (by omega), if_pos (by right; simp; omega)]
   rw [e] at hk
   exact hk
 refine Qbd ?_
 refine L14 _ _ _ _ _ rfl ⟨by omega, by omega, by omega, by omega, ?_, ?_⟩
 rw [show i + 1 - i - 1 = 0 from by omega]; omega
 rw [show i + 2 - (i + 1) = 2 - 1 from by omega]
 exact Qc1 (by omega) (show VA (bat s i) = (bat s i - 192, 2, 128) from pm2 (by omega)) (by decide) (by omega)
 simp -failIfUnchanged [-List.getD_eq_getElem?_getD] at h2
 refine Qd ?_ ?_ <;> intro h3 <;> simp -failIfUnchanged [-List.getD_eq_getElem?_getD] at h3
 refine Qbd (kdz0 ?_)
 refine Qd ?_ ?_ <;> intro h4 <;> simp -failIfUnchanged [-List.getD_eq_getElem?_getD] at h4
 . have e : Qk s i = (0, 0) := by
    unfold Qk
    rw [if_neg (by omega), show VA (bat s i) = (bat s i - 224, 3, 2048) from pm3 (by omega), if_pos (by right; simp; omega)]
   rw [e] at hk
   exact hk
 refine Qbd ?_
 refine L14 _ _ _ _ _ rfl ⟨by omega, by omega, by omega, by omega, ?_, ?_⟩
 rw [show i + 1 - i - 1 = 0 from by omega]; omega
 rw [show i + 3 - (i + 1) = 3 - 1 from by omega]
 exact Qc1 (by omega) (show VA (bat s i) = (bat s i - 224, 3, 2048) from pm3 (by omega)) (by decide) (by omega)
 refine Qd (fun h4 => ?_) (fun h4 => ?_)
 simp -failIfUnchanged [-List.getD_eq_getElem?_getD] at h4
 refine Qbd (kdz0 ?_)
 refine Qd ?_ ?_ <;> intro h5 <;> simp -failIfUnchanged [-List.getD_eq_getElem?_getD] at h5
 . have e : Qk s i = (0, 0) := by
    unfold Qk
    rw [if_neg (by omega), show VA (bat s i) = (bat s i - 240, 4, 65536) from pm4 (by omega), if_pos (by right; simp; omega)]
   rw [e] at hk
   exact hk
 refine Qbd ?_
 refine L14 _ _ _ _ _ rfl ⟨by omega, by omega, by omega, by omega, ?_, ?_⟩
 rw [show i + 1 - i - 1 = 0 from by omega]; omega
 rw [show i + 4 - (i + 1) = 4 - 1 from by omega]
 exact Qc1 (by omega) (show VA (bat s i) = (bat s i - 240, 4, 65536) from pm4 (by omega)) (by decide) (by omega)
 simp -failIfUnchanged [-List.getD_eq_getElem?_getD] at h4
 refine ⟨fun g0 => (by cases g0), ?_⟩
 have e : Qk s i = (0, 0) := by
  unfold Qk
  rw [if_neg (by omega), show VA (bat s i) = (0, 0, 0) from by unfold VA; rw [if_neg (by omega), if_neg (by omega), if_neg (by omega)], if_pos (by left; rfl)]
 rw [e] at hk
 exact hk
 cases e
end
section
open Go Go.RowKit
set_option maxRecDepth 20000
theorem Qmt (s : Bs) (i : Nat) (h : i < s.length) : i + (Qk s i).2 <= s.length := by
 unfold Qk
 split
 show i + 1 <= _; omega
 split
 exact Nat.le_of_lt h
 rename_i h2
 split
 exact Nat.le_of_lt h
 split
 exact Nat.le_of_lt h
 show i + (VA (bat s i)).2.1 <= _; omega
theorem QhB (s : Bs) (i j : Nat) (h : i <= j) (hj : j < s.length) : (s.take (j + 1)).drop i = (s.take j).drop i ++ [s.getD j 0] := by
 rw [List.take_add_one, List.drop_append_of_le_length (by simp; omega)]
 simp [List.getD_eq_getElem?_getD, List.getElem?_eq_getElem hj]
theorem Qps (s : Bs) (i : Nat) : (s.take i).drop i = [] := by
 rw [List.drop_eq_nil_iff]; simp; omega
theorem cut1 {s : Bs} {i : Nat} (h : i < s.length) : (s.take (i + 1)).drop i = [s.getD i 0] := by
 rw [QhB s i i (Nat.le_refl _) h, Qps]; rfl
theorem Qn9 (n : Int) : (YZ n).length <= 4 := by
 unfold YZ Utf8.encode
 simp only
 repeat' split
 all_goals simp
theorem Qhp (l : Bs) (c : UInt8) : VD (l ++ [c]) = 16 * VD l + Yv c.toNat := by simp [VD]
theorem Qhq {c : Nat} (h : Q2 c = true) : Yv c < 16 := by
 simp [Q2] at h
 unfold Yv
 repeat' split
 all_goals omega
theorem bat_out {s : Bs} {i : Nat} (h : s.length <= i) : bat s i = 0 := by
 unfold bat
 simp [List.getD_eq_getElem?_getD, List.getElem?_eq_none h]
def c22 (svs : List SV) (b : Option SB) : QR := match svs, b with
 | [.str s], none => some ([s.length <= 1000000], .bool (QG s 0))
 | _, _ => none
noncomputable def W22 : Wk := ⟨[(41, .pure c41)], Qm Tryz.f22, false, false, [.tmp 2], [4], [(2, 9)], []⟩
theorem has22 : Has 22 := hsf Tryz.f22
theorem kez0 {p q : Prop} (k : q) (h : p := by first | omega | (have := hpt (by omega); omega) | (simp; omega)) : p /\ q := ⟨h, k⟩
theorem sat22 : Sat 22 (QC c22) := by
 have hD : Qe W22.D := (Qe.cons Qni Ql8 Qe.nil)
 refine W22.sat hD (fn := Tryz.f22) (by kernel_rfl) (by kernel_rfl) (by kernel_rfl) (by decide) fun svs b K hP => ?_
 obtain ⟨ps, v, e, hp, hk⟩ := Qo hP
 unfold c22 at e
 split at e
 rename_i s
 cases e
 obtain ⟨h01, _⟩ := hp
 have L2 : ∀ (mm : Nat) (i : Nat), s.length - i = mm -> i <= s.length /\ QG s i = QG s 0 -> W22.L K 2 (mkS 29 [(0, (.str s)), (3, (.nat i))] [] 1) := by
  intro mm
  induction mm using Nat.strongRecOn with
  | _ mm ih =>
   intro i hm hI
   have hpt := fun h => Qmt s i h
   refine W22.aL hD (cond (decide (i < s.length)) ((s.length <= 1000000) /\ (i < s.length) /\ cond (((decide ((Qk s i).2 = 0)) || (decide ((Qk s i).1 = 0))) || (decide ((Qk s i).1 = 65279))) (K (.val (.bool false)) none) ((i + (Qk s i).2 <= 9223372036854775807) /\ (W22).L K 2 (mkS 29 [(0, (.str s)), (3, (.nat (i + (Qk s i).2)))] [] 1))) (K (.val (.bool true)) none)) ?_
   refine Qd ?_ ?_ <;> intro h1 <;> simp -failIfUnchanged [-List.getD_eq_getElem?_getD] at h1
   refine kez0 (kez0 ?_)
   refine Qd ?_ ?_ <;> intro h2 <;> simp -failIfUnchanged [-List.getD_eq_getElem?_getD] at h2
   have e : QG s i = false := by unfold QG; rw [if_pos (by omega), dif_pos (by omega)]
   rw [<- hI.2, e] at hk
   exact hk
   refine kez0 ?_
   have e : QG s i = QG s (i + (Qk s i).2) := by
    conv => lhs; unfold QG
    rw [if_pos (by omega), dif_neg (by omega)]
   have := hpt (by omega)
   exact ih _ (by omega) _ rfl ⟨by omega, by rw [<- e]; exact hI.2⟩
   have e : QG s i = true := by unfold QG; rw [if_neg (by omega)]
   rw [<- hI.2, e] at hk
   exact hk
 refine W22.en ((W22).L K 2 (mkS 29 [(0, (.str s)), (3, (.nat 0))] [] 1)) ?_
 exact L2 _ _ rfl ⟨by omega, rfl⟩
 cases e
end
end Go.Proofs.YtengepcafdnalaaGreatDoor
