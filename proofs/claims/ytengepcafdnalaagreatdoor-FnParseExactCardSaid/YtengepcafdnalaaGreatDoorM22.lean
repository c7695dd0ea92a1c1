/-
  Parts of the proof that the law FnParseExact holds for every input (texts Kb). Conditions: none.
-/
import Derived.Test.YtengepcafdnalaaGreatDoorM21
namespace Go.Proofs.YtengepcafdnalaaGreatDoor
section
open Go Go.RowKit
set_option maxRecDepth 20000
def c71 (svs : List SV) (b : Option SB) : QR := match svs, b with
 | [.str _], none => some ([], .ifx)
 | _, _ => none
noncomputable def W71 : Wk := ⟨[], bodyOf Tryz.f71, false, false, [.tmp 2], [71], [], []⟩
theorem has71 : Has 71 := Has.of (fn := Tryz.f71) (by kernel_rfl) (by kernel_rfl) (by kernel_rfl)
theorem sat71 : Sat 71 (pureS c71) := by
 have hD : CxOk W71.D := CxOk.nil
 refine W71.sat hD (fn := Tryz.f71) (by kernel_rfl) (by kernel_rfl) (by kernel_rfl) (by decide) fun svs b K hP => ?_
 obtain ⟨ps, v, e, hp, hk⟩ := pureS_inv hP
 unfold c71 at e
 split at e
 · rename_i l
   cases e
   refine W71.entry rfl (X := K (.val .ifx) none) (by kernel_rfl) ?_
   exact hk
 cases e
def c128 (svs : List SV) (b : Option SB) : QR := match svs, b with
 | [.str s, .str p], none => some ([], .bool (decide (p.length ≤ s.length) && decide (s.take p.length = p)))
 | _, _ => none
noncomputable def W128 : Wk := ⟨[], bodyOf Tryz.f128, false, false, [.tmp 4], [4], [], []⟩
theorem has128 : Has 128 := Has.of (fn := Tryz.f128) (by kernel_rfl) (by kernel_rfl) (by kernel_rfl)
theorem kbz0 {c0 p0 q : Prop} (k : q) (h : c0 → p0 ∧ True := by intro g0; (try simp at g0); exact ⟨(by first | omega | (simp; done) | (simp; omega) | (simp; assumption)), trivial⟩) : (c0 → p0 ∧ True) ∧ q := ⟨h, k⟩
theorem sat128 : Sat 128 (pureS c128) := by
 have hD : CxOk W128.D := CxOk.nil
 refine W128.sat hD (fn := Tryz.f128) (by kernel_rfl) (by kernel_rfl) (by kernel_rfl) (by decide) fun svs b K hP => ?_
 obtain ⟨ps, v, e, hp, hk⟩ := pureS_inv hP
 unfold c128 at e
 split at e
 · rename_i s p
   cases e
   refine W128.entry rfl (X := ((decide (p.length ≤ s.length)) = true → (p.length ≤ s.length) ∧ True) ∧ K (.val (.bool ((decide (p.length ≤ s.length)) && (decide (s.take p.length = p))))) none) (by kernel_rfl) ?_
   refine kbz0 ?_
   exact hk
 cases e
def c113 (svs : List SV) (b : Option SB) : QR := match svs, b with
 | [.str s, .str p], none => some ([], .bool (decide (p.length ≤ s.length) && decide (s.take p.length = p)))
 | _, _ => none
noncomputable def W113 : Wk := ⟨[(128, .pure c128)], bodyOf Tryz.f113, false, false, [.tmp 4], [4], [], []⟩
theorem has113 : Has 113 := Has.of (fn := Tryz.f113) (by kernel_rfl) (by kernel_rfl) (by kernel_rfl)
theorem sat113 : Sat 113 (pureS c113) := by
 have hD : CxOk W113.D := (CxOk.cons has128 sat128 CxOk.nil)
 refine W113.sat hD (fn := Tryz.f113) (by kernel_rfl) (by kernel_rfl) (by kernel_rfl) (by decide) fun svs b K hP => ?_
 obtain ⟨ps, v, e, hp, hk⟩ := pureS_inv hP
 unfold c113 at e
 split at e
 · rename_i s p
   cases e
   refine W113.entry rfl (X := K (.val (.bool (decide (p.length ≤ s.length) && decide (s.take p.length = p)))) none) (by kernel_rfl) ?_
   exact hk
 cases e
def findS (s p : Bs) (i : Nat) : Option Nat :=
 if i + p.length ≤ s.length then
  if (s.take (i + p.length)).drop i = p then some i else findS s p (i + 1)
 else none
 termination_by s.length + 1 - i
def c114 : Spec := fun svs b K => match svs, b with
 | [.str s, .str p], none => (s.length ≤ 1000000 ∧ p.length ≤ 1000000) ∧ optK (findS s p 0) (fun j => j + p.length ≤ s.length → K (.val (.nat j)) none) (K (.val (.int .i64 (-1))) none)
 | _, _ => False
noncomputable def W114 : Wk := ⟨[], bodyOf Tryz.f114, false, false, [.tmp 4], [3], [(2, 35)], []⟩
theorem has114 : Has 114 := Has.of (fn := Tryz.f114) (by kernel_rfl) (by kernel_rfl) (by kernel_rfl)
theorem kbz1 {p q : Prop} (k : q) (h : p := by first | omega | (simp; done) | (simp; omega) | (simp; assumption)) : p ∧ q := ⟨h, k⟩
theorem sat114 : Sat 114 c114 := by
 have hD : CxOk W114.D := CxOk.nil
 refine W114.sat hD (fn := Tryz.f114) (by kernel_rfl) (by kernel_rfl) (by kernel_rfl) (by decide) fun svs b K hP => ?_
 unfold c114 at hP
 split at hP
 · rename_i s p
   obtain ⟨⟨h01, h02⟩, hk⟩ := hP
   have L2 : ∀ (mm : Nat) (i : Nat), s.length + 1 - i = mm → i ≤ s.length + 1 ∧ findS s p i = findS s p 0 → W114.L K 2 (mkS 25 [(0, (.str s)), (1, (.str p)), (5, (.nat i))] [] 1) := by
    intro mm
    induction mm using Nat.strongRecOn with
    | _ mm ih =>
     intro i hm hI
     refine W114.atL hD (X := (i + p.length ≤ 9223372036854775807) ∧ cond (decide (i + p.length ≤ s.length)) ((i + p.length ≤ 9223372036854775807) ∧ (i ≤ i + p.length ∧ i + p.length ≤ s.length) ∧ cond (decide ((s.take (i + p.length)).drop i = p)) (K (.val (.nat i)) none) ((i + 1 ≤ 9223372036854775807) ∧ (W114).L K 2 (mkS 25 [(0, (.str s)), (1, (.str p)), (5, (.nat (i + 1)))] [] 1))) (K (.val (.int .i64 (-1))) none)) (by kernel_rfl) ?_
     refine kbz1 ?_
     refine cndI ?_ ?_ <;> intro h1 <;> simp -failIfUnchanged [-List.getD_eq_getElem?_getD] at h1
     · refine kbz1 ?_
       refine kbz1 ?_
       refine cndI ?_ ?_ <;> intro h2 <;> simp -failIfUnchanged [-List.getD_eq_getElem?_getD] at h2
       · rw [← hI.2] at hk; unfold findS at hk; rw [if_pos (by omega), if_pos (by assumption)] at hk; exact hk (by omega)
       refine kbz1 ?_
       refine ih _ (by omega) _ rfl ⟨by omega, ?_⟩
       rw [← hI.2]
       conv => rhs; unfold findS
       rw [if_pos (by omega), if_neg (by assumption)]
     rw [← hI.2] at hk; unfold findS at hk; rw [if_neg (by omega)] at hk; exact hk
   refine W114.entry rfl (X := (W114).L K 2 (mkS 25 [(0, (.str s)), (1, (.str p)), (5, (.nat 0))] [] 1)) (by kernel_rfl) ?_
   exact L2 _ _ rfl ⟨by omega, rfl⟩
 exact hP.elim
theorem take2 (s : Bs) (i : Nat) (a b : UInt8) (h : i + 2 ≤ s.length) : (s.drop i).take 2 = [a, b] ↔ bat s i = a.toNat ∧ bat s (i + 1) = b.toNat := by
 have h1 : s.drop i = s[i] :: s[i + 1] :: s.drop (i + 2) := by
  rw [List.drop_eq_getElem_cons (by omega), List.drop_eq_getElem_cons (by omega)]
 rw [h1]
 simp only [List.take_succ_cons, List.take_zero, List.cons.injEq, and_true]
 unfold bat
 simp only [List.getD_eq_getElem?_getD, List.getElem?_eq_getElem (show i < s.length from by omega), List.getElem?_eq_getElem (show i + 1 < s.length from by omega), Option.getD_some]
 constructor
 · rintro ⟨rfl, rfl⟩; exact ⟨rfl, rfl⟩
 rintro ⟨h1, h2⟩; exact ⟨UInt8.toNat_inj.1 h1, UInt8.toNat_inj.1 h2⟩
theorem find_cmt (s : Bs) (k : Nat) : ∀ i, k + i ≤ s.length → findS (s.drop k) [42, 47] i = (cmtEnd s (k + i)).map fun j => j - 2 - k := by
 intro i
 fun_induction findS (s.drop k) [42, 47] i with
 | case1 i h1 h2 =>
  intro hi
  simp only [List.length_drop, List.length_cons, List.length_nil] at h1
  have h3 : (s.drop (k + i)).take 2 = [42, 47] := by
   rw [← h2]
   simp only [List.length_cons, List.length_nil, List.drop_take, List.drop_drop]
   congr 1
   omega
  have h4 := (take2 s (k + i) 42 47 (by omega)).1 h3
  unfold cmtEnd
  rw [if_pos (by omega), if_pos (by exact h4)]
  simp only [Option.map_some]
  congr 1
  omega
 | case2 i h1 h2 ih =>
  intro hi
  simp only [List.length_drop, List.length_cons, List.length_nil] at h1
  have h3 : ¬ (bat s (k + i) = 42 ∧ bat s (k + i + 1) = 47) := by
   intro h4
   apply h2
   have h5 := (take2 s (k + i) 42 47 (by omega)).2 h4
   simp only [List.length_cons, List.length_nil, List.drop_take, List.drop_drop]
   rw [show i + (0 + 1 + 1) - i = 2 from by omega]
   exact h5
  rw [ih (by omega)]
  conv => rhs; unfold cmtEnd
  rw [if_pos (by omega), if_neg h3]
  rfl
 | case3 i h1 =>
  intro hi
  simp only [List.length_drop, List.length_cons, List.length_nil] at h1
  unfold cmtEnd
  rw [if_neg (by omega)]
  rfl
theorem iWs_ws {s : Bs} {i : Nat} (h : i < s.length) (hw : isWs (bat s i) = true) : iWs s i = iWs s (i + 1) := by
 conv => lhs; unfold iWs
 rw [if_pos h, if_pos hw]
theorem iWs_cm {s : Bs} {i j : Nat} (h : i + 2 ≤ s.length ∧ bat s i = 47 ∧ bat s (i + 1) = 42) (hc : cmtEnd s (i + 2) = some j) : iWs s i = iWs s j := by
 conv => lhs; unfold iWs
 rw [if_pos (by omega), if_neg (by rw [h.2.1]; decide), if_pos h]
 split
 · rename_i e; rw [hc] at e; cases e; rfl
 rename_i e; rw [hc] at e; cases e
theorem iWs_st {s : Bs} {i : Nat} (h : i < s.length → isWs (bat s i) = false ∧ ((i + 2 ≤ s.length ∧ bat s i = 47 ∧ bat s (i + 1) = 42) → cmtEnd s (i + 2) = none)) : iWs s i = i := by
 unfold iWs
 split
 · rename_i h1
   obtain ⟨h2, h3⟩ := h h1
   rw [if_neg (by rw [h2]; simp)]
   split
   · rename_i h4
     split
     · rename_i e; rw [h3 h4] at e; cases e
     rfl
   rfl
 rfl
theorem find_c2 {s : Bs} {j y : Nat} (h : findS (s.drop (j + 2)) [42, 47] 0 = some y) (hl : j + 2 ≤ s.length) : cmtEnd s (j + 2) = some (j + (y + 4)) ∧ j + (y + 4) ≤ s.length := by
 have h1 := find_cmt s (j + 2) 0 (by omega)
 rw [h] at h1
 cases hc : cmtEnd s (j + 2) with
 | none => rw [show j + 2 + 0 = j + 2 from rfl, hc] at h1; cases h1
 | some e =>
  rw [show j + 2 + 0 = j + 2 from rfl, hc] at h1
  simp only [Option.map_some, Option.some.injEq] at h1
  have := cmtEnd_some _ _ hc
  exact ⟨by congr 1; omega, by omega⟩
theorem find_c0 {s : Bs} {j : Nat} (h : findS (s.drop (j + 2)) [42, 47] 0 = none) (hl : j + 2 ≤ s.length) : cmtEnd s (j + 2) = none := by
 have h1 := find_cmt s (j + 2) 0 (by omega)
 rw [h] at h1
 simpa using h1.symm
def c99 (svs : List SV) (b : Option SB) : FR := match svs, b with
 | [.ptr 0 0], some (.blk 94 [.str s, .nat i, .nat d, .bool a]) =>
  some ([s.length ≤ 1000000, i ≤ s.length], .val (.bool (decide (i < iWs s i))), some (.blk 94 [.str s, .nat (iWs s i), .nat d, .bool a]))
 | _, _ => none
noncomputable def W99 : Wk := ⟨[(113, .pure c113), (114, .plain c114)], bodyOf Tryz.f99, true, false, [.tmp 2], [4], [(2, 9)], []⟩
theorem has99 : Has 99 := Has.of (fn := Tryz.f99) (by kernel_rfl) (by kernel_rfl) (by kernel_rfl)
theorem kbz2 {p q : Prop} (k : q) (h : p := by first | omega | (simp; omega)) : p ∧ q := ⟨h, k⟩
theorem sat99 : Sat 99 (fnS c99) := by
 have hD : CxOk W99.D := (CxOk.cons has113 sat113 (CxOk.cons has114 sat114 CxOk.nil))
 refine W99.sat hD (fn := Tryz.f99) (by kernel_rfl) (by kernel_rfl) (by kernel_rfl) (by decide) fun svs b K hP => ?_
 obtain ⟨ps, o, b', e, hp, hk⟩ := fnS_inv hP
 unfold c99 at e
 split at e
 · rename_i s i d a
   cases e
   obtain ⟨h01, h02, _⟩ := hp
   have L2 : ∀ (mm : Nat) (j : Nat), s.length - j = mm → i ≤ j ∧ j ≤ s.length ∧ iWs s j = iWs s i → W99.L K 2 (mkS 63 [(0, (.ptr 0 0)), (3, (.nat j))] [(0, .blk 94 [(.str s), (.nat i), (.nat d), (.bool a)])] 1) := by
    intro mm
    induction mm using Nat.strongRecOn with
    | _ mm ih =>
     intro j hm hI
     refine W99.atL hD (X := have a0 := mkS 63 [(0, (.ptr 0 0)), (3, (.nat (j + 1)))] [(0, .blk 94 [(.str s), (.nat i), (.nat d), (.bool a)])] 1; have a1 : Option SB := some (.blk 94 [(.str s), (.nat j), (.nat d), (.bool a)]); have a2 : Option SB := some (.blk 94 [(.str s), (.nat i), (.nat d), (.bool a)]); have a3 := j + 1 ≤ 9223372036854775807; have a4 : Out := .val (.bool false); have a5 : Out := .val (.bool true); have a6 := decide (i < j); cond (decide (j < s.length)) ((j < s.length) ∧ cond (decide (bat s j = 32)) (a3 ∧ (W99).L K 2 a0) (cond (decide (bat s j = 9)) (a3 ∧ (W99).L K 2 a0) (cond (decide (bat s j = 13)) (a3 ∧ (W99).L K 2 a0) (cond (decide (bat s j = 10)) (a3 ∧ (W99).L K 2 a0) (cond (decide (bat s j = 12)) (a3 ∧ (W99).L K 2 a0) (cond (decide (bat s j = 47)) ((j ≤ s.length) ∧ cond (decide (2 ≤ (s.drop j).length) && decide ((s.drop j).take 2 = [47, 42])) ((j + 2 ≤ 9223372036854775807) ∧ (j + 2 ≤ s.length) ∧ ((s.drop (j + 2)).length ≤ 1000000 ∧ 2 ≤ 1000000) ∧ optK (findS (s.drop (j + 2)) [42, 47] 0) (fun j1 => (j1 + 2 ≤ (s.drop (j + 2)).length) → cond (!(decide (((j1 : Nat) : Int) = (-1)))) ((j1 + 4 ≤ 9223372036854775807) ∧ (j + (j1 + 4) ≤ 9223372036854775807) ∧ (W99).L K 2 (mkS 63 [(0, (.ptr 0 0)), (3, (.nat (j + (j1 + 4))))] [(0, .blk 94 [(.str s), (.nat i), (.nat d), (.bool a)])] 1)) (cond a6 (K a5 a1) (K a4 a2))) (cond a6 (K a5 a1) (K a4 a2))) (cond a6 (K a5 a1) (K a4 a2))) (cond a6 (K a5 a1) (K a4 a2)))))))) (cond a6 (K a5 a1) (K a4 a2))) (by kernel_rfl) ?_
     refine cndI ?_ ?_ <;> intro h1 <;> simp -failIfUnchanged [-List.getD_eq_getElem?_getD] at h1
     · refine kbz2 ?_
       refine cndI ?_ ?_ <;> intro h2 <;> simp -failIfUnchanged [-List.getD_eq_getElem?_getD] at h2
       · refine kbz2 ?_
         refine ih _ (by omega) _ rfl ⟨by omega, by omega, ?_⟩
         exact (iWs_ws (by omega) (by simp [isWs, *])).symm.trans hI.2.2
       refine cndI (fun h3 => ?_) (fun h3 => ?_)
       · simp -failIfUnchanged [-List.getD_eq_getElem?_getD] at h3
         refine kbz2 ?_
         refine ih _ (by omega) _ rfl ⟨by omega, by omega, ?_⟩
         exact (iWs_ws (by omega) (by simp [isWs, *])).symm.trans hI.2.2
       simp -failIfUnchanged [-List.getD_eq_getElem?_getD] at h3
       refine cndI ?_ ?_ <;> intro h4 <;> simp -failIfUnchanged [-List.getD_eq_getElem?_getD] at h4
       · refine kbz2 ?_
         refine ih _ (by omega) _ rfl ⟨by omega, by omega, ?_⟩
         exact (iWs_ws (by omega) (by simp [isWs, *])).symm.trans hI.2.2
       refine cndI (fun h5 => ?_) (fun h5 => ?_)
       · simp -failIfUnchanged [-List.getD_eq_getElem?_getD] at h5
         refine kbz2 ?_
         refine ih _ (by omega) _ rfl ⟨by omega, by omega, ?_⟩
         exact (iWs_ws (by omega) (by simp [isWs, *])).symm.trans hI.2.2
       simp -failIfUnchanged [-List.getD_eq_getElem?_getD] at h5
       refine cndI ?_ ?_ <;> intro h6 <;> simp -failIfUnchanged [-List.getD_eq_getElem?_getD] at h6
       · refine kbz2 ?_
         refine ih _ (by omega) _ rfl ⟨by omega, by omega, ?_⟩
         exact (iWs_ws (by omega) (by simp [isWs, *])).symm.trans hI.2.2
       refine cndI (fun h7 => ?_) (fun h7 => ?_)
       · simp -failIfUnchanged [-List.getD_eq_getElem?_getD] at h7
         refine kbz2 ?_
         refine cndI ?_ ?_ <;> intro h8 <;> simp -failIfUnchanged [-List.getD_eq_getElem?_getD] at h8
         · refine kbz2 ?_
           refine kbz2 ?_
           refine kbz2 ?_
           refine optI (fun j1 h9 => ?_) (fun h9 => ?_)
           ·
            intro h10
            simp -failIfUnchanged [-List.getD_eq_getElem?_getD] at h10
            refine cndI (fun h11 => ?_) (fun h11 => ?_)
            · simp -failIfUnchanged [-List.getD_eq_getElem?_getD] at h11
              refine kbz2 ?_
              refine kbz2 ?_
              obtain ⟨q1, q2⟩ := find_c2 (by assumption) (by omega)
              refine ih _ (by omega) _ rfl ⟨by omega, by omega, ?_⟩
              exact (iWs_cm (by have q := (take2 s j 47 42 (by omega)).1 h8.2; exact ⟨by omega, q.1, q.2⟩) q1).symm.trans hI.2.2
            simp -failIfUnchanged [-List.getD_eq_getElem?_getD] at h11
           refine cndI ?_ ?_ <;> intro h10 <;> simp -failIfUnchanged [-List.getD_eq_getElem?_getD] at h10
           · have e : iWs s j = j := iWs_st fun q0 => by
              first
              | (exfalso; omega)
              | exact ⟨by simp [isWs, *], fun q => by
               have q2 := (take2 s j 47 42 q.1).2 ⟨q.2.1, q.2.2⟩
               first | exact find_c0 (by assumption) (by omega) | (exfalso; simp_all; omega) | simp_all⟩
             rw [← hI.2.2, e] at hk
             exact keq hk (by simp; omega) (by first | rfl | rw [show j = i from by omega])
           have e : iWs s j = j := iWs_st fun q0 => by
            first
            | (exfalso; omega)
            | exact ⟨by simp [isWs, *], fun q => by
             have q2 := (take2 s j 47 42 q.1).2 ⟨q.2.1, q.2.2⟩
             first | exact find_c0 (by assumption) (by omega) | (exfalso; simp_all; omega) | simp_all⟩
           rw [← hI.2.2, e] at hk
           exact keq hk (by simp; omega) (by first | rfl | rw [show j = i from by omega])
         refine cndI (fun h9 => ?_) (fun h9 => ?_)
         · simp -failIfUnchanged [-List.getD_eq_getElem?_getD] at h9
           have e : iWs s j = j := iWs_st fun q0 => by
            first
            | (exfalso; omega)
            | exact ⟨by simp [isWs, *], fun q => by
             have q2 := (take2 s j 47 42 q.1).2 ⟨q.2.1, q.2.2⟩
             first | exact find_c0 (by assumption) (by omega) | (exfalso; simp_all; omega) | simp_all⟩
           rw [← hI.2.2, e] at hk
           exact keq hk (by simp; omega) (by first | rfl | rw [show j = i from by omega])
         simp -failIfUnchanged [-List.getD_eq_getElem?_getD] at h9
         have e : iWs s j = j := iWs_st fun q0 => by
          first
          | (exfalso; omega)
          | exact ⟨by simp [isWs, *], fun q => by
           have q2 := (take2 s j 47 42 q.1).2 ⟨q.2.1, q.2.2⟩
           first | exact find_c0 (by assumption) (by omega) | (exfalso; simp_all; omega) | simp_all⟩
         rw [← hI.2.2, e] at hk
         exact keq hk (by simp; omega) (by first | rfl | rw [show j = i from by omega])
       simp -failIfUnchanged [-List.getD_eq_getElem?_getD] at h7
       refine cndI ?_ ?_ <;> intro h8 <;> simp -failIfUnchanged [-List.getD_eq_getElem?_getD] at h8
       · have e : iWs s j = j := iWs_st fun q0 => by
          first
          | (exfalso; omega)
          | exact ⟨by simp [isWs, *], fun q => by
           have q2 := (take2 s j 47 42 q.1).2 ⟨q.2.1, q.2.2⟩
           first | exact find_c0 (by assumption) (by omega) | (exfalso; simp_all; omega) | simp_all⟩
         rw [← hI.2.2, e] at hk
         exact keq hk (by simp; omega) (by first | rfl | rw [show j = i from by omega])
       have e : iWs s j = j := iWs_st fun q0 => by
        first
        | (exfalso; omega)
        | exact ⟨by simp [isWs, *], fun q => by
         have q2 := (take2 s j 47 42 q.1).2 ⟨q.2.1, q.2.2⟩
         first | exact find_c0 (by assumption) (by omega) | (exfalso; simp_all; omega) | simp_all⟩
       rw [← hI.2.2, e] at hk
       exact keq hk (by simp; omega) (by first | rfl | rw [show j = i from by omega])
     refine cndI (fun h2 => ?_) (fun h2 => ?_)
     · simp -failIfUnchanged [-List.getD_eq_getElem?_getD] at h2
       have e : iWs s j = j := iWs_st fun q0 => by
        first
        | (exfalso; omega)
        | exact ⟨by simp [isWs, *], fun q => by
         have q2 := (take2 s j 47 42 q.1).2 ⟨q.2.1, q.2.2⟩
         first | exact find_c0 (by assumption) (by omega) | (exfalso; simp_all; omega) | simp_all⟩
       rw [← hI.2.2, e] at hk
       exact keq hk (by simp; omega) (by first | rfl | rw [show j = i from by omega])
     simp -failIfUnchanged [-List.getD_eq_getElem?_getD] at h2
     have e : iWs s j = j := iWs_st fun q0 => by
      first
      | (exfalso; omega)
      | exact ⟨by simp [isWs, *], fun q => by
       have q2 := (take2 s j 47 42 q.1).2 ⟨q.2.1, q.2.2⟩
       first | exact find_c0 (by assumption) (by omega) | (exfalso; simp_all; omega) | simp_all⟩
     rw [← hI.2.2, e] at hk
     exact keq hk (by simp; omega) (by first | rfl | rw [show j = i from by omega])
   refine W99.entry rfl (X := (W99).L K 2 (mkS 63 [(0, (.ptr 0 0)), (3, (.nat i))] [(0, .blk 94 [(.str s), (.nat i), (.nat d), (.bool a)])] 1)) (by kernel_rfl) ?_
   exact L2 _ _ rfl ⟨by omega, by omega, rfl⟩
 cases e
end
end Go.Proofs.YtengepcafdnalaaGreatDoor
