/-
  Parts of the proof that the law FnParseOtherwise holds for every input (texts Lh, Li). Conditions: none.
-/
import Derived.Test.YtengepcafdnalaaGreatDoorM28
namespace Go.Proofs.YtengepcafdnalaaGreatDoor
section
open Go Go.RowKit
set_option maxRecDepth 20000
section
variable {s : Bs} {p : Bool}
theorem Qjy {v : List CSel × Nat} (h : QD s p (1001 - 0) 0 = some v) (hj : ¬ v.2 < s.length) : Va s true p = some v.1 := by
 obtain ⟨l, j⟩ := v
 have h : QD s p 1001 0 = some (l, j) := h
 unfold Va; rw [if_pos rfl, h]; exact if_neg hj
theorem Qg2 {v : List CSel × Nat} (h : QD s p (1001 - 0) 0 = some v) (hj : v.2 < s.length) : Va s true p = none := by
 obtain ⟨l, j⟩ := v
 have h : QD s p 1001 0 = some (l, j) := h
 unfold Va; rw [if_pos rfl, h]; exact if_pos hj
theorem Qg3 (h : QD s p (1001 - 0) 0 = none) : Va s true p = none := by
 have h : QD s p 1001 0 = none := h
 unfold Va; rw [if_pos rfl, h]
theorem Qjx {v : CSel × Nat} (h : Zp (QD s p (1001 - 0)) s p 0 = some v) (hj : ¬ v.2 < s.length) : Va s false p = some [v.1] := by
 obtain ⟨l, j⟩ := v
 have h : Zp (QD s p 1001) s p 0 = some (l, j) := h
 unfold Va; rw [if_neg (by decide), h]; exact if_neg hj
theorem Qg0 {v : CSel × Nat} (h : Zp (QD s p (1001 - 0)) s p 0 = some v) (hj : v.2 < s.length) : Va s false p = none := by
 obtain ⟨l, j⟩ := v
 have h : Zp (QD s p 1001) s p 0 = some (l, j) := h
 unfold Va; rw [if_neg (by decide), h]; exact if_pos hj
theorem Qg1 (h : Zp (QD s p (1001 - 0)) s p 0 = none) : Va s false p = none := by
 have h : Zp (QD s p 1001) s p 0 = none := h
 unfold Va; rw [if_neg (by decide), h]
end
def c44 (svs : List SV) (b : Option SB) (K : Out -> Option SB -> Prop) : Prop := match svs, b with
 | [.str s], none => s.length <= 1000000 /\ Qx (Va s true false) (fun v => K (.val (.tup [.sl (.csels v), .nilif])) none) (K (.val (.tup [.sl (.csels []), .ifx])) none)
 | _, _ => False
noncomputable def W44 : Wk := ⟨[(70, .plain (c70 1002)), (71, .pure c71)], Qm Tryz.f44, false, false, [.tmp 2, .tmp 3], [50, 71], [], []⟩
theorem has44 : Has 44 := hsf Tryz.f44
theorem JR {p q : Prop} (k : q) (h : p := by first | omega | (simp; done) | (simp; omega) | (simp; assumption)) : p /\ q := ⟨h, k⟩
theorem sat44 : Sat 44 c44 := by
 have hD : Qe W44.D := (Qe.cons Qnh (QgM 1002) (Qe.cons Zt Zr Qe.nil))
 refine W44.sa hD Tryz.f44 fun svs b K hP => ?_
 unfold c44 at hP
 split at hP
 rename_i s
 obtain ⟨h01, hk⟩ := hP
 refine W44.en ((s.length <= 1000000) /\ (0 <= s.length) /\ (0 <= 1001) /\ (1002 <= 0 + 1002) /\ Qx ((QD s false (1001 - 0)) 0) (fun v1 => (0 < v1.2 /\ v1.2 <= s.length) -> cond (decide (v1.2 < s.length)) (K (.val (.tup [(.sl (.csels [])), .ifx])) none) (K (.val (.tup [(.sl (.csels v1.1)), .nilif])) none)) (∀ j2 : Nat, K (.val (.tup [(.sl (.csels [])), .ifx])) none)) ?_
 refine JR (JR (JR (JR ?_)))
 refine QJ (fun v1 h1 => ?_) (fun h1 => ?_)
 intro h2
 simp -failIfUnchanged [-List.getD_eq_getElem?_getD, -UInt8.toNat_or] at h2
 refine Qd ?_ ?_ <;> intro h3 <;> simp -failIfUnchanged [-List.getD_eq_getElem?_getD, -UInt8.toNat_or] at h3
 exact Qa hk (Qg2 h1 h3)
 have q := Qi hk (Qjy h1 (by omega))
 exact q
 intro j2
 exact Qa hk (Qg3 h1)
 exact hP.elim
def c45 (svs : List SV) (b : Option SB) (K : Out -> Option SB -> Prop) : Prop := match svs, b with
 | [.str s], none => s.length <= 1000000 /\ Qx (Va s true true) (fun v => K (.val (.tup [.sl (.csels v), .nilif])) none) (K (.val (.tup [.sl (.csels []), .ifx])) none)
 | _, _ => False
noncomputable def W45 : Wk := ⟨[(70, .plain (c70 1002)), (71, .pure c71)], Qm Tryz.f45, false, false, [.tmp 2, .tmp 3], [50, 71], [], []⟩
theorem has45 : Has 45 := hsf Tryz.f45
theorem sat45 : Sat 45 c45 := by
 have hD : Qe W45.D := (Qe.cons Qnh (QgM 1002) (Qe.cons Zt Zr Qe.nil))
 refine W45.sa hD Tryz.f45 fun svs b K hP => ?_
 unfold c45 at hP
 split at hP
 rename_i s
 obtain ⟨h01, hk⟩ := hP
 refine W45.en ((s.length <= 1000000) /\ (0 <= s.length) /\ (0 <= 1001) /\ (1002 <= 0 + 1002) /\ Qx ((QD s true (1001 - 0)) 0) (fun v1 => (0 < v1.2 /\ v1.2 <= s.length) -> cond (decide (v1.2 < s.length)) (K (.val (.tup [(.sl (.csels [])), .ifx])) none) (K (.val (.tup [(.sl (.csels v1.1)), .nilif])) none)) (∀ j2 : Nat, K (.val (.tup [(.sl (.csels [])), .ifx])) none)) ?_
 refine JR (JR (JR (JR ?_)))
 refine QJ (fun v1 h1 => ?_) (fun h1 => ?_)
 intro h2
 simp -failIfUnchanged [-List.getD_eq_getElem?_getD, -UInt8.toNat_or] at h2
 refine Qd ?_ ?_ <;> intro h3 <;> simp -failIfUnchanged [-List.getD_eq_getElem?_getD, -UInt8.toNat_or] at h3
 exact Qa hk (Qg2 h1 h3)
 have q := Qi hk (Qjy h1 (by omega))
 exact q
 intro j2
 exact Qa hk (Qg3 h1)
 exact hP.elim
def c46 (svs : List SV) (b : Option SB) (K : Out -> Option SB -> Prop) : Prop := match svs, b with
 | [.str s], none => s.length <= 1000000 /\ Qx (Va s false false) (fun v => K (.val (.tup [.cs (v.headD default), .nilif])) none) (K (.val (.tup [.nilif, .ifx])) none)
 | _, _ => False
noncomputable def W46 : Wk := ⟨[(71, .pure c71), (72, .plain (c72 1002))], Qm Tryz.f46, false, false, [.tmp 2, .tmp 3], [56, 71], [], []⟩
theorem has46 : Has 46 := hsf Tryz.f46
theorem sat46 : Sat 46 c46 := by
 have hD : Qe W46.D := (Qe.cons Zt Zr (Qe.cons Qhs (QgL 1002 (QgM 1002)) Qe.nil))
 refine W46.sa hD Tryz.f46 fun svs b K hP => ?_
 unfold c46 at hP
 split at hP
 rename_i s
 obtain ⟨h01, hk⟩ := hP
 refine W46.en ((s.length <= 1000000) /\ (0 <= s.length) /\ (0 <= 1001) /\ (1002 <= 0 + 1002) /\ Qx (Zp (QD s false (1001 - 0)) s false 0) (fun v1 => (0 < v1.2 /\ v1.2 <= s.length) -> cond (decide (v1.2 < s.length)) (K (.val (.tup [.nilif, .ifx])) none) (K (.val (.tup [(.cs v1.1), .nilif])) none)) (∀ j2 : Nat, K (.val (.tup [.nilif, .ifx])) none)) ?_
 refine JR (JR (JR (JR ?_)))
 refine QJ (fun v1 h1 => ?_) (fun h1 => ?_)
 intro h2
 simp -failIfUnchanged [-List.getD_eq_getElem?_getD, -UInt8.toNat_or] at h2
 refine Qd ?_ ?_ <;> intro h3 <;> simp -failIfUnchanged [-List.getD_eq_getElem?_getD, -UInt8.toNat_or] at h3
 exact Qa hk (Qg0 h1 h3)
 have q := Qi hk (Qjx h1 (by omega))
 exact q
 intro j2
 exact Qa hk (Qg1 h1)
 exact hP.elim
def c47 (svs : List SV) (b : Option SB) (K : Out -> Option SB -> Prop) : Prop := match svs, b with
 | [.str s], none => s.length <= 1000000 /\ Qx (Va s false true) (fun v => K (.val (.tup [.cs (v.headD default), .nilif])) none) (K (.val (.tup [.nilif, .ifx])) none)
 | _, _ => False
noncomputable def W47 : Wk := ⟨[(71, .pure c71), (72, .plain (c72 1002))], Qm Tryz.f47, false, false, [.tmp 2, .tmp 3], [56, 71], [], []⟩
theorem has47 : Has 47 := hsf Tryz.f47
theorem sat47 : Sat 47 c47 := by
 have hD : Qe W47.D := (Qe.cons Zt Zr (Qe.cons Qhs (QgL 1002 (QgM 1002)) Qe.nil))
 refine W47.sa hD Tryz.f47 fun svs b K hP => ?_
 unfold c47 at hP
 split at hP
 rename_i s
 obtain ⟨h01, hk⟩ := hP
 refine W47.en ((s.length <= 1000000) /\ (0 <= s.length) /\ (0 <= 1001) /\ (1002 <= 0 + 1002) /\ Qx (Zp (QD s true (1001 - 0)) s true 0) (fun v1 => (0 < v1.2 /\ v1.2 <= s.length) -> cond (decide (v1.2 < s.length)) (K (.val (.tup [.nilif, .ifx])) none) (K (.val (.tup [(.cs v1.1), .nilif])) none)) (∀ j2 : Nat, K (.val (.tup [.nilif, .ifx])) none)) ?_
 refine JR (JR (JR (JR ?_)))
 refine QJ (fun v1 h1 => ?_) (fun h1 => ?_)
 intro h2
 simp -failIfUnchanged [-List.getD_eq_getElem?_getD, -UInt8.toNat_or] at h2
 refine Qd ?_ ?_ <;> intro h3 <;> simp -failIfUnchanged [-List.getD_eq_getElem?_getD, -UInt8.toNat_or] at h3
 exact Qa hk (Qg0 h1 h3)
 have q := Qi hk (Qjx h1 (by omega))
 exact q
 intro j2
 exact Qa hk (Qg1 h1)
 exact hP.elim
def c25 (svs : List SV) (b : Option SB) (K : Out -> Option SB -> Prop) : Prop := match svs, b with
 | [.str s, .bool m, .bool p], none => s.length <= 1000000 /\ cond m (Qx (Va s true p) (fun v => K (.val (.tup [.sl (.csels v), .bool true])) none) (K (.val (.tup [.sl (.csels []), .bool false])) none))
  (Qx (Va s false p) (fun v => K (.val (.tup [.sl (.csels [v.headD default]), .bool true])) none) (K (.val (.tup [.undef, .bool false])) none))
 | _, _ => False
noncomputable def W25 : Wk := ⟨[(44, .plain c44), (45, .plain c45), (46, .plain c46), (47, .plain c47)], Qm Tryz.f25, false, false, [.tmp 6, .tmp 7], [50, 4], [], []⟩
theorem has25 : Has 25 := hsf Tryz.f25
theorem sat25 : Sat 25 c25 := by
 have hD : Qe W25.D := (Qe.cons has44 sat44 (Qe.cons has45 sat45 (Qe.cons has46 sat46 (Qe.cons has47 sat47 Qe.nil))))
 refine W25.sa hD Tryz.f25 fun svs b K hP => ?_
 unfold c25 at hP
 split at hP
 rename_i s m p
 obtain ⟨h01, hk⟩ := hP
 refine W25.en (have a0 := s.length <= 1000000; have a1 : Out := .val (.tup [(.sl (.csels [])), (.bool false)]); cond m (cond p (a0 /\ Qx (Va s true true) (fun v1 => K (.val (.tup [(.sl (.csels v1)), (.bool true)])) none) (K a1 none)) (a0 /\ Qx (Va s true false) (fun v2 => K (.val (.tup [(.sl (.csels v2)), (.bool true)])) none) (K a1 none))) (cond p (a0 /\ Qx (Va s false true) (fun v3 => K (.val (.tup [(.sl (.csels [v3.headD default])), (.bool true)])) none) (K (.val (.tup [.undef, (.bool false)])) none)) (a0 /\ Qx (Va s false false) (fun v4 => K (.val (.tup [(.sl (.csels [v4.headD default])), (.bool true)])) none) (K (.val (.tup [.undef, (.bool false)])) none)))) ?_
 refine Qd ?_ ?_ <;> intro h1 <;> simp -failIfUnchanged [-List.getD_eq_getElem?_getD, -UInt8.toNat_or] at h1
 refine Qd (fun h2 => ?_) (fun h2 => ?_)
 simp -failIfUnchanged [-List.getD_eq_getElem?_getD, -UInt8.toNat_or] at h2
 refine JR ?_
 refine QJ (fun v1 h3 => ?_) (fun h3 => ?_)
 subst h1
 subst h2
 rw [cond_true] at hk
 have q := Qi hk h3
 exact q
 subst h1
 subst h2
 rw [cond_true] at hk
 have q := Qa hk h3
 exact q
 simp -failIfUnchanged [-List.getD_eq_getElem?_getD, -UInt8.toNat_or] at h2
 refine JR ?_
 refine QJ (fun v2 h3 => ?_) (fun h3 => ?_)
 subst h1
 subst h2
 rw [cond_true] at hk
 have q := Qi hk h3
 exact q
 subst h1
 subst h2
 rw [cond_true] at hk
 have q := Qa hk h3
 exact q
 refine Qd (fun h2 => ?_) (fun h2 => ?_)
 simp -failIfUnchanged [-List.getD_eq_getElem?_getD, -UInt8.toNat_or] at h2
 refine JR ?_
 refine QJ (fun v3 h3 => ?_) (fun h3 => ?_)
 subst h1
 subst h2
 rw [cond_false] at hk
 have q := Qi hk h3
 exact q
 subst h1
 subst h2
 rw [cond_false] at hk
 have q := Qa hk h3
 exact q
 simp -failIfUnchanged [-List.getD_eq_getElem?_getD, -UInt8.toNat_or] at h2
 refine JR ?_
 refine QJ (fun v4 h3 => ?_) (fun h3 => ?_)
 subst h1
 subst h2
 rw [cond_false] at hk
 have q := Qi hk h3
 exact q
 subst h1
 subst h2
 rw [cond_false] at hk
 have q := Qa hk h3
 exact q
 exact hP.elim
end
section
open Go Go.RowKit
set_option maxRecDepth 20000
def Zq (l : List Bs) (x : Bs) : Nat := if l.idxOf x < l.length then l.idxOf x + 1 else 0
theorem QcP (l : List Bs) (x : Bs) : Zc l x = (Zq l x : Int) := by unfold Zc Zq; split <;> simp
def Qbl (l t : Bool) : Nat := (if l = true then 1 else 0) + (if t = true then 2 else 0)
theorem QkF {l : List Bs} {x : Bs} {i : Nat} (h1 : i < l.length) (h2 : l.getD i [] = x) (h3 : ∀ j, j < i -> ¬ l.getD j [] = x) : Zq l x = i + 1 := by
 have e : l.idxOf x = i := by
  induction l generalizing i with
  | nil => simp at h1
  | cons y l ih =>
   by_cases hy : y = x
   subst hy
   rcases i with _ | i
   simp
   exact absurd rfl (h3 0 (by omega))
   rcases i with _ | i
   exact absurd h2 hy
   have := ih (i := i) (by simpa using h1) (by simpa using h2) (fun j hj => by simpa using h3 (j + 1) (by omega))
   rw [List.idxOf_cons, beq_false_of_ne hy]
   simp [this]
 unfold Zq; rw [e, if_pos h1]
theorem QlP {l : List Bs} {x : Bs} (h3 : ∀ j, j < l.length -> ¬ l.getD j [] = x) : Zq l x = 0 := by
 unfold Zq; rw [if_neg]
 intro h
 refine h3 _ h ?_
 rw [List.getD_eq_getElem?_getD, List.getElem?_eq_getElem h]
 simp
def c73 (svs : List SV) (b : Option SB) : QR := match svs, b with
 | [.sl (.strs l), .str x], none => some ([l.length <= 1000000], .nat (Zq l x))
 | _, _ => none
noncomputable def W73 : Wk := ⟨[], Qm Tryz.f73, false, false, [.tmp 4], [3], [(2, 387)], []⟩
theorem has73 : Has 73 := hsf Tryz.f73
theorem QfH {p q : Prop} (k : q) (h : p := by first | omega | (simp; done) | (simp; omega) | (simp; assumption)) : p /\ q := ⟨h, k⟩
theorem sat73 : Sat 73 (QC c73) := by
 have hD : Qe W73.D := Qe.nil
 refine W73.sa hD Tryz.f73 fun svs b K hP => ?_
 obtain ⟨ps, v, e, hp, hk⟩ := Qo hP
 unfold c73 at e
 split at e
 rename_i l x
 cases e
 obtain ⟨h01, _⟩ := hp
 have L2 : ∀ (mm : Nat) (i : Nat), l.length - i = mm -> (i <= l.length /\ ∀ j, j < i -> ¬ l.getD j [] = x) -> W73.L K 2 (mkS 20 [(0, (.sl (.strs l))), (1, (.str x)), (7, (.nat l.length)), (8, (.nat i))] [] 1) := by
  intro mm
  induction mm using Nat.strongRecOn with
  | _ mm ih =>
   intro i hm hI
   obtain ⟨k1, k2⟩ := hI
   refine W73.aL hD (cond (decide (i < l.length)) ((i < l.length) /\ cond (decide (l.getD i [] = x)) ((i + 1 <= 9223372036854775807) /\ K (.val (.nat (i + 1))) none) ((i + 1 <= 9223372036854775807) /\ (W73).L K 2 (mkS 20 [(0, (.sl (.strs l))), (1, (.str x)), (7, (.nat l.length)), (8, (.nat (i + 1)))] [] 1))) (K (.val (.nat 0)) none)) ?_
   refine Qd ?_ ?_ <;> intro h1 <;> simp -failIfUnchanged [-List.getD_eq_getElem?_getD, -UInt8.toNat_or] at h1
   refine QfH ?_
   refine Qd ?_ ?_ <;> intro h2 <;> simp -failIfUnchanged [-List.getD_eq_getElem?_getD, -UInt8.toNat_or] at h2
   refine QfH ?_
   rw [QkF h1 h2 k2] at hk
   exact hk
   refine QfH ?_
   exact ih _ (by omega) _ rfl ⟨by omega, fun j hj => by
    rcases (by omega : j < i \/ j = i) with q | q
    exact k2 j q
    subst q; exact h2⟩
   rw [QlP (fun j hj => k2 j (by omega))] at hk
   exact hk
 refine W73.en ((W73).L K 2 (mkS 20 [(0, (.sl (.strs l))), (1, (.str x)), (7, (.nat l.length)), (8, (.nat 0))] [] 1)) ?_
 exact L2 _ _ rfl ⟨by omega, fun j hj => by omega⟩
 cases e
def c74 (svs : List SV) (b : Option SB) : QR := match svs, b with
 | [], none => some ([], .sl (.strs [[], [61], [33, 61], [126, 61], [124, 61], [94, 61], [36, 61], [42, 61]]))
 | _, _ => none
noncomputable def W74 : Wk := ⟨[], Qm Tryz.f74, false, false, [.tmp 0], [83], [], []⟩
theorem has74 : Has 74 := hsf Tryz.f74
theorem sat74 : Sat 74 (QC c74) := by
 have hD : Qe W74.D := Qe.nil
 refine W74.sa hD Tryz.f74 fun svs b K hP => ?_
 obtain ⟨ps, v, e, hp, hk⟩ := Qo hP
 unfold c74 at e
 split at e
 cases e
 refine W74.en (K (.val (.sl (.strs [[], [61], [33, 61], [126, 61], [124, 61], [94, 61], [36, 61], [42, 61]]))) none) ?_
 exact hk
 cases e
def c76 (svs : List SV) (b : Option SB) : QR := match svs, b with
 | [], none => some ([], .sl (.strs [[32], [62], [43], [126]]))
 | _, _ => none
noncomputable def W76 : Wk := ⟨[], Qm Tryz.f76, false, false, [.tmp 0], [83], [], []⟩
theorem has76 : Has 76 := hsf Tryz.f76
theorem sat76 : Sat 76 (QC c76) := by
 have hD : Qe W76.D := Qe.nil
 refine W76.sa hD Tryz.f76 fun svs b K hP => ?_
 obtain ⟨ps, v, e, hp, hk⟩ := Qo hP
 unfold c76 at e
 split at e
 cases e
 refine W76.en (K (.val (.sl (.strs [[32], [62], [43], [126]]))) none) ?_
 exact hk
 cases e
def c75 (svs : List SV) (b : Option SB) : QR := match svs, b with
 | [.bool l, .bool t], none => some ([], .nat (Qbl l t))
 | _, _ => none
noncomputable def W75 : Wk := ⟨[], Qm Tryz.f75, false, false, [.tmp 4], [3], [], []⟩
theorem has75 : Has 75 := hsf Tryz.f75
theorem sat75 : Sat 75 (QC c75) := by
 have hD : Qe W75.D := Qe.nil
 refine W75.sa hD Tryz.f75 fun svs b K hP => ?_
 obtain ⟨ps, v, e, hp, hk⟩ := Qo hP
 unfold c75 at e
 split at e
 rename_i l t
 cases e
 refine W75.en (cond l ((1 <= 9223372036854775807) /\ cond t ((3 <= 9223372036854775807) /\ K (.val (.nat 3)) none) (K (.val (.nat 1)) none)) (cond t ((2 <= 9223372036854775807) /\ K (.val (.nat 2)) none) (K (.val (.nat 0)) none))) ?_
 refine Qd ?_ ?_ <;> intro h1 <;> simp -failIfUnchanged [-List.getD_eq_getElem?_getD, -UInt8.toNat_or] at h1
 refine QfH ?_
 refine Qd ?_ ?_ <;> intro h2 <;> simp -failIfUnchanged [-List.getD_eq_getElem?_getD, -UInt8.toNat_or] at h2
 refine QfH ?_
 subst h1
 subst h2
 exact hk
 subst h1
 subst h2
 exact hk
 refine Qd (fun h2 => ?_) (fun h2 => ?_)
 simp -failIfUnchanged [-List.getD_eq_getElem?_getD, -UInt8.toNat_or] at h2
 refine QfH ?_
 subst h1
 subst h2
 exact hk
 simp -failIfUnchanged [-List.getD_eq_getElem?_getD, -UInt8.toNat_or] at h2
 subst h1
 subst h2
 exact hk
 cases e
def Qbr (l : List SelD) (i : Nat) : List SelD := l.set i { (l.getD i default) with size := ((l.length - i : Nat) : Int) }
theorem QK {cs cs' : List SV} (h : wkL cs cs') (ω : Wit) (v : Value) (hr : Rel ω (.agg cs) v) : Rel ω (.agg cs') v := by
 obtain ⟨h1, h2⟩ := QhU h
 cases hr with
 | agg _ vs hn hh =>
  refine .agg _ vs (by omega) fun i s u e1 e2 => ?_
  obtain ⟨t, e3, h3⟩ := h2 i s e1
  exact h3 ω u (hh i t u e3 e2)
def Cv (s s' : SV) : Prop := ∀ ω v, Rel ω s v -> Rel ω s' v
def c48 (svs : List SV) (b : Option SB) (K : Out -> Option SB -> Prop) : Prop := match svs, b with
 | [.own 0, .nat i], some (.row (.sels l) true) => l.length <= 1000000000 /\ i < l.length /\ ∀ b' : Option SB, K (.row (.sels (Qbr l i))) b'
 | _, _ => False
noncomputable def W48 : Wk := ⟨[], Qm Tryz.f48, true, true, [.tmp 4], [22], [], []⟩
theorem Qqm : Has 48 := hsf Tryz.f48
theorem QpT : Sat 48 c48 := by
 have hD : Qe W48.D := Qe.nil
 refine W48.sa hD Tryz.f48 fun svs b K hP => ?_
 unfold c48 at hP
 split at hP
 rename_i i l
 obtain ⟨h01, h02, hk⟩ := hP
 refine W48.en (have a0 : RV := .sels (l.set i { l.getD i default with size := ((l.length - i : Nat) : Int) }); (i <= l.length /\ l.length <= 9223372036854775807) /\ (i < l.length) /\ (i < l.length) /\ K (.row a0) (some (.row a0 true))) ?_
 refine QfH (QfH (QfH ?_))
 exact hk _
 exact hP.elim
end
end Go.Proofs.YtengepcafdnalaaGreatDoor
