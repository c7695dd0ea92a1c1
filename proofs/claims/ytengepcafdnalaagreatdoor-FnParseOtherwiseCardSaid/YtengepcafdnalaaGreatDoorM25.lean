/-
  Parts of the proof that the law FnParseOtherwise holds for every input (texts Lc). Conditions: none.
-/
import Derived.Test.YtengepcafdnalaaGreatDoorM24
namespace Go.Proofs.YtengepcafdnalaaGreatDoor
section
open Go Go.RowKit
set_option maxRecDepth 20000
def c115 (svs : List SV) (b : Option SB) (K : Out -> Option SB -> Prop) : Prop := match svs, b with
 | [.ptr 0 0], some (.blk 94 [.str s, .nat i, .nat d, .bool a]) => s.length <= 1000000 /\ i <= s.length /\ Qx (QL s i) (fun v => i < v.2 /\ v.2 <= s.length -> K (.val (.tup [.agg [.str (low v.1)], .nilif])) (some (.blk 94 [.str s, .nat v.2, .nat d, .bool a]))) (∀ j, K (.val (.tup [.agg [.str []], .ifx])) (some (.blk 94 [.str s, .nat j, .nat d, .bool a])))
 | _, _ => False
noncomputable def W115 : Wk := ⟨[(129, .plain c129), (130, .pure Qlp)], Qm Tryz.f115, true, false, [.cell 2 99, .tmp 3], [99, 71], [], []⟩
theorem Qsn : Has 115 := hsf Tryz.f115
theorem Qdf {p q : Prop} (k : q) (h : p := by first | omega | (simp; done) | (simp; omega) | (simp; assumption)) : p /\ q := ⟨h, k⟩
theorem Qrg : Sat 115 c115 := by
 have hD : Qe W115.D := (Qe.cons QfT Qfg (Qe.cons QfS Qff Qe.nil))
 refine W115.sa hD Tryz.f115 fun svs b K hP => ?_
 unfold c115 at hP
 split at hP
 rename_i s i d a
 obtain ⟨h01, h02, hk⟩ := hP
 refine W115.en ((s.length <= 1000000) /\ (i <= s.length) /\ Qx (QL s i) (fun v1 => (i < v1.2 /\ v1.2 <= s.length /\ v1.1.length <= 4 * (v1.2 - i)) -> (v1.1.length <= 1000000000) /\ K (.val (.tup [(.agg [(.str (low v1.1))]), .nilif])) (some (.blk 94 [(.str s), (.nat v1.2), (.nat d), (.bool a)]))) (∀ j2 : Nat, K (.val (.tup [(.agg [(.str [])]), .ifx])) (some (.blk 94 [(.str s), (.nat j2), (.nat d), (.bool a)])))) ?_
 refine Qdf (Qdf ?_)
 refine QJ (fun v1 h1 => ?_) (fun h1 => ?_)
 intro h2
 simp -failIfUnchanged [-List.getD_eq_getElem?_getD, -UInt8.toNat_or] at h2
 refine Qdf ?_
 have q := Qi hk h1 (by omega)
 exact q
 intro j2
 exact Qa hk h1 _
 exact hP.elim
def c116 (svs : List SV) (b : Option SB) (K : Out -> Option SB -> Prop) : Prop := match svs, b with
 | [.ptr 0 0], some (.blk 94 [.str s, .nat i, .nat d, .bool a]) => s.length <= 1000000 /\ i <= s.length /\ i < s.length /\ bat s i = 35 /\ Qx (V0 s (i + 1)) (fun v => i < v.2 /\ v.2 <= s.length -> K (.val (.tup [.agg [.str v.1], .nilif])) (some (.blk 94 [.str s, .nat v.2, .nat d, .bool a]))) (∀ j, K (.val (.tup [.agg [.str []], .ifx])) (some (.blk 94 [.str s, .nat j, .nat d, .bool a])))
 | _, _ => False
noncomputable def W116 : Wk := ⟨[(71, .pure c71), (131, .plain c131)], Qm Tryz.f116, true, false, [.cell 2 103, .tmp 3], [103, 71], [], []⟩
theorem Qsm : Has 116 := hsf Tryz.f116
theorem Qrf : Sat 116 c116 := by
 have hD : Qe W116.D := (Qe.cons Zt Zr (Qe.cons QiL Qia Qe.nil))
 refine W116.sa hD Tryz.f116 fun svs b K hP => ?_
 unfold c116 at hP
 split at hP
 rename_i s i d a
 obtain ⟨h01, h02, h03, h04, hk⟩ := hP
 refine W116.en (have a0 : Out := .val (.tup [(.agg [(.str [])]), .ifx]); have a1 : Option SB := some (.blk 94 [(.str s), (.nat i), (.nat d), (.bool a)]); cond (decide (s.length <= i)) (K a0 a1) ((i < s.length) /\ cond (!(decide (bat s i = 35))) (K a0 a1) ((i + 1 <= 9223372036854775807) /\ (s.length <= 1000000) /\ (i + 1 <= s.length) /\ Qx (V0 s (i + 1)) (fun v1 => (i + 1 < v1.2 /\ v1.2 <= s.length /\ v1.1.length <= 4 * (v1.2 - (i + 1))) -> K (.val (.tup [(.agg [(.str v1.1)]), .nilif])) (some (.blk 94 [(.str s), (.nat v1.2), (.nat d), (.bool a)]))) (∀ j2 : Nat, K a0 (some (.blk 94 [(.str s), (.nat j2), (.nat d), (.bool a)])))))) ?_
 refine Qd ?_ ?_ <;> intro h1 <;> simp -failIfUnchanged [-List.getD_eq_getElem?_getD, -UInt8.toNat_or] at h1
 omega
 refine Qdf ?_
 refine Qd ?_ ?_ <;> intro h2 <;> simp -failIfUnchanged [-List.getD_eq_getElem?_getD, -UInt8.toNat_or] at h2
 omega
 refine Qdf (Qdf (Qdf ?_))
 refine QJ (fun v1 h3 => ?_) (fun h3 => ?_)
 intro h4
 simp -failIfUnchanged [-List.getD_eq_getElem?_getD, -UInt8.toNat_or] at h4
 have q := Qi hk h3 (by omega)
 exact q
 intro j2
 exact Qa hk h3 _
 exact hP.elim
def c117 (svs : List SV) (b : Option SB) (K : Out -> Option SB -> Prop) : Prop := match svs, b with
 | [.ptr 0 0], some (.blk 94 [.str s, .nat i, .nat d, .bool a]) => s.length <= 1000000 /\ i <= s.length /\ i < s.length /\ bat s i = 46 /\ Qx (QL s (i + 1)) (fun v => i < v.2 /\ v.2 <= s.length -> K (.val (.tup [.agg [.str v.1], .nilif])) (some (.blk 94 [.str s, .nat v.2, .nat d, .bool a]))) (∀ j, K (.val (.tup [.agg [.str []], .ifx])) (some (.blk 94 [.str s, .nat j, .nat d, .bool a])))
 | _, _ => False
noncomputable def W117 : Wk := ⟨[(71, .pure c71), (129, .plain c129)], Qm Tryz.f117, true, false, [.cell 2 101, .tmp 3], [101, 71], [], []⟩
theorem Qsl : Has 117 := hsf Tryz.f117
theorem Qre : Sat 117 c117 := by
 have hD : Qe W117.D := (Qe.cons Zt Zr (Qe.cons QfT Qfg Qe.nil))
 refine W117.sa hD Tryz.f117 fun svs b K hP => ?_
 unfold c117 at hP
 split at hP
 rename_i s i d a
 obtain ⟨h01, h02, h03, h04, hk⟩ := hP
 refine W117.en (have a0 : Out := .val (.tup [(.agg [(.str [])]), .ifx]); have a1 : Option SB := some (.blk 94 [(.str s), (.nat i), (.nat d), (.bool a)]); cond (decide (s.length <= i)) (K a0 a1) ((i < s.length) /\ cond (!(decide (bat s i = 46))) (K a0 a1) ((i + 1 <= 9223372036854775807) /\ (s.length <= 1000000) /\ (i + 1 <= s.length) /\ Qx (QL s (i + 1)) (fun v1 => (i + 1 < v1.2 /\ v1.2 <= s.length /\ v1.1.length <= 4 * (v1.2 - (i + 1))) -> K (.val (.tup [(.agg [(.str v1.1)]), .nilif])) (some (.blk 94 [(.str s), (.nat v1.2), (.nat d), (.bool a)]))) (∀ j2 : Nat, K a0 (some (.blk 94 [(.str s), (.nat j2), (.nat d), (.bool a)])))))) ?_
 refine Qd ?_ ?_ <;> intro h1 <;> simp -failIfUnchanged [-List.getD_eq_getElem?_getD, -UInt8.toNat_or] at h1
 omega
 refine Qdf ?_
 refine Qd ?_ ?_ <;> intro h2 <;> simp -failIfUnchanged [-List.getD_eq_getElem?_getD, -UInt8.toNat_or] at h2
 omega
 refine Qdf (Qdf (Qdf ?_))
 refine QJ (fun v1 h3 => ?_) (fun h3 => ?_)
 intro h4
 simp -failIfUnchanged [-List.getD_eq_getElem?_getD, -UInt8.toNat_or] at h4
 have q := Qi hk h3 (by omega)
 exact q
 intro j2
 exact Qa hk h3 _
 exact hP.elim
def aE (s key op val : Bs) (ign : Bool) (m : Nat) : Option ((Bs × Bs × Bs × Bool) × Nat) :=
 if m < s.length /\ bat s m = 93 /\ op ∈ attrSigns then some ((key, val, op, ign), m + 1) else none
def aW (s key op val : Bs) (m : Nat) : Option ((Bs × Bs × Bs × Bool) × Nat) :=
 if iWs s m < s.length then
  aE s key op val (decide (bat s (iWs s m) = 105 \/ bat s (iWs s m) = 73)) (iWs s (if bat s (iWs s m) = 105 \/ bat s (iWs s m) = 73 then iWs s m + 1 else iWs s m))
 else none
def aV (s key op : Bs) (k : Nat) : Option ((Bs × Bs × Bs × Bool) × Nat) :=
 if k < s.length then
  match (if bat s k = 39 \/ bat s k = 34 then Jl s k else QL s k) with
  | none => none
  | some (val, m) => aW s key op val m
 else none
def Yk (s : Bs) (i : Nat) : Option ((Bs × Bs × Bs × Bool) × Nat) :=
 match QL s (iWs s (i + 1)) with
 | none => none
 | some (key, j) =>
  if iWs s j < s.length then
   if bat s (iWs s j) = 93 then some ((low key, [], [], false), iWs s j + 1)
   else if iWs s j + 2 < s.length /\ (bat s (iWs s j) = 61 \/ bat s (iWs s j + 1) = 61) then
    aV s (low key) (if bat s (iWs s j) = 61 then [61] else [s.getD (iWs s j) 0, s.getD (iWs s j + 1) 0])
     (iWs s (iWs s j + (if bat s (iWs s j) = 61 then 1 else 2)))
   else none
  else none
def attrOf (v : (Bs × Bs × Bs × Bool) × Nat) : CSel × Nat := (.attr v.1.1 v.1.2.1 v.1.2.2.1 v.1.2.2.2, v.2)
theorem aE_C (s key op val : Bs) (ign : Bool) (m : Nat) : Z0.iAttrE s key op val ign m = (aE s key op val ign m).map attrOf := by
 unfold Z0.iAttrE aE; split <;> rfl
theorem aV_C (s key op : Bs) (k : Nat) : Z0.iAttrV s key op k = (aV s key op k).map attrOf := by
 unfold Z0.iAttrV aV
 by_cases h1 : k < s.length
 rw [if_pos h1, if_pos h1]
 rcases (if bat s k = 39 \/ bat s k = 34 then Jl s k else QL s k) with _ | ⟨val, m⟩
 rfl
 dsimp only
 unfold aW
 by_cases h2 : iWs s m < s.length
 rw [if_pos h2, if_pos h2, aE_C]
 rw [if_neg h2, if_neg h2]; rfl
 rw [if_neg h1, if_neg h1]; rfl
theorem QfN (s : Bs) (i : Nat) : Z0 s i = (Yk s i).map attrOf := by
 unfold Z0 Yk
 rcases QL s (iWs s (i + 1)) with _ | ⟨key, j⟩
 rfl
 dsimp only
 by_cases h1 : iWs s j < s.length
 rw [if_pos h1, if_pos h1]
 by_cases h2 : bat s (iWs s j) = 93
 rw [if_pos h2, if_pos h2]; rfl
 rw [if_neg h2, if_neg h2]
 by_cases h3 : iWs s j + 2 < s.length /\ (bat s (iWs s j) = 61 \/ bat s (iWs s j + 1) = 61)
 rw [if_pos h3, if_pos h3, aV_C]
 rw [if_neg h3, if_neg h3]; rfl
 rw [if_neg h1, if_neg h1]; rfl
theorem Qgc {s key op : Bs} {k : Nat} {v : Bs × Nat} (h1 : k < s.length) (h : (if bat s k = 39 \/ bat s k = 34 then Jl s k else QL s k) = some v) : aV s key op k = aW s key op v.1 v.2 := by
 obtain ⟨w, j⟩ := v
 unfold aV; rw [if_pos h1, h]
theorem Qgd {s key op : Bs} {k : Nat} (h1 : k < s.length) (h : (if bat s k = 39 \/ bat s k = 34 then Jl s k else QL s k) = none) : aV s key op k = none := by
 unfold aV; rw [if_pos h1, h]
theorem Jc {s : Bs} {i : Nat} {v : Bs × Nat} (h : QL s (iWs s (i + 1)) = some v) : Yk s i = if iWs s v.2 < s.length then
      if bat s (iWs s v.2) = 93 then some ((low v.1, [], [], false), iWs s v.2 + 1)
      else if iWs s v.2 + 2 < s.length /\ (bat s (iWs s v.2) = 61 \/ bat s (iWs s v.2 + 1) = 61) then
       aV s (low v.1) (if bat s (iWs s v.2) = 61 then [61] else [s.getD (iWs s v.2) 0, s.getD (iWs s v.2 + 1) 0])
        (iWs s (iWs s v.2 + (if bat s (iWs s v.2) = 61 then 1 else 2)))
      else none
 else none := by
 obtain ⟨w, j⟩ := v
 unfold Yk; rw [h]
theorem QnG {s : Bs} {p : Nat} (h : p + 2 <= s.length) : bat ((s.take (p + 2)).drop p) 0 = bat s p /\ bat ((s.take (p + 2)).drop p) 1 = bat s (p + 1) := by
 constructor
 exact Qf2 (by rw [Zn h]; omega)
 exact Qf2 (by rw [Zn h]; omega)
theorem cut2 {s : Bs} {p : Nat} (h : p + 2 <= s.length) : (s.take (p + 2)).drop p = [s.getD p 0, s.getD (p + 1) 0] := by
 rw [show p + 2 = (p + 1) + 1 from rfl, QhB s p (p + 1) (by omega) (by omega), cut1 (by omega)]; rfl
def c118 (svs : List SV) (b : Option SB) (K : Out -> Option SB -> Prop) : Prop := match svs, b with
 | [.ptr 0 0], some (.blk 94 [.str s, .nat i, .nat d, .bool a]) => s.length <= 1000000 /\ i <= s.length /\ i < s.length /\ bat s i = 91 /\ Qx (Yk s i) (fun v => i < v.2 /\ v.2 <= s.length -> K (.val (.tup [.agg [.str v.1.1, .str v.1.2.1, .str v.1.2.2.1, .bool v.1.2.2.2], .nilif])) (some (.blk 94 [.str s, .nat v.2, .nat d, .bool a]))) (∀ j, K (.val (.tup [.agg [.str [], .str [], .str [], .bool false], .ifx])) (some (.blk 94 [.str s, .nat j, .nat d, .bool a])))
 | _, _ => False
noncomputable def Qau : Wk := ⟨[(71, .pure c71), (99, .fn c99), (129, .plain c129), (130, .pure Qlp), (132, .plain c132)], Qm Tryz.f118, true, false, [.cell 2 105, .tmp 3], [105, 71], [(24, 85), (36, 213), (43, 469)], [24, 36, 43]⟩
theorem Qsk : Has 118 := hsf Tryz.f118
theorem lcz3 {c0 p0 p1 p2 q : Prop} (k : q) (h : c0 -> p0 /\ p1 /\ p2 /\ True := by intro g0; (try simp at g0); exact ⟨(by first | omega | (simp; done) | (have := Vn s (i + 1) (by omega); omega) | (have := Vn s v1.2 (by omega); omega) | (rw [Zn (by omega)]; omega) | (simp; omega) | (simp; assumption)), (by first | omega | (simp; done) | (have := Vn s (i + 1) (by omega); omega) | (have := Vn s v1.2 (by omega); omega) | (rw [Zn (by omega)]; omega) | (simp; omega) | (simp; assumption)), (by first | omega | (simp; done) | (have := Vn s (i + 1) (by omega); omega) | (have := Vn s v1.2 (by omega); omega) | (rw [Zn (by omega)]; omega) | (simp; omega) | (simp; assumption)), trivial⟩) : (c0 -> p0 /\ p1 /\ p2 /\ True) /\ q := ⟨h, k⟩
theorem QiB {c0 p0 q : Prop} (k : q) (h : c0 -> p0 /\ True := by intro g0; (try simp at g0); exact ⟨(by first | omega | (simp; done) | (have := Vn s (i + 1) (by omega); omega) | (have := Vn s v1.2 (by omega); omega) | (rw [Zn (by omega)]; omega) | (simp; omega) | (simp; assumption)), trivial⟩) : (c0 -> p0 /\ True) /\ q := ⟨h, k⟩
theorem YM {p q : Prop} (k : q) (h : p := by first | omega | (simp; done) | (have := Vn s (i + 1) (by omega); omega) | (have := Vn s v1.2 (by omega); omega) | (rw [Zn (by omega)]; omega) | (simp; omega) | (simp; assumption)) : p /\ q := ⟨h, k⟩
theorem Qrd : Sat 118 c118 := by
 have hD : Qe Qau.D := (Qe.cons Zt Zr (Qe.cons QeH Qeh (Qe.cons QfT Qfg (Qe.cons QfS Qff (Qe.cons Qnm Qma Qe.nil)))))
 refine Qau.sa hD Tryz.f118 fun svs b K hP => ?_
 unfold c118 at hP
 split at hP
 rename_i s i d a
 obtain ⟨h01, h02, h03, h04, hk⟩ := hP
 have L43 : ∀ (mm : Nat) (key op val : Bs) (ic : Bool) (p : Nat), 0 = mm -> (i < p /\ p <= s.length /\ Yk s i = aE s key op val ic (iWs s p)) -> Qau.C K 43 (mkS 262 [(0, (.ptr 0 0)), (2, (.ptr 1 0)), (4, (.str key)), (6, (.str op)), (7, (.str val)), (8, (.bool ic))] [(1, .blk 105 [(.str []), (.str []), (.str []), (.bool false)]), (0, .blk 94 [(.str s), (.nat p), (.nat d), (.bool a)])] 2) := by
  intro mm
  induction mm using Nat.strongRecOn with
  | _ mm ih =>
   intro key op val ic p hm hI
   obtain ⟨k1, k2, k3⟩ := hI
   have q1 := Vn s p k2
   have q2 := VB s p
   refine Qau.aC hD (have a0 : Option SB := some (.blk 94 [(.str s), (.nat (iWs s p + 1)), (.nat d), (.bool a)]); have a1 : Out := .val (.tup [(.agg [(.str key), (.str val), (.str op), (.bool ic)]), .nilif]); have a2 : Out := .val (.tup [(.agg [(.str []), (.str []), (.str []), (.bool false)]), .ifx]); have a3 : Option SB := some (.blk 94 [(.str s), (.nat (iWs s p)), (.nat d), (.bool a)]); (s.length <= 1000000) /\ (p <= s.length) /\ cond (decide (s.length <= iWs s p)) (K a2 a3) ((iWs s p < s.length) /\ cond (!(decide (bat s (iWs s p) = 93))) (K a2 a3) ((iWs s p + 1 <= 9223372036854775807) /\ cond (decide (op = [61])) (K a1 a0) (cond (decide (op = [33, 61])) (K a1 a0) (cond (decide (op = [126, 61])) (K a1 a0) (cond (decide (op = [124, 61])) (K a1 a0) (cond (decide (op = [94, 61])) (K a1 a0) (cond (decide (op = [36, 61])) (K a1 a0) (cond (decide (op = [42, 61])) (K a1 a0) (K a2 a0)))))))))) ?_
   refine YM (YM ?_)
   refine Qd ?_ ?_ <;> intro h1 <;> simp -failIfUnchanged [-List.getD_eq_getElem?_getD, -UInt8.toNat_or] at h1
   exact Qa hk (by rw [k3]; unfold aE; rw [if_neg (by omega)]) _
   refine YM ?_
   refine Qd ?_ ?_ <;> intro h2 <;> simp -failIfUnchanged [-List.getD_eq_getElem?_getD, -UInt8.toNat_or] at h2
   exact Qa hk (by rw [k3]; unfold aE; rw [if_neg (fun q => h2 q.2.1)]) _
   refine YM ?_
   refine Qd ?_ ?_ <;> intro h3 <;> simp -failIfUnchanged [-List.getD_eq_getElem?_getD, -UInt8.toNat_or] at h3
   have e : Yk s i = some ((key, val, op, ic), iWs s p + 1) := by rw [k3]; unfold aE; rw [if_pos ⟨h1, h2, by rw [h3]; decide⟩]
   have q := Qi hk e ⟨by dsimp only; omega, by dsimp only; omega⟩
   dsimp only at q
   exact q
   refine Qd (fun h4 => ?_) (fun h4 => ?_)
   simp -failIfUnchanged [-List.getD_eq_getElem?_getD, -UInt8.toNat_or] at h4
   have e : Yk s i = some ((key, val, op, ic), iWs s p + 1) := by rw [k3]; unfold aE; rw [if_pos ⟨h1, h2, by rw [h4]; decide⟩]
   have q := Qi hk e ⟨by dsimp only; omega, by dsimp only; omega⟩
   dsimp only at q
   exact q
   simp -failIfUnchanged [-List.getD_eq_getElem?_getD, -UInt8.toNat_or] at h4
   refine Qd ?_ ?_ <;> intro h5 <;> simp -failIfUnchanged [-List.getD_eq_getElem?_getD, -UInt8.toNat_or] at h5
   have e : Yk s i = some ((key, val, op, ic), iWs s p + 1) := by rw [k3]; unfold aE; rw [if_pos ⟨h1, h2, by rw [h5]; decide⟩]
   have q := Qi hk e ⟨by dsimp only; omega, by dsimp only; omega⟩
   dsimp only at q
   exact q
   refine Qd (fun h6 => ?_) (fun h6 => ?_)
   simp -failIfUnchanged [-List.getD_eq_getElem?_getD, -UInt8.toNat_or] at h6
   have e : Yk s i = some ((key, val, op, ic), iWs s p + 1) := by rw [k3]; unfold aE; rw [if_pos ⟨h1, h2, by rw [h6]; decide⟩]
   have q := Qi hk e ⟨by dsimp only; omega, by dsimp only; omega⟩
   dsimp only at q
   exact q
   simp -failIfUnchanged [-List.getD_eq_getElem?_getD, -UInt8.toNat_or] at h6
   refine Qd ?_ ?_ <;> intro h7 <;> simp -failIfUnchanged [-List.getD_eq_getElem?_getD, -UInt8.toNat_or] at h7
   have e : Yk s i = some ((key, val, op, ic), iWs s p + 1) := by rw [k3]; unfold aE; rw [if_pos ⟨h1, h2, by rw [h7]; decide⟩]
   have q := Qi hk e ⟨by dsimp only; omega, by dsimp only; omega⟩
   dsimp only at q
   exact q
   refine Qd (fun h8 => ?_) (fun h8 => ?_)
   simp -failIfUnchanged [-List.getD_eq_getElem?_getD, -UInt8.toNat_or] at h8
   have e : Yk s i = some ((key, val, op, ic), iWs s p + 1) := by rw [k3]; unfold aE; rw [if_pos ⟨h1, h2, by rw [h8]; decide⟩]
   have q := Qi hk e ⟨by dsimp only; omega, by dsimp only; omega⟩
   dsimp only at q
   exact q
   simp -failIfUnchanged [-List.getD_eq_getElem?_getD, -UInt8.toNat_or] at h8
   refine Qd ?_ ?_ <;> intro h9 <;> simp -failIfUnchanged [-List.getD_eq_getElem?_getD, -UInt8.toNat_or] at h9
   have e : Yk s i = some ((key, val, op, ic), iWs s p + 1) := by rw [k3]; unfold aE; rw [if_pos ⟨h1, h2, by rw [h9]; decide⟩]
   have q := Qi hk e ⟨by dsimp only; omega, by dsimp only; omega⟩
   dsimp only at q
   exact q
   exact Qa hk (by rw [k3]; unfold aE; rw [if_neg (fun q => by have q3 := q.2.2; simp only [attrSigns, List.mem_cons, List.not_mem_nil, or_false] at q3; rcases q3 with q3 | q3 | q3 | q3 | q3 | q3 | q3 <;> contradiction)]) _
 have L36 : ∀ (mm : Nat) (key op val : Bs) (p : Nat), 0 = mm -> (i < p /\ p <= s.length /\ Yk s i = aW s key op val p) -> Qau.C K 36 (mkS 262 [(0, (.ptr 0 0)), (2, (.ptr 1 0)), (4, (.str key)), (6, (.str op)), (7, (.str val))] [(1, .blk 105 [(.str []), (.str []), (.str []), (.bool false)]), (0, .blk 94 [(.str s), (.nat p), (.nat d), (.bool a)])] 2) := by
  intro mm
  induction mm using Nat.strongRecOn with
  | _ mm ih =>
   intro key op val p hm hI
   obtain ⟨k1, k2, k3⟩ := hI
   have q1 := Vn s p k2
   have q2 := VB s p
   refine Qau.aC hD (have a1 := decide (bat s (iWs s p) = 105); have a0 := a1 = false -> ((a1 == false) = true) /\ True; (s.length <= 1000000) /\ (p <= s.length) /\ cond (decide (s.length <= iWs s p)) (K (.val (.tup [(.agg [(.str []), (.str []), (.str []), (.bool false)]), .ifx])) (some (.blk 94 [(.str s), (.nat (iWs s p)), (.nat d), (.bool a)]))) ((iWs s p < s.length) /\ a0 /\ a0 /\ a0 /\ a0 /\ a0 /\ a0 /\ (a1 = false -> ((a1 == false) = true) /\ ((a1 == false) = true) /\ (iWs s p < s.length) /\ True) /\ a0 /\ (a1 = false -> (a1 == false) = true) /\ cond (a1 || (decide (bat s (iWs s p) = 73))) ((iWs s p + 1 <= 9223372036854775807) /\ (Qau).C K 43 (mkS 262 [(0, (.ptr 0 0)), (2, (.ptr 1 0)), (4, (.str key)), (6, (.str op)), (7, (.str val)), (8, (.bool true))] [(1, .blk 105 [(.str []), (.str []), (.str []), (.bool false)]), (0, .blk 94 [(.str s), (.nat (iWs s p + 1)), (.nat d), (.bool a)])] 2)) ((Qau).C K 43 (mkS 262 [(0, (.ptr 0 0)), (2, (.ptr 1 0)), (4, (.str key)), (6, (.str op)), (7, (.str val)), (8, (.bool false))] [(1, .blk 105 [(.str []), (.str []), (.str []), (.bool false)]), (0, .blk 94 [(.str s), (.nat (iWs s p)), (.nat d), (.bool a)])] 2)))) ?_
   refine YM (YM ?_)
   refine Qd ?_ ?_ <;> intro h1 <;> simp -failIfUnchanged [-List.getD_eq_getElem?_getD, -UInt8.toNat_or] at h1
   exact Qa hk (by rw [k3]; unfold aW; rw [if_neg (by omega)]) _
   refine YM (QiB (QiB (QiB (QiB (QiB (QiB (lcz3 (QiB (YM ?_)))))))))
   refine Qd ?_ ?_ <;> intro h2 <;> simp -failIfUnchanged [-List.getD_eq_getElem?_getD, -UInt8.toNat_or] at h2
   refine YM ?_
   exact L43 _ key op val true (iWs s p + 1) rfl ⟨by omega, by omega, by rw [k3]; unfold aW; rw [if_pos h1, decide_eq_true h2, if_pos h2]⟩
   exact L43 _ key op val false (iWs s p) rfl ⟨by omega, by omega, by rw [k3]; unfold aW; rw [if_pos h1, decide_eq_false (by omega), if_neg (by omega)]⟩
 have L24 : ∀ (mm : Nat) (key op : Bs) (p : Nat), 0 = mm -> (i < p /\ p + op.length <= s.length /\ op.length <= 2 /\ Yk s i = aV s key op (iWs s (p + op.length))) -> Qau.C K 24 (mkS 262 [(0, (.ptr 0 0)), (2, (.ptr 1 0)), (4, (.str key)), (6, (.str op))] [(1, .blk 105 [(.str []), (.str []), (.str []), (.bool false)]), (0, .blk 94 [(.str s), (.nat p), (.nat d), (.bool a)])] 2) := by
  intro mm
  induction mm using Nat.strongRecOn with
  | _ mm ih =>
   intro key op p hm hI
   obtain ⟨k1, k2, k3, k4⟩ := hI
   have q1 := Vn s (p + op.length) k2
   have q2 := VB s (p + op.length)
   refine Qau.aC hD (have a0 : Out := .val (.tup [(.agg [(.str []), (.str []), (.str []), (.bool false)]), .ifx]); have a1 := p + op.length; have a2 := s.length <= 1000000; (p + op.length <= 9223372036854775807) /\ a2 /\ (p + op.length <= s.length) /\ cond (decide (s.length <= iWs s a1)) (K a0 (some (.blk 94 [(.str s), (.nat (iWs s a1)), (.nat d), (.bool a)]))) ((iWs s a1 < s.length) /\ cond (decide (bat s (iWs s a1) = 39)) (a2 /\ (iWs s a1 <= s.length) /\ Qx (Jl s (iWs s a1)) (fun v3 => (iWs s a1 < v3.2 /\ v3.2 <= s.length /\ v3.1.length <= 4 * (v3.2 - (iWs s a1))) -> (Qau).C K 36 (mkS 262 [(0, (.ptr 0 0)), (2, (.ptr 1 0)), (4, (.str key)), (6, (.str op)), (7, (.str v3.1))] [(1, .blk 105 [(.str []), (.str []), (.str []), (.bool false)]), (0, .blk 94 [(.str s), (.nat v3.2), (.nat d), (.bool a)])] 2)) (∀ j4 : Nat, K a0 (some (.blk 94 [(.str s), (.nat j4), (.nat d), (.bool a)])))) (cond (decide (bat s (iWs s a1) = 34)) (a2 /\ (iWs s a1 <= s.length) /\ Qx (Jl s (iWs s a1)) (fun v5 => (iWs s a1 < v5.2 /\ v5.2 <= s.length /\ v5.1.length <= 4 * (v5.2 - (iWs s a1))) -> (Qau).C K 36 (mkS 262 [(0, (.ptr 0 0)), (2, (.ptr 1 0)), (4, (.str key)), (6, (.str op)), (7, (.str v5.1))] [(1, .blk 105 [(.str []), (.str []), (.str []), (.bool false)]), (0, .blk 94 [(.str s), (.nat v5.2), (.nat d), (.bool a)])] 2)) (∀ j6 : Nat, K a0 (some (.blk 94 [(.str s), (.nat j6), (.nat d), (.bool a)])))) (a2 /\ (iWs s a1 <= s.length) /\ Qx (QL s (iWs s a1)) (fun v7 => (iWs s a1 < v7.2 /\ v7.2 <= s.length /\ v7.1.length <= 4 * (v7.2 - (iWs s a1))) -> (Qau).C K 36 (mkS 262 [(0, (.ptr 0 0)), (2, (.ptr 1 0)), (4, (.str key)), (6, (.str op)), (7, (.str v7.1))] [(1, .blk 105 [(.str []), (.str []), (.str []), (.bool false)]), (0, .blk 94 [(.str s), (.nat v7.2), (.nat d), (.bool a)])] 2)) (∀ j8 : Nat, K a0 (some (.blk 94 [(.str s), (.nat j8), (.nat d), (.bool a)]))))))) ?_
   refine YM (YM (YM ?_))
   refine Qd ?_ ?_ <;> intro h1 <;> simp -failIfUnchanged [-List.getD_eq_getElem?_getD, -UInt8.toNat_or] at h1
   exact Qa hk (by rw [k4]; unfold aV; rw [if_neg (by omega)]) _
   refine YM ?_
   refine Qd ?_ ?_ <;> intro h2 <;> simp -failIfUnchanged [-List.getD_eq_getElem?_getD, -UInt8.toNat_or] at h2
   refine YM (YM ?_)
   refine QJ (fun v3 h3 => ?_) (fun h3 => ?_)
   intro h4
   simp -failIfUnchanged [-List.getD_eq_getElem?_getD, -UInt8.toNat_or] at h4
   exact L36 _ key op v3.1 v3.2 rfl ⟨by omega, by omega, by rw [k4]; exact Qgc h1 (by rw [if_pos (.inl h2)]; exact h3)⟩
   intro j4
   exact Qa hk (by rw [k4]; exact Qgd h1 (by rw [if_pos (.inl h2)]; exact h3)) _
   refine Qd (fun h3 => ?_) (fun h3 => ?_)
   simp -failIfUnchanged [-List.getD_eq_getElem?_getD, -UInt8.toNat_or] at h3
   refine YM (YM ?_)
   refine QJ (fun v5 h4 => ?_) (fun h4 => ?_)
   intro h5
   simp -failIfUnchanged [-List.getD_eq_getElem?_getD, -UInt8.toNat_or] at h5
   exact L36 _ key op v5.1 v5.2 rfl ⟨by omega, by omega, by rw [k4]; exact Qgc h1 (by rw [if_pos (.inr h3)]; exact h4)⟩
   intro j6
   exact Qa hk (by rw [k4]; exact Qgd h1 (by rw [if_pos (.inr h3)]; exact h4)) _
   simp -failIfUnchanged [-List.getD_eq_getElem?_getD, -UInt8.toNat_or] at h3
   refine YM (YM ?_)
   refine QJ (fun v7 h4 => ?_) (fun h4 => ?_)
   intro h5
   simp -failIfUnchanged [-List.getD_eq_getElem?_getD, -UInt8.toNat_or] at h5
   exact L36 _ key op v7.1 v7.2 rfl ⟨by omega, by omega, by rw [k4]; exact Qgc h1 (by rw [if_neg (by omega)]; exact h4)⟩
   intro j8
   exact Qa hk (by rw [k4]; exact Qgd h1 (by rw [if_neg (by omega)]; exact h4)) _
 refine Qau.en (have a0 : Out := .val (.tup [(.agg [(.str []), (.str []), (.str []), (.bool false)]), .ifx]); have a1 : Option SB := some (.blk 94 [(.str s), (.nat i), (.nat d), (.bool a)]); cond (decide (s.length <= i)) (K a0 a1) ((i < s.length) /\ cond (!(decide (bat s i = 91))) (K a0 a1) ((i + 1 <= 9223372036854775807) /\ (s.length <= 1000000) /\ (i + 1 <= s.length) /\ (s.length <= 1000000) /\ (iWs s (i + 1) <= s.length) /\ Qx (QL s (iWs s (i + 1))) (fun v1 => (iWs s (i + 1) < v1.2 /\ v1.2 <= s.length /\ v1.1.length <= 4 * (v1.2 - (iWs s (i + 1)))) -> (v1.1.length <= 1000000000) /\ (s.length <= 1000000) /\ (v1.2 <= s.length) /\ cond (decide (s.length <= iWs s v1.2)) (K a0 (some (.blk 94 [(.str s), (.nat (iWs s v1.2)), (.nat d), (.bool a)]))) ((iWs s v1.2 < s.length) /\ cond (decide (bat s (iWs s v1.2) = 93)) ((iWs s v1.2 + 1 <= 9223372036854775807) /\ K (.val (.tup [(.agg [(.str (low v1.1)), (.str []), (.str []), (.bool false)]), .nilif])) (some (.blk 94 [(.str s), (.nat (iWs s v1.2 + 1)), (.nat d), (.bool a)]))) ((iWs s v1.2 + 2 <= 9223372036854775807) /\ cond (decide (s.length <= iWs s v1.2 + 2)) (K a0 (some (.blk 94 [(.str s), (.nat (iWs s v1.2)), (.nat d), (.bool a)]))) ((iWs s v1.2 + 2 <= 9223372036854775807) /\ (iWs s v1.2 <= iWs s v1.2 + 2 /\ iWs s v1.2 + 2 <= s.length) /\ (0 < ((s.take (iWs s v1.2 + 2)).drop (iWs s v1.2)).length) /\ cond (decide (bat ((s.take (iWs s v1.2 + 2)).drop (iWs s v1.2)) 0 = 61)) ((Qau).C K 24 (mkS 262 [(0, (.ptr 0 0)), (2, (.ptr 1 0)), (4, (.str (low v1.1))), (6, (.str [61]))] [(1, .blk 105 [(.str []), (.str []), (.str []), (.bool false)]), (0, .blk 94 [(.str s), (.nat (iWs s v1.2)), (.nat d), (.bool a)])] 2)) ((1 < ((s.take (iWs s v1.2 + 2)).drop (iWs s v1.2)).length) /\ cond (!(decide (bat ((s.take (iWs s v1.2 + 2)).drop (iWs s v1.2)) 1 = 61))) (K a0 (some (.blk 94 [(.str s), (.nat (iWs s v1.2)), (.nat d), (.bool a)]))) ((Qau).C K 24 (mkS 262 [(0, (.ptr 0 0)), (2, (.ptr 1 0)), (4, (.str (low v1.1))), (6, (.str ((s.take (iWs s v1.2 + 2)).drop (iWs s v1.2))))] [(1, .blk 105 [(.str []), (.str []), (.str []), (.bool false)]), (0, .blk 94 [(.str s), (.nat (iWs s v1.2)), (.nat d), (.bool a)])] 2))))))) (∀ j2 : Nat, K a0 (some (.blk 94 [(.str s), (.nat j2), (.nat d), (.bool a)])))))) ?_
 refine Qd ?_ ?_ <;> intro h1 <;> simp -failIfUnchanged [-List.getD_eq_getElem?_getD, -UInt8.toNat_or] at h1
 exfalso
 omega
 refine YM ?_
 refine Qd ?_ ?_ <;> intro h2 <;> simp -failIfUnchanged [-List.getD_eq_getElem?_getD, -UInt8.toNat_or] at h2
 exfalso
 omega
 refine YM (YM (YM (YM (YM ?_))))
 refine QJ (fun v1 h3 => ?_) (fun h3 => ?_)
 intro h4
 simp -failIfUnchanged [-List.getD_eq_getElem?_getD, -UInt8.toNat_or] at h4
 refine YM (YM (YM ?_))
 refine Qd ?_ ?_ <;> intro h5 <;> simp -failIfUnchanged [-List.getD_eq_getElem?_getD, -UInt8.toNat_or] at h5
 exact Qa hk (by rw [Jc h3, if_neg (by omega)]) _
 refine YM ?_
 refine Qd ?_ ?_ <;> intro h6 <;> simp -failIfUnchanged [-List.getD_eq_getElem?_getD, -UInt8.toNat_or] at h6
 refine YM ?_
 have w1 := VB s (i + 1)
 have w2 := VB s v1.2
 have w3 := Vn s v1.2 (by omega)
 have e : Yk s i = some ((low v1.1, [], [], false), iWs s v1.2 + 1) := by rw [Jc h3, if_pos h5, if_pos h6]
 have q := Qi hk e ⟨by dsimp only; omega, by dsimp only; omega⟩
 dsimp only at q
 exact q
 refine YM ?_
 refine Qd ?_ ?_ <;> intro h7 <;> simp -failIfUnchanged [-List.getD_eq_getElem?_getD, -UInt8.toNat_or] at h7
 exact Qa hk (by rw [Jc h3, if_pos h5, if_neg h6, if_neg (by omega)]) _
 refine YM (YM (YM ?_))
 refine Qd ?_ ?_ <;> intro h8 <;> simp -failIfUnchanged [-List.getD_eq_getElem?_getD, -UInt8.toNat_or] at h8
 have w1 := VB s (i + 1)
 have w2 := VB s v1.2
 have w3 := Vn s v1.2 (by omega)
 obtain ⟨b1, b2⟩ := QnG (s := s) (p := iWs s v1.2) (by omega)
 rw [b1] at h8
 exact L24 _ (low v1.1) [61] (iWs s v1.2) rfl ⟨by omega, by simp only [List.length_singleton]; omega, by simp, by rw [Jc h3, if_pos h5, if_neg h6, if_pos ⟨h7, .inl h8⟩, if_pos h8, if_pos h8]; rfl⟩
 refine YM ?_
 refine Qd ?_ ?_ <;> intro h9 <;> simp -failIfUnchanged [-List.getD_eq_getElem?_getD, -UInt8.toNat_or] at h9
 obtain ⟨b1, b2⟩ := QnG (s := s) (p := iWs s v1.2) (by omega)
 rw [b1] at h8
 rw [b2] at h9
 exact Qa hk (by rw [Jc h3, if_pos h5, if_neg h6, if_neg (by omega)]) _
 have w1 := VB s (i + 1)
 have w2 := VB s v1.2
 have w3 := Vn s v1.2 (by omega)
 obtain ⟨b1, b2⟩ := QnG (s := s) (p := iWs s v1.2) (by omega)
 rw [b1] at h8
 rw [b2] at h9
 rw [cut2 (show iWs s v1.2 + 2 <= s.length from by omega)]
 exact L24 _ (low v1.1) [s.getD (iWs s v1.2) 0, s.getD (iWs s v1.2 + 1) 0] (iWs s v1.2) rfl ⟨by omega, by simp only [List.length_cons, List.length_nil]; omega, by simp, by rw [Jc h3, if_pos h5, if_neg h6, if_pos ⟨h7, .inr h9⟩, if_neg h8, if_neg h8]; rfl⟩
 intro j2
 exact Qa hk (by unfold Yk; rw [h3]) _
 exact hP.elim
end
end Go.Proofs.YtengepcafdnalaaGreatDoor
