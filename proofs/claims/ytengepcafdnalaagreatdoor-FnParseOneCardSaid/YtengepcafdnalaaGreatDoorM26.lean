/-
  Parts of the proof that the law FnParseOne holds for every input (texts Lc). Conditions: none.
-/
import Derived.Test.YtengepcafdnalaaGreatDoorM25
namespace Go.Proofs.YtengepcafdnalaaGreatDoor
section
open Go Go.RowKit
set_option maxRecDepth 20000
def c115 (svs : List SV) (b : Option SB) (K : Out → Option SB → Prop) : Prop := match svs, b with
 | [.ptr 0 0], some (.blk 94 [.str s, .nat i, .nat d, .bool a]) => s.length ≤ 1000000 ∧ i ≤ s.length ∧ optK (iIdent s i) (fun v => i < v.2 ∧ v.2 ≤ s.length → K (.val (.tup [.agg [.str (low v.1)], .nilif])) (some (.blk 94 [.str s, .nat v.2, .nat d, .bool a]))) (∀ j, K (.val (.tup [.agg [.str []], .ifx])) (some (.blk 94 [.str s, .nat j, .nat d, .bool a])))
 | _, _ => False
noncomputable def W115 : Wk := ⟨[(129, .plain c129), (130, .pure c130)], bodyOf Tryz.f115, true, false, [.cell 2 99, .tmp 3], [99, 71], [], []⟩
theorem has115 : Has 115 := Has.of (fn := Tryz.f115) (by kernel_rfl) (by kernel_rfl) (by kernel_rfl)
theorem lcz0 {p q : Prop} (k : q) (h : p := by first | omega | (simp; done) | (simp; omega) | (simp; assumption)) : p ∧ q := ⟨h, k⟩
theorem sat115 : Sat 115 c115 := by
 have hD : CxOk W115.D := (CxOk.cons has129 sat129 (CxOk.cons has130 sat130 CxOk.nil))
 refine W115.sat hD (fn := Tryz.f115) (by kernel_rfl) (by kernel_rfl) (by kernel_rfl) (Nat.le_of_ble_eq_true (by kernel_rfl)) fun svs b K hP => ?_
 unfold c115 at hP
 split at hP
 · rename_i s i d a
   obtain ⟨h01, h02, hk⟩ := hP
   refine W115.entry rfl (X := (s.length ≤ 1000000) ∧ (i ≤ s.length) ∧ optK (iIdent s i) (fun v1 => (i < v1.2 ∧ v1.2 ≤ s.length ∧ v1.1.length ≤ 4 * (v1.2 - i)) → (v1.1.length ≤ 1000000000) ∧ K (.val (.tup [(.agg [(.str (low v1.1))]), .nilif])) (some (.blk 94 [(.str s), (.nat v1.2), (.nat d), (.bool a)]))) (∀ j2 : Nat, K (.val (.tup [(.agg [(.str [])]), .ifx])) (some (.blk 94 [(.str s), (.nat j2), (.nat d), (.bool a)])))) (by kernel_rfl) ?_
   refine lcz0 (lcz0 ?_)
   refine optI (fun v1 h1 => ?_) (fun h1 => ?_)
   ·
    intro h2
    simp -failIfUnchanged [-List.getD_eq_getElem?_getD, -UInt8.toNat_or] at h2
    refine lcz0 ?_
    have q := opt_some hk h1 (by omega)
    exact q
   intro j2
   exact opt_none hk h1 _
 exact hP.elim
def c116 (svs : List SV) (b : Option SB) (K : Out → Option SB → Prop) : Prop := match svs, b with
 | [.ptr 0 0], some (.blk 94 [.str s, .nat i, .nat d, .bool a]) => s.length ≤ 1000000 ∧ i ≤ s.length ∧ i < s.length ∧ bat s i = 35 ∧ optK (iName s (i + 1)) (fun v => i < v.2 ∧ v.2 ≤ s.length → K (.val (.tup [.agg [.str v.1], .nilif])) (some (.blk 94 [.str s, .nat v.2, .nat d, .bool a]))) (∀ j, K (.val (.tup [.agg [.str []], .ifx])) (some (.blk 94 [.str s, .nat j, .nat d, .bool a])))
 | _, _ => False
noncomputable def W116 : Wk := ⟨[(71, .pure c71), (131, .plain c131)], bodyOf Tryz.f116, true, false, [.cell 2 103, .tmp 3], [103, 71], [], []⟩
theorem has116 : Has 116 := Has.of (fn := Tryz.f116) (by kernel_rfl) (by kernel_rfl) (by kernel_rfl)
theorem sat116 : Sat 116 c116 := by
 have hD : CxOk W116.D := (CxOk.cons has71 sat71 (CxOk.cons has131 sat131 CxOk.nil))
 refine W116.sat hD (fn := Tryz.f116) (by kernel_rfl) (by kernel_rfl) (by kernel_rfl) (Nat.le_of_ble_eq_true (by kernel_rfl)) fun svs b K hP => ?_
 unfold c116 at hP
 split at hP
 · rename_i s i d a
   obtain ⟨h01, h02, h03, h04, hk⟩ := hP
   refine W116.entry rfl (X := have a0 : Out := .val (.tup [(.agg [(.str [])]), .ifx]); have a1 : Option SB := some (.blk 94 [(.str s), (.nat i), (.nat d), (.bool a)]); cond (decide (s.length ≤ i)) (K a0 a1) ((i < s.length) ∧ cond (!(decide (bat s i = 35))) (K a0 a1) ((i + 1 ≤ 9223372036854775807) ∧ (s.length ≤ 1000000) ∧ (i + 1 ≤ s.length) ∧ optK (iName s (i + 1)) (fun v1 => (i + 1 < v1.2 ∧ v1.2 ≤ s.length ∧ v1.1.length ≤ 4 * (v1.2 - (i + 1))) → K (.val (.tup [(.agg [(.str v1.1)]), .nilif])) (some (.blk 94 [(.str s), (.nat v1.2), (.nat d), (.bool a)]))) (∀ j2 : Nat, K a0 (some (.blk 94 [(.str s), (.nat j2), (.nat d), (.bool a)])))))) (by kernel_rfl) ?_
   refine cndI ?_ ?_ <;> intro h1 <;> simp -failIfUnchanged [-List.getD_eq_getElem?_getD, -UInt8.toNat_or] at h1
   · omega
   refine lcz0 ?_
   refine cndI ?_ ?_ <;> intro h2 <;> simp -failIfUnchanged [-List.getD_eq_getElem?_getD, -UInt8.toNat_or] at h2
   · omega
   refine lcz0 ?_
   refine lcz0 (lcz0 ?_)
   refine optI (fun v1 h3 => ?_) (fun h3 => ?_)
   ·
    intro h4
    simp -failIfUnchanged [-List.getD_eq_getElem?_getD, -UInt8.toNat_or] at h4
    have q := opt_some hk h3 (by omega)
    exact q
   intro j2
   exact opt_none hk h3 _
 exact hP.elim
def c117 (svs : List SV) (b : Option SB) (K : Out → Option SB → Prop) : Prop := match svs, b with
 | [.ptr 0 0], some (.blk 94 [.str s, .nat i, .nat d, .bool a]) => s.length ≤ 1000000 ∧ i ≤ s.length ∧ i < s.length ∧ bat s i = 46 ∧ optK (iIdent s (i + 1)) (fun v => i < v.2 ∧ v.2 ≤ s.length → K (.val (.tup [.agg [.str v.1], .nilif])) (some (.blk 94 [.str s, .nat v.2, .nat d, .bool a]))) (∀ j, K (.val (.tup [.agg [.str []], .ifx])) (some (.blk 94 [.str s, .nat j, .nat d, .bool a])))
 | _, _ => False
noncomputable def W117 : Wk := ⟨[(71, .pure c71), (129, .plain c129)], bodyOf Tryz.f117, true, false, [.cell 2 101, .tmp 3], [101, 71], [], []⟩
theorem has117 : Has 117 := Has.of (fn := Tryz.f117) (by kernel_rfl) (by kernel_rfl) (by kernel_rfl)
theorem sat117 : Sat 117 c117 := by
 have hD : CxOk W117.D := (CxOk.cons has71 sat71 (CxOk.cons has129 sat129 CxOk.nil))
 refine W117.sat hD (fn := Tryz.f117) (by kernel_rfl) (by kernel_rfl) (by kernel_rfl) (Nat.le_of_ble_eq_true (by kernel_rfl)) fun svs b K hP => ?_
 unfold c117 at hP
 split at hP
 · rename_i s i d a
   obtain ⟨h01, h02, h03, h04, hk⟩ := hP
   refine W117.entry rfl (X := have a0 : Out := .val (.tup [(.agg [(.str [])]), .ifx]); have a1 : Option SB := some (.blk 94 [(.str s), (.nat i), (.nat d), (.bool a)]); cond (decide (s.length ≤ i)) (K a0 a1) ((i < s.length) ∧ cond (!(decide (bat s i = 46))) (K a0 a1) ((i + 1 ≤ 9223372036854775807) ∧ (s.length ≤ 1000000) ∧ (i + 1 ≤ s.length) ∧ optK (iIdent s (i + 1)) (fun v1 => (i + 1 < v1.2 ∧ v1.2 ≤ s.length ∧ v1.1.length ≤ 4 * (v1.2 - (i + 1))) → K (.val (.tup [(.agg [(.str v1.1)]), .nilif])) (some (.blk 94 [(.str s), (.nat v1.2), (.nat d), (.bool a)]))) (∀ j2 : Nat, K a0 (some (.blk 94 [(.str s), (.nat j2), (.nat d), (.bool a)])))))) (by kernel_rfl) ?_
   refine cndI ?_ ?_ <;> intro h1 <;> simp -failIfUnchanged [-List.getD_eq_getElem?_getD, -UInt8.toNat_or] at h1
   · omega
   refine lcz0 ?_
   refine cndI ?_ ?_ <;> intro h2 <;> simp -failIfUnchanged [-List.getD_eq_getElem?_getD, -UInt8.toNat_or] at h2
   · omega
   refine lcz0 ?_
   refine lcz0 (lcz0 ?_)
   refine optI (fun v1 h3 => ?_) (fun h3 => ?_)
   ·
    intro h4
    simp -failIfUnchanged [-List.getD_eq_getElem?_getD, -UInt8.toNat_or] at h4
    have q := opt_some hk h3 (by omega)
    exact q
   intro j2
   exact opt_none hk h3 _
 exact hP.elim
def aE (s key op val : Bs) (ign : Bool) (m : Nat) : Option ((Bs × Bs × Bs × Bool) × Nat) :=
 if m < s.length ∧ bat s m = 93 ∧ op ∈ attrSigns then some ((key, val, op, ign), m + 1) else none
def aW (s key op val : Bs) (m : Nat) : Option ((Bs × Bs × Bs × Bool) × Nat) :=
 if iWs s m < s.length then
  aE s key op val (decide (bat s (iWs s m) = 105 ∨ bat s (iWs s m) = 73)) (iWs s (if bat s (iWs s m) = 105 ∨ bat s (iWs s m) = 73 then iWs s m + 1 else iWs s m))
 else none
def aV (s key op : Bs) (k : Nat) : Option ((Bs × Bs × Bs × Bool) × Nat) :=
 if k < s.length then
  match (if bat s k = 39 ∨ bat s k = 34 then iStr s k else iIdent s k) with
  | none => none
  | some (val, m) => aW s key op val m
 else none
def iAttrC (s : Bs) (i : Nat) : Option ((Bs × Bs × Bs × Bool) × Nat) :=
 match iIdent s (iWs s (i + 1)) with
 | none => none
 | some (key, j) =>
  if iWs s j < s.length then
   if bat s (iWs s j) = 93 then some ((low key, [], [], false), iWs s j + 1)
   else if iWs s j + 2 < s.length ∧ (bat s (iWs s j) = 61 ∨ bat s (iWs s j + 1) = 61) then
    aV s (low key) (if bat s (iWs s j) = 61 then [61] else [s.getD (iWs s j) 0, s.getD (iWs s j + 1) 0])
     (iWs s (iWs s j + (if bat s (iWs s j) = 61 then 1 else 2)))
   else none
  else none
def attrOf (v : (Bs × Bs × Bs × Bool) × Nat) : CSel × Nat := (.attr v.1.1 v.1.2.1 v.1.2.2.1 v.1.2.2.2, v.2)
theorem aE_C (s key op val : Bs) (ign : Bool) (m : Nat) : iAttr.iAttrE s key op val ign m = (aE s key op val ign m).map attrOf := by
 unfold iAttr.iAttrE aE; split <;> rfl
theorem aV_C (s key op : Bs) (k : Nat) : iAttr.iAttrV s key op k = (aV s key op k).map attrOf := by
 unfold iAttr.iAttrV aV
 by_cases h1 : k < s.length
 · rw [if_pos h1, if_pos h1]
   rcases (if bat s k = 39 ∨ bat s k = 34 then iStr s k else iIdent s k) with _ | ⟨val, m⟩
   · rfl
   dsimp only
   unfold aW
   by_cases h2 : iWs s m < s.length
   · rw [if_pos h2, if_pos h2, aE_C]
   rw [if_neg h2, if_neg h2]; rfl
 rw [if_neg h1, if_neg h1]; rfl
theorem iAttr_C (s : Bs) (i : Nat) : iAttr s i = (iAttrC s i).map attrOf := by
 unfold iAttr iAttrC
 rcases iIdent s (iWs s (i + 1)) with _ | ⟨key, j⟩
 · rfl
 dsimp only
 by_cases h1 : iWs s j < s.length
 · rw [if_pos h1, if_pos h1]
   by_cases h2 : bat s (iWs s j) = 93
   · rw [if_pos h2, if_pos h2]; rfl
   rw [if_neg h2, if_neg h2]
   by_cases h3 : iWs s j + 2 < s.length ∧ (bat s (iWs s j) = 61 ∨ bat s (iWs s j + 1) = 61)
   · rw [if_pos h3, if_pos h3, aV_C]
   rw [if_neg h3, if_neg h3]; rfl
 rw [if_neg h1, if_neg h1]; rfl
theorem aV_some {s key op : Bs} {k : Nat} {v : Bs × Nat} (h1 : k < s.length) (h : (if bat s k = 39 ∨ bat s k = 34 then iStr s k else iIdent s k) = some v) : aV s key op k = aW s key op v.1 v.2 := by
 obtain ⟨w, j⟩ := v
 unfold aV; rw [if_pos h1, h]
theorem aV_none {s key op : Bs} {k : Nat} (h1 : k < s.length) (h : (if bat s k = 39 ∨ bat s k = 34 then iStr s k else iIdent s k) = none) : aV s key op k = none := by
 unfold aV; rw [if_pos h1, h]
theorem iAttrC_id {s : Bs} {i : Nat} {v : Bs × Nat} (h : iIdent s (iWs s (i + 1)) = some v) : iAttrC s i = if iWs s v.2 < s.length then
      if bat s (iWs s v.2) = 93 then some ((low v.1, [], [], false), iWs s v.2 + 1)
      else if iWs s v.2 + 2 < s.length ∧ (bat s (iWs s v.2) = 61 ∨ bat s (iWs s v.2 + 1) = 61) then
       aV s (low v.1) (if bat s (iWs s v.2) = 61 then [61] else [s.getD (iWs s v.2) 0, s.getD (iWs s v.2 + 1) 0])
        (iWs s (iWs s v.2 + (if bat s (iWs s v.2) = 61 then 1 else 2)))
      else none
 else none := by
 obtain ⟨w, j⟩ := v
 unfold iAttrC; rw [h]
theorem cut2b {s : Bs} {p : Nat} (h : p + 2 ≤ s.length) : bat ((s.take (p + 2)).drop p) 0 = bat s p ∧ bat ((s.take (p + 2)).drop p) 1 = bat s (p + 1) := by
 constructor
 · exact cut_bat (by rw [cut_len h]; omega)
 exact cut_bat (by rw [cut_len h]; omega)
theorem cut2 {s : Bs} {p : Nat} (h : p + 2 ≤ s.length) : (s.take (p + 2)).drop p = [s.getD p 0, s.getD (p + 1) 0] := by
 rw [show p + 2 = (p + 1) + 1 from rfl, cut_snoc s p (p + 1) (by omega) (by omega), cut1 (by omega)]; rfl
def c118 (svs : List SV) (b : Option SB) (K : Out → Option SB → Prop) : Prop := match svs, b with
 | [.ptr 0 0], some (.blk 94 [.str s, .nat i, .nat d, .bool a]) => s.length ≤ 1000000 ∧ i ≤ s.length ∧ i < s.length ∧ bat s i = 91 ∧ optK (iAttrC s i) (fun v => i < v.2 ∧ v.2 ≤ s.length → K (.val (.tup [.agg [.str v.1.1, .str v.1.2.1, .str v.1.2.2.1, .bool v.1.2.2.2], .nilif])) (some (.blk 94 [.str s, .nat v.2, .nat d, .bool a]))) (∀ j, K (.val (.tup [.agg [.str [], .str [], .str [], .bool false], .ifx])) (some (.blk 94 [.str s, .nat j, .nat d, .bool a])))
 | _, _ => False
noncomputable def W118 : Wk := ⟨[(71, .pure c71), (99, .fn c99), (129, .plain c129), (130, .pure c130), (132, .plain c132)], bodyOf Tryz.f118, true, false, [.cell 2 105, .tmp 3], [105, 71], [(24, 85), (36, 213), (43, 469)], [24, 36, 43]⟩
theorem has118 : Has 118 := Has.of (fn := Tryz.f118) (by kernel_rfl) (by kernel_rfl) (by kernel_rfl)
theorem lcz3 {c0 p0 p1 p2 q : Prop} (k : q) (h : c0 → p0 ∧ p1 ∧ p2 ∧ True := by intro g0; (try simp at g0); exact ⟨(by first | omega | (simp; done) | (have := iWs_le s (i + 1) (by omega); omega) | (have := iWs_le s v1.2 (by omega); omega) | (rw [cut_len (by omega)]; omega) | (simp; omega) | (simp; assumption)), (by first | omega | (simp; done) | (have := iWs_le s (i + 1) (by omega); omega) | (have := iWs_le s v1.2 (by omega); omega) | (rw [cut_len (by omega)]; omega) | (simp; omega) | (simp; assumption)), (by first | omega | (simp; done) | (have := iWs_le s (i + 1) (by omega); omega) | (have := iWs_le s v1.2 (by omega); omega) | (rw [cut_len (by omega)]; omega) | (simp; omega) | (simp; assumption)), trivial⟩) : (c0 → p0 ∧ p1 ∧ p2 ∧ True) ∧ q := ⟨h, k⟩
theorem lcz2 {c0 p0 q : Prop} (k : q) (h : c0 → p0 ∧ True := by intro g0; (try simp at g0); exact ⟨(by first | omega | (simp; done) | (have := iWs_le s (i + 1) (by omega); omega) | (have := iWs_le s v1.2 (by omega); omega) | (rw [cut_len (by omega)]; omega) | (simp; omega) | (simp; assumption)), trivial⟩) : (c0 → p0 ∧ True) ∧ q := ⟨h, k⟩
theorem lcz1 {p q : Prop} (k : q) (h : p := by first | omega | (simp; done) | (have := iWs_le s (i + 1) (by omega); omega) | (have := iWs_le s v1.2 (by omega); omega) | (rw [cut_len (by omega)]; omega) | (simp; omega) | (simp; assumption)) : p ∧ q := ⟨h, k⟩
theorem sat118 : Sat 118 c118 := by
 have hD : CxOk W118.D := (CxOk.cons has71 sat71 (CxOk.cons has99 sat99 (CxOk.cons has129 sat129 (CxOk.cons has130 sat130 (CxOk.cons has132 sat132 CxOk.nil)))))
 refine W118.sat hD (fn := Tryz.f118) (by kernel_rfl) (by kernel_rfl) (by kernel_rfl) (Nat.le_of_ble_eq_true (by kernel_rfl)) fun svs b K hP => ?_
 unfold c118 at hP
 split at hP
 · rename_i s i d a
   obtain ⟨h01, h02, h03, h04, hk⟩ := hP
   have L43 : ∀ (mm : Nat) (key op val : Bs) (ic : Bool) (p : Nat), 0 = mm → (i < p ∧ p ≤ s.length ∧ iAttrC s i = aE s key op val ic (iWs s p)) → W118.C K 43 (mkS 262 [(0, (.ptr 0 0)), (2, (.ptr 1 0)), (4, (.str key)), (6, (.str op)), (7, (.str val)), (8, (.bool ic))] [(1, .blk 105 [(.str []), (.str []), (.str []), (.bool false)]), (0, .blk 94 [(.str s), (.nat p), (.nat d), (.bool a)])] 2) := by
    intro mm
    induction mm using Nat.strongRecOn with
    | _ mm ih =>
     intro key op val ic p hm hI
     obtain ⟨k1, k2, k3⟩ := hI
     have q1 := iWs_le s p k2
     have q2 := iWs_ge s p
     refine W118.atC hD (X := have a0 : Option SB := some (.blk 94 [(.str s), (.nat (iWs s p + 1)), (.nat d), (.bool a)]); have a1 : Out := .val (.tup [(.agg [(.str key), (.str val), (.str op), (.bool ic)]), .nilif]); have a2 : Out := .val (.tup [(.agg [(.str []), (.str []), (.str []), (.bool false)]), .ifx]); have a3 : Option SB := some (.blk 94 [(.str s), (.nat (iWs s p)), (.nat d), (.bool a)]); (s.length ≤ 1000000) ∧ (p ≤ s.length) ∧ cond (decide (s.length ≤ iWs s p)) (K a2 a3) ((iWs s p < s.length) ∧ cond (!(decide (bat s (iWs s p) = 93))) (K a2 a3) ((iWs s p + 1 ≤ 9223372036854775807) ∧ cond (decide (op = [61])) (K a1 a0) (cond (decide (op = [33, 61])) (K a1 a0) (cond (decide (op = [126, 61])) (K a1 a0) (cond (decide (op = [124, 61])) (K a1 a0) (cond (decide (op = [94, 61])) (K a1 a0) (cond (decide (op = [36, 61])) (K a1 a0) (cond (decide (op = [42, 61])) (K a1 a0) (K a2 a0)))))))))) (by kernel_rfl) ?_
     refine lcz1 (lcz1 ?_)
     refine cndI ?_ ?_ <;> intro h1 <;> simp -failIfUnchanged [-List.getD_eq_getElem?_getD, -UInt8.toNat_or] at h1
     · exact opt_none hk (by rw [k3]; unfold aE; rw [if_neg (by omega)]) _
     refine lcz1 ?_
     refine cndI ?_ ?_ <;> intro h2 <;> simp -failIfUnchanged [-List.getD_eq_getElem?_getD, -UInt8.toNat_or] at h2
     · exact opt_none hk (by rw [k3]; unfold aE; rw [if_neg (fun q => h2 q.2.1)]) _
     refine lcz1 ?_
     refine cndI ?_ ?_ <;> intro h3 <;> simp -failIfUnchanged [-List.getD_eq_getElem?_getD, -UInt8.toNat_or] at h3
     · have e : iAttrC s i = some ((key, val, op, ic), iWs s p + 1) := by rw [k3]; unfold aE; rw [if_pos ⟨h1, h2, by rw [h3]; decide⟩]
       have q := opt_some hk e ⟨by dsimp only; omega, by dsimp only; omega⟩
       dsimp only at q
       exact q
     refine cndI (fun h4 => ?_) (fun h4 => ?_)
     · simp -failIfUnchanged [-List.getD_eq_getElem?_getD, -UInt8.toNat_or] at h4
       have e : iAttrC s i = some ((key, val, op, ic), iWs s p + 1) := by rw [k3]; unfold aE; rw [if_pos ⟨h1, h2, by rw [h4]; decide⟩]
       have q := opt_some hk e ⟨by dsimp only; omega, by dsimp only; omega⟩
       dsimp only at q
       exact q
     simp -failIfUnchanged [-List.getD_eq_getElem?_getD, -UInt8.toNat_or] at h4
     refine cndI ?_ ?_ <;> intro h5 <;> simp -failIfUnchanged [-List.getD_eq_getElem?_getD, -UInt8.toNat_or] at h5
     · have e : iAttrC s i = some ((key, val, op, ic), iWs s p + 1) := by rw [k3]; unfold aE; rw [if_pos ⟨h1, h2, by rw [h5]; decide⟩]
       have q := opt_some hk e ⟨by dsimp only; omega, by dsimp only; omega⟩
       dsimp only at q
       exact q
     refine cndI (fun h6 => ?_) (fun h6 => ?_)
     · simp -failIfUnchanged [-List.getD_eq_getElem?_getD, -UInt8.toNat_or] at h6
       have e : iAttrC s i = some ((key, val, op, ic), iWs s p + 1) := by rw [k3]; unfold aE; rw [if_pos ⟨h1, h2, by rw [h6]; decide⟩]
       have q := opt_some hk e ⟨by dsimp only; omega, by dsimp only; omega⟩
       dsimp only at q
       exact q
     simp -failIfUnchanged [-List.getD_eq_getElem?_getD, -UInt8.toNat_or] at h6
     refine cndI ?_ ?_ <;> intro h7 <;> simp -failIfUnchanged [-List.getD_eq_getElem?_getD, -UInt8.toNat_or] at h7
     · have e : iAttrC s i = some ((key, val, op, ic), iWs s p + 1) := by rw [k3]; unfold aE; rw [if_pos ⟨h1, h2, by rw [h7]; decide⟩]
       have q := opt_some hk e ⟨by dsimp only; omega, by dsimp only; omega⟩
       dsimp only at q
       exact q
     refine cndI (fun h8 => ?_) (fun h8 => ?_)
     · simp -failIfUnchanged [-List.getD_eq_getElem?_getD, -UInt8.toNat_or] at h8
       have e : iAttrC s i = some ((key, val, op, ic), iWs s p + 1) := by rw [k3]; unfold aE; rw [if_pos ⟨h1, h2, by rw [h8]; decide⟩]
       have q := opt_some hk e ⟨by dsimp only; omega, by dsimp only; omega⟩
       dsimp only at q
       exact q
     simp -failIfUnchanged [-List.getD_eq_getElem?_getD, -UInt8.toNat_or] at h8
     refine cndI ?_ ?_ <;> intro h9 <;> simp -failIfUnchanged [-List.getD_eq_getElem?_getD, -UInt8.toNat_or] at h9
     · have e : iAttrC s i = some ((key, val, op, ic), iWs s p + 1) := by rw [k3]; unfold aE; rw [if_pos ⟨h1, h2, by rw [h9]; decide⟩]
       have q := opt_some hk e ⟨by dsimp only; omega, by dsimp only; omega⟩
       dsimp only at q
       exact q
     exact opt_none hk (by rw [k3]; unfold aE; rw [if_neg (fun q => by have q3 := q.2.2; simp only [attrSigns, List.mem_cons, List.not_mem_nil, or_false] at q3; rcases q3 with q3 | q3 | q3 | q3 | q3 | q3 | q3 <;> contradiction)]) _
   have L36 : ∀ (mm : Nat) (key op val : Bs) (p : Nat), 0 = mm → (i < p ∧ p ≤ s.length ∧ iAttrC s i = aW s key op val p) → W118.C K 36 (mkS 262 [(0, (.ptr 0 0)), (2, (.ptr 1 0)), (4, (.str key)), (6, (.str op)), (7, (.str val))] [(1, .blk 105 [(.str []), (.str []), (.str []), (.bool false)]), (0, .blk 94 [(.str s), (.nat p), (.nat d), (.bool a)])] 2) := by
    intro mm
    induction mm using Nat.strongRecOn with
    | _ mm ih =>
     intro key op val p hm hI
     obtain ⟨k1, k2, k3⟩ := hI
     have q1 := iWs_le s p k2
     have q2 := iWs_ge s p
     refine W118.atC hD (X := have a1 := decide (bat s (iWs s p) = 105); have a0 := a1 = false → ((a1 == false) = true) ∧ True; (s.length ≤ 1000000) ∧ (p ≤ s.length) ∧ cond (decide (s.length ≤ iWs s p)) (K (.val (.tup [(.agg [(.str []), (.str []), (.str []), (.bool false)]), .ifx])) (some (.blk 94 [(.str s), (.nat (iWs s p)), (.nat d), (.bool a)]))) ((iWs s p < s.length) ∧ a0 ∧ a0 ∧ a0 ∧ a0 ∧ a0 ∧ a0 ∧ (a1 = false → ((a1 == false) = true) ∧ ((a1 == false) = true) ∧ (iWs s p < s.length) ∧ True) ∧ a0 ∧ (a1 = false → (a1 == false) = true) ∧ cond (a1 || (decide (bat s (iWs s p) = 73))) ((iWs s p + 1 ≤ 9223372036854775807) ∧ (W118).C K 43 (mkS 262 [(0, (.ptr 0 0)), (2, (.ptr 1 0)), (4, (.str key)), (6, (.str op)), (7, (.str val)), (8, (.bool true))] [(1, .blk 105 [(.str []), (.str []), (.str []), (.bool false)]), (0, .blk 94 [(.str s), (.nat (iWs s p + 1)), (.nat d), (.bool a)])] 2)) ((W118).C K 43 (mkS 262 [(0, (.ptr 0 0)), (2, (.ptr 1 0)), (4, (.str key)), (6, (.str op)), (7, (.str val)), (8, (.bool false))] [(1, .blk 105 [(.str []), (.str []), (.str []), (.bool false)]), (0, .blk 94 [(.str s), (.nat (iWs s p)), (.nat d), (.bool a)])] 2)))) (by kernel_rfl) ?_
     refine lcz1 (lcz1 ?_)
     refine cndI ?_ ?_ <;> intro h1 <;> simp -failIfUnchanged [-List.getD_eq_getElem?_getD, -UInt8.toNat_or] at h1
     · exact opt_none hk (by rw [k3]; unfold aW; rw [if_neg (by omega)]) _
     refine lcz1 ?_
     refine lcz2 ?_
     refine lcz2 ?_
     refine lcz2 ?_
     refine lcz2 ?_
     refine lcz2 ?_
     refine lcz2 ?_
     refine lcz3 ?_
     refine lcz2 ?_
     refine lcz1 ?_
     refine cndI ?_ ?_ <;> intro h2 <;> simp -failIfUnchanged [-List.getD_eq_getElem?_getD, -UInt8.toNat_or] at h2
     · refine lcz1 ?_
       exact L43 _ key op val true (iWs s p + 1) rfl ⟨by omega, by omega, by rw [k3]; unfold aW; rw [if_pos h1, decide_eq_true h2, if_pos h2]⟩
     exact L43 _ key op val false (iWs s p) rfl ⟨by omega, by omega, by rw [k3]; unfold aW; rw [if_pos h1, decide_eq_false (by omega), if_neg (by omega)]⟩
   have L24 : ∀ (mm : Nat) (key op : Bs) (p : Nat), 0 = mm → (i < p ∧ p + op.length ≤ s.length ∧ op.length ≤ 2 ∧ iAttrC s i = aV s key op (iWs s (p + op.length))) → W118.C K 24 (mkS 262 [(0, (.ptr 0 0)), (2, (.ptr 1 0)), (4, (.str key)), (6, (.str op))] [(1, .blk 105 [(.str []), (.str []), (.str []), (.bool false)]), (0, .blk 94 [(.str s), (.nat p), (.nat d), (.bool a)])] 2) := by
    intro mm
    induction mm using Nat.strongRecOn with
    | _ mm ih =>
     intro key op p hm hI
     obtain ⟨k1, k2, k3, k4⟩ := hI
     have q1 := iWs_le s (p + op.length) k2
     have q2 := iWs_ge s (p + op.length)
     refine W118.atC hD (X := have a0 : Out := .val (.tup [(.agg [(.str []), (.str []), (.str []), (.bool false)]), .ifx]); have a1 := p + op.length; have a2 := s.length ≤ 1000000; (p + op.length ≤ 9223372036854775807) ∧ a2 ∧ (p + op.length ≤ s.length) ∧ cond (decide (s.length ≤ iWs s a1)) (K a0 (some (.blk 94 [(.str s), (.nat (iWs s a1)), (.nat d), (.bool a)]))) ((iWs s a1 < s.length) ∧ cond (decide (bat s (iWs s a1) = 39)) (a2 ∧ (iWs s a1 ≤ s.length) ∧ optK (iStr s (iWs s a1)) (fun v3 => (iWs s a1 < v3.2 ∧ v3.2 ≤ s.length ∧ v3.1.length ≤ 4 * (v3.2 - (iWs s a1))) → (W118).C K 36 (mkS 262 [(0, (.ptr 0 0)), (2, (.ptr 1 0)), (4, (.str key)), (6, (.str op)), (7, (.str v3.1))] [(1, .blk 105 [(.str []), (.str []), (.str []), (.bool false)]), (0, .blk 94 [(.str s), (.nat v3.2), (.nat d), (.bool a)])] 2)) (∀ j4 : Nat, K a0 (some (.blk 94 [(.str s), (.nat j4), (.nat d), (.bool a)])))) (cond (decide (bat s (iWs s a1) = 34)) (a2 ∧ (iWs s a1 ≤ s.length) ∧ optK (iStr s (iWs s a1)) (fun v5 => (iWs s a1 < v5.2 ∧ v5.2 ≤ s.length ∧ v5.1.length ≤ 4 * (v5.2 - (iWs s a1))) → (W118).C K 36 (mkS 262 [(0, (.ptr 0 0)), (2, (.ptr 1 0)), (4, (.str key)), (6, (.str op)), (7, (.str v5.1))] [(1, .blk 105 [(.str []), (.str []), (.str []), (.bool false)]), (0, .blk 94 [(.str s), (.nat v5.2), (.nat d), (.bool a)])] 2)) (∀ j6 : Nat, K a0 (some (.blk 94 [(.str s), (.nat j6), (.nat d), (.bool a)])))) (a2 ∧ (iWs s a1 ≤ s.length) ∧ optK (iIdent s (iWs s a1)) (fun v7 => (iWs s a1 < v7.2 ∧ v7.2 ≤ s.length ∧ v7.1.length ≤ 4 * (v7.2 - (iWs s a1))) → (W118).C K 36 (mkS 262 [(0, (.ptr 0 0)), (2, (.ptr 1 0)), (4, (.str key)), (6, (.str op)), (7, (.str v7.1))] [(1, .blk 105 [(.str []), (.str []), (.str []), (.bool false)]), (0, .blk 94 [(.str s), (.nat v7.2), (.nat d), (.bool a)])] 2)) (∀ j8 : Nat, K a0 (some (.blk 94 [(.str s), (.nat j8), (.nat d), (.bool a)]))))))) (by kernel_rfl) ?_
     refine lcz1 ?_
     refine lcz1 (lcz1 ?_)
     refine cndI ?_ ?_ <;> intro h1 <;> simp -failIfUnchanged [-List.getD_eq_getElem?_getD, -UInt8.toNat_or] at h1
     · exact opt_none hk (by rw [k4]; unfold aV; rw [if_neg (by omega)]) _
     refine lcz1 ?_
     refine cndI ?_ ?_ <;> intro h2 <;> simp -failIfUnchanged [-List.getD_eq_getElem?_getD, -UInt8.toNat_or] at h2
     · refine lcz1 (lcz1 ?_)
       refine optI (fun v3 h3 => ?_) (fun h3 => ?_)
       ·
        intro h4
        simp -failIfUnchanged [-List.getD_eq_getElem?_getD, -UInt8.toNat_or] at h4
        exact L36 _ key op v3.1 v3.2 rfl ⟨by omega, by omega, by rw [k4]; exact aV_some h1 (by rw [if_pos (.inl h2)]; exact h3)⟩
       intro j4
       exact opt_none hk (by rw [k4]; exact aV_none h1 (by rw [if_pos (.inl h2)]; exact h3)) _
     refine cndI (fun h3 => ?_) (fun h3 => ?_)
     · simp -failIfUnchanged [-List.getD_eq_getElem?_getD, -UInt8.toNat_or] at h3
       refine lcz1 (lcz1 ?_)
       refine optI (fun v5 h4 => ?_) (fun h4 => ?_)
       ·
        intro h5
        simp -failIfUnchanged [-List.getD_eq_getElem?_getD, -UInt8.toNat_or] at h5
        exact L36 _ key op v5.1 v5.2 rfl ⟨by omega, by omega, by rw [k4]; exact aV_some h1 (by rw [if_pos (.inr h3)]; exact h4)⟩
       intro j6
       exact opt_none hk (by rw [k4]; exact aV_none h1 (by rw [if_pos (.inr h3)]; exact h4)) _
     simp -failIfUnchanged [-List.getD_eq_getElem?_getD, -UInt8.toNat_or] at h3
     refine lcz1 (lcz1 ?_)
     refine optI (fun v7 h4 => ?_) (fun h4 => ?_)
     ·
      intro h5
      simp -failIfUnchanged [-List.getD_eq_getElem?_getD, -UInt8.toNat_or] at h5
      exact L36 _ key op v7.1 v7.2 rfl ⟨by omega, by omega, by rw [k4]; exact aV_some h1 (by rw [if_neg (by omega)]; exact h4)⟩
     intro j8
     exact opt_none hk (by rw [k4]; exact aV_none h1 (by rw [if_neg (by omega)]; exact h4)) _
   refine W118.entry rfl (X := have a0 : Out := .val (.tup [(.agg [(.str []), (.str []), (.str []), (.bool false)]), .ifx]); have a1 : Option SB := some (.blk 94 [(.str s), (.nat i), (.nat d), (.bool a)]); cond (decide (s.length ≤ i)) (K a0 a1) ((i < s.length) ∧ cond (!(decide (bat s i = 91))) (K a0 a1) ((i + 1 ≤ 9223372036854775807) ∧ (s.length ≤ 1000000) ∧ (i + 1 ≤ s.length) ∧ (s.length ≤ 1000000) ∧ (iWs s (i + 1) ≤ s.length) ∧ optK (iIdent s (iWs s (i + 1))) (fun v1 => (iWs s (i + 1) < v1.2 ∧ v1.2 ≤ s.length ∧ v1.1.length ≤ 4 * (v1.2 - (iWs s (i + 1)))) → (v1.1.length ≤ 1000000000) ∧ (s.length ≤ 1000000) ∧ (v1.2 ≤ s.length) ∧ cond (decide (s.length ≤ iWs s v1.2)) (K a0 (some (.blk 94 [(.str s), (.nat (iWs s v1.2)), (.nat d), (.bool a)]))) ((iWs s v1.2 < s.length) ∧ cond (decide (bat s (iWs s v1.2) = 93)) ((iWs s v1.2 + 1 ≤ 9223372036854775807) ∧ K (.val (.tup [(.agg [(.str (low v1.1)), (.str []), (.str []), (.bool false)]), .nilif])) (some (.blk 94 [(.str s), (.nat (iWs s v1.2 + 1)), (.nat d), (.bool a)]))) ((iWs s v1.2 + 2 ≤ 9223372036854775807) ∧ cond (decide (s.length ≤ iWs s v1.2 + 2)) (K a0 (some (.blk 94 [(.str s), (.nat (iWs s v1.2)), (.nat d), (.bool a)]))) ((iWs s v1.2 + 2 ≤ 9223372036854775807) ∧ (iWs s v1.2 ≤ iWs s v1.2 + 2 ∧ iWs s v1.2 + 2 ≤ s.length) ∧ (0 < ((s.take (iWs s v1.2 + 2)).drop (iWs s v1.2)).length) ∧ cond (decide (bat ((s.take (iWs s v1.2 + 2)).drop (iWs s v1.2)) 0 = 61)) ((W118).C K 24 (mkS 262 [(0, (.ptr 0 0)), (2, (.ptr 1 0)), (4, (.str (low v1.1))), (6, (.str [61]))] [(1, .blk 105 [(.str []), (.str []), (.str []), (.bool false)]), (0, .blk 94 [(.str s), (.nat (iWs s v1.2)), (.nat d), (.bool a)])] 2)) ((1 < ((s.take (iWs s v1.2 + 2)).drop (iWs s v1.2)).length) ∧ cond (!(decide (bat ((s.take (iWs s v1.2 + 2)).drop (iWs s v1.2)) 1 = 61))) (K a0 (some (.blk 94 [(.str s), (.nat (iWs s v1.2)), (.nat d), (.bool a)]))) ((W118).C K 24 (mkS 262 [(0, (.ptr 0 0)), (2, (.ptr 1 0)), (4, (.str (low v1.1))), (6, (.str ((s.take (iWs s v1.2 + 2)).drop (iWs s v1.2))))] [(1, .blk 105 [(.str []), (.str []), (.str []), (.bool false)]), (0, .blk 94 [(.str s), (.nat (iWs s v1.2)), (.nat d), (.bool a)])] 2))))))) (∀ j2 : Nat, K a0 (some (.blk 94 [(.str s), (.nat j2), (.nat d), (.bool a)])))))) (by kernel_rfl) ?_
   refine cndI ?_ ?_ <;> intro h1 <;> simp -failIfUnchanged [-List.getD_eq_getElem?_getD, -UInt8.toNat_or] at h1
   · exfalso
     omega
   refine lcz1 ?_
   refine cndI ?_ ?_ <;> intro h2 <;> simp -failIfUnchanged [-List.getD_eq_getElem?_getD, -UInt8.toNat_or] at h2
   · exfalso
     omega
   refine lcz1 ?_
   refine lcz1 (lcz1 ?_)
   refine lcz1 (lcz1 ?_)
   refine optI (fun v1 h3 => ?_) (fun h3 => ?_)
   ·
    intro h4
    simp -failIfUnchanged [-List.getD_eq_getElem?_getD, -UInt8.toNat_or] at h4
    refine lcz1 ?_
    refine lcz1 (lcz1 ?_)
    refine cndI ?_ ?_ <;> intro h5 <;> simp -failIfUnchanged [-List.getD_eq_getElem?_getD, -UInt8.toNat_or] at h5
    · exact opt_none hk (by rw [iAttrC_id h3, if_neg (by omega)]) _
    refine lcz1 ?_
    refine cndI ?_ ?_ <;> intro h6 <;> simp -failIfUnchanged [-List.getD_eq_getElem?_getD, -UInt8.toNat_or] at h6
    · refine lcz1 ?_
      have w1 := iWs_ge s (i + 1)
      have w2 := iWs_ge s v1.2
      have w3 := iWs_le s v1.2 (by omega)
      have e : iAttrC s i = some ((low v1.1, [], [], false), iWs s v1.2 + 1) := by rw [iAttrC_id h3, if_pos h5, if_pos h6]
      have q := opt_some hk e ⟨by dsimp only; omega, by dsimp only; omega⟩
      dsimp only at q
      exact q
    refine lcz1 ?_
    refine cndI ?_ ?_ <;> intro h7 <;> simp -failIfUnchanged [-List.getD_eq_getElem?_getD, -UInt8.toNat_or] at h7
    · exact opt_none hk (by rw [iAttrC_id h3, if_pos h5, if_neg h6, if_neg (by omega)]) _
    refine lcz1 ?_
    refine lcz1 ?_
    refine lcz1 ?_
    refine cndI ?_ ?_ <;> intro h8 <;> simp -failIfUnchanged [-List.getD_eq_getElem?_getD, -UInt8.toNat_or] at h8
    · have w1 := iWs_ge s (i + 1)
      have w2 := iWs_ge s v1.2
      have w3 := iWs_le s v1.2 (by omega)
      obtain ⟨b1, b2⟩ := cut2b (s := s) (p := iWs s v1.2) (by omega)
      rw [b1] at h8
      exact L24 _ (low v1.1) [61] (iWs s v1.2) rfl ⟨by omega, by simp only [List.length_singleton]; omega, by simp, by rw [iAttrC_id h3, if_pos h5, if_neg h6, if_pos ⟨h7, .inl h8⟩, if_pos h8, if_pos h8]; rfl⟩
    refine lcz1 ?_
    refine cndI ?_ ?_ <;> intro h9 <;> simp -failIfUnchanged [-List.getD_eq_getElem?_getD, -UInt8.toNat_or] at h9
    · obtain ⟨b1, b2⟩ := cut2b (s := s) (p := iWs s v1.2) (by omega)
      rw [b1] at h8
      rw [b2] at h9
      exact opt_none hk (by rw [iAttrC_id h3, if_pos h5, if_neg h6, if_neg (by omega)]) _
    have w1 := iWs_ge s (i + 1)
    have w2 := iWs_ge s v1.2
    have w3 := iWs_le s v1.2 (by omega)
    obtain ⟨b1, b2⟩ := cut2b (s := s) (p := iWs s v1.2) (by omega)
    rw [b1] at h8
    rw [b2] at h9
    rw [cut2 (show iWs s v1.2 + 2 ≤ s.length from by omega)]
    exact L24 _ (low v1.1) [s.getD (iWs s v1.2) 0, s.getD (iWs s v1.2 + 1) 0] (iWs s v1.2) rfl ⟨by omega, by simp only [List.length_cons, List.length_nil]; omega, by simp, by rw [iAttrC_id h3, if_pos h5, if_neg h6, if_pos ⟨h7, .inr h9⟩, if_neg h8, if_neg h8]; rfl⟩
   intro j2
   exact opt_none hk (by unfold iAttrC; rw [h3]) _
 exact hP.elim
end
end Go.Proofs.YtengepcafdnalaaGreatDoor
