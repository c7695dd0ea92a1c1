/-
  Parts of the proof that the law FnParseOne holds for every input (texts Lj). Conditions: none.
-/
import Derived.Test.YtengepcafdnalaaGreatDoorM30
namespace Go.Proofs.YtengepcafdnalaaGreatDoor
section
open Go Go.RowKit
set_option maxRecDepth 20000
def tk_K : CSel → Nat
 | .tag _ => 1
 | .cls _ => 2
 | .idn _ => 3
 | .attr _ _ _ _ => 4
 | .nth _ _ _ _ => 5
 | .only _ => 6
 | .empty => 7
 | .root => 8
 | .input => 9
 | .link => 10
 | .enabled => 11
 | .disabled => 12
 | .checked => 13
 | .lang _ => 14
 | .contains _ _ => 15
 | .never _ => 16
 | .rel _ _ => 17
 | .compound _ _ => 18
 | .combined _ _ _ => 19
def tk_key : CSel → Bs
 | .tag k => k
 | .attr k _ _ _ => k
 | .rel n _ => n
 | _ => []
def tk_val : CSel → Bs
 | .cls v => v
 | .idn v => v
 | .attr _ v _ _ => v
 | .lang v => v
 | .contains v _ => v
 | .never v => v
 | .compound _ pe => pe
 | _ => []
def tk_op : CSel → Bs
 | .attr _ _ o _ => o
 | .combined _ c _ => (utf8 c.toNat)
 | _ => []
def tk_a : CSel → Int
 | .nth a _ _ _ => a
 | _ => 0
def tk_b : CSel → Int
 | .nth _ b _ _ => b
 | _ => 0
def tk_l : CSel → Bool
 | .nth _ _ l _ => l
 | _ => false
def tk_t : CSel → Bool
 | .nth _ _ _ t => t
 | .only t => t
 | _ => false
def tk_ow : CSel → Bool
 | .contains _ o => o
 | _ => false
def tk_ig : CSel → Bool
 | .attr _ _ _ i => i
 | _ => false
def tk_ks : CSel → List CSel
 | .rel _ ks => ks
 | .compound ks _ => ks
 | .combined f _ y => [f, y]
 | _ => []
def takeC (x : CSel) : List SV := [.nat (tk_K x), .str (tk_key x), .str (tk_val x), .str (tk_op x), .int .i64 (tk_a x), .int .i64 (tk_b x), .bool (tk_l x), .bool (tk_t x), .bool (tk_ow x), .bool (tk_ig x), .sl (.csels (tk_ks x))]
def c49 (svs : List SV) (b : Option SB) (K : Out → Option SB → Prop) : Prop := match svs, b with
 | [.cs x], none => K (.val (.agg (takeC x))) none
 | _, _ => False
def c49tag (svs : List SV) (b : Option SB) (K : Out → Option SB → Prop) : Prop := match svs, b with
 | [.cs (.tag k)], none => ∀ s, Cv s (.agg (takeC (.tag k))) → K (.val s) none
 | _, _ => False
noncomputable def W49tag : Wk := ⟨[], bodyOf Tryz.f49, false, false, [.cell 2 76], [76], [], []⟩
theorem has49 : Has 49 := Has.of (fn := Tryz.f49) (by kernel_rfl) (by kernel_rfl) (by kernel_rfl)
theorem sat49tag : Sat 49 c49tag := by
 have hD : CxOk W49tag.D := CxOk.nil
 refine W49tag.sat hD (fn := Tryz.f49) (by kernel_rfl) (by kernel_rfl) (by kernel_rfl) (Nat.le_of_ble_eq_true (by kernel_rfl)) fun svs b K hP => ?_
 unfold c49tag at hP
 split at hP
 · rename_i k
   have hk := hP
   refine W49tag.entry rfl (X := K (.val (.agg [(.nat 1), (.str k), (.str []), (.str []), (.nat 0), (.nat 0), (.bool false), (.bool false), (.bool false), (.bool false), .nilsl])) none) (by kernel_rfl) ?_
   refine hk _ (conv_agg ?_)
   show _ ∧ _ ∧ _ ∧ _ ∧ _ ∧ _ ∧ _ ∧ _ ∧ _ ∧ _ ∧ _ ∧ True
   refine ⟨?_, ?_, ?_, ?_, ?_, ?_, ?_, ?_, ?_, ?_, ?_, trivial⟩
   all_goals
    intro ω v h
    first
     | exact h
     | (rw [h.nat_inv]; exact .int _ _)
     | (rw [h.nilsl_inv]; exact .slz _ _ _ rfl)
 exact hP.elim
def c49cls (svs : List SV) (b : Option SB) (K : Out → Option SB → Prop) : Prop := match svs, b with
 | [.cs (.cls v)], none => ∀ s, Cv s (.agg (takeC (.cls v))) → K (.val s) none
 | _, _ => False
noncomputable def W49cls : Wk := ⟨[], bodyOf Tryz.f49, false, false, [.cell 2 76], [76], [], []⟩
theorem sat49cls : Sat 49 c49cls := by
 have hD : CxOk W49cls.D := CxOk.nil
 refine W49cls.sat hD (fn := Tryz.f49) (by kernel_rfl) (by kernel_rfl) (by kernel_rfl) (Nat.le_of_ble_eq_true (by kernel_rfl)) fun svs b K hP => ?_
 unfold c49cls at hP
 split at hP
 · rename_i v
   have hk := hP
   refine W49cls.entry rfl (X := K (.val (.agg [(.nat 2), (.str []), (.str v), (.str []), (.nat 0), (.nat 0), (.bool false), (.bool false), (.bool false), (.bool false), .nilsl])) none) (by kernel_rfl) ?_
   refine hk _ (conv_agg ?_)
   show _ ∧ _ ∧ _ ∧ _ ∧ _ ∧ _ ∧ _ ∧ _ ∧ _ ∧ _ ∧ _ ∧ True
   refine ⟨?_, ?_, ?_, ?_, ?_, ?_, ?_, ?_, ?_, ?_, ?_, trivial⟩
   all_goals
    intro ω v h
    first
     | exact h
     | (rw [h.nat_inv]; exact .int _ _)
     | (rw [h.nilsl_inv]; exact .slz _ _ _ rfl)
 exact hP.elim
def c49idn (svs : List SV) (b : Option SB) (K : Out → Option SB → Prop) : Prop := match svs, b with
 | [.cs (.idn v)], none => ∀ s, Cv s (.agg (takeC (.idn v))) → K (.val s) none
 | _, _ => False
noncomputable def W49idn : Wk := ⟨[], bodyOf Tryz.f49, false, false, [.cell 2 76], [76], [], []⟩
theorem sat49idn : Sat 49 c49idn := by
 have hD : CxOk W49idn.D := CxOk.nil
 refine W49idn.sat hD (fn := Tryz.f49) (by kernel_rfl) (by kernel_rfl) (by kernel_rfl) (Nat.le_of_ble_eq_true (by kernel_rfl)) fun svs b K hP => ?_
 unfold c49idn at hP
 split at hP
 · rename_i v
   have hk := hP
   refine W49idn.entry rfl (X := K (.val (.agg [(.nat 3), (.str []), (.str v), (.str []), (.nat 0), (.nat 0), (.bool false), (.bool false), (.bool false), (.bool false), .nilsl])) none) (by kernel_rfl) ?_
   refine hk _ (conv_agg ?_)
   show _ ∧ _ ∧ _ ∧ _ ∧ _ ∧ _ ∧ _ ∧ _ ∧ _ ∧ _ ∧ _ ∧ True
   refine ⟨?_, ?_, ?_, ?_, ?_, ?_, ?_, ?_, ?_, ?_, ?_, trivial⟩
   all_goals
    intro ω v h
    first
     | exact h
     | (rw [h.nat_inv]; exact .int _ _)
     | (rw [h.nilsl_inv]; exact .slz _ _ _ rfl)
 exact hP.elim
def c49attr (svs : List SV) (b : Option SB) (K : Out → Option SB → Prop) : Prop := match svs, b with
 | [.cs (.attr k v o i)], none => ∀ s, Cv s (.agg (takeC (.attr k v o i))) → K (.val s) none
 | _, _ => False
noncomputable def W49attr : Wk := ⟨[], bodyOf Tryz.f49, false, false, [.cell 2 76], [76], [], []⟩
theorem sat49attr : Sat 49 c49attr := by
 have hD : CxOk W49attr.D := CxOk.nil
 refine W49attr.sat hD (fn := Tryz.f49) (by kernel_rfl) (by kernel_rfl) (by kernel_rfl) (Nat.le_of_ble_eq_true (by kernel_rfl)) fun svs b K hP => ?_
 unfold c49attr at hP
 split at hP
 · rename_i k v o i
   have hk := hP
   refine W49attr.entry rfl (X := K (.val (.agg [(.nat 4), (.str k), (.str v), (.str o), (.nat 0), (.nat 0), (.bool false), (.bool false), (.bool false), (.bool i), .nilsl])) none) (by kernel_rfl) ?_
   refine hk _ (conv_agg ?_)
   show _ ∧ _ ∧ _ ∧ _ ∧ _ ∧ _ ∧ _ ∧ _ ∧ _ ∧ _ ∧ _ ∧ True
   refine ⟨?_, ?_, ?_, ?_, ?_, ?_, ?_, ?_, ?_, ?_, ?_, trivial⟩
   all_goals
    intro ω v h
    first
     | exact h
     | (rw [h.nat_inv]; exact .int _ _)
     | (rw [h.nilsl_inv]; exact .slz _ _ _ rfl)
 exact hP.elim
def c49nth (svs : List SV) (b : Option SB) (K : Out → Option SB → Prop) : Prop := match svs, b with
 | [.cs (.nth a b l t)], none => ∀ s, Cv s (.agg (takeC (.nth a b l t))) → K (.val s) none
 | _, _ => False
noncomputable def W49nth : Wk := ⟨[], bodyOf Tryz.f49, false, false, [.cell 2 76], [76], [], []⟩
theorem sat49nth : Sat 49 c49nth := by
 have hD : CxOk W49nth.D := CxOk.nil
 refine W49nth.sat hD (fn := Tryz.f49) (by kernel_rfl) (by kernel_rfl) (by kernel_rfl) (Nat.le_of_ble_eq_true (by kernel_rfl)) fun svs b K hP => ?_
 unfold c49nth at hP
 split at hP
 · rename_i a b l t
   have hk := hP
   refine W49nth.entry rfl (X := K (.val (.agg [(.nat 5), (.str []), (.str []), (.str []), (.int .i64 a), (.int .i64 b), (.bool l), (.bool t), (.bool false), (.bool false), .nilsl])) none) (by kernel_rfl) ?_
   refine hk _ (conv_agg ?_)
   show _ ∧ _ ∧ _ ∧ _ ∧ _ ∧ _ ∧ _ ∧ _ ∧ _ ∧ _ ∧ _ ∧ True
   refine ⟨?_, ?_, ?_, ?_, ?_, ?_, ?_, ?_, ?_, ?_, ?_, trivial⟩
   all_goals
    intro ω v h
    first
     | exact h
     | (rw [h.nat_inv]; exact .int _ _)
     | (rw [h.nilsl_inv]; exact .slz _ _ _ rfl)
 exact hP.elim
def c49only (svs : List SV) (b : Option SB) (K : Out → Option SB → Prop) : Prop := match svs, b with
 | [.cs (.only t)], none => ∀ s, Cv s (.agg (takeC (.only t))) → K (.val s) none
 | _, _ => False
noncomputable def W49only : Wk := ⟨[], bodyOf Tryz.f49, false, false, [.cell 2 76], [76], [], []⟩
theorem sat49only : Sat 49 c49only := by
 have hD : CxOk W49only.D := CxOk.nil
 refine W49only.sat hD (fn := Tryz.f49) (by kernel_rfl) (by kernel_rfl) (by kernel_rfl) (Nat.le_of_ble_eq_true (by kernel_rfl)) fun svs b K hP => ?_
 unfold c49only at hP
 split at hP
 · rename_i t
   have hk := hP
   refine W49only.entry rfl (X := K (.val (.agg [(.nat 6), (.str []), (.str []), (.str []), (.nat 0), (.nat 0), (.bool false), (.bool t), (.bool false), (.bool false), .nilsl])) none) (by kernel_rfl) ?_
   refine hk _ (conv_agg ?_)
   show _ ∧ _ ∧ _ ∧ _ ∧ _ ∧ _ ∧ _ ∧ _ ∧ _ ∧ _ ∧ _ ∧ True
   refine ⟨?_, ?_, ?_, ?_, ?_, ?_, ?_, ?_, ?_, ?_, ?_, trivial⟩
   all_goals
    intro ω v h
    first
     | exact h
     | (rw [h.nat_inv]; exact .int _ _)
     | (rw [h.nilsl_inv]; exact .slz _ _ _ rfl)
 exact hP.elim
def c49empty (svs : List SV) (b : Option SB) (K : Out → Option SB → Prop) : Prop := match svs, b with
 | [.cs .empty], none => ∀ s, Cv s (.agg (takeC .empty)) → K (.val s) none
 | _, _ => False
noncomputable def W49empty : Wk := ⟨[], bodyOf Tryz.f49, false, false, [.cell 2 76], [76], [], []⟩
theorem sat49empty : Sat 49 c49empty := by
 have hD : CxOk W49empty.D := CxOk.nil
 refine W49empty.sat hD (fn := Tryz.f49) (by kernel_rfl) (by kernel_rfl) (by kernel_rfl) (Nat.le_of_ble_eq_true (by kernel_rfl)) fun svs b K hP => ?_
 unfold c49empty at hP
 split at hP
 ·
  have hk := hP
  refine W49empty.entry rfl (X := K (.val (.agg [(.nat 7), (.str []), (.str []), (.str []), (.nat 0), (.nat 0), (.bool false), (.bool false), (.bool false), (.bool false), .nilsl])) none) (by kernel_rfl) ?_
  refine hk _ (conv_agg ?_)
  show _ ∧ _ ∧ _ ∧ _ ∧ _ ∧ _ ∧ _ ∧ _ ∧ _ ∧ _ ∧ _ ∧ True
  refine ⟨?_, ?_, ?_, ?_, ?_, ?_, ?_, ?_, ?_, ?_, ?_, trivial⟩
  all_goals
   intro ω v h
   first
    | exact h
    | (rw [h.nat_inv]; exact .int _ _)
    | (rw [h.nilsl_inv]; exact .slz _ _ _ rfl)
 exact hP.elim
def c49root (svs : List SV) (b : Option SB) (K : Out → Option SB → Prop) : Prop := match svs, b with
 | [.cs .root], none => ∀ s, Cv s (.agg (takeC .root)) → K (.val s) none
 | _, _ => False
noncomputable def W49root : Wk := ⟨[], bodyOf Tryz.f49, false, false, [.cell 2 76], [76], [], []⟩
theorem sat49root : Sat 49 c49root := by
 have hD : CxOk W49root.D := CxOk.nil
 refine W49root.sat hD (fn := Tryz.f49) (by kernel_rfl) (by kernel_rfl) (by kernel_rfl) (Nat.le_of_ble_eq_true (by kernel_rfl)) fun svs b K hP => ?_
 unfold c49root at hP
 split at hP
 ·
  have hk := hP
  refine W49root.entry rfl (X := K (.val (.agg [(.nat 8), (.str []), (.str []), (.str []), (.nat 0), (.nat 0), (.bool false), (.bool false), (.bool false), (.bool false), .nilsl])) none) (by kernel_rfl) ?_
  refine hk _ (conv_agg ?_)
  show _ ∧ _ ∧ _ ∧ _ ∧ _ ∧ _ ∧ _ ∧ _ ∧ _ ∧ _ ∧ _ ∧ True
  refine ⟨?_, ?_, ?_, ?_, ?_, ?_, ?_, ?_, ?_, ?_, ?_, trivial⟩
  all_goals
   intro ω v h
   first
    | exact h
    | (rw [h.nat_inv]; exact .int _ _)
    | (rw [h.nilsl_inv]; exact .slz _ _ _ rfl)
 exact hP.elim
def c49input (svs : List SV) (b : Option SB) (K : Out → Option SB → Prop) : Prop := match svs, b with
 | [.cs .input], none => ∀ s, Cv s (.agg (takeC .input)) → K (.val s) none
 | _, _ => False
noncomputable def W49input : Wk := ⟨[], bodyOf Tryz.f49, false, false, [.cell 2 76], [76], [], []⟩
theorem sat49input : Sat 49 c49input := by
 have hD : CxOk W49input.D := CxOk.nil
 refine W49input.sat hD (fn := Tryz.f49) (by kernel_rfl) (by kernel_rfl) (by kernel_rfl) (Nat.le_of_ble_eq_true (by kernel_rfl)) fun svs b K hP => ?_
 unfold c49input at hP
 split at hP
 ·
  have hk := hP
  refine W49input.entry rfl (X := K (.val (.agg [(.nat 9), (.str []), (.str []), (.str []), (.nat 0), (.nat 0), (.bool false), (.bool false), (.bool false), (.bool false), .nilsl])) none) (by kernel_rfl) ?_
  refine hk _ (conv_agg ?_)
  show _ ∧ _ ∧ _ ∧ _ ∧ _ ∧ _ ∧ _ ∧ _ ∧ _ ∧ _ ∧ _ ∧ True
  refine ⟨?_, ?_, ?_, ?_, ?_, ?_, ?_, ?_, ?_, ?_, ?_, trivial⟩
  all_goals
   intro ω v h
   first
    | exact h
    | (rw [h.nat_inv]; exact .int _ _)
    | (rw [h.nilsl_inv]; exact .slz _ _ _ rfl)
 exact hP.elim
def c49link (svs : List SV) (b : Option SB) (K : Out → Option SB → Prop) : Prop := match svs, b with
 | [.cs .link], none => ∀ s, Cv s (.agg (takeC .link)) → K (.val s) none
 | _, _ => False
noncomputable def W49link : Wk := ⟨[], bodyOf Tryz.f49, false, false, [.cell 2 76], [76], [], []⟩
theorem sat49link : Sat 49 c49link := by
 have hD : CxOk W49link.D := CxOk.nil
 refine W49link.sat hD (fn := Tryz.f49) (by kernel_rfl) (by kernel_rfl) (by kernel_rfl) (Nat.le_of_ble_eq_true (by kernel_rfl)) fun svs b K hP => ?_
 unfold c49link at hP
 split at hP
 ·
  have hk := hP
  refine W49link.entry rfl (X := K (.val (.agg [(.nat 10), (.str []), (.str []), (.str []), (.nat 0), (.nat 0), (.bool false), (.bool false), (.bool false), (.bool false), .nilsl])) none) (by kernel_rfl) ?_
  refine hk _ (conv_agg ?_)
  show _ ∧ _ ∧ _ ∧ _ ∧ _ ∧ _ ∧ _ ∧ _ ∧ _ ∧ _ ∧ _ ∧ True
  refine ⟨?_, ?_, ?_, ?_, ?_, ?_, ?_, ?_, ?_, ?_, ?_, trivial⟩
  all_goals
   intro ω v h
   first
    | exact h
    | (rw [h.nat_inv]; exact .int _ _)
    | (rw [h.nilsl_inv]; exact .slz _ _ _ rfl)
 exact hP.elim
def c49enabled (svs : List SV) (b : Option SB) (K : Out → Option SB → Prop) : Prop := match svs, b with
 | [.cs .enabled], none => ∀ s, Cv s (.agg (takeC .enabled)) → K (.val s) none
 | _, _ => False
noncomputable def W49enabled : Wk := ⟨[], bodyOf Tryz.f49, false, false, [.cell 2 76], [76], [], []⟩
theorem sat49enabled : Sat 49 c49enabled := by
 have hD : CxOk W49enabled.D := CxOk.nil
 refine W49enabled.sat hD (fn := Tryz.f49) (by kernel_rfl) (by kernel_rfl) (by kernel_rfl) (Nat.le_of_ble_eq_true (by kernel_rfl)) fun svs b K hP => ?_
 unfold c49enabled at hP
 split at hP
 ·
  have hk := hP
  refine W49enabled.entry rfl (X := K (.val (.agg [(.nat 11), (.str []), (.str []), (.str []), (.nat 0), (.nat 0), (.bool false), (.bool false), (.bool false), (.bool false), .nilsl])) none) (by kernel_rfl) ?_
  refine hk _ (conv_agg ?_)
  show _ ∧ _ ∧ _ ∧ _ ∧ _ ∧ _ ∧ _ ∧ _ ∧ _ ∧ _ ∧ _ ∧ True
  refine ⟨?_, ?_, ?_, ?_, ?_, ?_, ?_, ?_, ?_, ?_, ?_, trivial⟩
  all_goals
   intro ω v h
   first
    | exact h
    | (rw [h.nat_inv]; exact .int _ _)
    | (rw [h.nilsl_inv]; exact .slz _ _ _ rfl)
 exact hP.elim
def c49disabled (svs : List SV) (b : Option SB) (K : Out → Option SB → Prop) : Prop := match svs, b with
 | [.cs .disabled], none => ∀ s, Cv s (.agg (takeC .disabled)) → K (.val s) none
 | _, _ => False
noncomputable def W49disabled : Wk := ⟨[], bodyOf Tryz.f49, false, false, [.cell 2 76], [76], [], []⟩
theorem sat49disabled : Sat 49 c49disabled := by
 have hD : CxOk W49disabled.D := CxOk.nil
 refine W49disabled.sat hD (fn := Tryz.f49) (by kernel_rfl) (by kernel_rfl) (by kernel_rfl) (Nat.le_of_ble_eq_true (by kernel_rfl)) fun svs b K hP => ?_
 unfold c49disabled at hP
 split at hP
 ·
  have hk := hP
  refine W49disabled.entry rfl (X := K (.val (.agg [(.nat 12), (.str []), (.str []), (.str []), (.nat 0), (.nat 0), (.bool false), (.bool false), (.bool false), (.bool false), .nilsl])) none) (by kernel_rfl) ?_
  refine hk _ (conv_agg ?_)
  show _ ∧ _ ∧ _ ∧ _ ∧ _ ∧ _ ∧ _ ∧ _ ∧ _ ∧ _ ∧ _ ∧ True
  refine ⟨?_, ?_, ?_, ?_, ?_, ?_, ?_, ?_, ?_, ?_, ?_, trivial⟩
  all_goals
   intro ω v h
   first
    | exact h
    | (rw [h.nat_inv]; exact .int _ _)
    | (rw [h.nilsl_inv]; exact .slz _ _ _ rfl)
 exact hP.elim
def c49checked (svs : List SV) (b : Option SB) (K : Out → Option SB → Prop) : Prop := match svs, b with
 | [.cs .checked], none => ∀ s, Cv s (.agg (takeC .checked)) → K (.val s) none
 | _, _ => False
noncomputable def W49checked : Wk := ⟨[], bodyOf Tryz.f49, false, false, [.cell 2 76], [76], [], []⟩
theorem sat49checked : Sat 49 c49checked := by
 have hD : CxOk W49checked.D := CxOk.nil
 refine W49checked.sat hD (fn := Tryz.f49) (by kernel_rfl) (by kernel_rfl) (by kernel_rfl) (Nat.le_of_ble_eq_true (by kernel_rfl)) fun svs b K hP => ?_
 unfold c49checked at hP
 split at hP
 ·
  have hk := hP
  refine W49checked.entry rfl (X := K (.val (.agg [(.nat 13), (.str []), (.str []), (.str []), (.nat 0), (.nat 0), (.bool false), (.bool false), (.bool false), (.bool false), .nilsl])) none) (by kernel_rfl) ?_
  refine hk _ (conv_agg ?_)
  show _ ∧ _ ∧ _ ∧ _ ∧ _ ∧ _ ∧ _ ∧ _ ∧ _ ∧ _ ∧ _ ∧ True
  refine ⟨?_, ?_, ?_, ?_, ?_, ?_, ?_, ?_, ?_, ?_, ?_, trivial⟩
  all_goals
   intro ω v h
   first
    | exact h
    | (rw [h.nat_inv]; exact .int _ _)
    | (rw [h.nilsl_inv]; exact .slz _ _ _ rfl)
 exact hP.elim
def c49lang (svs : List SV) (b : Option SB) (K : Out → Option SB → Prop) : Prop := match svs, b with
 | [.cs (.lang v)], none => ∀ s, Cv s (.agg (takeC (.lang v))) → K (.val s) none
 | _, _ => False
noncomputable def W49lang : Wk := ⟨[], bodyOf Tryz.f49, false, false, [.cell 2 76], [76], [], []⟩
theorem sat49lang : Sat 49 c49lang := by
 have hD : CxOk W49lang.D := CxOk.nil
 refine W49lang.sat hD (fn := Tryz.f49) (by kernel_rfl) (by kernel_rfl) (by kernel_rfl) (Nat.le_of_ble_eq_true (by kernel_rfl)) fun svs b K hP => ?_
 unfold c49lang at hP
 split at hP
 · rename_i v
   have hk := hP
   refine W49lang.entry rfl (X := K (.val (.agg [(.nat 14), (.str []), (.str v), (.str []), (.nat 0), (.nat 0), (.bool false), (.bool false), (.bool false), (.bool false), .nilsl])) none) (by kernel_rfl) ?_
   refine hk _ (conv_agg ?_)
   show _ ∧ _ ∧ _ ∧ _ ∧ _ ∧ _ ∧ _ ∧ _ ∧ _ ∧ _ ∧ _ ∧ True
   refine ⟨?_, ?_, ?_, ?_, ?_, ?_, ?_, ?_, ?_, ?_, ?_, trivial⟩
   all_goals
    intro ω v h
    first
     | exact h
     | (rw [h.nat_inv]; exact .int _ _)
     | (rw [h.nilsl_inv]; exact .slz _ _ _ rfl)
 exact hP.elim
def c49contains (svs : List SV) (b : Option SB) (K : Out → Option SB → Prop) : Prop := match svs, b with
 | [.cs (.contains v o)], none => ∀ s, Cv s (.agg (takeC (.contains v o))) → K (.val s) none
 | _, _ => False
noncomputable def W49contains : Wk := ⟨[], bodyOf Tryz.f49, false, false, [.cell 2 76], [76], [], []⟩
theorem sat49contains : Sat 49 c49contains := by
 have hD : CxOk W49contains.D := CxOk.nil
 refine W49contains.sat hD (fn := Tryz.f49) (by kernel_rfl) (by kernel_rfl) (by kernel_rfl) (Nat.le_of_ble_eq_true (by kernel_rfl)) fun svs b K hP => ?_
 unfold c49contains at hP
 split at hP
 · rename_i v o
   have hk := hP
   refine W49contains.entry rfl (X := K (.val (.agg [(.nat 15), (.str []), (.str v), (.str []), (.nat 0), (.nat 0), (.bool false), (.bool false), (.bool o), (.bool false), .nilsl])) none) (by kernel_rfl) ?_
   refine hk _ (conv_agg ?_)
   show _ ∧ _ ∧ _ ∧ _ ∧ _ ∧ _ ∧ _ ∧ _ ∧ _ ∧ _ ∧ _ ∧ True
   refine ⟨?_, ?_, ?_, ?_, ?_, ?_, ?_, ?_, ?_, ?_, ?_, trivial⟩
   all_goals
    intro ω v h
    first
     | exact h
     | (rw [h.nat_inv]; exact .int _ _)
     | (rw [h.nilsl_inv]; exact .slz _ _ _ rfl)
 exact hP.elim
def c49never (svs : List SV) (b : Option SB) (K : Out → Option SB → Prop) : Prop := match svs, b with
 | [.cs (.never v)], none => ∀ s, Cv s (.agg (takeC (.never v))) → K (.val s) none
 | _, _ => False
noncomputable def W49never : Wk := ⟨[], bodyOf Tryz.f49, false, false, [.cell 2 76], [76], [], []⟩
theorem sat49never : Sat 49 c49never := by
 have hD : CxOk W49never.D := CxOk.nil
 refine W49never.sat hD (fn := Tryz.f49) (by kernel_rfl) (by kernel_rfl) (by kernel_rfl) (Nat.le_of_ble_eq_true (by kernel_rfl)) fun svs b K hP => ?_
 unfold c49never at hP
 split at hP
 · rename_i v
   have hk := hP
   refine W49never.entry rfl (X := K (.val (.agg [(.nat 16), (.str []), (.str v), (.str []), (.nat 0), (.nat 0), (.bool false), (.bool false), (.bool false), (.bool false), .nilsl])) none) (by kernel_rfl) ?_
   refine hk _ (conv_agg ?_)
   show _ ∧ _ ∧ _ ∧ _ ∧ _ ∧ _ ∧ _ ∧ _ ∧ _ ∧ _ ∧ _ ∧ True
   refine ⟨?_, ?_, ?_, ?_, ?_, ?_, ?_, ?_, ?_, ?_, ?_, trivial⟩
   all_goals
    intro ω v h
    first
     | exact h
     | (rw [h.nat_inv]; exact .int _ _)
     | (rw [h.nilsl_inv]; exact .slz _ _ _ rfl)
 exact hP.elim
def c49rel (svs : List SV) (b : Option SB) (K : Out → Option SB → Prop) : Prop := match svs, b with
 | [.cs (.rel n ks)], none => ∀ s, Cv s (.agg (takeC (.rel n ks))) → K (.val s) none
 | _, _ => False
noncomputable def W49rel : Wk := ⟨[], bodyOf Tryz.f49, false, false, [.cell 2 76], [76], [], []⟩
theorem sat49rel : Sat 49 c49rel := by
 have hD : CxOk W49rel.D := CxOk.nil
 refine W49rel.sat hD (fn := Tryz.f49) (by kernel_rfl) (by kernel_rfl) (by kernel_rfl) (Nat.le_of_ble_eq_true (by kernel_rfl)) fun svs b K hP => ?_
 unfold c49rel at hP
 split at hP
 · rename_i n ks
   have hk := hP
   refine W49rel.entry rfl (X := K (.val (.agg [(.nat 17), (.str n), (.str []), (.str []), (.nat 0), (.nat 0), (.bool false), (.bool false), (.bool false), (.bool false), (.sl (.csels ks))])) none) (by kernel_rfl) ?_
   refine hk _ (conv_agg ?_)
   show _ ∧ _ ∧ _ ∧ _ ∧ _ ∧ _ ∧ _ ∧ _ ∧ _ ∧ _ ∧ _ ∧ True
   refine ⟨?_, ?_, ?_, ?_, ?_, ?_, ?_, ?_, ?_, ?_, ?_, trivial⟩
   all_goals
    intro ω v h
    first
     | exact h
     | (rw [h.nat_inv]; exact .int _ _)
     | (rw [h.nilsl_inv]; exact .slz _ _ _ rfl)
 exact hP.elim
def c49compound (svs : List SV) (b : Option SB) (K : Out → Option SB → Prop) : Prop := match svs, b with
 | [.cs (.compound ks pe)], none => ∀ s, Cv s (.agg (takeC (.compound ks pe))) → K (.val s) none
 | _, _ => False
noncomputable def W49compound : Wk := ⟨[], bodyOf Tryz.f49, false, false, [.cell 2 76], [76], [], []⟩
theorem sat49compound : Sat 49 c49compound := by
 have hD : CxOk W49compound.D := CxOk.nil
 refine W49compound.sat hD (fn := Tryz.f49) (by kernel_rfl) (by kernel_rfl) (by kernel_rfl) (Nat.le_of_ble_eq_true (by kernel_rfl)) fun svs b K hP => ?_
 unfold c49compound at hP
 split at hP
 · rename_i ks pe
   have hk := hP
   refine W49compound.entry rfl (X := K (.val (.agg [(.nat 18), (.str []), (.str pe), (.str []), (.nat 0), (.nat 0), (.bool false), (.bool false), (.bool false), (.bool false), (.sl (.csels ks))])) none) (by kernel_rfl) ?_
   refine hk _ (conv_agg ?_)
   show _ ∧ _ ∧ _ ∧ _ ∧ _ ∧ _ ∧ _ ∧ _ ∧ _ ∧ _ ∧ _ ∧ True
   refine ⟨?_, ?_, ?_, ?_, ?_, ?_, ?_, ?_, ?_, ?_, ?_, trivial⟩
   all_goals
    intro ω v h
    first
     | exact h
     | (rw [h.nat_inv]; exact .int _ _)
     | (rw [h.nilsl_inv]; exact .slz _ _ _ rfl)
 exact hP.elim
def c49combined (svs : List SV) (b : Option SB) (K : Out → Option SB → Prop) : Prop := match svs, b with
 | [.cs (.combined f c y)], none => ∀ s, Cv s (.agg (takeC (.combined f c y))) → K (.val s) none
 | _, _ => False
noncomputable def W49combined : Wk := ⟨[], bodyOf Tryz.f49, false, false, [.cell 2 76], [76], [], []⟩
theorem sat49combined : Sat 49 c49combined := by
 have hD : CxOk W49combined.D := CxOk.nil
 refine W49combined.sat hD (fn := Tryz.f49) (by kernel_rfl) (by kernel_rfl) (by kernel_rfl) (Nat.le_of_ble_eq_true (by kernel_rfl)) fun svs b K hP => ?_
 unfold c49combined at hP
 split at hP
 · rename_i f c y
   have hk := hP
   refine W49combined.entry rfl (X := K (.val (.agg [(.nat 19), (.str []), (.str []), (.str (utf8 ((c.toNat : Nat) : Int))), (.nat 0), (.nat 0), (.bool false), (.bool false), (.bool false), (.bool false), (.sl (.csels [f, y]))])) none) (by kernel_rfl) ?_
   refine hk _ (conv_agg ?_)
   show _ ∧ _ ∧ _ ∧ _ ∧ _ ∧ _ ∧ _ ∧ _ ∧ _ ∧ _ ∧ _ ∧ True
   refine ⟨?_, ?_, ?_, ?_, ?_, ?_, ?_, ?_, ?_, ?_, ?_, trivial⟩
   all_goals
    intro ω v h
    first
     | exact h
     | (rw [h.nat_inv]; exact .int _ _)
     | (rw [h.nilsl_inv]; exact .slz _ _ _ rfl)
 exact hP.elim
theorem takeC_low (x : CSel) : (SV.agg (takeC x)).lt 0 = true := rfl
theorem sat49 : Sat 49 c49 := by
 intro g0 w M ω svs args b K hS hn hr hP
 unfold c49 at hP
 split at hP
 · rename_i x
   have key : ∀ {P : Spec}, Sat 49 P → P [.cs x] none (fun o b' => ∃ s s', o = .val s ∧ s'.lt 0 = true ∧ (∀ ω v, Rel ω s v → Rel ω s' v) ∧ K (.val s') b') → Calls Tryz.prog 49 args w fun e w' => ∃ v o b', e = .returned v ∧ K o b' ∧ Left g0 w M ω o b' v w' := by
    intro P hs h
    exact (Sat.outW (P' := fun svs b K => P svs b fun o b' => ∃ s s', o = .val s ∧ s'.lt 0 = true ∧ (∀ ω v, Rel ω s v → Rel ω s' v) ∧ K (.val s') b') hs fun svs b K h => h) g0 w M ω _ args none K hS hn hr h
   have go : ∀ s, Cv s (.agg (takeC x)) → ∃ s1 s', Out.val s = .val s1 ∧ s'.lt 0 = true ∧ (∀ ω v, Rel ω s1 v → Rel ω s' v) ∧ K (.val s') none := fun s hs => ⟨s, _, rfl, takeC_low x, hs, hP⟩
   cases x with
   | tag k => exact key sat49tag go
   | cls v => exact key sat49cls go
   | idn v => exact key sat49idn go
   | attr k v o i => exact key sat49attr go
   | nth a b l t => exact key sat49nth go
   | only t => exact key sat49only go
   | empty  => exact key sat49empty go
   | root  => exact key sat49root go
   | input  => exact key sat49input go
   | link  => exact key sat49link go
   | enabled  => exact key sat49enabled go
   | disabled  => exact key sat49disabled go
   | checked  => exact key sat49checked go
   | lang v => exact key sat49lang go
   | contains v o => exact key sat49contains go
   | never v => exact key sat49never go
   | rel n ks => exact key sat49rel go
   | compound ks pe => exact key sat49compound go
   | combined f c y => exact key sat49combined go
 exact hP.elim
theorem signN_le (l : List Bs) (x : Bs) : signN l x ≤ l.length := by unfold signN; split <;> omega
theorem nat_of {n m : Nat} (e : n = m) : Cv (.nat n) (.nat m) := by subst e; exact fun _ _ h => h
def node50 (K : Nat) (key val op : Bs) (a b : Int) (l t ow ig : Bool) : Nat × Nat × Bs × Bs × Int × Int × Nat :=
 if K = 1 then (2, 0, key, [], 0, 0, 0) else if K = 2 then (3, 0, [], val, 0, 0, 0) else if K = 3 then (4, 0, [], val, 0, 0, 0)
 else if K = 4 then (5, signN [[], [61], [33, 61], [126, 61], [124, 61], [94, 61], [36, 61], [42, 61]] op, key, val, 0, 0, if ig = true then 1 else 0)
 else if K = 5 then (6, 0, [], [], a, b, flagN l t) else if K = 6 then (7, 0, [], [], 0, 0, flagN false t)
 else if K = 14 then (15, 0, [], val, 0, 0, 0) else if K = 15 then (if ow = true then 17 else 16, 0, [], val, 0, 0, 0) else if K = 16 then (24, 0, [], val, 0, 0, 0)
 else if K = 17 then (18 + signN [[110, 111, 116], [104, 97, 115], [104, 97, 115, 99, 104, 105, 108, 100]] key - 1, 0, [], [], 0, 0, 0)
 else if K = 18 then (21, 0, [], val, 0, 0, 0) else if K = 19 then (22, signN [[32], [62], [43], [126]] op, [], [], 0, 0, 0)
 else (8 + K - 7, 0, [], [], 0, 0, 0)
def nodeC (p : Nat × Nat × Bs × Bs × Int × Int × Nat) : List SV := [.nat p.1, .nat p.2.1, .str p.2.2.1, .str p.2.2.2.1, .int .i64 p.2.2.2.2.1, .int .i64 p.2.2.2.2.2.1, .nat p.2.2.2.2.2.2, .nat 0]
def c50w (svs : List SV) (b : Option SB) (K : Out → Option SB → Prop) : Prop := match svs, b with
 | [.agg [.nat k, .str key, .str val, .str op, .int .i64 a, .int .i64 y, .bool l, .bool t, .bool ow, .bool ig, .sl (.csels ks)]], none => k ≤ 19 ∧ ∀ s, Cv s (.agg (nodeC (node50 k key val op a y l t ow ig))) → K (.val s) none
 | _, _ => False
noncomputable def W50 : Wk := ⟨[(73, .pure c73), (74, .pure c74), (75, .pure c75), (76, .pure c76)], bodyOf Tryz.f50, false, false, [.cell 2 33], [33], [], []⟩
theorem has50 : Has 50 := Has.of (fn := Tryz.f50) (by kernel_rfl) (by kernel_rfl) (by kernel_rfl)
theorem ljz0 {p q : Prop} (k : q) (h : p := by first | omega | (simp; done) | (simp; omega) | (simp; assumption)) : p ∧ q := ⟨h, k⟩
theorem sat50w : Sat 50 c50w := by
 have hD : CxOk W50.D := (CxOk.cons has73 sat73 (CxOk.cons has74 sat74 (CxOk.cons has75 sat75 (CxOk.cons has76 sat76 CxOk.nil))))
 refine W50.sat hD (fn := Tryz.f50) (by kernel_rfl) (by kernel_rfl) (by kernel_rfl) (Nat.le_of_ble_eq_true (by kernel_rfl)) fun svs b K hP => ?_
 unfold c50w at hP
 split at hP
 · rename_i k key val op a y l t ow ig ks
   obtain ⟨h01, hk⟩ := hP
   have w1 : signN [[110, 111, 116], [104, 97, 115], [104, 97, 115, 99, 104, 105, 108, 100]] key ≤ 3 := signN_le _ _
   refine W50.entry rfl (X := have a0 : SV := .nat (signN [[], [61], [33, 61], [126, 61], [124, 61], [94, 61], [36, 61], [42, 61]] op); have a1 : SV := .sl (.strs [[], [61], [33, 61], [126, 61], [124, 61], [94, 61], [36, 61], [42, 61]]); have a2 : SV := .agg [(.nat 22), (.nat (signN [[32], [62], [43], [126]] op)), (.str []), (.str []), (.nat 0), (.nat 0), (.nat 0), (.nat 0)]; have a3 : SV := .agg [(.nat 5), a0, (.str key), (.str val), (.nat 0), (.nat 0), (.nat 0), (.nat 0)]; have a4 : SV := .agg [(.nat 6), (.nat 0), (.str []), (.str []), (.int .i64 a), (.int .i64 y), (.nat (flagN l t)), (.nat 0)]; have a5 := ((True ∧ True ∧ True) ∧ SV.lts 0 [a1, (.str op)] = true ∧ ([[], [61], [33, 61], [126, 61], [124, 61], [94, 61], [36, 61], [42, 61]].length ≤ 1000000) ∧ True) ∧ (a0 : SV) = a0; have a7 := signN [[110, 111, 116], [104, 97, 115], [104, 97, 115, 99, 104, 105, 108, 100]] key; have a8 := (True) ∧ ((.ptr 1 3) : SV) = (.ptr 1 3); have a9 := (True) ∧ ((.str op) : SV) = (.str op); have a10 := (True) ∧ SV.lts 0 [] = true ∧ True; have a11 := ((True ∧ True ∧ True) ∧ SV.lts 0 [(.bool l), (.bool t)] = true ∧ True) ∧ ((.nat (flagN l t)) : SV) = (.nat (flagN l t)); have a12 : SV := .sl (.strs [[32], [62], [43], [126]]); have a6 := ((True ∧ True ∧ True) ∧ SV.lts 0 [a12, (.str op)] = true ∧ ([[32], [62], [43], [126]].length ≤ 1000000) ∧ True) ∧ ((.nat (signN [[32], [62], [43], [126]] op)) : SV) = (.nat (signN [[32], [62], [43], [126]] op)); have a13 := (True) ∧ ((.ptr 1 1) : SV) = (.ptr 1 1); have a14 := (True) ∧ ((.str key) : SV) = (.str key); have a15 := (True) ∧ ((.ptr 1 2) : SV) = (.ptr 1 2); have a16 := (True) ∧ ((.str val) : SV) = (.str val); have a17 := (True) ∧ (a3 : SV) = a3; have a18 := (True) ∧ ((.int .i64 a) : SV) = (.int .i64 a); have a19 := (True) ∧ ((.int .i64 y) : SV) = (.int .i64 y); cond (decide (k = 1)) (K (.val (.agg [(.nat 2), (.nat 0), (.str key), (.str []), (.nat 0), (.nat 0), (.nat 0), (.nat 0)])) none) (cond (decide (k = 2)) (K (.val (.agg [(.nat 3), (.nat 0), (.str []), (.str val), (.nat 0), (.nat 0), (.nat 0), (.nat 0)])) none) (cond (decide (k = 3)) (K (.val (.agg [(.nat 4), (.nat 0), (.str []), (.str val), (.nat 0), (.nat 0), (.nat 0), (.nat 0)])) none) (cond (decide (k = 4)) ((a13 ∧ a13 ∧ a13 ∧ True) ∧ (a14 ∧ a14 ∧ a14 ∧ True) ∧ (a15 ∧ a15 ∧ a15 ∧ True) ∧ (a16 ∧ a16 ∧ a16 ∧ True) ∧ ((a10 ∧ (a1 : SV) = a1) ∧ (a10 ∧ (a1 : SV) = a1) ∧ (a10 ∧ (a1 : SV) = a1) ∧ True) ∧ (a8 ∧ a8 ∧ a8 ∧ True) ∧ (a9 ∧ a9 ∧ a9 ∧ True) ∧ (a5 ∧ a5 ∧ a5 ∧ True) ∧ (a17 ∧ a17 ∧ a17 ∧ True) ∧ ((zt 33).isSome = true) ∧ (True ∧ True ∧ stC [(3, .blk 33 [(.nat 0), (.nat 0), (.str []), (.str []), (.nat 0), (.nat 0), (.nat 0), (.nat 0)]), (2, .blk 33 [(.nat 0), (.nat 0), (.str []), (.str []), (.nat 0), (.nat 0), (.nat 0), (.nat 0)]), (1, .blk 76 [(.nat k), (.str key), (.str val), (.str op), (.int .i64 a), (.int .i64 y), (.bool l), (.bool t), (.bool ow), (.bool ig), (.sl (.csels ks))])] 33 (.ptr 3 0) a3) ∧ cond ig (K (.val (.agg [(.nat 5), a0, (.str key), (.str val), (.nat 0), (.nat 0), (.nat 1), (.nat 0)])) none) (K (.val a3) none)) (cond (decide (k = 5)) ((((True) ∧ ((.ptr 1 4) : SV) = (.ptr 1 4)) ∧ ((True) ∧ ((.ptr 1 4) : SV) = (.ptr 1 4)) ∧ True) ∧ (a18 ∧ a18 ∧ True) ∧ (((True) ∧ ((.ptr 1 5) : SV) = (.ptr 1 5)) ∧ ((True) ∧ ((.ptr 1 5) : SV) = (.ptr 1 5)) ∧ True) ∧ (a19 ∧ a19 ∧ True) ∧ (((True) ∧ ((.ptr 1 6) : SV) = (.ptr 1 6)) ∧ ((True) ∧ ((.ptr 1 6) : SV) = (.ptr 1 6)) ∧ True) ∧ (((True) ∧ ((.bool l) : SV) = (.bool l)) ∧ ((True) ∧ ((.bool l) : SV) = (.bool l)) ∧ True) ∧ (((True) ∧ ((.ptr 1 7) : SV) = (.ptr 1 7)) ∧ ((True) ∧ ((.ptr 1 7) : SV) = (.ptr 1 7)) ∧ True) ∧ (((True) ∧ ((.bool t) : SV) = (.bool t)) ∧ ((True) ∧ ((.bool t) : SV) = (.bool t)) ∧ True) ∧ (a11 ∧ a11 ∧ True) ∧ (((True) ∧ (a4 : SV) = a4) ∧ ((True) ∧ (a4 : SV) = a4) ∧ True) ∧ (True ∧ True ∧ stC [(2, .blk 33 [(.nat 0), (.nat 0), (.str []), (.str []), (.nat 0), (.nat 0), (.nat 0), (.nat 0)]), (1, .blk 76 [(.nat k), (.str key), (.str val), (.str op), (.int .i64 a), (.int .i64 y), (.bool l), (.bool t), (.bool ow), (.bool ig), (.sl (.csels ks))])] 33 (.ptr 2 0) a4) ∧ K (.val a4) none) (cond (decide (k = 6)) (K (.val (.agg [(.nat 7), (.nat 0), (.str []), (.str []), (.nat 0), (.nat 0), (.nat (flagN false t)), (.nat 0)])) none) (cond (decide (k = 14)) (K (.val (.agg [(.nat 15), (.nat 0), (.str []), (.str val), (.nat 0), (.nat 0), (.nat 0), (.nat 0)])) none) (cond (decide (k = 15)) (cond ow (K (.val (.agg [(.nat 17), (.nat 0), (.str []), (.str val), (.nat 0), (.nat 0), (.nat 0), (.nat 0)])) none) (K (.val (.agg [(.nat 16), (.nat 0), (.str []), (.str val), (.nat 0), (.nat 0), (.nat 0), (.nat 0)])) none)) (cond (decide (k = 16)) (K (.val (.agg [(.nat 24), (.nat 0), (.str []), (.str val), (.nat 0), (.nat 0), (.nat 0), (.nat 0)])) none) (cond (decide (k = 17)) (([[110, 111, 116], [104, 97, 115], [104, 97, 115, 99, 104, 105, 108, 100]].length ≤ 1000000) ∧ (18 + a7 ≤ 9223372036854775807) ∧ (1 ≤ 18 + a7 ∧ 18 + a7 ≤ 9223372036854775807) ∧ K (.val (.agg [(.nat (18 + a7 - 1)), (.nat 0), (.str []), (.str []), (.nat 0), (.nat 0), (.nat 0), (.nat 0)])) none) (cond (decide (k = 18)) (K (.val (.agg [(.nat 21), (.nat 0), (.str []), (.str val), (.nat 0), (.nat 0), (.nat 0), (.nat 0)])) none) (cond (decide (k = 19)) (((a10 ∧ (a12 : SV) = a12) ∧ (a10 ∧ (a12 : SV) = a12) ∧ True) ∧ (a8 ∧ a8 ∧ True) ∧ (a9 ∧ a9 ∧ True) ∧ (a6 ∧ a6 ∧ True) ∧ (((True) ∧ (a2 : SV) = a2) ∧ ((True) ∧ (a2 : SV) = a2) ∧ True) ∧ (True ∧ True ∧ stC [(2, .blk 33 [(.nat 0), (.nat 0), (.str []), (.str []), (.nat 0), (.nat 0), (.nat 0), (.nat 0)]), (1, .blk 76 [(.nat k), (.str key), (.str val), (.str op), (.int .i64 a), (.int .i64 y), (.bool l), (.bool t), (.bool ow), (.bool ig), (.sl (.csels ks))])] 33 (.ptr 2 0) a2) ∧ K (.val a2) none) ((8 + k ≤ 9223372036854775807) ∧ (7 ≤ 8 + k ∧ 8 + k ≤ 9223372036854775807) ∧ K (.val (.agg [(.nat (8 + k - 7)), (.nat 0), (.str []), (.str []), (.nat 0), (.nat 0), (.nat 0), (.nat 0)])) none))))))))))))) (by kernel_rfl) ?_
   refine cndI ?_ ?_ <;> intro h1 <;> simp -failIfUnchanged [-List.getD_eq_getElem?_getD, -UInt8.toNat_or] at h1
   · simp [node50, h1, -List.getD_eq_getElem?_getD] at hk
     refine hk _ (conv_agg ?_)
     show _ ∧ _ ∧ _ ∧ _ ∧ _ ∧ _ ∧ _ ∧ _ ∧ True
     refine ⟨?_, ?_, ?_, ?_, ?_, ?_, ?_, ?_, trivial⟩
     all_goals
      intro ω v h
      first
       | exact h
       | (rw [h.nat_inv]; exact .int _ _)
       | exact nat_of (by dsimp only; omega) ω v h
   refine cndI (fun h2 => ?_) (fun h2 => ?_)
   · simp -failIfUnchanged [-List.getD_eq_getElem?_getD, -UInt8.toNat_or] at h2
     simp [node50, h1, h2, -List.getD_eq_getElem?_getD] at hk
     refine hk _ (conv_agg ?_)
     show _ ∧ _ ∧ _ ∧ _ ∧ _ ∧ _ ∧ _ ∧ _ ∧ True
     refine ⟨?_, ?_, ?_, ?_, ?_, ?_, ?_, ?_, trivial⟩
     all_goals
      intro ω v h
      first
       | exact h
       | (rw [h.nat_inv]; exact .int _ _)
       | exact nat_of (by dsimp only; omega) ω v h
   simp -failIfUnchanged [-List.getD_eq_getElem?_getD, -UInt8.toNat_or] at h2
   refine cndI ?_ ?_ <;> intro h3 <;> simp -failIfUnchanged [-List.getD_eq_getElem?_getD, -UInt8.toNat_or] at h3
   · simp [node50, h1, h2, h3, -List.getD_eq_getElem?_getD] at hk
     refine hk _ (conv_agg ?_)
     show _ ∧ _ ∧ _ ∧ _ ∧ _ ∧ _ ∧ _ ∧ _ ∧ True
     refine ⟨?_, ?_, ?_, ?_, ?_, ?_, ?_, ?_, trivial⟩
     all_goals
      intro ω v h
      first
       | exact h
       | (rw [h.nat_inv]; exact .int _ _)
       | exact nat_of (by dsimp only; omega) ω v h
   refine cndI (fun h4 => ?_) (fun h4 => ?_)
   · simp -failIfUnchanged [-List.getD_eq_getElem?_getD, -UInt8.toNat_or] at h4
     refine ⟨⟨⟨trivial, rfl⟩, ⟨trivial, rfl⟩, ⟨trivial, rfl⟩, trivial⟩, ?_⟩
     refine ⟨⟨⟨trivial, rfl⟩, ⟨trivial, rfl⟩, ⟨trivial, rfl⟩, trivial⟩, ?_⟩
     refine ⟨⟨⟨trivial, rfl⟩, ⟨trivial, rfl⟩, ⟨trivial, rfl⟩, trivial⟩, ?_⟩
     refine ⟨⟨⟨trivial, rfl⟩, ⟨trivial, rfl⟩, ⟨trivial, rfl⟩, trivial⟩, ?_⟩
     refine ⟨⟨⟨⟨trivial, rfl, trivial⟩, rfl⟩, ⟨⟨trivial, rfl, trivial⟩, rfl⟩, ⟨⟨trivial, rfl, trivial⟩, rfl⟩, trivial⟩, ?_⟩
     refine ⟨⟨⟨trivial, rfl⟩, ⟨trivial, rfl⟩, ⟨trivial, rfl⟩, trivial⟩, ?_⟩
     refine ⟨⟨⟨trivial, rfl⟩, ⟨trivial, rfl⟩, ⟨trivial, rfl⟩, trivial⟩, ?_⟩
     refine ⟨⟨⟨⟨⟨trivial, trivial, trivial⟩, rfl, ⟨(by first | omega | (simp; done) | (simp; omega) | (simp; assumption)), trivial⟩⟩, rfl⟩, ⟨⟨⟨trivial, trivial, trivial⟩, rfl, ⟨(by first | omega | (simp; done) | (simp; omega) | (simp; assumption)), trivial⟩⟩, rfl⟩, ⟨⟨⟨trivial, trivial, trivial⟩, rfl, ⟨(by first | omega | (simp; done) | (simp; omega) | (simp; assumption)), trivial⟩⟩, rfl⟩, trivial⟩, ?_⟩
     refine ⟨⟨⟨trivial, rfl⟩, ⟨trivial, rfl⟩, ⟨trivial, rfl⟩, trivial⟩, ?_⟩
     refine ⟨rfl, ?_⟩
     refine ⟨⟨trivial, trivial, rfl, Nat.le_of_ble_eq_true rfl, rfl⟩, ?_⟩
     refine cndI ?_ ?_ <;> intro h5 <;> simp -failIfUnchanged [-List.getD_eq_getElem?_getD, -UInt8.toNat_or] at h5
     · simp [node50, h1, h2, h3, h4, h5, -List.getD_eq_getElem?_getD] at hk
       refine hk _ (conv_agg ?_)
       show _ ∧ _ ∧ _ ∧ _ ∧ _ ∧ _ ∧ _ ∧ _ ∧ True
       refine ⟨?_, ?_, ?_, ?_, ?_, ?_, ?_, ?_, trivial⟩
       all_goals
        intro ω v h
        first
         | exact h
         | (rw [h.nat_inv]; exact .int _ _)
         | exact nat_of (by dsimp only; omega) ω v h
     simp [node50, h1, h2, h3, h4, h5, -List.getD_eq_getElem?_getD] at hk
     refine hk _ (conv_agg ?_)
     show _ ∧ _ ∧ _ ∧ _ ∧ _ ∧ _ ∧ _ ∧ _ ∧ True
     refine ⟨?_, ?_, ?_, ?_, ?_, ?_, ?_, ?_, trivial⟩
     all_goals
      intro ω v h
      first
       | exact h
       | (rw [h.nat_inv]; exact .int _ _)
       | exact nat_of (by dsimp only; omega) ω v h
   simp -failIfUnchanged [-List.getD_eq_getElem?_getD, -UInt8.toNat_or] at h4
   refine cndI ?_ ?_ <;> intro h5 <;> simp -failIfUnchanged [-List.getD_eq_getElem?_getD, -UInt8.toNat_or] at h5
   · refine ⟨⟨⟨trivial, rfl⟩, ⟨trivial, rfl⟩, trivial⟩, ?_⟩
     refine ⟨⟨⟨trivial, rfl⟩, ⟨trivial, rfl⟩, trivial⟩, ?_⟩
     refine ⟨⟨⟨trivial, rfl⟩, ⟨trivial, rfl⟩, trivial⟩, ?_⟩
     refine ⟨⟨⟨trivial, rfl⟩, ⟨trivial, rfl⟩, trivial⟩, ?_⟩
     refine ⟨⟨⟨trivial, rfl⟩, ⟨trivial, rfl⟩, trivial⟩, ?_⟩
     refine ⟨⟨⟨trivial, rfl⟩, ⟨trivial, rfl⟩, trivial⟩, ?_⟩
     refine ⟨⟨⟨trivial, rfl⟩, ⟨trivial, rfl⟩, trivial⟩, ?_⟩
     refine ⟨⟨⟨trivial, rfl⟩, ⟨trivial, rfl⟩, trivial⟩, ?_⟩
     refine ⟨⟨⟨⟨⟨trivial, trivial, trivial⟩, rfl, trivial⟩, rfl⟩, ⟨⟨⟨trivial, trivial, trivial⟩, rfl, trivial⟩, rfl⟩, trivial⟩, ?_⟩
     refine ⟨⟨⟨trivial, rfl⟩, ⟨trivial, rfl⟩, trivial⟩, ?_⟩
     refine ⟨⟨trivial, trivial, rfl, Nat.le_of_ble_eq_true rfl, rfl⟩, ?_⟩
     simp [node50, h1, h2, h3, h4, h5, -List.getD_eq_getElem?_getD] at hk
     refine hk _ (conv_agg ?_)
     show _ ∧ _ ∧ _ ∧ _ ∧ _ ∧ _ ∧ _ ∧ _ ∧ True
     refine ⟨?_, ?_, ?_, ?_, ?_, ?_, ?_, ?_, trivial⟩
     all_goals
      intro ω v h
      first
       | exact h
       | (rw [h.nat_inv]; exact .int _ _)
       | exact nat_of (by dsimp only; omega) ω v h
   refine cndI (fun h6 => ?_) (fun h6 => ?_)
   · simp -failIfUnchanged [-List.getD_eq_getElem?_getD, -UInt8.toNat_or] at h6
     simp [node50, h1, h2, h3, h4, h5, h6, -List.getD_eq_getElem?_getD] at hk
     refine hk _ (conv_agg ?_)
     show _ ∧ _ ∧ _ ∧ _ ∧ _ ∧ _ ∧ _ ∧ _ ∧ True
     refine ⟨?_, ?_, ?_, ?_, ?_, ?_, ?_, ?_, trivial⟩
     all_goals
      intro ω v h
      first
       | exact h
       | (rw [h.nat_inv]; exact .int _ _)
       | exact nat_of (by dsimp only; omega) ω v h
   simp -failIfUnchanged [-List.getD_eq_getElem?_getD, -UInt8.toNat_or] at h6
   refine cndI ?_ ?_ <;> intro h7 <;> simp -failIfUnchanged [-List.getD_eq_getElem?_getD, -UInt8.toNat_or] at h7
   · simp [node50, h1, h2, h3, h4, h5, h6, h7, -List.getD_eq_getElem?_getD] at hk
     refine hk _ (conv_agg ?_)
     show _ ∧ _ ∧ _ ∧ _ ∧ _ ∧ _ ∧ _ ∧ _ ∧ True
     refine ⟨?_, ?_, ?_, ?_, ?_, ?_, ?_, ?_, trivial⟩
     all_goals
      intro ω v h
      first
       | exact h
       | (rw [h.nat_inv]; exact .int _ _)
       | exact nat_of (by dsimp only; omega) ω v h
   refine cndI (fun h8 => ?_) (fun h8 => ?_)
   · simp -failIfUnchanged [-List.getD_eq_getElem?_getD, -UInt8.toNat_or] at h8
     refine cndI ?_ ?_ <;> intro h9 <;> simp -failIfUnchanged [-List.getD_eq_getElem?_getD, -UInt8.toNat_or] at h9
     · simp [node50, h1, h2, h3, h4, h5, h6, h7, h8, h9, -List.getD_eq_getElem?_getD] at hk
       refine hk _ (conv_agg ?_)
       show _ ∧ _ ∧ _ ∧ _ ∧ _ ∧ _ ∧ _ ∧ _ ∧ True
       refine ⟨?_, ?_, ?_, ?_, ?_, ?_, ?_, ?_, trivial⟩
       all_goals
        intro ω v h
        first
         | exact h
         | (rw [h.nat_inv]; exact .int _ _)
         | exact nat_of (by dsimp only; omega) ω v h
     simp [node50, h1, h2, h3, h4, h5, h6, h7, h8, h9, -List.getD_eq_getElem?_getD] at hk
     refine hk _ (conv_agg ?_)
     show _ ∧ _ ∧ _ ∧ _ ∧ _ ∧ _ ∧ _ ∧ _ ∧ True
     refine ⟨?_, ?_, ?_, ?_, ?_, ?_, ?_, ?_, trivial⟩
     all_goals
      intro ω v h
      first
       | exact h
       | (rw [h.nat_inv]; exact .int _ _)
       | exact nat_of (by dsimp only; omega) ω v h
   simp -failIfUnchanged [-List.getD_eq_getElem?_getD, -UInt8.toNat_or] at h8
   refine cndI ?_ ?_ <;> intro h9 <;> simp -failIfUnchanged [-List.getD_eq_getElem?_getD, -UInt8.toNat_or] at h9
   · simp [node50, h1, h2, h3, h4, h5, h6, h7, h8, h9, -List.getD_eq_getElem?_getD] at hk
     refine hk _ (conv_agg ?_)
     show _ ∧ _ ∧ _ ∧ _ ∧ _ ∧ _ ∧ _ ∧ _ ∧ True
     refine ⟨?_, ?_, ?_, ?_, ?_, ?_, ?_, ?_, trivial⟩
     all_goals
      intro ω v h
      first
       | exact h
       | (rw [h.nat_inv]; exact .int _ _)
       | exact nat_of (by dsimp only; omega) ω v h
   refine cndI (fun h10 => ?_) (fun h10 => ?_)
   · simp -failIfUnchanged [-List.getD_eq_getElem?_getD, -UInt8.toNat_or] at h10
     refine ljz0 ?_
     refine ljz0 ?_
     refine ljz0 ?_
     simp [node50, h1, h2, h3, h4, h5, h6, h7, h8, h9, h10, -List.getD_eq_getElem?_getD] at hk
     refine hk _ (conv_agg ?_)
     show _ ∧ _ ∧ _ ∧ _ ∧ _ ∧ _ ∧ _ ∧ _ ∧ True
     refine ⟨?_, ?_, ?_, ?_, ?_, ?_, ?_, ?_, trivial⟩
     all_goals
      intro ω v h
      first
       | exact h
       | (rw [h.nat_inv]; exact .int _ _)
       | exact nat_of (by dsimp only; omega) ω v h
   simp -failIfUnchanged [-List.getD_eq_getElem?_getD, -UInt8.toNat_or] at h10
   refine cndI ?_ ?_ <;> intro h11 <;> simp -failIfUnchanged [-List.getD_eq_getElem?_getD, -UInt8.toNat_or] at h11
   · simp [node50, h1, h2, h3, h4, h5, h6, h7, h8, h9, h10, h11, -List.getD_eq_getElem?_getD] at hk
     refine hk _ (conv_agg ?_)
     show _ ∧ _ ∧ _ ∧ _ ∧ _ ∧ _ ∧ _ ∧ _ ∧ True
     refine ⟨?_, ?_, ?_, ?_, ?_, ?_, ?_, ?_, trivial⟩
     all_goals
      intro ω v h
      first
       | exact h
       | (rw [h.nat_inv]; exact .int _ _)
       | exact nat_of (by dsimp only; omega) ω v h
   refine cndI (fun h12 => ?_) (fun h12 => ?_)
   · simp -failIfUnchanged [-List.getD_eq_getElem?_getD, -UInt8.toNat_or] at h12
     refine ⟨⟨⟨⟨trivial, rfl, trivial⟩, rfl⟩, ⟨⟨trivial, rfl, trivial⟩, rfl⟩, trivial⟩, ?_⟩
     refine ⟨⟨⟨trivial, rfl⟩, ⟨trivial, rfl⟩, trivial⟩, ?_⟩
     refine ⟨⟨⟨trivial, rfl⟩, ⟨trivial, rfl⟩, trivial⟩, ?_⟩
     refine ⟨⟨⟨⟨⟨trivial, trivial, trivial⟩, rfl, ⟨(by first | omega | (simp; done) | (simp; omega) | (simp; assumption)), trivial⟩⟩, rfl⟩, ⟨⟨⟨trivial, trivial, trivial⟩, rfl, ⟨(by first | omega | (simp; done) | (simp; omega) | (simp; assumption)), trivial⟩⟩, rfl⟩, trivial⟩, ?_⟩
     refine ⟨⟨⟨trivial, rfl⟩, ⟨trivial, rfl⟩, trivial⟩, ?_⟩
     refine ⟨⟨trivial, trivial, rfl, Nat.le_of_ble_eq_true rfl, rfl⟩, ?_⟩
     simp [node50, h1, h2, h3, h4, h5, h6, h7, h8, h9, h10, h11, h12, -List.getD_eq_getElem?_getD] at hk
     refine hk _ (conv_agg ?_)
     show _ ∧ _ ∧ _ ∧ _ ∧ _ ∧ _ ∧ _ ∧ _ ∧ True
     refine ⟨?_, ?_, ?_, ?_, ?_, ?_, ?_, ?_, trivial⟩
     all_goals
      intro ω v h
      first
       | exact h
       | (rw [h.nat_inv]; exact .int _ _)
       | exact nat_of (by dsimp only; omega) ω v h
   simp -failIfUnchanged [-List.getD_eq_getElem?_getD, -UInt8.toNat_or] at h12
   refine ljz0 ?_
   refine ljz0 ?_
   simp [node50, h1, h2, h3, h4, h5, h6, h7, h8, h9, h10, h11, h12, -List.getD_eq_getElem?_getD] at hk
   refine hk _ (conv_agg ?_)
   show _ ∧ _ ∧ _ ∧ _ ∧ _ ∧ _ ∧ _ ∧ _ ∧ True
   refine ⟨?_, ?_, ?_, ?_, ?_, ?_, ?_, ?_, trivial⟩
   all_goals
    intro ω v h
    first
     | exact h
     | (rw [h.nat_inv]; exact .int _ _)
     | exact nat_of (by dsimp only; omega) ω v h
 exact hP.elim
def c50 (svs : List SV) (b : Option SB) (K : Out → Option SB → Prop) : Prop := match svs, b with
 | [.agg [.nat k, .str key, .str val, .str op, .int .i64 a, .int .i64 y, .bool l, .bool t, .bool ow, .bool ig, .sl (.csels ks)]], none => k ≤ 19 ∧ K (.val (.agg (nodeC (node50 k key val op a y l t ow ig)))) none
 | _, _ => False
theorem sat50 : Sat 50 c50 := by
 refine Sat.outW sat50w fun svs b K hP => ?_
 unfold c50 at hP
 split at hP
 · exact ⟨hP.1, fun s hs => ⟨s, _, rfl, rfl, hs, hP.2⟩⟩
 exact hP.elim
end
end Go.Proofs.YtengepcafdnalaaGreatDoor
