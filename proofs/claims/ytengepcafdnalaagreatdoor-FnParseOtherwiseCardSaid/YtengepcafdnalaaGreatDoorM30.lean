/-
  Parts of the proof that the law FnParseOtherwise holds for every input (texts Lj). Conditions: none.
-/
import Derived.Test.YtengepcafdnalaaGreatDoorM29
namespace Go.Proofs.YtengepcafdnalaaGreatDoor
section
open Go Go.RowKit
set_option maxRecDepth 20000
def VI : CSel -> Nat
 | .tag _ => 1
 | .cls _ => 2
 | .idn _ => 3
 | .attr _ _ _ _ => 4
 | .nth _ _ _ _ => 5
 | .only _ => 6
 | .empty => 7
 | .root => 8
 | .input => 9
 | .link => 10
 | .enabled => 11
 | .disabled => 12
 | .checked => 13
 | .lang _ => 14
 | .contains _ _ => 15
 | .never _ => 16
 | .rel _ _ => 17
 | .compound _ _ => 18
 | .combined _ _ _ => 19
def QW : CSel -> Bs
 | .tag k => k
 | .attr k _ _ _ => k
 | .rel n _ => n
 | _ => []
def QV : CSel -> Bs
 | .cls v => v
 | .idn v => v
 | .attr _ v _ _ => v
 | .lang v => v
 | .contains v _ => v
 | .never v => v
 | .compound _ pe => pe
 | _ => []
def Vj : CSel -> Bs
 | .attr _ _ o _ => o
 | .combined _ c _ => (YZ c.toNat)
 | _ => []
def V8 : CSel -> Int
 | .nth a _ _ _ => a
 | _ => 0
def V7 : CSel -> Int
 | .nth _ b _ _ => b
 | _ => 0
def V6 : CSel -> Bool
 | .nth _ _ l _ => l
 | _ => false
def V5 : CSel -> Bool
 | .nth _ _ _ t => t
 | .only t => t
 | _ => false
def Vi : CSel -> Bool
 | .contains _ o => o
 | _ => false
def Vk : CSel -> Bool
 | .attr _ _ _ i => i
 | _ => false
def VY : CSel -> List CSel
 | .rel _ ks => ks
 | .compound ks _ => ks
 | .combined f _ y => [f, y]
 | _ => []
def YS (x : CSel) : List SV := [.nat (VI x), .str (QW x), .str (QV x), .str (Vj x), .int .i64 (V8 x), .int .i64 (V7 x), .bool (V6 x), .bool (V5 x), .bool (Vi x), .bool (Vk x), .sl (.csels (VY x))]
def c49 (svs : List SV) (b : Option SB) (K : Out -> Option SB -> Prop) : Prop := match svs, b with
 | [.cs x], none => K (.val (.agg (YS x))) none
 | _, _ => False
def c49tag (svs : List SV) (b : Option SB) (K : Out -> Option SB -> Prop) : Prop := match svs, b with
 | [.cs (.tag k)], none => ∀ s, Cv s (.agg (YS (.tag k))) -> K (.val s) none
 | _, _ => False
noncomputable def QiV : Wk := ⟨[], Qm Tryz.f49, false, false, [.cell 2 76], [76], [], []⟩
theorem has49 : Has 49 := hsf Tryz.f49
theorem Ql3 : Sat 49 c49tag := by
 have hD : Qe QiV.D := Qe.nil
 refine QiV.sa hD Tryz.f49 fun svs b K hP => ?_
 unfold c49tag at hP
 split at hP
 . rename_i k
   have hk := hP
   refine QiV.en (K (.val (.agg [(.nat 1), (.str k), (.str []), (.str []), (.nat 0), (.nat 0), (.bool false), (.bool false), (.bool false), (.bool false), .nilsl])) none) ?_
   refine hk _ (QK ?_)
   show _ /\ _ /\ _ /\ _ /\ _ /\ _ /\ _ /\ _ /\ _ /\ _ /\ _ /\ True
   refine ⟨?_, ?_, ?_, ?_, ?_, ?_, ?_, ?_, ?_, ?_, ?_, trivial⟩
   all_goals
    intro ω v h
    first
     | exact h
     | (rw [h.nat_inv]; exact .int _ _)
     | (rw [h.nilsl_inv]; exact .slz _ _ _ rfl)
 exact hP.elim
def c49cls (svs : List SV) (b : Option SB) (K : Out -> Option SB -> Prop) : Prop := match svs, b with
 | [.cs (.cls v)], none => ∀ s, Cv s (.agg (YS (.cls v))) -> K (.val s) none
 | _, _ => False
noncomputable def QiZ : Wk := ⟨[], Qm Tryz.f49, false, false, [.cell 2 76], [76], [], []⟩
theorem Ql7 : Sat 49 c49cls := by
 have hD : Qe QiZ.D := Qe.nil
 refine QiZ.sa hD Tryz.f49 fun svs b K hP => ?_
 unfold c49cls at hP
 split at hP
 . rename_i v
   have hk := hP
   refine QiZ.en (K (.val (.agg [(.nat 2), (.str []), (.str v), (.str []), (.nat 0), (.nat 0), (.bool false), (.bool false), (.bool false), (.bool false), .nilsl])) none) ?_
   refine hk _ (QK ?_)
   show _ /\ _ /\ _ /\ _ /\ _ /\ _ /\ _ /\ _ /\ _ /\ _ /\ _ /\ True
   refine ⟨?_, ?_, ?_, ?_, ?_, ?_, ?_, ?_, ?_, ?_, ?_, trivial⟩
   all_goals
    intro ω v h
    first
     | exact h
     | (rw [h.nat_inv]; exact .int _ _)
     | (rw [h.nilsl_inv]; exact .slz _ _ _ rfl)
 exact hP.elim
def c49idn (svs : List SV) (b : Option SB) (K : Out -> Option SB -> Prop) : Prop := match svs, b with
 | [.cs (.idn v)], none => ∀ s, Cv s (.agg (YS (.idn v))) -> K (.val s) none
 | _, _ => False
noncomputable def QiY : Wk := ⟨[], Qm Tryz.f49, false, false, [.cell 2 76], [76], [], []⟩
theorem Ql6 : Sat 49 c49idn := by
 have hD : Qe QiY.D := Qe.nil
 refine QiY.sa hD Tryz.f49 fun svs b K hP => ?_
 unfold c49idn at hP
 split at hP
 . rename_i v
   have hk := hP
   refine QiY.en (K (.val (.agg [(.nat 3), (.str []), (.str v), (.str []), (.nat 0), (.nat 0), (.bool false), (.bool false), (.bool false), (.bool false), .nilsl])) none) ?_
   refine hk _ (QK ?_)
   show _ /\ _ /\ _ /\ _ /\ _ /\ _ /\ _ /\ _ /\ _ /\ _ /\ _ /\ True
   refine ⟨?_, ?_, ?_, ?_, ?_, ?_, ?_, ?_, ?_, ?_, ?_, trivial⟩
   all_goals
    intro ω v h
    first
     | exact h
     | (rw [h.nat_inv]; exact .int _ _)
     | (rw [h.nilsl_inv]; exact .slz _ _ _ rfl)
 exact hP.elim
def c49attr (svs : List SV) (b : Option SB) (K : Out -> Option SB -> Prop) : Prop := match svs, b with
 | [.cs (.attr k v o i)], none => ∀ s, Cv s (.agg (YS (.attr k v o i))) -> K (.val s) none
 | _, _ => False
noncomputable def Qgi : Wk := ⟨[], Qm Tryz.f49, false, false, [.cell 2 76], [76], [], []⟩
theorem QkN : Sat 49 c49attr := by
 have hD : Qe Qgi.D := Qe.nil
 refine Qgi.sa hD Tryz.f49 fun svs b K hP => ?_
 unfold c49attr at hP
 split at hP
 . rename_i k v o i
   have hk := hP
   refine Qgi.en (K (.val (.agg [(.nat 4), (.str k), (.str v), (.str o), (.nat 0), (.nat 0), (.bool false), (.bool false), (.bool false), (.bool i), .nilsl])) none) ?_
   refine hk _ (QK ?_)
   show _ /\ _ /\ _ /\ _ /\ _ /\ _ /\ _ /\ _ /\ _ /\ _ /\ _ /\ True
   refine ⟨?_, ?_, ?_, ?_, ?_, ?_, ?_, ?_, ?_, ?_, ?_, trivial⟩
   all_goals
    intro ω v h
    first
     | exact h
     | (rw [h.nat_inv]; exact .int _ _)
     | (rw [h.nilsl_inv]; exact .slz _ _ _ rfl)
 exact hP.elim
def c49nth (svs : List SV) (b : Option SB) (K : Out -> Option SB -> Prop) : Prop := match svs, b with
 | [.cs (.nth a b l t)], none => ∀ s, Cv s (.agg (YS (.nth a b l t))) -> K (.val s) none
 | _, _ => False
noncomputable def QiX : Wk := ⟨[], Qm Tryz.f49, false, false, [.cell 2 76], [76], [], []⟩
theorem Ql5 : Sat 49 c49nth := by
 have hD : Qe QiX.D := Qe.nil
 refine QiX.sa hD Tryz.f49 fun svs b K hP => ?_
 unfold c49nth at hP
 split at hP
 . rename_i a b l t
   have hk := hP
   refine QiX.en (K (.val (.agg [(.nat 5), (.str []), (.str []), (.str []), (.int .i64 a), (.int .i64 b), (.bool l), (.bool t), (.bool false), (.bool false), .nilsl])) none) ?_
   refine hk _ (QK ?_)
   show _ /\ _ /\ _ /\ _ /\ _ /\ _ /\ _ /\ _ /\ _ /\ _ /\ _ /\ True
   refine ⟨?_, ?_, ?_, ?_, ?_, ?_, ?_, ?_, ?_, ?_, ?_, trivial⟩
   all_goals
    intro ω v h
    first
     | exact h
     | (rw [h.nat_inv]; exact .int _ _)
     | (rw [h.nilsl_inv]; exact .slz _ _ _ rfl)
 exact hP.elim
def c49only (svs : List SV) (b : Option SB) (K : Out -> Option SB -> Prop) : Prop := match svs, b with
 | [.cs (.only t)], none => ∀ s, Cv s (.agg (YS (.only t))) -> K (.val s) none
 | _, _ => False
noncomputable def Qgf : Wk := ⟨[], Qm Tryz.f49, false, false, [.cell 2 76], [76], [], []⟩
theorem QkK : Sat 49 c49only := by
 have hD : Qe Qgf.D := Qe.nil
 refine Qgf.sa hD Tryz.f49 fun svs b K hP => ?_
 unfold c49only at hP
 split at hP
 . rename_i t
   have hk := hP
   refine Qgf.en (K (.val (.agg [(.nat 6), (.str []), (.str []), (.str []), (.nat 0), (.nat 0), (.bool false), (.bool t), (.bool false), (.bool false), .nilsl])) none) ?_
   refine hk _ (QK ?_)
   show _ /\ _ /\ _ /\ _ /\ _ /\ _ /\ _ /\ _ /\ _ /\ _ /\ _ /\ True
   refine ⟨?_, ?_, ?_, ?_, ?_, ?_, ?_, ?_, ?_, ?_, ?_, trivial⟩
   all_goals
    intro ω v h
    first
     | exact h
     | (rw [h.nat_inv]; exact .int _ _)
     | (rw [h.nilsl_inv]; exact .slz _ _ _ rfl)
 exact hP.elim
def c49empty (svs : List SV) (b : Option SB) (K : Out -> Option SB -> Prop) : Prop := match svs, b with
 | [.cs .empty], none => ∀ s, Cv s (.agg (YS .empty)) -> K (.val s) none
 | _, _ => False
noncomputable def QdV : Wk := ⟨[], Qm Tryz.f49, false, false, [.cell 2 76], [76], [], []⟩
theorem Qh9 : Sat 49 c49empty := by
 have hD : Qe QdV.D := Qe.nil
 refine QdV.sa hD Tryz.f49 fun svs b K hP => ?_
 unfold c49empty at hP
 split at hP
 .
  have hk := hP
  refine QdV.en (K (.val (.agg [(.nat 7), (.str []), (.str []), (.str []), (.nat 0), (.nat 0), (.bool false), (.bool false), (.bool false), (.bool false), .nilsl])) none) ?_
  refine hk _ (QK ?_)
  show _ /\ _ /\ _ /\ _ /\ _ /\ _ /\ _ /\ _ /\ _ /\ _ /\ _ /\ True
  refine ⟨?_, ?_, ?_, ?_, ?_, ?_, ?_, ?_, ?_, ?_, ?_, trivial⟩
  all_goals
   intro ω v h
   first
    | exact h
    | (rw [h.nat_inv]; exact .int _ _)
    | (rw [h.nilsl_inv]; exact .slz _ _ _ rfl)
 exact hP.elim
def c49root (svs : List SV) (b : Option SB) (K : Out -> Option SB -> Prop) : Prop := match svs, b with
 | [.cs .root], none => ∀ s, Cv s (.agg (YS .root)) -> K (.val s) none
 | _, _ => False
noncomputable def Qge : Wk := ⟨[], Qm Tryz.f49, false, false, [.cell 2 76], [76], [], []⟩
theorem QkJ : Sat 49 c49root := by
 have hD : Qe Qge.D := Qe.nil
 refine Qge.sa hD Tryz.f49 fun svs b K hP => ?_
 unfold c49root at hP
 split at hP
 .
  have hk := hP
  refine Qge.en (K (.val (.agg [(.nat 8), (.str []), (.str []), (.str []), (.nat 0), (.nat 0), (.bool false), (.bool false), (.bool false), (.bool false), .nilsl])) none) ?_
  refine hk _ (QK ?_)
  show _ /\ _ /\ _ /\ _ /\ _ /\ _ /\ _ /\ _ /\ _ /\ _ /\ _ /\ True
  refine ⟨?_, ?_, ?_, ?_, ?_, ?_, ?_, ?_, ?_, ?_, ?_, trivial⟩
  all_goals
   intro ω v h
   first
    | exact h
    | (rw [h.nat_inv]; exact .int _ _)
    | (rw [h.nilsl_inv]; exact .slz _ _ _ rfl)
 exact hP.elim
def c49input (svs : List SV) (b : Option SB) (K : Out -> Option SB -> Prop) : Prop := match svs, b with
 | [.cs .input], none => ∀ s, Cv s (.agg (YS .input)) -> K (.val s) none
 | _, _ => False
noncomputable def QdU : Wk := ⟨[], Qm Tryz.f49, false, false, [.cell 2 76], [76], [], []⟩
theorem Qh8 : Sat 49 c49input := by
 have hD : Qe QdU.D := Qe.nil
 refine QdU.sa hD Tryz.f49 fun svs b K hP => ?_
 unfold c49input at hP
 split at hP
 .
  have hk := hP
  refine QdU.en (K (.val (.agg [(.nat 9), (.str []), (.str []), (.str []), (.nat 0), (.nat 0), (.bool false), (.bool false), (.bool false), (.bool false), .nilsl])) none) ?_
  refine hk _ (QK ?_)
  show _ /\ _ /\ _ /\ _ /\ _ /\ _ /\ _ /\ _ /\ _ /\ _ /\ _ /\ True
  refine ⟨?_, ?_, ?_, ?_, ?_, ?_, ?_, ?_, ?_, ?_, ?_, trivial⟩
  all_goals
   intro ω v h
   first
    | exact h
    | (rw [h.nat_inv]; exact .int _ _)
    | (rw [h.nilsl_inv]; exact .slz _ _ _ rfl)
 exact hP.elim
def c49link (svs : List SV) (b : Option SB) (K : Out -> Option SB -> Prop) : Prop := match svs, b with
 | [.cs .link], none => ∀ s, Cv s (.agg (YS .link)) -> K (.val s) none
 | _, _ => False
noncomputable def Qgg : Wk := ⟨[], Qm Tryz.f49, false, false, [.cell 2 76], [76], [], []⟩
theorem QkL : Sat 49 c49link := by
 have hD : Qe Qgg.D := Qe.nil
 refine Qgg.sa hD Tryz.f49 fun svs b K hP => ?_
 unfold c49link at hP
 split at hP
 .
  have hk := hP
  refine Qgg.en (K (.val (.agg [(.nat 10), (.str []), (.str []), (.str []), (.nat 0), (.nat 0), (.bool false), (.bool false), (.bool false), (.bool false), .nilsl])) none) ?_
  refine hk _ (QK ?_)
  show _ /\ _ /\ _ /\ _ /\ _ /\ _ /\ _ /\ _ /\ _ /\ _ /\ _ /\ True
  refine ⟨?_, ?_, ?_, ?_, ?_, ?_, ?_, ?_, ?_, ?_, ?_, trivial⟩
  all_goals
   intro ω v h
   first
    | exact h
    | (rw [h.nat_inv]; exact .int _ _)
    | (rw [h.nilsl_inv]; exact .slz _ _ _ rfl)
 exact hP.elim
def c49enabled (svs : List SV) (b : Option SB) (K : Out -> Option SB -> Prop) : Prop := match svs, b with
 | [.cs .enabled], none => ∀ s, Cv s (.agg (YS .enabled)) -> K (.val s) none
 | _, _ => False
noncomputable def QaQ : Wk := ⟨[], Qm Tryz.f49, false, false, [.cell 2 76], [76], [], []⟩
theorem Qfc : Sat 49 c49enabled := by
 have hD : Qe QaQ.D := Qe.nil
 refine QaQ.sa hD Tryz.f49 fun svs b K hP => ?_
 unfold c49enabled at hP
 split at hP
 .
  have hk := hP
  refine QaQ.en (K (.val (.agg [(.nat 11), (.str []), (.str []), (.str []), (.nat 0), (.nat 0), (.bool false), (.bool false), (.bool false), (.bool false), .nilsl])) none) ?_
  refine hk _ (QK ?_)
  show _ /\ _ /\ _ /\ _ /\ _ /\ _ /\ _ /\ _ /\ _ /\ _ /\ _ /\ True
  refine ⟨?_, ?_, ?_, ?_, ?_, ?_, ?_, ?_, ?_, ?_, ?_, trivial⟩
  all_goals
   intro ω v h
   first
    | exact h
    | (rw [h.nat_inv]; exact .int _ _)
    | (rw [h.nilsl_inv]; exact .slz _ _ _ rfl)
 exact hP.elim
def c49disabled (svs : List SV) (b : Option SB) (K : Out -> Option SB -> Prop) : Prop := match svs, b with
 | [.cs .disabled], none => ∀ s, Cv s (.agg (YS .disabled)) -> K (.val s) none
 | _, _ => False
noncomputable def U4 : Wk := ⟨[], Qm Tryz.f49, false, false, [.cell 2 76], [76], [], []⟩
theorem QdZ : Sat 49 c49disabled := by
 have hD : Qe U4.D := Qe.nil
 refine U4.sa hD Tryz.f49 fun svs b K hP => ?_
 unfold c49disabled at hP
 split at hP
 .
  have hk := hP
  refine U4.en (K (.val (.agg [(.nat 12), (.str []), (.str []), (.str []), (.nat 0), (.nat 0), (.bool false), (.bool false), (.bool false), (.bool false), .nilsl])) none) ?_
  refine hk _ (QK ?_)
  show _ /\ _ /\ _ /\ _ /\ _ /\ _ /\ _ /\ _ /\ _ /\ _ /\ _ /\ True
  refine ⟨?_, ?_, ?_, ?_, ?_, ?_, ?_, ?_, ?_, ?_, ?_, trivial⟩
  all_goals
   intro ω v h
   first
    | exact h
    | (rw [h.nat_inv]; exact .int _ _)
    | (rw [h.nilsl_inv]; exact .slz _ _ _ rfl)
 exact hP.elim
def c49checked (svs : List SV) (b : Option SB) (K : Out -> Option SB -> Prop) : Prop := match svs, b with
 | [.cs .checked], none => ∀ s, Cv s (.agg (YS .checked)) -> K (.val s) none
 | _, _ => False
noncomputable def QaR : Wk := ⟨[], Qm Tryz.f49, false, false, [.cell 2 76], [76], [], []⟩
theorem Qfd : Sat 49 c49checked := by
 have hD : Qe QaR.D := Qe.nil
 refine QaR.sa hD Tryz.f49 fun svs b K hP => ?_
 unfold c49checked at hP
 split at hP
 .
  have hk := hP
  refine QaR.en (K (.val (.agg [(.nat 13), (.str []), (.str []), (.str []), (.nat 0), (.nat 0), (.bool false), (.bool false), (.bool false), (.bool false), .nilsl])) none) ?_
  refine hk _ (QK ?_)
  show _ /\ _ /\ _ /\ _ /\ _ /\ _ /\ _ /\ _ /\ _ /\ _ /\ _ /\ True
  refine ⟨?_, ?_, ?_, ?_, ?_, ?_, ?_, ?_, ?_, ?_, ?_, trivial⟩
  all_goals
   intro ω v h
   first
    | exact h
    | (rw [h.nat_inv]; exact .int _ _)
    | (rw [h.nilsl_inv]; exact .slz _ _ _ rfl)
 exact hP.elim
def c49lang (svs : List SV) (b : Option SB) (K : Out -> Option SB -> Prop) : Prop := match svs, b with
 | [.cs (.lang v)], none => ∀ s, Cv s (.agg (YS (.lang v))) -> K (.val s) none
 | _, _ => False
noncomputable def Qgh : Wk := ⟨[], Qm Tryz.f49, false, false, [.cell 2 76], [76], [], []⟩
theorem QkM : Sat 49 c49lang := by
 have hD : Qe Qgh.D := Qe.nil
 refine Qgh.sa hD Tryz.f49 fun svs b K hP => ?_
 unfold c49lang at hP
 split at hP
 . rename_i v
   have hk := hP
   refine Qgh.en (K (.val (.agg [(.nat 14), (.str []), (.str v), (.str []), (.nat 0), (.nat 0), (.bool false), (.bool false), (.bool false), (.bool false), .nilsl])) none) ?_
   refine hk _ (QK ?_)
   show _ /\ _ /\ _ /\ _ /\ _ /\ _ /\ _ /\ _ /\ _ /\ _ /\ _ /\ True
   refine ⟨?_, ?_, ?_, ?_, ?_, ?_, ?_, ?_, ?_, ?_, ?_, trivial⟩
   all_goals
    intro ω v h
    first
     | exact h
     | (rw [h.nat_inv]; exact .int _ _)
     | (rw [h.nilsl_inv]; exact .slz _ _ _ rfl)
 exact hP.elim
def c49contains (svs : List SV) (b : Option SB) (K : Out -> Option SB -> Prop) : Prop := match svs, b with
 | [.cs (.contains v o)], none => ∀ s, Cv s (.agg (YS (.contains v o))) -> K (.val s) none
 | _, _ => False
noncomputable def U5 : Wk := ⟨[], Qm Tryz.f49, false, false, [.cell 2 76], [76], [], []⟩
theorem Qd0 : Sat 49 c49contains := by
 have hD : Qe U5.D := Qe.nil
 refine U5.sa hD Tryz.f49 fun svs b K hP => ?_
 unfold c49contains at hP
 split at hP
 . rename_i v o
   have hk := hP
   refine U5.en (K (.val (.agg [(.nat 15), (.str []), (.str v), (.str []), (.nat 0), (.nat 0), (.bool false), (.bool false), (.bool o), (.bool false), .nilsl])) none) ?_
   refine hk _ (QK ?_)
   show _ /\ _ /\ _ /\ _ /\ _ /\ _ /\ _ /\ _ /\ _ /\ _ /\ _ /\ True
   refine ⟨?_, ?_, ?_, ?_, ?_, ?_, ?_, ?_, ?_, ?_, ?_, trivial⟩
   all_goals
    intro ω v h
    first
     | exact h
     | (rw [h.nat_inv]; exact .int _ _)
     | (rw [h.nilsl_inv]; exact .slz _ _ _ rfl)
 exact hP.elim
def c49never (svs : List SV) (b : Option SB) (K : Out -> Option SB -> Prop) : Prop := match svs, b with
 | [.cs (.never v)], none => ∀ s, Cv s (.agg (YS (.never v))) -> K (.val s) none
 | _, _ => False
noncomputable def QdT : Wk := ⟨[], Qm Tryz.f49, false, false, [.cell 2 76], [76], [], []⟩
theorem Qh7 : Sat 49 c49never := by
 have hD : Qe QdT.D := Qe.nil
 refine QdT.sa hD Tryz.f49 fun svs b K hP => ?_
 unfold c49never at hP
 split at hP
 . rename_i v
   have hk := hP
   refine QdT.en (K (.val (.agg [(.nat 16), (.str []), (.str v), (.str []), (.nat 0), (.nat 0), (.bool false), (.bool false), (.bool false), (.bool false), .nilsl])) none) ?_
   refine hk _ (QK ?_)
   show _ /\ _ /\ _ /\ _ /\ _ /\ _ /\ _ /\ _ /\ _ /\ _ /\ _ /\ True
   refine ⟨?_, ?_, ?_, ?_, ?_, ?_, ?_, ?_, ?_, ?_, ?_, trivial⟩
   all_goals
    intro ω v h
    first
     | exact h
     | (rw [h.nat_inv]; exact .int _ _)
     | (rw [h.nilsl_inv]; exact .slz _ _ _ rfl)
 exact hP.elim
def c49rel (svs : List SV) (b : Option SB) (K : Out -> Option SB -> Prop) : Prop := match svs, b with
 | [.cs (.rel n ks)], none => ∀ s, Cv s (.agg (YS (.rel n ks))) -> K (.val s) none
 | _, _ => False
noncomputable def QiW : Wk := ⟨[], Qm Tryz.f49, false, false, [.cell 2 76], [76], [], []⟩
theorem Ql4 : Sat 49 c49rel := by
 have hD : Qe QiW.D := Qe.nil
 refine QiW.sa hD Tryz.f49 fun svs b K hP => ?_
 unfold c49rel at hP
 split at hP
 . rename_i n ks
   have hk := hP
   refine QiW.en (K (.val (.agg [(.nat 17), (.str n), (.str []), (.str []), (.nat 0), (.nat 0), (.bool false), (.bool false), (.bool false), (.bool false), (.sl (.csels ks))])) none) ?_
   refine hk _ (QK ?_)
   show _ /\ _ /\ _ /\ _ /\ _ /\ _ /\ _ /\ _ /\ _ /\ _ /\ _ /\ True
   refine ⟨?_, ?_, ?_, ?_, ?_, ?_, ?_, ?_, ?_, ?_, ?_, trivial⟩
   all_goals
    intro ω v h
    first
     | exact h
     | (rw [h.nat_inv]; exact .int _ _)
     | (rw [h.nilsl_inv]; exact .slz _ _ _ rfl)
 exact hP.elim
def c49compound (svs : List SV) (b : Option SB) (K : Out -> Option SB -> Prop) : Prop := match svs, b with
 | [.cs (.compound ks pe)], none => ∀ s, Cv s (.agg (YS (.compound ks pe))) -> K (.val s) none
 | _, _ => False
noncomputable def U6 : Wk := ⟨[], Qm Tryz.f49, false, false, [.cell 2 76], [76], [], []⟩
theorem Qd1 : Sat 49 c49compound := by
 have hD : Qe U6.D := Qe.nil
 refine U6.sa hD Tryz.f49 fun svs b K hP => ?_
 unfold c49compound at hP
 split at hP
 . rename_i ks pe
   have hk := hP
   refine U6.en (K (.val (.agg [(.nat 18), (.str []), (.str pe), (.str []), (.nat 0), (.nat 0), (.bool false), (.bool false), (.bool false), (.bool false), (.sl (.csels ks))])) none) ?_
   refine hk _ (QK ?_)
   show _ /\ _ /\ _ /\ _ /\ _ /\ _ /\ _ /\ _ /\ _ /\ _ /\ _ /\ True
   refine ⟨?_, ?_, ?_, ?_, ?_, ?_, ?_, ?_, ?_, ?_, ?_, trivial⟩
   all_goals
    intro ω v h
    first
     | exact h
     | (rw [h.nat_inv]; exact .int _ _)
     | (rw [h.nilsl_inv]; exact .slz _ _ _ rfl)
 exact hP.elim
def c49combined (svs : List SV) (b : Option SB) (K : Out -> Option SB -> Prop) : Prop := match svs, b with
 | [.cs (.combined f c y)], none => ∀ s, Cv s (.agg (YS (.combined f c y))) -> K (.val s) none
 | _, _ => False
noncomputable def U7 : Wk := ⟨[], Qm Tryz.f49, false, false, [.cell 2 76], [76], [], []⟩
theorem Qd2 : Sat 49 c49combined := by
 have hD : Qe U7.D := Qe.nil
 refine U7.sa hD Tryz.f49 fun svs b K hP => ?_
 unfold c49combined at hP
 split at hP
 . rename_i f c y
   have hk := hP
   refine U7.en (K (.val (.agg [(.nat 19), (.str []), (.str []), (.str (YZ ((c.toNat : Nat) : Int))), (.nat 0), (.nat 0), (.bool false), (.bool false), (.bool false), (.bool false), (.sl (.csels [f, y]))])) none) ?_
   refine hk _ (QK ?_)
   show _ /\ _ /\ _ /\ _ /\ _ /\ _ /\ _ /\ _ /\ _ /\ _ /\ _ /\ True
   refine ⟨?_, ?_, ?_, ?_, ?_, ?_, ?_, ?_, ?_, ?_, ?_, trivial⟩
   all_goals
    intro ω v h
    first
     | exact h
     | (rw [h.nat_inv]; exact .int _ _)
     | (rw [h.nilsl_inv]; exact .slz _ _ _ rfl)
 exact hP.elim
theorem QkA (x : CSel) : (SV.agg (YS x)).lt 0 = true := rfl
theorem sat49 : Sat 49 c49 := by
 intro g0 w M ω svs args b K hS hn hr hP
 unfold c49 at hP
 split at hP
 rename_i x
 have key : ∀ {P : Spec}, Sat 49 P -> P [.cs x] none (fun o b' => ∃ s s', o = .val s /\ s'.lt 0 = true /\ (∀ ω v, Rel ω s v -> Rel ω s' v) /\ K (.val s') b') -> Calls Tryz.prog 49 args w fun e w' => ∃ v o b', e = .returned v /\ K o b' /\ Qn5 g0 w M ω o b' v w' := by
  intro P hs h
  exact (Sat.outW (P' := fun svs b K => P svs b fun o b' => ∃ s s', o = .val s /\ s'.lt 0 = true /\ (∀ ω v, Rel ω s v -> Rel ω s' v) /\ K (.val s') b') hs fun svs b K h => h) g0 w M ω _ args none K hS hn hr h
 have go : ∀ s, Cv s (.agg (YS x)) -> ∃ s1 s', Out.val s = .val s1 /\ s'.lt 0 = true /\ (∀ ω v, Rel ω s1 v -> Rel ω s' v) /\ K (.val s') none := fun s hs => ⟨s, _, rfl, QkA x, hs, hP⟩
 cases x with
 | tag k => exact key Ql3 go
 | cls v => exact key Ql7 go
 | idn v => exact key Ql6 go
 | attr k v o i => exact key QkN go
 | nth a b l t => exact key Ql5 go
 | only t => exact key QkK go
 | empty  => exact key Qh9 go
 | root  => exact key QkJ go
 | input  => exact key Qh8 go
 | link  => exact key QkL go
 | enabled  => exact key Qfc go
 | disabled  => exact key QdZ go
 | checked  => exact key Qfd go
 | lang v => exact key QkM go
 | contains v o => exact key Qd0 go
 | never v => exact key Qh7 go
 | rel n ks => exact key Ql4 go
 | compound ks pe => exact key Qd1 go
 | combined f c y => exact key Qd2 go
 exact hP.elim
theorem QlQ (l : List Bs) (x : Bs) : Zq l x <= l.length := by unfold Zq; split <;> omega
theorem Y3 {n m : Nat} (e : n = m) : Cv (.nat n) (.nat m) := by subst e; exact fun _ _ h => h
def Qz (K : Nat) (key val op : Bs) (a b : Int) (l t ow ig : Bool) : Nat × Nat × Bs × Bs × Int × Int × Nat :=
 if K = 1 then (2, 0, key, [], 0, 0, 0) else if K = 2 then (3, 0, [], val, 0, 0, 0) else if K = 3 then (4, 0, [], val, 0, 0, 0)
 else if K = 4 then (5, Zq [[], [61], [33, 61], [126, 61], [124, 61], [94, 61], [36, 61], [42, 61]] op, key, val, 0, 0, if ig = true then 1 else 0)
 else if K = 5 then (6, 0, [], [], a, b, Qbl l t) else if K = 6 then (7, 0, [], [], 0, 0, Qbl false t)
 else if K = 14 then (15, 0, [], val, 0, 0, 0) else if K = 15 then (if ow = true then 17 else 16, 0, [], val, 0, 0, 0) else if K = 16 then (24, 0, [], val, 0, 0, 0)
 else if K = 17 then (18 + Zq [[110, 111, 116], [104, 97, 115], [104, 97, 115, 99, 104, 105, 108, 100]] key - 1, 0, [], [], 0, 0, 0)
 else if K = 18 then (21, 0, [], val, 0, 0, 0) else if K = 19 then (22, Zq [[32], [62], [43], [126]] op, [], [], 0, 0, 0)
 else (8 + K - 7, 0, [], [], 0, 0, 0)
def Qp8 (p : Nat × Nat × Bs × Bs × Int × Int × Nat) : List SV := [.nat p.1, .nat p.2.1, .str p.2.2.1, .str p.2.2.2.1, .int .i64 p.2.2.2.2.1, .int .i64 p.2.2.2.2.2.1, .nat p.2.2.2.2.2.2, .nat 0]
def c50w (svs : List SV) (b : Option SB) (K : Out -> Option SB -> Prop) : Prop := match svs, b with
 | [.agg [.nat k, .str key, .str val, .str op, .int .i64 a, .int .i64 y, .bool l, .bool t, .bool ow, .bool ig, .sl (.csels ks)]], none => k <= 19 /\ ∀ s, Cv s (.agg (Qp8 (Qz k key val op a y l t ow ig))) -> K (.val s) none
 | _, _ => False
noncomputable def W50 : Wk := ⟨[(73, .pure c73), (74, .pure c74), (75, .pure c75), (76, .pure c76)], Qm Tryz.f50, false, false, [.cell 2 33], [33], [], []⟩
theorem has50 : Has 50 := hsf Tryz.f50
theorem QmU {p q : Prop} (k : q) (h : p := by first | omega | (simp; done) | (simp; omega) | (simp; assumption)) : p /\ q := ⟨h, k⟩
theorem QqR : Sat 50 c50w := by
 have hD : Qe W50.D := (Qe.cons has73 sat73 (Qe.cons has74 sat74 (Qe.cons has75 sat75 (Qe.cons has76 sat76 Qe.nil))))
 refine W50.sa hD Tryz.f50 fun svs b K hP => ?_
 unfold c50w at hP
 split at hP
 . rename_i k key val op a y l t ow ig ks
   obtain ⟨h01, hk⟩ := hP
   have w1 : Zq [[110, 111, 116], [104, 97, 115], [104, 97, 115, 99, 104, 105, 108, 100]] key <= 3 := QlQ _ _
   refine W50.en (have a0 : SV := .nat (Zq [[], [61], [33, 61], [126, 61], [124, 61], [94, 61], [36, 61], [42, 61]] op); have a1 : SV := .sl (.strs [[], [61], [33, 61], [126, 61], [124, 61], [94, 61], [36, 61], [42, 61]]); have a2 : SV := .agg [(.nat 22), (.nat (Zq [[32], [62], [43], [126]] op)), (.str []), (.str []), (.nat 0), (.nat 0), (.nat 0), (.nat 0)]; have a3 : SV := .agg [(.nat 5), a0, (.str key), (.str val), (.nat 0), (.nat 0), (.nat 0), (.nat 0)]; have a4 : SV := .agg [(.nat 6), (.nat 0), (.str []), (.str []), (.int .i64 a), (.int .i64 y), (.nat (Qbl l t)), (.nat 0)]; have a5 := ((True /\ True /\ True) /\ SV.lts 0 [a1, (.str op)] = true /\ ([[], [61], [33, 61], [126, 61], [124, 61], [94, 61], [36, 61], [42, 61]].length <= 1000000) /\ True) /\ (a0 : SV) = a0; have a7 := Zq [[110, 111, 116], [104, 97, 115], [104, 97, 115, 99, 104, 105, 108, 100]] key; have a8 := (True) /\ ((.ptr 1 3) : SV) = (.ptr 1 3); have a9 := (True) /\ ((.str op) : SV) = (.str op); have a10 := (True) /\ SV.lts 0 [] = true /\ True; have a11 := ((True /\ True /\ True) /\ SV.lts 0 [(.bool l), (.bool t)] = true /\ True) /\ ((.nat (Qbl l t)) : SV) = (.nat (Qbl l t)); have a12 : SV := .sl (.strs [[32], [62], [43], [126]]); have a6 := ((True /\ True /\ True) /\ SV.lts 0 [a12, (.str op)] = true /\ ([[32], [62], [43], [126]].length <= 1000000) /\ True) /\ ((.nat (Zq [[32], [62], [43], [126]] op)) : SV) = (.nat (Zq [[32], [62], [43], [126]] op)); have a13 := (True) /\ ((.ptr 1 1) : SV) = (.ptr 1 1); have a14 := (True) /\ ((.str key) : SV) = (.str key); have a15 := (True) /\ ((.ptr 1 2) : SV) = (.ptr 1 2); have a16 := (True) /\ ((.str val) : SV) = (.str val); have a17 := (True) /\ (a3 : SV) = a3; have a18 := (True) /\ ((.int .i64 a) : SV) = (.int .i64 a); have a19 := (True) /\ ((.int .i64 y) : SV) = (.int .i64 y); cond (decide (k = 1)) (K (.val (.agg [(.nat 2), (.nat 0), (.str key), (.str []), (.nat 0), (.nat 0), (.nat 0), (.nat 0)])) none) (cond (decide (k = 2)) (K (.val (.agg [(.nat 3), (.nat 0), (.str []), (.str val), (.nat 0), (.nat 0), (.nat 0), (.nat 0)])) none) (cond (decide (k = 3)) (K (.val (.agg [(.nat 4), (.nat 0), (.str []), (.str val), (.nat 0), (.nat 0), (.nat 0), (.nat 0)])) none) (cond (decide (k = 4)) ((a13 /\ a13 /\ a13 /\ True) /\ (a14 /\ a14 /\ a14 /\ True) /\ (a15 /\ a15 /\ a15 /\ True) /\ (a16 /\ a16 /\ a16 /\ True) /\ ((a10 /\ (a1 : SV) = a1) /\ (a10 /\ (a1 : SV) = a1) /\ (a10 /\ (a1 : SV) = a1) /\ True) /\ (a8 /\ a8 /\ a8 /\ True) /\ (a9 /\ a9 /\ a9 /\ True) /\ (a5 /\ a5 /\ a5 /\ True) /\ (a17 /\ a17 /\ a17 /\ True) /\ ((zt 33).isSome = true) /\ (True /\ True /\ stC [(3, .blk 33 [(.nat 0), (.nat 0), (.str []), (.str []), (.nat 0), (.nat 0), (.nat 0), (.nat 0)]), (2, .blk 33 [(.nat 0), (.nat 0), (.str []), (.str []), (.nat 0), (.nat 0), (.nat 0), (.nat 0)]), (1, .blk 76 [(.nat k), (.str key), (.str val), (.str op), (.int .i64 a), (.int .i64 y), (.bool l), (.bool t), (.bool ow), (.bool ig), (.sl (.csels ks))])] 33 (.ptr 3 0) a3) /\ cond ig (K (.val (.agg [(.nat 5), a0, (.str key), (.str val), (.nat 0), (.nat 0), (.nat 1), (.nat 0)])) none) (K (.val a3) none)) (cond (decide (k = 5)) ((((True) /\ ((.ptr 1 4) : SV) = (.ptr 1 4)) /\ ((True) /\ ((.ptr 1 4) : SV) = (.ptr 1 4)) /\ True) /\ (a18 /\ a18 /\ True) /\ (((True) /\ ((.ptr 1 5) : SV) = (.ptr 1 5)) /\ ((True) /\ ((.ptr 1 5) : SV) = (.ptr 1 5)) /\ True) /\ (a19 /\ a19 /\ True) /\ (((True) /\ ((.ptr 1 6) : SV) = (.ptr 1 6)) /\ ((True) /\ ((.ptr 1 6) : SV) = (.ptr 1 6)) /\ True) /\ (((True) /\ ((.bool l) : SV) = (.bool l)) /\ ((True) /\ ((.bool l) : SV) = (.bool l)) /\ True) /\ (((True) /\ ((.ptr 1 7) : SV) = (.ptr 1 7)) /\ ((True) /\ ((.ptr 1 7) : SV) = (.ptr 1 7)) /\ True) /\ (((True) /\ ((.bool t) : SV) = (.bool t)) /\ ((True) /\ ((.bool t) : SV) = (.bool t)) /\ True) /\ (a11 /\ a11 /\ True) /\ (((True) /\ (a4 : SV) = a4) /\ ((True) /\ (a4 : SV) = a4) /\ True) /\ (True /\ True /\ stC [(2, .blk 33 [(.nat 0), (.nat 0), (.str []), (.str []), (.nat 0), (.nat 0), (.nat 0), (.nat 0)]), (1, .blk 76 [(.nat k), (.str key), (.str val), (.str op), (.int .i64 a), (.int .i64 y), (.bool l), (.bool t), (.bool ow), (.bool ig), (.sl (.csels ks))])] 33 (.ptr 2 0) a4) /\ K (.val a4) none) (cond (decide (k = 6)) (K (.val (.agg [(.nat 7), (.nat 0), (.str []), (.str []), (.nat 0), (.nat 0), (.nat (Qbl false t)), (.nat 0)])) none) (cond (decide (k = 14)) (K (.val (.agg [(.nat 15), (.nat 0), (.str []), (.str val), (.nat 0), (.nat 0), (.nat 0), (.nat 0)])) none) (cond (decide (k = 15)) (cond ow (K (.val (.agg [(.nat 17), (.nat 0), (.str []), (.str val), (.nat 0), (.nat 0), (.nat 0), (.nat 0)])) none) (K (.val (.agg [(.nat 16), (.nat 0), (.str []), (.str val), (.nat 0), (.nat 0), (.nat 0), (.nat 0)])) none)) (cond (decide (k = 16)) (K (.val (.agg [(.nat 24), (.nat 0), (.str []), (.str val), (.nat 0), (.nat 0), (.nat 0), (.nat 0)])) none) (cond (decide (k = 17)) (([[110, 111, 116], [104, 97, 115], [104, 97, 115, 99, 104, 105, 108, 100]].length <= 1000000) /\ (18 + a7 <= 9223372036854775807) /\ (1 <= 18 + a7 /\ 18 + a7 <= 9223372036854775807) /\ K (.val (.agg [(.nat (18 + a7 - 1)), (.nat 0), (.str []), (.str []), (.nat 0), (.nat 0), (.nat 0), (.nat 0)])) none) (cond (decide (k = 18)) (K (.val (.agg [(.nat 21), (.nat 0), (.str []), (.str val), (.nat 0), (.nat 0), (.nat 0), (.nat 0)])) none) (cond (decide (k = 19)) (((a10 /\ (a12 : SV) = a12) /\ (a10 /\ (a12 : SV) = a12) /\ True) /\ (a8 /\ a8 /\ True) /\ (a9 /\ a9 /\ True) /\ (a6 /\ a6 /\ True) /\ (((True) /\ (a2 : SV) = a2) /\ ((True) /\ (a2 : SV) = a2) /\ True) /\ (True /\ True /\ stC [(2, .blk 33 [(.nat 0), (.nat 0), (.str []), (.str []), (.nat 0), (.nat 0), (.nat 0), (.nat 0)]), (1, .blk 76 [(.nat k), (.str key), (.str val), (.str op), (.int .i64 a), (.int .i64 y), (.bool l), (.bool t), (.bool ow), (.bool ig), (.sl (.csels ks))])] 33 (.ptr 2 0) a2) /\ K (.val a2) none) ((8 + k <= 9223372036854775807) /\ (7 <= 8 + k /\ 8 + k <= 9223372036854775807) /\ K (.val (.agg [(.nat (8 + k - 7)), (.nat 0), (.str []), (.str []), (.nat 0), (.nat 0), (.nat 0), (.nat 0)])) none))))))))))))) ?_
   refine Qd ?_ ?_ <;> intro h1 <;> simp -failIfUnchanged [-List.getD_eq_getElem?_getD, -UInt8.toNat_or] at h1
   . simp [Qz, h1, -List.getD_eq_getElem?_getD] at hk
     refine hk _ (QK ?_)
     show _ /\ _ /\ _ /\ _ /\ _ /\ _ /\ _ /\ _ /\ True
     refine ⟨?_, ?_, ?_, ?_, ?_, ?_, ?_, ?_, trivial⟩
     all_goals
      intro ω v h
      first
       | exact h
       | (rw [h.nat_inv]; exact .int _ _)
       | exact Y3 (by dsimp only; omega) ω v h
   refine Qd (fun h2 => ?_) (fun h2 => ?_)
   . simp -failIfUnchanged [-List.getD_eq_getElem?_getD, -UInt8.toNat_or] at h2
     simp [Qz, h1, h2, -List.getD_eq_getElem?_getD] at hk
     refine hk _ (QK ?_)
     show _ /\ _ /\ _ /\ _ /\ _ /\ _ /\ _ /\ _ /\ True
     refine ⟨?_, ?_, ?_, ?_, ?_, ?_, ?_, ?_, trivial⟩
     all_goals
      intro ω v h
      first
       | exact h
       | (rw [h.nat_inv]; exact .int _ _)
       | exact Y3 (by dsimp only; omega) ω v h
   simp -failIfUnchanged [-List.getD_eq_getElem?_getD, -UInt8.toNat_or] at h2
   refine Qd ?_ ?_ <;> intro h3 <;> simp -failIfUnchanged [-List.getD_eq_getElem?_getD, -UInt8.toNat_or] at h3
   . simp [Qz, h1, h2, h3, -List.getD_eq_getElem?_getD] at hk
     refine hk _ (QK ?_)
     show _ /\ _ /\ _ /\ _ /\ _ /\ _ /\ _ /\ _ /\ True
     refine ⟨?_, ?_, ?_, ?_, ?_, ?_, ?_, ?_, trivial⟩
     all_goals
      intro ω v h
      first
       | exact h
       | (rw [h.nat_inv]; exact .int _ _)
       | exact Y3 (by dsimp only; omega) ω v h
   refine Qd (fun h4 => ?_) (fun h4 => ?_)
   . simp -failIfUnchanged [-List.getD_eq_getElem?_getD, -UInt8.toNat_or] at h4
     refine ⟨⟨⟨trivial, rfl⟩, ⟨trivial, rfl⟩, ⟨trivial, rfl⟩, trivial⟩, ?_⟩
     refine ⟨⟨⟨trivial, rfl⟩, ⟨trivial, rfl⟩, ⟨trivial, rfl⟩, trivial⟩, ?_⟩
     refine ⟨⟨⟨trivial, rfl⟩, ⟨trivial, rfl⟩, ⟨trivial, rfl⟩, trivial⟩, ?_⟩
     refine ⟨⟨⟨trivial, rfl⟩, ⟨trivial, rfl⟩, ⟨trivial, rfl⟩, trivial⟩, ?_⟩
     refine ⟨⟨⟨⟨trivial, rfl, trivial⟩, rfl⟩, ⟨⟨trivial, rfl, trivial⟩, rfl⟩, ⟨⟨trivial, rfl, trivial⟩, rfl⟩, trivial⟩, ?_⟩
     refine ⟨⟨⟨trivial, rfl⟩, ⟨trivial, rfl⟩, ⟨trivial, rfl⟩, trivial⟩, ?_⟩
     refine ⟨⟨⟨trivial, rfl⟩, ⟨trivial, rfl⟩, ⟨trivial, rfl⟩, trivial⟩, ?_⟩
     refine ⟨⟨⟨⟨⟨trivial, trivial, trivial⟩, rfl, ⟨(by first | omega | (simp; done) | (simp; omega) | (simp; assumption)), trivial⟩⟩, rfl⟩, ⟨⟨⟨trivial, trivial, trivial⟩, rfl, ⟨(by first | omega | (simp; done) | (simp; omega) | (simp; assumption)), trivial⟩⟩, rfl⟩, ⟨⟨⟨trivial, trivial, trivial⟩, rfl, ⟨(by first | omega | (simp; done) | (simp; omega) | (simp; assumption)), trivial⟩⟩, rfl⟩, trivial⟩, ?_⟩
     refine ⟨⟨⟨trivial, rfl⟩, ⟨trivial, rfl⟩, ⟨trivial, rfl⟩, trivial⟩, ?_⟩
     refine ⟨rfl, ?_⟩
     refine ⟨⟨trivial, trivial, rfl, Nat.le_of_ble_eq_true rfl, rfl⟩, ?_⟩
     refine Qd ?_ ?_ <;> intro h5 <;> simp -failIfUnchanged [-List.getD_eq_getElem?_getD, -UInt8.toNat_or] at h5
     . simp [Qz, h1, h2, h3, h4, h5, -List.getD_eq_getElem?_getD] at hk
       refine hk _ (QK ?_)
       show _ /\ _ /\ _ /\ _ /\ _ /\ _ /\ _ /\ _ /\ True
       refine ⟨?_, ?_, ?_, ?_, ?_, ?_, ?_, ?_, trivial⟩
       all_goals
        intro ω v h
        first
         | exact h
         | (rw [h.nat_inv]; exact .int _ _)
         | exact Y3 (by dsimp only; omega) ω v h
     simp [Qz, h1, h2, h3, h4, h5, -List.getD_eq_getElem?_getD] at hk
     refine hk _ (QK ?_)
     show _ /\ _ /\ _ /\ _ /\ _ /\ _ /\ _ /\ _ /\ True
     refine ⟨?_, ?_, ?_, ?_, ?_, ?_, ?_, ?_, trivial⟩
     all_goals
      intro ω v h
      first
       | exact h
       | (rw [h.nat_inv]; exact .int _ _)
       | exact Y3 (by dsimp only; omega) ω v h
   simp -failIfUnchanged [-List.getD_eq_getElem?_getD, -UInt8.toNat_or] at h4
   refine Qd ?_ ?_ <;> intro h5 <;> simp -failIfUnchanged [-List.getD_eq_getElem?_getD, -UInt8.toNat_or] at h5
   . refine ⟨⟨⟨trivial, rfl⟩, ⟨trivial, rfl⟩, trivial⟩, ?_⟩
     refine ⟨⟨⟨trivial, rfl⟩, ⟨trivial, rfl⟩, trivial⟩, ?_⟩
     refine ⟨⟨⟨trivial, rfl⟩, ⟨trivial, rfl⟩, trivial⟩, ?_⟩
     refine ⟨⟨⟨trivial, rfl⟩, ⟨trivial, rfl⟩, trivial⟩, ?_⟩
     refine ⟨⟨⟨trivial, rfl⟩, ⟨trivial, rfl⟩, trivial⟩, ?_⟩
     refine ⟨⟨⟨trivial, rfl⟩, ⟨trivial, rfl⟩, trivial⟩, ?_⟩
     refine ⟨⟨⟨trivial, rfl⟩, ⟨trivial, rfl⟩, trivial⟩, ?_⟩
     refine ⟨⟨⟨trivial, rfl⟩, ⟨trivial, rfl⟩, trivial⟩, ?_⟩
     refine ⟨⟨⟨⟨⟨trivial, trivial, trivial⟩, rfl, trivial⟩, rfl⟩, ⟨⟨⟨trivial, trivial, trivial⟩, rfl, trivial⟩, rfl⟩, trivial⟩, ?_⟩
     refine ⟨⟨⟨trivial, rfl⟩, ⟨trivial, rfl⟩, trivial⟩, ?_⟩
     refine ⟨⟨trivial, trivial, rfl, Nat.le_of_ble_eq_true rfl, rfl⟩, ?_⟩
     simp [Qz, h1, h2, h3, h4, h5, -List.getD_eq_getElem?_getD] at hk
     refine hk _ (QK ?_)
     show _ /\ _ /\ _ /\ _ /\ _ /\ _ /\ _ /\ _ /\ True
     refine ⟨?_, ?_, ?_, ?_, ?_, ?_, ?_, ?_, trivial⟩
     all_goals
      intro ω v h
      first
       | exact h
       | (rw [h.nat_inv]; exact .int _ _)
       | exact Y3 (by dsimp only; omega) ω v h
   refine Qd (fun h6 => ?_) (fun h6 => ?_)
   . simp -failIfUnchanged [-List.getD_eq_getElem?_getD, -UInt8.toNat_or] at h6
     simp [Qz, h1, h2, h3, h4, h5, h6, -List.getD_eq_getElem?_getD] at hk
     refine hk _ (QK ?_)
     show _ /\ _ /\ _ /\ _ /\ _ /\ _ /\ _ /\ _ /\ True
     refine ⟨?_, ?_, ?_, ?_, ?_, ?_, ?_, ?_, trivial⟩
     all_goals
      intro ω v h
      first
       | exact h
       | (rw [h.nat_inv]; exact .int _ _)
       | exact Y3 (by dsimp only; omega) ω v h
   simp -failIfUnchanged [-List.getD_eq_getElem?_getD, -UInt8.toNat_or] at h6
   refine Qd ?_ ?_ <;> intro h7 <;> simp -failIfUnchanged [-List.getD_eq_getElem?_getD, -UInt8.toNat_or] at h7
   . simp [Qz, h1, h2, h3, h4, h5, h6, h7, -List.getD_eq_getElem?_getD] at hk
     refine hk _ (QK ?_)
     show _ /\ _ /\ _ /\ _ /\ _ /\ _ /\ _ /\ _ /\ True
     refine ⟨?_, ?_, ?_, ?_, ?_, ?_, ?_, ?_, trivial⟩
     all_goals
      intro ω v h
      first
       | exact h
       | (rw [h.nat_inv]; exact .int _ _)
       | exact Y3 (by dsimp only; omega) ω v h
   refine Qd (fun h8 => ?_) (fun h8 => ?_)
   . simp -failIfUnchanged [-List.getD_eq_getElem?_getD, -UInt8.toNat_or] at h8
     refine Qd ?_ ?_ <;> intro h9 <;> simp -failIfUnchanged [-List.getD_eq_getElem?_getD, -UInt8.toNat_or] at h9
     . simp [Qz, h1, h2, h3, h4, h5, h6, h7, h8, h9, -List.getD_eq_getElem?_getD] at hk
       refine hk _ (QK ?_)
       show _ /\ _ /\ _ /\ _ /\ _ /\ _ /\ _ /\ _ /\ True
       refine ⟨?_, ?_, ?_, ?_, ?_, ?_, ?_, ?_, trivial⟩
       all_goals
        intro ω v h
        first
         | exact h
         | (rw [h.nat_inv]; exact .int _ _)
         | exact Y3 (by dsimp only; omega) ω v h
     simp [Qz, h1, h2, h3, h4, h5, h6, h7, h8, h9, -List.getD_eq_getElem?_getD] at hk
     refine hk _ (QK ?_)
     show _ /\ _ /\ _ /\ _ /\ _ /\ _ /\ _ /\ _ /\ True
     refine ⟨?_, ?_, ?_, ?_, ?_, ?_, ?_, ?_, trivial⟩
     all_goals
      intro ω v h
      first
       | exact h
       | (rw [h.nat_inv]; exact .int _ _)
       | exact Y3 (by dsimp only; omega) ω v h
   simp -failIfUnchanged [-List.getD_eq_getElem?_getD, -UInt8.toNat_or] at h8
   refine Qd ?_ ?_ <;> intro h9 <;> simp -failIfUnchanged [-List.getD_eq_getElem?_getD, -UInt8.toNat_or] at h9
   . simp [Qz, h1, h2, h3, h4, h5, h6, h7, h8, h9, -List.getD_eq_getElem?_getD] at hk
     refine hk _ (QK ?_)
     show _ /\ _ /\ _ /\ _ /\ _ /\ _ /\ _ /\ _ /\ True
     refine ⟨?_, ?_, ?_, ?_, ?_, ?_, ?_, ?_, trivial⟩
     all_goals
      intro ω v h
      first
       | exact h
       | (rw [h.nat_inv]; exact .int _ _)
       | exact Y3 (by dsimp only; omega) ω v h
   refine Qd (fun h10 => ?_) (fun h10 => ?_)
   . simp -failIfUnchanged [-List.getD_eq_getElem?_getD, -UInt8.toNat_or] at h10
     refine QmU (QmU (QmU ?_))
     simp [Qz, h1, h2, h3, h4, h5, h6, h7, h8, h9, h10, -List.getD_eq_getElem?_getD] at hk
     refine hk _ (QK ?_)
     show _ /\ _ /\ _ /\ _ /\ _ /\ _ /\ _ /\ _ /\ True
     refine ⟨?_, ?_, ?_, ?_, ?_, ?_, ?_, ?_, trivial⟩
     all_goals
      intro ω v h
      first
       | exact h
       | (rw [h.nat_inv]; exact .int _ _)
       | exact Y3 (by dsimp only; omega) ω v h
   simp -failIfUnchanged [-List.getD_eq_getElem?_getD, -UInt8.toNat_or] at h10
   refine Qd ?_ ?_ <;> intro h11 <;> simp -failIfUnchanged [-List.getD_eq_getElem?_getD, -UInt8.toNat_or] at h11
   . simp [Qz, h1, h2, h3, h4, h5, h6, h7, h8, h9, h10, h11, -List.getD_eq_getElem?_getD] at hk
     refine hk _ (QK ?_)
     show _ /\ _ /\ _ /\ _ /\ _ /\ _ /\ _ /\ _ /\ True
     refine ⟨?_, ?_, ?_, ?_, ?_, ?_, ?_, ?_, trivial⟩
     all_goals
      intro ω v h
      first
       | exact h
       | (rw [h.nat_inv]; exact .int _ _)
       | exact Y3 (by dsimp only; omega) ω v h
   refine Qd (fun h12 => ?_) (fun h12 => ?_)
   . simp -failIfUnchanged [-List.getD_eq_getElem?_getD, -UInt8.toNat_or] at h12
     refine ⟨⟨⟨⟨trivial, rfl, trivial⟩, rfl⟩, ⟨⟨trivial, rfl, trivial⟩, rfl⟩, trivial⟩, ?_⟩
     refine ⟨⟨⟨trivial, rfl⟩, ⟨trivial, rfl⟩, trivial⟩, ?_⟩
     refine ⟨⟨⟨trivial, rfl⟩, ⟨trivial, rfl⟩, trivial⟩, ?_⟩
     refine ⟨⟨⟨⟨⟨trivial, trivial, trivial⟩, rfl, ⟨(by first | omega | (simp; done) | (simp; omega) | (simp; assumption)), trivial⟩⟩, rfl⟩, ⟨⟨⟨trivial, trivial, trivial⟩, rfl, ⟨(by first | omega | (simp; done) | (simp; omega) | (simp; assumption)), trivial⟩⟩, rfl⟩, trivial⟩, ?_⟩
     refine ⟨⟨⟨trivial, rfl⟩, ⟨trivial, rfl⟩, trivial⟩, ?_⟩
     refine ⟨⟨trivial, trivial, rfl, Nat.le_of_ble_eq_true rfl, rfl⟩, ?_⟩
     simp [Qz, h1, h2, h3, h4, h5, h6, h7, h8, h9, h10, h11, h12, -List.getD_eq_getElem?_getD] at hk
     refine hk _ (QK ?_)
     show _ /\ _ /\ _ /\ _ /\ _ /\ _ /\ _ /\ _ /\ True
     refine ⟨?_, ?_, ?_, ?_, ?_, ?_, ?_, ?_, trivial⟩
     all_goals
      intro ω v h
      first
       | exact h
       | (rw [h.nat_inv]; exact .int _ _)
       | exact Y3 (by dsimp only; omega) ω v h
   simp -failIfUnchanged [-List.getD_eq_getElem?_getD, -UInt8.toNat_or] at h12
   refine QmU (QmU ?_)
   simp [Qz, h1, h2, h3, h4, h5, h6, h7, h8, h9, h10, h11, h12, -List.getD_eq_getElem?_getD] at hk
   refine hk _ (QK ?_)
   show _ /\ _ /\ _ /\ _ /\ _ /\ _ /\ _ /\ _ /\ True
   refine ⟨?_, ?_, ?_, ?_, ?_, ?_, ?_, ?_, trivial⟩
   all_goals
    intro ω v h
    first
     | exact h
     | (rw [h.nat_inv]; exact .int _ _)
     | exact Y3 (by dsimp only; omega) ω v h
 exact hP.elim
def c50 (svs : List SV) (b : Option SB) (K : Out -> Option SB -> Prop) : Prop := match svs, b with
 | [.agg [.nat k, .str key, .str val, .str op, .int .i64 a, .int .i64 y, .bool l, .bool t, .bool ow, .bool ig, .sl (.csels ks)]], none => k <= 19 /\ K (.val (.agg (Qp8 (Qz k key val op a y l t ow ig)))) none
 | _, _ => False
theorem sat50 : Sat 50 c50 := by
 refine Sat.outW QqR fun svs b K hP => ?_
 unfold c50 at hP
 split at hP
 exact ⟨hP.1, fun s hs => ⟨s, _, rfl, rfl, hs, hP.2⟩⟩
 exact hP.elim
end
end Go.Proofs.YtengepcafdnalaaGreatDoor
