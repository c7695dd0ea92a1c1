/-
  Parts of the proof that the law FnParseExact holds for every input (texts Kl). Conditions: none.
-/
import Derived.Test.YtengepcafdnalaaGreatDoorM29
namespace Go.Proofs.YtengepcafdnalaaGreatDoor
section
open Go Go.RowKit
set_option maxRecDepth 20000
def Up (s : Bs) (t t' : RS) : Prop := t.p ≤ t'.p ∧ t'.p ≤ s.length + 1
theorem Up.refl {s : Bs} {t : RS} (h : t.p ≤ s.length + 1) : Up s t t := ⟨Nat.le_refl _, h⟩
theorem Up.trans {s : Bs} {a b c : RS} (h : Up s a b) (k : Up s b c) : Up s a c := ⟨Nat.le_trans h.1 k.1, k.2⟩
theorem Up.of {s : Bs} {a b a' b' : RS} (h : Up s a b) (e : a'.p ≤ a.p) (e' : b'.p = b.p) : Up s a' b' := ⟨by have := h.1; omega, by rw [e']; exact h.2⟩
theorem sSp_up (s : Bs) (t : RS) (h : t.p ≤ s.length + 1) : Up s t (sSp s t) := ⟨sSp_ge s t, sSp_le s t h⟩
theorem sRest_ge (s : Bs) (t : RS) (acc : Bs) : t.p ≤ (sRest s t acc).2.p := by
 fun_induction sRest s t acc with
 | case1 t acc h1 h2 ih => simp only [RS.go_p] at ih; omega
 | case2 t acc h1 h2 h3 ih => have := sEsc_p s t; omega
 | case3 => exact Nat.le_refl _
 | case4 => exact Nat.le_refl _
theorem sName_up (s : Bs) (t : RS) (h : t.p ≤ s.length + 1) : Up s t (sName s t).2 := by
 refine ⟨?_, sName_le s t h⟩
 unfold sName
 split
 · exact sRest_ge s (t.unI _) _
 exact Nat.le_refl _
theorem sHash_up (s : Bs) (t : RS) (h : t.p ≤ s.length + 1) : Up s t (sHash s t).2 := by
 refine ⟨?_, sHash_le s t h⟩
 unfold sHash
 repeat' split
 all_goals first | exact sRest_ge s (t.unI _) _ | exact Nat.le_refl _
theorem sStrGo_ge (s : Bs) (q : Nat) (t : RS) (acc : Bs) : t.p ≤ (sStrGo s q t acc).2.p := by
 fun_induction sStrGo s q t acc with
 | case1 => simp only [RS.go_p]; omega
 | case2 => exact Nat.le_refl _
 | case3 t acc h1 h2 h3 h4 ih => simp only [RS.go_p] at ih; omega
 | case4 t acc h1 h2 h3 h4 h5 ih => have := sEsc_p s t; omega
 | case5 t acc h1 h2 h3 h4 h5 ih =>
  refine Nat.le_trans ?_ ih
  simp only [RS.go_p]
  split <;> omega
 | case6 => exact Nat.le_refl _
theorem sValue_up (s : Bs) (t : RS) (h : t.p ≤ s.length + 1) : Up s t (sValue s t).2 := by
 refine ⟨?_, sVal_le s t h⟩
 unfold sValue
 split
 · have := sStrGo_ge s (bat s t.p) (t.go (t.p + 1)) []
   unfold sQuoted
   simp only [RS.go_p] at this
   omega
 exact (sName_up s (t.unI _) h).1
theorem sEnd_up (s : Bs) {c : Nat} (hc : c ≠ 0) (x : SelD) (k : List SelD) (t : RS) (h : t.p ≤ s.length + 1) : Up s t (sEnd s c x k t).2 := by
 unfold sEnd
 split
 · rename_i e
   have := bat_lt e hc
   exact ⟨Nat.le_succ _, by simp only [RS.go_p]; omega⟩
 exact Up.refl h
theorem sEnd_n1 (s : Bs) (c : Nat) (x : SelD) (k : List SelD) (t : RS) : (sEnd s c x k t).1.length ≤ k.length + 1 := by
 unfold sEnd
 split
 · simp [selMade, sizedD]
 simp [failL]
theorem sAttr_up (s : Bs) (t : RS) (h : t.p ≤ s.length + 1) : Up s t (sAttr s t).2 ∧ (sAttr s t).1.length ≤ 1 := by
 have u1 := sSp_up s t h
 have u2 := u1.trans (sName_up s _ u1.2)
 have u3 := u2.trans (sSp_up s _ u2.2)
 unfold sAttr
 simp only
 split
 · exact ⟨u3, by simp [failL]⟩
 split
 · rename_i e
   have := bat_lt e (by decide)
   exact ⟨⟨by have := u3.1; simp only [RS.go_p]; omega, by simp only [RS.go_p]; omega⟩, by simp [selMade, sizedD]⟩
 unfold sAttrV
 split
 · exact ⟨u3, by simp [failL]⟩
 rename_i hs
 have hg : (sSp s (sName s (sSp s t)).2).p + (sSign s (sSp s (sName s (sSp s t)).2).p).2 ≤ s.length + 1 := by
  generalize sSp s (sName s (sSp s t)).2 = w at hs ⊢
  unfold sSign at hs ⊢
  split
  · rename_i e; have := bat_lt e (by decide); simp only; omega
  rename_i e0
  rw [if_neg e0] at hs
  split
  · rename_i e
    have := bat_lt e (by decide)
    repeat' split
    all_goals (simp only; omega)
  rename_i e; rw [if_neg e] at hs; exact absurd rfl hs
 have v0 : Up s t ((sSp s (sName s (sSp s t)).2).go ((sSp s (sName s (sSp s t)).2).p + (sSign s (sSp s (sName s (sSp s t)).2).p).2)) := ⟨by have := u3.1; simp only [RS.go_p]; omega, hg⟩
 have v1 := v0.trans (sSp_up s _ v0.2)
 have v2 := v1.trans (sValue_up s _ v1.2)
 have v3 := v2.trans (sSp_up s _ v2.2)
 unfold sAttrE
 split
 · rename_i e
   have hl : (sSp s (sValue s (sSp s ((sSp s (sName s (sSp s t)).2).go ((sSp s (sName s (sSp s t)).2).p + (sSign s (sSp s (sName s (sSp s t)).2).p).2)))).2).p < s.length := by
    rcases e.2 with e | e <;> exact bat_lt e (by decide)
   have w0 : Up s t ((sSp s (sValue s (sSp s ((sSp s (sName s (sSp s t)).2).go ((sSp s (sName s (sSp s t)).2).p + (sSign s (sSp s (sName s (sSp s t)).2).p).2)))).2).go ((sSp s (sValue s (sSp s ((sSp s (sName s (sSp s t)).2).go ((sSp s (sName s (sSp s t)).2).p + (sSign s (sSp s (sName s (sSp s t)).2).p).2)))).2).p + 1)) :=
    ⟨by have := v3.1; simp only [RS.go_p]; omega, by simp only [RS.go_p]; omega⟩
   have w1 := w0.trans (sSp_up s _ w0.2)
   exact ⟨w1.trans (sEnd_up s (by decide) _ _ _ w1.2), sEnd_n1 s _ _ _ _⟩
 exact ⟨v3.trans (Up.of (sEnd_up s (by decide) _ _ (RS.unI _ _) (by simp only [RS.unI_p]; exact v3.2)) (Nat.le_refl _) rfl), sEnd_n1 s _ _ _ _⟩
theorem digS_ge (s : Bs) (t : RS) (n : Nat) (b : Bool) : t.p ≤ (digS s t n b).2.2.p := by
 fun_induction digS s t n b with
 | case1 t n b h1 ih => simp only [RS.go_p] at ih; omega
 | case2 => exact Nat.le_refl _
theorem digS_up (s : Bs) (t : RS) (n : Nat) (b : Bool) (h : t.p ≤ s.length + 1) : Up s t (digS s t n b).2.2 := ⟨digS_ge s t n b, digS_le s t n b h⟩
theorem sCountN_up (s : Bs) (a : Int) (t : RS) (h : t.p ≤ s.length + 1) : Up s t (sCountN s a t).2 := by
 have u1 := sSp_up s t h
 by_cases hc : bat s (sSp s t).p = 43 ∨ bat s (sSp s t).p = 45
 · rw [sCountN_sg hc]
   have hl : (sSp s t).p < s.length := by rcases hc with e | e <;> exact bat_lt e (by decide)
   have u2 : Up s t ((sSp s t).go ((sSp s t).p + 1)) := ⟨by have := u1.1; simp only [RS.go_p]; omega, by simp only [RS.go_p]; omega⟩
   have u3 := u2.trans (sSp_up s _ u2.2)
   have u4 := u3.trans (digS_up s _ 0 false u3.2)
   simp only
   split
   · exact u4
   exact Up.of u4 (Nat.le_refl _) rfl
 rw [sCountN_no hc]
 exact Up.of u1 (Nat.le_refl _) rfl
theorem sCountA_up (s : Bs) (sg : Int) (t : RS) (h : t.p ≤ s.length + 1) : Up s t (sCountA s sg t).2 := by
 have u1 := digS_up s t 0 false h
 unfold sCountA
 simp only
 split
 · rename_i e
   have hl : (digS s t 0 false).2.2.p < s.length := bat_pos (by intro e0; rw [e0] at e; cases e)
   have u2 : Up s t ((digS s t 0 false).2.2.go ((digS s t 0 false).2.2.p + 1)) := ⟨by have := u1.1; simp only [RS.go_p]; omega, by simp only [RS.go_p]; omega⟩
   exact u2.trans (sCountN_up s _ _ u2.2)
 split
 · exact Up.of u1 (Nat.le_refl _) rfl
 exact Up.of u1 (Nat.le_refl _) rfl
theorem wordS_le {s w : Bs} {i : Nat} (h : wordS s w i = true) : i + w.length ≤ s.length := by
 unfold wordS at h
 simp only [Bool.and_eq_true, decide_eq_true_eq] at h
 exact h.1.1
theorem sCount_up (s : Bs) (t : RS) (h : t.p ≤ s.length + 1) : Up s t (sCount s t).2 := by
 unfold sCount
 split
 · rename_i e; have := wordS_le e; simp at this; exact ⟨by simp only [RS.go_p]; omega, by simp only [RS.go_p]; omega⟩
 split
 · rename_i e; have := wordS_le e; simp at this; exact ⟨by simp only [RS.go_p]; omega, by simp only [RS.go_p]; omega⟩
 split
 · rename_i e
   have := bat_lt e (by decide)
   have u : Up s t (t.go (t.p + 1)) := ⟨by simp only [RS.go_p]; omega, by simp only [RS.go_p]; omega⟩
   exact u.trans (sCountA_up s _ _ u.2)
 split
 · rename_i e
   have := bat_lt e (by decide)
   have u : Up s t (t.go (t.p + 1)) := ⟨by simp only [RS.go_p]; omega, by simp only [RS.go_p]; omega⟩
   exact u.trans (sCountA_up s _ _ u.2)
 exact sCountA_up s _ _ h
def GB (s : Bs) (c : Nat) (G : RS → List SelD × RS) : Prop :=
 ∀ t, t.p ≤ s.length + 1 → Up s t (G t).2 ∧ (G t).1.length + c * t.p ≤ c * (G t).2.p + 6
theorem sArg_b {s : Bs} {c : Nat} {G : RS → List SelD × RS} (hG : GB s c G) (kind flag : Int) (t : RS) (h : t.p ≤ s.length + 1) :
 Up s t (sArg G s kind flag t).2 ∧ (sArg G s kind flag t).1.length + c * t.p ≤ c * (sArg G s kind flag t).2.p + 7 := by
 have u1 := sSp_up s t h
 have fin : ∀ (x : SelD) (w : RS), Up s t w → Up s t (sEnd s 41 x [] w).2 ∧ (sEnd s 41 x [] w).1.length + c * t.p ≤ c * (sEnd s 41 x [] w).2.p + 7 := by
  intro x w hw
  have a := hw.trans (sEnd_up s (c := 41) (by decide) x [] w hw.2)
  refine ⟨a, ?_⟩
  have b := sEnd_n1 s 41 x [] w
  have d := Nat.mul_le_mul_left c a.1
  simp only [List.length_nil] at b
  omega
 have bad : ∀ (w : RS), Up s t w → Up s t (failL, w.no).2 ∧ (failL, w.no).1.length + c * t.p ≤ c * (failL, w.no).2.p + 7 := by
  intro w hw
  have d := Nat.mul_le_mul_left c hw.1
  refine ⟨Up.of hw (Nat.le_refl _) rfl, ?_⟩
  simp only [failL, List.length_singleton, RS.no_p]
  omega
 unfold sArg
 simp only
 split
 · have u2 := u1.trans (sCount_up s _ u1.2)
   have u3 := u2.trans (sSp_up s _ u2.2)
   split
   · exact bad _ u3
   exact fin _ _ u3
 split
 · have g := hG ((sSp s t).unI (decide (bat s (sSp s t).p = 62) || decide (bat s (sSp s t).p = 43) || decide (bat s (sSp s t).p = 126))) (by simp only [RS.unI_p]; exact u1.2)
   have u2 : Up s t (G ((sSp s t).unI (decide (bat s (sSp s t).p = 62) || decide (bat s (sSp s t).p = 43) || decide (bat s (sSp s t).p = 126)))).2 := u1.trans (Up.of g.1 (Nat.le_refl _) rfl)
   split
   · exact bad _ u2
   have a := u2.trans (sEnd_up s (c := 41) (by decide) (nodeK kind) (G ((sSp s t).unI (decide (bat s (sSp s t).p = 62) || decide (bat s (sSp s t).p = 43) || decide (bat s (sSp s t).p = 126)))).1 _ u2.2)
   refine ⟨a, ?_⟩
   have b := sEnd_n1 s 41 (nodeK kind) (G ((sSp s t).unI (decide (bat s (sSp s t).p = 62) || decide (bat s (sSp s t).p = 43) || decide (bat s (sSp s t).p = 126)))).1 (G ((sSp s t).unI (decide (bat s (sSp s t).p = 62) || decide (bat s (sSp s t).p = 43) || decide (bat s (sSp s t).p = 126)))).2
   have d := g.2
   have d1 := Nat.mul_le_mul_left c u1.1
   have d2 := Nat.mul_le_mul_left c (sEnd_up s (c := 41) (by decide) (nodeK kind) (G ((sSp s t).unI (decide (bat s (sSp s t).p = 62) || decide (bat s (sSp s t).p = 43) || decide (bat s (sSp s t).p = 126)))).1 _ u2.2).1
   simp only [RS.unI_p] at d
   omega
 split
 · have n0 := sName_up s ((sSp s t).unI (isQ (bat s (sSp s t).p) || decide (bat s (sSp s t).p = 42))) (by simp only [RS.unI_p]; exact u1.2)
   have u2 := u1.trans (Up.of n0 (Nat.le_refl _) rfl)
   have n1 := sSp_up s ((sName s ((sSp s t).unI (isQ (bat s (sSp s t).p) || decide (bat s (sSp s t).p = 42)))).2.unI (hiB (sName s ((sSp s t).unI (isQ (bat s (sSp s t).p) || decide (bat s (sSp s t).p = 42)))).1)) (by simp only [RS.unI_p]; exact u2.2)
   have u3 := u2.trans (Up.of n1 (Nat.le_refl _) rfl)
   split
   · exact bad _ (Up.of u3 (Nat.le_refl _) rfl)
   exact fin _ _ (Up.of u3 (Nat.le_refl _) rfl)
 have u2 := u1.trans (sValue_up s _ u1.2)
 have n1 := sSp_up s ((sValue s (sSp s t)).2.unI (hiB (sValue s (sSp s t)).1)) (by simp only [RS.unI_p]; exact u2.2)
 have u3 := u2.trans (Up.of n1 (Nat.le_refl _) rfl)
 split
 · exact bad _ u3
 exact fin _ _ u3
theorem sPseudo_b {s : Bs} {c : Nat} (h8 : 8 ≤ c) {G : RS → List SelD × RS} (hG : GB s c G) (t : RS) (h : t.p ≤ s.length + 1) :
 Up s t (sPseudo G s t).2 ∧ (sPseudo G s t).1.length + c * t.p ≤ c * (sPseudo G s t).2.p + 1 := by
 have u1 := sName_up s t h
 have one : ∀ (l : List SelD) (w : RS), l.length ≤ 1 → Up s t w → Up s t (l, w).2 ∧ (l, w).1.length + c * t.p ≤ c * (l, w).2.p + 1 := by
  intro l w hl hw
  have d := Nat.mul_le_mul_left c hw.1
  exact ⟨hw, by simp only; omega⟩
 unfold sPseudo
 simp only
 split
 · exact one _ _ (by simp [failL]) (Up.of u1 (Nat.le_refl _) rfl)
 split
 · split
   · exact one _ _ (by simp [failL]) (Up.of u1 (Nat.le_refl _) rfl)
   exact one _ _ (by simp [selMade, sizedD]) u1
 split
 · exact one _ _ (by simp [failL]) (Up.of u1 (Nat.le_refl _) rfl)
 split
 · exact one _ _ (by simp [failL]) (Up.of u1 (Nat.le_refl _) rfl)
 rename_i hne
 have e : bat s (sName s t).2.p = 40 := by
  apply Decidable.byContradiction
  intro e
  exact hne (.inr e)
 have hl := bat_lt e (by decide)
 have u2 : Up s t ((sName s t).2.go ((sName s t).2.p + 1)) := ⟨by have := u1.1; simp only [RS.go_p]; omega, by simp only [RS.go_p]; omega⟩
 have a := sArg_b hG (kindS (low (sName s t).1)) (nthFlagS (low (sName s t).1)) _ u2.2
 refine ⟨u2.trans a.1, ?_⟩
 have d := a.2
 have d1 := Nat.mul_le_mul_left c u1.1
 simp only [RS.go_p, Nat.mul_add, Nat.mul_one] at d
 omega
theorem sElem_up (s : Bs) (t : RS) (h : t.p ≤ s.length + 1) : Up s t (sElem s t).2 := Up.of (sName_up s t h) (Nat.le_refl _) rfl
theorem sSimple_b {s : Bs} {c : Nat} (h8 : 8 ≤ c) {G : RS → List SelD × RS} (hG : GB s c G) (t : RS) (h : t.p < s.length) :
 Up s t (sSimple G s t).2 ∧ t.p < (sSimple G s t).2.p ∧ (sSimple G s t).1.1.length + c * t.p ≤ c * (sSimple G s t).2.p := by
 have u1 : Up s t (t.go (t.p + 1)) := ⟨by simp only [RS.go_p]; omega, by simp only [RS.go_p]; omega⟩
 have one : ∀ (l : List SelD) (n : Bs) (w : RS), l.length ≤ 1 → Up s (t.go (t.p + 1)) w → Up s t ((l, n), w).2 ∧ t.p < ((l, n), w).2.p ∧ ((l, n), w).1.1.length + c * t.p ≤ c * ((l, n), w).2.p := by
  intro l n w hl hw
  have d := Nat.mul_le_mul_left c hw.1
  have d0 := hw.1
  simp only [RS.go_p, Nat.mul_add, Nat.mul_one] at d d0
  exact ⟨u1.trans hw, by simp only; omega, by simp only; omega⟩
 unfold sSimple
 split
 · exact one _ _ _ (by simp [selMade, sizedD]) (sName_up s _ u1.2)
 split
 · exact one _ _ _ (by simp [selMade, sizedD]) (sHash_up s _ u1.2)
 split
 · exact one _ _ _ (sAttr_up s _ u1.2).2 (sAttr_up s _ u1.2).1
 split
 · rename_i e
   have hl := bat_lt e (by decide)
   have u2 : Up s (t.go (t.p + 1)) (t.go (t.p + 2)) := ⟨by simp only [RS.go_p]; omega, by simp only [RS.go_p]; omega⟩
   exact one _ _ _ (by simp) (u2.trans (sElem_up s _ u2.2))
 have a := sPseudo_b h8 hG (t.go (t.p + 1)) u1.2
 have d := a.2
 have d0 := a.1.1
 simp only [RS.go_p, Nat.mul_add, Nat.mul_one] at d d0
 exact ⟨u1.trans a.1, by simp only; omega, by simp only; omega⟩
theorem sCmpGo_b {s : Bs} {c : Nat} (h8 : 8 ≤ c) {G : RS → List SelD × RS} (hG : GB s c G) (ps pseudo : Bool) (t : RS) (l : List SelD) (pe : Bs) (many : Nat) (h : t.p ≤ s.length + 1) :
 Up s t (sCmpGo G s ps pseudo t l pe many).2 ∧ (sCmpGo G s ps pseudo t l pe many).1.length + c * t.p ≤ c * (sCmpGo G s ps pseudo t l pe many).2.p + l.length + 1 := by
 have bad : ∀ (t w : RS) (l : List SelD), Up s t w → Up s t (failL, w).2 ∧ (failL, w).1.length + c * t.p ≤ c * (failL, w).2.p + l.length + 1 := by
  intro t w l hw
  have d := Nat.mul_le_mul_left c hw.1
  exact ⟨hw, by simp only [failL, List.length_singleton]; omega⟩
 fun_induction sCmpGo G s ps pseudo t l pe many with
 | case1 t l pe many h1 v hv hps => exact bad _ _ _ (Up.of (sSimple_b h8 hG t h1.2.1).1 (Nat.le_refl _) rfl)
 | case2 t l pe many h1 v hv hps hpe => exact bad _ _ _ (Up.of (sSimple_b h8 hG t h1.2.1).1 (Nat.le_refl _) rfl)
 | case3 t l pe many h1 v hv hps hpe hlt ih =>
  have a : Up s t v.2 ∧ t.p < v.2.p ∧ v.1.1.length + c * t.p ≤ c * v.2.p := sSimple_b h8 hG t h1.2.1
  have b := ih a.1.2
  exact ⟨a.1.trans b.1, by have := b.2; have := a.2.2; have := Nat.mul_le_mul_left c a.1.1; omega⟩
 | case4 t l pe many h1 v hv hps hpe hlt => exact bad _ _ _ (Up.of (sSimple_b h8 hG t h1.2.1).1 (Nat.le_refl _) rfl)
 | case5 t l pe many h1 v hv hlt ih =>
  have a : Up s t v.2 ∧ t.p < v.2.p ∧ v.1.1.length + c * t.p ≤ c * v.2.p := sSimple_b h8 hG t h1.2.1
  have b := ih (by simp only [RS.unI_p]; exact a.1.2)
  refine ⟨a.1.trans (Up.of b.1 (Nat.le_refl _) rfl), ?_⟩
  have b2 := b.2
  simp only [RS.unI_p, List.length_append] at b2
  have := a.2.2
  omega
 | case6 t l pe many h1 v hv hlt => exact bad _ _ _ (Up.of (sSimple_b h8 hG t h1.2.1).1 (Nat.le_refl _) rfl)
 | case7 t l pe h1 t1 => exact bad _ _ _ (Up.of (Up.refl h) (Nat.le_refl _) rfl)
 | case8 t l pe many h1 t1 hm =>
  refine ⟨Up.of (Up.refl h) (Nat.le_refl _) rfl, ?_⟩
  simp only [selMade, sizedD, List.length_cons, t1, RS.unI_p]
  omega
theorem sCmp_b {s : Bs} {c : Nat} (h8 : 8 ≤ c) {G : RS → List SelD × RS} (hG : GB s c G) (ps pseudo : Bool) (t : RS) (h : t.p ≤ s.length + 1) :
 Up s t (sCmp G s ps pseudo t).2 ∧ (sCmp G s ps pseudo t).1.length + c * t.p ≤ c * (sCmp G s ps pseudo t).2.p + 2 := by
 unfold sCmp
 split
 · rename_i e
   have hl := bat_lt e (by decide)
   have u1 : Up s t (t.go (t.p + 1)) := ⟨by simp only [RS.go_p]; omega, by simp only [RS.go_p]; omega⟩
   have a := sCmpGo_b h8 hG ps pseudo (t.go (t.p + 1)) [] [] 1 u1.2
   have d := a.2
   simp only [RS.go_p, Nat.mul_add, Nat.mul_one, List.length_nil] at d
   exact ⟨u1.trans a.1, by omega⟩
 split
 · have n := sName_up s (t.unI (nmUn s t.p)) (by simp only [RS.unI_p]; exact h)
   have a := sCmpGo_b h8 hG ps pseudo (sName s (t.unI (nmUn s t.p))).2 (selMade ⟨2, 0, low (sName s (t.unI (nmUn s t.p))).1, [], 0, 0, 0, 0⟩ []) [] 1 n.2
   have d := a.2
   have d1 := Nat.mul_le_mul_left c n.1
   have hl : (selMade ⟨2, 0, low (sName s (t.unI (nmUn s t.p))).1, [], 0, 0, 0, 0⟩ []).length = 1 := rfl
   rw [hl] at d
   simp only [RS.unI_p] at d1
   exact ⟨(Up.of n (Nat.le_refl _) rfl).trans a.1, by simp only; omega⟩
 have a := sCmpGo_b h8 hG ps pseudo (t.unI (nmUn s t.p)) [] [] 0 (by simp only [RS.unI_p]; exact h)
 have d := a.2
 simp only [RS.unI_p, List.length_nil] at d
 exact ⟨Up.of a.1 (Nat.le_refl _) rfl, by omega⟩
theorem sCpxGo_b {s : Bs} {c : Nat} (h8 : 8 ≤ c) {G : RS → List SelD × RS} (hG : GB s c G) (ps pseudo : Bool) (t : RS) (left : List SelD) (h : t.p ≤ s.length + 1) :
 Up s t (sCpxGo G s ps pseudo t left).2 ∧ (sCpxGo G s ps pseudo t left).1.length + (c + 3) * t.p ≤ (c + 3) * (sCpxGo G s ps pseudo t left).2.p + left.length + 3 := by
 fun_induction sCpxGo G s ps pseudo t left with
 | case1 t left hb => exact ⟨Up.refl h, by simp only; omega⟩
 | case2 t left hb t1 cc h1 =>
  have u := sSp_up s t h
  have d := Nat.mul_le_mul_left (c + 3) u.1
  exact ⟨u, by simp only [t1]; omega⟩
 | case3 t left hb t1 cc t2 h1 he =>
  have u : Up s t t2 := by
   have u := sSp_up s t h
   simp only [t2]
   split
   · rename_i e
     have hl : t1.p < s.length := bat_pos (by intro e0; apply e; show combOp (bat s t1.p) = 0; rw [e0]; rfl)
     have v : Up s t (t1.go (t1.p + 1)) := ⟨by have := u.1; simp only [RS.go_p, t1]; omega, by simp only [RS.go_p]; omega⟩
     exact v.trans (sSp_up s _ v.2)
   exact u
  have d := Nat.mul_le_mul_left (c + 3) u.1
  exact ⟨Up.of u (Nat.le_refl _) rfl, by simp only [failL, List.length_singleton, RS.no_p, RS.unI_p]; omega⟩
 | case4 t left hb t1 cc op t2 h1 he r hlt ih =>
  have u : Up s t t2 := by
   have u := sSp_up s t h
   simp only [t2]
   split
   · rename_i e
     have hl : t1.p < s.length := bat_pos (by intro e0; apply e; show combOp (bat s t1.p) = 0; rw [e0]; rfl)
     have v : Up s t (t1.go (t1.p + 1)) := ⟨by have := u.1; simp only [RS.go_p, t1]; omega, by simp only [RS.go_p]; omega⟩
     exact v.trans (sSp_up s _ v.2)
   exact u
  have a := sCmp_b h8 hG ps pseudo t2 u.2
  have b := ih (u.trans a.1).2
  refine ⟨(u.trans a.1).trans b.1, ?_⟩
  have b2 := b.2
  have a2 := a.2
  have d := Nat.mul_le_mul_left c u.1
  simp only [selMade, sizedD, List.length_cons, List.length_append, Nat.add_mul, r] at b2 a2 hlt ⊢
  omega
 | case5 t left hb t1 cc op t2 h1 he r hlt =>
  have u : Up s t t2 := by
   have u := sSp_up s t h
   simp only [t2]
   split
   · rename_i e
     have hl : t1.p < s.length := bat_pos (by intro e0; apply e; show combOp (bat s t1.p) = 0; rw [e0]; rfl)
     have v : Up s t (t1.go (t1.p + 1)) := ⟨by have := u.1; simp only [RS.go_p, t1]; omega, by simp only [RS.go_p]; omega⟩
     exact v.trans (sSp_up s _ v.2)
   exact u
  have a := sCmp_b h8 hG ps pseudo t2 u.2
  refine ⟨u.trans a.1, ?_⟩
  have a2 := a.2
  have d := Nat.mul_le_mul_left c u.1
  have d1 := (u.trans a.1).1
  simp only [selMade, sizedD, List.length_cons, List.length_append, Nat.add_mul, r] at a2 d1 ⊢
  omega
theorem sCpx_b {s : Bs} {c : Nat} (h8 : 8 ≤ c) {G : RS → List SelD × RS} (hG : GB s c G) (ps pseudo : Bool) (t : RS) (h : t.p ≤ s.length + 1) :
 Up s t (sCpx G s ps pseudo t).2 ∧ (sCpx G s ps pseudo t).1.length + (c + 3) * t.p ≤ (c + 3) * (sCpx G s ps pseudo t).2.p + 5 := by
 unfold sCpx
 simp only
 have u := sSp_up s t h
 have a := sCmp_b h8 hG ps pseudo _ u.2
 have b := sCpxGo_b h8 hG ps pseudo (sCmp G s ps pseudo (sSp s t)).2 (sCmp G s ps pseudo (sSp s t)).1 a.1.2
 refine ⟨(u.trans a.1).trans b.1, ?_⟩
 have a2 := a.2
 have b2 := b.2
 have d := Nat.mul_le_mul_left c u.1
 have d1 := u.1
 have d2 := a.1.1
 simp only [Nat.add_mul] at b2 ⊢
 omega
theorem sGrpGo_b {s : Bs} {c : Nat} (h8 : 8 ≤ c) {G : RS → List SelD × RS} (hG : GB s c G) (ps pseudo : Bool) (t : RS) (l : List SelD) (h : t.p ≤ s.length + 1) :
 Up s t (sGrpGo G s ps pseudo t l).2 ∧ (sGrpGo G s ps pseudo t l).1.length + (c + 3) * t.p ≤ (c + 3) * (sGrpGo G s ps pseudo t l).2.p + l.length := by
 fun_induction sGrpGo G s ps pseudo t l with
 | case1 t l h1 r hlt ih =>
  have u1 : Up s t (t.go (t.p + 1)) := ⟨by simp only [RS.go_p]; omega, by simp only [RS.go_p]; omega⟩
  have a := sCpx_b h8 hG ps pseudo (t.go (t.p + 1)) u1.2
  have b := ih a.1.2
  refine ⟨(u1.trans a.1).trans b.1, ?_⟩
  have a2 := a.2
  have b2 := b.2
  simp only [RS.go_p, Nat.mul_add, Nat.mul_one, List.length_append, r] at a2 b2 ⊢
  omega
 | case2 t l h1 r hlt =>
  have u1 : Up s t (t.go (t.p + 1)) := ⟨by simp only [RS.go_p]; omega, by simp only [RS.go_p]; omega⟩
  have a := sCpx_b h8 hG ps pseudo (t.go (t.p + 1)) u1.2
  refine ⟨u1.trans a.1, ?_⟩
  have a2 := a.2
  simp only [RS.go_p, Nat.mul_add, Nat.mul_one, List.length_append, r] at a2 ⊢
  omega
 | case3 t l h1 => exact ⟨Up.refl h, by simp only; omega⟩
theorem sGrp1_b {s : Bs} {c : Nat} (h8 : 8 ≤ c) {G : RS → List SelD × RS} (hG : GB s c G) (ps many pseudo : Bool) : GB s (c + 3) (sGrp1 G s ps many pseudo) := by
 intro t h
 have a := sCpx_b h8 hG ps pseudo t h
 unfold sGrp1
 simp only
 split
 · have b := sGrpGo_b h8 hG ps pseudo _ (sCpx G s ps pseudo t).1 a.1.2
   refine ⟨a.1.trans b.1, ?_⟩
   have a2 := a.2
   have b2 := b.2
   simp only [selMade, sizedD, List.length_cons]
   omega
 refine ⟨a.1, ?_⟩
 have a2 := a.2
 simp only [selMade, sizedD, List.length_cons]
 omega
theorem sGrp_b (s : Bs) (ps : Bool) : ∀ m, GB s (3 * m + 8) (sGrp s ps m)
 | 0 => fun t h => ⟨Up.of (Up.refl h) (Nat.le_refl _) rfl, by simp only [sGrp, failL, List.length_singleton, RS.no_p]; omega⟩
 | m + 1 => sGrp1_b (by omega) (sGrp_b s ps m) ps true false
theorem sGrp_small {s : Bs} {ps : Bool} {m : Nat} {t : RS} (hs : s.length ≤ 100000) (hm : m ≤ 300000) (h : t.p ≤ s.length + 1) : (sGrp s ps m t).1.length ≤ 100000000000 := by
 have a := sGrp_b s ps m t h
 have b := a.2
 have d : (3 * m + 8) * (sGrp s ps m t).2.p ≤ (3 * 300000 + 8) * 100001 := Nat.mul_le_mul (by omega) (by have := a.1.2; omega)
 omega
theorem sSp_len {s : Bs} {t : RS} (h : t.p ≤ s.length) : (sSp s t).p ≤ s.length := by
 fun_induction sSp s t with
 | case1 t h1 h2 ih => exact ih (by simp only [RS.go_p]; omega)
 | case2 t h1 h2 h3 j hj ih => exact ih (by have := cmtEnd_some _ _ hj; simp only [RS.go_p]; omega)
 | case3 => exact h
 | case4 => exact h
 | case5 => exact h
theorem sStrGo_n4 (s : Bs) (q : Nat) (t : RS) (acc : Bs) : (sStrGo s q t acc).1.length + 4 * t.p ≤ acc.length + 4 * (sStrGo s q t acc).2.p := by
 fun_induction sStrGo s q t acc with
 | case1 => simp only [RS.go_p]; omega
 | case2 => simp only [List.length_nil, RS.no_p]; omega
 | case3 t acc h1 h2 h3 h4 ih => simp only [RS.go_p, List.length_append, List.length_singleton] at ih; omega
 | case4 t acc h1 h2 h3 h4 h5 ih =>
  simp only [List.length_append] at ih
  have := sEsc_n4 s t
  have := sEsc_p s t
  omega
 | case5 t acc h1 h2 h3 h4 h5 ih =>
  refine Nat.le_trans (Nat.add_le_add_left ?_ _) ih
  simp only [RS.go_p]
  split <;> omega
 | case6 => simp only [List.length_nil, RS.no_p]; omega
theorem sValue_n4 (s : Bs) (t : RS) (h : t.p ≤ s.length + 1) : (sValue s t).1.length ≤ 4 * (s.length + 1) := by
 have hl := (sValue_up s t h).2
 unfold sValue at hl ⊢
 split
 · rename_i q
   rw [if_pos q] at hl
   unfold sQuoted at hl ⊢
   have := sStrGo_n4 s (bat s t.p) (t.go (t.p + 1)) []
   simp only [List.length_nil] at this
   omega
 exact sName_n s _ (by simp only [RS.unI_p]; exact h)
end
end Go.Proofs.YtengepcafdnalaaGreatDoor
