/-
  Parts of the proof that the law FnParseExact holds for every input (texts Ph, Ea). Conditions: none.
-/
import Derived.Test.YtengepcafdnalaaGreatDoorM05
import Derived.Test.YtengepcafdnalaaGreatDoorProg
import Derived.WalkKit
import Derived.KernelRfl
namespace Go.Proofs.YtengepcafdnalaaGreatDoor
section
namespace Law
section
variable {s : Bs} {Gi : Nat → Option (List CSel × Nat)} {G : RS → List SelD × RS} {lo : Nat}
/-! ### How far the package reads -/
theorem iSeqGo_ge {ps : Bool} {i : Nat} {xs : List CSel} {pe : Bs} : ∀ {x : CSel} {m : Nat}, iSeqGo Gi s ps i xs pe = some (x, m) → i ≤ m ∧ (i < s.length → isSim (bat s i) = true → i < m) := by
 fun_induction iSeqGo Gi s ps i xs pe with
 | case1 i xs pe h1 h2 => intro x m h; cases h
 | case2 i xs h1 n j h2 h3 pe h4 ih => intro x m h; have := ih h; omega
 | case3 i xs pe h1 n j h2 h3 h4 => intro x m h; cases h
 | case4 i xs h1 n j h2 x' h3 ih => intro x m h; have := ih h; omega
 | case5 i xs pe h1 n j h2 x' h3 h4 => intro x m h; cases h
 | case6 i xs pe h1 x' n j h2 h3 => intro x m h; cases h
 | case7 i xs pe h1 => intro x m h; cases h; exact ⟨Nat.le_refl _, fun a b => absurd ⟨a, b⟩ h1⟩
theorem iSeq_lt {ps : Bool} {i : Nat} {x : CSel} {m : Nat} (h : iSeq Gi s ps i = some (x, m)) : i < m := by
 unfold iSeq at h
 split at h
 · rename_i h0
   split at h
   · have := iSeqGo_ge h; split at this <;> omega
   split at h
   · rename_i h1; exact (iSeqGo_ge h).2 h0 h1
   split at h
   · cases h
   rename_i t j h1
   have := iIdent_lt h1
   have := iSeqGo_ge h
   omega
 cases h
theorem iSelGo_ge {ps : Bool} {x : CSel} {j : Nat} : ∀ {y : CSel} {m : Nat}, iSelGo Gi s ps x j = some (y, m) → j ≤ m ∧ iWs s m = m := by
 fun_induction iSelGo Gi s ps x j <;> intro y' m' h
 all_goals first
  | (cases h; done)
  | (cases h; exact ⟨iWs_ge s _, iWs_fix s _⟩)
  | (rename_i ih; have := ih h; exact ⟨by omega, this.2⟩)
theorem iSel_lt {ps : Bool} {i : Nat} {y : CSel} {m : Nat} (h : iSel Gi s ps i = some (y, m)) : i < m ∧ iWs s m = m := by
 unfold iSel at h
 split at h
 · cases h
 rename_i x j h1
 have := iSeq_lt h1
 have := iWs_ge s i
 have := iSelGo_ge h
 exact ⟨by omega, this.2⟩
theorem iGrpGo_fix {ps : Bool} {l : List CSel} {j : Nat} (h0 : iWs s j = j) : ∀ {r : List CSel} {m : Nat}, iGrpGo Gi s ps l j = some (r, m) → iWs s m = m := by
 fun_induction iGrpGo Gi s ps l j with
 | case1 l j h1 h2 => intro r m h; cases h
 | case2 l j h1 y m' h2 h3 ih => intro r m h; exact ih (iSel_lt h2).2 h
 | case3 l j h1 y m' h2 h3 => intro r m h; cases h
 | case4 l j h1 => intro r m h; cases h; exact h0
theorem iSeq_out {ps : Bool} {i : Nat} (h : s.length ≤ i) : iSeq Gi s ps i = none := by
 unfold iSeq; rw [if_neg (by omega)]
theorem iSel_out {ps : Bool} {i : Nat} (h : s.length ≤ i) : iSel Gi s ps i = none := by
 unfold iSel; rw [iSeq_out (by have := iWs_ge s i; omega)]
/-! ### Combinations -/
theorem cpxGo_dead {ps pseudo : Bool} {t : RS} {left : List SelD} (h : Dead s t) : Dead s (sCpxGo G s ps pseudo t left).2 := by
 rw [sCpxGo]
 cases hb : t.bad
 · rw [if_neg Bool.false_ne_true]
   have h92 : bat s t.p = 92 := by rcases h with h | h; rw [hb] at h; cases h; exact h
   simp only [sSp_dead h]
   rw [if_pos ⟨by rw [h92]; decide, by omega⟩]
   exact h
 rw [if_pos rfl]; exact h
theorem op_of {c : UInt8} (n : Nat) (h : bat s n = c.toNat) : s.getD n 0 = c := UInt8.toNat_inj.1 h
theorem comb_op {n : Nat} (h : combOp (bat s n) ≠ 0) : isComb (bat s n) = true ∧ signAt [[32], [62], [43], [126]] (utf8 (s.getD n 0).toNat) = combOp (bat s n) := by
 by_cases h1 : bat s n = 62
 · rw [op_of (c := 62) n h1, h1]; decide
 by_cases h2 : bat s n = 43
 · rw [op_of (c := 43) n h2, h2]; decide
 by_cases h3 : bat s n = 126
 · rw [op_of (c := 126) n h3, h3]; decide
 unfold combOp at h; rw [if_neg h1, if_neg h2, if_neg h3] at h; exact absurd rfl h
theorem comb_no {c : Nat} (h : combOp c = 0) : isComb c = false := by
 unfold combOp at h
 split at h
 · simp at h
 split at h
 · simp at h
 split at h
 · simp at h
 simp [isComb]; omega
theorem op_blank : signAt [[32], [62], [43], [126]] (utf8 (32 : UInt8).toNat) = 1 := by decide
theorem cpx_step (hr : RD s) (hG : GS s lo Gi G) (hU : GU G) (ps pseudo : Bool) (hps : pseudo = true → ps = true) (u : RS) (hb : u.bad = false) (hlo : lo ≤ u.p + 1)
 {x : CSel} {left : List SelD} (hx : MT x left) (cc : UInt8) (op : Int) (ho : signAt [[32], [62], [43], [126]] (utf8 cc.toNat) = op) (j : Nat) (hj : j ≤ u.p)
 (K : List SelD × RS) (hun : (sCmp G s ps pseudo u).2.un = true → K.2.un = true) (hd : Dead s (sCmp G s ps pseudo u).2 → Dead s K.2)
 (hok : ∀ y, iSeq Gi s ps u.p = some (y, (sCmp G s ps pseudo u).2.p) → u.p < (sCmp G s ps pseudo u).2.p → (sCmp G s ps pseudo u).2.bad = false → MT (.combined x cc y) (selMade ⟨22, op, [], [], 0, 0, 0, 0⟩ (left ++ (sCmp G s ps pseudo u).1)) →
  Sim s MT (iSelGo Gi s ps (.combined x cc y) (sCmp G s ps pseudo u).2.p) K) :
 Sim s MT (match iSeq Gi s ps u.p with
  | none => none
  | some (y, m) => if j < m then iSelGo Gi s ps (.combined x cc y) m else none) K := by
 rcases cmp_sim hr hG hU ps pseudo hps u hb hlo with h | ⟨y, h1, h2, h3⟩ | ⟨h1, h2⟩
 · exact .un (hun h)
 · have hl := iSeq_lt h1
   rw [h1]
   simp only
   rw [if_pos (by omega)]
   exact hok y h1 hl h2 (MT.comb hx h3 ho)
 rw [h1]
 exact .no rfl (hd h2)
theorem cpxGo_sim (hr : RD s) (hG : GS s lo Gi G) (hU : GU G) (ps pseudo : Bool) (hps : pseudo = true → ps = true) (t : RS) (left : List SelD) :
 ∀ x : CSel, t.bad = false → lo ≤ t.p + 1 → MT x left → Sim s MT (iSelGo Gi s ps x t.p) (sCpxGo G s ps pseudo t left) := by
 fun_induction sCpxGo G s ps pseudo t left with
 | case1 t left h1 => intro x hb; rw [hb] at h1; cases h1
 | case2 t left h1 t1 c h2 =>
  intro x hb hlo hx
  rcases sSp_sim s t hb with h | e
  · exact .un h
  have e1 : t1 = t.go (iWs s t.p) := e
  have ec : c = bat s (iWs s t.p) := by show bat s t1.p = _; rw [e1]; rfl
  rw [e1]
  rw [e1, ec] at h2
  simp only [go_p'] at h2
  refine .ok x ?_ hb hx
  rw [iSelGo]
  split
  · rw [if_neg (by rw [comb_no h2.1]; exact Bool.false_ne_true), if_pos]
    · rfl
    have := iWs_ge s t.p; omega
  rfl
 | case3 t left h1 t1 c t2 h2 h3 => intro x hb hlo hx; exact .un (by simp)
 | case4 t left h1 t1 c op t2 h2 h3 r h4 ih =>
  intro x hb hlo hx
  rcases sSp_sim s t hb with h | e
  · refine .un (sCpxGo_un hU _ _ _ _ _ (sCmp_un hU _ _ _ _ ?_))
    show (if combOp c ≠ 0 then sSp s (t1.go (t1.p + 1)) else t1 : RS).un = true
    split
    · exact sSp_un _ _ h
    exact h
  have e1 : t1 = t.go (iWs s t.p) := e
  have ec : c = bat s (iWs s t.p) := by show bat s t1.p = _; rw [e1]; rfl
  have hge := iWs_ge s t.p
  have hlt : iWs s t.p < s.length := by
   by_cases hc : combOp c = 0
   · rw [e1] at h2
     simp only [go_p'] at h2
     exact Nat.lt_of_not_le (fun k => h2 ⟨hc, .inl k⟩)
   apply bat_in
   intro k; rw [ec, k] at hc; exact hc (by decide)
  rw [iSelGo, if_pos hlt]
  by_cases hc : combOp c = 0
  · have e2 : t2 = t.go (iWs s t.p) := by show (if combOp c ≠ 0 then _ else t1) = _; rw [if_neg (by simpa using hc), e1]
    have eo : op = 1 := by show (if combOp c ≠ 0 then _ else _) = _; rw [if_neg (by simpa using hc)]
    rw [e1] at h2
    simp only [go_p'] at h2
    rw [if_neg (by rw [← ec, comb_no hc]; exact Bool.false_ne_true), if_neg (by rw [ec] at h2; intro k; apply h2; refine ⟨by rw [← ec]; exact hc, ?_⟩; omega)]
    refine cpx_step hr hG hU ps pseudo hps (t.go (iWs s t.p)) hb (by simp only [go_p']; omega) hx 32 op (by rw [eo]; exact op_blank) t.p (by simp only [go_p']; omega) _ ?_ ?_ ?_
    · rw [← e2]; exact sCpxGo_un hU _ _ _ _ _
    · rw [← e2]; exact cpxGo_dead
    rw [← e2]; exact fun y q1 q2 q3 q4 => ih _ q3 (by rw [e2] at q2; simp only [go_p'] at q2; rw [← e2] at q2; omega) q4
  have eo : op = combOp c := by show (if combOp c ≠ 0 then _ else _) = _; rw [if_pos (by simpa using hc)]
  have e20 : t2 = sSp s (t1.go (t1.p + 1)) := by show (if combOp c ≠ 0 then _ else t1) = _; rw [if_pos (by simpa using hc)]
  rw [e1] at e20
  simp only [go_p'] at e20
  have hco := comb_op (s := s) (n := iWs s t.p) (by rw [← ec]; exact hc)
  rw [if_pos hco.1]
  rcases sSp_sim s ((t.go (iWs s t.p)).go (iWs s t.p + 1)) hb with h | e2
  · refine .un (sCpxGo_un hU _ _ _ _ _ (sCmp_un hU _ _ _ _ ?_))
    rw [e20]; exact h
  rw [e2] at e20
  have hge2 := iWs_ge s (iWs s t.p + 1)
  simp only [go_p'] at e20
  refine cpx_step hr hG hU ps pseudo hps (((t.go (iWs s t.p)).go (iWs s t.p + 1)).go (iWs s (iWs s t.p + 1))) hb (by simp only [go_p']; omega) hx _ op (by rw [eo, ec]; exact hco.2) t.p (by simp only [go_p']; omega) _ ?_ ?_ ?_
  · rw [← e20]; exact sCpxGo_un hU _ _ _ _ _
  · rw [← e20]; exact cpxGo_dead
  rw [← e20]; exact fun y q1 q2 q3 q4 => ih _ q3 (by omega) q4
 | case5 t left h1 t1 c op t2 h2 h3 r h4 =>
  intro x hb hlo hx
  rcases sSp_sim s t hb with h | e
  · refine .un (sCmp_un hU _ _ _ _ ?_)
    show (if combOp c ≠ 0 then sSp s (t1.go (t1.p + 1)) else t1 : RS).un = true
    split
    · exact sSp_un _ _ h
    exact h
  have e1 : t1 = t.go (iWs s t.p) := e
  have ec : c = bat s (iWs s t.p) := by show bat s t1.p = _; rw [e1]; rfl
  have hge := iWs_ge s t.p
  have hlt : iWs s t.p < s.length := by
   by_cases hc : combOp c = 0
   · rw [e1] at h2
     simp only [go_p'] at h2
     exact Nat.lt_of_not_le (fun k => h2 ⟨hc, .inl k⟩)
   apply bat_in
   intro k; rw [ec, k] at hc; exact hc (by decide)
  rw [iSelGo, if_pos hlt]
  by_cases hc : combOp c = 0
  · have e2 : t2 = t.go (iWs s t.p) := by show (if combOp c ≠ 0 then _ else t1) = _; rw [if_neg (by simpa using hc), e1]
    have eo : op = 1 := by show (if combOp c ≠ 0 then _ else _) = _; rw [if_neg (by simpa using hc)]
    rw [e1] at h2
    simp only [go_p'] at h2
    rw [if_neg (by rw [← ec, comb_no hc]; exact Bool.false_ne_true), if_neg (by rw [ec] at h2; intro k; apply h2; refine ⟨by rw [← ec]; exact hc, ?_⟩; omega)]
    refine cpx_step hr hG hU ps pseudo hps (t.go (iWs s t.p)) hb (by simp only [go_p']; omega) hx 32 op (by rw [eo]; exact op_blank) t.p (by simp only [go_p']; omega) _ ?_ ?_ ?_
    · rw [← e2]; exact fun h => h
    · rw [← e2]; exact fun h => h
    rw [← e2]
    intro y q1 q2 q3 q4
    rw [e2] at q2
    simp only [go_p'] at q2
    rw [← e2] at q2
    have er : r.2.p = (sCmp G s ps pseudo t2).2.p := rfl
    exact absurd ⟨(by omega : t.p < r.2.p), (by omega : t.p < s.length)⟩ h4
  have eo : op = combOp c := by show (if combOp c ≠ 0 then _ else _) = _; rw [if_pos (by simpa using hc)]
  have e20 : t2 = sSp s (t1.go (t1.p + 1)) := by show (if combOp c ≠ 0 then _ else t1) = _; rw [if_pos (by simpa using hc)]
  rw [e1] at e20
  simp only [go_p'] at e20
  have hco := comb_op (s := s) (n := iWs s t.p) (by rw [← ec]; exact hc)
  rw [if_pos hco.1]
  rcases sSp_sim s ((t.go (iWs s t.p)).go (iWs s t.p + 1)) hb with h | e2
  · refine .un (sCmp_un hU _ _ _ _ ?_)
    rw [e20]; exact h
  rw [e2] at e20
  have hge2 := iWs_ge s (iWs s t.p + 1)
  simp only [go_p'] at e20
  refine cpx_step hr hG hU ps pseudo hps (((t.go (iWs s t.p)).go (iWs s t.p + 1)).go (iWs s (iWs s t.p + 1))) hb (by simp only [go_p']; omega) hx _ op (by rw [eo, ec]; exact hco.2) t.p (by simp only [go_p']; omega) _ ?_ ?_ ?_
  · rw [← e20]; exact fun h => h
  · rw [← e20]; exact fun h => h
  rw [← e20]
  intro y q1 q2 q3 q4
  rw [e20] at q2
  simp only [go_p'] at q2
  rw [← e20] at q2
  have er : r.2.p = (sCmp G s ps pseudo t2).2.p := rfl
  exact absurd ⟨(by omega : t.p < r.2.p), (by omega : t.p < s.length)⟩ h4
theorem cpx_sim (hr : RD s) (hG : GS s lo Gi G) (hU : GU G) (ps pseudo : Bool) (hps : pseudo = true → ps = true) (t : RS) (hb : t.bad = false) (hlo : lo ≤ t.p + 1) :
 Sim s MT (iSel Gi s ps t.p) (sCpx G s ps pseudo t) := by
 unfold iSel sCpx
 simp only
 rcases sSp_sim s t hb with h | e
 · exact .un (sCpxGo_un hU _ _ _ _ _ (sCmp_un hU _ _ _ _ h))
 rw [e]
 have hge := iWs_ge s t.p
 have hc := cmp_sim hr hG hU ps pseudo hps (t.go (iWs s t.p)) hb (by simp only [go_p']; omega)
 simp only [go_p'] at hc
 generalize sCmp G s ps pseudo (t.go (iWs s t.p)) = r at hc ⊢
 rcases hc with h | ⟨y, h1, h2, h3⟩ | ⟨h1, h2⟩
 · exact .un (sCpxGo_un hU _ _ _ _ _ h)
 · have hl := iSeq_lt h1
   rw [h1]
   exact cpxGo_sim hr hG hU ps pseudo hps r.2 r.1 y h2 (by omega) h3
 rw [h1]
 exact .no rfl (cpxGo_dead h2)
/-! ### Groups -/
theorem grpGo_dead {ps pseudo : Bool} {t : RS} {l : List SelD} (h : Dead s t) : sGrpGo G s ps pseudo t l = (l, t) := by
 rw [sGrpGo, if_neg]
 intro k
 rcases h with h | h
 · rw [h] at k; cases k.1
 omega
theorem grpGo_sim (hr : RD s) (hG : GS s lo Gi G) (hU : GU G) (ps pseudo : Bool) (hps : pseudo = true → ps = true) (t : RS) (l : List SelD) :
 ∀ xs : List CSel, t.bad = false → lo ≤ t.p + 1 → MTs xs l → Sim s MTs (iGrpGo Gi s ps xs t.p) (sGrpGo G s ps pseudo t l) := by
 fun_induction sGrpGo G s ps pseudo t l with
 | case1 t l h1 r h2 ih =>
  intro xs hb hlo hx
  rw [iGrpGo, if_pos h1.2]
  rcases cpx_sim hr hG hU ps pseudo hps (t.go (t.p + 1)) hb (by simp only [go_p']; omega) with h | ⟨y, h3, h4, h5⟩ | ⟨h3, h4⟩
  · exact .un (sGrpGo_un hU _ _ _ _ _ h)
  · simp only [go_p'] at h3
    rw [h3]
    simp only
    rw [if_pos h2]
    exact ih _ h4 (by omega) (hx.snoc h5)
  simp only [go_p'] at h3
  rw [h3]
  refine .no rfl ?_
  rw [grpGo_dead h4]
  exact h4
 | case2 t l h1 r h2 =>
  intro xs hb hlo hx
  rw [iGrpGo, if_pos h1.2]
  rcases cpx_sim hr hG hU ps pseudo hps (t.go (t.p + 1)) hb (by simp only [go_p']; omega) with h | ⟨y, h3, h4, h5⟩ | ⟨h3, h4⟩
  · exact .un h
  · have := (iSel_lt h3).1
    simp only [go_p'] at this
    have er : r.2.p = (sCpx G s ps pseudo (t.go (t.p + 1))).2.p := rfl
    exact absurd (by omega) h2
  simp only [go_p'] at h3
  rw [h3]
  exact .no rfl h4
 | case3 t l h1 =>
  intro xs hb hlo hx
  rw [iGrpGo, if_neg (fun k => h1 ⟨hb, k⟩)]
  exact .ok xs rfl hb hx
def iGrp1 (Gi : Nat → Option (List CSel × Nat)) (s : Bs) (ps : Bool) (i : Nat) : Option (List CSel × Nat) :=
 match iSel Gi s ps i with
 | none => none
 | some (x, j) => iGrpGo Gi s ps [x] j
theorem grp1_sim (hr : RD s) (hG : GS s lo Gi G) (hU : GU G) (ps pseudo : Bool) (hps : pseudo = true → ps = true) (t : RS) (hb : t.bad = false) (hlo : lo ≤ t.p + 1) :
 Sim s (fun xs l => ∃ b, l = selMade grpNode b ∧ MTs xs b) (iGrp1 Gi s ps t.p) (sGrp1 G s ps true pseudo t) ∧ (∀ xs m, iGrp1 Gi s ps t.p = some (xs, m) → iWs s m = m) := by
 have hc := cpx_sim hr hG hU ps pseudo hps t hb hlo
 constructor
 · unfold iGrp1 sGrp1
   simp only [↓reduceIte]
   generalize sCpx G s ps pseudo t = r at hc ⊢
   rcases hc with h | ⟨y, h3, h4, h5⟩ | ⟨h3, h4⟩
   · exact .un (sGrpGo_un hU _ _ _ _ _ h)
   · have hl := (iSel_lt h3).1
     rw [h3]
     simp only
     rcases grpGo_sim hr hG hU ps pseudo hps r.2 r.1 [y] h4 (by omega) (.one h5) with h | ⟨z, h6, h7, h8⟩ | ⟨h6, h7⟩
     · exact .un h
     · exact .ok z h6 h7 ⟨_, rfl, h8⟩
     exact .no h6 h7
   rw [h3]
   refine .no rfl ?_
   rw [grpGo_dead h4]
   exact h4
 intro xs m h
 unfold iGrp1 at h
 split at h
 · cases h
 rename_i x j h1
 exact iGrpGo_fix (iSel_lt h1).2 h
theorem iGrp_succ (ps : Bool) (k i : Nat) : iGrp s ps (k + 1) i = iGrp1 (iGrp s ps k) s ps i := by
 rw [iGrp]; rfl
theorem iGrp_out (ps : Bool) (k : Nat) {i : Nat} (h : s.length ≤ i) : iGrp s ps k i = none := by
 cases k with
 | zero => rw [iGrp]
 | succ k => rw [iGrp_succ, iGrp1, iSel_out h]
theorem grp_GS (hr : RD s) (ps : Bool) : ∀ (n k lo : Nat), s.length + 1 ≤ lo + n → s.length + 1 ≤ lo + k → GS s lo (iGrp s ps k) (sGrp s ps n)
 | 0, k, lo, h1, h2 => fun t ht hb => by
  rw [iGrp_out ps k (by omega)]
  exact ⟨.bad rfl rfl, fun xs m h => by cases h⟩
 | n + 1, k, lo, h1, h2 => fun t ht hb => by
  cases k with
  | zero =>
   have hG := grp_GS hr ps n 0 (lo + 1) (by omega) (by omega)
   have hs := grp1_sim hr hG (fun t => sGrp_un s ps n t) ps false (by simp) t hb (by omega)
   rw [← iGrp_succ, iGrp_out ps 1 (by omega)] at hs
   rw [iGrp_out ps 0 (by omega)]
   exact hs
  | succ k =>
   have hG := grp_GS hr ps n k (lo + 1) (by omega) (by omega)
   have hs := grp1_sim hr hG (fun t => sGrp_un s ps n t) ps false (by simp) t hb (by omega)
   rw [← iGrp_succ] at hs
   exact hs
/-! ### What is read is no group, where one selector is asked for -/
theorem cmp_kind (ps pseudo : Bool) (t : RS) (l : List SelD) (pe : Bs) (many : Nat) : ((sCmpGo G s ps pseudo t l pe many).1.getD 0 default).kind ≠ 23 := by
 fun_induction sCmpGo G s ps pseudo t l pe many <;> first | assumption | simp [failL, selMade, sizedD]
theorem cmp_kind' (ps pseudo : Bool) (t : RS) : ((sCmp G s ps pseudo t).1.getD 0 default).kind ≠ 23 := by
 unfold sCmp
 simp only
 repeat' split
 all_goals exact cmp_kind _ _ _ _ _ _
theorem cpxGo_kind (ps pseudo : Bool) (t : RS) (left : List SelD) : (left.getD 0 default).kind ≠ 23 → ((sCpxGo G s ps pseudo t left).1.getD 0 default).kind ≠ 23 := by
 fun_induction sCpxGo G s ps pseudo t left with
 | case1 => exact fun h => h
 | case2 => exact fun h => h
 | case3 => intro _; simp [failL]
 | case4 t left h1 t1 c op t2 h2 h3 r h4 ih => intro _; exact ih (by simp [selMade, sizedD])
 | case5 => intro _; simp [selMade, sizedD]
theorem cpx_kind (ps pseudo : Bool) (t : RS) : ((sCpx G s ps pseudo t).1.getD 0 default).kind ≠ 23 := cpxGo_kind _ _ _ _ (cmp_kind' _ _ _)
end
theorem flat_head (T : ST) : ∃ rest, T.flat = { T.node with size := (T.flat.length : Nat) } :: rest := by
 obtain ⟨x, ks⟩ := T
 exact ⟨ST.flats ks, by simp [ST.flat, sizedD, ST.node]⟩
def Alike (many : Bool) (a b : List SelD) : Prop := ∃ A B : ST, a = A.flat ∧ b = B.flat ∧ A.norm = B.norm ∧ (A.node.kind = 23 ↔ many = true) ∧ (B.node.kind = 23 ↔ many = true)
theorem parse_sim (s : Bs) (many pseudo : Bool) (hs : s.length ≤ 1000) (hsure : (sParsed s many pseudo).2.2 = true) :
 (∃ l, iParse s many pseudo = some l ∧ (sParsed s many pseudo).2.1 = true ∧ Alike many (parseData many l) (sParsed s many pseudo).1) ∨
 (iParse s many pseudo = none ∧ (sParsed s many pseudo).2.1 = false) := by
 unfold sParsed at hsure ⊢
 cases hg : readGo s 0 with
 | false => rw [hg, if_neg Bool.false_ne_true] at hsure; cases hsure
 | true =>
  rw [hg, if_pos rfl] at hsure
  rw [if_pos rfl]
  have hr := rd_of hg
  have hU : GU (sGrp s pseudo (s.length + 1)) := fun t => sGrp_un s pseudo _ t
  cases many with
  | true =>
   have hG := grp_GS hr pseudo (s.length + 1) 1000 1 (by omega) (by omega)
   obtain ⟨hs, -⟩ := grp1_sim hr hG hU pseudo pseudo id ⟨0, false, false⟩ rfl (by simp)
   rw [← iGrp_succ] at hs
   simp only at hs hsure ⊢
   generalize sGrp1 (sGrp s pseudo (s.length + 1)) s pseudo true pseudo ⟨0, false, false⟩ = g at hs hsure ⊢
   unfold iParse
   rw [if_pos rfl]
   rcases hs with h | ⟨xs, h1, h2, b, h3, h4⟩ | ⟨h1, h2⟩
   · split at hsure <;> simp [h] at hsure
   · rw [h1]
     simp only
     by_cases hp : g.2.p < s.length
     · rw [if_pos hp, if_pos (.inr hp)]
       exact .inr ⟨rfl, rfl⟩
     rw [if_neg hp, if_neg (by rw [h2]; simp [hp])]
     refine .inl ⟨xs, rfl, rfl, ?_⟩
     obtain ⟨Ts, h5, h6⟩ := h4
     refine ⟨.mk grpNode (treesOf xs), .mk grpNode Ts, ?_, ?_, ?_, by simp [ST.node, grpNode], by simp [ST.node, grpNode]⟩
     · simp [parseData, ST.flat, flats_treesOf]
     · simp only [if_true]; rw [h3, h5]; simp [ST.flat, selMade]
     rw [ST.norm, ST.norm, h6]
   rw [h1]
   rw [if_pos]
   · exact .inr ⟨rfl, rfl⟩
   rcases h2 with h2 | h2
   · exact .inl h2
   exact .inr (bat_in (by omega))
  | false =>
   have hG := grp_GS hr pseudo (s.length + 1) 1001 1 (by omega) (by omega)
   have hs := cpx_sim hr hG hU pseudo pseudo id ⟨0, false, false⟩ rfl (by simp)
   have hk := cpx_kind (s := s) (G := sGrp s pseudo (s.length + 1)) pseudo pseudo ⟨0, false, false⟩
   unfold sGrp1 at hsure ⊢
   simp only [Bool.false_eq_true, ↓reduceIte] at hs hsure ⊢
   generalize sCpx (sGrp s pseudo (s.length + 1)) s pseudo pseudo ⟨0, false, false⟩ = g at hs hsure hk ⊢
   unfold iParse
   rw [if_neg Bool.false_ne_true]
   rcases hs with h | ⟨x, h1, h2, T, h3, h4⟩ | ⟨h1, h2⟩
   · split at hsure <;> simp [h] at hsure
   · rw [h1]
     simp only
     by_cases hp : g.2.p < s.length
     · rw [if_pos hp, if_pos (.inr hp)]
       exact .inr ⟨rfl, rfl⟩
     rw [if_neg hp, if_neg (by rw [h2]; simp [hp])]
     refine .inl ⟨[x], rfl, rfl, treeOf x, T, ?_, ?_, h4.symm, ?_, ?_⟩
     · simp [parseData, flat_treeOf]
     · obtain ⟨rest, he⟩ := flat_head T
       rw [h3]
       simp only [selMade, sizedD, List.drop_succ_cons, List.drop_zero, List.getD_eq_getElem?_getD, List.getElem?_cons_succ]
       rw [he]
       simp only [List.length_cons, List.getElem?_cons_zero, Option.getD_some, Int.toNat_natCast]
       exact List.take_of_length_le (by rw [← he, he]; simp)
     · obtain ⟨ks, e⟩ := treeOf_mk x
       rw [e]
       simp [ST.node, (node_kind x).2.2]
     obtain ⟨rest, he⟩ := flat_head T
     rw [h3, he] at hk
     simp at hk
     simp [hk]
   rw [h1]
   rw [if_pos]
   · exact .inr ⟨rfl, rfl⟩
   rcases h2 with h2 | h2
   · exact .inl h2
   exact .inr (bat_in (by omega))
end Law
end
section
open Go Go.RowKit
inductive RV where
 | sels (xs : List SelD)
 | ints (xs : List Nat)
 | strs (xs : List (List UInt8))
 | bytes (xs : List UInt8)
 | selss (xs : List (List SelD))
 | csels (xs : List CSel)
 | runes (xs : List Int)
inductive SV where
 | undef
 | int (k : IntKind) (n : Int)
 | bool (b : Bool)
 | str (l : List UInt8)
 | ptr (r o : Nat)
 | nilptr
 | agg (cs : List SV)
 | tup (vs : List SV)
 | iface (t : TypeId) (v : SV)
 | nilif
 | ifx
 | nilsl
 | sl (x : RV)
 | cp (cs : List SV)
 | own (r : Nat)
 | rp (r i z o : Nat)
 | cs (x : CSel)
 | gd (c : Bool) (s : SV)
 | op (v : Value)
 | nat (n : Nat)
 | byt (c : UInt8)
 | gk (j : Nat) (b : Bool) (s : SV)
instance : Inhabited SV := ⟨.undef⟩
def RV.len : RV → Nat
 | .sels xs => xs.length
 | .ints xs => xs.length
 | .strs xs => xs.length
 | .bytes xs => xs.length
 | .selss xs => xs.length
 | .csels xs => xs.length
 | .runes xs => xs.length
def RV.elem : RV → TypeId
 | .sels _ => 33
 | .ints _ => 3
 | .strs _ => 9
 | .bytes _ => 5
 | .selss _ => 22
 | .csels _ => 56
 | .runes _ => 21
def RV.z : RV → Nat
 | .sels _ => 8
 | _ => 1
def selCells (x : SelD) : List SV := [.int .i64 x.kind, .int .i64 x.op, .str x.key, .str x.val, .int .i64 x.a, .int .i64 x.b, .int .i64 x.flag, .int .i64 x.size]
def RV.cell : RV → Nat → List SV
 | .sels xs, i => selCells (xs.getD i default)
 | .ints xs, i => [.nat (xs.getD i 0)]
 | .strs xs, i => [.str (xs.getD i [])]
 | .bytes xs, i => [.byt (xs.getD i 0)]
 | .selss xs, i => [.sl (.sels (xs.getD i []))]
 | .csels xs, i => [.cs (xs.getD i default)]
 | .runes xs, i => [.int .i32 (xs.getD i 0)]
theorem RV.cell_length (x : RV) (i : Nat) : (x.cell i).length = x.z := by cases x <;> rfl
def CSel.ty : CSel → TypeId
 | .tag _ => 99
 | .cls _ => 101
 | .idn _ => 103
 | .attr .. => 105
 | .nth .. => 109
 | .only _ => 111
 | .empty => 113
 | .root => 114
 | .input => 115
 | .link => 116
 | .enabled => 117
 | .disabled => 118
 | .checked => 119
 | .lang _ => 121
 | .contains .. => 123
 | .never _ => 125
 | .rel .. => 127
 | .compound .. => 129
 | .combined .. => 131
def CSel.cells : CSel → List SV
 | .tag k => [.str k]
 | .cls v => [.str v]
 | .idn v => [.str v]
 | .attr k v o i => [.str k, .str v, .str o, .bool i]
 | .nth a b l t => [.int .i64 a, .int .i64 b, .bool l, .bool t]
 | .only t => [.bool t]
 | .lang v => [.str v]
 | .contains v o => [.str v, .bool o]
 | .never v => [.str v]
 | .rel n ks => [.str n, .sl (.csels ks)]
 | .compound ks pe => [.sl (.csels ks), .str pe]
 | .combined f c s => [.cs f, .byt c, .cs s]
 | _ => []
def CSel.enc (x : CSel) : SV := .iface x.ty (.agg x.cells)
structure Wit where
 Γ : Nat → Option (Array Value × TypeId)
 ρ : Nat → Nat
 σ : Nat → Value
 n : Nat
inductive Rel (ω : Wit) : SV → Value → Prop
 | undef (v : Value) : Rel ω .undef v
 | int (k : IntKind) (n : Int) : Rel ω (.int k n) (.int k n)
 | bool (b : Bool) : Rel ω (.bool b) (.bool b)
 | str (l : List UInt8) : Rel ω (.str l) (.string ⟨l.toArray⟩)
 | ptr (r o : Nat) (hr : r < ω.n) : Rel ω (.ptr r o) (.pointer (some ⟨ω.ρ r, o, none⟩))
 | nilptr : Rel ω .nilptr (.pointer none)
 | agg (cs : List SV) (vs : Array Value) (hn : vs.size = cs.length) (h : ∀ (i : Nat) (s : SV) (v : Value), cs[i]? = some s → vs[i]? = some v → Rel ω s v) : Rel ω (.agg cs) (.agg vs)
 | tup (cs : List SV) (vs : Array Value) (hn : vs.size = cs.length) (h : ∀ (i : Nat) (s : SV) (v : Value), cs[i]? = some s → vs[i]? = some v → Rel ω s v) : Rel ω (.tup cs) (.tuple vs)
 | iface (t : TypeId) (s : SV) (v : Value) (h : Rel ω s v) : Rel ω (.iface t s) (.iface t v)
 | nilif : Rel ω .nilif .nilIface
 | ifx (t : TypeId) (v : Value) : Rel ω .ifx (.iface t v)
 | nilsl : Rel ω .nilsl (.slice none 0 0)
 | slz (x : RV) (a : Option Addr) (c : Nat) (h : x.len = 0) : Rel ω (.sl x) (.slice a 0 c)
 | sl (x : RV) (b o c : Nat) (vs : Array Value) (hΓ : ω.Γ b = some (vs, x.elem)) (hn : o + x.len * x.z ≤ vs.size) (hc : x.len ≤ c)
  (h : ∀ (i j : Nat) (s : SV) (v : Value), i < x.len → (x.cell i)[j]? = some s → vs[o + (i * x.z + j)]? = some v → Rel ω s v) : Rel ω (.sl x) (.slice (some ⟨b, o, none⟩) x.len c)
 | cp (cs : List SV) (b o : Nat) (vs : Array Value) (T : TypeId) (hΓ : ω.Γ b = some (vs, T)) (hn : o + cs.length ≤ vs.size)
  (h : ∀ (j : Nat) (s : SV) (v : Value), cs[j]? = some s → vs[o + j]? = some v → Rel ω s v) : Rel ω (.cp cs) (.pointer (some ⟨b, o, none⟩))
 | own (r : Nat) (hr : r < ω.n) : Rel ω (.own r) (ω.σ r)
 | rp (r i z o : Nat) (hr : r < ω.n) : Rel ω (.rp r i z o) (.pointer (some ⟨ω.ρ r, i * z + o, none⟩))
 | cs (x : CSel) (v : Value) (h : Rel ω x.enc v) : Rel ω (.cs x) v
 | gd (c : Bool) (s : SV) (v : Value) (h : c = true → Rel ω s v) (h' : c = false → v = Go.undef) : Rel ω (.gd c s) v
 | op (v : Value) : Rel ω (.op v) v
 | nat (n : Nat) : Rel ω (.nat n) (.int .i64 n)
 | byt (c : UInt8) : Rel ω (.byt c) (.int .u8 c.toNat)
 | gk (j : Nat) (b : Bool) (s : SV) (v : Value) : Rel ω (.gk j b s) v
theorem Rel.nat_inv {ω : Wit} {n : Nat} {v : Value} (h : Rel ω (.nat n) v) : v = .int .i64 n := by cases h; rfl
theorem Rel.byt_inv {ω : Wit} {c : UInt8} {v : Value} (h : Rel ω (.byt c) v) : v = .int .u8 c.toNat := by cases h; rfl
structure Wit.le (ω ω' : Wit) : Prop where
 Γ : ∀ b x, ω.Γ b = some x → ω'.Γ b = some x
 n : ω.n ≤ ω'.n
 ρ : ∀ r, r < ω.n → ω'.ρ r = ω.ρ r
 σ : ∀ r, r < ω.n → ω'.σ r = ω.σ r
theorem Wit.le.refl (ω : Wit) : ω.le ω := ⟨fun _ _ h => h, Nat.le_refl _, fun _ _ => rfl, fun _ _ => rfl⟩
theorem Wit.le.trans {a b c : Wit} (h : a.le b) (k : b.le c) : a.le c :=
 ⟨fun _ _ e => k.Γ _ _ (h.Γ _ _ e), Nat.le_trans h.n k.n, fun r hr => (k.ρ r (Nat.lt_of_lt_of_le hr h.n)).trans (h.ρ r hr),
  fun r hr => (k.σ r (Nat.lt_of_lt_of_le hr h.n)).trans (h.σ r hr)⟩
theorem Rel.mono {ω ω' : Wit} (hl : ω.le ω') {s : SV} {v : Value} (h : Rel ω s v) : Rel ω' s v := by
 induction h with
 | undef v => exact .undef v
 | int k n => exact .int k n
 | bool b => exact .bool b
 | str l => exact .str l
 | ptr r o hr => rw [← hl.ρ r hr]; exact .ptr r o (Nat.lt_of_lt_of_le hr hl.n)
 | nilptr => exact .nilptr
 | agg cs vs hn _ ih => exact .agg cs vs hn fun i s v h1 h2 => ih i s v h1 h2
 | tup cs vs hn _ ih => exact .tup cs vs hn fun i s v h1 h2 => ih i s v h1 h2
 | iface t s v _ ih => exact .iface t s v ih
 | nilif => exact .nilif
 | ifx t v => exact .ifx t v
 | nilsl => exact .nilsl
 | slz x a c h => exact .slz x a c h
 | sl x b o c vs hΓ hn hc _ ih => exact .sl x b o c vs (hl.Γ _ _ hΓ) hn hc fun i j s v h0 h1 h2 => ih i j s v h0 h1 h2
 | cp cs b o vs T hΓ hn _ ih => exact .cp cs b o vs T (hl.Γ _ _ hΓ) hn fun j s v h1 h2 => ih j s v h1 h2
 | own r hr => rw [← hl.σ r hr]; exact .own r (Nat.lt_of_lt_of_le hr hl.n)
 | rp r i z o hr => rw [← hl.ρ r hr]; exact .rp r i z o (Nat.lt_of_lt_of_le hr hl.n)
 | cs x v _ ih => exact .cs x v ih
 | gd c s v _ hu ih => exact .gd c s v (fun hc => ih hc) hu
 | op v => exact .op v
 | nat n => exact .nat n
 | byt c => exact .byt c
 | gk j b s v => exact .gk j b s v
mutual
def SV.lt (n : Nat) : SV → Bool
 | .ptr r _ => decide (r < n)
 | .own r => decide (r < n)
 | .rp r _ _ _ => decide (r < n)
 | .agg l => SV.lts n l
 | .tup l => SV.lts n l
 | .cp l => SV.lts n l
 | .iface _ v => v.lt n
 | .gd _ s => s.lt n
 | _ => true
def SV.lts (n : Nat) : List SV → Bool
 | [] => true
 | x :: l => x.lt n && SV.lts n l
end
theorem SV.lts_get {n : Nat} : ∀ {l : List SV}, SV.lts n l = true → ∀ (i : Nat) (s : SV), l[i]? = some s → s.lt n = true
 | [], _, i, s, h => by simp at h
 | x :: l, hl, i, s, h => by
  simp only [SV.lts, Bool.and_eq_true] at hl
  cases i with
  | zero => simp at h; rw [← h]; exact hl.1
  | succ i => exact SV.lts_get hl.2 i s (by simpa using h)
theorem RV.cell_lts (n : Nat) (x : RV) (i : Nat) : SV.lts n (x.cell i) = true := by cases x <;> simp [RV.cell, selCells, SV.lts, SV.lt]
theorem CSel.enc_lt (n : Nat) (x : CSel) : x.enc.lt n = true := by cases x <;> simp [CSel.enc, CSel.cells, SV.lts, SV.lt]
theorem Rel.lower {ω : Wit} {m : Nat} {s : SV} {v : Value} (h : Rel ω s v) (hs : s.lt m = true) : Rel { ω with n := m } s v := by
 induction h with
 | undef v => exact .undef v
 | int k n => exact .int k n
 | bool b => exact .bool b
 | str l => exact .str l
 | ptr r o hr => exact .ptr (ω := { ω with n := m }) r o (by simpa [SV.lt] using hs)
 | nilptr => exact .nilptr
 | agg cs vs hn _ ih => exact .agg cs vs hn fun i s v h1 h2 => ih i s v h1 h2 (SV.lts_get (by simpa [SV.lt] using hs) i s h1)
 | tup cs vs hn _ ih => exact .tup cs vs hn fun i s v h1 h2 => ih i s v h1 h2 (SV.lts_get (by simpa [SV.lt] using hs) i s h1)
 | iface t s v _ ih => exact .iface t s v (ih (by simpa [SV.lt] using hs))
 | nilif => exact .nilif
 | ifx t v => exact .ifx t v
 | nilsl => exact .nilsl
 | slz x a c h => exact .slz x a c h
 | sl x b o c vs hΓ hn hc _ ih => exact .sl x b o c vs hΓ hn hc fun i j s v h0 h1 h2 => ih i j s v h0 h1 h2 (SV.lts_get (RV.cell_lts m x i) j s h1)
 | cp cs b o vs T hΓ hn _ ih => exact .cp cs b o vs T hΓ hn fun j s v h1 h2 => ih j s v h1 h2 (SV.lts_get (by simpa [SV.lt] using hs) j s h1)
 | own r hr => exact .own (ω := { ω with n := m }) r (by simpa [SV.lt] using hs)
 | rp r i z o hr => exact .rp (ω := { ω with n := m }) r i z o (by simpa [SV.lt] using hs)
 | cs x v _ ih => exact .cs x v (ih (CSel.enc_lt m x))
 | gd c s v _ hu ih => exact .gd c s v (fun hc => ih hc (by simpa [SV.lt] using hs)) hu
 | op v => exact .op v
 | nat n => exact .nat n
 | byt c => exact .byt c
 | gk j b s v => exact .gk j b s v
end
end Go.Proofs.YtengepcafdnalaaGreatDoor
