/-
  Parts of the proof that the law FnParseExact holds for every input (texts Pf). Conditions: none.
-/
import Derived.Test.YtengepcafdnalaaGreatDoorM03
namespace Go.Proofs.YtengepcafdnalaaGreatDoor
section
namespace Law
theorem go_p' (t : RS) (p : Nat) : (t.go p).p = p := by cases t; rfl
theorem go_bad' (t : RS) (p : Nat) : (t.go p).bad = t.bad := by cases t; rfl
theorem unI_p' (t : RS) (b : Bool) : (t.unI b).p = t.p := by cases t; rfl
/-! ### The end of a bracket -/
theorem sEnd_dead {s : Bs} {c : Nat} {x : SelD} {k : List SelD} {t : RS} (hc : c ≠ 92) (h : Dead s t) : (sEnd s c x k t).2.bad = true := by
 unfold sEnd
 split
 · rename_i h1
   rcases h with h | h
   · exact h
   omega
 rfl
theorem sEnd_yes {s : Bs} {c : Nat} (x : SelD) (k : List SelD) (t : RS) (h : bat s t.p = c) : sEnd s c x k t = (selMade x k, t.go (t.p + 1)) := if_pos h
theorem sEnd_no {s : Bs} {c : Nat} (x : SelD) (k : List SelD) (t : RS) (h : bat s t.p ≠ c) : sEnd s c x k t = (failL, t.no) := if_neg h
/-! ### Attributes -/
def iAttr2 (s : Bs) (i : Nat) : Option (CSel × Nat) :=
 match iIdent s (iWs s (i + 1)) with
 | none => none
 | some (key, j) =>
  if bat s (iWs s j) = 93 then some (.attr (low key) [] [] false, iWs s j + 1)
  else if (sSign s (iWs s j)).1 ≠ 1 then
   iAttr.iAttrV s (low key) (if bat s (iWs s j) = 61 then [61] else [s.getD (iWs s j) 0, s.getD (iWs s j + 1) 0])
    (iWs s (iWs s j + (sSign s (iWs s j)).2))
  else none
theorem iAttrE_none {s key op val : Bs} {ign : Bool} {m : Nat} (h : op ∉ attrSigns) : iAttr.iAttrE s key op val ign m = none := by
 unfold iAttr.iAttrE; rw [if_neg (fun k => h k.2.2)]
theorem iAttrV_none {s key op : Bs} {k : Nat} (h : op ∉ attrSigns) : iAttr.iAttrV s key op k = none := by
 unfold iAttr.iAttrV
 split
 · split
   · rfl
   split
   · exact iAttrE_none h
   rfl
 rfl
theorem iAttrE_some {s key op val : Bs} {ign : Bool} {k : Nat} {x : CSel} {m : Nat} (h : iAttr.iAttrE s key op val ign k = some (x, m)) : m = k + 1 ∧ k < s.length := by
 unfold iAttr.iAttrE at h
 split at h
 · rename_i h5; cases h; exact ⟨rfl, h5.1⟩
 cases h
theorem iAttrV_some {s key op : Bs} {k : Nat} {x : CSel} {m : Nat} (h : iAttr.iAttrV s key op k = some (x, m)) : k + 2 ≤ m ∧ m ≤ s.length := by
 unfold iAttr.iAttrV at h
 split at h
 · split at h
   · cases h
   rename_i v m' h1
   have h3 : k < m' := by
    split at h1
    · have := iStr_lt h1; omega
    have := iIdent_lt h1; omega
   by_cases h8 : iWs s m' < s.length
   · rw [if_pos h8] at h
     have h4 := iWs_ge s m'
     have h5 := iAttrE_some h
     have h6 := iWs_ge s (if bat s (iWs s m') = 105 ∨ bat s (iWs s m') = 73 then iWs s m' + 1 else iWs s m')
     have h7 : iWs s m' ≤ (if bat s (iWs s m') = 105 ∨ bat s (iWs s m') = 73 then iWs s m' + 1 else iWs s m') := by split <;> omega
     omega
   rw [if_neg h8] at h; cases h
 cases h
theorem sign_in {s : Bs} {i : Nat} (h : (sSign s i).1 ≠ 1) : (bat s i = 61 ∨ bat s (i + 1) = 61) ∧ (sSign s i).2 = (if bat s i = 61 then 1 else 2) ∧
 signAt ([] :: attrSigns) (if bat s i = 61 then [61] else [s.getD i 0, s.getD (i + 1) 0]) = (sSign s i).1 ∧
 (if bat s i = 61 then [61] else [s.getD i 0, s.getD (i + 1) 0]) ∈ attrSigns := by
 have hb : ∀ (j : Nat) (c : UInt8), bat s j = c.toNat → s.getD j 0 = c := fun j c h => UInt8.toNat_inj.1 h
 unfold sSign at h ⊢
 split at h
 · rename_i h1
   rw [if_pos h1]
   simp only [h1, ↓reduceIte]
   exact ⟨.inl trivial, trivial, by decide, by decide⟩
 rename_i h1
 split at h
 · rename_i h2
   rw [if_neg h1, if_pos h2]
   rw [hb (i + 1) 61 h2]
   simp only [h1, ↓reduceIte]
   refine ⟨.inr h2, ?_⟩
   split at h
   · rename_i h3; rw [if_pos h3, hb i 33 h3]; exact ⟨rfl, by decide, by decide⟩
   rename_i h3
   rw [if_neg h3]
   split at h
   · rename_i h3; rw [if_pos h3, hb i 126 h3]; exact ⟨rfl, by decide, by decide⟩
   rename_i h3
   rw [if_neg h3]
   split at h
   · rename_i h3; rw [if_pos h3, hb i 124 h3]; exact ⟨rfl, by decide, by decide⟩
   rename_i h3
   rw [if_neg h3]
   split at h
   · rename_i h3; rw [if_pos h3, hb i 94 h3]; exact ⟨rfl, by decide, by decide⟩
   rename_i h3
   rw [if_neg h3]
   split at h
   · rename_i h3; rw [if_pos h3, hb i 36 h3]; exact ⟨rfl, by decide, by decide⟩
   rename_i h3
   rw [if_neg h3]
   split at h
   · rename_i h3; rw [if_pos h3, hb i 42 h3]; exact ⟨rfl, by decide, by decide⟩
   exact absurd rfl h
 exact absurd rfl h
theorem sign_out {s : Bs} {i : Nat} (h : (sSign s i).1 = 1) : bat s i ≠ 61 ∧ (bat s (i + 1) = 61 → [s.getD i 0, s.getD (i + 1) 0] ∉ attrSigns) := by
 have hb : ∀ (j : Nat) (c : UInt8), s.getD j 0 = c → bat s j = c.toNat := fun j c h => by rw [bat, h]
 unfold sSign at h
 split at h
 · simp at h
 rename_i h1
 refine ⟨h1, fun h2 => ?_⟩
 rw [if_pos h2] at h
 intro hm
 simp only [attrSigns, List.mem_cons, List.cons.injEq, and_true, List.not_mem_nil, or_false, reduceCtorEq, and_false, false_or] at hm
 rcases hm with hm | hm | hm | hm | hm | hm <;> (have := hb i _ hm.1; simp at this; simp [this] at h)
theorem iAttr_eq (s : Bs) (i : Nat) : iAttr s i = iAttr2 s i := by
 unfold iAttr iAttr2
 rcases hk : iIdent s (iWs s (i + 1)) with _ | ⟨key, j⟩
 · rfl
 dsimp only
 by_cases h93 : bat s (iWs s j) = 93
 · rw [if_pos (bat_in (by omega)), if_pos h93, if_pos h93]
 rw [if_neg h93, if_neg h93]
 by_cases hs : (sSign s (iWs s j)).1 ≠ 1
 · obtain ⟨h1, h2, h3, h4⟩ := sign_in hs
   rw [if_pos hs, h2]
   by_cases hl : iWs s j + 2 < s.length
   · rw [if_pos (by omega), if_pos ⟨hl, h1⟩]
   have hn : iAttr.iAttrV s (low key) (if bat s (iWs s j) = 61 then [61] else [s.getD (iWs s j) 0, s.getD (iWs s j + 1) 0])
    (iWs s (iWs s j + (if bat s (iWs s j) = 61 then 1 else 2))) = none := by
    cases e : iAttr.iAttrV s (low key) (if bat s (iWs s j) = 61 then [61] else [s.getD (iWs s j) 0, s.getD (iWs s j + 1) 0])
     (iWs s (iWs s j + (if bat s (iWs s j) = 61 then 1 else 2))) with
    | none => rfl
    | some p =>
     obtain ⟨x, m⟩ := p
     have h5 := iAttrV_some e
     have h6 := iWs_ge s (iWs s j + (if bat s (iWs s j) = 61 then 1 else 2))
     have h7 : 1 ≤ (if bat s (iWs s j) = 61 then 1 else 2) := by split <;> omega
     omega
   rw [hn]
   split
   · rw [if_neg (fun k => hl k.1)]
   rfl
 rw [if_neg hs]
 simp only [ne_eq, Decidable.not_not] at hs
 obtain ⟨h1, h2⟩ := sign_out hs
 split
 · split
   · rename_i h3
     exact iAttrV_none (h2 (h3.2.resolve_left h1))
   rfl
 rfl
theorem attrE_sim {s : Bs} (key val op : Bs) (n : Int) (h1 : signAt ([] :: attrSigns) op = n) (h2 : op ∈ attrSigns) (t : RS) (hb : t.bad = false) (hw : iWs s t.p = t.p) :
 Sim s MT (iAttr.iAttrE s key op val (decide (bat s t.p = 105 ∨ bat s t.p = 73)) (iWs s (if bat s t.p = 105 ∨ bat s t.p = 73 then t.p + 1 else t.p))) (sAttrE s key n val t) := by
 have hm : ∀ (ign : Bool), MT (.attr key val op ign) (selMade ⟨5, n, key, val, 0, 0, b2i ign 1, 0⟩ []) := fun ign =>
  MT.leaf _ (by simp [dataOf, nodeOf, h1]) (by simp [nodeOf, h1]) (by simp [treeOf])
 unfold sAttrE
 by_cases hc : bat s t.p = 105 ∨ bat s t.p = 73
 · rw [if_pos hc, if_pos ⟨hb, hc⟩, decide_eq_true hc]
   rcases sSp_cases s (t.go (t.p + 1)) with h | ⟨_, e⟩ | ⟨h, _⟩
   · exact .un (sEnd_un _ _ _ _ _ h)
   · rw [e]
     unfold iAttr.iAttrE
     by_cases h93 : bat s (iWs s (t.p + 1)) = 93
     · rw [if_pos ⟨bat_in (by omega), h93, h2⟩, sEnd_yes _ _ ((t.go (t.p + 1)).go (iWs s (t.go (t.p + 1)).p)) h93]
       exact .ok _ rfl hb (hm true)
     rw [if_neg (fun k => h93 k.2.1), sEnd_no _ _ ((t.go (t.p + 1)).go (iWs s (t.go (t.p + 1)).p)) h93]
     exact .bad rfl rfl
   rw [go_bad', hb] at h; cases h
 rw [if_neg hc, if_neg (fun k => hc k.2), decide_eq_false hc, hw]
 unfold iAttr.iAttrE
 by_cases h93 : bat s t.p = 93
 · rw [if_pos ⟨bat_in (by omega), h93, h2⟩, sEnd_yes _ _ (t.unI _) h93]
   exact .ok _ rfl hb (hm false)
 rw [if_neg (fun k => h93 k.2.1), sEnd_no _ _ (t.unI _) h93]
 exact .bad rfl rfl
theorem attrE_dead {s key val : Bs} {n : Int} {t : RS} (h : Dead s t) : (sAttrE s key n val t).2.bad = true := by
 unfold sAttrE
 split
 · rename_i h1
   rcases h with h | h
   · rw [h] at h1; cases h1.1
   omega
 exact sEnd_dead (by decide) h
theorem attrE_eof {s key val : Bs} {n : Int} {t : RS} (h : s.length ≤ t.p) : (sAttrE s key n val t).2.bad = true := by
 have h0 := bat_out h
 unfold sAttrE
 rw [if_neg (fun k => by rw [h0] at k; omega)]
 rw [sEnd_no _ _ (t.unI _) (by show bat s t.p ≠ 93; omega)]
 rfl
theorem val_lt {s : Bs} {i : Nat} {r : Bs} {j : Nat} (h : (if bat s i = 39 ∨ bat s i = 34 then iStr s i else iIdent s i) = some (r, j)) : i < j ∧ j ≤ s.length := by
 split at h
 · have := iStr_lt h; omega
 exact iIdent_lt h
theorem attrU_sim {s : Bs} (hr : RD s) (key op : Bs) (n : Int) (k3 : signAt ([] :: attrSigns) op = n) (k4 : op ∈ attrSigns) (u : RS) (hb : u.bad = false) :
 Sim s MT (iAttr.iAttrV s key op u.p) (sAttrE s key n (sValue s u).1 (sSp s (sValue s u).2)) := by
 have hv := value_sim hr u hb
 generalize sValue s u = w at hv ⊢
 unfold iAttr.iAttrV
 rcases hv with h | ⟨v, h1, h2, h3⟩ | ⟨h1, h2⟩
 · exact .un (sAttrE_un _ _ _ _ _ (sSp_un _ _ h))
 · have hl := val_lt h1
   rw [if_pos (by omega), h1]
   dsimp only
   rcases sSp_cases s w.2 with h | ⟨_, e⟩ | ⟨h, _⟩
   · exact .un (sAttrE_un _ _ _ _ _ h)
   · rw [e]
     split
     · rw [h3]
       exact attrE_sim key w.1 op n k3 k4 (w.2.go (iWs s w.2.p)) h2 (iWs_fix s _)
     rename_i h5
     exact .bad rfl (attrE_eof (by simp only [go_p']; omega))
   rw [h2] at h; cases h
 refine .bad ?_ (by rw [sSp_dead h2]; exact attrE_dead h2)
 split
 · rw [h1]
 rfl
theorem attrV_sim {s : Bs} (hr : RD s) (key : Bs) (t : RS) (hb : t.bad = false) (hs : (sSign s t.p).1 ≠ 1) :
 Sim s MT (iAttr.iAttrV s key (if bat s t.p = 61 then [61] else [s.getD t.p 0, s.getD (t.p + 1) 0]) (iWs s (t.p + (sSign s t.p).2))) (sAttrV s key t) := by
 obtain ⟨_, _, k3, k4⟩ := sign_in hs
 unfold sAttrV
 rw [if_neg hs]
 rcases sSp_cases s (t.go (t.p + (sSign s t.p).2)) with h | ⟨_, e⟩ | ⟨h, _⟩
 · exact .un (sAttrE_un _ _ _ _ _ (sSp_un _ _ (sValue_un _ _ h)))
 · rw [e]
   exact attrU_sim hr key _ _ k3 k4 ((t.go (t.p + (sSign s t.p).2)).go (iWs s (t.p + (sSign s t.p).2))) hb
 rw [go_bad', hb] at h; cases h
def attr3 (s : Bs) (key : Bs) (t2 : RS) : List SelD × RS :=
 if t2.bad = true then (failL, t2.no)
 else if bat s t2.p = 93 then (selMade ⟨5, 1, key, [], 0, 0, 0, 0⟩ [], t2.go (t2.p + 1))
 else sAttrV s key t2
theorem attr3_eq (s : Bs) (t : RS) : sAttr s t = attr3 s (low (sName s (sSp s t)).1) (sSp s (sName s (sSp s t)).2) := rfl
theorem attr3_yes {s key : Bs} {t : RS} (hb : t.bad = false) (h : bat s t.p = 93) : attr3 s key t = (selMade ⟨5, 1, key, [], 0, 0, 0, 0⟩ [], t.go (t.p + 1)) := by
 unfold attr3; rw [if_neg (by rw [hb]; exact Bool.false_ne_true), if_pos h]
theorem attr3_no {s key : Bs} {t : RS} (hb : t.bad = false) (h : ¬ bat s t.p = 93) : attr3 s key t = sAttrV s key t := by
 unfold attr3; rw [if_neg (by rw [hb]; exact Bool.false_ne_true), if_neg h]
theorem attr3_un {s key : Bs} {t : RS} (h : t.un = true) : (attr3 s key t).2.un = true := by
 unfold attr3
 split
 · exact h
 split
 · exact h
 exact sAttrV_un _ _ _ h
theorem attr3_dead {s key : Bs} {t : RS} (h : Dead s t) : (attr3 s key t).2.bad = true := by
 unfold attr3
 rcases h with h | h
 · rw [if_pos h]; rfl
 split
 · rfl
 rw [if_neg (by omega)]
 unfold sAttrV
 rw [if_pos (by simp [sSign, h])]
 rfl
theorem attr_sim {s : Bs} (hr : RD s) (t : RS) (hb : t.bad = false) (i : Nat) (hi : t.p = i + 1) : Sim s MT (iAttr s i) (sAttr s t) := by
 rw [iAttr_eq, attr3_eq]
 unfold iAttr2
 rcases sSp_cases s t with h | ⟨_, e⟩ | ⟨h, _⟩
 · exact .un (attr3_un (sSp_un _ _ (sName_un _ _ h)))
 · rw [e, hi]
   have hn := name_sim hr (t.go (iWs s (i + 1))) hb
   simp only [go_p'] at hn
   generalize sName s (t.go (iWs s (i + 1))) = w at hn ⊢
   rcases hn with h | ⟨key, h1, h2, h3⟩ | ⟨h1, h2⟩
   · exact .un (attr3_un (sSp_un _ _ h))
   · rw [h1]
     dsimp only
     rcases sSp_cases s w.2 with h | ⟨_, e⟩ | ⟨h, _⟩
     · exact .un (attr3_un h)
     · rw [e, h3]
       by_cases h93 : bat s (iWs s w.2.p) = 93
       · rw [if_pos h93, attr3_yes (t := w.2.go (iWs s w.2.p)) h2 h93]
         exact .ok _ rfl h2 (MT.leaf _ (by simp [dataOf, nodeOf, signAt, b2i]) (by simp [nodeOf, signAt, b2i]) (by simp [treeOf]))
       rw [if_neg h93, attr3_no (t := w.2.go (iWs s w.2.p)) h2 h93]
       by_cases hs : (sSign s (iWs s w.2.p)).1 ≠ 1
       · rw [if_pos hs]
         exact attrV_sim hr (low w.1) (w.2.go (iWs s w.2.p)) h2 hs
       rw [if_neg hs]
       simp only [ne_eq, Decidable.not_not] at hs
       unfold sAttrV
       rw [if_pos (show (sSign s (w.2.go (iWs s w.2.p)).p).1 = 1 from hs)]
       exact .bad rfl rfl
     rw [h2] at h; cases h
   rw [h1]
   exact .bad rfl (by rw [sSp_dead h2]; exact attr3_dead h2)
 rw [hb] at h; cases h
/-! ### Counts -/
theorem fold_ge (l : Bs) : ∀ n : Nat, n ≤ l.foldl (fun n c => 10 * n + (c.toNat - 48)) n := by
 induction l with
 | nil => intro n; exact Nat.le_refl _
 | cons c l ih => intro n; have := ih (10 * n + (c.toNat - 48)); simp only [List.foldl_cons]; omega
theorem fold_min (l : Bs) (n : Nat) : min (l.foldl (fun n c => 10 * n + (c.toNat - 48)) (min n 100000)) 100000 = min (l.foldl (fun n c => 10 * n + (c.toNat - 48)) n) 100000 := by
 by_cases h : n ≤ 100000
 · rw [Nat.min_eq_left h]
 have h1 := fold_ge l 100000
 have h2 := fold_ge l n
 rw [Nat.min_eq_right (by omega : 100000 ≤ n)]
 omega
theorem digEnd_ge (s : Bs) (i : Nat) : i ≤ digEnd s i := by
 fun_induction digEnd s i with
 | case1 i h ih => omega
 | case2 => omega
theorem digEnd_le (s : Bs) (i : Nat) (h : i ≤ s.length) : digEnd s i ≤ s.length := by
 fun_induction digEnd s i with
 | case1 i h ih => exact ih (by omega)
 | case2 => omega
theorem digS_spec (s : Bs) (t : RS) (n : Nat) (b : Bool) (hn : n ≤ 100000) :
 (digS s t n b).1 = min (((s.take (digEnd s t.p)).drop t.p).foldl (fun n c => 10 * n + (c.toNat - 48)) n) 100000 ∧
 (digS s t n b).2.1 = (b || decide (digEnd s t.p ≠ t.p)) ∧ (digS s t n b).2.2 = (t.go (digEnd s t.p)).unI (decide ((digS s t n b).1 = 100000)) := by
 fun_induction digS s t n b with
 | case1 t n b h1 ih =>
  have e : digEnd s t.p = digEnd s (t.p + 1) := by rw [digEnd, if_pos ⟨h1.2, h1.1⟩]
  have hg := digEnd_ge s (t.p + 1)
  obtain ⟨h2, h3, h4⟩ := ih (by omega)
  rw [h4, h2, h3, e]
  have e2 : (s.take (digEnd s (t.p + 1))).drop t.p = s.getD t.p 0 :: (s.take (digEnd s (t.p + 1))).drop (t.p + 1) := by
   have hk := take_one s t.p (digEnd s (t.p + 1) - t.p) (by omega) (by have := digEnd_le s (t.p + 1) (by omega); omega)
   rw [show t.p + (digEnd s (t.p + 1) - t.p) = digEnd s (t.p + 1) from by omega] at hk
   exact hk
  rw [e2, List.foldl_cons]
  simp only [go_p']
  refine ⟨?_, by simp; omega, ?_⟩
  · exact fold_min _ _
  rfl
 | case2 t n b h1 =>
  have e : digEnd s t.p = t.p := by rw [digEnd, if_neg (fun h => h1 ⟨h.2, h.1⟩)]
  rw [e]
  have e3 : (s.take t.p).drop t.p = [] := by apply List.drop_eq_nil_of_le; simp; omega
  rw [e3]
  refine ⟨by simp only [List.foldl_nil]; omega, by simp, rfl⟩
theorem int_sim (s : Bs) (t : RS) : (digS s t 0 false).2.2.un = true ∨ ((digS s t 0 false).2.2 = t.go (digEnd s t.p) ∧
 ((digEnd s t.p = t.p ∧ (digS s t 0 false).2.1 = false ∧ iInt s t.p = none) ∨
  (t.p < s.length ∧ digB (bat s t.p) = true ∧ (digS s t 0 false).2.1 = true ∧ iInt s t.p = some (((digS s t 0 false).1 : Int), digEnd s t.p)))) := by
 obtain ⟨h1, h2, h3⟩ := digS_spec s t 0 false (by omega)
 by_cases h : (digS s t 0 false).1 = 100000
 · left; rw [h3, h]; simp
 right
 rw [h3, decide_eq_false h]
 refine ⟨by simp, ?_⟩
 by_cases e : digEnd s t.p = t.p
 · left
   refine ⟨e, by rw [h2]; simp [e], by unfold iInt; rw [if_pos e]⟩
 right
 have hd : t.p < s.length ∧ digB (bat s t.p) = true := by
  by_cases hd : t.p < s.length ∧ digB (bat s t.p) = true
  · exact hd
  exact absurd (by rw [digEnd, if_neg hd]) e
 refine ⟨hd.1, hd.2, by rw [h2]; simp [e], ?_⟩
 unfold iInt decVal
 rw [if_neg e]
 have h5 : (digS s t 0 false).1 = ((s.take (digEnd s t.p)).drop t.p).foldl (fun n c => 10 * n + (c.toNat - 48)) 0 := by omega
 rw [← h5, if_pos (by omega)]
def CSim (s : Bs) (f : Option (Int × Int × Nat)) (g : (Int × Int) × RS) : Prop :=
 g.2.un = true ∨ (f = some (g.1.1, g.1.2, g.2.p) ∧ g.2.bad = false) ∨ (f = none ∧ (Dead s g.2 ∨ s.length ≤ g.2.p))
theorem countN_sim (s : Bs) (a : Int) (t : RS) (hb : t.bad = false) : CSim s (iReadN s a t.p) (sCountN s a t) := by
 unfold sCountN
 simp only
 rcases sSp_cases s t with h | ⟨_, e⟩ | ⟨h, _⟩
 · left
   split
   · have h9 := digS_un s (sSp s ((sSp s t).go ((sSp s t).p + 1))) 0 false (sSp_un _ _ h)
     simp only
     split <;> exact h9
   simp [h]
 · rw [e]
   simp only [go_p']
   unfold iReadN
   by_cases hc : bat s (iWs s t.p) = 43 ∨ bat s (iWs s t.p) = 45
   · have hl : iWs s t.p < s.length := bat_in (by omega)
     rw [if_pos hc, if_pos hl]
     rcases sSp_cases s ((t.go (iWs s t.p)).go (iWs s t.p + 1)) with h | ⟨_, e2⟩ | ⟨h, _⟩
     · left
       have h9 := digS_un s _ 0 false h
       simp only
       split <;> exact h9
     · rw [e2]
       simp only [go_p']
       have hi := int_sim s (((t.go (iWs s t.p)).go (iWs s t.p + 1)).go (iWs s (iWs s t.p + 1)))
       simp only [go_p'] at hi
       generalize digS s (((t.go (iWs s t.p)).go (iWs s t.p + 1)).go (iWs s (iWs s t.p + 1))) 0 false = d at hi ⊢
       rcases hi with h | ⟨h1, ⟨h2, h3, h4⟩ | ⟨h2, _, h3, h4⟩⟩
       · left; simp only; split <;> exact h
       · right; right
         rw [h3, if_neg Bool.false_ne_true, h4]
         refine ⟨?_, .inl (.inl rfl)⟩
         by_cases h43 : bat s (iWs s t.p) = 43
         · rw [if_pos h43]; rfl
         rw [if_neg h43, if_pos (by omega)]; rfl
       right; left
       rw [h3, if_pos rfl, h4, h1]
       refine ⟨?_, hb⟩
       by_cases h43 : bat s (iWs s t.p) = 43
       · rw [if_pos h43, if_neg (by omega)]; rfl
       rw [if_neg h43, if_pos (by omega), if_pos (by omega)]; rfl
     rw [go_bad', go_bad', hb] at h; cases h
   rw [if_neg hc]
   right
   by_cases hl : iWs s t.p < s.length
   · left
     rw [if_pos hl, if_neg (fun k => hc (.inl k)), if_neg (fun k => hc (.inr k))]
     exact ⟨rfl, hb⟩
   right
   rw [if_neg hl]
   exact ⟨rfl, .inr (by simp only [unI_p', go_p']; omega)⟩
 rw [hb] at h; cases h
theorem N_dig {c : Nat} (h : isN c = true) : digB c = false := by simp [isN, digB] at *; omega
def iA (s : Bs) (sg : Int) (i : Nat) : Option (Int × Int × Nat) :=
 if i < s.length then
  if digB (bat s i) = true then (iInt s i).bind fun p => iReadA s (sg * p.1) p.2
  else if isN (bat s i) = true then iReadN s sg (i + 1)
  else none
 else none
theorem iPosA_eq (s : Bs) (i : Nat) : iPosA s i = iA s 1 i := by unfold iPosA iA; simp
theorem iNegA_eq (s : Bs) (i : Nat) : iNegA s i = iA s (-1) i := by
 unfold iNegA iA
 have : ∀ p : Int, 0 - p = -1 * p := by intro p; omega
 simp only [this]
theorem countA_sim (s : Bs) (sg : Int) (t : RS) (hb : t.bad = false) : CSim s (iA s sg t.p) (sCountA s sg t) := by
 have hi := int_sim s t
 unfold sCountA
 simp only
 generalize digS s t 0 false = d at hi ⊢
 rcases hi with h | ⟨h1, ⟨h2, h3, h4⟩ | ⟨h2, h5, h3, h4⟩⟩
 · left
   split
   · exact sCountN_un _ _ _ h
   split <;> simp [h]
 · rw [h3, h1, h2]
   simp only [go_p', Bool.false_eq_true, ↓reduceIte]
   have hnd : ¬ (t.p < s.length ∧ digB (bat s t.p) = true) := by
    intro k
    have := digEnd_ge s (t.p + 1)
    rw [digEnd, if_pos k] at h2
    omega
   unfold iA
   by_cases hN : isN (bat s t.p) = true
   · have hl : t.p < s.length := by
      apply bat_in; intro e; rw [e] at hN; revert hN; decide
     rw [if_pos hl, if_neg (fun k => hnd ⟨hl, k⟩), if_pos hN, if_pos hN]
     exact countN_sim s sg ((t.go t.p).go (t.p + 1)) hb
   right; right
   rw [if_neg hN, if_neg hN]
   refine ⟨?_, .inl (.inl rfl)⟩
   split
   · rename_i hl
     rw [if_neg (fun k => hnd ⟨hl, k⟩)]
   rfl
 rw [h3, h1]
 simp only [go_p', ↓reduceIte]
 unfold iA
 rw [if_pos h2, if_pos h5, h4]
 simp only [Option.bind_some]
 unfold iReadA
 by_cases hN : isN (bat s (digEnd s t.p)) = true
 · have hl : digEnd s t.p < s.length := by
    apply bat_in; intro e; rw [e] at hN; revert hN; decide
   rw [if_pos hN, if_pos hl, if_pos hN]
   exact countN_sim s _ ((t.go (digEnd s t.p)).go (digEnd s t.p + 1)) hb
 rw [if_neg hN, if_neg hN]
 right
 by_cases hl : digEnd s t.p < s.length
 · left; rw [if_pos hl]; exact ⟨rfl, hb⟩
 right; rw [if_neg hl]; exact ⟨rfl, .inr (by simp only [unI_p', go_p']; omega)⟩
/-! ### odd and even -/
theorem bytes_get {s : Bs} {i k m : Nat} (h : i + k ≤ s.length) (hm : m < k) : ((s.take (i + k)).drop i).getD m 0 = s.getD (i + m) 0 := by
 simp only [List.getD_eq_getElem?_getD, List.getElem?_drop, List.getElem?_take]
 rw [if_pos (by omega)]
theorem low_getD (l : Bs) (m : Nat) (h : m < l.length) : (low l).getD m 0 = lowB (l.getD m 0) := by
 unfold low
 simp [List.getD_eq_getElem?_getD, List.getElem?_eq_getElem h]
theorem lowB_cases {c d : UInt8} (h : lowB c = d) (h1 : 97 ≤ d.toNat) (h2 : d.toNat ≤ 122) : c.toNat = d.toNat ∨ c.toNat + 32 = d.toNat := by
 unfold lowB at h
 split at h
 · right; rw [← h, UInt8.toNat_add]; simp; omega
 left; rw [h]
theorem word_name {s w : Bs} {i : Nat} (hw : ∀ m, m < w.length → 97 ≤ (w.getD m 0).toNat ∧ (w.getD m 0).toNat ≤ 122) (h0 : 0 < w.length) (h : wordS s w i = true) :
 ∃ v, iName s i = some (v, i + w.length) ∧ low v = w ∧ i + w.length ≤ s.length ∧ (bat s i = (w.getD 0 0).toNat ∨ bat s i + 32 = (w.getD 0 0).toNat) := by
 simp only [wordS, Bool.and_eq_true, decide_eq_true_eq, Bool.not_eq_true', Bool.and_eq_false_imp, Bool.or_eq_false_iff, decide_eq_false_iff_not] at h
 obtain ⟨⟨h1, h2⟩, h3⟩ := h
 have hb : ∀ m, m < w.length → (bat s (i + m) = (w.getD m 0).toNat ∨ bat s (i + m) + 32 = (w.getD m 0).toNat) := by
  intro m hm
  have e : lowB (s.getD (i + m) 0) = w.getD m 0 := by
   rw [← bytes_get h1 hm, ← low_getD _ _ (by simp; omega), h2]
  exact lowB_cases e (hw m hm).1 (hw m hm).2
 have hc : ∀ m, i ≤ m → m < i + w.length → nmChar (bat s m) = true := by
  intro m k1 k2
  have := hb (m - i) (by omega)
  rw [show i + (m - i) = m from by omega] at this
  have h5 := hw (m - i) (by omega)
  simp only [nmChar, nmStart, Bool.or_eq_true, Bool.and_eq_true, decide_eq_true_eq]
  omega
 refine ⟨_, ?_, h2, h1, hb 0 h0⟩
 rw [iName_eq (by omega) (.inl (hc i (by omega) (by omega))), nameGo_run s i [] w.length h1 hc, List.nil_append, nameGo_stop]
 by_cases hl : i + w.length < s.length
 · have := h3 hl; exact .inr this
 exact .inl hl
theorem iEsc_ne {s : Bs} {i : Nat} {v : Bs} {j : Nat} (he : iEsc s i = some (v, j)) : v ≠ [] := by
 unfold iEsc at he
 split at he
 · cases he
 split at he
 · cases he
 split at he <;> (simp only [Option.some.injEq, Prod.mk.injEq] at he; rw [← he.1])
 · exact utf8_ne _
 simp
theorem name_word {s w : Bs} {j : Nat} : ∀ (k i : Nat) (acc : Bs), (∀ m, m < k → bat s (i + m) ≠ 92) → nameGo s i acc = some (w, j) → w.length = acc.length + k →
 w = acc ++ (s.take (i + k)).drop i ∧ (k = 0 ∨ i + k ≤ s.length) ∧ (¬ i + k < s.length ∨ (nmChar (bat s (i + k)) = false ∧ bat s (i + k) ≠ 92))
 | 0, i, acc, h1, h2, h3 => by
  have hst : ¬ i < s.length ∨ (nmChar (bat s i) = false ∧ bat s i ≠ 92) := by
   by_cases hl : i < s.length
   · right
     constructor
     · cases hc : nmChar (bat s i)
       · rfl
       rw [nameGo_chr hl hc] at h2; have := nameGo_len h2; simp at this; omega
     intro hc
     cases he : iEsc s i with
     | none => rw [nameGo_none hl hc he] at h2; cases h2
     | some p =>
      obtain ⟨v, k⟩ := p
      rw [nameGo_esc hl hc he] at h2
      have h5 := nameGo_len h2
      have h6 := List.length_pos_iff.2 (iEsc_ne he)
      simp only [List.length_append] at h5
      omega
   exact .inl hl
  rw [nameGo_stop hst] at h2
  cases h2
  exact ⟨by simp, .inl rfl, hst⟩
 | k + 1, i, acc, h1, h2, h3 => by
  by_cases hc : i < s.length ∧ nmChar (bat s i) = true
  · rw [nameGo_chr hc.1 hc.2] at h2
    obtain ⟨e1, e2, e3⟩ := name_word k (i + 1) (acc ++ [s.getD i 0]) (fun m hm => by have := h1 (m + 1) (by omega); rwa [show i + (m + 1) = i + 1 + m from by omega] at this) h2 (by simp; omega)
    rw [show i + 1 + k = i + (k + 1) from by omega] at e1 e2 e3
    refine ⟨?_, .inr (by omega), e3⟩
    rw [e1, List.append_assoc, ← take_one s i (k + 1) (by omega) (by omega)]
  have hst : ¬ i < s.length ∨ (nmChar (bat s i) = false ∧ bat s i ≠ 92) := by
   by_cases hl : i < s.length
   · exact .inr ⟨by simpa using fun k => hc ⟨hl, k⟩, h1 0 (by omega)⟩
   exact .inl hl
  rw [nameGo_stop hst] at h2
  cases h2
  omega
theorem word_of {s w W : Bs} {i j : Nat} (hW : W.length ≤ 4) (hW0 : 0 < W.length) (hb : bsNear s i = false) (h : nameGo s i [] = some (w, j)) (hl : low w = W) : wordS s W i = true := by
 simp only [bsNear, Bool.or_eq_false_iff, decide_eq_false_iff_not] at hb
 have hlen : w.length = W.length := by rw [← hl]; simp [low]
 obtain ⟨e1, e2, e3⟩ := name_word W.length i [] (fun m hm => by
  rcases (by omega : m = 0 ∨ m = 1 ∨ m = 2 ∨ m = 3) with e | e | e | e <;> subst e
  · exact hb.1.1.1
  · exact hb.1.1.2
  · exact hb.1.2
  exact hb.2) h (by simp [hlen])
 rw [List.nil_append] at e1
 simp only [wordS, Bool.and_eq_true, decide_eq_true_eq, Bool.not_eq_true', Bool.and_eq_false_imp, Bool.or_eq_false_iff, decide_eq_false_iff_not]
 refine ⟨⟨by omega, by rw [← e1, hl]⟩, fun k => ?_⟩
 exact e3.resolve_left (fun q => q k)
theorem iNth_oe {s : Bs} {i : Nat} (h : isOE (bat s i) = true) : iNth s i = match iName s i with
      | none => none
      | some (w, j) => if low w = [111, 100, 100] then some (2, 1, j) else if low w = [101, 118, 101, 110] then some (2, 0, j) else none := by
 have hc : bat s i = 111 ∨ bat s i = 79 ∨ bat s i = 101 ∨ bat s i = 69 := by simp only [isOE, Bool.or_eq_true, decide_eq_true_eq] at h; omega
 unfold iNth
 rw [if_pos (bat_in (by omega)), if_neg (by omega), if_neg (by omega), if_neg (by simp [digB]; omega), if_neg (by simp [isN]; omega), if_pos h]
 rfl
theorem count_sim {s : Bs} (t : RS) (hb : t.bad = false) : CSim s (iNth s t.p) (sCount s t) := by
 unfold sCount
 by_cases ho : wordS s [111, 100, 100] t.p = true
 · rw [if_pos ho]
   obtain ⟨v, h1, h2, _, h3⟩ := word_name (by decide) (by decide) ho
   right; left
   rw [iNth_oe (by rcases h3 with h3 | h3 <;> simp [isOE] at h3 ⊢ <;> omega), h1]
   simp only [h2, ↓reduceIte]
   exact ⟨rfl, hb⟩
 rw [if_neg ho]
 by_cases he : wordS s [101, 118, 101, 110] t.p = true
 · rw [if_pos he]
   obtain ⟨v, h1, h2, _, h3⟩ := word_name (by decide) (by decide) he
   right; left
   rw [iNth_oe (by rcases h3 with h3 | h3 <;> simp [isOE] at h3 ⊢ <;> omega), h1]
   simp only [h2]
   exact ⟨rfl, hb⟩
 rw [if_neg he]
 by_cases h45 : bat s t.p = 45
 · rw [if_pos h45]
   unfold iNth
   rw [if_pos (bat_in (by omega)), if_pos h45, iNegA_eq]
   exact countA_sim s (-1) (t.go (t.p + 1)) hb
 rw [if_neg h45]
 by_cases h43 : bat s t.p = 43
 · rw [if_pos h43]
   unfold iNth
   rw [if_pos (bat_in (by omega)), if_neg h45, if_pos h43, iPosA_eq]
   exact countA_sim s 1 (t.go (t.p + 1)) hb
 rw [if_neg h43]
 by_cases hoe : isOE (bat s t.p) = true
 · have hc : bat s t.p = 111 ∨ bat s t.p = 79 ∨ bat s t.p = 101 ∨ bat s t.p = 69 := by simp only [isOE, Bool.or_eq_true, decide_eq_true_eq] at hoe; omega
   have hd : digEnd s t.p = t.p := by rw [digEnd, if_neg (by simp [digB]; omega)]
   rcases int_sim s t with h | ⟨h1, ⟨h2, h3, h4⟩ | ⟨h2, h5, h3, h4⟩⟩
   · left
     unfold sCountA
     simp only
     split
     · exact sCountN_un _ _ _ h
     split <;> simp [h]
   · unfold sCountA
     simp only
     rw [h1, h3, hd]
     simp only [go_p']
     rw [if_neg (by simp [isN]; omega)]
     cases hbs : bsNear s t.p
     · right; right
       refine ⟨?_, .inl (.inl rfl)⟩
       rw [iNth_oe hoe, iName_eq (bat_in (by omega)) (.inl (by simp [nmChar, nmStart]; omega))]
       split
       · rfl
       rename_i w j hw
       rw [if_neg (fun k => ho (word_of (by decide) (by decide) hbs hw k)), if_neg (fun k => he (word_of (by decide) (by decide) hbs hw k))]
     left; simp
   exfalso
   simp only [digB, Bool.and_eq_true, decide_eq_true_eq] at h5
   omega
 have e : iNth s t.p = iA s 1 t.p := by
  unfold iNth iA
  rw [if_neg h45, if_neg h43, if_neg hoe]
  split
  · split
    · rw [iPosA_eq]; unfold iA; rename_i h1 h2; rw [if_pos h1, if_pos h2]
    rfl
  rfl
 rw [e]
 exact countA_sim s 1 t hb
/-! ### What stands in brackets -/
section
variable {s : Bs}
theorem close_sim {c : CSel} {x : SelD} {kids : List SelD} (hm : MT c (selMade x kids)) (w u : RS) (hb : w.bad = false) (h1 : (sSp s w).un = true → u.un = true) (h2 : u.p = (sSp s w).p) (h3 : u.bad = (sSp s w).bad) :
 Sim s MT ((iClose s w.p).map fun e => (c, e)) (if u.bad = true then (failL, u.no) else sEnd s 41 x kids u) := by
 rcases sSp_cases s w with h | ⟨_, e⟩ | ⟨h, _⟩
 · refine .un ?_
   split
   · exact h1 h
   exact sEnd_un _ _ _ _ _ (h1 h)
 · rw [e] at h2 h3
   simp only [go_p', go_bad'] at h2 h3
   rw [if_neg (by rw [h3, hb]; exact Bool.false_ne_true)]
   unfold iClose
   by_cases h41 : bat s (iWs s w.p) = 41
   · rw [sEnd_yes _ _ u (by rw [h2]; exact h41), if_pos ⟨bat_in (by omega), h41⟩]
     exact .ok c (by simp [h2]) (by simp [h3, hb]) hm
   rw [sEnd_no _ _ u (by rw [h2]; exact h41), if_neg (fun k => h41 k.2)]
   exact .bad rfl rfl
 rw [hb] at h; cases h
theorem close_dead {x : SelD} {kids : List SelD} (w u : RS) (hd : Dead s w ∨ s.length ≤ w.p) (h2 : u.p = (sSp s w).p) (h3 : u.bad = (sSp s w).bad) :
 (if u.bad = true then (failL, u.no) else sEnd s 41 x kids u).2.bad = true := by
 have e : sSp s w = w := by
  rcases hd with hd | hd
  · exact sSp_dead hd
  rw [sSp, if_neg (fun k => by omega)]
 rw [e] at h2 h3
 split
 · rfl
 rename_i hn
 rcases hd with hd | hd
 · refine sEnd_dead (by decide) ?_
   rcases hd with hd | hd
   · rw [h3, hd] at hn; exact absurd rfl hn
   exact .inr (by rw [h2]; exact hd)
 unfold sEnd
 rw [if_neg (by rw [h2, bat_out hd]; decide)]
 rfl
theorem close_un {x : SelD} {kids : List SelD} {u : RS} (h : u.un = true) : (if u.bad = true then (failL, u.no) else sEnd s 41 x kids u).2.un = true := by
 split
 · exact h
 exact sEnd_un _ _ _ _ _ h
theorem iOpen_eq {j : Nat} (h : bat s j = 40) : iOpen s j = some (iWs s (j + 1)) := by
 unfold iOpen; rw [if_pos ⟨bat_in (by omega), h⟩]
variable (hr : RD s) (t : RS) (hb : t.bad = false) (j : Nat) (hj : t.p = j + 1) (h40 : bat s j = 40) {G : RS → List SelD × RS}
include hr hb hj h40
theorem argN_sim (last ofType : Bool) (kind flag : Int) (hf : flag = b2i last 1 + b2i ofType 2) : Sim s MT (iArgN s last ofType j) (sArg G s kind flag t) := by
 have _ := hr
 have h0 : 0 ≤ flag := by rw [hf]; cases last <;> cases ofType <;> simp [b2i]
 unfold sArg iArgN
 simp only
 rw [if_pos h0, iOpen_eq h40]
 simp only
 rcases sSp_cases s t with h | ⟨_, e⟩ | ⟨h, _⟩
 · exact .un (close_un (sSp_un _ _ (sCount_un _ _ h)))
 · rw [e, hj]
   have hc := count_sim (s := s) (t.go (iWs s (j + 1))) hb
   simp only [go_p'] at hc
   generalize sCount s (t.go (iWs s (j + 1))) = w at hc ⊢
   rcases hc with h | ⟨h1, h2⟩ | ⟨h1, h2⟩
   · exact .un (close_un (sSp_un _ _ h))
   · rw [h1]
     simp only
     refine close_sim ?_ w.2 (sSp s w.2) h2 (fun h => h) rfl rfl
     exact MT.leaf _ (by simp [dataOf, nodeOf, hf]) (by simp [nodeOf, hf]) (by simp [treeOf])
   rw [h1]
   exact .bad rfl (close_dead w.2 (sSp s w.2) h2 rfl rfl)
 rw [hb] at h; cases h
theorem argL_sim (flag : Int) (hf : flag < 0) : Sim s MT (iArgL s j) (sArg G s 15 flag t) := by
 unfold sArg iArgL
 simp only
 rw [if_neg (by omega), if_neg (by decide), if_pos trivial, iOpen_eq h40]
 simp only
 rcases sSp_cases s t with h | ⟨_, e⟩ | ⟨h, _⟩
 · refine .un (close_un ?_)
   simp [sSp_un s ((sName s ((sSp s t).unI (isQ (bat s (sSp s t).p) || decide (bat s (sSp s t).p = 42)))).2.unI (hiB (sName s ((sSp s t).unI (isQ (bat s (sSp s t).p) || decide (bat s (sSp s t).p = 42)))).1)) (by simp [sName_un s ((sSp s t).unI (isQ (bat s (sSp s t).p) || decide (bat s (sSp s t).p = 42))) (by simp [h])])]
 · rw [e, hj]
   simp only [go_p']
   have hn := name_sim hr ((t.go (iWs s (j + 1))).unI (isQ (bat s (iWs s (j + 1))) || decide (bat s (iWs s (j + 1)) = 42))) hb
   simp only [go_p', unI_p'] at hn
   generalize sName s ((t.go (iWs s (j + 1))).unI (isQ (bat s (iWs s (j + 1))) || decide (bat s (iWs s (j + 1)) = 42))) = w at hn ⊢
   rcases hn with h | ⟨v, h1, h2, h3⟩ | ⟨h1, h2⟩
   · refine .un (close_un ?_)
     simp [sSp_un s (w.2.unI (hiB w.1)) (by simp [h])]
   · have hl := iIdent_lt h1
     rw [if_pos (by omega), h1]
     simp only
     rw [h3]
     refine close_sim (MT.leaf _ (by simp [dataOf, nodeOf]) (by simp [nodeOf]) (by simp [treeOf])) (w.2.unI (hiB w.1)) _ h2 (fun h => by simp [h]) rfl rfl
   refine .bad ?_ (close_dead (w.2.unI (hiB w.1)) _ (.inl h2) rfl rfl)
   split
   · rw [h1]
   rfl
 rw [hb] at h; cases h
theorem argV_sim (own : Bool) (flag : Int) (hf : flag < 0) : Sim s MT (iArgV s own j) (sArg G s (16 + b2i own 1) flag t) := by
 unfold sArg iArgV
 simp only
 rw [if_neg (by omega), if_neg (by cases own <;> decide), if_neg (by cases own <;> decide), iOpen_eq h40]
 simp only
 rcases sSp_cases s t with h | ⟨_, e⟩ | ⟨h, _⟩
 · exact .un (close_un (sSp_un s _ (by simp [sValue_un s _ h])))
 · rw [e, hj]
   have hn := value_sim hr (t.go (iWs s (j + 1))) hb
   simp only [go_p'] at hn
   generalize sValue s (t.go (iWs s (j + 1))) = w at hn ⊢
   rcases hn with h | ⟨v, h1, h2, h3⟩ | ⟨h1, h2⟩
   · exact .un (close_un (sSp_un s _ (by simp [h])))
   · have hl := val_lt h1
     rw [if_pos (by omega), h1]
     simp only
     rw [h3]
     refine close_sim (MT.leaf _ (by simp [dataOf, nodeOf]) (by simp [nodeOf]) (by simp [treeOf])) (w.2.unI (hiB w.1)) _ h2 (fun h => h) rfl rfl
   refine .bad ?_ (close_dead (w.2.unI (hiB w.1)) _ (.inl h2) rfl rfl)
   split
   · rw [h1]
   rfl
 rw [hb] at h; cases h
end
def GS (s : Bs) (lo : Nat) (Gi : Nat → Option (List CSel × Nat)) (G : RS → List SelD × RS) : Prop :=
 ∀ t, lo ≤ t.p → t.bad = false → Sim s (fun xs l => ∃ b, l = selMade grpNode b ∧ MTs xs b) (Gi t.p) (G t) ∧ (∀ xs m, Gi t.p = some (xs, m) → iWs s m = m)
def GU (G : RS → List SelD × RS) : Prop := ∀ t, t.un = true → (G t).2.un = true
theorem argG_sim {s : Bs} (hr : RD s) (t : RS) (hb : t.bad = false) (j : Nat) (hj : t.p = j + 1) (h40 : bat s j = 40) {Gi : Nat → Option (List CSel × Nat)} {G : RS → List SelD × RS} {lo : Nat} (hG : GS s lo Gi G) (hU : GU G) (hlo : lo ≤ j + 1)
 (n : Bs) (kind flag : Int) (hk : 17 + signAt [nNot, nHas, nHasChild] n = kind) (hk2 : 18 ≤ kind) (hf : flag < 0) : Sim s MT (iArgG Gi s n j) (sArg G s kind flag t) := by
 unfold sArg iArgG
 simp only
 rw [if_neg (by omega), if_pos hk2, iOpen_eq h40]
 simp only
 rcases sSp_cases s t with h | ⟨_, e⟩ | ⟨h, _⟩
 · exact .un (close_un (hU _ (by simp [h])))
 · rw [e, hj]
   simp only [go_p']
   generalize (decide (bat s (iWs s (j + 1)) = 62) || decide (bat s (iWs s (j + 1)) = 43) || decide (bat s (iWs s (j + 1)) = 126)) = b
   obtain ⟨hs, hw⟩ := hG ((t.go (iWs s (j + 1))).unI b) (by simp only [unI_p', go_p']; have := iWs_ge s (j + 1); omega) hb
   simp only [go_p', unI_p'] at hs hw
   generalize G ((t.go (iWs s (j + 1))).unI b) = w at hs ⊢
   rcases hs with h | ⟨xs, h1, h2, l, h3, h4⟩ | ⟨h1, h2⟩
   · exact .un (close_un h)
   · rw [h1]
     simp only
     have hw := hw _ _ h1
     rw [if_neg (by rw [h2]; exact Bool.false_ne_true), h3]
     unfold iClose
     rw [hw]
     by_cases h41 : bat s w.2.p = 41
     · rw [sEnd_yes _ _ w.2 h41, if_pos ⟨bat_in (by omega), h41⟩]
       exact .ok _ rfl h2 (MT.rel h4 hk)
     rw [sEnd_no _ _ w.2 h41, if_neg (fun k => h41 k.2)]
     exact .bad rfl rfl
   rw [h1]
   refine .bad rfl ?_
   split
   · rfl
   exact sEnd_dead (by decide) h2
 rw [hb] at h; cases h
end Law
end
end Go.Proofs.YtengepcafdnalaaGreatDoor
