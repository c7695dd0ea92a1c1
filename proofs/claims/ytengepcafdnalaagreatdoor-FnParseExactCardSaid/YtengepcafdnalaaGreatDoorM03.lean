/-
  Parts of the proof that the law FnParseExact holds for every input (texts Pe). Conditions: none.
-/
import Derived.Test.YtengepcafdnalaaGreatDoorM02
namespace Go.Proofs.YtengepcafdnalaaGreatDoor
section
namespace Law
/-! ### Readable texts -/
def RD (s : Bs) : Prop := ∀ i, i + 1 < s.length → bat s i < 128 → (point s (i + 1)).2 ≠ 0
theorem pointGo_hi {s : Bs} : ∀ {k i c d : Nat}, pointGo s k i c = some d → ∀ m, i ≤ m → m < i + k → 128 ≤ bat s m
 | 0, i, c, d, h, m, h1, h2 => by omega
 | k + 1, i, c, d, h, m, h1, h2 => by
  rw [pointGo] at h
  split at h
  · cases h
  rename_i h0
  by_cases e : m = i
  · subst e; omega
  exact pointGo_hi h m (by omega) (by omega)
theorem point_shape {s : Bs} {j : Nat} (h0 : j < s.length) (h : (point s j).2 ≠ 0) : 1 ≤ (point s j).2 ∧ j + (point s j).2 ≤ s.length ∧
 (∀ m, j < m → m < j + (point s j).2 → 128 ≤ bat s m) ∧ (bat s j < 128 → (point s j).2 = 1) := by
 unfold point at h ⊢
 split
 · refine ⟨by omega, by omega, fun m h1 h2 => ?_, fun _ => rfl⟩
   simp only at h2; omega
 rename_i h1
 rw [if_neg h1] at h
 split
 · rename_i h2; rw [if_pos h2] at h; exact absurd rfl h
 rename_i h2
 rw [if_neg h2] at h
 simp only [not_or] at h2
 split
 · rename_i h3; rw [h3] at h; exact absurd rfl h
 rename_i d h3
 rw [h3] at h
 simp only at h
 split
 · rename_i h4; rw [if_pos h4] at h; exact absurd rfl h
 refine ⟨by simp only; omega, by simp only; omega, fun m k1 k2 => ?_, fun k => absurd k h1⟩
 simp only at k2
 exact pointGo_hi h3 m (by omega) (by omega)
theorem readGo_step {s : Bs} {j : Nat} (h : readGo s j = true) (hj : j < s.length) : (point s j).2 ≠ 0 ∧ readGo s (j + (point s j).2) = true := by
 rw [readGo, if_pos hj] at h
 split at h
 · cases h
 rename_i h1; simp only [not_or] at h1; exact ⟨h1.1, h⟩
theorem readGo_rd (s : Bs) : ∀ (n j : Nat), s.length - j ≤ n → readGo s j = true → ∀ i, j ≤ i → i + 1 < s.length → bat s i < 128 → (point s (i + 1)).2 ≠ 0
 | 0, j, hn, h, i, h1, h2, h3 => by omega
 | n + 1, j, hn, h, i, h1, h2, h3 => by
  obtain ⟨k1, k2⟩ := readGo_step h (by omega)
  obtain ⟨q1, q2, q3, q4⟩ := point_shape (by omega) k1
  by_cases e : i = j
  · subst e
    rw [q4 h3] at k2
    exact (readGo_step k2 h2).1
  by_cases e2 : i < j + (point s j).2
  · have := q3 i (by omega) e2; omega
  exact readGo_rd s n _ (by omega) k2 i (by omega) h2 h3
theorem rd_of {s : Bs} (h : readGo s 0 = true) : RD s := fun i => readGo_rd s _ 0 (Nat.le_refl _) h i (Nat.zero_le _)
theorem bat_out {s : Bs} {i : Nat} (h : s.length ≤ i) : bat s i = 0 := by
 simp [bat, List.getD_eq_getElem?_getD, List.getElem?_eq_none h]
theorem bat_in {s : Bs} {i : Nat} (h : bat s i ≠ 0) : i < s.length := by
 by_cases e : i < s.length
 · exact e
 exact absurd (bat_out (by omega)) h
theorem hi_name {c : Nat} (h : 128 ≤ c) : nmChar c = true := by simp [nmChar, nmStart]; omega
/-! ### How the two stand to each other -/
def Dead (s : Bs) (t : RS) : Prop := t.bad = true ∨ bat s t.p = 92
def Sim {α β : Type} (s : Bs) (R : α → β → Prop) (f : Option (α × Nat)) (g : β × RS) : Prop :=
 g.2.un = true ∨ (∃ a, f = some (a, g.2.p) ∧ g.2.bad = false ∧ R a g.1) ∨ (f = none ∧ Dead s g.2)
section
variable {α β : Type} {s : Bs} {R : α → β → Prop} {f : Option (α × Nat)} {g : β × RS}
theorem Sim.un (h : g.2.un = true) : Sim s R f g := .inl h
theorem Sim.ok (a : α) (h : f = some (a, g.2.p)) (hb : g.2.bad = false) (hr : R a g.1) : Sim s R f g := .inr (.inl ⟨a, h, hb, hr⟩)
theorem Sim.no (h : f = none) (hd : Dead s g.2) : Sim s R f g := .inr (.inr ⟨h, hd⟩)
theorem Sim.bad (h : f = none) (hd : g.2.bad = true) : Sim s R f g := .inr (.inr ⟨h, .inl hd⟩)
end
/-! ### White space -/
theorem sSp_sim (s : Bs) (t : RS) (hb : t.bad = false) : (sSp s t).un = true ∨ sSp s t = t.go (iWs s t.p) := by
 fun_induction sSp s t with
 | case1 t h1 h2 ih =>
  rw [iWs, if_pos h1.2, if_pos h2]
  exact ih hb
 | case2 t h1 h2 h3 j hj ih =>
  have e : iWs s t.p = iWs s j := by
   rw [iWs, if_pos h1.2, if_neg h2, if_pos h3]
   split
   · rename_i j' hj'; rw [hj] at hj'; cases hj'; rfl
   rename_i hj'; rw [hj] at hj'; cases hj'
  rw [e]
  exact ih hb
 | case3 t h1 h2 h3 hj => left; simp
 | case4 t h1 h2 h3 => right; rw [iWs, if_pos h1.2, if_neg h2, if_neg h3]; rfl
 | case5 t h1 =>
  right
  rw [iWs, if_neg (fun h => h1 ⟨hb, h⟩)]
  rfl
theorem isWs_92 : isWs 92 = false := by decide
theorem sSp_dead {s : Bs} {t : RS} (h : Dead s t) : sSp s t = t := by
 rw [sSp]
 rcases h with h | h
 · rw [if_neg (fun k => by rw [h] at k; cases k.1)]
 split
 · rw [if_neg (by rw [h, isWs_92]; exact Bool.false_ne_true), if_neg (fun k => by rw [h] at k; omega)]
 rfl
theorem sSp_cases (s : Bs) (t : RS) : (sSp s t).un = true ∨ (t.bad = false ∧ sSp s t = t.go (iWs s t.p)) ∨ (t.bad = true ∧ sSp s t = t) := by
 cases hb : t.bad
 · rcases sSp_sim s t hb with h | h
   · exact .inl h
   exact .inr (.inl ⟨rfl, h⟩)
 exact .inr (.inr ⟨rfl, sSp_dead (.inl hb)⟩)
theorem iWs_fix (s : Bs) (i : Nat) : iWs s (iWs s i) = iWs s i := by
 fun_induction iWs s i with
 | case1 i h1 h2 ih => exact ih
 | case2 i h1 h2 h3 j hj ih => exact ih
 | case3 i h1 h2 h3 hj =>
  rw [iWs, if_pos h1, if_neg h2, if_pos h3]
  split
  · rename_i j' hj'; rw [hj] at hj'; cases hj'
  rfl
 | case4 i h1 h2 h3 => rw [iWs, if_pos h1, if_neg h2, if_neg h3]
 | case5 i h1 => rw [iWs, if_neg h1]
/-! ### Escapes and names -/
theorem nameGo_stop {s : Bs} {i : Nat} {acc : Bs} (h : ¬ i < s.length ∨ (nmChar (bat s i) = false ∧ bat s i ≠ 92)) : nameGo s i acc = some (acc, i) := by
 rw [nameGo]
 rcases h with h | h
 · rw [if_neg h]
 split
 · rw [if_neg (by rw [h.1]; exact Bool.false_ne_true), if_neg h.2]
 rfl
theorem nameGo_chr {s : Bs} {i : Nat} {acc : Bs} (h : i < s.length) (hc : nmChar (bat s i) = true) : nameGo s i acc = nameGo s (i + 1) (acc ++ [s.getD i 0]) := by
 rw [nameGo, if_pos h, if_pos hc]
theorem nm_92 : nmChar 92 = false := by decide
theorem nms_92 : nmStart 92 = false := by decide
theorem nameGo_esc {s : Bs} {i : Nat} {acc : Bs} (h : i < s.length) (hc : bat s i = 92) {v : Bs} {j : Nat} (he : iEsc s i = some (v, j)) : nameGo s i acc = nameGo s j (acc ++ v) := by
 rw [nameGo, if_pos h, if_neg (by rw [hc, nm_92]; exact Bool.false_ne_true), if_pos hc]
 split
 · rename_i k; rw [he] at k; cases k
 rename_i v' j' k; rw [he] at k; cases k; rfl
theorem nameGo_none {s : Bs} {i : Nat} {acc : Bs} (h : i < s.length) (hc : bat s i = 92) (he : iEsc s i = none) : nameGo s i acc = none := by
 rw [nameGo, if_pos h, if_neg (by rw [hc, nm_92]; exact Bool.false_ne_true), if_pos hc]
 split
 · rfl
 rename_i v' j' k; rw [he] at k; cases k
theorem drop_take_succ (s : Bs) (i k : Nat) (h : i + k < s.length) : (s.take (i + (k + 1))).drop i = (s.take (i + k)).drop i ++ [s.getD (i + k) 0] := by
 rw [show i + (k + 1) = (i + k) + 1 from rfl, List.take_add_one, List.drop_append]
 simp only [List.length_take]
 rw [show i - min (i + k) s.length = 0 from by omega, List.getElem?_eq_getElem h]
 simp [List.getD_eq_getElem?_getD, List.getElem?_eq_getElem h]
theorem nameGo_run (s : Bs) (i : Nat) (acc : Bs) : ∀ k, i + k ≤ s.length → (∀ m, i ≤ m → m < i + k → nmChar (bat s m) = true) → nameGo s i acc = nameGo s (i + k) (acc ++ (s.take (i + k)).drop i)
 | 0, h, hc => by simp
 | k + 1, h, hc => by
  rw [nameGo_run s i acc k (by omega) (fun m h1 h2 => hc m h1 (by omega)), nameGo_chr (by omega) (hc (i + k) (by omega) (by omega)),
   drop_take_succ s i k (by omega), List.append_assoc]
  rfl
theorem nameGo_acc (s : Bs) (i : Nat) (acc a : Bs) : nameGo s i (a ++ acc) = (nameGo s i acc).map fun p => (a ++ p.1, p.2) := by
 fun_induction nameGo s i acc with
 | case1 i acc h1 h2 ih => rw [nameGo_chr h1 h2, List.append_assoc, ih]
 | case2 i acc h1 h2 h3 h4 => rw [nameGo_none h1 h3 h4]; rfl
 | case3 i acc h1 h2 h3 v j h4 ih => rw [nameGo_esc h1 h3 h4, List.append_assoc, ih]
 | case4 i acc h1 h2 h3 => rw [nameGo_stop (.inr ⟨by simpa using h2, h3⟩)]; rfl
 | case5 i acc h1 => rw [nameGo_stop (.inl h1)]; rfl
theorem nameGo_len {s : Bs} {i : Nat} {acc r : Bs} {j : Nat} (h : nameGo s i acc = some (r, j)) : acc.length ≤ r.length := by
 have e := nameGo_acc s i [] acc
 rw [List.append_nil, h] at e
 cases e2 : nameGo s i [] with
 | none => rw [e2] at e; cases e
 | some p =>
  rw [e2] at e
  simp only [Option.map_some, Option.some.injEq, Prod.mk.injEq] at e
  rw [e.1]; simp
theorem nameGo_ge {s : Bs} {i : Nat} {acc : Bs} : ∀ {r : Bs} {j : Nat}, nameGo s i acc = some (r, j) → i ≤ j ∧ (i ≤ s.length → j ≤ s.length) := by
 fun_induction nameGo s i acc with
 | case1 i acc h1 h2 ih => intro r j h; have := ih h; omega
 | case2 i acc h1 h2 h3 h4 => intro r j h; cases h
 | case3 i acc h1 h2 h3 v k h4 ih => intro r j h; have := ih h; have := iEsc_some h4; omega
 | case4 i acc h1 h2 h3 => intro r j h; cases h; omega
 | case5 i acc h1 => intro r j h; cases h; omega
theorem utf8_ne (n : Int) : utf8 n ≠ [] := by
 unfold utf8 Utf8.encode
 simp only
 generalize (if Utf8.valid n = true then n.toNat else Utf8.runeError) = c
 split
 · simp
 split
 · simp
 split <;> simp
theorem escF_iff {s : Bs} {i : Nat} : escF s i = true ↔ i + 1 < s.length ∧ bat s i = 92 ∧ isNl (bat s (i + 1)) = false := by
 simp [escF, and_assoc]
theorem iEsc_no {s : Bs} {i : Nat} (h : escF s i = false) : iEsc s i = none := by
 unfold iEsc
 split
 · rfl
 rename_i h1
 simp only [not_or, Decidable.not_not] at h1
 split
 · rfl
 rename_i h2
 rw [escF_iff.2 ⟨by omega, h1.2, by simpa using h2⟩] at h
 cases h
theorem nl_name {c : Nat} (h : nmChar c = true) : isNl c = false := by
 simp only [nmChar, nmStart, isNl, Bool.or_eq_true, Bool.and_eq_true, decide_eq_true_eq, Bool.or_eq_false_iff, decide_eq_false_iff_not] at *
 omega
theorem esc_sim {s : Bs} (hr : RD s) {t : RS} (he : escF s t.p = true) :
 (sEsc s t).2.un = true ∨ ((sEsc s t).2.bad = t.bad ∧ iEsc s t.p = some ((sEsc s t).1, (sEsc s t).2.p) ∧ (sEsc s t).1 ≠ []) ∨
 (∃ k, 1 ≤ k ∧ t.p + 1 + k ≤ s.length ∧ (sEsc s t) = ((s.take (t.p + 1 + k)).drop (t.p + 1), t.go (t.p + 1 + k)) ∧ iEsc s t.p = some ([s.getD (t.p + 1) 0], t.p + 2) ∧
  ∀ m, t.p + 1 < m → m < t.p + 1 + k → 128 ≤ bat s m) := by
 obtain ⟨h1, h2, h3⟩ := escF_iff.1 he
 have hi : iEsc s t.p = if hexDig (bat s (t.p + 1)) = true then
  some (utf8 (hexVal ((s.take (hexEnd s 6 (t.p + 1))).drop (t.p + 1))), skipOne s (hexEnd s 6 (t.p + 1)))
  else some ([s.getD (t.p + 1) 0], t.p + 2) := by
  unfold iEsc
  rw [if_neg (by simp only [not_or, Decidable.not_not]; exact ⟨by omega, h2⟩), if_neg (by rw [h3]; exact Bool.false_ne_true)]
 cases hd : hexDig (bat s (t.p + 1)) with
 | true =>
  rw [hd, if_pos rfl] at hi
  have hne : hexEnd s 6 (t.p + 1) ≠ t.p + 1 := by
   have h5 : t.p + 1 + 1 ≤ hexEnd s 6 (t.p + 1) := hexEnd_lt s 5 (t.p + 1) h1 hd
   omega
  unfold sEsc
  rw [if_neg hne]
  split
  · refine .inr (.inl ⟨?_, ?_, ?_⟩)
    · rfl
    · dsimp only [RS.go_p]; exact hi
    dsimp only; exact utf8_ne _
  left; simp
 | false =>
  rw [hd, if_neg Bool.false_ne_true] at hi
  have he1 : hexEnd s 6 (t.p + 1) = t.p + 1 := by rw [hexEnd, if_neg (fun h => by rw [hd] at h; cases h.2)]
  have hq := point_shape h1 (hr t.p h1 (by omega))
  refine .inr (.inr ⟨(point s (t.p + 1)).2, hq.1, hq.2.1, ?_, hi, hq.2.2.1⟩)
  unfold sEsc
  rw [if_pos he1]
theorem take_one (s : Bs) (i k : Nat) (hk : 1 ≤ k) (h : i + k ≤ s.length) : (s.take (i + k)).drop i = [s.getD i 0] ++ (s.take (i + k)).drop (i + 1) := by
 have h1 : i < (s.take (i + k)).length := by simp; omega
 rw [List.drop_eq_getElem_cons h1]
 simp [List.getD_eq_getElem?_getD, List.getElem?_eq_getElem (show i < s.length from by omega)]
theorem rest_sim {s : Bs} (hr : RD s) (t : RS) (acc : Bs) (hb : t.bad = false) : Sim s (fun a b => a = b) (nameGo s t.p acc) (sRest s t acc) := by
 fun_induction sRest s t acc with
 | case1 t acc h1 h2 ih =>
  rw [nameGo_chr h1.1 h2]
  exact ih hb
 | case2 t acc h1 h2 h3 ih =>
  rcases esc_sim hr h3 with h | ⟨hb', h, hne⟩ | ⟨k, k1, k2, e, h, k3⟩
  · exact .un (sRest_un _ _ _ h)
  · rw [nameGo_esc h1.1 (escF_iff.1 h3).2.1 h]
    exact ih (by rw [hb', hb])
  rw [nameGo_esc h1.1 (escF_iff.1 h3).2.1 h]
  rw [nameGo_run s (t.p + 2) _ (k - 1) (by omega) (fun m a b => hi_name (k3 m (by omega) (by omega))), List.append_assoc]
  rw [show t.p + 2 + (k - 1) = t.p + 1 + k from by omega, show t.p + 2 = t.p + 1 + 1 from rfl, ← take_one s (t.p + 1) k k1 k2]
  have := ih (by rw [e]; exact hb)
  rw [e] at this ⊢
  exact this
 | case3 t acc h1 h2 h3 =>
  by_cases e : bat s t.p = 92
  · exact .no (nameGo_none h1.1 e (iEsc_no (by simpa using h3))) (.inr e)
  exact .ok acc (nameGo_stop (.inr ⟨by simpa using h2, e⟩)) hb rfl
 | case4 t acc h1 => exact .ok acc (nameGo_stop (.inl fun h => h1 ⟨h, hb⟩)) hb rfl
theorem nameGo_pos {s : Bs} {i : Nat} (h : i < s.length) (hc : nmChar (bat s i) = true ∨ bat s i = 92) {r : Bs} {j : Nat} (k : nameGo s i [] = some (r, j)) : r ≠ [] := by
 intro e
 subst e
 rcases hc with hc | hc
 · rw [nameGo_chr h hc] at k; have := nameGo_len k; simp at this
 cases he : iEsc s i with
 | none => rw [nameGo_none h hc he] at k; cases k
 | some p =>
  obtain ⟨v, j'⟩ := p
  rw [nameGo_esc h hc he] at k
  have := nameGo_len k
  have hv : v ≠ [] := by
   unfold iEsc at he
   split at he
   · cases he
   split at he
   · cases he
   split at he <;> (simp only [Option.some.injEq, Prod.mk.injEq] at he; rw [← he.1])
   · exact utf8_ne _
   simp
  simp at this
  exact hv this
theorem iName_eq {s : Bs} {i : Nat} (h : i < s.length) (hc : nmChar (bat s i) = true ∨ bat s i = 92) : iName s i = nameGo s i [] := by
 unfold iName
 split
 · rename_i j h1; exact absurd rfl (nameGo_pos h hc h1)
 rfl
theorem iName_no {s : Bs} {i : Nat} (h : ¬ i < s.length ∨ (nmChar (bat s i) = false ∧ bat s i ≠ 92)) : iName s i = none := by
 unfold iName
 rw [nameGo_stop h]
theorem start_name {c : Nat} (h : nmStart c = true) : nmChar c = true := by simp [nmChar, h]
theorem hyEnd_nm {s : Bs} {i : Nat} (h : nmUn s i = false) : hyEnd s i = nmAt s i := by
 unfold nmAt
 rw [hyEnd]
 split
 · rename_i h1
   rw [hyEnd, if_neg]
   simp only [nmUn, decide_eq_false_iff_not] at h
   exact fun k => h ⟨h1.1, h1.2, k.1, k.2⟩
 rfl
theorem nm_45 : nmChar 45 = true := by decide
theorem name_sim {s : Bs} (hr : RD s) (t : RS) (hb : t.bad = false) : Sim s (fun a b => a = b) (iIdent s t.p) (sName s t) := by
 cases hu : nmUn s t.p with
 | true => exact .un (by unfold sName; split; exact sRest_un _ _ _ (by simp [hu]); simp [hu])
 | false =>
  unfold iIdent
  rw [hyEnd_nm hu]
  cases hf : nmFollow s t.p with
  | false =>
   have e : sName s t = ([], (t.unI (nmUn s t.p)).no) := by unfold sName; rw [if_neg (by rw [hf]; exact Bool.false_ne_true)]
   simp only [nmFollow, Bool.or_eq_false_iff, Bool.and_eq_false_imp, decide_eq_true_eq] at hf
   rw [e]
   refine .bad ?_ rfl
   split
   · rename_i h
     rcases h.2 with h2 | h2
     · rw [hf.1 h.1] at h2; cases h2
     rw [iName_eq h.1 (.inr h2), nameGo_none h.1 h2 (iEsc_no hf.2)]
   rfl
  | true =>
   have hc : nmAt s t.p < s.length ∧ (nmStart (bat s (nmAt s t.p)) = true ∨ bat s (nmAt s t.p) = 92) := by
    simp only [nmFollow, Bool.or_eq_true, Bool.and_eq_true, decide_eq_true_eq] at hf
    rcases hf with h | h
    · exact ⟨h.1, .inl h.2⟩
    obtain ⟨h1, h2, _⟩ := escF_iff.1 h
    exact ⟨by omega, .inr h2⟩
   rw [if_pos hc, iName_eq hc.1 (hc.2.imp start_name id)]
   unfold sName
   rw [if_pos hf]
   have hs := rest_sim hr (t.unI (nmUn s t.p)) [] hb
   by_cases h45 : t.p < s.length ∧ bat s t.p = 45
   · have hn : nmAt s t.p = t.p + 1 := by unfold nmAt; rw [if_pos h45]
     rw [hn] at hc ⊢
     have e1 : nameGo s t.p [] = (nameGo s (t.p + 1) []).map fun p => (45 :: p.1, p.2) := by
      rw [nameGo_chr h45.1 (by rw [h45.2]; exact nm_45), show s.getD t.p 0 = 45 from UInt8.toNat_inj.1 h45.2]
      exact nameGo_acc s (t.p + 1) [] [45]
     simp only [RS.unI_p] at hs
     rw [e1] at hs
     cases e2 : nameGo s (t.p + 1) [] with
     | none =>
      rw [e2] at hs
      exact hs
     | some p =>
      rw [e2] at hs
      simp only [show t.p + 1 - t.p = 1 from by omega]
      exact hs
   have hn : nmAt s t.p = t.p := by unfold nmAt; rw [if_neg h45]
   rw [hn]
   simp only [RS.unI_p] at hs
   cases e2 : nameGo s t.p [] with
   | none => rw [e2] at hs; exact hs
   | some p =>
    rw [e2] at hs
    simp only [Nat.sub_self, List.replicate_zero, List.nil_append]
    exact hs
theorem follow_at {s : Bs} {i : Nat} (h : nmFollow s i = true) : i < s.length ∧ (nmChar (bat s i) = true ∨ bat s i = 92) := by
 simp only [nmFollow, Bool.or_eq_true, Bool.and_eq_true, decide_eq_true_eq] at h
 unfold nmAt at h
 split at h
 · rename_i h1; exact ⟨h1.1, .inl (by rw [h1.2]; exact nm_45)⟩
 rcases h with h | h
 · exact ⟨h.1, .inl (start_name h.2)⟩
 obtain ⟨h1, h2, _⟩ := escF_iff.1 h
 exact ⟨by omega, .inr h2⟩
theorem hash_sim {s : Bs} (hr : RD s) (t : RS) (hb : t.bad = false) : Sim s (fun a b => a = b) (iName s t.p) (sHash s t) := by
 unfold sHash
 split
 · rename_i h
   obtain ⟨h1, h2⟩ := follow_at h
   rw [iName_eq h1 h2, if_neg (by rw [hb]; exact Bool.false_ne_true)]
   exact rest_sim hr (t.unI (nmUn s t.p)) [] hb
 rename_i hf
 simp only [Bool.not_eq_true] at hf
 split
 · rename_i h1
   rcases h1 with h1 | h1
   · rw [hb] at h1; cases h1
   by_cases e : bat s t.p = 92
   · have h0 : t.p < s.length := bat_in (by omega)
     refine .bad ?_ rfl
     rw [iName_eq h0 (.inr e)]
     refine nameGo_none h0 e (iEsc_no ?_)
     have hn : nmAt s t.p = t.p := by unfold nmAt; rw [if_neg (fun k => by omega)]
     simp only [nmFollow, Bool.or_eq_false_iff] at hf
     rw [hn] at hf
     exact hf.2
   exact .bad (iName_no (.inr ⟨h1, e⟩)) rfl
 exact .un (sRest_un _ _ _ (by simp))
/-! ### Strings -/
theorem strGo_esc {s : Bs} {q i : Nat} {acc : Bs} (he : escF s i = true) {v : Bs} {j : Nat} (h : iEsc s i = some (v, j)) : strGo s q i acc = strGo s q j (acc ++ v) := by
 obtain ⟨h1, h2, h3⟩ := escF_iff.1 he
 simp only [isNl, Bool.or_eq_false_iff, decide_eq_false_iff_not] at h3
 rw [strGo, if_pos (by omega), if_pos h2, if_neg (fun k => h3.1.1 k.2), if_neg (fun k => by rcases k.2 with k | k; exact h3.1.2 k; exact h3.2 k)]
 split
 · rename_i k; rw [h] at k; cases k
 rename_i v' j' k; rw [h] at k; cases k; rfl
theorem strGo_chr {s : Bs} {q i : Nat} {acc : Bs} (h : i < s.length) (h1 : bat s i ≠ 92) (h2 : bat s i ≠ q) (h3 : isNl (bat s i) = false) : strGo s q i acc = strGo s q (i + 1) (acc ++ [s.getD i 0]) := by
 rw [strGo, if_pos h, if_neg h1, if_neg h2, if_neg (by rw [h3]; exact Bool.false_ne_true)]
theorem nl_hi {c : Nat} (h : 128 ≤ c) : isNl c = false := nl_name (hi_name h)
theorem strGo_run (s : Bs) (q i : Nat) (hq : q < 128) (acc : Bs) : ∀ k, i + k ≤ s.length → (∀ m, i ≤ m → m < i + k → 128 ≤ bat s m) → strGo s q i acc = strGo s q (i + k) (acc ++ (s.take (i + k)).drop i)
 | 0, h, hc => by simp
 | k + 1, h, hc => by
  have h5 := hc (i + k) (by omega) (by omega)
  rw [strGo_run s q i hq acc k (by omega) (fun m h1 h2 => hc m h1 (by omega)), strGo_chr (by omega) (by omega) (by omega) (nl_hi h5),
   drop_take_succ s i k (by omega), List.append_assoc]
  rfl
theorem str_sim {s : Bs} (hr : RD s) (q : Nat) (hq : q < 128) (hq2 : q ≠ 92) (t : RS) (acc : Bs) (hb : t.bad = false) : Sim s (fun a b => a = b) (strGo s q t.p acc) (sStrGo s q t acc) := by
 fun_induction sStrGo s q t acc with
 | case1 t acc h1 h2 =>
  refine .ok acc ?_ hb rfl
  rw [strGo, if_pos h1, if_neg (by omega), if_pos h2]; rfl
 | case2 t acc h1 h2 h3 =>
  refine .bad ?_ rfl
  rw [strGo, if_pos h1, if_neg (fun h => by rw [h] at h3; revert h3; decide), if_neg h2, if_pos h3]
 | case3 t acc h1 h2 h3 h4 ih =>
  rw [strGo_chr h1 h4 h2 (by simpa using h3)]
  exact ih hb
 | case4 t acc h1 h2 h3 h4 h5 ih =>
  rcases esc_sim hr h5 with h | ⟨hb', h, hne⟩ | ⟨k, k1, k2, e, h, k3⟩
  · exact .un (sStrGo_un _ _ _ _ h)
  · rw [strGo_esc h5 h]
    exact ih (by rw [hb', hb])
  rw [strGo_esc h5 h]
  rw [strGo_run s q (t.p + 2) hq _ (k - 1) (by omega) (fun m a b => k3 m (by omega) (by omega)), List.append_assoc]
  rw [show t.p + 2 + (k - 1) = t.p + 1 + k from by omega, show t.p + 2 = t.p + 1 + 1 from rfl, ← take_one s (t.p + 1) k k1 k2]
  have := ih (by rw [e]; exact hb)
  rw [e] at this ⊢
  exact this
 | case5 t acc h1 h2 h3 h4 h5 ih =>
  have h4' : bat s t.p = 92 := Decidable.not_not.1 h4
  have ih := ih hb
  simp only [Bool.not_eq_true] at h5
  rw [strGo, if_pos h1, if_pos h4']
  by_cases h6 : t.p + 1 < s.length
  · have h7 : isNl (bat s (t.p + 1)) = true := by
     cases h8 : isNl (bat s (t.p + 1))
     · rw [escF_iff.2 ⟨h6, h4', h8⟩] at h5; cases h5
     rfl
    simp only [isNl, Bool.or_eq_true, decide_eq_true_eq] at h7
    by_cases h9 : bat s (t.p + 1) = 13
    · rw [if_pos ⟨h6, h9⟩]
      by_cases h10 : t.p + 2 < s.length ∧ bat s (t.p + 2) = 10
      · rw [if_pos h10]
        rw [dif_pos ⟨h9, h10.2, by omega⟩] at ih
        rw [if_pos ⟨h9, h10.2, by omega⟩]
        exact ih
      rw [if_neg h10]
      rw [dif_neg (fun k => h10 ⟨by omega, k.2.1⟩)] at ih
      rw [if_neg (fun k => h10 ⟨by omega, k.2.1⟩)]
      exact ih
    rw [if_neg (fun k => h9 k.2), if_pos ⟨h6, by omega⟩]
    rw [dif_neg (fun k => h9 k.1)] at ih
    rw [if_neg (fun k => h9 k.1)]
    exact ih
  have e0 : bat s (t.p + 1) = 0 := bat_out (by omega)
  rw [if_neg (fun k => h6 k.1), if_neg (fun k => h6 k.1)]
  have hn : iEsc s t.p = none := iEsc_no h5
  rw [if_neg (fun k => by rw [e0] at k; exact absurd k.1 (by decide)), sStrGo, if_neg (by simp only [RS.go_p]; omega)]
  refine .bad ?_ rfl
  split
  · rfl
  rename_i k; rw [hn] at k; cases k
 | case6 t acc h1 =>
  refine .bad ?_ rfl
  rw [strGo, if_neg h1]
theorem value_sim {s : Bs} (hr : RD s) (t : RS) (hb : t.bad = false) :
 Sim s (fun a b => a = b) (if bat s t.p = 39 ∨ bat s t.p = 34 then iStr s t.p else iIdent s t.p) (sValue s t) := by
 unfold sValue
 by_cases h : bat s t.p = 39 ∨ bat s t.p = 34
 · have hq : isQ (bat s t.p) = true := by simp [isQ]; omega
   rw [if_pos h, if_pos hq]
   unfold sQuoted iStr
   split
   · rename_i h1
     refine .bad rfl ?_
     rw [sStrGo, if_neg (by simp only [RS.go_p]; omega)]
     rfl
   exact str_sim hr _ (by omega) (by omega) (t.go (t.p + 1)) [] hb
 have hq : isQ (bat s t.p) = false := by simp [isQ]; omega
 rw [if_neg h, if_neg (by rw [hq]; exact Bool.false_ne_true)]
 exact name_sim hr (t.unI _) hb
/-! ### How far they read -/
theorem hyEnd_ge (s : Bs) (i : Nat) : i ≤ hyEnd s i := by
 fun_induction hyEnd s i with
 | case1 i h ih => omega
 | case2 => omega
theorem iName_lt {s : Bs} {i : Nat} {r : Bs} {j : Nat} (h : iName s i = some (r, j)) : i < j ∧ j ≤ s.length := by
 by_cases h0 : i < s.length
 · by_cases hc : nmChar (bat s i) = true ∨ bat s i = 92
   · rw [iName_eq h0 hc] at h
     have h1 := nameGo_ge h
     refine ⟨?_, h1.2 (by omega)⟩
     rcases hc with hc | hc
     · rw [nameGo_chr h0 hc] at h; have := nameGo_ge h; omega
     cases he : iEsc s i with
     | none => rw [nameGo_none h0 hc he] at h; cases h
     | some p => obtain ⟨v, k⟩ := p; rw [nameGo_esc h0 hc he] at h; have := nameGo_ge h; have := iEsc_some he; omega
   simp only [not_or, Bool.not_eq_true] at hc
   rw [iName_no (.inr hc)] at h; cases h
 rw [iName_no (.inl h0)] at h; cases h
theorem iIdent_lt {s : Bs} {i : Nat} {r : Bs} {j : Nat} (h : iIdent s i = some (r, j)) : i < j ∧ j ≤ s.length := by
 unfold iIdent at h
 split at h
 · split at h
   · cases h
   rename_i r' j' h1
   cases h
   have := iName_lt h1
   have := hyEnd_ge s i
   omega
 cases h
theorem strGo_lt {s : Bs} {q i : Nat} {acc : Bs} : ∀ {r : Bs} {j : Nat}, strGo s q i acc = some (r, j) → i < j ∧ j ≤ s.length := by
 fun_induction strGo s q i acc <;> intro r j h
 all_goals first
  | (cases h; done)
  | (cases h; omega)
  | (rename_i hx ih; have := iEsc_some hx; have := ih h; omega)
  | (rename_i ih; have := ih h; omega)
theorem iStr_lt {s : Bs} {i : Nat} {r : Bs} {j : Nat} (h : iStr s i = some (r, j)) : i + 1 < j ∧ j ≤ s.length := by
 unfold iStr at h
 split at h
 · cases h
 have := strGo_lt h; omega
end Law
end
end Go.Proofs.YtengepcafdnalaaGreatDoor
