/-
  Parts of the proof that the law FnParseExact holds for every input (texts Pg). Conditions: none.
-/
import Derived.Test.YtengepcafdnalaaGreatDoorM04
namespace Go.Proofs.YtengepcafdnalaaGreatDoor
section
namespace Law
def PSim (s : Bs) (f : Option (Option CSel × Bs × Nat)) (g : (List SelD × Bs) × RS) : Prop :=
 g.2.un = true ∨ (g.2.bad = false ∧ ((∃ c, f = some (some c, [], g.2.p) ∧ g.1.2 = [] ∧ Smp c ∧ MT c g.1.1) ∨ (f = some (none, g.1.2, g.2.p) ∧ g.1.2 ≠ []))) ∨ (f = none ∧ Dead s g.2)
theorem PSim.of {s : Bs} {f : Option (CSel × Nat)} {g : List SelD × RS} (h : Sim s MT f g) (hs : ∀ c e, f = some (c, e) → Smp c) : PSim s (f.map fun p => (some p.1, [], p.2)) ((g.1, []), g.2) := by
 rcases h with h | ⟨c, h1, h2, h3⟩ | ⟨h1, h2⟩
 · exact .inl h
 · exact .inr (.inl ⟨h2, .inl ⟨c, by rw [h1]; rfl, rfl, hs _ _ h1, h3⟩⟩)
 exact .inr (.inr ⟨by rw [h1]; rfl, h2⟩)
/-! ### Pseudo-classes -/
def special (n : Bs) : Bool := decide (n ∈ [nNot, nHas, nHasChild, nContains, nContainsOwn, nNthChild, nNthLastChild, nNthType, nNthLastType, nLang])
theorem iPsN_rest {Gi : Nat → Option (List CSel × Nat)} {s n : Bs} {j : Nat} (h : special n = false) : iPsN Gi s n j = match plainI n with
 | some x => some (some x, [], j)
 | none => if n ∈ elNames then some (none, n, j) else none := by
 simp only [special, List.mem_cons, List.not_mem_nil, or_false, decide_eq_false_iff_not, not_or] at h
 unfold iPsN
 rw [if_neg (by simp [h]), if_neg (by simp [h]), if_neg (by simp [h]), if_neg (by simp [h])]
 rfl
def PB (n : Bs) (x : SelD) : Prop := ∃ c, plainI n = some c ∧ special n = false ∧ dataOf c = sizedD x [] ∧ nodeOf c = x ∧ treeOf c = .mk (nodeOf c) [] ∧ Smp c
theorem plain_both {n : Bs} {x : SelD} (h : sPlain n = some x) : PB n x := by
 unfold sPlain at h
 by_cases e : n = [102, 105, 114, 115, 116, 45, 99, 104, 105, 108, 100]
 · rw [if_pos e] at h
   cases h
   rw [e]
   exact ⟨.nth 0 1 false false, rfl, by decide, rfl, rfl, by simp [treeOf], trivial⟩
 rw [if_neg e] at h
 clear e
 by_cases e : n = [108, 97, 115, 116, 45, 99, 104, 105, 108, 100]
 · rw [if_pos e] at h
   cases h
   rw [e]
   exact ⟨.nth 0 1 true false, rfl, by decide, rfl, rfl, by simp [treeOf], trivial⟩
 rw [if_neg e] at h
 clear e
 by_cases e : n = [102, 105, 114, 115, 116, 45, 111, 102, 45, 116, 121, 112, 101]
 · rw [if_pos e] at h
   cases h
   rw [e]
   exact ⟨.nth 0 1 false true, rfl, by decide, rfl, rfl, by simp [treeOf], trivial⟩
 rw [if_neg e] at h
 clear e
 by_cases e : n = [108, 97, 115, 116, 45, 111, 102, 45, 116, 121, 112, 101]
 · rw [if_pos e] at h
   cases h
   rw [e]
   exact ⟨.nth 0 1 true true, rfl, by decide, rfl, rfl, by simp [treeOf], trivial⟩
 rw [if_neg e] at h
 clear e
 by_cases e : n = [111, 110, 108, 121, 45, 99, 104, 105, 108, 100]
 · rw [if_pos e] at h
   cases h
   rw [e]
   exact ⟨.only false, rfl, by decide, rfl, rfl, by simp [treeOf], trivial⟩
 rw [if_neg e] at h
 clear e
 by_cases e : n = [111, 110, 108, 121, 45, 111, 102, 45, 116, 121, 112, 101]
 · rw [if_pos e] at h
   cases h
   rw [e]
   exact ⟨.only true, rfl, by decide, rfl, rfl, by simp [treeOf], trivial⟩
 rw [if_neg e] at h
 clear e
 by_cases e : n = [101, 109, 112, 116, 121]
 · rw [if_pos e] at h
   cases h
   rw [e]
   exact ⟨.empty, rfl, by decide, rfl, rfl, by simp [treeOf], trivial⟩
 rw [if_neg e] at h
 clear e
 by_cases e : n = [114, 111, 111, 116]
 · rw [if_pos e] at h
   cases h
   rw [e]
   exact ⟨.root, rfl, by decide, rfl, rfl, by simp [treeOf], trivial⟩
 rw [if_neg e] at h
 clear e
 by_cases e : n = [105, 110, 112, 117, 116]
 · rw [if_pos e] at h
   cases h
   rw [e]
   exact ⟨.input, rfl, by decide, rfl, rfl, by simp [treeOf], trivial⟩
 rw [if_neg e] at h
 clear e
 by_cases e : n = [108, 105, 110, 107]
 · rw [if_pos e] at h
   cases h
   rw [e]
   exact ⟨.link, rfl, by decide, rfl, rfl, by simp [treeOf], trivial⟩
 rw [if_neg e] at h
 clear e
 by_cases e : n = [101, 110, 97, 98, 108, 101, 100]
 · rw [if_pos e] at h
   cases h
   rw [e]
   exact ⟨.enabled, rfl, by decide, rfl, rfl, by simp [treeOf], trivial⟩
 rw [if_neg e] at h
 clear e
 by_cases e : n = [100, 105, 115, 97, 98, 108, 101, 100]
 · rw [if_pos e] at h
   cases h
   rw [e]
   exact ⟨.disabled, rfl, by decide, rfl, rfl, by simp [treeOf], trivial⟩
 rw [if_neg e] at h
 clear e
 by_cases e : n = [99, 104, 101, 99, 107, 101, 100]
 · rw [if_pos e] at h
   cases h
   rw [e]
   exact ⟨.checked, rfl, by decide, rfl, rfl, by simp [treeOf], trivial⟩
 rw [if_neg e] at h
 clear e
 cases h
theorem plain_not {n l : Bs} (h : sPlain n = none) (hl : (sPlain l).isSome = true) : n ≠ l := by
 intro e; rw [← e, h] at hl; cases hl
theorem plain_none {n : Bs} (h : sPlain n = none) (ho : n ∉ openNames) : plainI n = none ∧ n ∉ elNames := by
 constructor
 · unfold plainI
   rw [if_neg (plain_not h (by decide)), if_neg (plain_not h (by decide)), if_neg (plain_not h (by decide)), if_neg (plain_not h (by decide)), if_neg (plain_not h (by decide)), if_neg (plain_not h (by decide)), if_neg (plain_not h (by decide)), if_neg (plain_not h (by decide)), if_neg (plain_not h (by decide)), if_neg (plain_not h (by decide)), if_neg (plain_not h (by decide)), if_neg (plain_not h (by decide)), if_neg (plain_not h (by decide)), if_neg]
   intro k
   apply ho
   simp only [neverNames, List.mem_cons, List.not_mem_nil, or_false] at k
   rcases k with k | k | k | k | k <;> (subst k; decide)
 intro k
 apply ho
 simp only [elNames, List.mem_cons, List.not_mem_nil, or_false] at k
 rcases k with k | k | k | k | k | k | k | k | k | k | k <;> (subst k; decide)
def pseudo3 (G : RS → List SelD × RS) (s : Bs) (n : Bs) (v : RS) : List SelD × RS :=
 if v.bad = true then (failL, v.no)
 else match sPlain n with
  | some x => if bat s v.p = 40 then (failL, (v.unI true).no) else (selMade x [], v)
  | none =>
   if n ∈ openNames then (failL, (v.unI true).no)
   else if (nthFlagS n < 0 ∧ kindS n = 0) ∨ bat s v.p ≠ 40 then (failL, v.no)
   else sArg G s (kindS n) (nthFlagS n) (v.go (v.p + 1))
theorem pseudo3_eq (G : RS → List SelD × RS) (s : Bs) (t : RS) : sPseudo G s t = pseudo3 G s (low (sName s t).1) (sName s t).2 := rfl
theorem pseudo3_un {G : RS → List SelD × RS} (hU : GU G) {s n : Bs} {v : RS} (h : v.un = true) : (pseudo3 G s n v).2.un = true := by
 unfold pseudo3
 repeat' split
 all_goals first | exact sArg_un hU _ _ _ _ h | simp [h]
theorem pseudo3_dead {G : RS → List SelD × RS} {s n : Bs} {v : RS} (h : Dead s v) : Dead s (pseudo3 G s n v).2 := by
 unfold pseudo3
 rcases h with h | h
 · rw [if_pos h]; exact .inl rfl
 split
 · exact .inl rfl
 split
 · rw [if_neg (by omega)]; exact .inr h
 split
 · exact .inl rfl
 rw [if_pos (.inr (by omega))]; exact .inl rfl
theorem iArgG_smp {Gi : Nat → Option (List CSel × Nat)} {s n : Bs} {j : Nat} {c : CSel} {e : Nat} (h : iArgG Gi s n j = some (c, e)) : Smp c := by
 unfold iArgG at h
 split at h
 · cases h
 split at h
 · cases h
 simp only [Option.map_eq_some_iff, Prod.mk.injEq] at h
 obtain ⟨_, _, h, _⟩ := h
 rw [← h]; trivial
theorem iArgV_smp {s : Bs} {o : Bool} {j : Nat} {c : CSel} {e : Nat} (h : iArgV s o j = some (c, e)) : Smp c := by
 unfold iArgV at h
 split at h
 · cases h
 split at h
 · split at h
   · cases h
   simp only [Option.map_eq_some_iff, Prod.mk.injEq] at h
   obtain ⟨_, _, h, _⟩ := h
   rw [← h]; trivial
 cases h
theorem iArgL_smp {s : Bs} {j : Nat} {c : CSel} {e : Nat} (h : iArgL s j = some (c, e)) : Smp c := by
 unfold iArgL at h
 split at h
 · cases h
 split at h
 · split at h
   · cases h
   simp only [Option.map_eq_some_iff, Prod.mk.injEq] at h
   obtain ⟨_, _, h, _⟩ := h
   rw [← h]; trivial
 cases h
theorem iArgN_smp {s : Bs} {a b : Bool} {j : Nat} {c : CSel} {e : Nat} (h : iArgN s a b j = some (c, e)) : Smp c := by
 unfold iArgN at h
 split at h
 · cases h
 split at h
 · cases h
 simp only [Option.map_eq_some_iff, Prod.mk.injEq] at h
 obtain ⟨_, _, h, _⟩ := h
 rw [← h]; trivial
theorem iAttrE_smp {s key op val : Bs} {ign : Bool} {k : Nat} {x : CSel} {m : Nat} (h : iAttr.iAttrE s key op val ign k = some (x, m)) : Smp x := by
 unfold iAttr.iAttrE at h
 split at h
 · cases h; trivial
 cases h
theorem iAttrV_smp {s key op : Bs} {k : Nat} {x : CSel} {m : Nat} (h : iAttr.iAttrV s key op k = some (x, m)) : Smp x := by
 unfold iAttr.iAttrV at h
 split at h
 · split at h
   · cases h
   rename_i v m' h1
   by_cases h8 : iWs s m' < s.length
   · rw [if_pos h8] at h; exact iAttrE_smp h
   rw [if_neg h8] at h; cases h
 cases h
theorem iAttr_smp {s : Bs} {j : Nat} {c : CSel} {e : Nat} (h : iAttr s j = some (c, e)) : Smp c := by
 unfold iAttr at h
 split at h
 · cases h
 rename_i key k h0
 by_cases q1 : iWs s k < s.length
 · rw [if_pos q1] at h
   by_cases q2 : bat s (iWs s k) = 93
   · rw [if_pos q2] at h; cases h; trivial
   rw [if_neg q2] at h
   by_cases q3 : iWs s k + 2 < s.length ∧ (bat s (iWs s k) = 61 ∨ bat s (iWs s k + 1) = 61)
   · rw [if_pos q3] at h; exact iAttrV_smp h
   rw [if_neg q3] at h; cases h
 rw [if_neg q1] at h; cases h
theorem iOpen_none {s : Bs} {j : Nat} (h : bat s j ≠ 40) : iOpen s j = none := by unfold iOpen; rw [if_neg (fun k => h k.2)]
section
variable {s : Bs} {Gi : Nat → Option (List CSel × Nat)} {G : RS → List SelD × RS} {lo : Nat}
theorem psN_sim (hr : RD s) (hG : GS s lo Gi G) (hU : GU G) (n : Bs) (v : RS) (hb : v.bad = false) (hlo : lo ≤ v.p + 1) :
 PSim s (iPsN Gi s n v.p) (((pseudo3 G s n v).1, []), (pseudo3 G s n v).2) := by
 unfold pseudo3
 rw [if_neg (by rw [hb]; exact Bool.false_ne_true)]
 cases hp : sPlain n with
 | some x =>
  obtain ⟨c, h1, h2, h3, h4, h5, h6⟩ := plain_both hp
  simp only
  split
  · left; simp
  right; left
  refine ⟨hb, .inl ⟨c, ?_, rfl, h6, MT.leaf x h3 h4 h5⟩⟩
  rw [iPsN_rest h2, h1]
 | none =>
  simp only
  split
  · left; simp
  rename_i ho
  cases hsp : special n with
  | false =>
   have hk : nthFlagS n < 0 ∧ kindS n = 0 := by
    simp only [special, List.mem_cons, List.not_mem_nil, or_false, decide_eq_false_iff_not, not_or] at hsp
    obtain ⟨q1, q2, q3, q4, q5, q6, q7, q8, q9, q10⟩ := hsp
    constructor
    · unfold nthFlagS; rw [if_neg q6, if_neg q7, if_neg q8, if_neg q9]; decide
    unfold kindS; rw [if_neg q1, if_neg q2, if_neg q3, if_neg q4, if_neg q5, if_neg q10]
   rw [if_pos (.inl hk)]
   obtain ⟨h1, h2⟩ := plain_none hp ho
   right; right
   refine ⟨?_, .inl rfl⟩
   rw [iPsN_rest hsp, h1]
   simp [h2]
  | true =>
   by_cases h40 : bat s v.p = 40
   · simp only [special, List.mem_cons, List.not_mem_nil, or_false, decide_eq_true_eq] at hsp
     have hg := fun (n : Bs) (k f : Int) => argG_sim hr (v.go (v.p + 1)) hb v.p rfl h40 hG hU hlo n k f
     have hv := fun (o : Bool) (f : Int) => argV_sim hr (v.go (v.p + 1)) hb v.p rfl h40 (G := G) o f
     have hl := fun (f : Int) => argL_sim hr (v.go (v.p + 1)) hb v.p rfl h40 (G := G) f
     have hn := fun (a b : Bool) (k f : Int) => argN_sim hr (v.go (v.p + 1)) hb v.p rfl h40 (G := G) a b k f
     rcases hsp with e | e | e | e | e | e | e | e | e | e <;> subst e <;> rw [if_neg (by simp only [h40]; decide)]
     · rw [show iPsN Gi s nNot v.p = (iArgG Gi s nNot v.p).map fun p => (some p.1, [], p.2) from by unfold iPsN; rw [if_pos (by simp)]]
       exact PSim.of (hg nNot _ _ (by decide) (by decide) (by decide)) (fun _ _ => iArgG_smp)
     · rw [show iPsN Gi s nHas v.p = (iArgG Gi s nHas v.p).map fun p => (some p.1, [], p.2) from by unfold iPsN; rw [if_pos (by simp)]]
       exact PSim.of (hg nHas _ _ (by decide) (by decide) (by decide)) (fun _ _ => iArgG_smp)
     · rw [show iPsN Gi s nHasChild v.p = (iArgG Gi s nHasChild v.p).map fun p => (some p.1, [], p.2) from by unfold iPsN; rw [if_pos (by simp)]]
       exact PSim.of (hg nHasChild _ _ (by decide) (by decide) (by decide)) (fun _ _ => iArgG_smp)
     · rw [show iPsN Gi s nContains v.p = (iArgV s false v.p).map fun p => (some p.1, [], p.2) from by unfold iPsN; rw [if_neg (by decide), if_pos (by decide)]; rfl]
       exact PSim.of (hv false _ (by decide)) (fun _ _ => iArgV_smp)
     · rw [show iPsN Gi s nContainsOwn v.p = (iArgV s true v.p).map fun p => (some p.1, [], p.2) from by unfold iPsN; rw [if_neg (by decide), if_pos (by decide)]; rfl]
       exact PSim.of (hv true _ (by decide)) (fun _ _ => iArgV_smp)
     · rw [show iPsN Gi s nNthChild v.p = (iArgN s false false v.p).map fun p => (some p.1, [], p.2) from by unfold iPsN; rw [if_neg (by decide), if_neg (by decide), if_pos (by decide)]; rfl]
       exact PSim.of (hn false false _ _ (by decide)) (fun _ _ => iArgN_smp)
     · rw [show iPsN Gi s nNthLastChild v.p = (iArgN s true false v.p).map fun p => (some p.1, [], p.2) from by unfold iPsN; rw [if_neg (by decide), if_neg (by decide), if_pos (by decide)]; rfl]
       exact PSim.of (hn true false _ _ (by decide)) (fun _ _ => iArgN_smp)
     · rw [show iPsN Gi s nNthType v.p = (iArgN s false true v.p).map fun p => (some p.1, [], p.2) from by unfold iPsN; rw [if_neg (by decide), if_neg (by decide), if_pos (by decide)]; rfl]
       exact PSim.of (hn false true _ _ (by decide)) (fun _ _ => iArgN_smp)
     · rw [show iPsN Gi s nNthLastType v.p = (iArgN s true true v.p).map fun p => (some p.1, [], p.2) from by unfold iPsN; rw [if_neg (by decide), if_neg (by decide), if_pos (by decide)]; rfl]
       exact PSim.of (hn true true _ _ (by decide)) (fun _ _ => iArgN_smp)
     rw [show iPsN Gi s nLang v.p = (iArgL s v.p).map fun p => (some p.1, [], p.2) from by unfold iPsN; rw [if_neg (by decide), if_neg (by decide), if_neg (by decide), if_pos rfl]]
     exact PSim.of (hl _ (by decide)) (fun _ _ => iArgL_smp)
   rw [if_pos (.inr h40)]
   right; right
   refine ⟨?_, .inl rfl⟩
   have hg : iArgG Gi s n v.p = none := by unfold iArgG; rw [iOpen_none h40]
   have hv : ∀ o, iArgV s o v.p = none := by intro o; unfold iArgV; rw [iOpen_none h40]
   have hn : ∀ a b, iArgN s a b v.p = none := by intro a b; unfold iArgN; rw [iOpen_none h40]
   have hl : iArgL s v.p = none := by unfold iArgL; rw [iOpen_none h40]
   unfold iPsN
   rw [hg, hv, hn, hl]
   simp only [special, List.mem_cons, List.not_mem_nil, or_false, decide_eq_true_eq] at hsp
   split
   · rfl
   split
   · rfl
   split
   · rfl
   split
   · rfl
   rename_i q1 q2 q3 q4
   simp only [not_or] at q1 q2 q3
   rcases hsp with e | e | e | e | e | e | e | e | e | e
   · exact absurd e q1.1
   · exact absurd e q1.2.1
   · exact absurd e q1.2.2
   · exact absurd e q2.1
   · exact absurd e q2.2
   · exact absurd e q3.1
   · exact absurd e q3.2.1
   · exact absurd e q3.2.2.1
   · exact absurd e q3.2.2.2
   exact absurd e q4
theorem elder {n : Bs} (h : n ∈ elderNames) : special n = false ∧ plainI n = none ∧ n ∈ elNames ∧ n ≠ [] := by
 simp only [elderNames, List.mem_cons, List.not_mem_nil, or_false] at h
 rcases h with h | h | h | h <;> subst h <;> exact ⟨by decide, by simp [plainI, neverNames], by decide, by decide⟩
theorem iIdent_out {i : Nat} (h : s.length ≤ i) : iIdent s i = none := by
 unfold iIdent
 have := hyEnd_ge s i
 rw [if_neg (fun k => by omega)]
theorem iPs_one {i : Nat} (h2 : ¬ bat s (i + 1) = 58) : iPs Gi s i = (iIdent s (i + 1)).bind fun p => iPsN Gi s (low p.1) p.2 := by
 unfold iPs
 by_cases h : i + 1 < s.length
 · rw [if_pos h, if_neg h2]
   rcases iIdent s (i + 1) with _ | ⟨n, j⟩
   · rfl
   dsimp only [Option.bind_some]
   rw [if_neg (fun k => h2 k.1)]
 rw [if_neg h, iIdent_out (by omega)]; rfl
theorem ps_sim (hr : RD s) (hG : GS s lo Gi G) (hU : GU G) (t : RS) (hb : t.bad = false) (hlo : lo ≤ t.p + 1) (h58 : bat s t.p = 58) : PSim s (iPs Gi s t.p)
 (if bat s (t.p + 1) = 58 then (([], (sElem s (t.go (t.p + 2))).1), (sElem s (t.go (t.p + 2))).2) else (((sPseudo G s (t.go (t.p + 1))).1, []), (sPseudo G s (t.go (t.p + 1))).2)) := by
 unfold iPs
 by_cases h2 : bat s (t.p + 1) = 58
 · rw [if_pos h2, if_pos (bat_in (by omega)), if_pos h2]
   have hn := name_sim hr (t.go (t.p + 2)) hb
   unfold sElem
   simp only [go_p'] at hn
   generalize sName s (t.go (t.p + 2)) = w at hn ⊢
   simp only
   by_cases he : low w.1 ∈ elderNames
   · by_cases h40 : bat s w.2.p = 40
     · left; simp [h40]
     obtain ⟨q1, q2, q3, q4⟩ := elder he
     rcases hn with h | ⟨nm, h3, h4, h5⟩ | ⟨h3, h4⟩
     · left; simp [h]
     · right; left
       refine ⟨h4, .inr ⟨?_, q4⟩⟩
       rw [h3]
       simp only
       rw [h5, if_neg (fun k => k.2 q3), iPsN_rest q1, q2]
       simp [q3]
     right; right
     rw [h3]
     exact ⟨rfl, h4⟩
   left; simp [he]
 have e := iPs_one (Gi := Gi) h2
 unfold iPs at e
 rw [e, if_neg h2, pseudo3_eq]
 have hn := name_sim hr (t.go (t.p + 1)) hb
 simp only [go_p'] at hn
 have hup : ∀ nm p, iIdent s (t.p + 1) = some (nm, p) → t.p + 1 < p := fun nm p h => (iIdent_lt h).1
 generalize sName s (t.go (t.p + 1)) = w at hn ⊢
 rcases hn with h | ⟨nm, h3, h4, h5⟩ | ⟨h3, h4⟩
 · exact .inl (pseudo3_un hU h)
 · rw [h3]
   simp only [Option.bind_some]
   rw [h5]
   exact psN_sim hr hG hU (low w.1) w.2 h4 (by have := hup _ _ h3; omega)
 rw [h3]
 exact .inr (.inr ⟨rfl, pseudo3_dead h4⟩)
theorem simple_sim (hr : RD s) (hG : GS s lo Gi G) (hU : GU G) (t : RS) (hb : t.bad = false) (hlo : lo ≤ t.p + 1) (hc : isSim (bat s t.p) = true) : PSim s (iSimple Gi s t.p) (sSimple G s t) := by
 simp only [isSim, Bool.or_eq_true, decide_eq_true_eq] at hc
 unfold iSimple sSimple
 by_cases h46 : bat s t.p = 46
 · rw [if_neg (by omega), if_pos h46, if_pos h46]
   have hn := name_sim hr (t.go (t.p + 1)) hb
   simp only [go_p'] at hn
   generalize sName s (t.go (t.p + 1)) = w at hn ⊢
   rcases hn with h | ⟨nm, h3, h4, h5⟩ | ⟨h3, h4⟩
   · exact .inl h
   · refine .inr (.inl ⟨h4, .inl ⟨.cls w.1, by rw [h3, h5]; rfl, rfl, trivial, MT.leaf _ (by simp [dataOf, nodeOf]) (by simp [nodeOf]) (by simp [treeOf])⟩⟩)
   exact .inr (.inr ⟨by rw [h3]; rfl, h4⟩)
 by_cases h35 : bat s t.p = 35
 · rw [if_pos h35, if_neg h46, if_pos h35]
   have hn := hash_sim hr (t.go (t.p + 1)) hb
   simp only [go_p'] at hn
   generalize sHash s (t.go (t.p + 1)) = w at hn ⊢
   rcases hn with h | ⟨nm, h3, h4, h5⟩ | ⟨h3, h4⟩
   · exact .inl h
   · refine .inr (.inl ⟨h4, .inl ⟨.idn w.1, by rw [h3, h5]; rfl, rfl, trivial, MT.leaf _ (by simp [dataOf, nodeOf]) (by simp [nodeOf]) (by simp [treeOf])⟩⟩)
   exact .inr (.inr ⟨by rw [h3]; rfl, h4⟩)
 simp only [if_neg h35, if_neg h46]
 by_cases h91 : bat s t.p = 91
 · simp only [if_pos h91]
   exact PSim.of (attr_sim hr (t.go (t.p + 1)) hb t.p rfl) (fun _ _ => iAttr_smp)
 simp only [if_neg h91]
 exact ps_sim hr hG hU t hb hlo (by omega)
/-! ### Compounds -/
theorem isSim_92 : isSim 92 = false := by decide
theorem cmpGo_dead {ps pseudo : Bool} {t : RS} {l : List SelD} {pe : Bs} {many : Nat} (h : Dead s t) : Dead s (sCmpGo G s ps pseudo t l pe many).2 := by
 rw [sCmpGo, if_neg]
 · simp only
   split
   · exact .inl rfl
   exact h
 intro k
 rcases h with h | h
 · rw [h] at k; cases k.1
 rw [h, isSim_92] at k; cases k.2.2
theorem cmpGo_sim (hr : RD s) (hG : GS s lo Gi G) (hU : GU G) (ps pseudo : Bool) (hps : pseudo = true → ps = true) (t : RS) (l : List SelD) (pe : Bs) (many : Nat) :
 ∀ (xs : List CSel), t.bad = false → lo ≤ t.p + 1 → MTs xs l → (∀ y ∈ xs, Smp y) → (many = 0 → isSim (bat s t.p) = true) →
 Sim s MT (iSeqGo Gi s ps t.p xs pe) (sCmpGo G s ps pseudo t l pe many) := by
 fun_induction sCmpGo G s ps pseudo t l pe many with
 | case1 t l pe many h1 v h2 h3 =>
  intro xs hb hlo hm hx h0
  have hs := simple_sim hr hG hU t hb hlo h1.2.2
  rcases hs with h | ⟨h4, ⟨c, h5, h6, h7, h8⟩ | ⟨h5, h6⟩⟩ | ⟨h5, h6⟩
  · exact .un (by simp [show v.2.un = true from h])
  · exact absurd h6 h2
  · cases hq : ps
    · refine .bad ?_ rfl
      rw [iSeqGo, if_pos h1.2, h5]
      simp
    exact .un (by simp)
  refine .bad ?_ rfl
  rw [iSeqGo, if_pos h1.2, h5]
 | case2 t l pe many h1 v h2 h3 h4 =>
  intro xs hb hlo hm hx h0
  exact .un (by simp)
 | case3 t l pe many h1 v h2 h3 h4 h5 ih =>
  intro xs hb hlo hm hx h0
  simp only [Bool.not_eq_false] at h3
  simp only [ne_eq, Decidable.not_not] at h4
  have hs := simple_sim hr hG hU t hb hlo h1.2.2
  rcases hs with h | ⟨h6, ⟨c, h7, h8, h9, h10⟩ | ⟨h7, h8⟩⟩ | ⟨h7, h8⟩
  · exact .un (sCmpGo_un hU _ _ _ _ _ _ _ h)
  · exact absurd h8 h2
  · rw [iSeqGo, if_pos h1.2, h7]
    simp only
    rw [if_pos h5, if_pos ⟨h4, hps h3⟩]
    exact ih xs h6 (by omega) hm hx (by omega)
  refine .no ?_ (cmpGo_dead h8)
  rw [iSeqGo, if_pos h1.2, h7]
 | case4 t l pe many h1 v h2 h3 h4 h5 =>
  intro xs hb hlo hm hx h0
  have hs := simple_sim hr hG hU t hb hlo h1.2.2
  rcases hs with h | ⟨h6, ⟨c, h7, h8, h9, h10⟩ | ⟨h7, h8⟩⟩ | ⟨h7, h8⟩
  · exact .un (by simp [show v.2.un = true from h])
  · exact absurd h8 h2
  · refine .bad ?_ rfl
    rw [iSeqGo, if_pos h1.2, h7]
    simp only
    rw [if_neg h5]
  refine .bad ?_ rfl
  rw [iSeqGo, if_pos h1.2, h7]
 | case5 t l pe many h1 v h2 h3 ih =>
  intro xs hb hlo hm hx h0
  have hs := simple_sim hr hG hU t hb hlo h1.2.2
  rcases hs with h | ⟨h6, ⟨c, h7, h8, h9, h10⟩ | ⟨h7, h8⟩⟩ | ⟨h7, h8⟩
  · exact .un (sCmpGo_un hU _ _ _ _ _ _ _ (by simp [show v.2.un = true from h]))
  · by_cases hpe : pe = []
    · rw [iSeqGo, if_pos h1.2, h7]
      simp only
      rw [if_pos h3, if_pos hpe]
      refine ih (xs ++ [c]) h6 ?_ (hm.snoc h10) ?_ (by omega)
      · simp only [unI_p']; omega
      intro y hy
      simp only [List.mem_append, List.mem_singleton] at hy
      rcases hy with hy | hy
      · exact hx y hy
      rw [hy]; exact h9
    exact .un (sCmpGo_un hU _ _ _ _ _ _ _ (by simp [hpe]))
  · exact absurd h8 (by simpa using h2)
  refine .no ?_ (cmpGo_dead h8)
  rw [iSeqGo, if_pos h1.2, h7]
 | case6 t l pe many h1 v h2 h3 =>
  intro xs hb hlo hm hx h0
  have hs := simple_sim hr hG hU t hb hlo h1.2.2
  rcases hs with h | ⟨h6, ⟨c, h7, h8, h9, h10⟩ | ⟨h7, h8⟩⟩ | ⟨h7, h8⟩
  · exact .un (by simp [show v.2.un = true from h])
  · refine .bad ?_ rfl
    rw [iSeqGo, if_pos h1.2, h7]
    simp only
    rw [if_neg h3]
  · exact absurd h8 (by simpa using h2)
  refine .bad ?_ rfl
  rw [iSeqGo, if_pos h1.2, h7]
 | case7 t l pe h1 t1 =>
  intro xs hb hlo hm hx h0
  exfalso
  have hq := h0 rfl
  refine h1 ⟨hb, bat_in ?_, hq⟩
  intro e; rw [e] at hq; revert hq; decide
 | case8 t l pe many h1 t1 =>
  intro xs hb hlo hm hx h0
  refine .ok _ ?_ hb (hm.seq pe hx)
  rw [iSeqGo, if_neg (fun k => h1 ⟨hb, k⟩)]
  rfl
theorem follow_sim {i : Nat} (h : nmFollow s i = true) : isSim (bat s i) = false ∧ bat s i ≠ 42 := by
 obtain ⟨_, h1⟩ := follow_at h
 simp only [isSim, nmChar, nmStart, Bool.or_eq_true, Bool.and_eq_true, decide_eq_true_eq, Bool.or_eq_false_iff, decide_eq_false_iff_not] at *
 omega
theorem cmp_sim (hr : RD s) (hG : GS s lo Gi G) (hU : GU G) (ps pseudo : Bool) (hps : pseudo = true → ps = true) (t : RS) (hb : t.bad = false) (hlo : lo ≤ t.p + 1) :
 Sim s MT (iSeq Gi s ps t.p) (sCmp G s ps pseudo t) := by
 unfold sCmp iSeq
 by_cases h42 : bat s t.p = 42
 · rw [if_pos h42, if_pos h42, if_pos (bat_in (by omega))]
   by_cases h124 : bat s (t.p + 1) = 124
   · left
     rw [sCmpGo, if_neg (by simp only [go_p', h124]; intro k; exact absurd k.2.2 (by decide))]
     simp only [go_p', h124, decide_true, Bool.true_or]
     rw [if_neg (by decide)]
     simp
   rw [if_neg (fun k => h124 k.2.1)]
   exact cmpGo_sim hr hG hU ps pseudo hps (t.go (t.p + 1)) [] [] 1 [] hb (by simp only [go_p']; omega) MTs.nil (by simp) (by omega)
 rw [if_neg h42, if_neg h42]
 cases hf : nmFollow s t.p with
 | true =>
  obtain ⟨q1, q2⟩ := follow_sim hf
  rw [if_pos rfl, if_pos (follow_at hf).1, if_neg (by rw [q1]; exact Bool.false_ne_true)]
  simp only
  have hn := name_sim hr (t.unI (nmUn s t.p)) hb
  simp only [unI_p'] at hn
  generalize sName s (t.unI (nmUn s t.p)) = w at hn ⊢
  rcases hn with h | ⟨nm, h3, h4, h5⟩ | ⟨h3, h4⟩
  · exact .un (sCmpGo_un hU _ _ _ _ _ _ _ h)
  · have hl := iIdent_lt h3
    rw [h3]
    simp only
    rw [h5]
    refine cmpGo_sim hr hG hU ps pseudo hps w.2 _ [] 1 [.tag (low w.1)] h4 (by omega) (MTs.one ?_) (by simp [Smp]) (by omega)
    exact MT.leaf _ (by simp [dataOf, nodeOf]) (by simp [nodeOf]) (by simp [treeOf])
  rw [h3]
  exact .no rfl (cmpGo_dead h4)
 | false =>
  rw [if_neg Bool.false_ne_true]
  by_cases hc : isSim (bat s t.p) = true
  · have hl : t.p < s.length := by apply bat_in; intro e; rw [e] at hc; revert hc; decide
    rw [if_pos hl, if_pos hc]
    exact cmpGo_sim hr hG hU ps pseudo hps (t.unI (nmUn s t.p)) [] [] 0 [] hb hlo MTs.nil (by simp) (fun _ => hc)
  have hn := name_sim hr t hb
  unfold sName at hn
  rw [if_neg (by rw [hf]; exact Bool.false_ne_true)] at hn
  have e : (sCmpGo G s ps pseudo (t.unI (nmUn s t.p)) [] [] 0).2 = ((t.unI (nmUn s t.p)).unI (decide (bat s t.p = 124) || decide (bat s t.p = 42))).no := by
   rw [sCmpGo, if_neg (fun k => hc k.2.2)]
   rfl
  rcases hn with h | ⟨nm, h3, h4, h5⟩ | ⟨h3, h4⟩
  · refine .un ?_
    rw [e]
    simp only [RS.no_un, RS.unI_un] at h ⊢
    rw [h]; rfl
  · simp at h4
  refine .bad ?_ (by rw [e]; rfl)
  split
  · rw [h3]
  rfl
end
end Law
end
end Go.Proofs.YtengepcafdnalaaGreatDoor
