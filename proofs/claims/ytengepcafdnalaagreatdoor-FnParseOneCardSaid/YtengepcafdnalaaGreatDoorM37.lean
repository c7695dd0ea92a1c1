/-
  Parts of the proof that the law FnParseOne holds for every input (texts Wh, Wi, Wj). Conditions: none.
-/
import Derived.Test.YtengepcafdnalaaGreatDoorM36
namespace Go.Proofs.YtengepcafdnalaaGreatDoor
section
set_option maxRecDepth 20000
theorem allR_no {n j : Nat} {p : Nat → Bool} (h : j < n) (e : p j = false) : (List.range n).all p = false := by
 rw [List.all_eq_false]
 exact ⟨j, List.mem_range.2 h, by simp [e]⟩
theorem allR_yes {n : Nat} {p : Nat → Bool} (e : ∀ j, j < n → p j = true) : (List.range n).all p = true := by
 rw [List.all_eq_true]
 exact fun j hj => e j (List.mem_range.1 hj)
theorem allR_iff {n : Nat} {p : Nat → Bool} : (List.range n).all p = true ↔ ∀ j, j < n → p j = true := by
 rw [List.all_eq_true]
 exact ⟨fun h j hj => h j (List.mem_range.2 hj), fun h j hj => h j (List.mem_range.1 hj)⟩
def szGo (f : Nat → Int → Bool) (l : List SelD) (fin : Int) (k : Nat) : Bool :=
 if (k : Int) < fin then
  (if f k fin = true then (if 1 ≤ (l.getD k default).size then szGo f l fin (k + (l.getD k default).size.toNat) else false) else false)
 else true
 termination_by (fin - k).toNat
 decreasing_by omega
def szB : Nat → List SelD → Nat → Int → Bool
 | 0, _, _, _ => false
 | m + 1, l, i, e => if (l.getD i default).size < 1 ∨ e - i < (l.getD i default).size then false else szGo (szB m l) l (i + (l.getD i default).size) (i + 1)
theorem szB_size {m : Nat} {l : List SelD} {i : Nat} {e : Int} (h : szB m l i e = true) : 1 ≤ (l.getD i default).size ∧ (i : Int) + (l.getD i default).size ≤ e := by
 cases m with
 | zero => simp [szB] at h
 | succ m =>
  rw [szB] at h
  split at h
  · cases h
  omega
def noSz (x : SelD) : SelD := { x with size := 0 }
theorem flat_mk {l : List SelD} {i n : Nat} {ks : List ST} (hi : i < l.length) (hn : n = (ST.flats ks).length + 1) (hs : (l.getD i default).size = (n : Int)) (hk : (l.drop (i + 1)).take (n - 1) = ST.flats ks) :
 (l.drop i).take n = (ST.mk (noSz (l.getD i default)) ks).flat := by
 have e : l.drop i = l.getD i default :: l.drop (i + 1) := by
  rw [List.drop_eq_getElem_cons hi]
  simp [List.getD_eq_getElem?_getD, List.getElem?_eq_getElem hi]
 rw [e, hn, List.take_succ_cons, ST.flat, sizedD]
 rw [hn] at hk hs
 simp only [Nat.add_sub_cancel] at hk
 rw [hk]
 congr 1
 generalize l.getD i default = y at hs
 obtain ⟨_, _, _, _, _, _, _, _⟩ := y
 simp only [noSz]
 simp only at hs
 rw [hs]
 simp
mutual
def Zs : ST → Prop
 | .mk x ks => x.size = 0 ∧ Zss ks
def Zss : List ST → Prop
 | [] => True
 | t :: l => Zs t ∧ Zss l
end
theorem szB_tree {l : List SelD} : ∀ (m i : Nat) (e : Int), szB m l i e = true → e ≤ l.length → ∃ T : ST, (l.drop i).take (l.getD i default).size.toNat = T.flat ∧ Zs T ∧ (l.getD i default).size.toNat = T.flat.length
 | 0, i, e, h, _ => by simp [szB] at h
 | m + 1, i, e, h, he => by
  obtain ⟨q1, q2⟩ := szB_size h
  rw [szB] at h
  split at h
  · cases h
  rename_i h0
  have kids : ∀ (d k : Nat), (i + (l.getD i default).size - k).toNat = d → (k : Int) ≤ i + (l.getD i default).size → szGo (szB m l) l (i + (l.getD i default).size) k = true →
   ∃ ks : List ST, (l.drop k).take d = ST.flats ks ∧ Zss ks ∧ d = (ST.flats ks).length := by
   intro d
   induction d using Nat.strongRecOn with
   | _ d ih =>
    intro k hd hk hg
    rw [szGo] at hg
    split at hg
    · rename_i hlt
      split at hg
      · rename_i hf
        obtain ⟨s1, s2⟩ := szB_size hf
        obtain ⟨T, t1, t2, t3⟩ := szB_tree m k _ hf (by omega)
        rw [if_pos s1] at hg
        obtain ⟨ks, k1, k2, k3⟩ := ih (d - (l.getD k default).size.toNat) (by omega) (k + (l.getD k default).size.toNat) (by omega) (by omega) hg
        refine ⟨T :: ks, ?_, ⟨t2, k2⟩, ?_⟩
        · rw [ST.flats, ← t1, ← k1, ← List.drop_drop]
          rw [show d = (l.getD k default).size.toNat + (d - (l.getD k default).size.toNat) by omega, List.take_add]
          congr 2
          omega
        rw [ST.flats, List.length_append]; omega
      cases hg
    refine ⟨[], ?_, trivial, ?_⟩
    · rw [show d = 0 by omega]; simp [ST.flats]
    simp [ST.flats]; omega
  obtain ⟨ks, k1, k2, k3⟩ := kids ((l.getD i default).size.toNat - 1) (i + 1) (by omega) (by omega) h
  have hfl := flat_mk (l := l) (i := i) (n := (l.getD i default).size.toNat) (ks := ks) (by omega) (by omega) (by omega) k1
  refine ⟨_, hfl, ⟨rfl, k2⟩, ?_⟩
  rw [← hfl, List.length_take, List.length_drop]
  omega
def NodeAt (l : List SelD) (i : Nat) : Prop := ∃ (T : ST) (rest : List SelD), l.drop i = T.flat ++ rest
mutual
theorem node_in {l : List SelD} : ∀ (T : ST) (i : Nat) (rest : List SelD), l.drop i = T.flat ++ rest → ∀ j, i ≤ j → j < i + T.flat.length → NodeAt l j
 | .mk x ks, i, rest, h, j, h1, h2 => by
  by_cases e : j = i
  · subst e; exact ⟨_, rest, h⟩
  obtain ⟨_, hd, _, _, _⟩ := kidsD_flat h
  rw [ST.flat, sizedD, List.length_cons] at h2
  exact nodes_in ks (i + 1) rest hd j (by omega) (by omega)
theorem nodes_in {l : List SelD} : ∀ (ks : List ST) (i : Nat) (rest : List SelD), l.drop i = ST.flats ks ++ rest → ∀ j, i ≤ j → j < i + (ST.flats ks).length → NodeAt l j
 | [], i, rest, h, j, h1, h2 => by simp [ST.flats] at h2; omega
 | t :: ks, i, rest, h, j, h1, h2 => by
  rw [ST.flats, List.append_assoc] at h
  rw [ST.flats, List.length_append] at h2
  by_cases e : j < i + t.flat.length
  · exact node_in t i _ h j h1 e
  exact nodes_in ks _ rest (drop_more h) j (by omega) (by omega)
end
theorem NodeAt.kids {l : List SelD} {i : Nat} (h : NodeAt l i) : i < l.length ∧ (0 ≤ (l.getD i default).size ∧ (i : Int) + (l.getD i default).size ≤ l.length) ∧ (∀ k, k ∈ kidsD l i → k < l.length ∧ (l.getD k default).size ≤ l.length ∧ 0 ≤ (l.getD k default).size ∧ (k : Int) + (l.getD k default).size ≤ l.length ∧ NodeAt l k) ∧ (kidsD l i).length ≤ l.length := by
 obtain ⟨⟨x, ks⟩, rest, h⟩ := h
 obtain ⟨q1, q2, q3, q4, q5⟩ := kidsD_flat h
 refine ⟨q3, ?_, fun k hk => ?_, ?_⟩
 · rw [q4]; simp only; omega
 · rw [q1] at hk
   obtain ⟨⟨y, ys⟩, r, hT, _⟩ := places_at ks (i + 1) rest q2 (Nat.le_refl _) k hk
   obtain ⟨p1, p2, p3, p4, p5⟩ := kidsD_flat hT
   refine ⟨p3, ?_, ?_, ?_, ⟨_, r, hT⟩⟩
   all_goals rw [p4]
   all_goals simp only
   all_goals omega
 have := kidsGo_len l (i + (l.getD i default).size) (i + 1)
 unfold kidsD; omega
def knd (l : List SelD) (k : Nat) : Int := (l.getD k default).kind
def shB (l : List SelD) (i : Nat) : Bool :=
 if knd l i = 23 then (List.range (kidsD l i).length).all (fun j => isCpxB (knd l ((kidsD l i).getD j 0))) && decide (0 < (kidsD l i).length)
 else if knd l i = 18 ∨ knd l i = 19 ∨ knd l i = 20 then decide ((kidsD l i).length = 1) && decide (knd l ((kidsD l i).getD 0 0) = 23) && !((beneathD l i).any psNode)
 else if knd l i = 21 then (List.range (kidsD l i).length).all (fun j => isSimB (knd l ((kidsD l i).getD j 0)) && !(decide (knd l ((kidsD l i).getD j 0) = 2) && decide (0 < j)))
 else if knd l i = 22 then decide ((kidsD l i).length = 2) && isCpxB (knd l ((kidsD l i).getD 0 0)) && isCpxB (knd l ((kidsD l i).getD 1 0)) && !decide (knd l ((kidsD l i).getD 1 0) = 22) && !((beneathD l ((kidsD l i).getD 0 0)).any psNode)
 else isSimB (knd l i) && decide ((kidsD l i).length = 0)
def rightB (l : List SelD) : Bool :=
 if l.length = 0 ∨ (l.getD 0 default).size ≠ (l.length : Nat) ∨ szB 2000 l 0 (l.length : Nat) = false then false
 else (List.range l.length).all (fun i => fldB (l.getD i default) && shB l i) && (decide (knd l 0 = 23) || isCpxB (knd l 0))
theorem beneath_flat {l : List SelD} {i : Nat} {T : ST} {rest : List SelD} (h : l.drop i = T.flat ++ rest) : beneathD l i = T.flat := by
 obtain ⟨x, ks⟩ := T
 obtain ⟨q1, q2, q3, q4, q5⟩ := kidsD_flat h
 have hl : (ST.mk x ks).flat.length = (ST.flats ks).length + 1 := by simp [ST.flat, sizedD]
 unfold beneathD
 rw [if_neg (by omega), q4]
 simp only
 rw [show ((i : Int) + (((ST.flats ks).length : Nat) + 1)).toNat = i + (ST.mk x ks).flat.length by omega]
 rw [List.drop_take, h, Nat.add_sub_cancel_left, List.take_left]
theorem places_kind {l : List SelD} : ∀ (ks : List ST) (k : Nat) (rest : List SelD), l.drop k = ST.flats ks ++ rest → (placesT k ks).map (knd l) = ks.map fun t => t.node.kind
 | [], k, rest, h => by simp [placesT]
 | t :: ks, k, rest, h => by
  rw [ST.flats, List.append_assoc] at h
  obtain ⟨x, r, e1, e2, e3⟩ := flat_cons t
  have h0 : l.drop k = x :: (r ++ (ST.flats ks ++ rest)) := by rw [h, e1]; rfl
  rw [placesT, List.map_cons, List.map_cons, places_kind ks _ rest (drop_more h)]
  congr 1
  unfold knd
  rw [drop_getD h0, e3]
theorem getD_mapk {l : List SelD} {K : List Nat} {ks : List ST} (h : K.map (knd l) = ks.map fun t => t.node.kind) {j : Nat} (hj : j < ks.length) : knd l (K.getD j 0) = (ks[j]).node.kind := by
 have hl : K.length = ks.length := by simpa using congrArg List.length h
 have := congrArg (fun q => q[j]?) h
 simp only [List.getElem?_map, List.getElem?_eq_getElem hj, List.getElem?_eq_getElem (show j < K.length by omega), Option.map_some, Option.some.injEq] at this
 simpa [List.getD_eq_getElem?_getD, List.getElem?_eq_getElem (show j < K.length by omega)] using this
theorem knd_flat {l : List SelD} {i : Nat} {x : SelD} {ks : List ST} {rest : List SelD} (h : l.drop i = (ST.mk x ks).flat ++ rest) : knd l i = x.kind := by
 unfold knd; rw [(kidsD_flat h).2.2.2.1]
theorem shB_T {l : List SelD} {i : Nat} {x : SelD} {ks : List ST} {rest : List SelD} (h : l.drop i = (ST.mk x ks).flat ++ rest) (hb : shB l i = true) : shpT x ks := by
 obtain ⟨q1, q2, q3, q4, q5⟩ := kidsD_flat h
 have hk := places_kind ks (i + 1) rest q2
 rw [← q1] at hk
 have hl : (kidsD l i).length = ks.length := by simpa using congrArg List.length hk
 unfold shB at hb
 rw [knd_flat h, hl] at hb
 unfold shpT
 by_cases h23 : x.kind = 23
 · rw [if_pos h23] at hb ⊢
   rw [Bool.and_eq_true, allR_iff, decide_eq_true_eq] at hb
   refine ⟨fun k hkm => ?_, fun e => by rw [e] at hb; simp at hb⟩
   obtain ⟨j, hj, rfl⟩ := List.getElem_of_mem hkm
   have := hb.1 j hj
   rwa [getD_mapk hk hj] at this
 rw [if_neg h23] at hb ⊢
 by_cases h18 : x.kind = 18 ∨ x.kind = 19 ∨ x.kind = 20
 · rw [if_pos h18] at hb ⊢
   simp only [Bool.and_eq_true, decide_eq_true_eq, Bool.not_eq_true'] at hb
   obtain ⟨⟨b1, b2⟩, b3⟩ := hb
   obtain ⟨g, rfl⟩ := List.length_eq_one_iff.1 b1
   rw [getD_mapk hk (by simp)] at b2
   refine ⟨⟨g, rfl, b2⟩, ?_⟩
   rw [beneath_flat h, ST.flat, sizedD, List.any_cons, Bool.or_eq_false_iff] at b3
   exact b3.2
 rw [if_neg h18] at hb ⊢
 by_cases h21 : x.kind = 21
 · rw [if_pos h21] at hb ⊢
   rw [allR_iff] at hb
   refine ⟨fun k hkm => ?_, fun k hkm => ?_⟩
   · obtain ⟨j, hj, rfl⟩ := List.getElem_of_mem hkm
     have := hb j hj
     rw [getD_mapk hk hj, Bool.and_eq_true] at this
     exact this.1
   obtain ⟨j, hj, rfl⟩ := List.getElem_of_mem hkm
   have hj' : j + 1 < ks.length := by rw [List.length_tail] at hj; omega
   have := hb (j + 1) hj'
   rw [getD_mapk hk hj', Bool.and_eq_true] at this
   have := this.2
   simp only [Bool.not_eq_true', Bool.and_eq_false_imp, decide_eq_true_eq, decide_eq_false_iff_not] at this
   intro e
   refine this ?_ (by omega)
   simpa [List.getElem_tail] using e
 rw [if_neg h21] at hb ⊢
 by_cases h22 : x.kind = 22
 · rw [if_pos h22] at hb ⊢
   simp only [Bool.and_eq_true, decide_eq_true_eq, Bool.not_eq_true', decide_eq_false_iff_not] at hb
   obtain ⟨⟨⟨⟨b1, b2⟩, b3⟩, b4⟩, b5⟩ := hb
   obtain ⟨a, b, rfl⟩ : ∃ a b, ks = [a, b] := by
    match ks, b1 with
    | [a, b], _ => exact ⟨a, b, rfl⟩
   rw [getD_mapk hk (by simp)] at b2
   rw [getD_mapk hk (by simp)] at b3 b4
   refine ⟨a, b, rfl, b2, b3, b4, ?_⟩
   have e0 : (kidsD l i).getD 0 0 = i + 1 := by rw [q1]; rfl
   rw [e0] at b5
   rw [ST.flats, List.append_assoc] at q2
   rw [beneath_flat q2] at b5
   exact b5
 rw [if_neg h22] at hb ⊢
 simp only [Bool.and_eq_true, decide_eq_true_eq] at hb
 exact ⟨hb.1, List.length_eq_zero_iff.1 hb.2⟩
mutual
theorem right_T {l : List SelD} (hall : ∀ j, j < l.length → fldB (l.getD j default) = true ∧ shB l j = true) : ∀ (T : ST) (i : Nat) (rest : List SelD), l.drop i = T.flat ++ rest → Zs T → RightT T
 | .mk x ks, i, rest, h, hz => by
  obtain ⟨q1, q2, q3, q4, q5⟩ := kidsD_flat h
  obtain ⟨a1, a2⟩ := hall i q3
  refine ⟨?_, hz.1, shB_T h a2, right_Ts hall ks (i + 1) rest q2 hz.2⟩
  rw [q4] at a1
  exact a1
theorem right_Ts {l : List SelD} (hall : ∀ j, j < l.length → fldB (l.getD j default) = true ∧ shB l j = true) : ∀ (ks : List ST) (i : Nat) (rest : List SelD), l.drop i = ST.flats ks ++ rest → Zss ks → RightTs ks
 | [], _, _, _, _ => trivial
 | t :: ks, i, rest, h, hz => by
  rw [ST.flats, List.append_assoc] at h
  exact ⟨right_T hall t i _ h hz.1, right_Ts hall ks _ rest (drop_more h) hz.2⟩
end
theorem rightB_T {l : List SelD} (h : rightB l = true) : ∃ T : ST, l = T.flat ∧ RightT T ∧ (T.node.kind = 23 ∨ isCpxB T.node.kind = true) := by
 unfold rightB at h
 split at h
 · cases h
 rename_i h0
 simp only [not_or, Decidable.not_not, Bool.not_eq_false] at h0
 obtain ⟨h1, h2, h3⟩ := h0
 rw [Bool.and_eq_true, allR_iff, Bool.or_eq_true, decide_eq_true_eq] at h
 obtain ⟨T, t1, t2, t3⟩ := szB_tree 2000 0 _ h3 (Int.le_refl _)
 rw [h2] at t1
 have e : l = T.flat := by simpa using t1
 have e' : l.drop 0 = T.flat ++ [] := by simpa using e
 refine ⟨T, e, right_T (fun j hj => by have := h.1 j hj; rwa [Bool.and_eq_true] at this) T 0 [] e' t2, ?_⟩
 obtain ⟨x, ks⟩ := T
 have := h.2
 rw [knd_flat e'] at this
 exact this
theorem szB_nodes {l : List SelD} (h2 : (l.getD 0 default).size = (l.length : Nat)) (h3 : szB 2000 l 0 (l.length : Nat) = true) : ∀ j, j < l.length → NodeAt l j := by
 intro j hj
 obtain ⟨T, t1, t2, t3⟩ := szB_tree 2000 0 _ h3 (Int.le_refl _)
 rw [h2] at t1
 have e : l = T.flat := by simpa using t1
 exact node_in T 0 [] (by simpa using e) j (by omega) (by rw [← e]; omega)
end
section
set_option maxRecDepth 20000
def wtN (x : SelD) : Nat := 100 + 4 * (x.key.length + x.val.length)
def wtL : List SelD → Nat
 | [] => 0
 | x :: l => wtN x + wtL l
theorem wtL_app : ∀ (a b : List SelD), wtL (a ++ b) = wtL a + wtL b
 | [], b => by simp [wtL]
 | x :: a, b => by simp only [List.cons_append, wtL, wtL_app a b]; omega
theorem wtL_drop (l : List SelD) (i : Nat) : wtL (l.drop i) ≤ wtL l := by
 have := wtL_app (l.take i) (l.drop i)
 rw [List.take_append_drop] at this
 omega
theorem wtL_flat (x : SelD) (ks : List ST) : wtL (ST.mk x ks).flat = wtN x + wtL (ST.flats ks) := by
 rw [ST.flat, sizedD, wtL]; rfl
theorem escOf_len {c : Nat} (h : c < 256) : (escOf c).length ≤ 4 := by
 obtain ⟨ds, e1, _, _, _, e5⟩ := Way.hexG_spec c 2 [] (by simpa using h)
 unfold escOf
 rw [e1]
 simp; omega
theorem byte_lt (c : UInt8) : c.toNat < 256 := c.toNat_lt
theorem nmP_len (h i : Nat) (c : UInt8) : (nmP h i c).length ≤ 4 := by
 unfold nmP
 have := escOf_len (byte_lt c)
 split
 · exact this
 split <;> simp
theorem nmF_len (h : Nat) : ∀ (i : Nat) (u : Bs), (nmF h i u).length ≤ 4 * u.length
 | _, [] => by simp [nmF]
 | i, c :: u => by
  have := nmP_len h i c
  have := nmF_len h (i + 1) u
  rw [nmF, List.length_append, List.length_cons]; omega
theorem named_len (s : Bs) : (named s).length ≤ 4 * s.length := by
 unfold named
 split
 · rename_i h; subst h; simp
 exact nmF_len _ 0 s
theorem qP_len (c : UInt8) : (qP c).length ≤ 4 := by
 unfold qP
 have := escOf_len (byte_lt c)
 split
 · exact this
 split <;> simp
theorem qF_len : ∀ u : Bs, (qF u).length ≤ 4 * u.length
 | [] => by simp [qF]
 | c :: u => by
  have := qP_len c
  have := qF_len u
  rw [qF, List.length_append, List.length_cons]; omega
theorem quotedS_len (s : Bs) : (quotedS s).length ≤ 4 * s.length + 2 := by
 have := qF_len s
 unfold quotedS
 simp; omega
theorem decS_lt : ∀ (k n : Nat), n < 10 ^ k → 1 ≤ k → (decS n).length ≤ k
 | 0, n, _, h => by omega
 | k + 1, n, h, _ => by
  rw [decS]
  split
  · simp; omega
  rename_i hn
  rw [Nat.pow_succ] at h
  have hk : 1 ≤ k := by
   rcases k with _ | k
   · simp at h; omega
   omega
  have h1 := decS_lt k (n / 10) (by omega) hk
  have h2 : (decS (n % 10)).length ≤ 1 := by rw [decS, if_pos (Nat.mod_lt _ (by decide))]; simp; omega
  rw [List.length_append]; omega
theorem decS_max {n : Nat} (h : n ≤ 1000000000000000000) : (decS n).length ≤ 19 := decS_lt 19 n (by omega) (by decide)
theorem signedS_len {n : Int} (h : -100000000000000000 ≤ n ∧ n ≤ 100000000000000000) : (signedS n).length ≤ 20 := by
 unfold signedS
 split
 · have := decS_max (n := (-n).toNat) (by omega)
   simp; omega
 have := decS_max (n := n.toNat) (by omega)
 simp; omega
theorem countedS_len {a b : Int} (ha : -100000000000000000 ≤ a ∧ a ≤ 100000000000000000) (hb : -100000000000000000 ≤ b ∧ b ≤ 100000000000000000) : (countedS a b).length ≤ 41 := by
 have h1 := signedS_len hb
 have h2 := decS_max (n := (-a).toNat) (by omega)
 have h3 := decS_max (n := a.toNat) (by omega)
 unfold countedS
 split <;> simp <;> omega
theorem getD_len {l : List Bs} {n : Nat} (h : ∀ t ∈ l, t.length ≤ n) (i : Nat) : (l.getD i []).length ≤ n := by
 rw [List.getD_eq_getElem?_getD]
 by_cases hi : i < l.length
 · rw [List.getElem?_eq_getElem hi]; exact h _ (List.getElem_mem hi)
 rw [List.getElem?_eq_none (by omega)]; simp
theorem wrSimple_len {x : SelD} (h : -100000000000000000 ≤ x.a ∧ x.a ≤ 100000000000000000) (h' : -100000000000000000 ≤ x.b ∧ x.b ≤ 100000000000000000) : (wrSimple x).length + 10 ≤ 100 + 4 * (x.key.length + x.val.length) := by
 have k1 := named_len x.key
 have k2 := named_len x.val
 have k3 := quotedS_len x.val
 have k4 := countedS_len h h'
 have s1 := getD_len (l := signTxt) (n := 2) (by decide) x.op.toNat
 have s2 := getD_len (l := ([[], [32, 105]] : List Bs)) (n := 2) (by decide) x.flag.toNat
 have s3 := getD_len (l := nthTxt) (n := 12) (by decide) x.flag.toNat
 have s4 := getD_len (l := onlyTxt) (n := 7) (by decide) x.flag.toNat
 have s5 := getD_len (l := plainTxt) (n := 8) (by decide) (x.kind - 8).toNat
 unfold wrSimple
 repeat' split
 all_goals (first | omega | (simp only [List.length_append, List.length_cons, List.length_nil]; omega))
def sumT : List (Int × Bs) → Nat
 | [] => 0
 | t :: l => t.2.length + 2 + sumT l
theorem joinC_cons (t : Bs) (l : List Bs) : joinC (t :: l) = t ++ l.flatMap fun u => [44, 32] ++ u := rfl
theorem flat2_len : ∀ l : List (Int × Bs), ((l.map Prod.snd).flatMap fun u => [44, 32] ++ u).length = sumT l
 | [] => rfl
 | t :: l => by
  have := flat2_len l
  rw [List.map_cons, List.flatMap_cons, List.length_append, this, sumT]
  simp only [List.length_append, List.length_cons, List.length_nil]; omega
theorem joinC_len (l : List (Int × Bs)) : (joinC (l.map Prod.snd)).length ≤ sumT l := by
 match l with
 | [] => simp [joinC]
 | t :: l =>
  rw [List.map_cons, joinC_cons, List.length_append, flat2_len, sumT]; omega
theorem fold_len : ∀ (l : List (Int × Bs)) (p : Bs × Bs), (l.foldl cmpStep p).1.length + (l.foldl cmpStep p).2.length ≤ p.1.length + p.2.length + sumT l
 | [], p => by simp [sumT]
 | t :: l, p => by
  have := fold_len l (cmpStep p t)
  have hs : (cmpStep p t).1.length + (cmpStep p t).2.length ≤ p.1.length + p.2.length + t.2.length + 2 := by
   unfold cmpStep
   split
   · simp only; omega
   split
   · simp only
     by_cases h : p.1 = []
     · rw [if_pos h]; simp
       omega
     rw [if_neg h]; omega
   simp only [List.length_append]; omega
  rw [List.foldl_cons, sumT]
  omega
theorem cmpEnd_len (val : Bs) (p : Bs × Bs) : (cmpEnd val p).length ≤ p.1.length + p.2.length + 4 * val.length + 3 := by
 have := named_len val
 have hX : (if val = [] then p.2 else p.2 ++ ([58, 58] ++ named val)).length ≤ p.2.length + 4 * val.length + 2 := by
  by_cases h : val = []
  · rw [if_pos h]; omega
  rw [if_neg h]; simp only [List.length_append, List.length_cons, List.length_nil]; omega
 unfold cmpEnd
 generalize (if val = [] then p.2 else p.2 ++ ([58, 58] ++ named val)) = X at hX ⊢
 split
 · simp only [List.length_cons, List.length_nil]; omega
 rw [List.length_append]; omega
theorem sumT_take (l : List (Int × Bs)) : ∀ j, sumT (l.take j) ≤ sumT l := by
 induction l with
 | nil => simp [sumT]
 | cons t l ih =>
  intro j
  cases j with
  | zero => simp [sumT]
  | succ j => have := ih j; rw [List.take_succ_cons, sumT, sumT]; omega
theorem sumT_two {l : List (Int × Bs)} : (l.getD 0 (0, [])).2.length + (l.getD 1 (0, [])).2.length ≤ sumT l := by
 match l with
 | [] => simp
 | [t] => first | (simp [sumT]; done) | (simp [sumT]; omega)
 | t :: u :: l => first | (simp [sumT]; done) | (simp [sumT]; omega)
theorem wrNode_len {x : SelD} {ts : List (Int × Bs)} (h : -100000000000000000 ≤ x.a ∧ x.a ≤ 100000000000000000) (h' : -100000000000000000 ≤ x.b ∧ x.b ≤ 100000000000000000) : (wrNode x ts).length + 10 ≤ wtN x + sumT ts := by
 have k1 := joinC_len ts
 have k2 := wrSimple_len h h'
 have k3 := cmpEnd_len x.val (ts.foldl cmpStep ([], []))
 have k4 := fold_len ts ([], [])
 have s1 := getD_len (l := combTxt) (n := 3) (by decide) x.op.toNat
 have s2 := getD_len (l := relTxt) (n := 8) (by decide) (x.kind - 18).toNat
 have a0 := sumT_two (l := ts)
 unfold wrNode wrCmp wtN
 simp only [List.length_nil] at k4
 repeat' split
 all_goals (first | omega | (simp only [List.length_append, List.length_cons, List.length_nil]; omega))
end
section
set_option maxRecDepth 20000
def sWr : Nat → List SelD → Nat → Bs
 | 0, _, _ => []
 | n + 1, l, i => wrNode (l.getD i default) ((kidsD l i).map fun k => (knd l k, sWr n l k))
def rowT (n : Nat) (l : List SelD) (i : Nat) : List (Int × Bs) := (kidsD l i).map fun k => (knd l k, sWr n l k)
theorem sWr_row (n : Nat) (l : List SelD) (i : Nat) : sWr (n + 1) l i = wrNode (l.getD i default) (rowT n l i) := rfl
def WAt (l : List SelD) (n k : Nat) : Prop := ∃ (T : ST) (rest : List SelD), l.drop k = T.flat ++ rest ∧ T.ht ≤ n ∧ RightT T
theorem wplaces {l : List SelD} {n : Nat} : ∀ (ks : List ST) (k : Nat) (rest : List SelD), l.drop k = ST.flats ks ++ rest → ST.hts ks ≤ n → RightTs ks → ∀ p ∈ placesT k ks, WAt l n p
 | [], k, rest, h, hn, hr, p, hp => by simp [placesT] at hp
 | t :: ks, k, rest, h, hn, hr, p, hp => by
  rw [ST.flats, List.append_assoc] at h
  rw [ST.hts] at hn
  simp only [placesT, List.mem_cons] at hp
  rcases hp with hp | hp
  · subst hp; exact ⟨t, _, h, by omega, hr.1⟩
  exact wplaces ks _ rest (drop_more h) (by omega) hr.2 p hp
theorem row_places {l : List SelD} {n : Nat} (ih : ∀ i T rest, l.drop i = ST.flat T ++ rest → T.ht ≤ n → sWr n l i = wr T) : ∀ (ks : List ST) (k : Nat) (rest : List SelD), l.drop k = ST.flats ks ++ rest → ST.hts ks ≤ n →
 ((placesT k ks).map fun k => (knd l k, sWr n l k)) = wrs ks
 | [], k, rest, h, hn => by simp [placesT, wrs]
 | t :: ks, k, rest, h, hn => by
  rw [ST.flats, List.append_assoc] at h
  rw [ST.hts] at hn
  obtain ⟨x, xs⟩ := t
  simp only [placesT, wrs, List.map_cons]
  rw [ih k _ _ h (by omega), row_places ih ks _ rest (drop_more h) (by omega), knd_flat h]
  rfl
theorem sWr_eq (l : List SelD) : ∀ (n i : Nat) (T : ST) (rest : List SelD), l.drop i = T.flat ++ rest → T.ht ≤ n → sWr n l i = wr T
 | 0, i, T, rest, h, hn => by obtain ⟨x, ks⟩ := T; simp [ST.ht] at hn
 | n + 1, i, .mk x ks, rest, h, hn => by
  obtain ⟨h1, h2, h3, h4, h5⟩ := kidsD_flat h
  rw [ST.ht] at hn
  have h6 := row_places (l := l) (n := n) (fun i T rest => sWr_eq l n i T rest) ks (i + 1) rest h2 (by omega)
  rw [sWr, h1, h6, h4, wr]
  rfl
theorem rowT_eq {l : List SelD} {n i : Nat} {x : SelD} {ks : List ST} {rest : List SelD} (h : l.drop i = (ST.mk x ks).flat ++ rest) (hn : ST.hts ks ≤ n) : rowT n l i = wrs ks := by
 obtain ⟨h1, h2, h3, h4, h5⟩ := kidsD_flat h
 unfold rowT
 rw [h1]
 exact row_places (fun i T rest => sWr_eq l n i T rest) ks (i + 1) rest h2 hn
mutual
theorem wr_len : ∀ T : ST, RightT T → (wr T).length + 10 ≤ wtL T.flat
 | .mk x ks, ⟨hf, _, _, hk⟩ => by
  have h1 := wrs_len ks hk
  have hr := (Way.fld hf).rng
  have h2 := wrNode_len (x := x) (ts := wrs ks) (by omega) (by omega)
  rw [wtL_flat, wr]
  omega
theorem wrs_len : ∀ ks : List ST, RightTs ks → sumT (wrs ks) ≤ wtL (ST.flats ks)
 | [], _ => by simp [wrs, sumT]
 | t :: ks, ⟨ht, hk⟩ => by
  have h1 := wr_len t ht
  have h2 := wrs_len ks hk
  rw [wrs, sumT, ST.flats, wtL_app]
  simp only
  omega
end
theorem WAt.len {l : List SelD} {n k : Nat} (h : WAt l n k) : (sWr n l k).length ≤ wtL l := by
 obtain ⟨T, rest, h1, h2, h3⟩ := h
 have q := wr_len T h3
 have q2 := wtL_drop l k
 rw [h1, wtL_app] at q2
 rw [sWr_eq l n k T rest h1 h2]
 omega
theorem WAt.kids {l : List SelD} {n i : Nat} (h : WAt l (n + 1) i) : NodeAt l i ∧ (∀ k ∈ kidsD l i, WAt l n k) ∧ sumT (rowT n l i) ≤ wtL l ∧ Way.Fld (l.getD i default) ∧ (l.getD i default).key.length + (l.getD i default).val.length ≤ wtL l ∧
 (knd l i = 22 → (kidsD l i).length = 2) ∧ ((knd l i = 18 ∨ knd l i = 19 ∨ knd l i = 20) → (kidsD l i).length = 1) ∧ (knd l i ≠ 23 → knd l i ≠ 22 → knd l i ≠ 21 → ¬ (knd l i = 18 ∨ knd l i = 19 ∨ knd l i = 20) → isSimB (knd l i) = true) := by
 obtain ⟨⟨x, ks⟩, rest, h1, h2, h3⟩ := h
 have hn : NodeAt l i := ⟨_, rest, h1⟩
 obtain ⟨q1, q2, q3, q4, q5⟩ := kidsD_flat h1
 rw [ST.ht] at h2
 obtain ⟨hf, hz, hs, hk⟩ := h3
 have F := Way.fld hf
 have q6 := wtL_drop l i
 rw [h1, wtL_app, wtL_flat] at q6
 have hkl : (kidsD l i).length = ks.length := by
  have := places_kind ks (i + 1) rest q2
  rw [← q1] at this
  simpa using congrArg List.length this
 refine ⟨hn, ?_, ?_, ?_, ?_, ?_, ?_, ?_⟩
 · rw [q1]; exact wplaces ks (i + 1) rest q2 (by omega) hk
 · rw [rowT_eq h1 (by omega)]
   have := wrs_len ks hk
   omega
 · rw [q4]
   exact { kz := F.kz, vz := F.vz, low := F.low, key := F.key, nokey := F.nokey, name := F.name, val := F.val, num := F.num, rng := F.rng, attr := F.attr, comb := F.comb, nth := F.nth, only := F.only, other := F.other }
 · rw [q4]; simp only
   unfold wtN at q6
   omega
 · intro e
   rw [knd_flat h1] at e
   unfold shpT at hs
   rw [if_neg (by omega), if_neg (by omega), if_neg (by omega), if_pos e] at hs
   obtain ⟨a, b, rfl, _⟩ := hs
   rw [hkl]; rfl
 · intro e
   rw [knd_flat h1] at e
   unfold shpT at hs
   rw [if_neg (by omega), if_pos e] at hs
   obtain ⟨⟨g, rfl, _⟩, _⟩ := hs
   rw [hkl]; rfl
 intro e1 e2 e3 e4
 rw [knd_flat h1] at e1 e2 e3 e4 ⊢
 unfold shpT at hs
 rw [if_neg e1, if_neg e4, if_neg e3, if_neg e2] at hs
 exact hs.1
theorem rowT_len (n : Nat) (l : List SelD) (i : Nat) : (rowT n l i).length = (kidsD l i).length := by simp [rowT]
theorem rowT_at {n : Nat} {l : List SelD} {i j : Nat} (h : j < (kidsD l i).length) : (rowT n l i)[j]'(by rw [rowT_len]; exact h) = (knd l ((kidsD l i).getD j 0), sWr n l ((kidsD l i).getD j 0)) := by
 simp [rowT, List.getD_eq_getElem?_getD, List.getElem?_eq_getElem h]
theorem rowT_get {n : Nat} {l : List SelD} {i j : Nat} (h : j < (kidsD l i).length) : (rowT n l i).getD j (0, []) = (knd l ((kidsD l i).getD j 0), sWr n l ((kidsD l i).getD j 0)) := by
 rw [List.getD_eq_getElem?_getD, List.getElem?_eq_getElem (by rw [rowT_len]; exact h), rowT_at h]
 rfl
def joinJ (n : Nat) (l : List SelD) (i j : Nat) : Bs := joinC (((rowT n l i).take j).map Prod.snd)
theorem joinC_snoc (l : List Bs) (t : Bs) (h : l ≠ []) : joinC (l ++ [t]) = joinC l ++ ([44, 32] ++ t) := by
 obtain ⟨a, l, rfl⟩ := List.exists_cons_of_ne_nil h
 rw [List.cons_append, joinC_cons, joinC_cons, List.flatMap_append]
 simp
theorem joinJ_s {n : Nat} {l : List SelD} {i j : Nat} (h : j < (kidsD l i).length) : joinJ n l i (j + 1) = (if 0 < j then joinJ n l i j ++ [44, 32] else joinJ n l i j) ++ sWr n l ((kidsD l i).getD j 0) := by
 unfold joinJ
 have hl : j < (rowT n l i).length := by rw [rowT_len]; exact h
 rw [List.take_add_one, List.getElem?_eq_getElem hl, rowT_at h, Option.toList_some, List.map_append]
 simp only [List.map_cons, List.map_nil]
 by_cases hj : 0 < j
 · rw [if_pos hj, joinC_snoc _ _ (by intro e; have := congrArg List.length e; rw [List.length_map, List.length_take, List.length_nil] at this; omega)]
   simp
 rw [if_neg hj, show j = 0 by omega]
 simp [joinC]
theorem joinJ_len {n : Nat} {l : List SelD} {i j : Nat} : (joinJ n l i j).length ≤ sumT (rowT n l i) := by
 have := joinC_len ((rowT n l i).take j)
 have := sumT_take (rowT n l i) j
 unfold joinJ; omega
theorem joinJ_end {n : Nat} {l : List SelD} {i j : Nat} (h : j = (kidsD l i).length) : joinJ n l i j = joinC ((rowT n l i).map Prod.snd) := by
 unfold joinJ
 rw [List.take_of_length_le (by rw [rowT_len]; omega)]
def cmpJ (n : Nat) (l : List SelD) (i j : Nat) : Bs × Bs := ((rowT n l i).take j).foldl cmpStep ([], [])
theorem cmpJ_s {n : Nat} {l : List SelD} {i j : Nat} (h : j < (kidsD l i).length) : cmpJ n l i (j + 1) = cmpStep (cmpJ n l i j) (knd l ((kidsD l i).getD j 0), sWr n l ((kidsD l i).getD j 0)) := by
 unfold cmpJ
 have hl : j < (rowT n l i).length := by rw [rowT_len]; exact h
 rw [List.take_add_one, List.getElem?_eq_getElem hl, rowT_at h, Option.toList_some, List.foldl_append]
 rfl
theorem cmpJ_len {n : Nat} {l : List SelD} {i j : Nat} : (cmpJ n l i j).1.length + (cmpJ n l i j).2.length ≤ sumT (rowT n l i) := by
 have := fold_len ((rowT n l i).take j) ([], [])
 have := sumT_take (rowT n l i) j
 unfold cmpJ; simp only [List.length_nil] at *; omega
theorem cmpJ_end {n : Nat} {l : List SelD} {i j : Nat} (h : j = (kidsD l i).length) : cmpJ n l i j = (rowT n l i).foldl cmpStep ([], []) := by
 unfold cmpJ
 rw [List.take_of_length_le (by rw [rowT_len]; omega)]
def sWrC (n : Nat) (l : List SelD) (i : Nat) : Bs := wrCmp (l.getD i default).val (rowT n l i)
def writtenS (l : List SelD) : Bs := if l.length = 0 then [] else sWr 2000 l 0
end
end Go.Proofs.YtengepcafdnalaaGreatDoor
