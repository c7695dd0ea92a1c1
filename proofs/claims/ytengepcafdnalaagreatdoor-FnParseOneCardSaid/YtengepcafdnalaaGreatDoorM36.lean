/-
  Parts of the proof that the law FnParseOne holds for every input (texts Wf, Wg). Conditions: none.
-/
import Derived.Test.YtengepcafdnalaaGreatDoorM35
namespace Go.Proofs.YtengepcafdnalaaGreatDoor
section
namespace Way
set_option maxRecDepth 20000
theorem SeqR.mono {d d' : Nat} {l : List CSel} {pe t : Bs} (h : SeqR d l pe t) (hd : d ≤ d') : SeqR d' l pe t := ⟨h.1, fun s acc k i r l0 hk => h.2 s acc k i r l0 (by omega)⟩
theorem SeqS.mono {d d' : Nat} {x : CSel} {p : Bool} {t : Bs} (h : SeqS d x p t) (hd : d ≤ d') : SeqS d' x p t := ⟨h.1, fun s acc k i r hk => h.2 s acc k i r (by omega)⟩
theorem SelS.mono {d d' : Nat} {x : CSel} {p : Bool} {t : Bs} (h : SelS d x p t) (hd : d ≤ d') : SelS d' x p t := ⟨h.1, fun s acc k i r hk => h.2 s acc k i r (by omega)⟩
theorem SlS.mono {d d' : Nat} {x : CSel} {p : Bool} {t : Bs} (h : SlS d x p t) (hd : d ≤ d') : SlS d' x p t := ⟨h.1, fun s acc k i r hk => h.2 s acc k i r (by omega)⟩
theorem GrpT.mono {d d' : Nat} {l : List CSel} {p : Bool} {t : Bs} (h : GrpT d l p t) (hd : d ≤ d') : GrpT d' l p t := ⟨h.1, fun s acc k i r l0 hk => h.2 s acc k i r l0 (by omega)⟩
theorem GrpS.mono {d d' : Nat} {l : List CSel} {p : Bool} {t : Bs} (h : GrpS d l p t) (hd : d ≤ d') : GrpS d' l p t := ⟨h.1, fun s acc k i r hk => h.2 s acc k i r (by omega)⟩
mutual
def ST.ht' : ST → Nat
 | .mk _ ks => ST.hts' ks + 1
def ST.hts' : List ST → Nat
 | [] => 0
 | t :: l => max (ST.ht' t) (ST.hts' l)
end
theorem hts_mem : ∀ {ks : List ST} {n : Nat}, ST.hts' ks ≤ n → ∀ k ∈ ks, ST.ht' k ≤ n
 | [], _, _, k, h => by cases h
 | t :: l, n, h, k, hk => by
  rw [ST.hts'] at h
  rcases List.mem_cons.1 hk with e | e
  · subst e; omega
  exact hts_mem (by omega) k e
mutual
def SmallT : ST → Prop
 | .mk x ks => smallT x ∧ SmallTs ks
def SmallTs : List ST → Prop
 | [] => True
 | t :: l => SmallT t ∧ SmallTs l
end
theorem SmallTs.mem : ∀ {l : List ST}, SmallTs l → ∀ t ∈ l, SmallT t
 | [], _, t, h => by cases h
 | t :: l, ⟨h1, h2⟩, u, hu => by
  rcases List.mem_cons.1 hu with e | e
  · subst e; exact h1
  exact SmallTs.mem h2 u e
def hasP (T : ST) : Bool := T.flat.any psNode
def hasPs (ks : List ST) : Bool := (ST.flats ks).any psNode
theorem hasP_mk (x : SelD) (ks : List ST) : hasP (.mk x ks) = (psNode x || hasPs ks) := by
 unfold hasP hasPs
 rw [ST.flat, sizedD, List.any_cons]
 rfl
theorem hasPs_cons (t : ST) (l : List ST) : hasPs (t :: l) = (hasP t || hasPs l) := by
 unfold hasP hasPs
 rw [ST.flats, List.any_append]
theorem hasPs_nil : hasPs [] = false := by simp [hasPs, ST.flats]
theorem hasPs_all {ks : List ST} (h : ∀ k ∈ ks, hasP k = false) : hasPs ks = false := by
 induction ks with
 | nil => exact hasPs_nil
 | cons t l ih => rw [hasPs_cons, h t (by simp), ih (fun k hk => h k (by simp [hk]))]; rfl
theorem ps_not {x : SelD} (h : x.kind ≠ 21) : psNode x = false := by simp [psNode, h]
theorem sim_noP {T : ST} (hr : RightT T) (hk : isSimB T.node.kind = true) : hasP T = false := by
 obtain ⟨x, ks⟩ := T
 obtain ⟨hf, _, hs, _⟩ := hr
 have hk' : isSimB x.kind = true := hk
 simp only [isSimB, Bool.and_eq_true, decide_eq_true_eq] at hk'
 rw [hasP_mk, ps_not (by omega)]
 unfold shpT at hs
 rw [if_neg (by omega)] at hs
 by_cases h18 : x.kind = 18 ∨ x.kind = 19 ∨ x.kind = 20
 · rw [if_pos h18] at hs
   have := hs.2
   unfold hasPs; rw [this]; rfl
 rw [if_neg h18, if_neg (by omega), if_neg (by omega)] at hs
 rw [hs.2, hasPs_nil]; rfl
structure Read (n : Nat) (T : ST) : Prop where
 sim : isSimB T.node.kind = true → T.node.kind ≠ 1 → T.node.kind ≠ 2 → SimS n (c1 T) (wr T)
 seq : isCpxB T.node.kind = true → T.node.kind ≠ 22 → SeqS n (c1 T) (hasP T) (wr T)
 sel : isCpxB T.node.kind = true → SelS n (c1 T) (hasP T) (wr T)
 grp : T.node.kind = 23 → ∃ x p t l q u, SlS n x p t ∧ GrpT n l q u ∧ wr T = t ++ u ∧ cs T = x :: l ∧ (p || q) = hasP T ∧ StopW (wr T)
theorem c1_mk {x : SelD} {ks : List ST} {y : CSel} (h : nodeW x (css ks) = [y]) : c1 (.mk x ks) = y := by
 unfold c1; rw [cs, h]; rfl
theorem tail_grp {n : Nat} : ∀ (ks : List ST), (∀ k ∈ ks, SelS n (c1 k) (hasP k) (wr k)) → (∀ k ∈ ks, k.node.kind ≠ 23) →
 GrpT n (css ks) (hasPs ks) (((wrs ks).map Prod.snd).flatMap fun u => [44, 32] ++ u)
 | [], _, _ => by
  rw [css, hasPs_nil, wrs]
  exact GrpT.nil n
 | k :: ks, h, h23 => by
  have ih := tail_grp ks (fun k hk => h k (by simp [hk])) (fun k hk => h23 k (by simp [hk]))
  have q := GrpT.cons (SlS.mk (g1 := [32]) (g2 := []) (fun c hc => by rw [List.mem_singleton.1 hc]; decide) (h k (by simp)) .nil) ih
  rw [css, cs_one (h23 k (by simp)), hasPs_cons, wrs]
  simpa using q
def catN : List ST → Bs
 | [] => []
 | k :: ks => (if k.node.kind = 1 then [] else wr k) ++ catN ks
def hasAny : List ST → Bool
 | [] => false
 | k :: ks => decide (k.node.kind = 1) || hasAny ks
theorem fold_cmp : ∀ (ks : List ST) (f r : Bs), (∀ k ∈ ks, k.node.kind ≠ 2) → (wrs ks).foldl cmpStep (f, r) = ((if f = [] ∧ hasAny ks = true then [42] else f), r ++ catN ks)
 | [], f, r, _ => by simp [wrs, hasAny, catN]
 | k :: ks, f, r, h => by
  have h2 : k.node.kind ≠ 2 := h k (by simp)
  rw [wrs, List.foldl_cons]
  unfold cmpStep
  simp only
  rw [if_neg h2]
  by_cases h1 : k.node.kind = 1
  · rw [if_pos h1]
    have := fold_cmp ks (if f = [] then [42] else f) r (fun k hk => h k (by simp [hk]))
    unfold cmpStep at this
    rw [this]
    by_cases hf : f = [] <;> simp [hf, hasAny, h1, catN]
  rw [if_neg h1]
  have := fold_cmp ks f (r ++ wr k) (fun k hk => h k (by simp [hk]))
  unfold cmpStep at this
  rw [this]
  simp [hasAny, h1, catN]
def peT (val : Bs) : Bs := if val = [] then [] else [58, 58] ++ named val
theorem el_w {val : Bs} (h : isElB val = true) : ElS val (58 :: 58 :: named val) := by
 have key : ∀ v : Bs, (((named v).all fun c => nmChar c.toNat) && nmStart (hd (named v))) = true → named v = v → low v = v → v ∈ elNames → (∀ G s j, iPsN G s v j = some (none, v, j)) → v ≠ [] → ElS v (58 :: 58 :: named v) := by
  intro v h1 h2 h3 h4 h5 h6
  have hid : IdW v (named v) := by
   have := raw_id' h1
   rwa [h2] at this ⊢
  have q := ElS.two hid (by rw [h3]; exact h4) (by rw [h3]; exact h5) (by rw [h3]; exact h6)
  rwa [h3] at q
 simp only [isElB, Bool.or_eq_true, decide_eq_true_eq] at h
 rcases h with ((h | h) | h) | h <;> subst h <;> exact key _ (by decide) (by decide) (by decide) (by decide) (fun G s j => rfl) (by decide)
theorem ite_P {α : Type} {P : α → Prop} {c : Prop} [Decidable c] {a b : α} (ha : P a) (hb : P b) : P (if c then a else b) := by
 by_cases h : c
 · rw [if_pos h]; exact ha
 rw [if_neg h]; exact hb
theorem any_leaf {x : SelD} (h : isSimB x.kind = true) (h1 : x.kind ≠ 1) : isAnyC (leafC x) = false ∧ Smp (leafC x) := by
 simp only [isSimB, Bool.and_eq_true, decide_eq_true_eq] at h
 unfold leafC
 rw [if_neg h1]
 iterate 15 refine ite_P (P := fun y => isAnyC y = false ∧ Smp y) ⟨rfl, trivial⟩ ?_
 exact ⟨rfl, trivial⟩
theorem sim_c1 {T : ST} (hr : RightT T) (hk : isSimB T.node.kind = true) : (T.node.kind = 1 → c1 T = .compound [] []) ∧ (T.node.kind ≠ 1 → isAnyC (c1 T) = false ∧ Smp (c1 T)) := by
 obtain ⟨x, ks⟩ := T
 have hk' : isSimB x.kind = true := hk
 have hk2 := hk'
 simp only [isSimB, Bool.and_eq_true, decide_eq_true_eq] at hk'
 by_cases h18 : x.kind = 18 ∨ x.kind = 19 ∨ x.kind = 20
 · have e : c1 (.mk x ks) = .rel (relTxt.getD (x.kind - 18).toNat []) (css ks) := c1_mk (by unfold nodeW; rw [if_neg (by omega), if_neg (by omega), if_neg (by omega), if_pos h18])
   rw [e]
   exact ⟨fun q => by have : x.kind = 1 := q; omega, fun _ => ⟨rfl, trivial⟩⟩
 have e : c1 (.mk x ks) = leafC x := c1_mk (by unfold nodeW; rw [if_neg (by omega), if_neg (by omega), if_neg (by omega), if_neg h18])
 rw [e]
 refine ⟨fun q => ?_, fun q => any_leaf hk2 q⟩
 have q : x.kind = 1 := q
 simp [leafC, q]
theorem seqR_kids {n : Nat} {val : Bs} (hv : val = [] ∨ isElB val = true) : ∀ (ks : List ST), (∀ k ∈ ks, RightT k) → (∀ k ∈ ks, isSimB k.node.kind = true) → (∀ k ∈ ks, k.node.kind ≠ 2) → (∀ k ∈ ks, Read n k) →
 SeqR n ((css ks).filter fun y => !isAnyC y) val (catN ks ++ peT val)
 | [], _, _, _, _ => by
  rw [css, catN]
  show SeqR n [] val (peT val)
  unfold peT
  by_cases h : val = []
  · subst h; exact SeqR.nil n
  rw [if_neg h]; exact SeqR.el n (el_w (hv.resolve_left h))
 | k :: ks, hr, hs, h2, hR => by
  have ih := seqR_kids (n := n) hv ks (fun k hk => hr k (by simp [hk])) (fun k hk => hs k (by simp [hk])) (fun k hk => h2 k (by simp [hk])) (fun k hk => hR k (by simp [hk]))
  have hk := hs k (by simp)
  have h23 : k.node.kind ≠ 23 := by
   simp only [isSimB, Bool.and_eq_true, decide_eq_true_eq] at hk; omega
  obtain ⟨q1, q2⟩ := sim_c1 (hr k (by simp)) hk
  rw [css, cs_one h23, List.singleton_append, catN]
  by_cases h1 : k.node.kind = 1
  · rw [if_pos h1, q1 h1, List.filter_cons_of_neg (by simp [isAnyC])]
    exact ih
  rw [if_neg h1, List.filter_cons_of_pos (by simp [(q2 h1).1]), List.append_assoc]
  exact SeqR.cons ((hR k (by simp)).sim hk h1 (h2 k (by simp))) ih
theorem tag_id {x : SelD} (hf : Fld x) (h : x.kind = 2) : IdW x.key (named x.key) := named_id hf.kz (hf.key (.inl h))
theorem cmp_read {n : Nat} {x : SelD} {ks : List ST} (hr : RightT (.mk x ks)) (h21 : x.kind = 21) (hR : ∀ k ∈ ks, Read n k) : SeqS n (c1 (.mk x ks)) (hasP (.mk x ks)) (wr (.mk x ks)) := by
 obtain ⟨hf, _, hs, hk⟩ := hr
 have F := fld hf
 unfold shpT at hs
 rw [if_neg (by omega), if_neg (by omega), if_pos h21] at hs
 have hv : x.val = [] ∨ isElB x.val = true := by
  rcases F.val (by omega) with h | h
  · exact .inl h
  exact .inr h.2
 have hp : hasP (.mk x ks) = !decide (x.val = []) := by
  rw [hasP_mk, hasPs_all fun k hk' => sim_noP (hk.mem k hk') (hs.1 k hk')]
  simp [psNode, h21]
 have hc : c1 (.mk x ks) = seqEnd ((css ks).filter fun y => !isAnyC y) x.val := c1_mk (by unfold nodeW; rw [if_neg (by omega), if_neg (by omega), if_pos h21])
 have hw : wr (.mk x ks) = wrCmp x.val (wrs ks) := by
  rw [wr]; unfold wrNode; rw [if_neg (by omega), if_neg (by omega), if_pos h21]
 have hce : ∀ f r, cmpEnd x.val (f, r) = if f ++ (r ++ peT x.val) = [] then [42] else f ++ (r ++ peT x.val) := by
  intro f r
  unfold cmpEnd peT
  by_cases h : x.val = []
  · simp [h]
  simp [h]
 rw [hp, hc, hw]
 unfold wrCmp
 by_cases h2 : ∀ k ∈ ks, k.node.kind ≠ 2
 · have hR' := seqR_kids (n := n) hv ks (fun k hk' => hk.mem k hk') hs.1 h2 hR
   rw [fold_cmp ks [] [] h2, hce, List.nil_append]
   by_cases ha : hasAny ks = true
   · rw [show (if ([] : Bs) = [] ∧ hasAny ks = true then ([42] : Bs) else []) = [42] from if_pos ⟨rfl, ha⟩, if_neg (by simp)]
     exact SeqS.star hR'
   rw [show (if ([] : Bs) = [] ∧ hasAny ks = true then ([42] : Bs) else []) = [] from if_neg (fun q => ha q.2), List.nil_append]
   by_cases he : catN ks ++ peT x.val = []
   · rw [if_pos he]
     rw [he] at hR'
     exact SeqS.star hR'
   rw [if_neg he]
   exact SeqS.bare hR' he
 obtain ⟨k0, rest, rfl, hk0⟩ : ∃ k0 rest, ks = k0 :: rest ∧ k0.node.kind = 2 := by
  rcases ks with _ | ⟨k0, rest⟩
  · exact absurd (fun k hk' => by cases hk') h2
  refine ⟨k0, rest, rfl, ?_⟩
  by_cases e : k0.node.kind = 2
  · exact e
  refine absurd (fun k hk' => ?_) h2
  rcases List.mem_cons.1 hk' with q | q
  · subst q; exact e
  exact hs.2 k q
 have hrest : ∀ k ∈ rest, k.node.kind ≠ 2 := hs.2
 have hR' := seqR_kids (n := n) hv rest (fun k hk' => hk.mem k (by simp [hk'])) (fun k hk' => hs.1 k (by simp [hk'])) hrest (fun k hk' => hR k (by simp [hk']))
 obtain ⟨y, ys⟩ := k0
 have hk0' : y.kind = 2 := hk0
 have hy : RightT (.mk y ys) := hk.mem _ (by simp)
 have Fy := fld hy.1
 have hid := tag_id Fy hk0'
 have hwk : wr (.mk y ys) = named y.key := by
  rw [wr]; unfold wrNode wrSimple
  rw [if_neg (by omega), if_neg (by omega), if_neg (by omega), if_neg (by omega), if_neg (by omega), if_pos hk0']
 have hck : cs (.mk y ys) = [.tag y.key] := by
  rw [cs]; unfold nodeW leafC
  rw [if_neg (by omega), if_neg (by omega), if_neg (by omega), if_neg (by omega), if_neg (by omega), if_pos hk0']
 have q := SeqS.tag hid hR'
 rw [Fy.low] at q
 rw [wrs, List.foldl_cons]
 have hst : cmpStep ([], []) ((ST.mk y ys).node.kind, wr (.mk y ys)) = (named y.key, []) := by
  unfold cmpStep; simp only [hk0, if_true, hwk]
 rw [hst, fold_cmp rest _ _ hrest, if_neg (fun q => hid.head.1 q.1), hce, List.nil_append, if_neg (by simp [hid.head.1]), css, hck]
 exact q
theorem ws32 : WsL [32] := fun c hc => by rw [List.mem_singleton.1 hc]; decide
theorem read_mono {n m : Nat} {T : ST} (h : Read n T) (hn : n ≤ m) : Read m T where
 sim := fun a b c => (h.sim a b c).mono hn
 seq := fun a b => (h.seq a b).mono hn
 sel := fun a => (h.sel a).mono hn
 grp := fun a => by
  obtain ⟨x, p, t, l, q, u, h1, h2, h3⟩ := h.grp a
  exact ⟨x, p, t, l, q, u, h1.mono hn, h2.mono hn, h3⟩
theorem read_all : ∀ (n : Nat) (T : ST), ST.ht' T ≤ n → RightT T → SmallT T → Read n T
 | 0, .mk x ks, h, _, _ => by simp [ST.ht'] at h
 | n + 1, .mk x ks, h, hr, hsm => by
  rw [ST.ht'] at h
  have hht := hts_mem (ks := ks) (n := n) (by omega)
  have hr' := hr
  obtain ⟨hf, hz, hs, hk⟩ := hr'
  have hsm' := hsm
  obtain ⟨hsx, hsk⟩ := hsm'
  have F := fld hf
  have hK : ∀ k ∈ ks, Read n k := fun k hk' => read_all n k (hht k hk') (hk.mem k hk') (hsk.mem k hk')
  have hK' : ∀ k ∈ ks, Read (n + 1) k := fun k hk' => read_mono (hK k hk') (by omega)
  have sim : isSimB x.kind = true → x.kind ≠ 1 → x.kind ≠ 2 → SimS (n + 1) (c1 (.mk x ks)) (wr (.mk x ks)) := by
   intro h0 h1 h2
   have h0' := h0
   simp only [isSimB, Bool.and_eq_true, decide_eq_true_eq] at h0'
   by_cases h18 : x.kind = 18 ∨ x.kind = 19 ∨ x.kind = 20
   · have e : c1 (.mk x ks) = .rel (relTxt.getD (x.kind - 18).toNat []) (css ks) := c1_mk (by unfold nodeW; rw [if_neg (by omega), if_neg (by omega), if_neg (by omega), if_pos h18])
     unfold shpT at hs
     rw [if_neg (by omega), if_pos h18] at hs
     obtain ⟨⟨g, rfl, hg⟩, hps⟩ := hs
     obtain ⟨y, p, t, l, q, u, g1, g2, g3, g4, g5, g6⟩ := (hK g (by simp)).grp hg
     have hpg : hasP g = false := by
      have : hasPs [g] = false := hps
      rw [hasPs_cons, hasPs_nil, Bool.or_false] at this
      exact this
     have hG := GrpS.mk g1 g2
     rw [g5, hpg, ← g3, ← g4] at hG
     have ec : css [g] = cs g := by rw [css, css, List.append_nil]
     have ew : wr (.mk x [g]) = 58 :: (relTxt.getD (x.kind - 18).toNat [] ++ (40 :: ([] ++ (wr g ++ [41])))) := by
      rw [wr]; unfold wrNode
      rw [if_neg (by omega), if_neg (by omega), if_neg (by omega), if_pos h18, wrs]
      rfl
     rw [e, ec, ew]
     have hnm : ∀ m : Fin 3, (((relTxt.getD m.val []).all fun c => nmChar c.toNat) && nmStart (hd (relTxt.getD m.val []))) = true ∧ low (relTxt.getD m.val []) = relTxt.getD m.val [] ∧ (relTxt.getD m.val [] = nNot ∨ relTxt.getD m.val [] = nHas ∨ relTxt.getD m.val [] = nHasChild) := by decide
     obtain ⟨m, hm⟩ : ∃ m : Fin 3, (x.kind - 18).toNat = m.val := ⟨⟨(x.kind - 18).toNat, by omega⟩, rfl⟩
     rw [hm]
     exact SimS.rel (raw_id' (hnm m).1) (hnm m).2.1 (hnm m).2.2 .nil hG g6
   have e : c1 (.mk x ks) = leafC x := c1_mk (by unfold nodeW; rw [if_neg (by omega), if_neg (by omega), if_neg (by omega), if_neg h18])
   have ew : wr (.mk x ks) = wrSimple x := by
    rw [wr]; unfold wrNode
    rw [if_neg (by omega), if_neg (by omega), if_neg (by omega), if_neg h18]
   rw [e, ew]
   exact (leaf_w F hsx h0 h1 h2 h18).mono (by omega)
  have seq : isCpxB x.kind = true → x.kind ≠ 22 → SeqS (n + 1) (c1 (.mk x ks)) (hasP (.mk x ks)) (wr (.mk x ks)) := by
   intro h0 h22
   by_cases h21 : x.kind = 21
   · exact cmp_read hr h21 hK'
   have h0s : isSimB x.kind = true := by simpa [isCpxB, h21, h22] using h0
   rw [sim_noP hr h0s]
   by_cases h1 : x.kind = 1
   · have e : c1 (.mk x ks) = .compound [] [] := (sim_c1 hr h0s).1 h1
     have ew : wr (.mk x ks) = [42] := by
      rw [wr]; unfold wrNode wrSimple
      rw [if_neg (by omega), if_neg (by omega), if_neg (by omega), if_neg (by omega), if_pos h1]
     rw [e, ew]
     exact SeqS.star (SeqR.nil (n + 1))
   by_cases h2 : x.kind = 2
   · have e : c1 (.mk x ks) = .tag x.key := c1_mk (by unfold nodeW leafC; rw [if_neg (by omega), if_neg (by omega), if_neg (by omega), if_neg (by omega), if_neg (by omega), if_pos h2])
     have ew : wr (.mk x ks) = named x.key := by
      rw [wr]; unfold wrNode wrSimple
      rw [if_neg (by omega), if_neg (by omega), if_neg (by omega), if_neg (by omega), if_neg (by omega), if_pos h2]
     have q := SeqS.tag (tag_id F h2) (SeqR.nil (n + 1))
     rw [F.low, List.append_nil] at q
     rw [e, ew]
     exact q
   have hS := sim h0s h1 h2
   have q := SeqS.bare (SeqR.cons hS (SeqR.nil (n + 1))) (by simp [sim_ne hS.1])
   rw [List.append_nil] at q
   exact q
  refine { sim := sim, seq := seq, sel := fun h0 => ?_, grp := fun h23 => ?_ }
  · by_cases h22 : x.kind = 22
    · unfold shpT at hs
      rw [if_neg (by omega), if_neg (by omega), if_neg (by omega), if_pos h22] at hs
      obtain ⟨a, b, rfl, ha, hb, hb22, hpa⟩ := hs
      have ha23 : a.node.kind ≠ 23 := by simp [isCpxB, isSimB] at ha; omega
      have hb23 : b.node.kind ≠ 23 := by simp [isCpxB, isSimB] at hb; omega
      have hA := (hK' a (by simp)).sel ha
      have hB := (hK' b (by simp)).seq hb hb22
      rw [show hasP a = false from hpa] at hA
      have e : c1 (.mk x [a, b]) = .combined (c1 a) (combB x.op) (c1 b) := c1_mk (by
       unfold nodeW
       rw [if_neg (by omega), if_pos h22, css, css, css, cs_one ha23, cs_one hb23]; rfl)
      have ep : hasP (.mk x [a, b]) = hasP b := by
       rw [hasP_mk, ps_not (by omega), hasPs_cons, hasPs_cons, hasPs_nil, show hasP a = false from hpa]; simp
      have ew : wr (.mk x [a, b]) = wr a ++ (combTxt.getD x.op.toNat [] ++ wr b) := by
       rw [wr]; unfold wrNode
       rw [if_neg (by omega), if_pos h22, wrs, wrs]
       simp
      obtain ⟨o1, o2, _⟩ := F.comb h22
      have ho : x.op = 1 ∨ x.op = 2 ∨ x.op = 3 ∨ x.op = 4 := by omega
      show SelS (n + 1) (c1 (.mk x [a, b])) (hasP (.mk x [a, b])) (wr (.mk x [a, b]))
      rw [e, ep, ew]
      rcases ho with ho | ho | ho | ho
      · rw [ho]; exact SelS.desc hA ws32 (g := [32]) (by simp) hB
      · rw [ho]; exact SelS.comb hA (g1 := [32]) (g2 := [32]) ws32 (c := 62) (by decide) ws32 hB
      · rw [ho]; exact SelS.comb hA (g1 := [32]) (g2 := [32]) ws32 (c := 43) (by decide) ws32 hB
      rw [ho]; exact SelS.comb hA (g1 := [32]) (g2 := [32]) ws32 (c := 126) (by decide) ws32 hB
    exact SelS.one (seq h0 h22)
  have h23' : x.kind = 23 := h23
  unfold shpT at hs
  rw [if_pos h23'] at hs
  obtain ⟨hs1, hs2⟩ := hs
  obtain ⟨k0, rest, rfl⟩ := List.exists_cons_of_ne_nil hs2
  have n23 : ∀ k ∈ k0 :: rest, k.node.kind ≠ 23 := fun k hk' => by
   have := hs1 k hk'
   simp [isCpxB, isSimB] at this; omega
  have hS0 := (hK' k0 (by simp)).sel (hs1 k0 (by simp))
  have hT := tail_grp (n := n + 1) rest (fun k hk' => (hK' k (by simp [hk'])).sel (hs1 k (by simp [hk']))) (fun k hk' => n23 k (by simp [hk']))
  have hS1 := SlS.mk (g1 := []) (g2 := []) .nil hS0 .nil
  rw [List.nil_append, List.append_nil] at hS1
  have ew : wr (.mk x (k0 :: rest)) = wr k0 ++ (((wrs rest).map Prod.snd).flatMap fun u => [44, 32] ++ u) := by
   rw [wr]; unfold wrNode
   rw [if_pos h23', wrs]
   rfl
  refine ⟨c1 k0, hasP k0, wr k0, css rest, hasPs rest, _, hS1, hT, ew, ?_, ?_, ?_⟩
  · rw [cs]; unfold nodeW
    rw [if_pos h23', css, cs_one (n23 k0 (by simp))]; rfl
  · rw [hasP_mk, ps_not (by omega), hasPs_cons]; rfl
  rw [ew]; exact hS0.1.stop
end Way
end
section
namespace Way
set_option maxRecDepth 20000
theorem mk_eq {x : SelD} {k o a b f : Int} {ke va : Bs} (h0 : x.size = 0) (h1 : x.kind = k) (h2 : x.op = o) (h3 : x.key = ke) (h4 : x.val = va) (h5 : x.a = a) (h6 : x.b = b) (h7 : x.flag = f) : (⟨k, o, ke, va, a, b, f, 0⟩ : SelD) = x := by
 obtain ⟨_, _, _, _, _, _, _, _⟩ := x
 simp only at h0 h1 h2 h3 h4 h5 h6 h7
 subst h0 h1 h2 h3 h4 h5 h6 h7
 rfl
theorem norm_plain {x : SelD} {ks : List ST} (h : x.kind ≠ 21) : (ST.mk x ks).norm = .mk x (ST.norms ks) := by
 rw [ST.norm]; unfold wrapT keepT
 rw [if_neg (fun q => h q.1), if_neg h]
theorem leaf_tree {x : SelD} (h : isSimB x.kind = true) (h1 : x.kind ≠ 1) : treeOf (leafC x) = .mk (nodeOf (leafC x)) [] := by
 simp only [isSimB, Bool.and_eq_true, decide_eq_true_eq] at h
 unfold leafC
 rw [if_neg h1]
 iterate 15 refine ite_P (P := fun y => treeOf y = .mk (nodeOf y) []) (by simp [treeOf]) ?_
 simp [treeOf]
theorem leaf_node {x : SelD} (F : Fld x) (hz : x.size = 0) (h : isSimB x.kind = true) (h1 : x.kind ≠ 1) (hr : ¬ (x.kind = 18 ∨ x.kind = 19 ∨ x.kind = 20)) : nodeOf (leafC x) = x := by
 simp only [isSimB, Bool.and_eq_true, decide_eq_true_eq] at h
 have hcases : x.kind = 2 ∨ x.kind = 3 ∨ x.kind = 4 ∨ x.kind = 5 ∨ x.kind = 6 ∨ x.kind = 7 ∨ x.kind = 8 ∨ x.kind = 9 ∨ x.kind = 10 ∨ x.kind = 11 ∨ x.kind = 12 ∨ x.kind = 13 ∨ x.kind = 14 ∨ x.kind = 15 ∨ x.kind = 16 ∨ x.kind = 17 := by omega
 have nk : ¬ (x.kind = 2 ∨ x.kind = 5) → x.key = [] := F.nokey
 have nv : ¬ (x.kind = 3 ∨ x.kind = 4 ∨ x.kind = 15 ∨ (x.kind = 5 ∧ x.op ≠ 1) ∨ x.kind = 16 ∨ x.kind = 17) → x.val = [] := fun q => (F.val q).resolve_right (fun q => by omega)
 have nn := F.num
 have no := F.other
 rcases hcases with e | e | e | e | e | e | e | e | e | e | e | e | e | e | e | e
 case inr.inr.inr.inl =>
  obtain ⟨o1, o2, o3, _⟩ := F.attr e
  have hl : leafC x = .attr x.key x.val (signTxt.getD x.op.toNat []) (decide (x.flag = 1)) := by
   unfold leafC
   rw [if_neg (by omega), if_neg (by omega), if_neg (by omega), if_neg (by omega), if_pos e]
  obtain ⟨n1, n2⟩ := nn (by omega)
  rw [hl]
  unfold nodeOf
  refine mk_eq hz e ?_ rfl rfl n1 n2 ?_
  · obtain ⟨m, hm⟩ : ∃ m : Fin 9, x.op.toNat = m.val := ⟨⟨x.op.toNat, by omega⟩, rfl⟩
    have : ∀ m : Fin 9, 1 ≤ m.val → signAt ([] :: attrSigns) (signTxt.getD m.val []) = (m.val : Int) := by decide
    rw [hm, this m (by omega)]; omega
  rcases o3 with q | q <;> rw [q] <;> rfl
 case inr.inr.inr.inr.inl =>
  obtain ⟨o1, o2, o3⟩ := F.nth e
  have hl : leafC x = .nth x.a x.b (decide (x.flag = 1 ∨ x.flag = 3)) (decide (x.flag = 2 ∨ x.flag = 3)) := by
   unfold leafC
   rw [if_neg (by omega), if_neg (by omega), if_neg (by omega), if_neg (by omega), if_neg (by omega), if_pos e]
  rw [hl]
  unfold nodeOf
  refine mk_eq hz e o1 (nk (by omega)) (nv (by omega)) rfl rfl ?_
  have h4 : x.flag = 0 ∨ x.flag = 1 ∨ x.flag = 2 ∨ x.flag = 3 := by omega
  rcases h4 with q | q | q | q <;> rw [q] <;> rfl
 case inr.inr.inr.inr.inr.inl =>
  obtain ⟨o1, o2⟩ := F.only e
  have hl : leafC x = .only (decide (x.flag = 2)) := by
   unfold leafC
   rw [if_neg (by omega), if_neg (by omega), if_neg (by omega), if_neg (by omega), if_neg (by omega), if_neg (by omega), if_pos e]
  obtain ⟨n1, n2⟩ := nn (by omega)
  rw [hl]
  unfold nodeOf
  refine mk_eq hz e o1 (nk (by omega)) (nv (by omega)) n1 n2 ?_
  rcases o2 with q | q <;> rw [q] <;> rfl
 all_goals
  obtain ⟨n1, n2⟩ := nn (by omega)
  obtain ⟨q1, q2⟩ := no (by omega) (by omega) (by omega) (by omega)
  simp only [leafC, e]
  first
   | exact mk_eq hz e q1 rfl (nv (by omega)) n1 n2 q2
   | exact mk_eq hz e q1 (nk (by omega)) rfl n1 n2 q2
   | exact mk_eq hz e q1 (nk (by omega)) (nv (by omega)) n1 n2 q2
theorem seqEnd_norm {l : List CSel} {pe : Bs} (hs : ∀ y ∈ l, Smp y) : (treeOf (seqEnd l pe)).norm = wrapT ⟨21, 0, [], pe, 0, 0, 0, 0⟩ (ST.norms (treesOf l)) := by
 have hc : (treeOf (.compound l pe)).norm = wrapT ⟨21, 0, [], pe, 0, 0, 0, 0⟩ (keepT ⟨21, 0, [], pe, 0, 0, 0, 0⟩ (ST.norms (treesOf l))) := by
  rw [treeOf, ST.norm, nodeOf]
 unfold seqEnd
 split
 · rename_i x
   simp [treesOf, ST.norms, wrapT]
 rw [hc, keep_smps hs]
theorem kids_norm : ∀ (ks : List ST), (∀ k ∈ ks, k.node.kind ≠ 23) → (∀ k ∈ ks, (treeOf (c1 k)).norm = k.norm) → ST.norms (treesOf (css ks)) = ST.norms ks
 | [], _, _ => by simp [css, treesOf, ST.norms]
 | k :: ks, h, hn => by
  rw [css, cs_one (h k (by simp)), List.singleton_append, treesOf, ST.norms, ST.norms, hn k (by simp), kids_norm ks (fun k hk => h k (by simp [hk])) (fun k hk => hn k (by simp [hk]))]
theorem cmp_norm {x : SelD} (h21 : x.kind = 21) : ∀ (ks : List ST), (∀ k ∈ ks, RightT k) → (∀ k ∈ ks, isSimB k.node.kind = true) → (∀ k ∈ ks, (treeOf (c1 k)).norm = k.norm) →
 keepT x (ST.norms ks) = ST.norms (treesOf ((css ks).filter fun y => !isAnyC y)) ∧ ∀ y ∈ (css ks).filter (fun y => !isAnyC y), Smp y
 | [], _, _, _ => by simp [css, treesOf, ST.norms, keepT]
 | k :: ks, hr, hs, hn => by
  obtain ⟨ih1, ih2⟩ := cmp_norm h21 ks (fun k hk => hr k (by simp [hk])) (fun k hk => hs k (by simp [hk])) (fun k hk => hn k (by simp [hk]))
  have hk := hs k (by simp)
  have h23 : k.node.kind ≠ 23 := by
   simp only [isSimB, Bool.and_eq_true, decide_eq_true_eq] at hk; omega
  obtain ⟨q1, q2⟩ := sim_c1 (hr k (by simp)) hk
  unfold keepT at ih1 ⊢
  rw [if_pos h21] at ih1 ⊢
  rw [css, cs_one h23, List.singleton_append, ST.norms]
  by_cases h1 : k.node.kind = 1
  · have e := hn k (by simp)
    rw [q1 h1] at e
    have e2 : (treeOf (.compound [] [])).norm = .mk anyN [] := by simp [treeOf, treesOf, ST.norm, ST.norms, nodeOf, keepT, wrapT]
    rw [e2] at e
    rw [q1 h1, List.filter_cons_of_neg (by rw [← e]; simp [isAnyT, ST.node, anyN]), List.filter_cons_of_neg (by simp [isAnyC])]
    exact ⟨ih1, ih2⟩
  have hsm := (q2 h1).2
  rw [List.filter_cons_of_pos (by rw [← hn k (by simp)]; simp [smp_norm hsm]), List.filter_cons_of_pos (by simp [(q2 h1).1]), treesOf, ST.norms, hn k (by simp), ih1]
  refine ⟨rfl, fun y hy => ?_⟩
  rcases List.mem_cons.1 hy with q | q
  · subst q; exact hsm
  exact ih2 y q
theorem norm_all : ∀ (n : Nat) (T : ST), ST.ht' T ≤ n → RightT T → (T.node.kind ≠ 23 → (treeOf (c1 T)).norm = T.norm) ∧ (T.node.kind = 23 → (ST.mk grpNode (treesOf (cs T))).norm = T.norm)
 | 0, .mk x ks, h, _ => by simp [ST.ht'] at h
 | n + 1, .mk x ks, h, hr => by
  rw [ST.ht'] at h
  have hht := hts_mem (ks := ks) (n := n) (by omega)
  obtain ⟨hf, hz, hs, hk⟩ := hr
  have hr : RightT (.mk x ks) := ⟨hf, hz, hs, hk⟩
  have F := fld hf
  have hK := fun k (hk' : k ∈ ks) => norm_all n k (hht k hk') (hk.mem k hk')
  have nk : ¬ (x.kind = 2 ∨ x.kind = 5) → x.key = [] := F.nokey
  have nn := F.num
  have no := F.other
  unfold shpT at hs
  refine ⟨fun h23 => ?_, fun h23 => ?_⟩
  · have h23 : x.kind ≠ 23 := h23
    rw [if_neg h23] at hs
    by_cases h18 : x.kind = 18 ∨ x.kind = 19 ∨ x.kind = 20
    · rw [if_pos h18] at hs
      obtain ⟨⟨g, rfl, hg⟩, _⟩ := hs
      have e : c1 (.mk x [g]) = .rel (relTxt.getD (x.kind - 18).toNat []) (cs g) := c1_mk (by
       unfold nodeW; rw [if_neg (by omega), if_neg (by omega), if_neg (by omega), if_pos h18, css, css, List.append_nil])
      rw [e, treeOf]
      have hnode : nodeOf (.rel (relTxt.getD (x.kind - 18).toNat []) (cs g)) = x := by
       unfold nodeOf
       obtain ⟨n1, n2⟩ := nn (by omega)
       obtain ⟨q1, q2⟩ := no (by omega) (by omega) (by omega) (by omega)
       refine mk_eq hz ?_ q1 (nk (by omega)) ((F.val (by omega)).resolve_right (fun q => by omega)) n1 n2 q2
       rcases h18 with q | q | q <;> rw [q] <;> decide
      rw [hnode, norm_plain (by omega), norm_plain (by omega), ST.norms, ST.norms, ST.norms, ST.norms, (hK g (by simp)).2 hg]
    rw [if_neg h18] at hs
    by_cases h21 : x.kind = 21
    · rw [if_pos h21] at hs
      have e : c1 (.mk x ks) = seqEnd ((css ks).filter fun y => !isAnyC y) x.val := c1_mk (by unfold nodeW; rw [if_neg (by omega), if_neg (by omega), if_pos h21])
      obtain ⟨k1, k2⟩ := cmp_norm h21 ks (fun k hk' => hk.mem k hk') hs.1 (fun k hk' => (hK k hk').1 (by have := hs.1 k hk'; simp [isSimB] at this; omega))
      obtain ⟨n1, n2⟩ := nn (by omega)
      obtain ⟨q1, q2⟩ := no (by omega) (by omega) (by omega) (by omega)
      rw [e, seqEnd_norm k2, ← k1, ST.norm, mk_eq hz h21 q1 (nk (by omega)) rfl n1 n2 q2]
    rw [if_neg h21] at hs
    by_cases h22 : x.kind = 22
    · rw [if_pos h22] at hs
      obtain ⟨a, b, rfl, ha, hb, hb22, hpa⟩ := hs
      have ha23 : a.node.kind ≠ 23 := by simp [isCpxB, isSimB] at ha; omega
      have hb23 : b.node.kind ≠ 23 := by simp [isCpxB, isSimB] at hb; omega
      have e : c1 (.mk x [a, b]) = .combined (c1 a) (combB x.op) (c1 b) := c1_mk (by
       unfold nodeW
       rw [if_neg (by omega), if_pos h22, css, css, css, cs_one ha23, cs_one hb23]; rfl)
      obtain ⟨o1, o2, o3⟩ := F.comb h22
      obtain ⟨n1, n2⟩ := nn (by omega)
      rw [e, treeOf]
      have hnode : nodeOf (.combined (c1 a) (combB x.op) (c1 b)) = x := by
       unfold nodeOf
       refine mk_eq hz h22 ?_ (nk (by omega)) ((F.val (by omega)).resolve_right (fun q => by omega)) n1 n2 o3
       have ho : x.op = 1 ∨ x.op = 2 ∨ x.op = 3 ∨ x.op = 4 := by omega
       rcases ho with ho | ho | ho | ho <;> rw [ho] <;> decide
      rw [hnode, norm_plain (by omega), norm_plain (by omega), ST.norms, ST.norms, ST.norms, ST.norms, ST.norms, ST.norms, (hK a (by simp)).1 ha23, (hK b (by simp)).1 hb23]
    rw [if_neg h22] at hs
    obtain ⟨hsim, rfl⟩ := hs
    by_cases h1 : x.kind = 1
    · rw [(sim_c1 hr hsim).1 h1]
      have e2 : (treeOf (.compound [] [])).norm = .mk anyN [] := by simp [treeOf, treesOf, ST.norm, ST.norms, nodeOf, keepT, wrapT]
      obtain ⟨n1, n2⟩ := nn (by omega)
      obtain ⟨q1, q2⟩ := no (by omega) (by omega) (by omega) (by omega)
      rw [e2, norm_plain (by omega), ST.norms, ← mk_eq hz h1 q1 (nk (by omega)) ((F.val (by omega)).resolve_right (fun q => by omega)) n1 n2 q2]
      rfl
    have e : c1 (.mk x []) = leafC x := c1_mk (by unfold nodeW; rw [if_neg (by omega), if_neg (by omega), if_neg (by omega), if_neg h18])
    rw [e, leaf_tree hsim h1, leaf_node F hz hsim h1 h18]
  have h23 : x.kind = 23 := h23
  rw [if_pos h23] at hs
  have n23 : ∀ k ∈ ks, k.node.kind ≠ 23 := fun k hk' => by
   have := hs.1 k hk'
   simp [isCpxB, isSimB] at this; omega
  obtain ⟨n1, n2⟩ := nn (by omega)
  obtain ⟨q1, q2⟩ := no (by omega) (by omega) (by omega) (by omega)
  have e : cs (.mk x ks) = css ks := by rw [cs]; unfold nodeW; rw [if_pos h23]
  rw [e, norm_plain (by decide), norm_plain (by omega), kids_norm ks n23 (fun k hk' => (hK k hk').1 (n23 k hk'))]
  rw [show grpNode = x from mk_eq hz h23 q1 (nk (by omega)) ((F.val (by omega)).resolve_right (fun q => by omega)) n1 n2 q2]
end Way
end
end Go.Proofs.YtengepcafdnalaaGreatDoor
