/-
  Parts of the proof that the law FnParseOtherwise holds for every input (texts Wf, Wg). Conditions: none.
-/
import Derived.Test.YtengepcafdnalaaGreatDoorM34
namespace Go.Proofs.YtengepcafdnalaaGreatDoor
section
namespace Way
set_option maxRecDepth 20000
theorem YY.mono {d d' : Nat} {l : List CSel} {pe t : Bs} (h : YY d l pe t) (hd : d <= d') : YY d' l pe t := ⟨h.1, fun s acc k i r l0 hk => h.2 s acc k i r l0 (by omega)⟩
theorem YX.mono {d d' : Nat} {x : CSel} {p : Bool} {t : Bs} (h : YX d x p t) (hd : d <= d') : YX d' x p t := ⟨h.1, fun s acc k i r hk => h.2 s acc k i r (by omega)⟩
theorem ZV.mono {d d' : Nat} {x : CSel} {p : Bool} {t : Bs} (h : ZV d x p t) (hd : d <= d') : ZV d' x p t := ⟨h.1, fun s acc k i r hk => h.2 s acc k i r (by omega)⟩
theorem SlS.mono {d d' : Nat} {x : CSel} {p : Bool} {t : Bs} (h : SlS d x p t) (hd : d <= d') : SlS d' x p t := ⟨h.1, fun s acc k i r hk => h.2 s acc k i r (by omega)⟩
theorem JI.mono {d d' : Nat} {l : List CSel} {p : Bool} {t : Bs} (h : JI d l p t) (hd : d <= d') : JI d' l p t := ⟨h.1, fun s acc k i r l0 hk => h.2 s acc k i r l0 (by omega)⟩
theorem QbN.mono {d d' : Nat} {l : List CSel} {p : Bool} {t : Bs} (h : QbN d l p t) (hd : d <= d') : QbN d' l p t := ⟨h.1, fun s acc k i r hk => h.2 s acc k i r (by omega)⟩
mutual
def ST.ht' : ST -> Nat
 | .mk _ ks => ST.hts' ks + 1
def ST.hts' : List ST -> Nat
 | [] => 0
 | t :: l => max (ST.ht' t) (ST.hts' l)
end
theorem QfO : ∀ {ks : List ST} {n : Nat}, ST.hts' ks <= n -> ∀ k ∈ ks, ST.ht' k <= n
 | [], _, _, k, h => by cases h
 | t :: l, n, h, k, hk => by
  rw [ST.hts'] at h
  rcases List.mem_cons.1 hk with e | e
  subst e; omega
  exact QfO (by omega) k e
mutual
def QaS : ST -> Prop
 | .mk x ks => UG x /\ Ut ks
def Ut : List ST -> Prop
 | [] => True
 | t :: l => QaS t /\ Ut l
end
theorem Ut.mem : ∀ {l : List ST}, Ut l -> ∀ t ∈ l, QaS t
 | [], _, t, h => by cases h
 | t :: l, ⟨h1, h2⟩, u, hu => by
  rcases List.mem_cons.1 hu with e | e
  subst e; exact h1
  exact Ut.mem h2 u e
def YN (T : ST) : Bool := T.flat.any Yi
def Jn (ks : List ST) : Bool := (ST.flats ks).any Yi
theorem Ui (x : SelD) (ks : List ST) : YN (.mk x ks) = (Yi x || Jn ks) := by
 unfold YN Jn
 rw [ST.flat, QB, List.any_cons]
 rfl
theorem V2 (t : ST) (l : List ST) : Jn (t :: l) = (YN t || Jn l) := by
 unfold YN Jn
 rw [ST.flats, List.any_append]
theorem Y8 : Jn [] = false := by simp [Jn, ST.flats]
theorem QeG {ks : List ST} (h : ∀ k ∈ ks, YN k = false) : Jn ks = false := by
 induction ks with
 | nil => exact Y8
 | cons t l ih => rw [V2, h t (by simp), ih (fun k hk => h k (by simp [hk]))]; rfl
theorem QcZ {x : SelD} (h : x.kind ≠ 21) : Yi x = false := by simp [Yi, h]
theorem Qch {T : ST} (hr : Yl T) (hk : Qp T.node.kind = true) : YN T = false := by
 obtain ⟨x, ks⟩ := T
 obtain ⟨hf, _, hs, _⟩ := hr
 have hk' : Qp x.kind = true := hk
 simp only [Qp, Bool.and_eq_true, decide_eq_true_eq] at hk'
 rw [Ui, QcZ (by omega)]
 unfold UB at hs
 rw [if_neg (by omega)] at hs
 by_cases h18 : x.kind = 18 \/ x.kind = 19 \/ x.kind = 20
 rw [if_pos h18] at hs
 have := hs.2
 unfold Jn; rw [this]; rfl
 rw [if_neg h18, if_neg (by omega), if_neg (by omega)] at hs
 rw [hs.2, Y8]; rfl
structure Read (n : Nat) (T : ST) : Prop where
 sim : Qp T.node.kind = true -> T.node.kind ≠ 1 -> T.node.kind ≠ 2 -> Vt n (c1 T) (wr T)
 seq : Q9 T.node.kind = true -> T.node.kind ≠ 22 -> YX n (c1 T) (YN T) (wr T)
 sel : Q9 T.node.kind = true -> ZV n (c1 T) (YN T) (wr T)
 grp : T.node.kind = 23 -> ∃ x p t l q u, SlS n x p t /\ JI n l q u /\ wr T = t ++ u /\ cs T = x :: l /\ (p || q) = YN T /\ Yf (wr T)
theorem Z3 {x : SelD} {ks : List ST} {y : CSel} (h : YC x (css ks) = [y]) : c1 (.mk x ks) = y := by
 unfold c1; rw [cs, h]; rfl
theorem Qgw {n : Nat} : ∀ (ks : List ST), (∀ k ∈ ks, ZV n (c1 k) (YN k) (wr k)) -> (∀ k ∈ ks, k.node.kind ≠ 23) ->
 JI n (css ks) (Jn ks) (((wrs ks).map Prod.snd).flatMap fun u => [44, 32] ++ u)
 | [], _, _ => by
  rw [css, Y8, wrs]
  exact JI.nil n
 | k :: ks, h, h23 => by
  have ih := Qgw ks (fun k hk => h k (by simp [hk])) (fun k hk => h23 k (by simp [hk]))
  have q := JI.cons (SlS.mk (g1 := [32]) (g2 := []) (fun c hc => by rw [List.mem_singleton.1 hc]; decide) (h k (by simp)) .nil) ih
  rw [css, YB (h23 k (by simp)), V2, wrs]
  simpa using q
def Qf4 : List ST -> Bs
 | [] => []
 | k :: ks => (if k.node.kind = 1 then [] else wr k) ++ Qf4 ks
def Y5 : List ST -> Bool
 | [] => false
 | k :: ks => decide (k.node.kind = 1) || Y5 ks
theorem Qbj : ∀ (ks : List ST) (f r : Bs), (∀ k ∈ ks, k.node.kind ≠ 2) -> (wrs ks).foldl YH (f, r) = ((if f = [] /\ Y5 ks = true then [42] else f), r ++ Qf4 ks)
 | [], f, r, _ => by simp [wrs, Y5, Qf4]
 | k :: ks, f, r, h => by
  have h2 : k.node.kind ≠ 2 := h k (by simp)
  rw [wrs, List.foldl_cons]
  unfold YH
  simp only
  rw [if_neg h2]
  by_cases h1 : k.node.kind = 1
  rw [if_pos h1]
  have := Qbj ks (if f = [] then [42] else f) r (fun k hk => h k (by simp [hk]))
  unfold YH at this
  rw [this]
  by_cases hf : f = [] <;> simp [hf, Y5, h1, Qf4]
  rw [if_neg h1]
  have := Qbj ks f (r ++ wr k) (fun k hk => h k (by simp [hk]))
  unfold YH at this
  rw [this]
  simp [Y5, h1, Qf4]
def peT (val : Bs) : Bs := if val = [] then [] else [58, 58] ++ Qs val
theorem el_w {val : Bs} (h : Uv val = true) : ElS val (58 :: 58 :: Qs val) := by
 have key : ∀ v : Bs, (((Qs v).all fun c => QO c.toNat) && QE (hd (Qs v))) = true -> Qs v = v -> low v = v -> v ∈ ZH -> (∀ G s j, ZB G s v j = some (none, v, j)) -> v ≠ [] -> ElS v (58 :: 58 :: Qs v) := by
  intro v h1 h2 h3 h4 h5 h6
  have hid : IdW v (Qs v) := by
   have := YQ h1
   rwa [h2] at this ⊢
  have q := ElS.two hid (by rw [h3]; exact h4) (by rw [h3]; exact h5) (by rw [h3]; exact h6)
  rwa [h3] at q
 simp only [Uv, Bool.or_eq_true, decide_eq_true_eq] at h
 rcases h with ((h | h) | h) | h <;> subst h <;> exact key _ (by decide) (by decide) (by decide) (by decide) (fun G s j => rfl) (by decide)
theorem Qqe {α : Type} {P : α -> Prop} {c : Prop} [Decidable c] {a b : α} (ha : P a) (hb : P b) : P (if c then a else b) := by
 by_cases h : c
 rw [if_pos h]; exact ha
 rw [if_neg h]; exact hb
theorem QnX {x : SelD} (h : Qp x.kind = true) (h1 : x.kind ≠ 1) : Zf (QM x) = false /\ Smp (QM x) := by
 simp only [Qp, Bool.and_eq_true, decide_eq_true_eq] at h
 unfold QM
 rw [if_neg h1]
 iterate 15 refine Qqe (P := fun y => Zf y = false /\ Smp y) ⟨rfl, trivial⟩ ?_
 exact ⟨rfl, trivial⟩
theorem Qbs {T : ST} (hr : Yl T) (hk : Qp T.node.kind = true) : (T.node.kind = 1 -> c1 T = .compound [] []) /\ (T.node.kind ≠ 1 -> Zf (c1 T) = false /\ Smp (c1 T)) := by
 obtain ⟨x, ks⟩ := T
 have hk' : Qp x.kind = true := hk
 have hk2 := hk'
 simp only [Qp, Bool.and_eq_true, decide_eq_true_eq] at hk'
 by_cases h18 : x.kind = 18 \/ x.kind = 19 \/ x.kind = 20
 have e : c1 (.mk x ks) = .rel (Vc.getD (x.kind - 18).toNat []) (css ks) := Z3 (by unfold YC; rw [if_neg (by omega), if_neg (by omega), if_neg (by omega), if_pos h18])
 rw [e]
 exact ⟨fun q => by have : x.kind = 1 := q; omega, fun _ => ⟨rfl, trivial⟩⟩
 have e : c1 (.mk x ks) = QM x := Z3 (by unfold YC; rw [if_neg (by omega), if_neg (by omega), if_neg (by omega), if_neg h18])
 rw [e]
 refine ⟨fun q => ?_, fun q => QnX hk2 q⟩
 have q : x.kind = 1 := q
 simp [QM, q]
theorem Qbu {n : Nat} {val : Bs} (hv : val = [] \/ Uv val = true) : ∀ (ks : List ST), (∀ k ∈ ks, Yl k) -> (∀ k ∈ ks, Qp k.node.kind = true) -> (∀ k ∈ ks, k.node.kind ≠ 2) -> (∀ k ∈ ks, Read n k) ->
 YY n ((css ks).filter fun y => !Zf y) val (Qf4 ks ++ peT val)
 | [], _, _, _, _ => by
  rw [css, Qf4]
  show YY n [] val (peT val)
  unfold peT
  by_cases h : val = []
  subst h; exact YY.nil n
  rw [if_neg h]; exact YY.el n (el_w (hv.resolve_left h))
 | k :: ks, hr, hs, h2, hR => by
  have ih := Qbu (n := n) hv ks (fun k hk => hr k (by simp [hk])) (fun k hk => hs k (by simp [hk])) (fun k hk => h2 k (by simp [hk])) (fun k hk => hR k (by simp [hk]))
  have hk := hs k (by simp)
  have h23 : k.node.kind ≠ 23 := by
   simp only [Qp, Bool.and_eq_true, decide_eq_true_eq] at hk; omega
  obtain ⟨q1, q2⟩ := Qbs (hr k (by simp)) hk
  rw [css, YB h23, List.singleton_append, Qf4]
  by_cases h1 : k.node.kind = 1
  rw [if_pos h1, q1 h1, List.filter_cons_of_neg (by simp [Zf])]
  exact ih
  rw [if_neg h1, List.filter_cons_of_pos (by simp [(q2 h1).1]), List.append_assoc]
  exact YY.cons ((hR k (by simp)).sim hk h1 (h2 k (by simp))) ih
theorem QlG {x : SelD} (hf : Fld x) (h : x.kind = 2) : IdW x.key (Qs x.key) := ZN hf.kz (hf.key (.inl h))
theorem QnJ {n : Nat} {x : SelD} {ks : List ST} (hr : Yl (.mk x ks)) (h21 : x.kind = 21) (hR : ∀ k ∈ ks, Read n k) : YX n (c1 (.mk x ks)) (YN (.mk x ks)) (wr (.mk x ks)) := by
 obtain ⟨hf, _, hs, hk⟩ := hr
 have F := fld hf
 unfold UB at hs
 rw [if_neg (by omega), if_neg (by omega), if_pos h21] at hs
 have hv : x.val = [] \/ Uv x.val = true := by
  rcases F.val (by omega) with h | h
  exact .inl h
  exact .inr h.2
 have hp : YN (.mk x ks) = !decide (x.val = []) := by
  rw [Ui, QeG fun k hk' => Qch (hk.mem k hk') (hs.1 k hk')]
  simp [Yi, h21]
 have hc : c1 (.mk x ks) = Yh ((css ks).filter fun y => !Zf y) x.val := Z3 (by unfold YC; rw [if_neg (by omega), if_neg (by omega), if_pos h21])
 have hw : wr (.mk x ks) = Qi5 x.val (wrs ks) := by
  rw [wr]; unfold ZW; rw [if_neg (by omega), if_neg (by omega), if_pos h21]
 have hce : ∀ f r, QdG x.val (f, r) = if f ++ (r ++ peT x.val) = [] then [42] else f ++ (r ++ peT x.val) := by
  intro f r
  unfold QdG peT
  by_cases h : x.val = []
  simp [h]
  simp [h]
 rw [hp, hc, hw]
 unfold Qi5
 by_cases h2 : ∀ k ∈ ks, k.node.kind ≠ 2
 have hR' := Qbu (n := n) hv ks (fun k hk' => hk.mem k hk') hs.1 h2 hR
 rw [Qbj ks [] [] h2, hce, List.nil_append]
 by_cases ha : Y5 ks = true
 rw [show (if ([] : Bs) = [] /\ Y5 ks = true then ([42] : Bs) else []) = [42] from if_pos ⟨rfl, ha⟩, if_neg (by simp)]
 exact YX.star hR'
 rw [show (if ([] : Bs) = [] /\ Y5 ks = true then ([42] : Bs) else []) = [] from if_neg (fun q => ha q.2), List.nil_append]
 by_cases he : Qf4 ks ++ peT x.val = []
 rw [if_pos he]
 rw [he] at hR'
 exact YX.star hR'
 rw [if_neg he]
 exact YX.bare hR' he
 obtain ⟨k0, rest, rfl, hk0⟩ : ∃ k0 rest, ks = k0 :: rest /\ k0.node.kind = 2 := by
  rcases ks with _ | ⟨k0, rest⟩
  exact absurd (fun k hk' => by cases hk') h2
  refine ⟨k0, rest, rfl, ?_⟩
  by_cases e : k0.node.kind = 2
  exact e
  refine absurd (fun k hk' => ?_) h2
  rcases List.mem_cons.1 hk' with q | q
  subst q; exact e
  exact hs.2 k q
 have hrest : ∀ k ∈ rest, k.node.kind ≠ 2 := hs.2
 have hR' := Qbu (n := n) hv rest (fun k hk' => hk.mem k (by simp [hk'])) (fun k hk' => hs.1 k (by simp [hk'])) hrest (fun k hk' => hR k (by simp [hk']))
 obtain ⟨y, ys⟩ := k0
 have hk0' : y.kind = 2 := hk0
 have hy : Yl (.mk y ys) := hk.mem _ (by simp)
 have Fy := fld hy.1
 have hid := QlG Fy hk0'
 have hwk : wr (.mk y ys) = Qs y.key := by
  rw [wr]; unfold ZW Qq
  rw [if_neg (by omega), if_neg (by omega), if_neg (by omega), if_neg (by omega), if_neg (by omega), if_pos hk0']
 have hck : cs (.mk y ys) = [.tag y.key] := by
  rw [cs]; unfold YC QM
  rw [if_neg (by omega), if_neg (by omega), if_neg (by omega), if_neg (by omega), if_neg (by omega), if_pos hk0']
 have q := YX.tag hid hR'
 rw [Fy.low] at q
 rw [wrs, List.foldl_cons]
 have hst : YH ([], []) ((ST.mk y ys).node.kind, wr (.mk y ys)) = (Qs y.key, []) := by
  unfold YH; simp only [hk0, if_true, hwk]
 rw [hst, Qbj rest _ _ hrest, if_neg (fun q => hid.head.1 q.1), hce, List.nil_append, if_neg (by simp [hid.head.1]), css, hck]
 exact q
theorem QdW : WsL [32] := fun c hc => by rw [List.mem_singleton.1 hc]; decide
theorem QkW {n m : Nat} {T : ST} (h : Read n T) (hn : n <= m) : Read m T where
 sim := fun a b c => (h.sim a b c).mono hn
 seq := fun a b => (h.seq a b).mono hn
 sel := fun a => (h.sel a).mono hn
 grp := fun a => by
  obtain ⟨x, p, t, l, q, u, h1, h2, h3⟩ := h.grp a
  exact ⟨x, p, t, l, q, u, h1.mono hn, h2.mono hn, h3⟩
theorem QgT : ∀ (n : Nat) (T : ST), ST.ht' T <= n -> Yl T -> QaS T -> Read n T
 | 0, .mk x ks, h, _, _ => by simp [ST.ht'] at h
 | n + 1, .mk x ks, h, hr, hsm => by
  rw [ST.ht'] at h
  have hht := QfO (ks := ks) (n := n) (by omega)
  have hr' := hr
  obtain ⟨hf, hz, hs, hk⟩ := hr'
  have hsm' := hsm
  obtain ⟨hsx, hsk⟩ := hsm'
  have F := fld hf
  have hK : ∀ k ∈ ks, Read n k := fun k hk' => QgT n k (hht k hk') (hk.mem k hk') (hsk.mem k hk')
  have hK' : ∀ k ∈ ks, Read (n + 1) k := fun k hk' => QkW (hK k hk') (by omega)
  have sim : Qp x.kind = true -> x.kind ≠ 1 -> x.kind ≠ 2 -> Vt (n + 1) (c1 (.mk x ks)) (wr (.mk x ks)) := by
   intro h0 h1 h2
   have h0' := h0
   simp only [Qp, Bool.and_eq_true, decide_eq_true_eq] at h0'
   by_cases h18 : x.kind = 18 \/ x.kind = 19 \/ x.kind = 20
   have e : c1 (.mk x ks) = .rel (Vc.getD (x.kind - 18).toNat []) (css ks) := Z3 (by unfold YC; rw [if_neg (by omega), if_neg (by omega), if_neg (by omega), if_pos h18])
   unfold UB at hs
   rw [if_neg (by omega), if_pos h18] at hs
   obtain ⟨⟨g, rfl, hg⟩, hps⟩ := hs
   obtain ⟨y, p, t, l, q, u, g1, g2, g3, g4, g5, g6⟩ := (hK g (by simp)).grp hg
   have hpg : YN g = false := by
    have : Jn [g] = false := hps
    rw [V2, Y8, Bool.or_false] at this
    exact this
   have hG := QbN.mk g1 g2
   rw [g5, hpg, <- g3, <- g4] at hG
   have ec : css [g] = cs g := by rw [css, css, List.append_nil]
   have ew : wr (.mk x [g]) = 58 :: (Vc.getD (x.kind - 18).toNat [] ++ (40 :: ([] ++ (wr g ++ [41])))) := by
    rw [wr]; unfold ZW
    rw [if_neg (by omega), if_neg (by omega), if_neg (by omega), if_pos h18, wrs]
    rfl
   rw [e, ec, ew]
   have hnm : ∀ m : Fin 3, (((Vc.getD m.val []).all fun c => QO c.toNat) && QE (hd (Vc.getD m.val []))) = true /\ low (Vc.getD m.val []) = Vc.getD m.val [] /\ (Vc.getD m.val [] = UQ \/ Vc.getD m.val [] = UR \/ Vc.getD m.val [] = Vv) := by decide
   obtain ⟨m, hm⟩ : ∃ m : Fin 3, (x.kind - 18).toNat = m.val := ⟨⟨(x.kind - 18).toNat, by omega⟩, rfl⟩
   rw [hm]
   exact Vt.rel (YQ (hnm m).1) (hnm m).2.1 (hnm m).2.2 .nil hG g6
   have e : c1 (.mk x ks) = QM x := Z3 (by unfold YC; rw [if_neg (by omega), if_neg (by omega), if_neg (by omega), if_neg h18])
   have ew : wr (.mk x ks) = Qq x := by
    rw [wr]; unfold ZW
    rw [if_neg (by omega), if_neg (by omega), if_neg (by omega), if_neg h18]
   rw [e, ew]
   exact (QrW F hsx h0 h1 h2 h18).mono (by omega)
  have seq : Q9 x.kind = true -> x.kind ≠ 22 -> YX (n + 1) (c1 (.mk x ks)) (YN (.mk x ks)) (wr (.mk x ks)) := by
   intro h0 h22
   by_cases h21 : x.kind = 21
   exact QnJ hr h21 hK'
   have h0s : Qp x.kind = true := by simpa [Q9, h21, h22] using h0
   rw [Qch hr h0s]
   by_cases h1 : x.kind = 1
   have e : c1 (.mk x ks) = .compound [] [] := (Qbs hr h0s).1 h1
   have ew : wr (.mk x ks) = [42] := by
    rw [wr]; unfold ZW Qq
    rw [if_neg (by omega), if_neg (by omega), if_neg (by omega), if_neg (by omega), if_pos h1]
   rw [e, ew]
   exact YX.star (YY.nil (n + 1))
   by_cases h2 : x.kind = 2
   have e : c1 (.mk x ks) = .tag x.key := Z3 (by unfold YC QM; rw [if_neg (by omega), if_neg (by omega), if_neg (by omega), if_neg (by omega), if_neg (by omega), if_pos h2])
   have ew : wr (.mk x ks) = Qs x.key := by
    rw [wr]; unfold ZW Qq
    rw [if_neg (by omega), if_neg (by omega), if_neg (by omega), if_neg (by omega), if_neg (by omega), if_pos h2]
   have q := YX.tag (QlG F h2) (YY.nil (n + 1))
   rw [F.low, List.append_nil] at q
   rw [e, ew]
   exact q
   have hS := sim h0s h1 h2
   have q := YX.bare (YY.cons hS (YY.nil (n + 1))) (by simp [UI hS.1])
   rw [List.append_nil] at q
   exact q
  refine { sim := sim, seq := seq, sel := fun h0 => ?_, grp := fun h23 => ?_ }
  by_cases h22 : x.kind = 22
  unfold UB at hs
  rw [if_neg (by omega), if_neg (by omega), if_neg (by omega), if_pos h22] at hs
  obtain ⟨a, b, rfl, ha, hb, hb22, hpa⟩ := hs
  have ha23 : a.node.kind ≠ 23 := by simp [Q9, Qp] at ha; omega
  have hb23 : b.node.kind ≠ 23 := by simp [Q9, Qp] at hb; omega
  have hA := (hK' a (by simp)).sel ha
  have hB := (hK' b (by simp)).seq hb hb22
  rw [show YN a = false from hpa] at hA
  have e : c1 (.mk x [a, b]) = .combined (c1 a) (QeS x.op) (c1 b) := Z3 (by
   unfold YC
   rw [if_neg (by omega), if_pos h22, css, css, css, YB ha23, YB hb23]; rfl)
  have ep : YN (.mk x [a, b]) = YN b := by
   rw [Ui, QcZ (by omega), V2, V2, Y8, show YN a = false from hpa]; simp
  have ew : wr (.mk x [a, b]) = wr a ++ (Qf3.getD x.op.toNat [] ++ wr b) := by
   rw [wr]; unfold ZW
   rw [if_neg (by omega), if_pos h22, wrs, wrs]
   simp
  obtain ⟨o1, o2, _⟩ := F.comb h22
  have ho : x.op = 1 \/ x.op = 2 \/ x.op = 3 \/ x.op = 4 := by omega
  show ZV (n + 1) (c1 (.mk x [a, b])) (YN (.mk x [a, b])) (wr (.mk x [a, b]))
  rw [e, ep, ew]
  rcases ho with ho | ho | ho | ho
  rw [ho]; exact ZV.desc hA QdW (g := [32]) (by simp) hB
  rw [ho]; exact ZV.comb hA (g1 := [32]) (g2 := [32]) QdW (c := 62) (by decide) QdW hB
  rw [ho]; exact ZV.comb hA (g1 := [32]) (g2 := [32]) QdW (c := 43) (by decide) QdW hB
  rw [ho]; exact ZV.comb hA (g1 := [32]) (g2 := [32]) QdW (c := 126) (by decide) QdW hB
  exact ZV.one (seq h0 h22)
  have h23' : x.kind = 23 := h23
  unfold UB at hs
  rw [if_pos h23'] at hs
  obtain ⟨hs1, hs2⟩ := hs
  obtain ⟨k0, rest, rfl⟩ := List.exists_cons_of_ne_nil hs2
  have n23 : ∀ k ∈ k0 :: rest, k.node.kind ≠ 23 := fun k hk' => by
   have := hs1 k hk'
   simp [Q9, Qp] at this; omega
  have hS0 := (hK' k0 (by simp)).sel (hs1 k0 (by simp))
  have hT := Qgw (n := n + 1) rest (fun k hk' => (hK' k (by simp [hk'])).sel (hs1 k (by simp [hk']))) (fun k hk' => n23 k (by simp [hk']))
  have hS1 := SlS.mk (g1 := []) (g2 := []) .nil hS0 .nil
  rw [List.nil_append, List.append_nil] at hS1
  have ew : wr (.mk x (k0 :: rest)) = wr k0 ++ (((wrs rest).map Prod.snd).flatMap fun u => [44, 32] ++ u) := by
   rw [wr]; unfold ZW
   rw [if_pos h23', wrs]
   rfl
  refine ⟨c1 k0, YN k0, wr k0, css rest, Jn rest, _, hS1, hT, ew, ?_, ?_, ?_⟩
  rw [cs]; unfold YC
  rw [if_pos h23', css, YB (n23 k0 (by simp))]; rfl
  rw [Ui, QcZ (by omega), V2]; rfl
  rw [ew]; exact hS0.1.stop
end Way
end
section
namespace Way
set_option maxRecDepth 20000
theorem US {x : SelD} {k o a b f : Int} {ke va : Bs} (h0 : x.size = 0) (h1 : x.kind = k) (h2 : x.op = o) (h3 : x.key = ke) (h4 : x.val = va) (h5 : x.a = a) (h6 : x.b = b) (h7 : x.flag = f) : (⟨k, o, ke, va, a, b, f, 0⟩ : SelD) = x := by
 obtain ⟨_, _, _, _, _, _, _, _⟩ := x
 simp only at h0 h1 h2 h3 h4 h5 h6 h7
 subst h0 h1 h2 h3 h4 h5 h6 h7
 rfl
theorem Yz {x : SelD} {ks : List ST} (h : x.kind ≠ 21) : (ST.mk x ks).norm = .mk x (ST.norms ks) := by
 rw [ST.norm]; unfold JJ Ze
 rw [if_neg (fun q => h q.1), if_neg h]
theorem Qk9 {x : SelD} (h : Qp x.kind = true) (h1 : x.kind ≠ 1) : QS (QM x) = .mk (Q4 (QM x)) [] := by
 simp only [Qp, Bool.and_eq_true, decide_eq_true_eq] at h
 unfold QM
 rw [if_neg h1]
 iterate 15 refine Qqe (P := fun y => QS y = .mk (Q4 y) []) (by simp [QS]) ?_
 simp [QS]
theorem Qla {x : SelD} (F : Fld x) (hz : x.size = 0) (h : Qp x.kind = true) (h1 : x.kind ≠ 1) (hr : ¬ (x.kind = 18 \/ x.kind = 19 \/ x.kind = 20)) : Q4 (QM x) = x := by
 simp only [Qp, Bool.and_eq_true, decide_eq_true_eq] at h
 have hcases : x.kind = 2 \/ x.kind = 3 \/ x.kind = 4 \/ x.kind = 5 \/ x.kind = 6 \/ x.kind = 7 \/ x.kind = 8 \/ x.kind = 9 \/ x.kind = 10 \/ x.kind = 11 \/ x.kind = 12 \/ x.kind = 13 \/ x.kind = 14 \/ x.kind = 15 \/ x.kind = 16 \/ x.kind = 17 := by omega
 have nk : ¬ (x.kind = 2 \/ x.kind = 5) -> x.key = [] := F.nokey
 have nv : ¬ (x.kind = 3 \/ x.kind = 4 \/ x.kind = 15 \/ (x.kind = 5 /\ x.op ≠ 1) \/ x.kind = 16 \/ x.kind = 17) -> x.val = [] := fun q => (F.val q).resolve_right (fun q => by omega)
 have nn := F.num
 have no := F.other
 rcases hcases with e | e | e | e | e | e | e | e | e | e | e | e | e | e | e | e
 case inr.inr.inr.inl =>
  obtain ⟨o1, o2, o3, _⟩ := F.attr e
  have hl : QM x = .attr x.key x.val (Vz.getD x.op.toNat []) (decide (x.flag = 1)) := by
   unfold QM
   rw [if_neg (by omega), if_neg (by omega), if_neg (by omega), if_neg (by omega), if_pos e]
  obtain ⟨n1, n2⟩ := nn (by omega)
  rw [hl]
  unfold Q4
  refine US hz e ?_ rfl rfl n1 n2 ?_
  obtain ⟨m, hm⟩ : ∃ m : Fin 9, x.op.toNat = m.val := ⟨⟨x.op.toNat, by omega⟩, rfl⟩
  have : ∀ m : Fin 9, 1 <= m.val -> Zc ([] :: attrSigns) (Vz.getD m.val []) = (m.val : Int) := by decide
  rw [hm, this m (by omega)]; omega
  rcases o3 with q | q <;> rw [q] <;> rfl
 case inr.inr.inr.inr.inl =>
  obtain ⟨o1, o2, o3⟩ := F.nth e
  have hl : QM x = .nth x.a x.b (decide (x.flag = 1 \/ x.flag = 3)) (decide (x.flag = 2 \/ x.flag = 3)) := by
   unfold QM
   rw [if_neg (by omega), if_neg (by omega), if_neg (by omega), if_neg (by omega), if_neg (by omega), if_pos e]
  rw [hl]
  unfold Q4
  refine US hz e o1 (nk (by omega)) (nv (by omega)) rfl rfl ?_
  have h4 : x.flag = 0 \/ x.flag = 1 \/ x.flag = 2 \/ x.flag = 3 := by omega
  rcases h4 with q | q | q | q <;> rw [q] <;> rfl
 case inr.inr.inr.inr.inr.inl =>
  obtain ⟨o1, o2⟩ := F.only e
  have hl : QM x = .only (decide (x.flag = 2)) := by
   unfold QM
   rw [if_neg (by omega), if_neg (by omega), if_neg (by omega), if_neg (by omega), if_neg (by omega), if_neg (by omega), if_pos e]
  obtain ⟨n1, n2⟩ := nn (by omega)
  rw [hl]
  unfold Q4
  refine US hz e o1 (nk (by omega)) (nv (by omega)) n1 n2 ?_
  rcases o2 with q | q <;> rw [q] <;> rfl
 all_goals
  obtain ⟨n1, n2⟩ := nn (by omega)
  obtain ⟨q1, q2⟩ := no (by omega) (by omega) (by omega) (by omega)
  simp only [QM, e]
  first
   | exact US hz e q1 rfl (nv (by omega)) n1 n2 q2
   | exact US hz e q1 (nk (by omega)) rfl n1 n2 q2
   | exact US hz e q1 (nk (by omega)) (nv (by omega)) n1 n2 q2
theorem QgI {l : List CSel} {pe : Bs} (hs : ∀ y ∈ l, Smp y) : (QS (Yh l pe)).norm = JJ ⟨21, 0, [], pe, 0, 0, 0, 0⟩ (ST.norms (QZ l)) := by
 have hc : (QS (.compound l pe)).norm = JJ ⟨21, 0, [], pe, 0, 0, 0, 0⟩ (Ze ⟨21, 0, [], pe, 0, 0, 0, 0⟩ (ST.norms (QZ l))) := by
  rw [QS, ST.norm, Q4]
 unfold Yh
 split
 rename_i x
 simp [QZ, ST.norms, JJ]
 rw [hc, Qex hs]
theorem Qew : ∀ (ks : List ST), (∀ k ∈ ks, k.node.kind ≠ 23) -> (∀ k ∈ ks, (QS (c1 k)).norm = k.norm) -> ST.norms (QZ (css ks)) = ST.norms ks
 | [], _, _ => by simp [css, QZ, ST.norms]
 | k :: ks, h, hn => by
  rw [css, YB (h k (by simp)), List.singleton_append, QZ, ST.norms, ST.norms, hn k (by simp), Qew ks (fun k hk => h k (by simp [hk])) (fun k hk => hn k (by simp [hk]))]
theorem QhH {x : SelD} (h21 : x.kind = 21) : ∀ (ks : List ST), (∀ k ∈ ks, Yl k) -> (∀ k ∈ ks, Qp k.node.kind = true) -> (∀ k ∈ ks, (QS (c1 k)).norm = k.norm) ->
 Ze x (ST.norms ks) = ST.norms (QZ ((css ks).filter fun y => !Zf y)) /\ ∀ y ∈ (css ks).filter (fun y => !Zf y), Smp y
 | [], _, _, _ => by simp [css, QZ, ST.norms, Ze]
 | k :: ks, hr, hs, hn => by
  obtain ⟨ih1, ih2⟩ := QhH h21 ks (fun k hk => hr k (by simp [hk])) (fun k hk => hs k (by simp [hk])) (fun k hk => hn k (by simp [hk]))
  have hk := hs k (by simp)
  have h23 : k.node.kind ≠ 23 := by
   simp only [Qp, Bool.and_eq_true, decide_eq_true_eq] at hk; omega
  obtain ⟨q1, q2⟩ := Qbs (hr k (by simp)) hk
  unfold Ze at ih1 ⊢
  rw [if_pos h21] at ih1 ⊢
  rw [css, YB h23, List.singleton_append, ST.norms]
  by_cases h1 : k.node.kind = 1
  have e := hn k (by simp)
  rw [q1 h1] at e
  have e2 : (QS (.compound [] [])).norm = .mk QnY [] := by simp [QS, QZ, ST.norm, ST.norms, Q4, Ze, JJ]
  rw [e2] at e
  rw [q1 h1, List.filter_cons_of_neg (by rw [<- e]; simp [QbD, ST.node, QnY]), List.filter_cons_of_neg (by simp [Zf])]
  exact ⟨ih1, ih2⟩
  have hsm := (q2 h1).2
  rw [List.filter_cons_of_pos (by rw [<- hn k (by simp)]; simp [QgD hsm]), List.filter_cons_of_pos (by simp [(q2 h1).1]), QZ, ST.norms, hn k (by simp), ih1]
  refine ⟨rfl, fun y hy => ?_⟩
  rcases List.mem_cons.1 hy with q | q
  subst q; exact hsm
  exact ih2 y q
theorem Qg6 : ∀ (n : Nat) (T : ST), ST.ht' T <= n -> Yl T -> (T.node.kind ≠ 23 -> (QS (c1 T)).norm = T.norm) /\ (T.node.kind = 23 -> (ST.mk Vg (QZ (cs T))).norm = T.norm)
 | 0, .mk x ks, h, _ => by simp [ST.ht'] at h
 | n + 1, .mk x ks, h, hr => by
  rw [ST.ht'] at h
  have hht := QfO (ks := ks) (n := n) (by omega)
  obtain ⟨hf, hz, hs, hk⟩ := hr
  have hr : Yl (.mk x ks) := ⟨hf, hz, hs, hk⟩
  have F := fld hf
  have hK := fun k (hk' : k ∈ ks) => Qg6 n k (hht k hk') (hk.mem k hk')
  have nk : ¬ (x.kind = 2 \/ x.kind = 5) -> x.key = [] := F.nokey
  have nn := F.num
  have no := F.other
  unfold UB at hs
  refine ⟨fun h23 => ?_, fun h23 => ?_⟩
  have h23 : x.kind ≠ 23 := h23
  rw [if_neg h23] at hs
  by_cases h18 : x.kind = 18 \/ x.kind = 19 \/ x.kind = 20
  rw [if_pos h18] at hs
  obtain ⟨⟨g, rfl, hg⟩, _⟩ := hs
  have e : c1 (.mk x [g]) = .rel (Vc.getD (x.kind - 18).toNat []) (cs g) := Z3 (by
   unfold YC; rw [if_neg (by omega), if_neg (by omega), if_neg (by omega), if_pos h18, css, css, List.append_nil])
  rw [e, QS]
  have hnode : Q4 (.rel (Vc.getD (x.kind - 18).toNat []) (cs g)) = x := by
   unfold Q4
   obtain ⟨n1, n2⟩ := nn (by omega)
   obtain ⟨q1, q2⟩ := no (by omega) (by omega) (by omega) (by omega)
   refine US hz ?_ q1 (nk (by omega)) ((F.val (by omega)).resolve_right (fun q => by omega)) n1 n2 q2
   rcases h18 with q | q | q <;> rw [q] <;> decide
  rw [hnode, Yz (by omega), Yz (by omega), ST.norms, ST.norms, ST.norms, ST.norms, (hK g (by simp)).2 hg]
  rw [if_neg h18] at hs
  by_cases h21 : x.kind = 21
  rw [if_pos h21] at hs
  have e : c1 (.mk x ks) = Yh ((css ks).filter fun y => !Zf y) x.val := Z3 (by unfold YC; rw [if_neg (by omega), if_neg (by omega), if_pos h21])
  obtain ⟨k1, k2⟩ := QhH h21 ks (fun k hk' => hk.mem k hk') hs.1 (fun k hk' => (hK k hk').1 (by have := hs.1 k hk'; simp [Qp] at this; omega))
  obtain ⟨n1, n2⟩ := nn (by omega)
  obtain ⟨q1, q2⟩ := no (by omega) (by omega) (by omega) (by omega)
  rw [e, QgI k2, <- k1, ST.norm, US hz h21 q1 (nk (by omega)) rfl n1 n2 q2]
  rw [if_neg h21] at hs
  by_cases h22 : x.kind = 22
  rw [if_pos h22] at hs
  obtain ⟨a, b, rfl, ha, hb, hb22, hpa⟩ := hs
  have ha23 : a.node.kind ≠ 23 := by simp [Q9, Qp] at ha; omega
  have hb23 : b.node.kind ≠ 23 := by simp [Q9, Qp] at hb; omega
  have e : c1 (.mk x [a, b]) = .combined (c1 a) (QeS x.op) (c1 b) := Z3 (by
   unfold YC
   rw [if_neg (by omega), if_pos h22, css, css, css, YB ha23, YB hb23]; rfl)
  obtain ⟨o1, o2, o3⟩ := F.comb h22
  obtain ⟨n1, n2⟩ := nn (by omega)
  rw [e, QS]
  have hnode : Q4 (.combined (c1 a) (QeS x.op) (c1 b)) = x := by
   unfold Q4
   refine US hz h22 ?_ (nk (by omega)) ((F.val (by omega)).resolve_right (fun q => by omega)) n1 n2 o3
   have ho : x.op = 1 \/ x.op = 2 \/ x.op = 3 \/ x.op = 4 := by omega
   rcases ho with ho | ho | ho | ho <;> rw [ho] <;> decide
  rw [hnode, Yz (by omega), Yz (by omega), ST.norms, ST.norms, ST.norms, ST.norms, ST.norms, ST.norms, (hK a (by simp)).1 ha23, (hK b (by simp)).1 hb23]
  rw [if_neg h22] at hs
  obtain ⟨hsim, rfl⟩ := hs
  by_cases h1 : x.kind = 1
  rw [(Qbs hr hsim).1 h1]
  have e2 : (QS (.compound [] [])).norm = .mk QnY [] := by simp [QS, QZ, ST.norm, ST.norms, Q4, Ze, JJ]
  obtain ⟨n1, n2⟩ := nn (by omega)
  obtain ⟨q1, q2⟩ := no (by omega) (by omega) (by omega) (by omega)
  rw [e2, Yz (by omega), ST.norms, <- US hz h1 q1 (nk (by omega)) ((F.val (by omega)).resolve_right (fun q => by omega)) n1 n2 q2]
  rfl
  have e : c1 (.mk x []) = QM x := Z3 (by unfold YC; rw [if_neg (by omega), if_neg (by omega), if_neg (by omega), if_neg h18])
  rw [e, Qk9 hsim h1, Qla F hz hsim h1 h18]
  have h23 : x.kind = 23 := h23
  rw [if_pos h23] at hs
  have n23 : ∀ k ∈ ks, k.node.kind ≠ 23 := fun k hk' => by
   have := hs.1 k hk'
   simp [Q9, Qp] at this; omega
  obtain ⟨n1, n2⟩ := nn (by omega)
  obtain ⟨q1, q2⟩ := no (by omega) (by omega) (by omega) (by omega)
  have e : cs (.mk x ks) = css ks := by rw [cs]; unfold YC; rw [if_pos h23]
  rw [e, Yz (by decide), Yz (by omega), Qew ks n23 (fun k hk' => (hK k hk').1 (n23 k hk'))]
  rw [show Vg = x from US hz h23 q1 (nk (by omega)) ((F.val (by omega)).resolve_right (fun q => by omega)) n1 n2 q2]
end Way
end
end Go.Proofs.YtengepcafdnalaaGreatDoor
