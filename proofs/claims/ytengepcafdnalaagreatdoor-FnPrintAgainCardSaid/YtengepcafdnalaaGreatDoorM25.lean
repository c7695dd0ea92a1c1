/-
  Parts of the proof that the law FnPrintAgain holds for every input (texts Wf, Wg). Conditions: none.
-/
import Derived.Test.YtengepcafdnalaaGreatDoorM24
namespace Go.Proofs.YtengepcafdnalaaGreatDoor
open _root_.Bool renaming and_eq_true → zh, or_eq_true → zw
open _root_.List renaming mem_cons → zz, mem_singleton → zQ, foldl_cons → zR, singleton_append → zT, filter_cons_of_neg → xn, append_assoc → zo, nil_append → zI, append_nil → zC, exists_cons_of_ne_nil → zB
section
namespace Way
set_option maxRecDepth 20000
theorem Yi.mono {d d' : Nat} {l : List CSel} {pe t : Bs} (h : Yi d l pe t) (hd : d <= d') : Yi d' l pe t := ⟨h.1, fun s acc k i r l0 hk => h.2 s acc k i r l0 (by omega)⟩
theorem Ya.mono {d d' : Nat} {x : CSel} {p : Bool} {t : Bs} (h : Ya d x p t) (hd : d <= d') : Ya d' x p t := ⟨h.1, fun s acc k i r hk => h.2 s acc k i r (by omega)⟩
theorem Yq.mono {d d' : Nat} {x : CSel} {p : Bool} {t : Bs} (h : Yq d x p t) (hd : d <= d') : Yq d' x p t := ⟨h.1, fun s acc k i r hk => h.2 s acc k i r (by omega)⟩
theorem SlS.mono {d d' : Nat} {x : CSel} {p : Bool} {t : Bs} (h : SlS d x p t) (hd : d <= d') : SlS d' x p t := ⟨h.1, fun s acc k i r hk => h.2 s acc k i r (by omega)⟩
theorem Z7.mono {d d' : Nat} {l : List CSel} {p : Bool} {t : Bs} (h : Z7 d l p t) (hd : d <= d') : Z7 d' l p t := ⟨h.1, fun s acc k i r l0 hk => h.2 s acc k i r l0 (by omega)⟩
theorem QaW.mono {d d' : Nat} {l : List CSel} {p : Bool} {t : Bs} (h : QaW d l p t) (hd : d <= d') : QaW d' l p t := ⟨h.1, fun s acc k i r hk => h.2 s acc k i r (by omega)⟩
mutual
def ST.ht' : ST -> Nat
 | .mk _ ks => ST.hts' ks + 1
def ST.hts' : List ST -> Nat
 | [] => 0
 | t :: l => max (ST.ht' t) (ST.hts' l)
end
theorem QcB : ∀ {ks : List ST} {n : Nat}, ST.hts' ks <= n -> ∀ k ∈ ks, ST.ht' k <= n
 | [], _, _, k, h => by cases h
 | t :: l, n, h, k, hk => by
  rw [ST.hts'] at h
  rcases zz.1 hk with e | e
  subst e; omega
  exact QcB (by omega) k e
mutual
def Ux : ST -> Prop
 | .mk x ks => Ua x /\ Uw ks
def Uw : List ST -> Prop
 | [] => True
 | t :: l => Ux t /\ Uw l
end
theorem Uw.mem : ∀ {l : List ST}, Uw l -> ∀ t ∈ l, Ux t
 | [], _, t, h => by cases h
 | t :: l, ⟨h1, h2⟩, u, hu => by
  rcases zz.1 hu with e | e
  subst e; exact h1
  exact Uw.mem h2 u e
def V8 (T : ST) : Bool := T.flat.any V7
def ZN (ks : List ST) : Bool := (ST.flats ks).any V7
theorem ZB (x : SelD) (ks : List ST) : V8 (.mk x ks) = (V7 x || ZN ks) := by
 unfold V8 ZN
 rw [ST.flat, QT, List.any_cons]
 rfl
theorem Vw (t : ST) (l : List ST) : ZN (t :: l) = (V8 t || ZN l) := by
 unfold V8 ZN
 rw [ST.flats, List.any_append]
theorem Yn : ZN [] = false := by simp [ZN, ST.flats]
theorem QbH {ks : List ST} (h : ∀ k ∈ ks, V8 k = false) : ZN ks = false := by
 induction ks with
 | nil => exact Yn
 | cons t l ih => rw [Vw, h t (by simp), ih (fun k hk => h k (by simp [hk]))]; rfl
theorem QaK {x : SelD} (h : x.kind ≠ 21) : V7 x = false := by simp [V7, h]
theorem Ub {T : ST} (hr : VX T) (hk : Qo T.node.kind = true) : V8 T = false := by
 obtain ⟨x, ks⟩ := T
 obtain ⟨hf, _, hs, _⟩ := hr
 have hk' : Qo x.kind = true := hk
 simp only [Qo, zh, decide_eq_true_eq] at hk'
 rw [ZB, QaK (by omega)]
 unfold Je at hs
 rw [if_neg (by omega)] at hs
 by_cases h18 : x.kind = 18 \/ x.kind = 19 \/ x.kind = 20
 rw [if_pos h18] at hs
 have := hs.2
 unfold ZN; rw [this]; rfl
 rw [if_neg h18, if_neg (by omega), if_neg (by omega)] at hs
 rw [hs.2, Yn]; rfl
structure Read (n : Nat) (T : ST) : Prop where
 sim : Qo T.node.kind = true -> T.node.kind ≠ 1 -> T.node.kind ≠ 2 -> Q6 n (c1 T) (wr T)
 seq : QI T.node.kind = true -> T.node.kind ≠ 22 -> Ya n (c1 T) (V8 T) (wr T)
 sel : QI T.node.kind = true -> Yq n (c1 T) (V8 T) (wr T)
 grp : T.node.kind = 23 -> ∃ x p t l q u, SlS n x p t /\ Z7 n l q u /\ wr T = t ++ u /\ cs T = x :: l /\ (p || q) = V8 T /\ V6 (wr T)
theorem YU {x : SelD} {ks : List ST} {y : CSel} (h : VY x (css ks) = [y]) : c1 (.mk x ks) = y := by
 unfold c1; rw [cs, h]; rfl
theorem QgF {n : Nat} : ∀ (ks : List ST), (∀ k ∈ ks, Yq n (c1 k) (V8 k) (wr k)) -> (∀ k ∈ ks, k.node.kind ≠ 23) ->
 Z7 n (css ks) (ZN ks) (((wrs ks).map Prod.snd).flatMap fun u => [44, 32] ++ u)
 | [], _, _ => by
  rw [css, Yn, wrs]
  exact Z7.nil n
 | k :: ks, h, h23 => by
  have ih := QgF ks (fun k hk => h k (by simp [hk])) (fun k hk => h23 k (by simp [hk]))
  have q := Z7.cons (SlS.mk (g1 := [32]) (g2 := []) (fun c hc => by rw [zQ.1 hc]; decide) (h k (by simp)) .nil) ih
  rw [css, VG (h23 k (by simp)), Vw, wrs]
  simpa using q
def Qgl : List ST -> Bs
 | [] => []
 | k :: ks => (if k.node.kind = 1 then [] else wr k) ++ Qgl ks
def YZ : List ST -> Bool
 | [] => false
 | k :: ks => decide (k.node.kind = 1) || YZ ks
theorem Qbn : ∀ (ks : List ST) (f r : Bs), (∀ k ∈ ks, k.node.kind ≠ 2) -> (wrs ks).foldl Vu (f, r) = ((if f = [] /\ YZ ks = true then [42] else f), r ++ Qgl ks)
 | [], f, r, _ => by simp [wrs, YZ, Qgl]
 | k :: ks, f, r, h => by
  have h2 : k.node.kind ≠ 2 := h k (by simp)
  rw [wrs, zR]
  unfold Vu
  simp only
  rw [if_neg h2]
  by_cases h1 : k.node.kind = 1
  rw [if_pos h1]
  have := Qbn ks (if f = [] then [42] else f) r (fun k hk => h k (by simp [hk]))
  unfold Vu at this
  rw [this]
  by_cases hf : f = [] <;> simp [hf, YZ, h1, Qgl]
  rw [if_neg h1]
  have := Qbn ks f (r ++ wr k) (fun k hk => h k (by simp [hk]))
  unfold Vu at this
  rw [this]
  simp [YZ, h1, Qgl]
def peT (val : Bs) : Bs := if val = [] then [] else [58, 58] ++ Qr val
theorem el_w {val : Bs} (h : JC val = true) : ElS val (58 :: 58 :: Qr val) := by
 have key : ∀ v : Bs, (((Qr v).all fun c => QG c.toNat) && QA (hd (Qr v))) = true -> Qr v = v -> low v = v -> v ∈ elNames -> (∀ G s j, Y9 G s v j = some (none, v, j)) -> v ≠ [] -> ElS v (58 :: 58 :: Qr v) := by
  intro v h1 h2 h3 h4 h5 h6
  have hid : IdW v (Qr v) := by
   have := Vt h1
   rwa [h2] at this ⊢
  have q := ElS.two hid (by rw [h3]; exact h4) (by rw [h3]; exact h5) (by rw [h3]; exact h6)
  rwa [h3] at q
 simp only [JC, zw, decide_eq_true_eq] at h
 rcases h with ((h | h) | h) | h <;> subst h <;> exact key _ (by decide) (by decide) (by decide) (by decide) (fun G s j => rfl) (by decide)
theorem Qnu {α : Type} {P : α -> Prop} {c : Prop} [Decidable c] {a b : α} (ha : P a) (hb : P b) : P (if c then a else b) := by
 by_cases h : c
 rw [if_pos h]; exact ha
 rw [if_neg h]; exact hb
theorem Qic {x : SelD} (h : Qo x.kind = true) (h1 : x.kind ≠ 1) : Yw (Qx x) = false /\ Smp (Qx x) := by
 simp only [Qo, zh, decide_eq_true_eq] at h
 unfold Qx
 rw [if_neg h1]
 iterate 15 refine Qnu (P := fun y => Yw y = false /\ Smp y) ⟨rfl, trivial⟩ ?_
 exact ⟨rfl, trivial⟩
theorem UM {T : ST} (hr : VX T) (hk : Qo T.node.kind = true) : (T.node.kind = 1 -> c1 T = .compound [] []) /\ (T.node.kind ≠ 1 -> Yw (c1 T) = false /\ Smp (c1 T)) := by
 obtain ⟨x, ks⟩ := T
 have hk' : Qo x.kind = true := hk
 have hk2 := hk'
 simp only [Qo, zh, decide_eq_true_eq] at hk'
 by_cases h18 : x.kind = 18 \/ x.kind = 19 \/ x.kind = 20
 have e : c1 (.mk x ks) = .rel (QU.getD (x.kind - 18).toNat []) (css ks) := YU (by unfold VY; rw [if_neg (by omega), if_neg (by omega), if_neg (by omega), if_pos h18])
 rw [e]
 exact ⟨fun q => by have : x.kind = 1 := q; omega, fun _ => ⟨rfl, trivial⟩⟩
 have e : c1 (.mk x ks) = Qx x := YU (by unfold VY; rw [if_neg (by omega), if_neg (by omega), if_neg (by omega), if_neg h18])
 rw [e]
 refine ⟨fun q => ?_, fun q => Qic hk2 q⟩
 have q : x.kind = 1 := q
 simp [Qx, q]
theorem Qbx {n : Nat} {val : Bs} (hv : val = [] \/ JC val = true) : ∀ (ks : List ST), (∀ k ∈ ks, VX k) -> (∀ k ∈ ks, Qo k.node.kind = true) -> (∀ k ∈ ks, k.node.kind ≠ 2) -> (∀ k ∈ ks, Read n k) ->
 Yi n ((css ks).filter fun y => !Yw y) val (Qgl ks ++ peT val)
 | [], _, _, _, _ => by
  rw [css, Qgl]
  show Yi n [] val (peT val)
  unfold peT
  by_cases h : val = []
  subst h; exact Yi.nil n
  rw [if_neg h]; exact Yi.el n (el_w (hv.resolve_left h))
 | k :: ks, hr, hs, h2, hR => by
  have ih := Qbx (n := n) hv ks (fun k hk => hr k (by simp [hk])) (fun k hk => hs k (by simp [hk])) (fun k hk => h2 k (by simp [hk])) (fun k hk => hR k (by simp [hk]))
  have hk := hs k (by simp)
  have h23 : k.node.kind ≠ 23 := by
   simp only [Qo, zh, decide_eq_true_eq] at hk; omega
  obtain ⟨q1, q2⟩ := UM (hr k (by simp)) hk
  rw [css, VG h23, zT, Qgl]
  by_cases h1 : k.node.kind = 1
  rw [if_pos h1, q1 h1, xn (by simp [Yw])]
  exact ih
  rw [if_neg h1, List.filter_cons_of_pos (by simp [(q2 h1).1]), zo]
  exact Yi.cons ((hR k (by simp)).sim hk h1 (h2 k (by simp))) ih
theorem Ql8 {x : SelD} (hf : Fld x) (h : x.kind = 2) : IdW x.key (Qr x.key) := Y6 hf.kz (hf.key (.inl h))
theorem Qoj {n : Nat} {x : SelD} {ks : List ST} (hr : VX (.mk x ks)) (h21 : x.kind = 21) (hR : ∀ k ∈ ks, Read n k) : Ya n (c1 (.mk x ks)) (V8 (.mk x ks)) (wr (.mk x ks)) := by
 obtain ⟨hf, _, hs, hk⟩ := hr
 have F := fld hf
 unfold Je at hs
 rw [if_neg (by omega), if_neg (by omega), if_pos h21] at hs
 have hv : x.val = [] \/ JC x.val = true := by
  rcases F.val (by omega) with h | h
  exact .inl h
  exact .inr h.2
 have hp : V8 (.mk x ks) = !decide (x.val = []) := by
  rw [ZB, QbH fun k hk' => Ub (hk.mem k hk') (hs.1 k hk')]
  simp [V7, h21]
 have hc : c1 (.mk x ks) = Vp ((css ks).filter fun y => !Yw y) x.val := YU (by unfold VY; rw [if_neg (by omega), if_neg (by omega), if_pos h21])
 have hw : wr (.mk x ks) = QbU x.val (wrs ks) := by
  rw [wr]; unfold Yj; rw [if_neg (by omega), if_neg (by omega), if_pos h21]
 have hce : ∀ f r, Jq x.val (f, r) = if f ++ (r ++ peT x.val) = [] then [42] else f ++ (r ++ peT x.val) := by
  intro f r
  unfold Jq peT
  by_cases h : x.val = []
  simp [h]
  simp [h]
 rw [hp, hc, hw]
 unfold QbU
 by_cases h2 : ∀ k ∈ ks, k.node.kind ≠ 2
 have hR' := Qbx (n := n) hv ks (fun k hk' => hk.mem k hk') hs.1 h2 hR
 rw [Qbn ks [] [] h2, hce, zI]
 by_cases ha : YZ ks = true
 rw [show (if ([] : Bs) = [] /\ YZ ks = true then ([42] : Bs) else []) = [42] from if_pos ⟨rfl, ha⟩, if_neg (by simp)]
 exact Ya.star hR'
 rw [show (if ([] : Bs) = [] /\ YZ ks = true then ([42] : Bs) else []) = [] from if_neg (fun q => ha q.2), zI]
 by_cases he : Qgl ks ++ peT x.val = []
 rw [if_pos he]
 rw [he] at hR'
 exact Ya.star hR'
 rw [if_neg he]
 exact Ya.bare hR' he
 obtain ⟨k0, rest, rfl, hk0⟩ : ∃ k0 rest, ks = k0 :: rest /\ k0.node.kind = 2 := by
  rcases ks with _ | ⟨k0, rest⟩
  exact absurd (fun k hk' => by cases hk') h2
  refine ⟨k0, rest, rfl, ?_⟩
  by_cases e : k0.node.kind = 2
  exact e
  refine absurd (fun k hk' => ?_) h2
  rcases zz.1 hk' with q | q
  subst q; exact e
  exact hs.2 k q
 have hrest : ∀ k ∈ rest, k.node.kind ≠ 2 := hs.2
 have hR' := Qbx (n := n) hv rest (fun k hk' => hk.mem k (by simp [hk'])) (fun k hk' => hs.1 k (by simp [hk'])) hrest (fun k hk' => hR k (by simp [hk']))
 obtain ⟨y, ys⟩ := k0
 have hk0' : y.kind = 2 := hk0
 have hy : VX (.mk y ys) := hk.mem _ (by simp)
 have Fy := fld hy.1
 have hid := Ql8 Fy hk0'
 have hwk : wr (.mk y ys) = Qr y.key := by
  rw [wr]; unfold Yj Qs
  rw [if_neg (by omega), if_neg (by omega), if_neg (by omega), if_neg (by omega), if_neg (by omega), if_pos hk0']
 have hck : cs (.mk y ys) = [.tag y.key] := by
  rw [cs]; unfold VY Qx
  rw [if_neg (by omega), if_neg (by omega), if_neg (by omega), if_neg (by omega), if_neg (by omega), if_pos hk0']
 have q := Ya.tag hid hR'
 rw [Fy.low] at q
 rw [wrs, zR]
 have hst : Vu ([], []) ((ST.mk y ys).node.kind, wr (.mk y ys)) = (Qr y.key, []) := by
  unfold Vu; simp only [hk0, if_true, hwk]
 rw [hst, Qbn rest _ _ hrest, if_neg (fun q => hid.head.1 q.1), hce, zI, if_neg (by simp [hid.head.1]), css, hck]
 exact q
theorem UE : WsL [32] := fun c hc => by rw [zQ.1 hc]; decide
theorem Qla {n m : Nat} {T : ST} (h : Read n T) (hn : n <= m) : Read m T where
 sim := fun a b c => (h.sim a b c).mono hn
 seq := fun a b => (h.seq a b).mono hn
 sel := fun a => (h.sel a).mono hn
 grp := fun a => by
  obtain ⟨x, p, t, l, q, u, h1, h2, h3⟩ := h.grp a
  exact ⟨x, p, t, l, q, u, h1.mono hn, h2.mono hn, h3⟩
theorem Qg2 : ∀ (n : Nat) (T : ST), ST.ht' T <= n -> VX T -> Ux T -> Read n T
 | 0, .mk x ks, h, _, _ => by simp [ST.ht'] at h
 | n + 1, .mk x ks, h, hr, hsm => by
  rw [ST.ht'] at h
  have hht := QcB (ks := ks) (n := n) (by omega)
  have hr' := hr
  obtain ⟨hf, hz, hs, hk⟩ := hr'
  have hsm' := hsm
  obtain ⟨hsx, hsk⟩ := hsm'
  have F := fld hf
  have hK : ∀ k ∈ ks, Read n k := fun k hk' => Qg2 n k (hht k hk') (hk.mem k hk') (hsk.mem k hk')
  have hK' : ∀ k ∈ ks, Read (n + 1) k := fun k hk' => Qla (hK k hk') (by omega)
  have sim : Qo x.kind = true -> x.kind ≠ 1 -> x.kind ≠ 2 -> Q6 (n + 1) (c1 (.mk x ks)) (wr (.mk x ks)) := by
   intro h0 h1 h2
   have h0' := h0
   simp only [Qo, zh, decide_eq_true_eq] at h0'
   by_cases h18 : x.kind = 18 \/ x.kind = 19 \/ x.kind = 20
   have e : c1 (.mk x ks) = .rel (QU.getD (x.kind - 18).toNat []) (css ks) := YU (by unfold VY; rw [if_neg (by omega), if_neg (by omega), if_neg (by omega), if_pos h18])
   unfold Je at hs
   rw [if_neg (by omega), if_pos h18] at hs
   obtain ⟨⟨g, rfl, hg⟩, hps⟩ := hs
   obtain ⟨y, p, t, l, q, u, g1, g2, g3, g4, g5, g6⟩ := (hK g (by simp)).grp hg
   have hpg : V8 g = false := by
    have : ZN [g] = false := hps
    rw [Vw, Yn, Bool.or_false] at this
    exact this
   have hG := QaW.mk g1 g2
   rw [g5, hpg, <- g3, <- g4] at hG
   have ec : css [g] = cs g := by rw [css, css, zC]
   have ew : wr (.mk x [g]) = 58 :: (QU.getD (x.kind - 18).toNat [] ++ (40 :: ([] ++ (wr g ++ [41])))) := by
    rw [wr]; unfold Yj
    rw [if_neg (by omega), if_neg (by omega), if_neg (by omega), if_pos h18, wrs]
    rfl
   rw [e, ec, ew]
   have hnm : ∀ m : Fin 3, (((QU.getD m.val []).all fun c => QG c.toNat) && QA (hd (QU.getD m.val []))) = true /\ low (QU.getD m.val []) = QU.getD m.val [] /\ (QU.getD m.val [] = Jv \/ QU.getD m.val [] = Jw \/ QU.getD m.val [] = nHasChild) := by decide
   obtain ⟨m, hm⟩ : ∃ m : Fin 3, (x.kind - 18).toNat = m.val := ⟨⟨(x.kind - 18).toNat, by omega⟩, rfl⟩
   rw [hm]
   exact Q6.rel (Vt (hnm m).1) (hnm m).2.1 (hnm m).2.2 .nil hG g6
   have e : c1 (.mk x ks) = Qx x := YU (by unfold VY; rw [if_neg (by omega), if_neg (by omega), if_neg (by omega), if_neg h18])
   have ew : wr (.mk x ks) = Qs x := by
    rw [wr]; unfold Yj
    rw [if_neg (by omega), if_neg (by omega), if_neg (by omega), if_neg h18]
   rw [e, ew]
   exact (QsY F hsx h0 h1 h2 h18).mono (by omega)
  have seq : QI x.kind = true -> x.kind ≠ 22 -> Ya (n + 1) (c1 (.mk x ks)) (V8 (.mk x ks)) (wr (.mk x ks)) := by
   intro h0 h22
   by_cases h21 : x.kind = 21
   exact Qoj hr h21 hK'
   have h0s : Qo x.kind = true := by simpa [QI, h21, h22] using h0
   rw [Ub hr h0s]
   by_cases h1 : x.kind = 1
   have e : c1 (.mk x ks) = .compound [] [] := (UM hr h0s).1 h1
   have ew : wr (.mk x ks) = [42] := by
    rw [wr]; unfold Yj Qs
    rw [if_neg (by omega), if_neg (by omega), if_neg (by omega), if_neg (by omega), if_pos h1]
   rw [e, ew]
   exact Ya.star (Yi.nil (n + 1))
   by_cases h2 : x.kind = 2
   have e : c1 (.mk x ks) = .tag x.key := YU (by unfold VY Qx; rw [if_neg (by omega), if_neg (by omega), if_neg (by omega), if_neg (by omega), if_neg (by omega), if_pos h2])
   have ew : wr (.mk x ks) = Qr x.key := by
    rw [wr]; unfold Yj Qs
    rw [if_neg (by omega), if_neg (by omega), if_neg (by omega), if_neg (by omega), if_neg (by omega), if_pos h2]
   have q := Ya.tag (Ql8 F h2) (Yi.nil (n + 1))
   rw [F.low, zC] at q
   rw [e, ew]
   exact q
   have hS := sim h0s h1 h2
   have q := Ya.bare (Yi.cons hS (Yi.nil (n + 1))) (by simp [Jd hS.1])
   rw [zC] at q
   exact q
  refine { sim := sim, seq := seq, sel := fun h0 => ?_, grp := fun h23 => ?_ }
  by_cases h22 : x.kind = 22
  unfold Je at hs
  rw [if_neg (by omega), if_neg (by omega), if_neg (by omega), if_pos h22] at hs
  obtain ⟨a, b, rfl, ha, hb, hb22, hpa⟩ := hs
  have ha23 : a.node.kind ≠ 23 := by simp [QI, Qo] at ha; omega
  have hb23 : b.node.kind ≠ 23 := by simp [QI, Qo] at hb; omega
  have hA := (hK' a (by simp)).sel ha
  have hB := (hK' b (by simp)).seq hb hb22
  rw [show V8 a = false from hpa] at hA
  have e : c1 (.mk x [a, b]) = .combined (c1 a) (Qb6 x.op) (c1 b) := YU (by
   unfold VY
   rw [if_neg (by omega), if_pos h22, css, css, css, VG ha23, VG hb23]; rfl)
  have ep : V8 (.mk x [a, b]) = V8 b := by
   rw [ZB, QaK (by omega), Vw, Vw, Yn, show V8 a = false from hpa]; simp
  have ew : wr (.mk x [a, b]) = wr a ++ (Qbr.getD x.op.toNat [] ++ wr b) := by
   rw [wr]; unfold Yj
   rw [if_neg (by omega), if_pos h22, wrs, wrs]
   simp
  obtain ⟨o1, o2, _⟩ := F.comb h22
  have ho : x.op = 1 \/ x.op = 2 \/ x.op = 3 \/ x.op = 4 := by omega
  show Yq (n + 1) (c1 (.mk x [a, b])) (V8 (.mk x [a, b])) (wr (.mk x [a, b]))
  rw [e, ep, ew]
  rcases ho with ho | ho | ho | ho
  rw [ho]; exact Yq.desc hA UE (g := [32]) (by simp) hB
  rw [ho]; exact Yq.comb hA (g1 := [32]) (g2 := [32]) UE (c := 62) (by decide) UE hB
  rw [ho]; exact Yq.comb hA (g1 := [32]) (g2 := [32]) UE (c := 43) (by decide) UE hB
  rw [ho]; exact Yq.comb hA (g1 := [32]) (g2 := [32]) UE (c := 126) (by decide) UE hB
  exact Yq.one (seq h0 h22)
  have h23' : x.kind = 23 := h23
  unfold Je at hs
  rw [if_pos h23'] at hs
  obtain ⟨hs1, hs2⟩ := hs
  obtain ⟨k0, rest, rfl⟩ := zB hs2
  have n23 : ∀ k ∈ k0 :: rest, k.node.kind ≠ 23 := fun k hk' => by
   have := hs1 k hk'
   simp [QI, Qo] at this; omega
  have hS0 := (hK' k0 (by simp)).sel (hs1 k0 (by simp))
  have hT := QgF (n := n + 1) rest (fun k hk' => (hK' k (by simp [hk'])).sel (hs1 k (by simp [hk']))) (fun k hk' => n23 k (by simp [hk']))
  have hS1 := SlS.mk (g1 := []) (g2 := []) .nil hS0 .nil
  rw [zI, zC] at hS1
  have ew : wr (.mk x (k0 :: rest)) = wr k0 ++ (((wrs rest).map Prod.snd).flatMap fun u => [44, 32] ++ u) := by
   rw [wr]; unfold Yj
   rw [if_pos h23', wrs]
   rfl
  refine ⟨c1 k0, V8 k0, wr k0, css rest, ZN rest, _, hS1, hT, ew, ?_, ?_, ?_⟩
  rw [cs]; unfold VY
  rw [if_pos h23', css, VG (n23 k0 (by simp))]; rfl
  rw [ZB, QaK (by omega), Vw]; rfl
  rw [ew]; exact hS0.1.stop
end Way
end
section
namespace Way
set_option maxRecDepth 20000
theorem UW {x : SelD} {k o a b f : Int} {ke va : Bs} (h0 : x.size = 0) (h1 : x.kind = k) (h2 : x.op = o) (h3 : x.key = ke) (h4 : x.val = va) (h5 : x.a = a) (h6 : x.b = b) (h7 : x.flag = f) : (⟨k, o, ke, va, a, b, f, 0⟩ : SelD) = x := by
 obtain ⟨_, _, _, _, _, _, _, _⟩ := x
 simp only at h0 h1 h2 h3 h4 h5 h6 h7
 subst h0 h1 h2 h3 h4 h5 h6 h7
 rfl
theorem Yv {x : SelD} {ks : List ST} (h : x.kind ≠ 21) : (ST.mk x ks).norm = .mk x (ST.norms ks) := by
 rw [ST.norm]; unfold JN Y7
 rw [if_neg (fun q => h q.1), if_neg h]
theorem Qlv {x : SelD} (h : Qo x.kind = true) (h1 : x.kind ≠ 1) : QS (Qx x) = .mk (VD (Qx x)) [] := by
 simp only [Qo, zh, decide_eq_true_eq] at h
 unfold Qx
 rw [if_neg h1]
 iterate 15 refine Qnu (P := fun y => QS y = .mk (VD y) []) (by simp [QS]) ?_
 simp [QS]
theorem Qlw {x : SelD} (F : Fld x) (hz : x.size = 0) (h : Qo x.kind = true) (h1 : x.kind ≠ 1) (hr : ¬ (x.kind = 18 \/ x.kind = 19 \/ x.kind = 20)) : VD (Qx x) = x := by
 simp only [Qo, zh, decide_eq_true_eq] at h
 have hcases : x.kind = 2 \/ x.kind = 3 \/ x.kind = 4 \/ x.kind = 5 \/ x.kind = 6 \/ x.kind = 7 \/ x.kind = 8 \/ x.kind = 9 \/ x.kind = 10 \/ x.kind = 11 \/ x.kind = 12 \/ x.kind = 13 \/ x.kind = 14 \/ x.kind = 15 \/ x.kind = 16 \/ x.kind = 17 := by omega
 have nk : ¬ (x.kind = 2 \/ x.kind = 5) -> x.key = [] := F.nokey
 have nv : ¬ (x.kind = 3 \/ x.kind = 4 \/ x.kind = 15 \/ (x.kind = 5 /\ x.op ≠ 1) \/ x.kind = 16 \/ x.kind = 17) -> x.val = [] := fun q => (F.val q).resolve_right (fun q => by omega)
 have nn := F.num
 have no := F.other
 rcases hcases with e | e | e | e | e | e | e | e | e | e | e | e | e | e | e | e
 case inr.inr.inr.inl =>
  obtain ⟨o1, o2, o3, _⟩ := F.attr e
  have hl : Qx x = .attr x.key x.val (Vj.getD x.op.toNat []) (decide (x.flag = 1)) := by
   unfold Qx
   rw [if_neg (by omega), if_neg (by omega), if_neg (by omega), if_neg (by omega), if_pos e]
  obtain ⟨n1, n2⟩ := nn (by omega)
  rw [hl]
  unfold VD
  refine UW hz e ?_ rfl rfl n1 n2 ?_
  obtain ⟨m, hm⟩ : ∃ m : Fin 9, x.op.toNat = m.val := ⟨⟨x.op.toNat, by omega⟩, rfl⟩
  have : ∀ m : Fin 9, 1 <= m.val -> ZS ([] :: attrSigns) (Vj.getD m.val []) = (m.val : Int) := by decide
  rw [hm, this m (by omega)]; omega
  rcases o3 with q | q <;> rw [q] <;> rfl
 case inr.inr.inr.inr.inl =>
  obtain ⟨o1, o2, o3⟩ := F.nth e
  have hl : Qx x = .nth x.a x.b (decide (x.flag = 1 \/ x.flag = 3)) (decide (x.flag = 2 \/ x.flag = 3)) := by
   unfold Qx
   rw [if_neg (by omega), if_neg (by omega), if_neg (by omega), if_neg (by omega), if_neg (by omega), if_pos e]
  rw [hl]
  unfold VD
  refine UW hz e o1 (nk (by omega)) (nv (by omega)) rfl rfl ?_
  have h4 : x.flag = 0 \/ x.flag = 1 \/ x.flag = 2 \/ x.flag = 3 := by omega
  rcases h4 with q | q | q | q <;> rw [q] <;> rfl
 case inr.inr.inr.inr.inr.inl =>
  obtain ⟨o1, o2⟩ := F.only e
  have hl : Qx x = .only (decide (x.flag = 2)) := by
   unfold Qx
   rw [if_neg (by omega), if_neg (by omega), if_neg (by omega), if_neg (by omega), if_neg (by omega), if_neg (by omega), if_pos e]
  obtain ⟨n1, n2⟩ := nn (by omega)
  rw [hl]
  unfold VD
  refine UW hz e o1 (nk (by omega)) (nv (by omega)) n1 n2 ?_
  rcases o2 with q | q <;> rw [q] <;> rfl
 all_goals
  obtain ⟨n1, n2⟩ := nn (by omega)
  obtain ⟨q1, q2⟩ := no (by omega) (by omega) (by omega) (by omega)
  simp only [Qx, e]
  first
   | exact UW hz e q1 rfl (nv (by omega)) n1 n2 q2
   | exact UW hz e q1 (nk (by omega)) rfl n1 n2 q2
   | exact UW hz e q1 (nk (by omega)) (nv (by omega)) n1 n2 q2
theorem QgQ {l : List CSel} {pe : Bs} (hs : ∀ y ∈ l, Smp y) : (QS (Vp l pe)).norm = JN ⟨21, 0, [], pe, 0, 0, 0, 0⟩ (ST.norms (Q1 l)) := by
 have hc : (QS (.compound l pe)).norm = JN ⟨21, 0, [], pe, 0, 0, 0, 0⟩ (Y7 ⟨21, 0, [], pe, 0, 0, 0, 0⟩ (ST.norms (Q1 l))) := by
  rw [QS, ST.norm, VD]
 unfold Vp
 split
 rename_i x
 simp [Q1, ST.norms, JN]
 rw [hc, QeM hs]
theorem QeL : ∀ (ks : List ST), (∀ k ∈ ks, k.node.kind ≠ 23) -> (∀ k ∈ ks, (QS (c1 k)).norm = k.norm) -> ST.norms (Q1 (css ks)) = ST.norms ks
 | [], _, _ => by simp [css, Q1, ST.norms]
 | k :: ks, h, hn => by
  rw [css, VG (h k (by simp)), zT, Q1, ST.norms, ST.norms, hn k (by simp), QeL ks (fun k hk => h k (by simp [hk])) (fun k hk => hn k (by simp [hk]))]
theorem Qh7 {x : SelD} (h21 : x.kind = 21) : ∀ (ks : List ST), (∀ k ∈ ks, VX k) -> (∀ k ∈ ks, Qo k.node.kind = true) -> (∀ k ∈ ks, (QS (c1 k)).norm = k.norm) ->
 Y7 x (ST.norms ks) = ST.norms (Q1 ((css ks).filter fun y => !Yw y)) /\ ∀ y ∈ (css ks).filter (fun y => !Yw y), Smp y
 | [], _, _, _ => by simp [css, Q1, ST.norms, Y7]
 | k :: ks, hr, hs, hn => by
  obtain ⟨ih1, ih2⟩ := Qh7 h21 ks (fun k hk => hr k (by simp [hk])) (fun k hk => hs k (by simp [hk])) (fun k hk => hn k (by simp [hk]))
  have hk := hs k (by simp)
  have h23 : k.node.kind ≠ 23 := by
   simp only [Qo, zh, decide_eq_true_eq] at hk; omega
  obtain ⟨q1, q2⟩ := UM (hr k (by simp)) hk
  unfold Y7 at ih1 ⊢
  rw [if_pos h21] at ih1 ⊢
  rw [css, VG h23, zT, ST.norms]
  by_cases h1 : k.node.kind = 1
  have e := hn k (by simp)
  rw [q1 h1] at e
  have e2 : (QS (.compound [] [])).norm = .mk Qoy [] := by simp [QS, Q1, ST.norm, ST.norms, VD, Y7, JN]
  rw [e2] at e
  rw [q1 h1, xn (by rw [<- e]; simp [QbG, ST.node, Qoy]), xn (by simp [Yw])]
  exact ⟨ih1, ih2⟩
  have hsm := (q2 h1).2
  rw [List.filter_cons_of_pos (by rw [<- hn k (by simp)]; simp [QgL hsm]), List.filter_cons_of_pos (by simp [(q2 h1).1]), Q1, ST.norms, hn k (by simp), ih1]
  refine ⟨rfl, fun y hy => ?_⟩
  rcases zz.1 hy with q | q
  subst q; exact hsm
  exact ih2 y q
theorem Qhj : ∀ (n : Nat) (T : ST), ST.ht' T <= n -> VX T -> (T.node.kind ≠ 23 -> (QS (c1 T)).norm = T.norm) /\ (T.node.kind = 23 -> (ST.mk Yd (Q1 (cs T))).norm = T.norm)
 | 0, .mk x ks, h, _ => by simp [ST.ht'] at h
 | n + 1, .mk x ks, h, hr => by
  rw [ST.ht'] at h
  have hht := QcB (ks := ks) (n := n) (by omega)
  obtain ⟨hf, hz, hs, hk⟩ := hr
  have hr : VX (.mk x ks) := ⟨hf, hz, hs, hk⟩
  have F := fld hf
  have hK := fun k (hk' : k ∈ ks) => Qhj n k (hht k hk') (hk.mem k hk')
  have nk : ¬ (x.kind = 2 \/ x.kind = 5) -> x.key = [] := F.nokey
  have nn := F.num
  have no := F.other
  unfold Je at hs
  refine ⟨fun h23 => ?_, fun h23 => ?_⟩
  have h23 : x.kind ≠ 23 := h23
  rw [if_neg h23] at hs
  by_cases h18 : x.kind = 18 \/ x.kind = 19 \/ x.kind = 20
  rw [if_pos h18] at hs
  obtain ⟨⟨g, rfl, hg⟩, _⟩ := hs
  have e : c1 (.mk x [g]) = .rel (QU.getD (x.kind - 18).toNat []) (cs g) := YU (by
   unfold VY; rw [if_neg (by omega), if_neg (by omega), if_neg (by omega), if_pos h18, css, css, zC])
  rw [e, QS]
  have hnode : VD (.rel (QU.getD (x.kind - 18).toNat []) (cs g)) = x := by
   unfold VD
   obtain ⟨n1, n2⟩ := nn (by omega)
   obtain ⟨q1, q2⟩ := no (by omega) (by omega) (by omega) (by omega)
   refine UW hz ?_ q1 (nk (by omega)) ((F.val (by omega)).resolve_right (fun q => by omega)) n1 n2 q2
   rcases h18 with q | q | q <;> rw [q] <;> decide
  rw [hnode, Yv (by omega), Yv (by omega), ST.norms, ST.norms, ST.norms, ST.norms, (hK g (by simp)).2 hg]
  rw [if_neg h18] at hs
  by_cases h21 : x.kind = 21
  rw [if_pos h21] at hs
  have e : c1 (.mk x ks) = Vp ((css ks).filter fun y => !Yw y) x.val := YU (by unfold VY; rw [if_neg (by omega), if_neg (by omega), if_pos h21])
  obtain ⟨k1, k2⟩ := Qh7 h21 ks (fun k hk' => hk.mem k hk') hs.1 (fun k hk' => (hK k hk').1 (by have := hs.1 k hk'; simp [Qo] at this; omega))
  obtain ⟨n1, n2⟩ := nn (by omega)
  obtain ⟨q1, q2⟩ := no (by omega) (by omega) (by omega) (by omega)
  rw [e, QgQ k2, <- k1, ST.norm, UW hz h21 q1 (nk (by omega)) rfl n1 n2 q2]
  rw [if_neg h21] at hs
  by_cases h22 : x.kind = 22
  rw [if_pos h22] at hs
  obtain ⟨a, b, rfl, ha, hb, hb22, hpa⟩ := hs
  have ha23 : a.node.kind ≠ 23 := by simp [QI, Qo] at ha; omega
  have hb23 : b.node.kind ≠ 23 := by simp [QI, Qo] at hb; omega
  have e : c1 (.mk x [a, b]) = .combined (c1 a) (Qb6 x.op) (c1 b) := YU (by
   unfold VY
   rw [if_neg (by omega), if_pos h22, css, css, css, VG ha23, VG hb23]; rfl)
  obtain ⟨o1, o2, o3⟩ := F.comb h22
  obtain ⟨n1, n2⟩ := nn (by omega)
  rw [e, QS]
  have hnode : VD (.combined (c1 a) (Qb6 x.op) (c1 b)) = x := by
   unfold VD
   refine UW hz h22 ?_ (nk (by omega)) ((F.val (by omega)).resolve_right (fun q => by omega)) n1 n2 o3
   have ho : x.op = 1 \/ x.op = 2 \/ x.op = 3 \/ x.op = 4 := by omega
   rcases ho with ho | ho | ho | ho <;> rw [ho] <;> decide
  rw [hnode, Yv (by omega), Yv (by omega), ST.norms, ST.norms, ST.norms, ST.norms, ST.norms, ST.norms, (hK a (by simp)).1 ha23, (hK b (by simp)).1 hb23]
  rw [if_neg h22] at hs
  obtain ⟨hsim, rfl⟩ := hs
  by_cases h1 : x.kind = 1
  rw [(UM hr hsim).1 h1]
  have e2 : (QS (.compound [] [])).norm = .mk Qoy [] := by simp [QS, Q1, ST.norm, ST.norms, VD, Y7, JN]
  obtain ⟨n1, n2⟩ := nn (by omega)
  obtain ⟨q1, q2⟩ := no (by omega) (by omega) (by omega) (by omega)
  rw [e2, Yv (by omega), ST.norms, <- UW hz h1 q1 (nk (by omega)) ((F.val (by omega)).resolve_right (fun q => by omega)) n1 n2 q2]
  rfl
  have e : c1 (.mk x []) = Qx x := YU (by unfold VY; rw [if_neg (by omega), if_neg (by omega), if_neg (by omega), if_neg h18])
  rw [e, Qlv hsim h1, Qlw F hz hsim h1 h18]
  have h23 : x.kind = 23 := h23
  rw [if_pos h23] at hs
  have n23 : ∀ k ∈ ks, k.node.kind ≠ 23 := fun k hk' => by
   have := hs.1 k hk'
   simp [QI, Qo] at this; omega
  obtain ⟨n1, n2⟩ := nn (by omega)
  obtain ⟨q1, q2⟩ := no (by omega) (by omega) (by omega) (by omega)
  have e : cs (.mk x ks) = css ks := by rw [cs]; unfold VY; rw [if_pos h23]
  rw [e, Yv (by decide), Yv (by omega), QeL ks n23 (fun k hk' => (hK k hk').1 (n23 k hk'))]
  rw [show Yd = x from UW hz h23 q1 (nk (by omega)) ((F.val (by omega)).resolve_right (fun q => by omega)) n1 n2 q2]
end Way
end
end Go.Proofs.YtengepcafdnalaaGreatDoor
