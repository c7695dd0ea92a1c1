/-
  Parts of the proof that the law FnPrintAgain holds for every input (texts Xf, Na, Nb, Nc). Conditions: none.
-/
import Derived.Test.YtengepcafdnalaaGreatDoorM28
namespace Go.Proofs.YtengepcafdnalaaGreatDoor
open _root_.Bool renaming or_eq_true → zw, and_eq_true → zh, false_ne_true → zE, eq_false_iff → xy, not_eq_true' → zU, and_eq_false_imp → zW
open _root_.List renaming foldl_cons → zR, singleton_append → zT, filter_cons_of_neg → xn, append_assoc → zo, nil_append → zI, mem_cons → zz, append_nil → zC, exists_cons_of_ne_nil → zB, getD_eq_getElem?_getD → za, getElem?_eq_getElem → zi, any_eq_false → xr, length_append → zd, drop_eq_getElem_cons → zP, range → zH, length_drop → zj, length_take → zk, length_cons → ze, length_nil → zf, drop_eq_nil_of_le → xk, length_pos_iff → zu, length_eq_zero_iff → zK
open _root_.Nat renaming strongRecOn → zl, lt_succ_self → xt, le_refl → zq
open _root_.UInt8 renaming toNat_or → zb
section
namespace Way
set_option maxRecDepth 20000
structure KRead (l : List SelD) (d : Nat) (f : Nat -> Nat -> Bs × Nat) (k : Nat) (T : ST) : Prop where
 kn : knd l k = T.node.kind
 tag : T.node.kind = 2 -> ∀ n, ∃ v, IdW v (f k n).1 /\ low v = T.node.key
 sim : Qo T.node.kind = true -> T.node.kind ≠ 1 -> T.node.kind ≠ 2 -> ∀ n, Q6 d (c1 T) (f k n).1
 seq : QI T.node.kind = true -> T.node.kind ≠ 22 -> ∀ n, Ya d (c1 T) (V8 T) (f k n).1
 sel : QI T.node.kind = true -> ∀ n, Yq d (c1 T) (V8 T) (f k n).1
 grp : T.node.kind = 23 -> ∀ n e, WsL e -> ∃ x p t L q g u, Yq d x p t /\ WsL g /\ Z7 d L q u /\ (f k n).1 ++ e = t ++ (g ++ u) /\ cs T = x :: L /\ (p || q) = V8 T
def Qca (l : List SelD) (d : Nat) (f : Nat -> Nat -> Bs × Nat) : Nat -> List ST -> Prop
 | _, [] => True
 | k, t :: ks => KRead l d f k t /\ Qca l d f (k + t.flat.length) ks
theorem KRead.mono {l : List SelD} {d d' : Nat} {f : Nat -> Nat -> Bs × Nat} {k : Nat} {T : ST} (h : KRead l d f k T) (hd : d <= d') : KRead l d' f k T where
 kn := h.kn
 tag := h.tag
 sim := fun a b c n => (h.sim a b c n).mono hd
 seq := fun a b n => (h.seq a b n).mono hd
 sel := fun a n => (h.sel a n).mono hd
 grp := fun a n e he => by
  obtain ⟨x, p, t, L, q, g, u, h1, h2, h3, h4⟩ := h.grp a n e he
  exact ⟨x, p, t, L, q, g, u, h1.mono hd, h2, h3.mono hd, h4⟩
theorem Qca.mono {l : List SelD} {d d' : Nat} {f : Nat -> Nat -> Bs × Nat} (hd : d <= d') : ∀ {k : Nat} {ks : List ST}, Qca l d f k ks -> Qca l d' f k ks
 | _, [], _ => trivial
 | _, _ :: _, ⟨h1, h2⟩ => ⟨h1.mono hd, h2.mono hd⟩
theorem Ql7 {l : List SelD} {d : Nat} {f : Nat -> Nat -> Bs × Nat} (y : Bs) {e : Bs} (he : WsL e) : ∀ (ks : List ST) (k n : Nat) (out : Bs), Qca l d f k ks -> (∀ k ∈ ks, QI k.node.kind = true) ->
 ∃ g u, WsL g /\ Z7 d (css ks) (ZN ks) u /\ ((QF k ks).foldl (YW y f) (true, out, n)).2.1 ++ e = out ++ (g ++ u)
 | [], k, n, out, _, _ => by
  rw [css, Yn]
  exact ⟨e, [], he, Z7.nil d, by simp [QF]⟩
 | t :: ks, k, n, out, ⟨h1, h2⟩, hc => by
  have hk := hc t (by simp)
  have h23 : t.node.kind ≠ 23 := by simp [QI, Qo] at hk; omega
  rw [QF, zR]
  unfold YW
  simp only [if_true]
  obtain ⟨g, u, w, hg, he'⟩ := Ql7 (l := l) (d := d) (f := f) y he ks (k + t.flat.length) (f k (Qh y (Qh y n).2).2).2 ((out ++ (((Qh y n).1 ++ [44]) ++ (Qh y (Qh y n).2).1)) ++ (f k (Qh y (Qh y n).2).2).1) h2 (fun k hk => hc k (by simp [hk]))
  unfold YW at he'
  have q := Z7.cons (SlS.mk (Vg y (Qh y n).2) (h1.sel hk (Qh y (Qh y n).2).2) w) hg
  rw [css, VG h23, Vw]
  refine ⟨(Qh y n).1, _, Vg y n, q, ?_⟩
  rw [he']
  simp
theorem el_p {y val : Bs} {n : Nat} (h : JC val = true) : ElS val (58 :: 58 :: (Qm y val n).1) := by
 have key : ∀ v : Bs, ((v.all fun c => QG c.toNat) && QA (hd v)) = true -> low v = v -> v ∈ elNames -> (∀ G s j, Y9 G s v j = some (none, v, j)) -> v ≠ [] -> ElS v (58 :: 58 :: (Qm y v n).1) := by
  intro v h1 h2 h3 h4 h5
  obtain ⟨w, w1, w2⟩ := Y2 (y := y) (n := n) h1 h2
  have q := ElS.two w1 (by rw [w2]; exact h3) (by rw [w2]; exact h4) (by rw [w2]; exact h5)
  rwa [w2] at q
 simp only [JC, zw, decide_eq_true_eq] at h
 rcases h with ((h | h) | h) | h <;> subst h <;> exact key _ (by decide) (by decide) (by decide) (fun G s j => rfl) (by decide)
theorem Qgc {l : List SelD} {d : Nat} {f : Nat -> Nat -> Bs × Nat} : ∀ (ks : List ST) (k n : Nat) (a b : Bs), Qca l d f k ks -> (∀ k ∈ ks, VX k) -> (∀ k ∈ ks, Qo k.node.kind = true) -> (∀ k ∈ ks, k.node.kind ≠ 2) ->
 ∃ r n', (QF k ks).foldl (Vv l f) ((a, b), n) = (((if a = [] /\ YZ ks = true then [42] else a), b ++ r), n') /\ ∀ pe tp, Yi d [] pe tp -> Yi d ((css ks).filter fun y => !Yw y) pe (r ++ tp)
 | [], k, n, a, b, _, _, _, _ => ⟨[], n, by simp [QF, YZ], fun pe tp h => by simpa [css] using h⟩
 | t :: ks, k, n, a, b, ⟨h1, h2⟩, hr, hs, h3 => by
  have hk := hs t (by simp)
  have h23 : t.node.kind ≠ 23 := by simp only [Qo, zh, decide_eq_true_eq] at hk; omega
  have hn2 := h3 t (by simp)
  obtain ⟨q1, q2⟩ := UM (hr t (by simp)) hk
  rw [QF, zR]
  unfold Vv
  simp only [h1.kn]
  rw [if_neg hn2]
  by_cases e1 : t.node.kind = 1
  rw [if_pos e1]
  obtain ⟨r, n', e2, e3⟩ := Qgc ks (k + t.flat.length) n (if a = [] then [42] else a) b h2 (fun k hk => hr k (by simp [hk])) (fun k hk => hs k (by simp [hk])) (fun k hk => h3 k (by simp [hk]))
  unfold Vv at e2
  refine ⟨r, n', ?_, fun pe tp h => ?_⟩
  rw [e2]
  by_cases ha : a = [] <;> simp [ha, YZ, e1]
  rw [css, VG h23, zT, q1 e1, xn (by simp [Yw])]
  exact e3 pe tp h
  rw [if_neg e1]
  obtain ⟨r, n', e2, e3⟩ := Qgc ks (k + t.flat.length) (f k n).2 a (b ++ (f k n).1) h2 (fun k hk => hr k (by simp [hk])) (fun k hk => hs k (by simp [hk])) (fun k hk => h3 k (by simp [hk]))
  unfold Vv at e2
  refine ⟨(f k n).1 ++ r, n', ?_, fun pe tp h => ?_⟩
  rw [e2]
  simp [YZ, e1]
  rw [css, VG h23, zT, List.filter_cons_of_pos (by simp [(q2 e1).1]), zo]
  exact Yi.cons (h1.sim hk e1 hn2 n) (e3 pe tp h)
def peP (y val : Bs) (n : Nat) : Bs := if val = [] then [] else [58, 58] ++ (Qm y val n).1
theorem Qld (y val : Bs) (st : (Bs × Bs) × Nat) : (YX y val st).1 = QaA (st.1.1 ++ (st.1.2 ++ peP y val st.2)) := by
 unfold YX peP
 by_cases h : val = []
 simp [h]
 simp [h]
theorem pe_p {y val : Bs} {d n : Nat} (hv : val = [] \/ JC val = true) : Yi d [] val (peP y val n) := by
 unfold peP
 by_cases h : val = []
 subst h; exact Yi.nil d
 rw [if_neg h]; exact Yi.el d (el_p (hv.resolve_left h))
theorem QcZ {t : Bs} (h : t ≠ []) : QaA t = t := by unfold QaA; rw [if_neg h]
theorem cmp_p {l : List SelD} {d : Nat} {f : Nat -> Nat -> Bs × Nat} {y : Bs} {x : SelD} {ks : List ST} {k n : Nat} (hr : VX (.mk x ks)) (h21 : x.kind = 21) (hR : Qca l d f k ks) :
 Ya d (c1 (.mk x ks)) (V8 (.mk x ks)) (YX y x.val ((QF k ks).foldl (Vv l f) (([], []), n))).1 := by
 obtain ⟨hf, _, hs, hk⟩ := hr
 have F := fld hf
 unfold Je at hs
 rw [if_neg (by omega), if_neg (by omega), if_pos h21] at hs
 have hv : x.val = [] \/ JC x.val = true := by
  rcases F.val (by omega) with h | h
  exact .inl h
  exact .inr h.2
 have hp : V8 (.mk x ks) = !decide (x.val = []) := by
  rw [ZB, QbH fun k hk' => Ub (hk.mem k hk') (hs.1 k hk')]
  simp [V7, h21]
 have hc : c1 (.mk x ks) = Vp ((css ks).filter fun y => !Yw y) x.val := YU (by unfold VY; rw [if_neg (by omega), if_neg (by omega), if_pos h21])
 rw [hp, hc, Qld]
 by_cases h2 : ∀ k ∈ ks, k.node.kind ≠ 2
 obtain ⟨r, n', e1, e2⟩ := Qgc (l := l) (d := d) (f := f) ks k n [] [] hR (fun k hk' => hk.mem k hk') hs.1 h2
 rw [e1]
 have hR' := e2 _ _ (pe_p (y := y) (d := d) (n := n') hv)
 simp only [zI]
 by_cases ha : YZ ks = true
 rw [show (if True /\ YZ ks = true then ([42] : Bs) else []) = [42] from if_pos ⟨trivial, ha⟩, QcZ (by simp)]
 exact Ya.star hR'
 rw [show (if True /\ YZ ks = true then ([42] : Bs) else []) = [] from if_neg (fun q => ha q.2), zI]
 by_cases he : r ++ peP y x.val n' = []
 rw [he] at hR' ⊢
 exact Ya.star hR'
 rw [QcZ he]
 exact Ya.bare hR' he
 obtain ⟨k0, rest, rfl, hk0⟩ : ∃ k0 rest, ks = k0 :: rest /\ k0.node.kind = 2 := by
  rcases ks with _ | ⟨k0, rest⟩
  exact absurd (fun k hk' => by cases hk') h2
  refine ⟨k0, rest, rfl, ?_⟩
  by_cases e : k0.node.kind = 2
  exact e
  refine absurd (fun k hk' => ?_) h2
  rcases zz.1 hk' with q | q
  subst q; exact e
  exact hs.2 k q
 obtain ⟨h1, hR2⟩ := hR
 obtain ⟨v, v1, v2⟩ := h1.tag hk0 n
 obtain ⟨r, n', e1, e2⟩ := Qgc (l := l) (d := d) (f := f) rest (k + k0.flat.length) (f k n).2 (f k n).1 [] hR2 (fun k hk' => hk.mem k (by simp [hk'])) (fun k hk' => hs.1 k (by simp [hk'])) hs.2
 have hR' := e2 _ _ (pe_p (y := y) (d := d) (n := n') hv)
 rw [QF, zR]
 have hst : Vv l f (([], []), n) k = (((f k n).1, []), (f k n).2) := by
  unfold Vv; rw [h1.kn, if_pos hk0]
 rw [hst, e1, if_neg (fun q => v1.head.1 q.1)]
 simp only [zI]
 obtain ⟨z, zs⟩ := k0
 have hk0' : z.kind = 2 := hk0
 have hck : cs (.mk z zs) = [.tag z.key] := by
  rw [cs]; unfold VY Qx
  rw [if_neg (by omega), if_neg (by omega), if_neg (by omega), if_neg (by omega), if_neg (by omega), if_pos hk0']
 have q := Ya.tag v1 hR'
 rw [v2] at q
 rw [QcZ (by simp [v1.head.1]), css, hck]
 exact q
theorem Qk9 : ∀ m : Fin 3, (((QU.getD m.val []).all fun c => QG c.toNat) && QA (hd (QU.getD m.val []))) = true /\ low (QU.getD m.val []) = QU.getD m.val [] /\ (QU.getD m.val [] = Jv \/ QU.getD m.val [] = Jw \/ QU.getD m.val [] = nHasChild) := by decide
theorem Qg8 {y : Bs} {l : List SelD} : ∀ (d m i : Nat) (T : ST) (rest : List SelD), d <= m -> l.drop i = T.flat ++ rest -> ST.ht' T <= d -> VX T -> Ux T -> KRead l d (Qg y m l) i T
 | 0, m, i, .mk x ks, rest, _, _, h, _, _ => by simp [ST.ht'] at h
 | d + 1, 0, i, .mk x ks, rest, hm, _, _, _, _ => by omega
 | d + 1, m + 1, i, .mk x ks, rest, hm, hl, h, hr, hsm => by
  rw [ST.ht'] at h
  have hr' := hr
  obtain ⟨hf, hz, hs, hk⟩ := hr'
  have hsm' := hsm
  obtain ⟨hsx, hsk⟩ := hsm'
  have F := fld hf
  obtain ⟨k1, k2, k3, k4, k5⟩ := Vd hl
  have hKs : ∀ (us : List ST) (k : Nat) (r : List SelD), l.drop k = ST.flats us ++ r -> ST.hts' us <= d -> Zj us -> Uw us -> Qca l d (Qg y m l) k us := by
   intro us
   induction us with
   | nil => intros; trivial
   | cons t us ih =>
    intro k r hd' hh hr1 hs1
    rw [ST.flats, zo] at hd'
    rw [ST.hts'] at hh
    exact ⟨Qg8 d m k t _ (by omega) hd' (by omega) hr1.1 hs1.1, ih _ r (YB hd') (by omega) hr1.2 hs1.2⟩
  have hK := hKs ks (i + 1) rest k2 (by omega) hk hsk
  have hK' := hK.mono (d' := d + 1) (by omega)
  have hx : l.getD i default = { x with size := ((ST.flats ks).length : Nat) + 1 } := k4
  have hkn : knd l i = x.kind := by unfold knd; rw [hx]
  have hvr : QE x.val 0 = true := by
   unfold Z4 at hf
   simp only [zh] at hf
   exact hf.1.1.1.1.1.1.1.1.1.1.2
  have tag : x.kind = 2 -> ∀ n, ∃ v, IdW v (Qg y (m + 1) l i n).1 /\ low v = x.key := by
   intro h2 n
   obtain ⟨v, v1, v2⟩ := QdQ (y := y) (n := n) (Y6 F.kz (F.key (.inl h2)))
   refine ⟨v, ?_, v2.trans F.low⟩
   rw [Qg]
   simp only [hx]
   rw [if_neg (by omega), if_neg (by omega), if_neg (by omega), if_neg (by omega)]
   unfold Qu
   rw [if_neg (by simp only; omega), if_pos (by simp only; omega)]
   exact v1
  have sim : Qo x.kind = true -> x.kind ≠ 1 -> x.kind ≠ 2 -> ∀ n, Q6 (d + 1) (c1 (.mk x ks)) (Qg y (m + 1) l i n).1 := by
   intro h0 h1 h2 n
   have h0' := h0
   simp only [Qo, zh, decide_eq_true_eq] at h0'
   by_cases h18 : x.kind = 18 \/ x.kind = 19 \/ x.kind = 20
   have e : c1 (.mk x ks) = .rel (QU.getD (x.kind - 18).toNat []) (css ks) := YU (by unfold VY; rw [if_neg (by omega), if_neg (by omega), if_neg (by omega), if_pos h18])
   unfold Je at hs
   rw [if_neg (by omega), if_pos h18] at hs
   obtain ⟨⟨g, rfl, hg⟩, hps⟩ := hs
   have hpg : V8 g = false := by
    have : ZN [g] = false := hps
    rw [Vw, Yn, Bool.or_false] at this
    exact this
   have ec : css [g] = cs g := by rw [css, css, zC]
   have ek : (Qa l i).getD 0 0 = i + 1 := by rw [k1]; rfl
   rw [e, ec, Qg]
   simp only [hx]
   rw [if_neg (by omega), if_neg (by omega), if_neg (by omega), if_pos h18, ek]
   simp only
   obtain ⟨mm, hm'⟩ : ∃ m : Fin 3, (x.kind - 18).toNat = m.val := ⟨⟨(x.kind - 18).toNat, by omega⟩, rfl⟩
   rw [hm']
   obtain ⟨n1, n2, n3⟩ := Qk9 mm
   obtain ⟨v, v1, v2⟩ := Y2 (y := y) (n := n) n1 n2
   generalize Qm y (QU.getD mm.val []) n = c at v1
   obtain ⟨z, p, t, L, q, g', u, g1, g2, g3, g4, g5, g6⟩ := hK.1.grp hg (Qh y c.2).2 (Qh y (Qg y m l (i + 1) (Qh y c.2).2).2).1 (Vg _ _)
   have hG := QaW.mk (SlS.mk (g1 := []) .nil g1 g2) g3
   rw [g6, hpg, <- g5, zI, zo, <- g4] at hG
   have q := Q6.rel v1 v2 n3 (Vg y c.2) hG (by rw [g4]; exact g1.1.stop)
   simpa using q
   have e : c1 (.mk x ks) = Qx x := YU (by unfold VY; rw [if_neg (by omega), if_neg (by omega), if_neg (by omega), if_neg h18])
   rw [e, Qg]
   simp only [hx]
   rw [if_neg (by omega), if_neg (by omega), if_neg (by omega), if_neg h18]
   exact (QsZ y F hvr hsx h0 h1 h2 h18 n).mono (by omega)
  have seq : QI x.kind = true -> x.kind ≠ 22 -> ∀ n, Ya (d + 1) (c1 (.mk x ks)) (V8 (.mk x ks)) (Qg y (m + 1) l i n).1 := by
   intro h0 h22 n
   by_cases h21 : x.kind = 21
   have q := cmp_p (y := y) (n := n) hr h21 hK'
   rw [Qg]
   simp only [hx]
   rw [if_neg (by omega), if_neg (by omega), if_pos h21, k1]
   exact q
   have h0s : Qo x.kind = true := by simpa [QI, h21, h22] using h0
   rw [Ub hr h0s]
   by_cases h1 : x.kind = 1
   have e : c1 (.mk x ks) = .compound [] [] := (UM hr h0s).1 h1
   have ew : (Qg y (m + 1) l i n).1 = [42] := by
    rw [Qg]
    simp only [hx]
    rw [if_neg (by omega), if_neg (by omega), if_neg (by omega), if_neg (by omega)]
    unfold Qu
    rw [if_pos (by simp only; omega)]
   rw [e, ew]
   exact Ya.star (Yi.nil (d + 1))
   by_cases h2 : x.kind = 2
   have e : c1 (.mk x ks) = .tag x.key := YU (by unfold VY Qx; rw [if_neg (by omega), if_neg (by omega), if_neg (by omega), if_neg (by omega), if_neg (by omega), if_pos h2])
   obtain ⟨v, v1, v2⟩ := tag h2 n
   have q := Ya.tag v1 (Yi.nil (d + 1))
   rw [v2, zC] at q
   rw [e]
   exact q
   have hS := sim h0s h1 h2 n
   have q := Ya.bare (Yi.cons hS (Yi.nil (d + 1))) (by simp [Jd hS.1])
   rw [zC] at q
   exact q
  refine { kn := hkn, tag := tag, sim := sim, seq := seq, sel := fun h0 n => ?_, grp := fun h23 n e he => ?_ }
  by_cases h22 : x.kind = 22
  unfold Je at hs
  rw [if_neg (by omega), if_neg (by omega), if_neg (by omega), if_pos h22] at hs
  obtain ⟨a, b, rfl, ha, hb, hb22, hpa⟩ := hs
  have ha23 : a.node.kind ≠ 23 := by simp [QI, Qo] at ha; omega
  have hb23 : b.node.kind ≠ 23 := by simp [QI, Qo] at hb; omega
  have ek0 : (Qa l i).getD 0 0 = i + 1 := by rw [k1]; rfl
  have ek1 : (Qa l i).getD 1 0 = i + 1 + a.flat.length := by rw [k1]; rfl
  have hA := hK'.1.sel ha
  have hB := hK'.2.1.seq hb hb22
  rw [show V8 a = false from hpa] at hA
  have e : c1 (.mk x [a, b]) = .combined (c1 a) (Qb6 x.op) (c1 b) := YU (by
   unfold VY
   rw [if_neg (by omega), if_pos h22, css, css, css, VG ha23, VG hb23]; rfl)
  have ep : V8 (.mk x [a, b]) = V8 b := by
   rw [ZB, QaK (by omega), Vw, Vw, Yn, show V8 a = false from hpa]; simp
  obtain ⟨o1, o2, _⟩ := F.comb h22
  rw [e, ep, Qg]
  simp only [hx]
  rw [if_neg (by omega), if_pos h22, ek0, ek1]
  by_cases o : x.op = 1
  rw [if_pos o, o, show Qb6 1 = 32 from rfl]
  have q := Yq.desc (hA n) (g := [32] ++ (Qh y (Qg y m l (i + 1) n).2).1) (QlW UE (Vg _ _)) (by simp) (hB (Qh y (Qg y m l (i + 1) n).2).2)
  simpa using q
  rw [if_neg o]
  simp only
  have key : ∀ c : UInt8, Vh c.toNat = true -> Yq (d + 1) (.combined (c1 a) c (c1 b)) (V8 b) ((Qg y m l (i + 1) n).1 ++ ((Qh y (Qg y m l (i + 1) n).2).1 ++ [c] ++ (Qh y (Qh y (Qg y m l (i + 1) n).2).2).1) ++ (Qg y m l (i + 1 + a.flat.length) (Qh y (Qh y (Qg y m l (i + 1) n).2).2).2).1) := by
   intro c hc
   have q := Yq.comb (hA n) (Vg y (Qg y m l (i + 1) n).2) hc (Vg y (Qh y (Qg y m l (i + 1) n).2).2) (hB (Qh y (Qh y (Qg y m l (i + 1) n).2).2).2)
   simpa using q
  have ho : x.op = 2 \/ x.op = 3 \/ x.op = 4 := by omega
  rcases ho with ho | ho | ho <;> rw [ho]
  exact key 62 (by decide)
  exact key 43 (by decide)
  exact key 126 (by decide)
  exact Yq.one (seq h0 h22 n)
  have h23' : x.kind = 23 := h23
  unfold Je at hs
  rw [if_pos h23'] at hs
  obtain ⟨hs1, hs2⟩ := hs
  obtain ⟨k0, us, rfl⟩ := zB hs2
  have n23 : k0.node.kind ≠ 23 := by
   have := hs1 k0 (by simp)
   simp [QI, Qo] at this; omega
  have hS0 := hK'.1.sel (hs1 k0 (by simp)) n
  obtain ⟨g, u, w, hg, he'⟩ := Ql7 (l := l) (d := d + 1) (f := Qg y m l) y he us (i + 1 + k0.flat.length) (Qg y m l (i + 1) n).2 (Qg y m l (i + 1) n).1 hK'.2 (fun k hk' => hs1 k (by simp [hk']))
  refine ⟨c1 k0, V8 k0, _, css us, ZN us, g, u, hS0, w, hg, ?_, ?_, ?_⟩
  rw [Qg]
  simp only [hx]
  rw [if_pos h23', k1, QF, zR, <- he']
  rfl
  rw [cs]; unfold VY
  rw [if_pos h23', css, VG n23]; rfl
  rw [ZB, QaK (by omega), Vw]; rfl
theorem Qrk {y : Bs} {l : List SelD} {T : ST} (e : l = T.flat) (h : ST.ht' T <= 1000) (hr : VX T) (hs : Ux T) (hk : T.node.kind = 23 \/ QI T.node.kind = true) : Q2 (VK y l) true true = some (cs T) := by
 have hd : l.drop 0 = T.flat ++ [] := by simpa using e
 have R := Qg8 (y := y) 1000 2000 0 T [] (by decide) hd h hr hs
 have hl : l.length ≠ 0 := by rw [e]; have := J4 T; omega
 unfold VK
 rw [if_neg hl]
 simp only
 by_cases h23 : T.node.kind = 23
 obtain ⟨x, p, t, L, q, g, u, g1, g2, g3, g4, g5, g6⟩ := R.grp h23 (Qh y 0).2 _ (Vg y (Qg y 2000 l 0 (Qh y 0).2).2)
 have q1 := Jh (QaW.mk (SlS.mk (Vg y 0) g1 g2) g3) (by decide) true
 rw [if_neg (by simp)] at q1
 rw [zo, g4, g5]
 simpa using q1
 have S := R.sel (hk.resolve_left h23) (Qh y 0).2
 have q1 := Jh (QaW.mk (SlS.mk (Vg y 0) S (Vg y (Qg y 2000 l 0 (Qh y 0).2).2)) (Z7.nil 1000)) (by decide) true
 rw [if_neg (by simp)] at q1
 rw [VG h23]
 simpa using q1
end Way
end
section
open Go Go.RowKit
set_option maxRecDepth 20000
def c78 (svs : List SV) (b : Option SB) : QR := match svs, b with
 | [.str l], none => some ([], .bool (JC l))
 | _, _ => none
noncomputable def W78 : Wk := ⟨[], Qp Tryz.f78, false, false, [.tmp 2], [4], [], []⟩
theorem has78 : Has 78 := hsf Tryz.f78
theorem sat78 : Sat 78 (Qv c78) := by
 have hD : Qe W78.D := Qe.nil
 refine W78.sa hD Tryz.f78 fun svs b K hP => ?_
 obtain ⟨ps, v, e, hp, hk⟩ := Qk hP
 unfold c78 at e
 split at e
 rename_i l
 cases e
 refine W78.en (K (.val (.bool ((((decide (l = [98, 101, 102, 111, 114, 101])) || (decide (l = [97, 102, 116, 101, 114]))) || (decide (l = [102, 105, 114, 115, 116, 45, 108, 105, 110, 101]))) || (decide (l = [102, 105, 114, 115, 116, 45, 108, 101, 116, 116, 101, 114]))))) none) ?_
 exact hk
 cases e
def c80 (svs : List SV) (b : Option SB) : QR := match svs, b with
 | [.int .i64 n], none => some ([], .bool (Qo n))
 | _, _ => none
noncomputable def W80 : Wk := ⟨[], Qp Tryz.f80, false, false, [.tmp 2], [4], [], []⟩
theorem Qq3 : Has 80 := hsf Tryz.f80
theorem QqA : Sat 80 (Qv c80) := by
 have hD : Qe W80.D := Qe.nil
 refine W80.sa hD Tryz.f80 fun svs b K hP => ?_
 obtain ⟨ps, v, e, hp, hk⟩ := Qk hP
 unfold c80 at e
 split at e
 rename_i n
 cases e
 refine W80.en (K (.val (.bool ((decide ((1 : Int) <= n)) && (decide (n <= (20 : Int)))))) none) ?_
 exact hk
 cases e
def c81 (svs : List SV) (b : Option SB) : QR := match svs, b with
 | [.int .i64 n], none => some ([0 <= n /\ n < 9], .str (Vj.getD n.toNat []))
 | _, _ => none
noncomputable def W81 : Wk := ⟨[], Qp Tryz.f81, false, false, [.tmp 2], [9], [], []⟩
theorem Qq2 : Has 81 := hsf Tryz.f81
theorem naz0 {p q : Prop} (k : q) (h : p := by first | omega | (simp; done) | (simp; omega) | (simp; assumption)) : p /\ q := ⟨h, k⟩
theorem Qqz : Sat 81 (Qv c81) := by
 have hD : Qe W81.D := Qe.nil
 refine W81.sa hD Tryz.f81 fun svs b K hP => ?_
 obtain ⟨ps, v, e, hp, hk⟩ := Qk hP
 unfold c81 at e
 split at e
 rename_i n
 cases e
 obtain ⟨h01, _⟩ := hp
 refine W81.en ((0 <= n /\ n < (9 : Nat)) /\ ((n).toNat < 9) /\ K (.val (.str (([[], [], [61], [33, 61], [126, 61], [124, 61], [94, 61], [36, 61], [42, 61]] : List (List UInt8)).getD ((n).toNat) []))) none) ?_
 refine naz0 (naz0 ?_)
 exact hk
 cases e
theorem QuD {l : List SelD} {i : Nat} (h : i < l.length) (e : V7 (l.getD i default) = true) : l.any V7 = true := by
 rw [List.any_eq_true]
 refine ⟨l[i], List.getElem_mem h, ?_⟩
 rw [za, zi h] at e
 exact e
theorem QuB {l : List SelD} (e : ∀ j, j < l.length -> V7 (l.getD j default) = false) : l.any V7 = false := by
 rw [xr]
 intro x hx
 obtain ⟨i, hi, rfl⟩ := List.getElem_of_mem hx
 have := e i hi
 rw [za, zi hi] at this
 simpa using this
def c79 (svs : List SV) (b : Option SB) : QR := match svs, b with
 | [.sl (.sels l)], none => some ([l.length <= 1000000000], .bool (l.any V7))
 | _, _ => none
noncomputable def W79 : Wk := ⟨[], Qp Tryz.f79, false, false, [.tmp 2], [4], [(2, 9)], []⟩
theorem has79 : Has 79 := hsf Tryz.f79
theorem naz1 {c0 p0 q : Prop} (k : q) (h : c0 -> p0 /\ True := by intro g0; (try simp at g0); exact ⟨(by first | omega | (simp; done) | (simp; omega) | (simp; assumption)), trivial⟩) : (c0 -> p0 /\ True) /\ q := ⟨h, k⟩
theorem sat79 : Sat 79 (Qv c79) := by
 have hD : Qe W79.D := Qe.nil
 refine W79.sa hD Tryz.f79 fun svs b K hP => ?_
 obtain ⟨ps, v, e, hp, hk⟩ := Qk hP
 unfold c79 at e
 split at e
 rename_i l
 cases e
 obtain ⟨h01, _⟩ := hp
 have L2 : ∀ (mm : Nat) (i : Nat), l.length - i = mm -> (i <= l.length /\ ∀ j, j < i -> V7 (l.getD j default) = false) -> W79.L K 2 (mkS 24 [(0, (.sl (.sels l))), (3, (.nat i))] [] 1) := by
  intro mm
  induction mm using zl with
  | _ mm ih =>
   intro i hm hI
   obtain ⟨k1, k2⟩ := hI
   refine W79.aL hD (have a0 := decide ((l.getD i default).kind = (21 : Int)); cond (decide (i < l.length)) ((i < l.length) /\ (a0 = true -> (i < l.length) /\ True) /\ cond (a0 && (!(decide ((l.getD i default).val = [])))) (K (.val (.bool true)) none) ((i + 1 <= 9223372036854775807) /\ (W79).L K 2 (mkS 24 [(0, (.sl (.sels l))), (3, (.nat (i + 1)))] [] 1))) (K (.val (.bool false)) none)) ?_
   refine Qc ?_ ?_ <;> intro h1 <;> try simp [-za, -zb] at h1
   refine naz0 (naz1 ?_)
   refine Qc ?_ ?_ <;> intro h2 <;> try simp [-za, -zb] at h2
   rw [QuD h1 (by unfold V7; simpa using h2)] at hk
   exact hk
   refine naz0 ?_
   exact ih _ (by omega) _ rfl ⟨by omega, fun j hj => by
    rcases (by omega : j < i \/ j = i) with q | q
    exact k2 j q
    subst q; unfold V7; simpa using h2⟩
   rw [QuB (fun j hj => k2 j (by omega))] at hk
   exact hk
 refine W79.en ((W79).L K 2 (mkS 24 [(0, (.sl (.sels l))), (3, (.nat 0))] [] 1)) ?_
 exact L2 _ _ rfl ⟨by omega, fun j hj => by omega⟩
 cases e
theorem QhY (n : Nat) : (Vi n).length <= n + 1 := by
 induction n using zl with
 | _ n ih =>
  rw [Vi]
  split
  simp; omega
  have h1 := ih (n / 10) (by omega)
  have h2 := ih (n % 10) (by omega)
  simp only [zd]
  omega
def c101 (m : Nat) (svs : List SV) (b : Option SB) : QR := match svs, b with
 | [.nat n], none => some ([n < m, n <= 1000000000000000000], .str (Vi n))
 | _, _ => none
theorem Qga : Has 101 := hsf Tryz.f101
def Qri (m : Nat) (svs : List SV) (b : Option SB) : QR := match svs, b with
 | [.nat n], none => some ([n < m + 1, n <= 1000000000000000000], .str (Vi n))
 | _, _ => none
noncomputable def W101 (m : Nat) : Wk := ⟨[(101, .pure (c101 m))], Qp Tryz.f101, false, false, [.tmp 2], [9], [], []⟩
theorem QfN {p q : Prop} (k : q) (h : p := by first | omega | (simp; done) | (simp; omega) | (dsimp only; omega) | (refine ⟨?_, ?_⟩ <;> omega) | (have h8 := QhY (n / 10); have h9 := QhY (n % 10); omega)) : p /\ q := ⟨h, k⟩
theorem Qo2 (m : Nat) (hG : Sat 101 (Qv (c101 m))) : Sat 101 (Qv (Qri m)) := by
 have hD : Qe (W101 m).D := (Qe.cons Qga hG Qe.nil)
 refine (W101 m).sa hD Tryz.f101 fun svs b K hP => ?_
 obtain ⟨ps, v, e, hp, hk⟩ := Qk hP
 unfold Qri at e
 split at e
 rename_i n
 cases e
 obtain ⟨h01, h02, _⟩ := hp
 refine (W101 m).en (cond (decide (n < 10)) ((n + 1 <= 9223372036854775807) /\ (n <= n + 1 /\ n + 1 <= 10) /\ K (.val (.str (([48, 49, 50, 51, 52, 53, 54, 55, 56, 57].take (n + 1)).drop n))) none) ((n <= 9223372036854775807 /\ 0 < 10) /\ (n / 10 < m) /\ (n / 10 <= 1000000000000000000) /\ (0 < 10) /\ (n % 10 < m) /\ (n % 10 <= 1000000000000000000) /\ ((Vi (n / 10)).length + (Vi (n % 10)).length <= 2305843009213693952) /\ K (.val (.str (Vi (n / 10) ++ (Vi (n % 10))))) none)) ?_
 refine Qc ?_ ?_ <;> intro h1 <;> try simp [-za, -zb] at h1
 refine QfN (QfN ?_)
 rw [Vi, if_pos h1] at hk
 exact hk
 refine QfN (QfN (QfN (QfN (QfN (QfN (QfN ?_))))))
 rw [Vi, if_neg (by omega)] at hk
 exact hk
 cases e
theorem Qmz : ∀ m, Sat 101 (Qv (c101 m))
 | 0 => by
  intro g0 w M ω svs args b K hS hn hr hP
  obtain ⟨ps, v, e, hp, hk⟩ := Qk hP
  unfold c101 at e
  split at e
  cases e; exact absurd hp.1 (Nat.not_lt_zero _)
  cases e
 | m + 1 => Qo2 m (Qmz m)
theorem Qiz : Sat 101 (Qv fun svs b => match svs, b with
 | [.nat n], none => some ([n <= 1000000000000000000], .str (Vi n))
 | _, _ => none) := by
 refine Sat.imp (Sat.ex Qmz) fun svs b K h => ?_
 obtain ⟨ps, v, e, hp, hk⟩ := Qk h
 split at e
 rename_i n
 cases e
 exact ⟨n + 1, xt n, hp.1, hk⟩
 cases e
def Qh8 (svs : List SV) (b : Option SB) : QR := match svs, b with
 | [x], none => match toI x with
  | some n => some ([0 <= n /\ n <= 1000000000000000000], .str (Vi n.toNat))
  | _ => none
 | _, _ => none
theorem Qfr : Sat 101 (Qv Qh8) := by
 refine Sat.wk Qiz fun svs b K h => ?_
 obtain ⟨ps, v, e, hp, hk⟩ := Qk h
 unfold Qh8 at e
 split at e
 rename_i x
 split at e
 rename_i n hx
 cases e
 refine ⟨[.nat n.toNat], ⟨fun ω v hr => ?_, trivial⟩, by have := hp.1; omega, hk⟩
 have q := YD hx hr
 have q2 := q.int_inv
 subst q2
 have q3 := Rel.nat (ω := ω) n.toNat
 rwa [show ((n.toNat : Nat) : Int) = n by have := hp.1; omega] at q3
 cases e
 cases e
end
section
open Go Go.RowKit
set_option maxRecDepth 20000
theorem Vf {K : Out -> Option SB -> Prop} {a c : List UInt8} (hk : K (.val (.str a)) none) (e : a = c) : K (.val (.str c)) none := by rw [e] at hk; exact hk
theorem Qfm {s : Bs} {i : Nat} (h : i < s.length) : (s.take (i + 1)).drop i = [s.getD i 0] := by
 rw [List.drop_take, Nat.add_sub_cancel_left, zP h, List.take_succ_cons, List.take_zero]
 simp [za, zi h]
theorem Qre {s : Bs} {i : Nat} (h : i < s.length) : s.drop i = s.getD i 0 :: s.drop (i + 1) := by
 rw [zP h]
 simp [za, zi h]
theorem Ur (s : Bs) (i : Nat) : bat s i < 256 := QcI _
theorem QfL {s o P X : Bs} {h i : Nat} (h1 : i < s.length) (k2 : o ++ nmF h i (s.drop i) = X) (e : nmP h i (s.getD i 0) = P) : (o ++ P) ++ nmF h (i + 1) (s.drop (i + 1)) = X := by
 rw [Qre h1, nmF, e] at k2
 rw [zo]; exact k2
theorem nmP_1 {s : Bs} {i : Nat} (h : ((bat s i < 32 \/ bat s i = 127) \/ (48 <= bat s i /\ bat s i <= 57) /\ (i = 0 \/ i = 1 /\ bat s 0 = 45)) \/ (bat s i = 45 /\ i = 1) /\ bat s 0 = 45) : nmP (bat s 0) i (s.getD i 0) = VQ (bat s i) := by
 unfold nmP
 rw [if_pos]
 rfl
 show bat s i < 32 \/ bat s i = 127 \/ (Qw (bat s i) = true /\ (i = 0 \/ (i = 1 /\ bat s 0 = 45))) \/ (bat s i = 45 /\ i = 1 /\ bat s 0 = 45)
 simp only [Qw, zh, decide_eq_true_eq]; omega
theorem QqX {s : Bs} {i : Nat} (h : ((32 <= bat s i /\ ¬bat s i = 127) /\ (48 <= bat s i -> bat s i <= 57 -> ¬i = 0 /\ (i = 1 -> ¬bat s 0 = 45))) /\ (bat s i = 45 -> i = 1 -> ¬bat s 0 = 45)) :
 nmP (bat s 0) i (s.getD i 0) = if QG (bat s i) = true then [s.getD i 0] else [92, s.getD i 0] := by
 unfold nmP
 rw [if_neg]
 rfl
 show ¬ (bat s i < 32 \/ bat s i = 127 \/ (Qw (bat s i) = true /\ (i = 0 \/ (i = 1 /\ bat s 0 = 45))) \/ (bat s i = 45 /\ i = 1 /\ bat s 0 = 45))
 simp only [Qw, zh, decide_eq_true_eq]; omega
theorem QiG {s o P X : Bs} {i : Nat} (h1 : i < s.length) (k2 : o ++ qF (s.drop i) = X) (e : qP (s.getD i 0) = P) : (o ++ P) ++ qF (s.drop (i + 1)) = X := by
 rw [Qre h1, qF, e] at k2
 rw [zo]; exact k2
theorem QmJ (s : Bs) (i : Nat) : qP (s.getD i 0) = if bat s i < 32 \/ bat s i = 127 then VQ (bat s i) else if bat s i = 34 \/ bat s i = 92 then [92, s.getD i 0] else [s.getD i 0] := rfl
def Qec (x : SelD) : Bool := !decide (2147483647 < x.key.length) && !decide (2147483647 < x.val.length)
def Qbp (l : List SelD) : Bool := !decide (2147483647 < l.length) && (zH l.length).all (fun i => Qec (l.getD i default))
def QaI (s : Bs) : Bool := (zH s.length).all (fun i => !(decide (128 <= bat s i) || (decide (65 <= bat s i) && decide (bat s i <= 90))))
def c30i (svs : List SV) (b : Option SB) : QR := match svs, b with
 | [.agg [.int .i64 k, .int .i64 o, .str ke, .str va, .int .i64 a, .int .i64 bb, .int .i64 fl, .int .i64 sz]], none => some ([], .bool (Qec ⟨k, o, ke, va, a, bb, fl, sz⟩))
 | _, _ => none
noncomputable def W30 : Wk := ⟨[], Qp Tryz.f30, false, false, [.tmp 2], [4], [], []⟩
theorem has30 : Has 30 := hsf Tryz.f30
theorem QrD : Sat 30 (Qv c30i) := by
 have hD : Qe W30.D := Qe.nil
 refine W30.sa hD Tryz.f30 fun svs b K hP => ?_
 obtain ⟨ps, v, e, hp, hk⟩ := Qk hP
 unfold c30i at e
 split at e
 rename_i k o ke va a bb fl sz
 cases e
 refine W30.en (cond (decide (2147483647 < ke.length)) (K (.val (.bool false)) none) (cond (decide (2147483647 < va.length)) (K (.val (.bool false)) none) (K (.val (.bool true)) none))) ?_
 refine Qc (fun h1 => ?_) (fun h1 => ?_)
 skip
 refine Vb hk ?_
 simp only [Qec]
 simp [*]
 skip
 refine Qc (fun h2 => ?_) (fun h2 => ?_)
 skip
 refine Vb hk ?_
 simp only [Qec]
 simp [*]
 skip
 refine Vb hk ?_
 simp only [Qec]
 simp [*]
 cases e
def c30 (svs : List SV) (b : Option SB) : QR := match svs, b with
 | [x], none => match QbV x with
  | some x => some ([], .bool (Qec x))
  | _ => none
 | _, _ => none
theorem sat30 : Sat 30 (Qv c30) := by
 refine Sat.wk QrD fun svs b K h => ?_
 obtain ⟨ps, v, e, hp, hk⟩ := Qk h
 unfold c30 at e
 split at e
 rename_i x
 split at e
 rename_i x' hx
 cases e
 exact ⟨[.agg (Vq x')], ⟨fun ω v => Z8 hx, trivial⟩, hk⟩
 cases e
 cases e
def c14 (svs : List SV) (b : Option SB) : QR := match svs, b with
 | [.sl (.sels l)], none => some ([l.length <= 9223372036854775807], .bool (Qbp l))
 | _, _ => none
noncomputable def W14 : Wk := ⟨[(30, .pure c30)], Qp Tryz.f14, false, false, [.tmp 2], [4], [(4, 1792)], []⟩
theorem has14 : Has 14 := hsf Tryz.f14
theorem QiT {p q : Prop} (k : q) (h : p := by first | omega | (simp; done) | (simp; omega) | (simp; assumption)) : p /\ q := ⟨h, k⟩
theorem sat14 : Sat 14 (Qv c14) := by
 have hD : Qe W14.D := (Qe.cons has30 sat30 Qe.nil)
 refine W14.sa hD Tryz.f14 fun svs b K hP => ?_
 obtain ⟨ps, v, e, hp, hk⟩ := Qk hP
 unfold c14 at e
 split at e
 rename_i l
 cases e
 obtain ⟨h01, _⟩ := hp
 have L4 : ∀ (mm : Nat) (i : Nat), l.length - i = mm -> (l.length <= 2147483647 /\ i <= l.length /\ ∀ j, j < i -> Qec (l.getD j default) = true) -> W14.L K 4 (mkS 18 [(8, (.sl (.sels l))), (9, (.nat l.length)), (10, (.nat i))] [] 1) := by
  intro mm
  induction mm using zl with
  | _ mm ih =>
   intro i hm hI
   obtain ⟨k0, k1, k2⟩ := hI
   refine W14.aL hD (have a0 := l.getD i default; cond (decide (i < l.length)) ((i < l.length) /\ cond (!(Qec (SelD.mk (a0.kind) (a0.op) (a0.key) (a0.val) (a0.a) (a0.b) (a0.flag) (a0.size)))) (K (.val (.bool false)) none) ((i + 1 <= 9223372036854775807) /\ (W14).L K 4 (mkS 18 [(8, (.sl (.sels l))), (9, (.nat l.length)), (10, (.nat (i + 1)))] [(1, .blk 33 [(.int .i64 (a0.kind)), (.int .i64 (a0.op)), (.str (a0.key)), (.str (a0.val)), (.int .i64 (a0.a)), (.int .i64 (a0.b)), (.int .i64 (a0.flag)), (.int .i64 (a0.size))])] 2))) (K (.val (.bool true)) none)) ?_
   refine Qc ?_ ?_ <;> intro h1 <;> try simp [-za, -zb] at h1
   refine QiT ?_
   refine Qc ?_ ?_ <;> intro h2 <;> try simp [-za, -zb] at h2
   refine Vb hk ?_
   unfold Qbp
   rw [Uu (p := fun i => Qec (l.getD i default)) h1 h2, Bool.and_false]
   refine QiT ?_
   exact Wk.L.rn [0] (ih _ (by omega) (i + 1) rfl ⟨k0, by omega, fun j hj => by
    rcases (by omega : j < i \/ j = i) with q | q
    exact k2 j q
    subst q; exact h2⟩)
   refine Vb hk ?_
   unfold Qbp
   rw [J6 (fun j hj => k2 j (by omega))]
   simp; omega
 refine W14.en (cond (decide (2147483647 < l.length)) (K (.val (.bool false)) none) ((W14).L K 4 (mkS 18 [(8, (.sl (.sels l))), (9, (.nat l.length)), (10, (.nat 0))] [] 1))) ?_
 refine Qc ?_ ?_ <;> intro h1 <;> try simp [-za, -zb] at h1
 refine Vb hk ?_
 unfold Qbp
 rw [decide_eq_true h1]; rfl
 exact L4 _ 0 rfl ⟨by omega, by omega, fun j hj => by omega⟩
 cases e
def c31 (svs : List SV) (b : Option SB) : QR := match svs, b with
 | [.str s], none => some ([s.length <= 1000000000000], .bool (QaI s))
 | _, _ => none
noncomputable def W31 : Wk := ⟨[], Qp Tryz.f31, false, false, [.tmp 2], [4], [(2, 9)], []⟩
theorem has31 : Has 31 := hsf Tryz.f31
theorem nbz2 {c0 c1 p0 q : Prop} (k : q) (h : c0 -> c1 -> p0 /\ True := by intro g0 g1; (try simp at g0); (try simp at g1); exact ⟨(by first | omega | (simp; done) | (simp; omega) | (simp; assumption)), trivial⟩) : (c0 -> c1 -> p0 /\ True) /\ q := ⟨h, k⟩
theorem Qnd {c0 p0 q : Prop} (k : q) (h : c0 -> p0 /\ True := by intro g0; (try simp at g0); exact ⟨(by first | omega | (simp; done) | (simp; omega) | (simp; assumption)), trivial⟩) : (c0 -> p0 /\ True) /\ q := ⟨h, k⟩
theorem sat31 : Sat 31 (Qv c31) := by
 have hD : Qe W31.D := Qe.nil
 refine W31.sa hD Tryz.f31 fun svs b K hP => ?_
 obtain ⟨ps, v, e, hp, hk⟩ := Qk hP
 unfold c31 at e
 split at e
 rename_i s
 cases e
 obtain ⟨h01, _⟩ := hp
 have L2 : ∀ (mm : Nat) (i : Nat), s.length - i = mm -> (i <= s.length /\ ∀ j, j < i -> (!(decide (128 <= bat s j) || (decide (65 <= bat s j) && decide (bat s j <= 90)))) = true) -> W31.L K 2 (mkS 26 [(0, (.str s)), (3, (.nat i))] [] 1) := by
  intro mm
  induction mm using zl with
  | _ mm ih =>
   intro i hm hI
   obtain ⟨k1, k2⟩ := hI
   refine W31.aL hD (have a0 := decide (128 <= bat s i); cond (decide (i < s.length)) ((i < s.length) /\ (a0 = false -> (i < s.length) /\ True) /\ (a0 = false -> (decide (65 <= bat s i)) = true -> (i < s.length) /\ True) /\ cond (a0 || ((decide (65 <= bat s i)) && (decide (bat s i <= 90)))) (K (.val (.bool false)) none) ((i + 1 <= 9223372036854775807) /\ (W31).L K 2 (mkS 26 [(0, (.str s)), (3, (.nat (i + 1)))] [] 1))) (K (.val (.bool true)) none)) ?_
   refine Qc ?_ ?_ <;> intro h1 <;> try simp [-za, -zb] at h1
   refine QiT (Qnd (nbz2 ?_))
   refine Qc ?_ ?_ <;> intro h2 <;> try simp [-za, -zb] at h2
   refine Vb hk ?_
   unfold QaI
   rw [Uu h1 (by simp; omega)]
   refine QiT ?_
   exact ih _ (by omega) (i + 1) rfl ⟨by omega, fun j hj => by
    rcases (by omega : j < i \/ j = i) with q | q
    exact k2 j q
    subst q; simp; omega⟩
   refine Vb hk ?_
   unfold QaI
   rw [J6 (fun j hj => k2 j (by omega))]
 refine W31.en ((W31).L K 2 (mkS 26 [(0, (.str s)), (3, (.nat 0))] [] 1)) ?_
 exact L2 _ 0 rfl ⟨by omega, fun j hj => by omega⟩
 cases e
def c55 (svs : List SV) (b : Option SB) : QR := match svs, b with
 | [.int .i64 n], none => some ([], .bool (QI n))
 | _, _ => none
noncomputable def W55 : Wk := ⟨[(80, .pure c80)], Qp Tryz.f55, false, false, [.tmp 2], [4], [], []⟩
theorem Qq6 : Has 55 := hsf Tryz.f55
theorem QqD : Sat 55 (Qv c55) := by
 have hD : Qe W55.D := (Qe.cons Qq3 QqA Qe.nil)
 refine W55.sa hD Tryz.f55 fun svs b K hP => ?_
 obtain ⟨ps, v, e, hp, hk⟩ := Qk hP
 unfold c55 at e
 split at e
 rename_i n
 cases e
 refine W55.en (K (.val (.bool (((Qo n) || (decide (n = (21 : Int)))) || (decide (n = (22 : Int)))))) none) ?_
 exact hk
 cases e
def c88 (svs : List SV) (b : Option SB) : QR := match svs, b with
 | [.nat n], none => some ([n <= 2147483647], .str (VQ n))
 | _, _ => none
noncomputable def W88 : Wk := ⟨[], Qp Tryz.f88, false, false, [.tmp 2], [9], [(2, 9)], []⟩
theorem QhM : Has 88 := hsf Tryz.f88
theorem Qhn {p q : Prop} (k : q) (h : p := by first | omega | (simp; done) | (simp; omega) | (simp only [zd, zj, zk, ze, zf]; omega)) : p /\ q := ⟨h, k⟩
theorem QgS : Sat 88 (Qv c88) := by
 have hD : Qe W88.D := Qe.nil
 refine W88.sa hD Tryz.f88 fun svs b K hP => ?_
 obtain ⟨ps, v, e, hp, hk⟩ := Qk hP
 unfold c88 at e
 split at e
 rename_i n
 cases e
 obtain ⟨h01, _⟩ := hp
 have L2 : ∀ (mm : Nat) (c : Nat) (o : List UInt8), c = mm -> (Qeb n [] = Qeb c o /\ o.length + c <= 2147483647) -> W88.L K 2 (mkS 19 [(0, (.nat c)), (3, (.str o))] [] 1) := by
  intro mm
  induction mm using zl with
  | _ mm ih =>
   intro c o hm hI
   obtain ⟨k1, k2⟩ := hI
   refine W88.aL hD (have a0 := ([48, 49, 50, 51, 52, 53, 54, 55, 56, 57, 97, 98, 99, 100, 101, 102] : List UInt8).take (c % 16 + 1); cond (decide (0 < c)) ((0 < 16) /\ (0 < 16) /\ (c % 16 + 1 <= 9223372036854775807) /\ (c % 16 <= c % 16 + 1 /\ c % 16 + 1 <= 16) /\ ((a0.drop (c % 16)).length + o.length <= 2305843009213693952) /\ (c <= 9223372036854775807 /\ 0 < 16) /\ (W88).L K 2 (mkS 19 [(0, (.nat (c / 16))), (3, (.str (a0.drop (c % 16) ++ o)))] [] 1)) ((1 + o.length <= 2305843009213693952) /\ (([92] ++ o).length + 1 <= 2305843009213693952) /\ K (.val (.str ([92] ++ o ++ [32]))) none)) ?_
   refine Qc ?_ ?_ <;> intro h1 <;> try simp [-za, -zb] at h1
   refine Qhn (Qhn (Qhn (Qhn (Qhn (Qhn ?_)))))
   have e := k1
   rw [show Qeb c o = _ from Qeb.eq_1 c o, if_pos h1] at e
   exact ih _ (by omega) (c / 16) _ rfl ⟨e, by simp only [zd, zj, zk, ze, zf]; omega⟩
   refine Qhn (Qhn ?_)
   refine Vf hk ?_
   unfold VQ
   rw [k1, Qeb, if_neg (by omega)]
   rfl
 refine W88.en ((W88).L K 2 (mkS 19 [(0, (.nat n)), (3, (.str []))] [] 1)) ?_
 exact L2 _ n [] rfl ⟨rfl, by simp; omega⟩
 cases e
def c62 (svs : List SV) (b : Option SB) : QR := match svs, b with
 | [.str s], none => some ([s.length <= 100000], .str (Qr s))
 | _, _ => none
noncomputable def W62 : Wk := ⟨[(88, .pure c88), (89, .pure c89)], Qp Tryz.f62, false, false, [.tmp 2], [9], [(5, 25)], []⟩
theorem QeY : Has 62 := hsf Tryz.f62
theorem nbz6 {c0 c1 p0 q : Prop} (k : q) (h : c0 -> c1 -> p0 /\ True := by intro g0 g1; (try simp at g0); (try simp at g1); exact ⟨(by first | omega | (simp; done) | (have q1 := Y1 (Ur s i); omega) | (simp only [zd, zj, zk, ze, zf]; omega)), trivial⟩) : (c0 -> c1 -> p0 /\ True) /\ q := ⟨h, k⟩
theorem nbz5 {c0 c1 c2 c3 p0 q : Prop} (k : q) (h : c0 -> c1 -> c2 -> c3 -> p0 /\ True := by intro g0 g1 g2 g3; (try simp at g0); (try simp at g1); (try simp at g2); (try simp at g3); exact ⟨(by first | omega | (simp; done) | (have q1 := Y1 (Ur s i); omega) | (simp only [zd, zj, zk, ze, zf]; omega)), trivial⟩) : (c0 -> c1 -> c2 -> c3 -> p0 /\ True) /\ q := ⟨h, k⟩
theorem Zq {p q : Prop} (k : q) (h : p := by first | omega | (simp; done) | (have q1 := Y1 (Ur s i); omega) | (simp only [zd, zj, zk, ze, zf]; omega)) : p /\ q := ⟨h, k⟩
theorem Qer : Sat 62 (Qv c62) := by
 have hD : Qe W62.D := (Qe.cons QhM QgS (Qe.cons has89 sat89 Qe.nil))
 refine W62.sa hD Tryz.f62 fun svs b K hP => ?_
 obtain ⟨ps, v, e, hp, hk⟩ := Qk hP
 unfold c62 at e
 split at e
 rename_i s
 cases e
 obtain ⟨h01, _⟩ := hp
 have L5 : ∀ (mm : Nat) (i : Nat) (o : List UInt8), s.length - i = mm -> (i <= s.length /\ o ++ nmF (bat s 0) i (s.drop i) = nmF (bat s 0) 0 s /\ o.length <= 4 * i /\ s ≠ [45]) -> W62.L K 5 (mkS 84 [(0, (.str s)), (3, (.str o)), (4, (.nat i))] [] 1) := by
  intro mm
  induction mm using zl with
  | _ mm ih =>
   intro i o hm hI
   obtain ⟨k1, k2, k3, k4⟩ := hI
   refine W62.aL hD (have a0 := ((decide (bat s i < 32)) || (decide (bat s i = 127))) || (((decide (48 <= bat s i)) && (decide (bat s i <= 57))) && ((decide (i = 0)) || ((decide (i = 1)) && (decide (bat s 0 = 45))))); have a1 := i + 1 <= 9223372036854775807; have a2 := (s.take (i + 1)).drop i; cond (decide (i < s.length)) ((i < s.length) /\ (((decide (bat s i < 32)) || (decide (bat s i = 127))) = false -> ((decide (48 <= bat s i)) && (decide (bat s i <= 57))) = true -> (decide (i = 0)) = false -> (decide (i = 1)) = true -> (0 < s.length) /\ True) /\ (a0 = false -> ((decide (bat s i = 45)) && (decide (i = 1))) = true -> (0 < s.length) /\ True) /\ cond (a0 || (((decide (bat s i = 45)) && (decide (i = 1))) && (decide (bat s 0 = 45)))) ((bat s i <= 2147483647) /\ (o.length + (VQ (bat s i)).length <= 2305843009213693952) /\ a1 /\ (W62).L K 5 (mkS 84 [(0, (.str s)), (3, (.str (o ++ (VQ (bat s i))))), (4, (.nat (i + 1)))] [] 1)) (cond (QG (bat s i)) (a1 /\ (i <= i + 1 /\ i + 1 <= s.length) /\ (o.length + a2.length <= 2305843009213693952) /\ a1 /\ (W62).L K 5 (mkS 84 [(0, (.str s)), (3, (.str (o ++ a2))), (4, (.nat (i + 1)))] [] 1)) (a1 /\ (i <= i + 1 /\ i + 1 <= s.length) /\ (1 + a2.length <= 2305843009213693952) /\ (o.length + ([92] ++ a2).length <= 2305843009213693952) /\ a1 /\ (W62).L K 5 (mkS 84 [(0, (.str s)), (3, (.str (o ++ ([92] ++ a2)))), (4, (.nat (i + 1)))] [] 1)))) (K (.val (.str o)) none)) ?_
   refine Qc ?_ ?_ <;> intro h1 <;> try simp [-za, -zb] at h1
   refine Zq (nbz5 (nbz6 ?_))
   refine Qc ?_ ?_ <;> intro h2 <;> try simp [-za, -zb] at h2
   refine Zq (Zq (Zq ?_))
   have q1 := Y1 (Ur s i)
   exact ih _ (by omega) (i + 1) _ rfl ⟨by omega, QfL h1 k2 (nmP_1 h2), by rw [zd]; omega, k4⟩
   refine Qc (fun h3 => ?_) (fun h3 => ?_)
   try simp [-za, -zb] at h3
   refine Zq (Zq (Zq (Zq ?_)))
   rw [Qfm h1]
   exact ih _ (by omega) (i + 1) _ rfl ⟨by omega, QfL h1 k2 (by rw [QqX h2, if_pos h3]), by simp; omega, k4⟩
   try simp [-za, -zb] at h3
   refine Zq (Zq (Zq (Zq (Zq ?_))))
   rw [Qfm h1]
   exact ih _ (by omega) (i + 1) _ rfl ⟨by omega, QfL h1 k2 (by rw [QqX h2, if_neg (by rw [h3]; exact zE)]; rfl), by simp; omega, k4⟩
   refine Vf hk ?_
   unfold Qr
   rw [if_neg k4, <- k2, xk h1, nmF, zC]
 refine W62.en (cond (decide (s = [45])) (K (.val (.str [92, 45])) none) ((W62).L K 5 (mkS 84 [(0, (.str s)), (3, (.str [])), (4, (.nat 0))] [] 1))) ?_
 refine Qc ?_ ?_ <;> intro h1 <;> try simp [-za, -zb] at h1
 refine Vf hk ?_
 unfold Qr
 rw [if_pos h1]
 exact L5 _ 0 [] rfl ⟨by omega, rfl, by simp, h1⟩
 cases e
def c82 (svs : List SV) (b : Option SB) : QR := match svs, b with
 | [.str s], none => some ([s.length <= 100000], .str (QQ s))
 | _, _ => none
noncomputable def W82 : Wk := ⟨[(88, .pure c88)], Qp Tryz.f82, false, false, [.tmp 2], [9], [(3, 25)], []⟩
theorem QnI : Has 82 := hsf Tryz.f82
theorem Qms : Sat 82 (Qv c82) := by
 have hD : Qe W82.D := (Qe.cons QhM QgS Qe.nil)
 refine W82.sa hD Tryz.f82 fun svs b K hP => ?_
 obtain ⟨ps, v, e, hp, hk⟩ := Qk hP
 unfold c82 at e
 split at e
 rename_i s
 cases e
 obtain ⟨h01, _⟩ := hp
 have L3 : ∀ (mm : Nat) (i : Nat) (o : List UInt8), s.length - i = mm -> (i <= s.length /\ o ++ qF (s.drop i) = 34 :: qF s /\ o.length <= 4 * i + 1) -> W82.L K 3 (mkS 51 [(0, (.str s)), (3, (.str o)), (4, (.nat i))] [] 1) := by
  intro mm
  induction mm using zl with
  | _ mm ih =>
   intro i o hm hI
   obtain ⟨k1, k2, k3⟩ := hI
   refine W82.aL hD (have a0 := i + 1 <= 9223372036854775807; have a1 := (s.take (i + 1)).drop i; cond (decide (i < s.length)) ((i < s.length) /\ cond ((decide (bat s i < 32)) || (decide (bat s i = 127))) ((bat s i <= 2147483647) /\ (o.length + (VQ (bat s i)).length <= 2305843009213693952) /\ a0 /\ (W82).L K 3 (mkS 51 [(0, (.str s)), (3, (.str (o ++ (VQ (bat s i))))), (4, (.nat (i + 1)))] [] 1)) (cond ((decide (bat s i = 34)) || (decide (bat s i = 92))) (a0 /\ (i <= i + 1 /\ i + 1 <= s.length) /\ (1 + a1.length <= 2305843009213693952) /\ (o.length + ([92] ++ a1).length <= 2305843009213693952) /\ a0 /\ (W82).L K 3 (mkS 51 [(0, (.str s)), (3, (.str (o ++ ([92] ++ a1)))), (4, (.nat (i + 1)))] [] 1)) (a0 /\ (i <= i + 1 /\ i + 1 <= s.length) /\ (o.length + a1.length <= 2305843009213693952) /\ a0 /\ (W82).L K 3 (mkS 51 [(0, (.str s)), (3, (.str (o ++ a1))), (4, (.nat (i + 1)))] [] 1)))) ((o.length + 1 <= 2305843009213693952) /\ K (.val (.str (o ++ [34]))) none)) ?_
   refine Qc ?_ ?_ <;> intro h1 <;> try simp [-za, -zb] at h1
   refine Zq ?_
   refine Qc ?_ ?_ <;> intro h2 <;> try simp [-za, -zb] at h2
   refine Zq (Zq (Zq ?_))
   have q1 := Y1 (Ur s i)
   exact ih _ (by omega) (i + 1) _ rfl ⟨by omega, QiG h1 k2 (by rw [QmJ, if_pos h2]), by rw [zd]; omega⟩
   refine Qc (fun h3 => ?_) (fun h3 => ?_)
   try simp [-za, -zb] at h3
   refine Zq (Zq (Zq (Zq (Zq ?_))))
   rw [Qfm h1]
   exact ih _ (by omega) (i + 1) _ rfl ⟨by omega, QiG h1 k2 (by rw [QmJ, if_neg (by omega), if_pos h3]; rfl), by simp; omega⟩
   try simp [-za, -zb] at h3
   refine Zq (Zq (Zq (Zq ?_)))
   rw [Qfm h1]
   exact ih _ (by omega) (i + 1) _ rfl ⟨by omega, QiG h1 k2 (by rw [QmJ, if_neg (by omega), if_neg (by omega)]), by simp; omega⟩
   refine Zq ?_
   refine Vf hk ?_
   unfold QQ
   rw [xk h1, qF, zC] at k2
   rw [k2]; rfl
 refine W82.en ((W82).L K 3 (mkS 51 [(0, (.str s)), (3, (.str [34])), (4, (.nat 0))] [] 1)) ?_
 exact L3 _ 0 [34] rfl ⟨by omega, rfl, by simp⟩
 cases e
def c102 (svs : List SV) (b : Option SB) : QR := match svs, b with
 | [.int .i64 n], none => some ([-100000000000000000 <= n /\ n <= 100000000000000000], .str (QN n))
 | _, _ => none
noncomputable def W102 : Wk := ⟨[(101, .pure Qh8)], Qp Tryz.f102, false, false, [.tmp 2], [9], [], []⟩
theorem QnR : Has 102 := hsf Tryz.f102
theorem Qnc {p q : Prop} (k : q) (h : p := by first | omega | (unfold inI; omega) | (simp; done) | (have q1 := YA (n := n.toNat) (by omega); omega) | (have q1 := YA (n := (0 - n).toNat) (by omega); omega)) : p /\ q := ⟨h, k⟩
theorem Qmy : Sat 102 (Qv c102) := by
 have hD : Qe W102.D := (Qe.cons Qga Qfr Qe.nil)
 refine W102.sa hD Tryz.f102 fun svs b K hP => ?_
 obtain ⟨ps, v, e, hp, hk⟩ := Qk hP
 unfold c102 at e
 split at e
 rename_i n
 cases e
 obtain ⟨h01, _⟩ := hp
 refine W102.en (cond (decide (n < (0 : Int))) ((inI (0 - n)) /\ (0 <= (0 - n) /\ (0 - n) <= 1000000000000000000) /\ (1 + (Vi ((0 - n)).toNat).length <= 2305843009213693952) /\ K (.val (.str ([45] ++ (Vi ((0 - n)).toNat)))) none) ((0 <= n /\ n <= 1000000000000000000) /\ (1 + (Vi (n).toNat).length <= 2305843009213693952) /\ K (.val (.str ([43] ++ (Vi (n).toNat)))) none)) ?_
 refine Qc ?_ ?_ <;> intro h1 <;> try simp [-za, -zb] at h1
 refine Qnc (Qnc (Qnc ?_))
 refine Vf hk ?_
 unfold QN
 rw [if_pos h1, show -n = 0 - n by omega]; rfl
 refine Qnc (Qnc ?_)
 refine Vf hk ?_
 unfold QN
 rw [if_neg (by omega)]; rfl
 cases e
def c83 (svs : List SV) (b : Option SB) : QR := match svs, b with
 | [.int .i64 a, .int .i64 b], none => some ([-100000000000000000 <= a /\ a <= 100000000000000000, -100000000000000000 <= b /\ b <= 100000000000000000], .str (QC a b))
 | _, _ => none
noncomputable def W83 : Wk := ⟨[(101, .pure Qh8), (102, .pure c102)], Qp Tryz.f83, false, false, [.tmp 4], [9], [], []⟩
theorem Qq1 : Has 83 := hsf Tryz.f83
theorem Qd8 {p q : Prop} (k : q) (h : p := by first | omega | (unfold inI; omega) | (simp; done) | (have q1 := YA (n := a.toNat) (by omega); have q2 := ZH h02; first | omega | (simp only [zd, ze, zf]; omega)) | (have q1 := YA (n := (0 - a).toNat) (by omega); have q2 := ZH h02; first | omega | (simp only [zd, ze, zf]; omega))) : p /\ q := ⟨h, k⟩
theorem Qqy : Sat 83 (Qv c83) := by
 have hD : Qe W83.D := (Qe.cons Qga Qfr (Qe.cons QnR Qmy Qe.nil))
 refine W83.sa hD Tryz.f83 fun svs b K hP => ?_
 obtain ⟨ps, v, e, hp, hk⟩ := Qk hP
 unfold c83 at e
 split at e
 rename_i a b
 cases e
 obtain ⟨h01, h02, _⟩ := hp
 refine W83.en (have a0 := Vi ((0 - a)).toNat; cond (decide (a < (0 : Int))) ((inI (0 - a)) /\ (0 <= (0 - a) /\ (0 - a) <= 1000000000000000000) /\ (1 + a0.length <= 2305843009213693952) /\ (([45] ++ a0).length + 1 <= 2305843009213693952) /\ (-100000000000000000 <= b /\ b <= 100000000000000000) /\ (([45] ++ a0 ++ [110]).length + (QN b).length <= 2305843009213693952) /\ K (.val (.str ([45] ++ a0 ++ [110] ++ (QN b)))) none) ((0 <= a /\ a <= 1000000000000000000) /\ ((Vi (a).toNat).length + 1 <= 2305843009213693952) /\ (-100000000000000000 <= b /\ b <= 100000000000000000) /\ ((Vi (a).toNat ++ [110]).length + (QN b).length <= 2305843009213693952) /\ K (.val (.str (Vi (a).toNat ++ [110] ++ (QN b)))) none)) ?_
 refine Qc ?_ ?_ <;> intro h1 <;> try simp [-za, -zb] at h1
 refine Qd8 (Qd8 (Qd8 (Qd8 (Qd8 (Qd8 ?_)))))
 refine Vf hk ?_
 unfold QC
 rw [if_pos h1, show -a = 0 - a by omega]; simp
 refine Qd8 (Qd8 (Qd8 (Qd8 ?_)))
 refine Vf hk ?_
 unfold QC
 rw [if_neg (by omega)]; simp
 cases e
def c53i (svs : List SV) (b : Option SB) : QR := match svs, b with
 | [.agg [.int .i64 k, .int .i64 o, .str ke, .str va, .int .i64 a, .int .i64 bb, .int .i64 fl, .int .i64 sz]], none => some ([ke.length <= 1000000 /\ va.length <= 1000000], .bool (Z4 ⟨k, o, ke, va, a, bb, fl, sz⟩))
 | _, _ => none
noncomputable def W53 : Wk := ⟨[(22, .pure c22), (77, .pure c77), (78, .pure c78)], Qp Tryz.f53, false, false, [.tmp 2], [4], [], []⟩
theorem has53 : Has 53 := hsf Tryz.f53
theorem nbz9 {c0 p0 p1 q : Prop} (k : q) (h : c0 -> p0 /\ p1 /\ True := by intro g0; (try simp at g0); exact ⟨(by first | omega | (simp; done) | (simp; omega) | (simp; assumption)), (by first | omega | (simp; done) | (simp; omega) | (simp; assumption)), trivial⟩) : (c0 -> p0 /\ p1 /\ True) /\ q := ⟨h, k⟩
theorem Qrz : Sat 53 (Qv c53i) := by
 have hD : Qe W53.D := (Qe.cons has22 sat22 (Qe.cons has77 sat77 (Qe.cons has78 sat78 Qe.nil)))
 refine W53.sa hD Tryz.f53 fun svs b K hP => ?_
 obtain ⟨ps, v, e, hp, hk⟩ := Qk hP
 unfold c53i at e
 split at e
 rename_i k o ke va a bb fl sz
 cases e
 obtain ⟨h01, _⟩ := hp
 refine W53.en (have a1 := !(QE ke 0); have a0 := a1 || (!(QE va 0)); have a2 := ((decide (k = (3 : Int))) || (decide (k = (4 : Int)))) || (decide (k = (15 : Int))); have a3 := (a0 == false) = true; have a4 := decide (fl = (0 : Int)); have a5 := a1 = false -> ((a1 == false) = true) /\ True; (ke.length <= 1000000) /\ a5 /\ (a1 = false -> ((a1 == false) = true) /\ (va.length <= 1000000) /\ True) /\ a5 /\ (a1 = false -> (a1 == false) = true) /\ (a0 = false -> a3 /\ True) /\ (a0 = false -> a3 /\ (ke.length <= 1000000000) /\ True) /\ (a0 = false -> a3 /\ True) /\ (a0 = false -> a3 /\ a3 /\ True) /\ (a0 = false -> (a0 == false) = true) /\ cond (a0 || (!(decide (low ke = ke)))) (K (.val (.bool false)) none) (cond (((decide (((decide (k = (2 : Int))) || (decide (k = (5 : Int)))) = (decide (ke = [])))) || (a2 && (decide (va = [])))) || (((!(((a2 || ((decide (k = (5 : Int))) && (!(decide (o = (1 : Int)))))) || (decide (k = (16 : Int)))) || (decide (k = (17 : Int))))) && (!(decide (va = [])))) && ((!(decide (k = (21 : Int)))) || (!(JC va))))) (K (.val (.bool false)) none) (cond ((((((!(decide (k = (6 : Int)))) && ((!(decide (a = (0 : Int)))) || (!(decide (bb = (0 : Int)))))) || (decide ((9999 : Int) < a))) || (decide (a < (-9999)))) || (decide ((9999 : Int) < bb))) || (decide (bb < (-9999)))) (K (.val (.bool false)) none) (cond (decide (k = (5 : Int))) (K (.val (.bool (((((decide ((1 : Int) <= o)) && (decide (o <= (8 : Int)))) && (decide ((0 : Int) <= fl))) && (decide (fl <= (1 : Int)))) && ((!(decide (o = (1 : Int)))) || a4)))) none) (cond (decide (k = (22 : Int))) (K (.val (.bool (((decide ((1 : Int) <= o)) && (decide (o <= (4 : Int)))) && a4))) none) (cond (decide (k = (6 : Int))) (K (.val (.bool (((decide (o = (0 : Int))) && (decide ((0 : Int) <= fl))) && (decide (fl <= (3 : Int)))))) none) (cond (decide (k = (7 : Int))) (K (.val (.bool ((decide (o = (0 : Int))) && (a4 || (decide (fl = (2 : Int))))))) none) (K (.val (.bool ((decide (o = (0 : Int))) && a4))) none)))))))) ?_
 refine QiT (Qnd (nbz9 (Qnd (QiT (Qnd (nbz9 (Qnd (nbz9 (QiT ?_)))))))))
 refine Qc ?_ ?_ <;> intro h1 <;> try simp [-za, -zb] at h1
 refine Vb hk ?_
 rw [xy]
 intro hc
 simp only [Z4, zh, zU, zW, decide_eq_true_eq, zw, Bool.or_eq_false_iff, decide_eq_false_iff_not, beq_eq_false_iff_ne] at hc
 grind
 refine Qc (fun h2 => ?_) (fun h2 => ?_)
 try simp [-za, -zb] at h2
 refine Vb hk ?_
 rw [xy]
 intro hc
 simp only [Z4, zh, zU, zW, decide_eq_true_eq, zw, Bool.or_eq_false_iff, decide_eq_false_iff_not, beq_eq_false_iff_ne] at hc
 grind
 try simp [-za, -zb] at h2
 refine Qc ?_ ?_ <;> intro h3 <;> try simp [-za, -zb] at h3
 refine Vb hk ?_
 rw [xy]
 intro hc
 simp only [Z4, zh, zU, zW, decide_eq_true_eq, zw, Bool.or_eq_false_iff, decide_eq_false_iff_not, beq_eq_false_iff_ne] at hc
 grind
 refine Qc (fun h4 => ?_) (fun h4 => ?_)
 try simp [-za, -zb] at h4
 refine Vb hk ?_
 simp only [Z4]
 grind
 try simp [-za, -zb] at h4
 refine Qc ?_ ?_ <;> intro h5 <;> try simp [-za, -zb] at h5
 refine Vb hk ?_
 simp only [Z4]
 grind
 refine Qc (fun h6 => ?_) (fun h6 => ?_)
 try simp [-za, -zb] at h6
 refine Vb hk ?_
 simp only [Z4]
 grind
 try simp [-za, -zb] at h6
 refine Qc ?_ ?_ <;> intro h7 <;> try simp [-za, -zb] at h7
 refine Vb hk ?_
 simp only [Z4]
 grind
 refine Vb hk ?_
 simp only [Z4]
 grind
 cases e
def c53 (svs : List SV) (b : Option SB) : QR := match svs, b with
 | [x], none => match QbV x with
  | some x => some ([x.key.length <= 1000000 /\ x.val.length <= 1000000], .bool (Z4 x))
  | _ => none
 | _, _ => none
theorem sat53 : Sat 53 (Qv c53) := by
 refine Sat.wk Qrz fun svs b K h => ?_
 obtain ⟨ps, v, e, hp, hk⟩ := Qk h
 unfold c53 at e
 split at e
 rename_i x
 split at e
 rename_i x' hx
 cases e
 exact ⟨[.agg (Vq x')], ⟨fun ω v => Z8 hx, trivial⟩, hp.1, hk⟩
 cases e
 cases e
end
section
open Go Go.RowKit
set_option maxRecDepth 20000
theorem QnY {l : List SelD} {j : Nat} (h : j < l.length) : l.getD j default ∈ l := by
 simp [za, zi h]
def c52 (m : Nat) (svs : List SV) (b : Option SB) : QR := match svs, b with
 | [.sl (.sels l), .nat i, x], none => match toI x with
  | some e => some ([l.length <= 1000000, i < l.length, e <= l.length, e <= ((m : Nat) : Int) + ((i : Nat) : Int), ((i : Nat) : Int) < e], .bool (szB m l i e))
  | _ => none
 | _, _ => none
theorem Qq7 : Has 52 := hsf Tryz.f52
def c52s (m : Nat) (svs : List SV) (b : Option SB) : QR := match svs, b with
 | [.sl (.sels l), .nat i, .int .i64 e], none => some ([l.length <= 1000000, i < l.length, e <= l.length, e <= ((m + 1 : Nat) : Int) + ((i : Nat) : Int), ((i : Nat) : Int) < e], .bool (szB (m + 1) l i e))
 | _, _ => none
noncomputable def W52 (m : Nat) : Wk := ⟨[(52, .pure (c52 m))], Qp Tryz.f52, false, false, [.tmp 6], [4], [(5, 387)], []⟩
theorem ncz1 {c0 p0 q : Prop} (k : q) (h : c0 -> p0 /\ True := by intro g0; (try simp at g0); exact ⟨(by first | omega | (unfold inI; omega) | (have q1 := UK h2; first | omega | (unfold inI; omega))), trivial⟩) : (c0 -> p0 /\ True) /\ q := ⟨h, k⟩
theorem Qdk {p q : Prop} (k : q) (h : p := by first | omega | (unfold inI; omega) | (have q1 := UK h2; first | omega | (unfold inI; omega))) : p /\ q := ⟨h, k⟩
theorem QrA (m : Nat) (hG : Sat 52 (Qv (c52 m))) : Sat 52 (Qv (c52s m)) := by
 have hD : Qe (W52 m).D := (Qe.cons Qq7 hG Qe.nil)
 refine (W52 m).sa hD Tryz.f52 fun svs b K hP => ?_
 obtain ⟨ps, v, e, hp, hk⟩ := Qk hP
 unfold c52s at e
 split at e
 rename_i l i e
 cases e
 obtain ⟨h01, h02, h03, h04, h05, _⟩ := hp
 have L5 : ∀ (mm : Nat) (k : Nat), (i + (l.getD i default).size - k).toNat = mm -> ((k : Int) <= i + (l.getD i default).size /\ szB (m + 1) l i e = QgG (szB m l) l (i + (l.getD i default).size) k /\ 1 <= (l.getD i default).size /\ (i : Int) + (l.getD i default).size <= e /\ i + 1 <= k) -> (W52 m).L K 5 (mkS 44 [(0, (.sl (.sels l))), (1, (.nat i)), (7, (.int .i64 ((l.getD i default).size))), (8, (.nat k))] [] 1) := by
  intro mm
  induction mm using zl with
  | _ mm ih =>
   intro k hm hI
   obtain ⟨k1, k2, k3, k4, k5⟩ := hI
   refine (W52 m).aL hD (have a0 := ((i : Nat) : Int) + (l.getD i default).size; (inI a0) /\ cond (decide (((k : Nat) : Int) < a0)) ((inI a0) /\ (l.length <= 1000000) /\ (k < l.length) /\ (a0 <= l.length) /\ (a0 <= ((m : Nat) : Int) + ((k : Nat) : Int)) /\ (((k : Nat) : Int) < a0) /\ cond (!(szB m l k a0)) (K (.val (.bool false)) none) ((k < l.length) /\ (inI (((k : Nat) : Int) + (l.getD k default).size)) /\ (W52 m).L K 5 (mkS 44 [(0, (.sl (.sels l))), (1, (.nat i)), (7, (.int .i64 ((l.getD i default).size))), (8, (.int .i64 (((k : Nat) : Int) + (l.getD k default).size)))] [] 1))) (K (.val (.bool true)) none)) ?_
   refine Qdk ?_
   refine Qc ?_ ?_ <;> intro h1 <;> try simp [-za, -zb] at h1
   refine Qdk (Qdk (Qdk (Qdk (Qdk (Qdk ?_)))))
   refine Qc ?_ ?_ <;> intro h2 <;> try simp [-za, -zb] at h2
   refine Vb hk ?_
   rw [k2, QgG, if_pos h1, if_neg (by rw [h2]; exact zE)]
   refine Qdk (Qdk ?_)
   obtain ⟨q1, q2⟩ := UK h2
   have e0 : ((k : Int) + (l.getD k default).size) = ((k + (l.getD k default).size.toNat : Nat) : Int) := by omega
   rw [e0]
   exact Wk.L.rn [0] (ih _ (by omega) (k + (l.getD k default).size.toNat) rfl ⟨by omega, by rw [k2, QgG, if_pos h1, if_pos h2, if_pos q1], k3, k4, by omega⟩)
   refine Vb hk ?_
   rw [k2, QgG, if_neg (by omega)]
 refine (W52 m).en (have a0 := l.getD i default; (i < l.length) /\ ((decide (a0.size < (1 : Int))) = false -> (inI (e - ((i : Nat) : Int))) /\ True) /\ cond ((decide (a0.size < (1 : Int))) || (decide ((e - ((i : Nat) : Int)) < a0.size))) (K (.val (.bool false)) none) ((i + 1 <= 9223372036854775807) /\ (W52 m).L K 5 (mkS 44 [(0, (.sl (.sels l))), (1, (.nat i)), (7, (.int .i64 (a0.size))), (8, (.nat (i + 1)))] [] 1))) ?_
 refine Qdk (ncz1 ?_)
 refine Qc ?_ ?_ <;> intro h1 <;> try simp [-za, -zb] at h1
 refine Vb hk ?_
 rw [szB, if_pos (by omega)]
 refine Qdk ?_
 exact L5 _ (i + 1) rfl ⟨by omega, by rw [szB, if_neg (by omega)], by omega, by omega, zq _⟩
 cases e
theorem QqE : ∀ m, Sat 52 (Qv (c52 m))
 | 0 => by
  intro g0 w M ω svs args b K hS hn hr hP
  exfalso
  obtain ⟨ps, v, e, hp, hk⟩ := Qk hP
  unfold c52 at e
  split at e
  split at e
  cases e
  have := hp.2.2.2.1
  have := hp.2.2.2.2.1
  omega
  cases e
  cases e
 | m + 1 => by
  refine Sat.wk (QrA m (QqE m)) fun svs b K h => ?_
  obtain ⟨ps, v, e, hp, hk⟩ := Qk h
  unfold c52 at e
  split at e
  rename_i l i x
  split at e
  rename_i e' hx
  cases e
  exact ⟨[.sl (.sels l), .nat i, .int .i64 e'], ⟨fun ω v hr => hr, fun ω v hr => hr, fun ω v => YD hx, trivial⟩, hp.1, hp.2.1, hp.2.2.1, hp.2.2.2.1, hp.2.2.2.2.1, hk⟩
  cases e
  cases e
theorem Qjm (l : List SelD) (i : Nat) : (Yo l i).length <= l.length := by
 unfold Yo
 split
 simp
 rw [zj, zk]; omega
def c54 (svs : List SV) (b : Option SB) : QR := match svs, b with
 | [.sl (.sels l), .nat i], none => some ([l.length <= 1000000, JM l i], .bool (shB l i))
 | _, _ => none
noncomputable def W54 : Wk := ⟨[(17, .fn c17), (24, .pure c24), (55, .pure c55), (79, .pure c79), (80, .pure c80)], Qp Tryz.f54, false, false, [.tmp 4], [4], [(6, 161), (17, 289)], []⟩
theorem has54 : Has 54 := hsf Tryz.f54
theorem ncz4 {c0 p0 p1 q : Prop} (k : q) (h : c0 -> p0 /\ p1 /\ True := by intro g0; (try simp at g0); exact ⟨(by first | omega | exact (n5 _ (by omega)).1 | exact fun k hk => by (have := (n3 k hk).2.1; omega) | exact fun _ => n2 | exact fun _ => (n5 _ (by omega)).2 | (have := n6 i; omega) | (have := n6 ((Qa l i).getD 0 0); omega) | (have := (n5 0 (by omega)).1; omega) | (simp; done)), (by first | omega | exact (n5 _ (by omega)).1 | exact fun k hk => by (have := (n3 k hk).2.1; omega) | exact fun _ => n2 | exact fun _ => (n5 _ (by omega)).2 | (have := n6 i; omega) | (have := n6 ((Qa l i).getD 0 0); omega) | (have := (n5 0 (by omega)).1; omega) | (simp; done)), trivial⟩) : (c0 -> p0 /\ p1 /\ True) /\ q := ⟨h, k⟩
theorem Z1 {c0 p0 q : Prop} (k : q) (h : c0 -> p0 /\ True := by intro g0; (try simp at g0); exact ⟨(by first | omega | exact (n5 _ (by omega)).1 | exact fun k hk => by (have := (n3 k hk).2.1; omega) | exact fun _ => n2 | exact fun _ => (n5 _ (by omega)).2 | (have := n6 i; omega) | (have := n6 ((Qa l i).getD 0 0); omega) | (have := (n5 0 (by omega)).1; omega) | (simp; done)), trivial⟩) : (c0 -> p0 /\ True) /\ q := ⟨h, k⟩
theorem Qax {p q : Prop} (k : q) (h : p := by first | omega | exact (n5 _ (by omega)).1 | exact fun k hk => by (have := (n3 k hk).2.1; omega) | exact fun _ => n2 | exact fun _ => (n5 _ (by omega)).2 | (have := n6 i; omega) | (have := n6 ((Qa l i).getD 0 0); omega) | (have := (n5 0 (by omega)).1; omega) | (simp; done)) : p /\ q := ⟨h, k⟩
theorem sat54 : Sat 54 (Qv c54) := by
 have hD : Qe W54.D := (Qe.cons QhO QgV (Qe.cons has24 sat24 (Qe.cons Qq6 QqD (Qe.cons has79 sat79 (Qe.cons Qq3 QqA Qe.nil)))))
 refine W54.sa hD Tryz.f54 fun svs b K hP => ?_
 obtain ⟨ps, v, e, hp, hk⟩ := Qk hP
 unfold c54 at e
 split at e
 rename_i l i
 cases e
 obtain ⟨h01, h02, _⟩ := hp
 obtain ⟨n1, n2, n3, n4⟩ := h02.kids
 have n5 : ∀ j, j < (Qa l i).length -> (Qa l i).getD j 0 < l.length /\ 0 <= (l.getD ((Qa l i).getD j 0) default).size /\ (((Qa l i).getD j 0 : Nat) : Int) + (l.getD ((Qa l i).getD j 0) default).size <= l.length := fun j hj => ⟨(n3 _ (QZ hj)).1, (n3 _ (QZ hj)).2.2.1, (n3 _ (QZ hj)).2.2.2.1⟩
 have n6 := Qjm l
 have L6 : ∀ (mm : Nat) (j : Nat), (Qa l i).length - j = mm -> ((l.getD i default).kind = 23 /\ j <= (Qa l i).length /\ ∀ q, q < j -> QI (knd l ((Qa l i).getD q 0)) = true) -> W54.L K 6 (mkS 149 [(0, (.sl (.sels l))), (5, (.own 1)), (7, (.nat j))] [(1, .row (.ints (Qa l i)) true)] 2) := by
  intro mm
  induction mm using zl with
  | _ mm ih =>
   intro j hm hI
   obtain ⟨k0, k1, k2⟩ := hI
   refine W54.aL hD (cond (decide (j < (Qa l i).length)) ((j < (Qa l i).length) /\ (j < (Qa l i).length) /\ ((Qa l i).getD j 0 < l.length) /\ cond (!(QI ((l.getD ((Qa l i).getD j 0) default).kind))) (K (.val (.bool false)) none) ((j + 1 <= 9223372036854775807) /\ (W54).L K 6 (mkS 149 [(0, (.sl (.sels l))), (5, (.own 1)), (7, (.nat (j + 1)))] [(1, .row (.ints (Qa l i)) true)] 2))) (K (.val (.bool (decide (0 < (Qa l i).length)))) none)) ?_
   refine Qc ?_ ?_ <;> intro h1 <;> try simp [-za, -zb] at h1
   refine Qax (Qax (Qax ?_))
   refine Qc ?_ ?_ <;> intro h2 <;> try simp [-za, -zb] at h2
   refine Vb hk ?_
   unfold shB
   have kk : knd l i = (l.getD i default).kind := rfl
   rw [if_pos (by omega), Uu (p := fun j => QI (knd l ((Qa l i).getD j 0))) h1 h2]
   rfl
   refine Qax ?_
   exact ih _ (by omega) (j + 1) rfl ⟨k0, by omega, fun q hq => by
    rcases (by omega : q < j \/ q = j) with w | w
    exact k2 q w
    subst w; exact h2⟩
   refine Vb hk ?_
   unfold shB
   have kk : knd l i = (l.getD i default).kind := rfl
   rw [if_pos (by omega), J6 (p := fun j => QI (knd l ((Qa l i).getD j 0))) (fun j hj => k2 j (by omega))]
   rfl
 have L17 : ∀ (mm : Nat) (j : Nat), (Qa l i).length - j = mm -> ((l.getD i default).kind = 21 /\ j <= (Qa l i).length /\ ∀ q, q < j -> (Qo (knd l ((Qa l i).getD q 0)) && !(decide (knd l ((Qa l i).getD q 0) = 2) && decide (0 < q))) = true) -> W54.L K 17 (mkS 149 [(0, (.sl (.sels l))), (5, (.own 1)), (8, (.nat j))] [(1, .row (.ints (Qa l i)) true)] 2) := by
  intro mm
  induction mm using zl with
  | _ mm ih =>
   intro j hm hI
   obtain ⟨k0, k1, k2⟩ := hI
   refine W54.aL hD (cond (decide (j < (Qa l i).length)) ((j < (Qa l i).length) /\ (j < (Qa l i).length) /\ ((Qa l i).getD j 0 < l.length) /\ cond (!(Qo ((l.getD ((Qa l i).getD j 0) default).kind))) (K (.val (.bool false)) none) ((j < (Qa l i).length) /\ (j < (Qa l i).length) /\ ((Qa l i).getD j 0 < l.length) /\ cond ((decide ((l.getD ((Qa l i).getD j 0) default).kind = (2 : Int))) && (decide (0 < j))) (K (.val (.bool false)) none) ((j + 1 <= 9223372036854775807) /\ (W54).L K 17 (mkS 149 [(0, (.sl (.sels l))), (5, (.own 1)), (8, (.nat (j + 1)))] [(1, .row (.ints (Qa l i)) true)] 2)))) (K (.val (.bool true)) none)) ?_
   refine Qc ?_ ?_ <;> intro h1 <;> try simp [-za, -zb] at h1
   refine Qax (Qax (Qax ?_))
   refine Qc ?_ ?_ <;> intro h2 <;> try simp [-za, -zb] at h2
   refine Vb hk ?_
   unfold shB
   have kk : knd l i = (l.getD i default).kind := rfl
   rw [if_neg (by omega), if_neg (by omega), if_pos (by omega), Uu (p := fun j => Qo (knd l ((Qa l i).getD j 0)) && !(decide (knd l ((Qa l i).getD j 0) = 2) && decide (0 < j))) h1 (show (Qo (l.getD ((Qa l i).getD j 0) default).kind && !(decide ((l.getD ((Qa l i).getD j 0) default).kind = 2) && decide (0 < j))) = false by rw [h2]; rfl)]
   refine Qax (Qax (Qax ?_))
   refine Qc ?_ ?_ <;> intro h3 <;> try simp [-za, -zb] at h3
   refine Vb hk ?_
   unfold shB
   have kk : knd l i = (l.getD i default).kind := rfl
   rw [if_neg (by omega), if_neg (by omega), if_pos (by omega), Uu (p := fun j => Qo (knd l ((Qa l i).getD j 0)) && !(decide (knd l ((Qa l i).getD j 0) = 2) && decide (0 < j))) h1 (show (Qo (l.getD ((Qa l i).getD j 0) default).kind && !(decide ((l.getD ((Qa l i).getD j 0) default).kind = 2) && decide (0 < j))) = false by rw [decide_eq_true h3.1, decide_eq_true h3.2]; simp)]
   refine Qax ?_
   exact ih _ (by omega) (j + 1) rfl ⟨k0, by omega, fun q hq => by
    rcases (by omega : q < j \/ q = j) with w | w
    exact k2 q w
    subst w; show (Qo (l.getD ((Qa l i).getD q 0) default).kind && !(decide ((l.getD ((Qa l i).getD q 0) default).kind = 2) && decide (0 < q))) = true; rw [h2]; simp only [Bool.true_and, zU, zW, decide_eq_true_eq, decide_eq_false_iff_not]; omega⟩
   refine Vb hk ?_
   unfold shB
   have kk : knd l i = (l.getD i default).kind := rfl
   rw [if_neg (by omega), if_neg (by omega), if_pos (by omega), J6 (p := fun j => Qo (knd l ((Qa l i).getD j 0)) && !(decide (knd l ((Qa l i).getD j 0) = 2) && decide (0 < j))) (fun j hj => k2 j (by omega))]
 refine W54.en (have a2 := l.getD i default; have a3 := (decide ((Qa l i).length = 1)) = true -> (0 < (Qa l i).length) /\ True; have a7 := (decide ((Qa l i).length = 1)) = true -> ((Qa l i).getD 0 0 < l.length) /\ True; have a10 := (decide ((Qa l i).length = 2)) = true -> (0 < (Qa l i).length) /\ True; have a11 := (Qa l i).getD 0 0; have a1 := (decide ((Qa l i).length = 1)) && (decide ((l.getD a11 default).kind = (23 : Int))); have a4 := a1 = true -> (i <= 1000000000000 /\ l.length <= 1000000000000) /\ (i < l.length -> 0 <= a2.size /\ ((i : Nat) : Int) + a2.size <= l.length) /\ True; have a6 := (decide ((Qa l i).length = 2)) && (QI ((l.getD a11 default).kind)); have a0 := a6 && (QI ((l.getD ((Qa l i).getD 1 0) default).kind)); have a5 := a0 && (!(decide ((l.getD ((Qa l i).getD 1 0) default).kind = (22 : Int)))); have a8 := a1 = true -> ((Yo l i).length <= 1000000000) /\ True; have a9 : Out := .val (.bool (a1 && (!((Yo l i).any V7)))); have a12 := a6 = true -> (1 < (Qa l i).length) /\ True; have a13 := a0 = true -> (1 < (Qa l i).length) /\ True; have a14 := a5 = true -> (0 < (Qa l i).length) /\ True; (i < l.length /\ l.length <= 1000000000000) /\ (0 <= a2.size /\ ((i : Nat) : Int) + a2.size <= l.length) /\ (∀ k, k ∈ Qa l i -> (l.getD k default).size <= 1000000000000) /\ (i < l.length) /\ cond (decide (a2.kind = (23 : Int))) ((W54).L K 6 (mkS 149 [(0, (.sl (.sels l))), (5, (.own 1)), (7, (.nat 0))] [(2, .blk 33 [(.int .i64 (a2.kind)), (.int .i64 (a2.op)), (.str (a2.key)), (.str (a2.val)), (.int .i64 (a2.a)), (.int .i64 (a2.b)), (.int .i64 (a2.flag)), (.int .i64 (a2.size))]), (1, .row (.ints (Qa l i)) true)] 3)) (cond (decide (a2.kind = (18 : Int))) (a3 /\ a3 /\ a7 /\ a4 /\ a8 /\ K a9 none) (cond (decide (a2.kind = (19 : Int))) (a3 /\ a3 /\ a7 /\ a4 /\ a8 /\ K a9 none) (cond (decide (a2.kind = (20 : Int))) (a3 /\ a3 /\ a7 /\ a4 /\ a8 /\ K a9 none) (cond (decide (a2.kind = (21 : Int))) ((W54).L K 17 (mkS 149 [(0, (.sl (.sels l))), (5, (.own 1)), (8, (.nat 0))] [(2, .blk 33 [(.int .i64 (a2.kind)), (.int .i64 (a2.op)), (.str (a2.key)), (.str (a2.val)), (.int .i64 (a2.a)), (.int .i64 (a2.b)), (.int .i64 (a2.flag)), (.int .i64 (a2.size))]), (1, .row (.ints (Qa l i)) true)] 3)) (cond (decide (a2.kind = (22 : Int))) (a10 /\ a10 /\ ((decide ((Qa l i).length = 2)) = true -> ((Qa l i).getD 0 0 < l.length) /\ True) /\ a12 /\ a12 /\ (a6 = true -> ((Qa l i).getD 1 0 < l.length) /\ True) /\ a13 /\ a13 /\ (a0 = true -> ((Qa l i).getD 1 0 < l.length) /\ True) /\ a14 /\ a14 /\ (a5 = true -> ((Qa l i).getD 0 0 <= 1000000000000 /\ l.length <= 1000000000000) /\ ((Qa l i).getD 0 0 < l.length -> 0 <= (l.getD a11 default).size /\ (((Qa l i).getD 0 0 : Nat) : Int) + (l.getD a11 default).size <= l.length) /\ True) /\ (a5 = true -> ((Yo l a11).length <= 1000000000) /\ True) /\ K (.val (.bool (a5 && (!((Yo l a11).any V7))))) none) ((i < l.length) /\ K (.val (.bool ((Qo (a2.kind)) && (decide ((Qa l i).length = 0))))) none))))))) ?_
 refine Qax (Qax (Qax (Qax ?_)))
 refine Qc ?_ ?_ <;> intro h1 <;> try simp [-za, -zb] at h1
 exact Wk.L.rn [0, 1] (L6 _ 0 rfl ⟨h1, by omega, fun j hj => by omega⟩)
 refine Qc (fun h2 => ?_) (fun h2 => ?_)
 try simp [-za, -zb] at h2
 refine Z1 (Z1 (Z1 (ncz4 (Z1 ?_))))
 refine Vb hk ?_
 unfold shB
 have kk : knd l i = (l.getD i default).kind := rfl
 rw [if_neg (by omega), if_pos (by omega)]
 rfl
 try simp [-za, -zb] at h2
 refine Qc ?_ ?_ <;> intro h3 <;> try simp [-za, -zb] at h3
 refine Z1 (Z1 (Z1 (ncz4 (Z1 ?_))))
 refine Vb hk ?_
 unfold shB
 have kk : knd l i = (l.getD i default).kind := rfl
 rw [if_neg (by omega), if_pos (by omega)]
 rfl
 refine Qc (fun h4 => ?_) (fun h4 => ?_)
 try simp [-za, -zb] at h4
 refine Z1 (Z1 (Z1 (ncz4 (Z1 ?_))))
 refine Vb hk ?_
 unfold shB
 have kk : knd l i = (l.getD i default).kind := rfl
 rw [if_neg (by omega), if_pos (by omega)]
 rfl
 try simp [-za, -zb] at h4
 refine Qc ?_ ?_ <;> intro h5 <;> try simp [-za, -zb] at h5
 exact Wk.L.rn [0, 1] (L17 _ 0 rfl ⟨h5, by omega, fun j hj => by omega⟩)
 refine Qc (fun h6 => ?_) (fun h6 => ?_)
 try simp [-za, -zb] at h6
 refine Z1 (Z1 (Z1 (Z1 (Z1 (Z1 (Z1 (Z1 (Z1 (Z1 (Z1 (ncz4 (Z1 ?_))))))))))))
 refine Vb hk ?_
 unfold shB
 have kk : knd l i = (l.getD i default).kind := rfl
 rw [if_neg (by omega), if_neg (by omega), if_neg (by omega), if_pos (by omega)]
 rfl
 try simp [-za, -zb] at h6
 refine Qax ?_
 refine Vb hk ?_
 unfold shB
 have kk : knd l i = (l.getD i default).kind := rfl
 rw [if_neg (by omega), if_neg (by omega), if_neg (by omega), if_neg (by omega)]
 rfl
 cases e
def c32 (svs : List SV) (b : Option SB) : QR := match svs, b with
 | [.sl (.sels l)], none => some ([l.length <= 1000, ∀ x ∈ l, x.key.length <= 1000 /\ x.val.length <= 1000], .bool (UR l))
 | _, _ => none
noncomputable def W32 : Wk := ⟨[(52, .pure (c52 2000)), (53, .pure c53), (54, .pure c54), (55, .pure c55)], Qp Tryz.f32, false, false, [.tmp 2], [4], [(4, 9)], []⟩
theorem has32 : Has 32 := hsf Tryz.f32
theorem ncz8 {c0 p0 p1 p2 p3 p4 q : Prop} (k : q) (h : c0 -> p0 /\ p1 /\ p2 /\ p3 /\ p4 /\ True := by intro g0; (try simp at g0); exact ⟨(by first | omega | exact k7 _ h1 | (have := k8 i h1; refine ⟨?_, ?_⟩ <;> (simp only; omega)) | (have := zu.2 g0; omega) | (have := zu.2 g0.1; omega) | (simp; done) | assumption), (by first | omega | exact k7 _ h1 | (have := k8 i h1; refine ⟨?_, ?_⟩ <;> (simp only; omega)) | (have := zu.2 g0; omega) | (have := zu.2 g0.1; omega) | (simp; done) | assumption), (by first | omega | exact k7 _ h1 | (have := k8 i h1; refine ⟨?_, ?_⟩ <;> (simp only; omega)) | (have := zu.2 g0; omega) | (have := zu.2 g0.1; omega) | (simp; done) | assumption), (by first | omega | exact k7 _ h1 | (have := k8 i h1; refine ⟨?_, ?_⟩ <;> (simp only; omega)) | (have := zu.2 g0; omega) | (have := zu.2 g0.1; omega) | (simp; done) | assumption), (by first | omega | exact k7 _ h1 | (have := k8 i h1; refine ⟨?_, ?_⟩ <;> (simp only; omega)) | (have := zu.2 g0; omega) | (have := zu.2 g0.1; omega) | (simp; done) | assumption), trivial⟩) : (c0 -> p0 /\ p1 /\ p2 /\ p3 /\ p4 /\ True) /\ q := ⟨h, k⟩
theorem ncz7 {c0 p0 q : Prop} (k : q) (h : c0 -> p0 /\ True := by intro g0; (try simp at g0); exact ⟨(by first | omega | exact k7 _ h1 | (have := k8 i h1; refine ⟨?_, ?_⟩ <;> (simp only; omega)) | (have := zu.2 g0; omega) | (have := zu.2 g0.1; omega) | (simp; done) | assumption), trivial⟩) : (c0 -> p0 /\ True) /\ q := ⟨h, k⟩
theorem ncz6 {c0 p0 p1 q : Prop} (k : q) (h : c0 -> p0 /\ p1 /\ True := by intro g0; (try simp at g0); exact ⟨(by first | omega | exact k7 _ h1 | (have := k8 i h1; refine ⟨?_, ?_⟩ <;> (simp only; omega)) | (have := zu.2 g0; omega) | (have := zu.2 g0.1; omega) | (simp; done) | assumption), (by first | omega | exact k7 _ h1 | (have := k8 i h1; refine ⟨?_, ?_⟩ <;> (simp only; omega)) | (have := zu.2 g0; omega) | (have := zu.2 g0.1; omega) | (simp; done) | assumption), trivial⟩) : (c0 -> p0 /\ p1 /\ True) /\ q := ⟨h, k⟩
theorem ncz5 {p q : Prop} (k : q) (h : p := by first | omega | exact k7 _ h1 | (have := k8 i h1; refine ⟨?_, ?_⟩ <;> (simp only; omega)) | (have := zu.2 g0; omega) | (have := zu.2 g0.1; omega) | (simp; done) | assumption) : p /\ q := ⟨h, k⟩
theorem sat32 : Sat 32 (Qv c32) := by
 have hD : Qe W32.D := (Qe.cons Qq7 (QqE 2000) (Qe.cons has53 sat53 (Qe.cons has54 sat54 (Qe.cons Qq6 QqD Qe.nil))))
 refine W32.sa hD Tryz.f32 fun svs b K hP => ?_
 obtain ⟨ps, v, e, hp, hk⟩ := Qk hP
 unfold c32 at e
 split at e
 rename_i l
 cases e
 obtain ⟨h01, h02, _⟩ := hp
 have L4 : ∀ (mm : Nat) (i : Nat), l.length - i = mm -> ((l.length ≠ 0 /\ (l.getD 0 default).size = (l.length : Nat) /\ szB 2000 l 0 (l.length : Nat) = true) /\ i <= l.length /\ ∀ j, j < i -> (Z4 (l.getD j default) && shB l j) = true) -> W32.L K 4 (mkS 53 [(0, (.sl (.sels l))), (3, (.nat i))] [] 1) := by
  intro mm
  induction mm using zl with
  | _ mm ih =>
   intro i hm hI
   obtain ⟨⟨k4, k5, k6⟩, k1, k2⟩ := hI
   have k7 := QkV k5 k6
   have k8 : ∀ j, j < l.length -> (l.getD j default).key.length <= 1000 /\ (l.getD j default).val.length <= 1000 := fun j hj => h02 _ (QnY hj)
   refine W32.aL hD (have a0 := SelD.mk ((l.getD i default).kind) ((l.getD i default).op) ((l.getD i default).key) ((l.getD i default).val) ((l.getD i default).a) ((l.getD i default).b) ((l.getD i default).flag) ((l.getD i default).size); have a1 := decide ((l.getD 0 default).kind = (23 : Int)); cond (decide (i < l.length)) ((i < l.length) /\ (a0.key.length <= 1000000 /\ a0.val.length <= 1000000) /\ ((!(Z4 a0)) = false -> (l.length <= 1000000) /\ (JM l i) /\ True) /\ cond ((!(Z4 a0)) || (!(shB l i))) (K (.val (.bool false)) none) ((i + 1 <= 9223372036854775807) /\ (W32).L K 4 (mkS 53 [(0, (.sl (.sels l))), (3, (.nat (i + 1)))] [] 1))) ((0 < l.length) /\ (a1 = false -> (0 < l.length) /\ True) /\ K (.val (.bool (a1 || (QI ((l.getD 0 default).kind))))) none)) ?_
   refine Qc ?_ ?_ <;> intro h1 <;> try simp [-za, -zb] at h1
   refine ncz5 (ncz5 (ncz6 ?_))
   refine Qc ?_ ?_ <;> intro h2 <;> try simp [-za, -zb] at h2
   refine Vb hk ?_
   unfold UR
   rw [if_neg (by rintro (q | q | q); exact k4 q; exact q k5; rw [k6] at q; cases q), Uu (p := fun i => Z4 (l.getD i default) && shB l i) h1 (by rcases h2 with h2 | h2; exact (Bool.and_eq_false_iff.2 (.inl h2)); exact (Bool.and_eq_false_iff.2 (.inr h2)))]
   rfl
   refine ncz5 ?_
   exact ih _ (by omega) (i + 1) rfl ⟨⟨k4, k5, k6⟩, by omega, fun j hj => by
    rcases (by omega : j < i \/ j = i) with q | q
    exact k2 j q
    subst q; exact Bool.and_eq_true_iff.2 h2⟩
   refine ncz5 (ncz7 ?_)
   refine Vb hk ?_
   unfold UR
   rw [if_neg (by rintro (q | q | q); exact k4 q; exact q k5; rw [k6] at q; cases q), J6 (p := fun i => Z4 (l.getD i default) && shB l i) (fun j hj => k2 j (by omega))]
   rfl
 refine W32.en (have a0 := ((l.length : Nat) : Int); have a1 := (decide (l.length = 0)) || (!(decide ((l.getD 0 default).size = a0))); ((decide (l.length = 0)) = false -> (0 < l.length) /\ True) /\ (a1 = false -> (l.length <= 1000000) /\ (0 < l.length) /\ (a0 <= l.length) /\ (a0 <= ((2000 : Nat) : Int) + ((0 : Nat) : Int)) /\ (((0 : Nat) : Int) < a0) /\ True) /\ cond (a1 || (!(szB 2000 l 0 a0))) (K (.val (.bool false)) none) ((W32).L K 4 (mkS 53 [(0, (.sl (.sels l))), (3, (.nat 0))] [] 1))) ?_
 refine ncz7 (ncz8 ?_)
 refine Qc ?_ ?_ <;> intro h1 <;> try simp [-za, -zb] at h1
 refine Vb hk ?_
 unfold UR
 rw [if_pos]
 rcases h1 with (h1 | h1) | h1
 exact .inl (by rw [h1]; rfl)
 exact .inr (.inl h1)
 exact .inr (.inr h1)
 exact L4 _ 0 rfl ⟨⟨fun q => h1.1.1 (zK.1 q), h1.1.2, h1.2⟩, by omega, fun j hj => by omega⟩
 cases e
end
end Go.Proofs.YtengepcafdnalaaGreatDoor
