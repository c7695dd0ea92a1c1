/-
  Parts of the proof that the law FnParseOtherwise holds for every input (texts Xf, Na). Conditions: none.
-/
import Derived.Test.YtengepcafdnalaaGreatDoorM38
namespace Go.Proofs.YtengepcafdnalaaGreatDoor
section
namespace Way
set_option maxRecDepth 20000
structure KRead (l : List SelD) (d : Nat) (f : Nat -> Nat -> Bs × Nat) (k : Nat) (T : ST) : Prop where
 kn : knd l k = T.node.kind
 tag : T.node.kind = 2 -> ∀ n, ∃ v, IdW v (f k n).1 /\ low v = T.node.key
 sim : Qp T.node.kind = true -> T.node.kind ≠ 1 -> T.node.kind ≠ 2 -> ∀ n, Vt d (c1 T) (f k n).1
 seq : Q9 T.node.kind = true -> T.node.kind ≠ 22 -> ∀ n, YX d (c1 T) (YN T) (f k n).1
 sel : Q9 T.node.kind = true -> ∀ n, ZV d (c1 T) (YN T) (f k n).1
 grp : T.node.kind = 23 -> ∀ n e, WsL e -> ∃ x p t L q g u, ZV d x p t /\ WsL g /\ JI d L q u /\ (f k n).1 ++ e = t ++ (g ++ u) /\ cs T = x :: L /\ (p || q) = YN T
def Qb5 (l : List SelD) (d : Nat) (f : Nat -> Nat -> Bs × Nat) : Nat -> List ST -> Prop
 | _, [] => True
 | k, t :: ks => KRead l d f k t /\ Qb5 l d f (k + t.flat.length) ks
theorem KRead.mono {l : List SelD} {d d' : Nat} {f : Nat -> Nat -> Bs × Nat} {k : Nat} {T : ST} (h : KRead l d f k T) (hd : d <= d') : KRead l d' f k T where
 kn := h.kn
 tag := h.tag
 sim := fun a b c n => (h.sim a b c n).mono hd
 seq := fun a b n => (h.seq a b n).mono hd
 sel := fun a n => (h.sel a n).mono hd
 grp := fun a n e he => by
  obtain ⟨x, p, t, L, q, g, u, h1, h2, h3, h4⟩ := h.grp a n e he
  exact ⟨x, p, t, L, q, g, u, h1.mono hd, h2, h3.mono hd, h4⟩
theorem Qb5.mono {l : List SelD} {d d' : Nat} {f : Nat -> Nat -> Bs × Nat} (hd : d <= d') : ∀ {k : Nat} {ks : List ST}, Qb5 l d f k ks -> Qb5 l d' f k ks
 | _, [], _ => trivial
 | _, _ :: _, ⟨h1, h2⟩ => ⟨h1.mono hd, h2.mono hd⟩
theorem QlF {l : List SelD} {d : Nat} {f : Nat -> Nat -> Bs × Nat} (y : Bs) {e : Bs} (he : WsL e) : ∀ (ks : List ST) (k n : Nat) (out : Bs), Qb5 l d f k ks -> (∀ k ∈ ks, Q9 k.node.kind = true) ->
 ∃ g u, WsL g /\ JI d (css ks) (Jn ks) u /\ ((QH k ks).foldl (Y0 y f) (true, out, n)).2.1 ++ e = out ++ (g ++ u)
 | [], k, n, out, _, _ => by
  rw [css, Y8]
  exact ⟨e, [], he, JI.nil d, by simp [QH]⟩
 | t :: ks, k, n, out, ⟨h1, h2⟩, hc => by
  have hk := hc t (by simp)
  have h23 : t.node.kind ≠ 23 := by simp [Q9, Qp] at hk; omega
  rw [QH, List.foldl_cons]
  unfold Y0
  simp only [if_true]
  obtain ⟨g, u, w, hg, he'⟩ := QlF (l := l) (d := d) (f := f) y he ks (k + t.flat.length) (f k (Qh y (Qh y n).2).2).2 ((out ++ (((Qh y n).1 ++ [44]) ++ (Qh y (Qh y n).2).1)) ++ (f k (Qh y (Qh y n).2).2).1) h2 (fun k hk => hc k (by simp [hk]))
  unfold Y0 at he'
  have q := JI.cons (SlS.mk (Vf y (Qh y n).2) (h1.sel hk (Qh y (Qh y n).2).2) w) hg
  rw [css, YB h23, V2]
  refine ⟨(Qh y n).1, _, Vf y n, q, ?_⟩
  rw [he']
  simp
theorem el_p {y val : Bs} {n : Nat} (h : Uv val = true) : ElS val (58 :: 58 :: (Ql y val n).1) := by
 have key : ∀ v : Bs, ((v.all fun c => QO c.toNat) && QE (hd v)) = true -> low v = v -> v ∈ ZH -> (∀ G s j, ZB G s v j = some (none, v, j)) -> v ≠ [] -> ElS v (58 :: 58 :: (Ql y v n).1) := by
  intro v h1 h2 h3 h4 h5
  obtain ⟨w, w1, w2⟩ := Za (y := y) (n := n) h1 h2
  have q := ElS.two w1 (by rw [w2]; exact h3) (by rw [w2]; exact h4) (by rw [w2]; exact h5)
  rwa [w2] at q
 simp only [Uv, Bool.or_eq_true, decide_eq_true_eq] at h
 rcases h with ((h | h) | h) | h <;> subst h <;> exact key _ (by decide) (by decide) (by decide) (fun G s j => rfl) (by decide)
theorem QfX {l : List SelD} {d : Nat} {f : Nat -> Nat -> Bs × Nat} : ∀ (ks : List ST) (k n : Nat) (a b : Bs), Qb5 l d f k ks -> (∀ k ∈ ks, Yl k) -> (∀ k ∈ ks, Qp k.node.kind = true) -> (∀ k ∈ ks, k.node.kind ≠ 2) ->
 ∃ r n', (QH k ks).foldl (Vu l f) ((a, b), n) = (((if a = [] /\ Y5 ks = true then [42] else a), b ++ r), n') /\ ∀ pe tp, YY d [] pe tp -> YY d ((css ks).filter fun y => !Zf y) pe (r ++ tp)
 | [], k, n, a, b, _, _, _, _ => ⟨[], n, by simp [QH, Y5], fun pe tp h => by simpa [css] using h⟩
 | t :: ks, k, n, a, b, ⟨h1, h2⟩, hr, hs, h3 => by
  have hk := hs t (by simp)
  have h23 : t.node.kind ≠ 23 := by simp only [Qp, Bool.and_eq_true, decide_eq_true_eq] at hk; omega
  have hn2 := h3 t (by simp)
  obtain ⟨q1, q2⟩ := Qbs (hr t (by simp)) hk
  rw [QH, List.foldl_cons]
  unfold Vu
  simp only [h1.kn]
  rw [if_neg hn2]
  by_cases e1 : t.node.kind = 1
  rw [if_pos e1]
  obtain ⟨r, n', e2, e3⟩ := QfX ks (k + t.flat.length) n (if a = [] then [42] else a) b h2 (fun k hk => hr k (by simp [hk])) (fun k hk => hs k (by simp [hk])) (fun k hk => h3 k (by simp [hk]))
  unfold Vu at e2
  refine ⟨r, n', ?_, fun pe tp h => ?_⟩
  rw [e2]
  by_cases ha : a = [] <;> simp [ha, Y5, e1]
  rw [css, YB h23, List.singleton_append, q1 e1, List.filter_cons_of_neg (by simp [Zf])]
  exact e3 pe tp h
  rw [if_neg e1]
  obtain ⟨r, n', e2, e3⟩ := QfX ks (k + t.flat.length) (f k n).2 a (b ++ (f k n).1) h2 (fun k hk => hr k (by simp [hk])) (fun k hk => hs k (by simp [hk])) (fun k hk => h3 k (by simp [hk]))
  unfold Vu at e2
  refine ⟨(f k n).1 ++ r, n', ?_, fun pe tp h => ?_⟩
  rw [e2]
  simp [Y5, e1]
  rw [css, YB h23, List.singleton_append, List.filter_cons_of_pos (by simp [(q2 e1).1]), List.append_assoc]
  exact YY.cons (h1.sim hk e1 hn2 n) (e3 pe tp h)
def peP (y val : Bs) (n : Nat) : Bs := if val = [] then [] else [58, 58] ++ (Ql y val n).1
theorem QkX (y val : Bs) (st : (Bs × Bs) × Nat) : (Y1 y val st).1 = Qaw (st.1.1 ++ (st.1.2 ++ peP y val st.2)) := by
 unfold Y1 peP
 by_cases h : val = []
 simp [h]
 simp [h]
theorem pe_p {y val : Bs} {d n : Nat} (hv : val = [] \/ Uv val = true) : YY d [] val (peP y val n) := by
 unfold peP
 by_cases h : val = []
 subst h; exact YY.nil d
 rw [if_neg h]; exact YY.el d (el_p (hv.resolve_left h))
theorem QcN {t : Bs} (h : t ≠ []) : Qaw t = t := by unfold Qaw; rw [if_neg h]
theorem cmp_p {l : List SelD} {d : Nat} {f : Nat -> Nat -> Bs × Nat} {y : Bs} {x : SelD} {ks : List ST} {k n : Nat} (hr : Yl (.mk x ks)) (h21 : x.kind = 21) (hR : Qb5 l d f k ks) :
 YX d (c1 (.mk x ks)) (YN (.mk x ks)) (Y1 y x.val ((QH k ks).foldl (Vu l f) (([], []), n))).1 := by
 obtain ⟨hf, _, hs, hk⟩ := hr
 have F := fld hf
 unfold UB at hs
 rw [if_neg (by omega), if_neg (by omega), if_pos h21] at hs
 have hv : x.val = [] \/ Uv x.val = true := by
  rcases F.val (by omega) with h | h
  exact .inl h
  exact .inr h.2
 have hp : YN (.mk x ks) = !decide (x.val = []) := by
  rw [Ui, QeG fun k hk' => Qch (hk.mem k hk') (hs.1 k hk')]
  simp [Yi, h21]
 have hc : c1 (.mk x ks) = Yh ((css ks).filter fun y => !Zf y) x.val := Z3 (by unfold YC; rw [if_neg (by omega), if_neg (by omega), if_pos h21])
 rw [hp, hc, QkX]
 by_cases h2 : ∀ k ∈ ks, k.node.kind ≠ 2
 obtain ⟨r, n', e1, e2⟩ := QfX (l := l) (d := d) (f := f) ks k n [] [] hR (fun k hk' => hk.mem k hk') hs.1 h2
 rw [e1]
 have hR' := e2 _ _ (pe_p (y := y) (d := d) (n := n') hv)
 simp only [List.nil_append]
 by_cases ha : Y5 ks = true
 rw [show (if True /\ Y5 ks = true then ([42] : Bs) else []) = [42] from if_pos ⟨trivial, ha⟩, QcN (by simp)]
 exact YX.star hR'
 rw [show (if True /\ Y5 ks = true then ([42] : Bs) else []) = [] from if_neg (fun q => ha q.2), List.nil_append]
 by_cases he : r ++ peP y x.val n' = []
 rw [he] at hR' ⊢
 exact YX.star hR'
 rw [QcN he]
 exact YX.bare hR' he
 obtain ⟨k0, rest, rfl, hk0⟩ : ∃ k0 rest, ks = k0 :: rest /\ k0.node.kind = 2 := by
  rcases ks with _ | ⟨k0, rest⟩
  exact absurd (fun k hk' => by cases hk') h2
  refine ⟨k0, rest, rfl, ?_⟩
  by_cases e : k0.node.kind = 2
  exact e
  refine absurd (fun k hk' => ?_) h2
  rcases List.mem_cons.1 hk' with q | q
  subst q; exact e
  exact hs.2 k q
 obtain ⟨h1, hR2⟩ := hR
 obtain ⟨v, v1, v2⟩ := h1.tag hk0 n
 obtain ⟨r, n', e1, e2⟩ := QfX (l := l) (d := d) (f := f) rest (k + k0.flat.length) (f k n).2 (f k n).1 [] hR2 (fun k hk' => hk.mem k (by simp [hk'])) (fun k hk' => hs.1 k (by simp [hk'])) hs.2
 have hR' := e2 _ _ (pe_p (y := y) (d := d) (n := n') hv)
 rw [QH, List.foldl_cons]
 have hst : Vu l f (([], []), n) k = (((f k n).1, []), (f k n).2) := by
  unfold Vu; rw [h1.kn, if_pos hk0]
 rw [hst, e1, if_neg (fun q => v1.head.1 q.1)]
 simp only [List.nil_append]
 obtain ⟨z, zs⟩ := k0
 have hk0' : z.kind = 2 := hk0
 have hck : cs (.mk z zs) = [.tag z.key] := by
  rw [cs]; unfold YC QM
  rw [if_neg (by omega), if_neg (by omega), if_neg (by omega), if_neg (by omega), if_neg (by omega), if_pos hk0']
 have q := YX.tag v1 hR'
 rw [v2] at q
 rw [QcN (by simp [v1.head.1]), css, hck]
 exact q
theorem QkV : ∀ m : Fin 3, (((Vc.getD m.val []).all fun c => QO c.toNat) && QE (hd (Vc.getD m.val []))) = true /\ low (Vc.getD m.val []) = Vc.getD m.val [] /\ (Vc.getD m.val [] = UQ \/ Vc.getD m.val [] = UR \/ Vc.getD m.val [] = Vv) := by decide
theorem QgX {y : Bs} {l : List SelD} : ∀ (d m i : Nat) (T : ST) (rest : List SelD), d <= m -> l.drop i = T.flat ++ rest -> ST.ht' T <= d -> Yl T -> QaS T -> KRead l d (Qg y m l) i T
 | 0, m, i, .mk x ks, rest, _, _, h, _, _ => by simp [ST.ht'] at h
 | d + 1, 0, i, .mk x ks, rest, hm, _, _, _, _ => by omega
 | d + 1, m + 1, i, .mk x ks, rest, hm, hl, h, hr, hsm => by
  rw [ST.ht'] at h
  have hr' := hr
  obtain ⟨hf, hz, hs, hk⟩ := hr'
  have hsm' := hsm
  obtain ⟨hsx, hsk⟩ := hsm'
  have F := fld hf
  obtain ⟨k1, k2, k3, k4, k5⟩ := Vd hl
  have hKs : ∀ (us : List ST) (k : Nat) (r : List SelD), l.drop k = ST.flats us ++ r -> ST.hts' us <= d -> ZI us -> Ut us -> Qb5 l d (Qg y m l) k us := by
   intro us
   induction us with
   | nil => intros; trivial
   | cons t us ih =>
    intro k r hd' hh hr1 hs1
    rw [ST.flats, List.append_assoc] at hd'
    rw [ST.hts'] at hh
    exact ⟨QgX d m k t _ (by omega) hd' (by omega) hr1.1 hs1.1, ih _ r (YE hd') (by omega) hr1.2 hs1.2⟩
  have hK := hKs ks (i + 1) rest k2 (by omega) hk hsk
  have hK' := hK.mono (d' := d + 1) (by omega)
  have hx : l.getD i default = { x with size := ((ST.flats ks).length : Nat) + 1 } := k4
  have hkn : knd l i = x.kind := by unfold knd; rw [hx]
  have hvr : QG x.val 0 = true := by
   unfold Z7 at hf
   simp only [Bool.and_eq_true] at hf
   exact hf.1.1.1.1.1.1.1.1.1.1.2
  have tag : x.kind = 2 -> ∀ n, ∃ v, IdW v (Qg y (m + 1) l i n).1 /\ low v = x.key := by
   intro h2 n
   obtain ⟨v, v1, v2⟩ := QdH (y := y) (n := n) (ZN F.kz (F.key (.inl h2)))
   refine ⟨v, ?_, v2.trans F.low⟩
   rw [Qg]
   simp only [hx]
   rw [if_neg (by omega), if_neg (by omega), if_neg (by omega), if_neg (by omega)]
   unfold Qv
   rw [if_neg (by simp only; omega), if_pos (by simp only; omega)]
   exact v1
  have sim : Qp x.kind = true -> x.kind ≠ 1 -> x.kind ≠ 2 -> ∀ n, Vt (d + 1) (c1 (.mk x ks)) (Qg y (m + 1) l i n).1 := by
   intro h0 h1 h2 n
   have h0' := h0
   simp only [Qp, Bool.and_eq_true, decide_eq_true_eq] at h0'
   by_cases h18 : x.kind = 18 \/ x.kind = 19 \/ x.kind = 20
   have e : c1 (.mk x ks) = .rel (Vc.getD (x.kind - 18).toNat []) (css ks) := Z3 (by unfold YC; rw [if_neg (by omega), if_neg (by omega), if_neg (by omega), if_pos h18])
   unfold UB at hs
   rw [if_neg (by omega), if_pos h18] at hs
   obtain ⟨⟨g, rfl, hg⟩, hps⟩ := hs
   have hpg : YN g = false := by
    have : Jn [g] = false := hps
    rw [V2, Y8, Bool.or_false] at this
    exact this
   have ec : css [g] = cs g := by rw [css, css, List.append_nil]
   have ek : (Qc l i).getD 0 0 = i + 1 := by rw [k1]; rfl
   rw [e, ec, Qg]
   simp only [hx]
   rw [if_neg (by omega), if_neg (by omega), if_neg (by omega), if_pos h18, ek]
   simp only
   obtain ⟨mm, hm'⟩ : ∃ m : Fin 3, (x.kind - 18).toNat = m.val := ⟨⟨(x.kind - 18).toNat, by omega⟩, rfl⟩
   rw [hm']
   obtain ⟨n1, n2, n3⟩ := QkV mm
   obtain ⟨v, v1, v2⟩ := Za (y := y) (n := n) n1 n2
   generalize Ql y (Vc.getD mm.val []) n = c at v1
   obtain ⟨z, p, t, L, q, g', u, g1, g2, g3, g4, g5, g6⟩ := hK.1.grp hg (Qh y c.2).2 (Qh y (Qg y m l (i + 1) (Qh y c.2).2).2).1 (Vf _ _)
   have hG := QbN.mk (SlS.mk (g1 := []) .nil g1 g2) g3
   rw [g6, hpg, <- g5, List.nil_append, List.append_assoc, <- g4] at hG
   have q := Vt.rel v1 v2 n3 (Vf y c.2) hG (by rw [g4]; exact g1.1.stop)
   simpa using q
   have e : c1 (.mk x ks) = QM x := Z3 (by unfold YC; rw [if_neg (by omega), if_neg (by omega), if_neg (by omega), if_neg h18])
   rw [e, Qg]
   simp only [hx]
   rw [if_neg (by omega), if_neg (by omega), if_neg (by omega), if_neg h18]
   exact (QrX y F hvr hsx h0 h1 h2 h18 n).mono (by omega)
  have seq : Q9 x.kind = true -> x.kind ≠ 22 -> ∀ n, YX (d + 1) (c1 (.mk x ks)) (YN (.mk x ks)) (Qg y (m + 1) l i n).1 := by
   intro h0 h22 n
   by_cases h21 : x.kind = 21
   have q := cmp_p (y := y) (n := n) hr h21 hK'
   rw [Qg]
   simp only [hx]
   rw [if_neg (by omega), if_neg (by omega), if_pos h21, k1]
   exact q
   have h0s : Qp x.kind = true := by simpa [Q9, h21, h22] using h0
   rw [Qch hr h0s]
   by_cases h1 : x.kind = 1
   have e : c1 (.mk x ks) = .compound [] [] := (Qbs hr h0s).1 h1
   have ew : (Qg y (m + 1) l i n).1 = [42] := by
    rw [Qg]
    simp only [hx]
    rw [if_neg (by omega), if_neg (by omega), if_neg (by omega), if_neg (by omega)]
    unfold Qv
    rw [if_pos (by simp only; omega)]
   rw [e, ew]
   exact YX.star (YY.nil (d + 1))
   by_cases h2 : x.kind = 2
   have e : c1 (.mk x ks) = .tag x.key := Z3 (by unfold YC QM; rw [if_neg (by omega), if_neg (by omega), if_neg (by omega), if_neg (by omega), if_neg (by omega), if_pos h2])
   obtain ⟨v, v1, v2⟩ := tag h2 n
   have q := YX.tag v1 (YY.nil (d + 1))
   rw [v2, List.append_nil] at q
   rw [e]
   exact q
   have hS := sim h0s h1 h2 n
   have q := YX.bare (YY.cons hS (YY.nil (d + 1))) (by simp [UI hS.1])
   rw [List.append_nil] at q
   exact q
  refine { kn := hkn, tag := tag, sim := sim, seq := seq, sel := fun h0 n => ?_, grp := fun h23 n e he => ?_ }
  by_cases h22 : x.kind = 22
  unfold UB at hs
  rw [if_neg (by omega), if_neg (by omega), if_neg (by omega), if_pos h22] at hs
  obtain ⟨a, b, rfl, ha, hb, hb22, hpa⟩ := hs
  have ha23 : a.node.kind ≠ 23 := by simp [Q9, Qp] at ha; omega
  have hb23 : b.node.kind ≠ 23 := by simp [Q9, Qp] at hb; omega
  have ek0 : (Qc l i).getD 0 0 = i + 1 := by rw [k1]; rfl
  have ek1 : (Qc l i).getD 1 0 = i + 1 + a.flat.length := by rw [k1]; rfl
  have hA := hK'.1.sel ha
  have hB := hK'.2.1.seq hb hb22
  rw [show YN a = false from hpa] at hA
  have e : c1 (.mk x [a, b]) = .combined (c1 a) (QeS x.op) (c1 b) := Z3 (by
   unfold YC
   rw [if_neg (by omega), if_pos h22, css, css, css, YB ha23, YB hb23]; rfl)
  have ep : YN (.mk x [a, b]) = YN b := by
   rw [Ui, QcZ (by omega), V2, V2, Y8, show YN a = false from hpa]; simp
  obtain ⟨o1, o2, _⟩ := F.comb h22
  rw [e, ep, Qg]
  simp only [hx]
  rw [if_neg (by omega), if_pos h22, ek0, ek1]
  by_cases o : x.op = 1
  rw [if_pos o, o, show QeS 1 = 32 from rfl]
  have q := ZV.desc (hA n) (g := [32] ++ (Qh y (Qg y m l (i + 1) n).2).1) (Qlw QdW (Vf _ _)) (by simp) (hB (Qh y (Qg y m l (i + 1) n).2).2)
  simpa using q
  rw [if_neg o]
  simp only
  have key : ∀ c : UInt8, Vh c.toNat = true -> ZV (d + 1) (.combined (c1 a) c (c1 b)) (YN b) ((Qg y m l (i + 1) n).1 ++ ((Qh y (Qg y m l (i + 1) n).2).1 ++ [c] ++ (Qh y (Qh y (Qg y m l (i + 1) n).2).2).1) ++ (Qg y m l (i + 1 + a.flat.length) (Qh y (Qh y (Qg y m l (i + 1) n).2).2).2).1) := by
   intro c hc
   have q := ZV.comb (hA n) (Vf y (Qg y m l (i + 1) n).2) hc (Vf y (Qh y (Qg y m l (i + 1) n).2).2) (hB (Qh y (Qh y (Qg y m l (i + 1) n).2).2).2)
   simpa using q
  have ho : x.op = 2 \/ x.op = 3 \/ x.op = 4 := by omega
  rcases ho with ho | ho | ho <;> rw [ho]
  exact key 62 (by decide)
  exact key 43 (by decide)
  exact key 126 (by decide)
  exact ZV.one (seq h0 h22 n)
  have h23' : x.kind = 23 := h23
  unfold UB at hs
  rw [if_pos h23'] at hs
  obtain ⟨hs1, hs2⟩ := hs
  obtain ⟨k0, us, rfl⟩ := List.exists_cons_of_ne_nil hs2
  have n23 : k0.node.kind ≠ 23 := by
   have := hs1 k0 (by simp)
   simp [Q9, Qp] at this; omega
  have hS0 := hK'.1.sel (hs1 k0 (by simp)) n
  obtain ⟨g, u, w, hg, he'⟩ := QlF (l := l) (d := d + 1) (f := Qg y m l) y he us (i + 1 + k0.flat.length) (Qg y m l (i + 1) n).2 (Qg y m l (i + 1) n).1 hK'.2 (fun k hk' => hs1 k (by simp [hk']))
  refine ⟨c1 k0, YN k0, _, css us, Jn us, g, u, hS0, w, hg, ?_, ?_, ?_⟩
  rw [Qg]
  simp only [hx]
  rw [if_pos h23', k1, QH, List.foldl_cons, <- he']
  rfl
  rw [cs]; unfold YC
  rw [if_pos h23', css, YB n23]; rfl
  rw [Ui, QcZ (by omega), V2]; rfl
theorem Qqz {y : Bs} {l : List SelD} {T : ST} (e : l = T.flat) (h : ST.ht' T <= 1000) (hr : Yl T) (hs : QaS T) (hk : T.node.kind = 23 \/ Q9 T.node.kind = true) : Va (YP y l) true true = some (cs T) := by
 have hd : l.drop 0 = T.flat ++ [] := by simpa using e
 have R := QgX (y := y) 1000 2000 0 T [] (by decide) hd h hr hs
 have hl : l.length ≠ 0 := by rw [e]; have := JY T; omega
 unfold YP
 rw [if_neg hl]
 simp only
 by_cases h23 : T.node.kind = 23
 obtain ⟨x, p, t, L, q, g, u, g1, g2, g3, g4, g5, g6⟩ := R.grp h23 (Qh y 0).2 _ (Vf y (Qg y 2000 l 0 (Qh y 0).2).2)
 have q1 := Uc (QbN.mk (SlS.mk (Vf y 0) g1 g2) g3) (by decide) true
 rw [if_neg (by simp)] at q1
 rw [List.append_assoc, g4, g5]
 simpa using q1
 have S := R.sel (hk.resolve_left h23) (Qh y 0).2
 have q1 := Uc (QbN.mk (SlS.mk (Vf y 0) S (Vf y (Qg y 2000 l 0 (Qh y 0).2).2)) (JI.nil 1000)) (by decide) true
 rw [if_neg (by simp)] at q1
 rw [YB h23]
 simpa using q1
end Way
end
section
open Go Go.RowKit
set_option maxRecDepth 20000
def c78 (svs : List SV) (b : Option SB) : QR := match svs, b with
 | [.str l], none => some ([], .bool (Uv l))
 | _, _ => none
noncomputable def W78 : Wk := ⟨[], Qm Tryz.f78, false, false, [.tmp 2], [4], [], []⟩
theorem has78 : Has 78 := hsf Tryz.f78
theorem sat78 : Sat 78 (QC c78) := by
 have hD : Qe W78.D := Qe.nil
 refine W78.sa hD Tryz.f78 fun svs b K hP => ?_
 obtain ⟨ps, v, e, hp, hk⟩ := Qo hP
 unfold c78 at e
 split at e
 rename_i l
 cases e
 refine W78.en (K (.val (.bool ((((decide (l = [98, 101, 102, 111, 114, 101])) || (decide (l = [97, 102, 116, 101, 114]))) || (decide (l = [102, 105, 114, 115, 116, 45, 108, 105, 110, 101]))) || (decide (l = [102, 105, 114, 115, 116, 45, 108, 101, 116, 116, 101, 114]))))) none) ?_
 exact hk
 cases e
def c80 (svs : List SV) (b : Option SB) : QR := match svs, b with
 | [.int .i64 n], none => some ([], .bool (Qp n))
 | _, _ => none
noncomputable def W80 : Wk := ⟨[], Qm Tryz.f80, false, false, [.tmp 2], [4], [], []⟩
theorem Qqi : Has 80 := hsf Tryz.f80
theorem QpP : Sat 80 (QC c80) := by
 have hD : Qe W80.D := Qe.nil
 refine W80.sa hD Tryz.f80 fun svs b K hP => ?_
 obtain ⟨ps, v, e, hp, hk⟩ := Qo hP
 unfold c80 at e
 split at e
 rename_i n
 cases e
 refine W80.en (K (.val (.bool ((decide ((1 : Int) <= n)) && (decide (n <= (20 : Int)))))) none) ?_
 exact hk
 cases e
def c81 (svs : List SV) (b : Option SB) : QR := match svs, b with
 | [.int .i64 n], none => some ([0 <= n /\ n < 9], .str (Vz.getD n.toNat []))
 | _, _ => none
noncomputable def W81 : Wk := ⟨[], Qm Tryz.f81, false, false, [.tmp 2], [9], [], []⟩
theorem Qqh : Has 81 := hsf Tryz.f81
theorem naz0 {p q : Prop} (k : q) (h : p := by first | omega | (simp; done) | (simp; omega) | (simp; assumption)) : p /\ q := ⟨h, k⟩
theorem QpO : Sat 81 (QC c81) := by
 have hD : Qe W81.D := Qe.nil
 refine W81.sa hD Tryz.f81 fun svs b K hP => ?_
 obtain ⟨ps, v, e, hp, hk⟩ := Qo hP
 unfold c81 at e
 split at e
 rename_i n
 cases e
 obtain ⟨h01, _⟩ := hp
 refine W81.en ((0 <= n /\ n < (9 : Nat)) /\ ((n).toNat < 9) /\ K (.val (.str (([[], [], [61], [33, 61], [126, 61], [124, 61], [94, 61], [36, 61], [42, 61]] : List (List UInt8)).getD ((n).toNat) []))) none) ?_
 refine naz0 (naz0 ?_)
 exact hk
 cases e
theorem Qs0 {l : List SelD} {i : Nat} (h : i < l.length) (e : Yi (l.getD i default) = true) : l.any Yi = true := by
 rw [List.any_eq_true]
 refine ⟨l[i], List.getElem_mem h, ?_⟩
 rw [List.getD_eq_getElem?_getD, List.getElem?_eq_getElem h] at e
 exact e
theorem QsY {l : List SelD} (e : ∀ j, j < l.length -> Yi (l.getD j default) = false) : l.any Yi = false := by
 rw [List.any_eq_false]
 intro x hx
 obtain ⟨i, hi, rfl⟩ := List.getElem_of_mem hx
 have := e i hi
 rw [List.getD_eq_getElem?_getD, List.getElem?_eq_getElem hi] at this
 simpa using this
def c79 (svs : List SV) (b : Option SB) : QR := match svs, b with
 | [.sl (.sels l)], none => some ([l.length <= 1000000000], .bool (l.any Yi))
 | _, _ => none
noncomputable def W79 : Wk := ⟨[], Qm Tryz.f79, false, false, [.tmp 2], [4], [(2, 9)], []⟩
theorem has79 : Has 79 := hsf Tryz.f79
theorem naz1 {c0 p0 q : Prop} (k : q) (h : c0 -> p0 /\ True := by intro g0; (try simp at g0); exact ⟨(by first | omega | (simp; done) | (simp; omega) | (simp; assumption)), trivial⟩) : (c0 -> p0 /\ True) /\ q := ⟨h, k⟩
theorem sat79 : Sat 79 (QC c79) := by
 have hD : Qe W79.D := Qe.nil
 refine W79.sa hD Tryz.f79 fun svs b K hP => ?_
 obtain ⟨ps, v, e, hp, hk⟩ := Qo hP
 unfold c79 at e
 split at e
 rename_i l
 cases e
 obtain ⟨h01, _⟩ := hp
 have L2 : ∀ (mm : Nat) (i : Nat), l.length - i = mm -> (i <= l.length /\ ∀ j, j < i -> Yi (l.getD j default) = false) -> W79.L K 2 (mkS 24 [(0, (.sl (.sels l))), (3, (.nat i))] [] 1) := by
  intro mm
  induction mm using Nat.strongRecOn with
  | _ mm ih =>
   intro i hm hI
   obtain ⟨k1, k2⟩ := hI
   refine W79.aL hD (have a0 := decide ((l.getD i default).kind = (21 : Int)); cond (decide (i < l.length)) ((i < l.length) /\ (a0 = true -> (i < l.length) /\ True) /\ cond (a0 && (!(decide ((l.getD i default).val = [])))) (K (.val (.bool true)) none) ((i + 1 <= 9223372036854775807) /\ (W79).L K 2 (mkS 24 [(0, (.sl (.sels l))), (3, (.nat (i + 1)))] [] 1))) (K (.val (.bool false)) none)) ?_
   refine Qd ?_ ?_ <;> intro h1 <;> simp -failIfUnchanged [-List.getD_eq_getElem?_getD, -UInt8.toNat_or] at h1
   refine naz0 (naz1 ?_)
   refine Qd ?_ ?_ <;> intro h2 <;> simp -failIfUnchanged [-List.getD_eq_getElem?_getD, -UInt8.toNat_or] at h2
   rw [Qs0 h1 (by unfold Yi; simpa using h2)] at hk
   exact hk
   refine naz0 ?_
   exact ih _ (by omega) _ rfl ⟨by omega, fun j hj => by
    rcases (by omega : j < i \/ j = i) with q | q
    exact k2 j q
    subst q; unfold Yi; simpa using h2⟩
   rw [QsY (fun j hj => k2 j (by omega))] at hk
   exact hk
 refine W79.en ((W79).L K 2 (mkS 24 [(0, (.sl (.sels l))), (3, (.nat 0))] [] 1)) ?_
 exact L2 _ _ rfl ⟨by omega, fun j hj => by omega⟩
 cases e
theorem Qhz (n : Nat) : (Vs n).length <= n + 1 := by
 induction n using Nat.strongRecOn with
 | _ n ih =>
  rw [Vs]
  split
  simp; omega
  have h1 := ih (n / 10) (by omega)
  have h2 := ih (n % 10) (by omega)
  simp only [List.length_append]
  omega
def c101 (m : Nat) (svs : List SV) (b : Option SB) : QR := match svs, b with
 | [.nat n], none => some ([n < m, n <= 1000000000000000000], .str (Vs n))
 | _, _ => none
theorem QfU : Has 101 := hsf Tryz.f101
def Qqx (m : Nat) (svs : List SV) (b : Option SB) : QR := match svs, b with
 | [.nat n], none => some ([n < m + 1, n <= 1000000000000000000], .str (Vs n))
 | _, _ => none
noncomputable def W101 (m : Nat) : Wk := ⟨[(101, .pure (c101 m))], Qm Tryz.f101, false, false, [.tmp 2], [9], [], []⟩
theorem Qfz {p q : Prop} (k : q) (h : p := by first | omega | (simp; done) | (simp; omega) | (dsimp only; omega) | (refine ⟨?_, ?_⟩ <;> omega) | (have h8 := Qhz (n / 10); have h9 := Qhz (n % 10); omega)) : p /\ q := ⟨h, k⟩
theorem Qos (m : Nat) (hG : Sat 101 (QC (c101 m))) : Sat 101 (QC (Qqx m)) := by
 have hD : Qe (W101 m).D := (Qe.cons QfU hG Qe.nil)
 refine (W101 m).sa hD Tryz.f101 fun svs b K hP => ?_
 obtain ⟨ps, v, e, hp, hk⟩ := Qo hP
 unfold Qqx at e
 split at e
 rename_i n
 cases e
 obtain ⟨h01, h02, _⟩ := hp
 refine (W101 m).en (cond (decide (n < 10)) ((n + 1 <= 9223372036854775807) /\ (n <= n + 1 /\ n + 1 <= 10) /\ K (.val (.str (([48, 49, 50, 51, 52, 53, 54, 55, 56, 57].take (n + 1)).drop n))) none) ((n <= 9223372036854775807 /\ 0 < 10) /\ (n / 10 < m) /\ (n / 10 <= 1000000000000000000) /\ (0 < 10) /\ (n % 10 < m) /\ (n % 10 <= 1000000000000000000) /\ ((Vs (n / 10)).length + (Vs (n % 10)).length <= 2305843009213693952) /\ K (.val (.str (Vs (n / 10) ++ (Vs (n % 10))))) none)) ?_
 refine Qd ?_ ?_ <;> intro h1 <;> simp -failIfUnchanged [-List.getD_eq_getElem?_getD, -UInt8.toNat_or] at h1
 refine Qfz (Qfz ?_)
 rw [Vs, if_pos h1] at hk
 exact hk
 refine Qfz (Qfz (Qfz (Qfz (Qfz (Qfz (Qfz ?_))))))
 rw [Vs, if_neg (by omega)] at hk
 exact hk
 cases e
theorem Qmc : ∀ m, Sat 101 (QC (c101 m))
 | 0 => by
  intro g0 w M ω svs args b K hS hn hr hP
  obtain ⟨ps, v, e, hp, hk⟩ := Qo hP
  unfold c101 at e
  split at e
  cases e; exact absurd hp.1 (Nat.not_lt_zero _)
  cases e
 | m + 1 => Qos m (Qmc m)
theorem Qib : Sat 101 (QC fun svs b => match svs, b with
 | [.nat n], none => some ([n <= 1000000000000000000], .str (Vs n))
 | _, _ => none) := by
 refine Sat.imp (Sat.ex Qmc) fun svs b K h => ?_
 obtain ⟨ps, v, e, hp, hk⟩ := Qo h
 split at e
 rename_i n
 cases e
 exact ⟨n + 1, Nat.lt_succ_self n, hp.1, hk⟩
 cases e
def QhI (svs : List SV) (b : Option SB) : QR := match svs, b with
 | [x], none => match toI x with
  | some n => some ([0 <= n /\ n <= 1000000000000000000], .str (Vs n.toNat))
  | _ => none
 | _, _ => none
theorem Qfh : Sat 101 (QC QhI) := by
 refine Sat.wk Qib fun svs b K h => ?_
 obtain ⟨ps, v, e, hp, hk⟩ := Qo h
 unfold QhI at e
 split at e
 rename_i x
 split at e
 rename_i n hx
 cases e
 refine ⟨[.nat n.toNat], ⟨fun ω v hr => ?_, trivial⟩, by have := hp.1; omega, hk⟩
 have q := YG hx hr
 have q2 := q.int_inv
 subst q2
 have q3 := Rel.nat (ω := ω) n.toNat
 rwa [show ((n.toNat : Nat) : Int) = n by have := hp.1; omega] at q3
 cases e
 cases e
end
end Go.Proofs.YtengepcafdnalaaGreatDoor
