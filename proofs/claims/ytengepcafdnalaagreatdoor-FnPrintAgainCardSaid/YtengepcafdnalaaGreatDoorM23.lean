/-
  Parts of the proof that the law FnPrintAgain holds for every input (texts Wb). Conditions: none.
-/
import Derived.Test.YtengepcafdnalaaGreatDoorM22
namespace Go.Proofs.YtengepcafdnalaaGreatDoor
open _root_.Bool renaming or_eq_true → zw, false_ne_true → zE
open _root_.List renaming mem_cons → zz, length_pos_iff → zu, length_cons → ze, length_nil → zf, nil_append → zI, append_assoc → zo
section
namespace Way
set_option maxRecDepth 20000
theorem Jc {r : Bs} {n : Nat} (h : hd r = n) (h1 : QG n = false) (h2 : n ≠ 92) : YP r := by subst h; exact ⟨h1, h2⟩
theorem ZG {g r : Bs} (hg : WsL g) (hr : YP r) : YP (g ++ r) := by
 match g, hg with
 | [], _ => exact hr
 | c :: g, hg =>
  have h := hg c (by simp)
  simp only [VM, zw, decide_eq_true_eq] at h
  refine Jc (n := c.toNat) rfl ?_ (by omega)
  rcases h with ((((h | h) | h) | h) | h) <;> rw [h] <;> decide
theorem QcU {v t r : Bs} (h : IdW v t) : V6 (t ++ r) := by
 obtain ⟨h1, _, h3⟩ := h.head
 have h4 := Qds h3
 unfold V6
 rw [Q8 h1]
 exact ⟨h4.2.2.2.1, h4.2.2.2.2.1⟩
theorem Zz {c : UInt8} {r : Bs} (h1 : VM c.toNat = false) (h2 : c.toNat ≠ 47) : V6 (c :: r) := ⟨h1, h2⟩
section
variable {s : Bs}
theorem Qos {v t g1 g2 : Bs} (h : IdW v t) (w1 : WsL g1) (w2 : WsL g2) {i : Nat} {r : Bs} (e : s.drop i = 91 :: (g1 ++ (t ++ (g2 ++ (93 :: r))))) :
 ZX s i = some (.attr (low v) [] [] false, i + (g1.length + t.length + g2.length + 2)) := by
 obtain ⟨_, _, _, e1⟩ := d1 e
 have q1 := Ym g1 (i + 1) _ e1 w1 (QcU h)
 have e2 := dA e1
 have q2 := Y0 h e2 (ZG w2 (Jc (n := 93) rfl (by decide) (by decide)))
 have e3 := dA e2
 have q3 := Ym g2 _ _ e3 w2 (Zz (by decide) (by decide))
 obtain ⟨k1, k2, k3, k4⟩ := d1 (dA e3)
 unfold ZX
 rw [q1, q2]
 simp only
 rw [q3, if_pos k1, if_pos (show _ = 93 from k2)]
 simp; omega
theorem Qit {op : Bs} (h : op ∈ attrSigns) : op = [61] \/ ∃ c : UInt8, op = [c, 61] /\ c.toNat ≠ 61 /\ c.toNat ≠ 93 /\ QG c.toNat = false /\ c.toNat ≠ 92 /\ VM c.toNat = false /\ c.toNat ≠ 47 := by
 simp only [attrSigns, zz, List.not_mem_nil, or_false] at h
 rcases h with h | h | h | h | h | h | h
 . exact .inl h
 all_goals (refine .inr ⟨_, h, ?_⟩; decide)
def QkN (ign : Bool) (f : Bs) : Prop := (ign = false /\ f = []) \/ (ign = true /\ (f = [105] \/ f = [73]))
theorem Qoq {v t g1 g2 op g3 val vt g4 f g5 : Bs} {ign : Bool} (h : IdW v t) (w1 : WsL g1) (w2 : WsL g2) (ho : op ∈ attrSigns) (w3 : WsL g3) (hv : Qef val vt) (w4 : WsL g4)
 (hf : QkN ign f) (hz : f = [] \/ g4 ≠ [] \/ ∃ u, vt = u ++ [34] \/ vt = u ++ [39]) (w5 : WsL g5) {i : Nat} {r : Bs} (hn : YP (g4 ++ (f ++ (g5 ++ (93 :: r)))) \/ ¬ IdW val vt)
 (e : s.drop i = 91 :: (g1 ++ (t ++ (g2 ++ (op ++ (g3 ++ (vt ++ (g4 ++ (f ++ (g5 ++ (93 :: r))))))))))) :
 ZX s i = some (.attr (low v) val op ign, i + (g1.length + t.length + g2.length + op.length + g3.length + vt.length + g4.length + f.length + g5.length + 2)) := by
 obtain ⟨_, _, _, e1⟩ := d1 e
 have q1 := Ym g1 (i + 1) _ e1 w1 (QcU h)
 have e2 := dA e1
 have hop := Qit ho
 have hsn : YP (op ++ (g3 ++ (vt ++ (g4 ++ (f ++ (g5 ++ (93 :: r))))))) := by
  rcases hop with rfl | ⟨c, rfl, k1, k2, k3, k4, k5, k6⟩
  exact Jc (n := 61) rfl (by decide) (by decide)
  exact ⟨k3, k4⟩
 have q2 := Y0 h e2 (ZG w2 hsn)
 have e3 := dA e2
 have hsw : V6 (op ++ (g3 ++ (vt ++ (g4 ++ (f ++ (g5 ++ (93 :: r))))))) := by
  rcases hop with rfl | ⟨c, rfl, k1, k2, k3, k4, k5, k6⟩
  exact Zz (by decide) (by decide)
  exact Zz k5 k6
 have q3 := Ym g2 _ _ e3 w2 hsw
 have e4 := dA e3
 have e5 := dA e4
 have hve := hv.ne
 have q5 := Ym g3 _ _ e5 w3 (by unfold V6; rw [Q8 hve.1]; exact hve.2)
 have e6 := dA e5
 have q6 : (if bat s (i + 1 + g1.length + t.length + g2.length + op.length + g3.length) = 39 \/ bat s (i + 1 + g1.length + t.length + g2.length + op.length + g3.length) = 34 then Jk s (i + 1 + g1.length + t.length + g2.length + op.length + g3.length)
  else QM s (i + 1 + g1.length + t.length + g2.length + op.length + g3.length)) = some (val, i + 1 + g1.length + t.length + g2.length + op.length + g3.length + vt.length) := by
  rcases hn with hn | hn
  . exact Ql0 hv e6 hn
  rcases hv with hv | ⟨q, u, hq, hu, hvt⟩
  . exact absurd hv hn
  subst hvt
  have e' : s.drop (i + 1 + g1.length + t.length + g2.length + op.length + g3.length) = q :: (u ++ (q :: (g4 ++ (f ++ (g5 ++ (93 :: r)))))) := by rw [e6]; simp
  have hb := (d1 e').2.1
  rw [hb, if_pos (by rcases hq with rfl | rfl <;> decide), Qkf (by rcases hq with rfl | rfl <;> decide) hu e']
  simp
 have e7 := dA e6
 have hfw : V6 (f ++ (g5 ++ (93 :: r))) \/ f = [] := by
  rcases hf with ⟨_, hf⟩ | ⟨_, hf | hf⟩
  exact .inr hf
  subst hf; exact .inl (Zz (by decide) (by decide))
  subst hf; exact .inl (Zz (by decide) (by decide))
 obtain ⟨z1, z2, z3, z4⟩ := d1 (dA (dA (dA e7)))
 have hm : i + 1 + g1.length + t.length + g2.length < s.length := lhd e4 (by rcases hop with rfl | ⟨c, rfl, _⟩ <;> simp)
 unfold ZX
 rw [q1, q2]
 simp only
 rw [q3, if_pos hm]
 have b0 : bat s (i + 1 + g1.length + t.length + g2.length) = hd op := by rw [bhd e4, Q8 (by rcases hop with rfl | ⟨c, rfl, _⟩ <;> simp)]
 have hvl : 1 <= vt.length := zu.2 hve.1
 have key : ZX.iAttrV s (low v) op (i + 1 + g1.length + t.length + g2.length + op.length + g3.length) = some (.attr (low v) val op ign, i + (g1.length + t.length + g2.length + op.length + g3.length + vt.length + g4.length + f.length + g5.length + 2)) := by
  unfold ZX.iAttrV
  rw [if_pos (lhd e6 (by simp [hve.1])), q6]
  simp only
  rcases hf with ⟨rfl, rfl⟩ | ⟨rfl, hf⟩
  have e8 : s.drop (i + 1 + g1.length + t.length + g2.length + op.length + g3.length + vt.length) = (g4 ++ g5) ++ (93 :: r) := by rw [e7]; simp
  have w45 : WsL (g4 ++ g5) := fun c hc => (List.mem_append.1 hc).elim (w4 c) (w5 c)
  have q8 := Ym _ _ _ e8 w45 (Zz (by decide) (by decide))
  have e9 := dA e8
  obtain ⟨y1, y2, y3, y4⟩ := d1 e9
  have q9 := iWs_0 e9 (Zz (by decide) (by decide))
  rw [q8, if_pos y1, y2, if_neg (by decide), q9]
  unfold ZX.iAttrE
  rw [if_pos ⟨y1, y2, ho⟩]
  simp; omega
  have hfl : f ≠ [] := by rcases hf with rfl | rfl <;> simp
  have hfb : hd f = 105 \/ hd f = 73 := by rcases hf with rfl | rfl <;> decide
  have hf1 : f.length = 1 := by rcases hf with rfl | rfl <;> rfl
  have hsf : V6 (f ++ (g5 ++ (93 :: r))) := hfw.resolve_right hfl
  have q8 := Ym g4 _ _ e7 w4 hsf
  have e8 := dA e7
  have e9 := dA e8
  have hb := bhd e8
  rw [Q8 hfl] at hb
  have q9 := Ym g5 _ _ e9 w5 (Zz (by decide) (by decide))
  rw [q8, if_pos (lhd e8 (by simp [hfl])), hb, if_pos hfb, decide_eq_true hfb]
  rw [hf1] at q9
  rw [q9]
  rw [hf1] at z1 z2
  unfold ZX.iAttrE
  rw [if_pos ⟨z1, z2, ho⟩, hf1]
  simp; omega
 rcases hop with rfl | ⟨c, rfl, k1, k2, k3, k4, k5, k6⟩
 have b1 : bat s (i + 1 + g1.length + t.length + g2.length) = 61 := b0
 rw [b1, if_neg (by decide), if_pos ⟨by simp only [ze, zf] at z1; omega, .inl rfl⟩, if_pos rfl, if_pos rfl]
 simp only [ze, zf] at q5 key ⊢
 rw [q5]
 exact key
 have b1 : bat s (i + 1 + g1.length + t.length + g2.length) = c.toNat := b0
 obtain ⟨x1, x2, x3, x4⟩ := d1 e4
 obtain ⟨y1, y2, y3, y4⟩ := d1 x4
 rw [b1, if_neg k2, if_pos ⟨by simp only [ze, zf] at z1; omega, .inr y2⟩, if_neg k1, if_neg k1, x3, y3]
 simp only [ze, zf] at q5 key ⊢
 rw [q5]
 exact key
theorem Qe5 : ∀ (ds : Bs) (i : Nat) (r : Bs), s.drop i = ds ++ r -> (∀ c ∈ ds, Qw c.toNat = true) -> Qw (hd r) = false -> V9 s i = i + ds.length
 | [], i, r, e, _, hr => by
  rw [V9, if_neg]
  rfl
  rintro ⟨_, q⟩
  rw [bhd e] at q
  simp only [zI] at q
  rw [hr] at q; cases q
 | c :: ds, i, r, e, h, hr => by
  obtain ⟨h1, h2, h3, h4⟩ := d1 e
  rw [V9, if_pos ⟨h1, by rw [h2]; exact h c (by simp)⟩, Qe5 ds (i + 1) r h4 (fun c hc => h c (by simp [hc])) hr]
  simp; omega
def Qgx (n : Nat) (ds : Bs) : Prop := ds ≠ [] /\ (∀ c ∈ ds, Qw c.toNat = true) /\ Yx ds = n /\ n <= 9223372036854775807
theorem QcA {n : Nat} {ds : Bs} (h : Qgx n ds) {i : Nat} {r : Bs} (e : s.drop i = ds ++ r) (hr : Qw (hd r) = false) : Qdw s i = some ((n : Int), i + ds.length) := by
 obtain ⟨h1, h2, h3, h4⟩ := h
 have h5 : 1 <= ds.length := zu.2 h1
 unfold Qdw
 rw [Qe5 ds i r e h2 hr, if_neg (by omega), Qrd e, h3, if_pos h4]
end
def Qeg (a b : Int) (t : Bs) : Prop := t ≠ [] /\ VM (hd t) = false /\ hd t ≠ 47 /\ ∀ (s : Bs) (i : Nat) (g r : Bs), s.drop i = t ++ (g ++ (41 :: r)) -> WsL g -> ∃ j, VU s i = some (a, b, j) /\ (j = i + t.length \/ j = i + t.length + g.length)
theorem Qqs {g r : Bs} (w : WsL g) : VM (hd (g ++ (41 :: r))) = true \/ hd (g ++ (41 :: r)) = 41 := by
 match g, w with
 | [], _ => exact .inr rfl
 | c :: g, w => exact .inl (w c (by simp))
def Q6 (d : Nat) (x : CSel) (t : Bs) : Prop := Q0 (hd t) = true /\ ∀ (s : Bs) (acc : Bool) (k i : Nat) (r : Bs), d <= k -> s.drop i = t ++ r -> YP r -> Vo (QD s acc k) s i = some (some x, [], i + t.length)
theorem Jd {t : Bs} (h : Q0 (hd t) = true) : t ≠ [] := Qb3 (by simp [Q0] at h; omega)
theorem QgP {t r : Bs} (h : Q0 (hd t) = true) : YP (t ++ r) := by
 unfold YP
 rw [Q8 (Jd h)]
 simp only [Q0, zw, decide_eq_true_eq] at h
 rcases h with ((h | h) | h) | h <;> rw [h] <;> decide
theorem Q6.mono {d d' : Nat} {x : CSel} {t : Bs} (h : Q6 d x t) (hd : d <= d') : Q6 d' x t := ⟨h.1, fun s acc k i r hk => h.2 s acc k i r (by omega)⟩
theorem Q6.idn {v t : Bs} (h : NmW v t) (ht : t ≠ []) : Q6 0 (.idn v) (35 :: t) := by
 refine ⟨show Q0 35 = true by decide, fun s acc k i r _ e hs => ?_⟩
 obtain ⟨h1, h2, h3, h4⟩ := d1 e
 unfold Vo
 rw [h2, if_pos (by decide), Qdv h ht h4 hs]
 simp; omega
theorem Q6.cls {v t : Bs} (h : IdW v t) : Q6 0 (.cls v) (46 :: t) := by
 refine ⟨show Q0 46 = true by decide, fun s acc k i r _ e hs => ?_⟩
 obtain ⟨h1, h2, h3, h4⟩ := d1 e
 unfold Vo
 rw [h2, if_neg (by decide), if_pos (by decide), Y0 h h4 hs]
 simp; omega
theorem Q6.attr0 {v t g1 g2 : Bs} (h : IdW v t) (w1 : WsL g1) (w2 : WsL g2) : Q6 0 (.attr (low v) [] [] false) (91 :: (g1 ++ (t ++ (g2 ++ [93])))) := by
 refine ⟨show Q0 91 = true by decide, fun s acc k i r _ e hs => ?_⟩
 have e' : s.drop i = 91 :: (g1 ++ (t ++ (g2 ++ (93 :: r)))) := by rw [e]; simp
 unfold Vo
 rw [(d1 e).2.1, if_neg (by decide), if_neg (by decide), if_pos (by decide), Qos h w1 w2 e']
 simp; omega
theorem Q6.attr1 {v t g1 g2 op g3 val vt g4 f g5 : Bs} {ign : Bool} (h : IdW v t) (w1 : WsL g1) (w2 : WsL g2) (ho : op ∈ attrSigns) (w3 : WsL g3) (hv : Qef val vt) (w4 : WsL g4)
 (hf : QkN ign f) (hz : f = [] \/ g4 ≠ []) (w5 : WsL g5) : Q6 0 (.attr (low v) val op ign) (91 :: (g1 ++ (t ++ (g2 ++ (op ++ (g3 ++ (vt ++ (g4 ++ (f ++ (g5 ++ [93])))))))))) := by
 refine ⟨show Q0 91 = true by decide, fun s acc k i r _ e hs => ?_⟩
 have e' : s.drop i = 91 :: (g1 ++ (t ++ (g2 ++ (op ++ (g3 ++ (vt ++ (g4 ++ (f ++ (g5 ++ (93 :: r)))))))))) := by rw [e]; simp
 have hn : YP (g4 ++ (f ++ (g5 ++ (93 :: r)))) := by
  have h93 : YP (g5 ++ (93 :: r)) := ZG w5 (Jc (n := 93) rfl (by decide) (by decide))
  rcases hz with rfl | hz
  exact ZG w4 h93
  match g4, w4, hz with
  | c :: g, w4, _ =>
   have q := ZG (g := [c]) (r := [93]) (fun x hx => w4 x (by simp at hx; simp [hx])) (Jc (n := 93) rfl (by decide) (by decide))
   exact q
 unfold Vo
 rw [(d1 e).2.1, if_neg (by decide), if_neg (by decide), if_pos (by decide), Qoq h w1 w2 ho w3 hv w4 hf (hz.elim .inl fun q => .inr (.inl q)) w5 (.inl hn) e']
 simp; omega
section
variable {s : Bs}
theorem Qdu {G : Nat -> Option (List CSel × Nat)} {v t : Bs} (h : IdW v t) {i : Nat} {r : Bs} (e : s.drop i = 58 :: (t ++ r)) (hs : YP r) : iPs G s i = Y9 G s (low v) (i + (t.length + 1)) := by
 obtain ⟨h1, h2, h3, h4⟩ := d1 e
 obtain ⟨k1, _, k3⟩ := h.head
 have k4 := Qds k3
 have hb := bhd h4
 rw [Q8 k1] at hb
 unfold iPs
 rw [if_pos (lhd h4 (by simp [k1])), hb, if_neg k4.2.2.2.2.2.2.2.2, Y0 h h4 hs]
 simp only
 rw [if_neg (fun q => k4.2.2.2.2.2.2.2.2 q.1)]
 congr 1; omega
theorem Zu {G : Nat -> Option (List CSel × Nat)} {i : Nat} (h : bat s i = 58) : Vo G s i = iPs G s i := by
 unfold Vo
 rw [h, if_neg (by decide), if_neg (by decide), if_neg (by decide)]
end
theorem Q6.plain {v t : Bs} {x : CSel} (h : IdW v t) (hx : ∀ G s j, Y9 G s (low v) j = some (some x, [], j)) : Q6 0 x (58 :: t) := by
 refine ⟨show Q0 58 = true by decide, fun s acc k i r _ e hs => ?_⟩
 rw [Zu (d1 e).2.1, Qdu h e hs, hx]
 simp
theorem Qfk {r : Bs} : YP (40 :: r) := Jc (n := 40) rfl (by decide) (by decide)
theorem Qip {r : Bs} : YP (41 :: r) := Jc (n := 41) rfl (by decide) (by decide)
section
variable {s : Bs}
theorem Qbh {g : Bs} {i : Nat} {r : Bs} (e : s.drop i = 40 :: (g ++ r)) (hg : WsL g) (hr : V6 r) : Vx s i = some (i + 1 + g.length) := by
 obtain ⟨h1, h2, h3, h4⟩ := d1 e
 unfold Vx
 rw [if_pos ⟨h1, h2⟩, Ym g _ r h4 hg hr]
theorem J1 {g : Bs} {i : Nat} {r : Bs} (e : s.drop i = g ++ (41 :: r)) (hg : WsL g) : QV s i = some (i + g.length + 1) := by
 have q := Ym g i (41 :: r) e hg (Zz (by decide) (by decide))
 obtain ⟨h1, h2, h3, h4⟩ := d1 (dA e)
 unfold QV
 rw [q, if_pos ⟨h1, h2⟩]
end
theorem Q6.lang {v t w u g1 g2 : Bs} (h : IdW v t) (hv : low v = YF) (hu : IdW w u) (w1 : WsL g1) (w2 : WsL g2) : Q6 0 (.lang (low w)) (58 :: (t ++ (40 :: (g1 ++ (u ++ (g2 ++ [41])))))) := by
 refine ⟨show Q0 58 = true by decide, fun s acc k i r _ e hs => ?_⟩
 have e1 : s.drop i = 58 :: (t ++ (40 :: (g1 ++ (u ++ (g2 ++ (41 :: r)))))) := by rw [e]; simp
 have e2 : s.drop (i + (t.length + 1)) = 40 :: (g1 ++ (u ++ (g2 ++ (41 :: r)))) := by
  have := dA (d1 e1).2.2.2; rw [<- this]; congr 1; omega
 have e3 := dA (d1 e2).2.2.2
 have e4 := dA e3
 rw [Zu (d1 e).2.1, Qdu h e1 Qfk, hv]
 unfold Y9
 rw [if_neg (by decide), if_neg (by decide), if_neg (by decide), if_pos rfl]
 unfold Jl
 rw [Qbh e2 w1 (QcU hu)]
 simp only
 rw [if_pos (lhd e3 (by simp [hu.head.1])), Y0 hu e3 (ZG w2 Qip)]
 simp only
 rw [J1 e4 w2]
 simp; omega
theorem Q6.contains {v t w u g1 g2 : Bs} (own : Bool) (h : IdW v t) (hv : low v = if own = true then QH else Q9) (hu : Qef w u) (w1 : WsL g1) (w2 : WsL g2) :
 Q6 0 (.contains (low w) own) (58 :: (t ++ (40 :: (g1 ++ (u ++ (g2 ++ [41])))))) := by
 refine ⟨show Q0 58 = true by decide, fun s acc k i r _ e hs => ?_⟩
 have e1 : s.drop i = 58 :: (t ++ (40 :: (g1 ++ (u ++ (g2 ++ (41 :: r)))))) := by rw [e]; simp
 have e2 : s.drop (i + (t.length + 1)) = 40 :: (g1 ++ (u ++ (g2 ++ (41 :: r)))) := by
  have := dA (d1 e1).2.2.2; rw [<- this]; congr 1; omega
 have e3 := dA (d1 e2).2.2.2
 have e4 := dA e3
 have hue := hu.ne
 have hsw : V6 (u ++ (g2 ++ (41 :: r))) := by unfold V6; rw [Q8 hue.1]; exact hue.2
 rw [Zu (d1 e).2.1, Qdu h e1 Qfk, hv]
 have hname : Y9 (QD s acc k) s (if own = true then QH else Q9) (i + (t.length + 1)) = (ZY s own (i + (t.length + 1))).map fun p => (some p.1, [], p.2) := by
  unfold Y9
  cases own
  rw [if_neg (by decide), if_pos (by decide)]; rfl
  rw [if_neg (by decide), if_pos (by decide)]; rfl
 rw [hname]
 unfold ZY
 rw [Qbh e2 w1 hsw]
 simp only
 rw [if_pos (lhd e3 (by simp [hue.1])), Ql0 hu e3 (ZG w2 Qip)]
 simp only
 rw [J1 e4 w2]
 simp; omega
def YV (last ofType : Bool) : Bs := if last = true then (if ofType = true then QW else QP) else (if ofType = true then VL else VH)
theorem Q6.nth {v t u g1 g2 : Bs} {a b : Int} (l ty : Bool) (h : IdW v t) (hv : low v = YV l ty) (hu : Qeg a b u) (w1 : WsL g1) (w2 : WsL g2) :
 Q6 0 (.nth a b l ty) (58 :: (t ++ (40 :: (g1 ++ (u ++ (g2 ++ [41])))))) := by
 refine ⟨show Q0 58 = true by decide, fun s acc k i r _ e hs => ?_⟩
 have e1 : s.drop i = 58 :: (t ++ (40 :: (g1 ++ (u ++ (g2 ++ (41 :: r)))))) := by rw [e]; simp
 have e2 : s.drop (i + (t.length + 1)) = 40 :: (g1 ++ (u ++ (g2 ++ (41 :: r)))) := by
  have := dA (d1 e1).2.2.2; rw [<- this]; congr 1; omega
 have e3 := dA (d1 e2).2.2.2
 have e4 := dA e3
 obtain ⟨n1, n2, n3, n4⟩ := hu
 have hsw : V6 (u ++ (g2 ++ (41 :: r))) := by unfold V6; rw [Q8 n1]; exact ⟨n2, n3⟩
 rw [Zu (d1 e).2.1, Qdu h e1 Qfk, hv]
 have hname : Y9 (QD s acc k) s (YV l ty) (i + (t.length + 1)) = (JD s l ty (i + (t.length + 1))).map fun p => (some p.1, [], p.2) := by
  unfold Y9
  cases l <;> cases ty <;> rfl
 obtain ⟨j, n5, n6⟩ := n4 s _ g2 r e3 w2
 rw [hname]
 unfold JD
 rw [Qbh e2 w1 hsw]
 simp only
 rw [n5]
 simp only
 rcases n6 with rfl | rfl
 rw [J1 e4 w2]
 simp; omega
 rw [J1 (g := []) (dA e4) .nil]
 simp; omega
def ElS (pe t : Bs) : Prop := Q0 (hd t) = true /\ pe ≠ [] /\ ∀ (G : Nat -> Option (List CSel × Nat)) (s : Bs) (i : Nat) (r : Bs), s.drop i = t ++ r -> YP r -> Vo G s i = some (none, pe, i + t.length)
theorem ElS.two {v t : Bs} (h : IdW v t) (hv : low v ∈ elNames) (hn : ∀ G s j, Y9 G s (low v) j = some (none, low v, j)) (hz : low v ≠ []) : ElS (low v) (58 :: 58 :: t) := by
 refine ⟨show Q0 58 = true by decide, hz, fun G s i r e hs => ?_⟩
 obtain ⟨h1, h2, h3, h4⟩ := d1 e
 obtain ⟨k1, k2, k3, k4⟩ := d1 h4
 rw [Zu h2]
 unfold iPs
 rw [if_pos k1, k2, if_pos (by decide), Y0 h k4 hs]
 simp only
 rw [if_neg (fun q => q.2 hv), hn]
 simp; omega
def QbS (r : Bs) : Prop := r = [] \/ hd r = 44 \/ hd r = 41 \/ Vh (hd r) = true \/ VM (hd r) = true
theorem QbS.no {r : Bs} (h : QbS r) : Q0 (hd r) = false /\ YP r /\ hd r ≠ 124 := by
 rcases h with h | h | h | h | h
 subst h; exact ⟨by decide, ⟨by decide, by decide⟩, by decide⟩
 exact ⟨by rw [h]; decide, ⟨by rw [h]; decide, by omega⟩, by omega⟩
 exact ⟨by rw [h]; decide, ⟨by rw [h]; decide, by omega⟩, by omega⟩
 simp only [Vh, zw, decide_eq_true_eq] at h
 rcases h with (h | h) | h <;> exact ⟨by rw [h]; decide, ⟨by rw [h]; decide, by omega⟩, by omega⟩
 simp only [VM, zw, decide_eq_true_eq] at h
 rcases h with (((h | h) | h) | h) | h <;> exact ⟨by rw [h]; decide, ⟨by rw [h]; decide, by omega⟩, by omega⟩
def Yi (d : Nat) (l : List CSel) (pe t : Bs) : Prop := (t = [] \/ Q0 (hd t) = true) /\ ∀ (s : Bs) (acc : Bool) (k i : Nat) (r : Bs) (l0 : List CSel), d <= k -> s.drop i = t ++ r -> QbS r ->
 Vn (QD s acc k) s acc i l0 [] = if pe ≠ [] /\ acc = false then none else some (Vp (l0 ++ l) pe, i + t.length)
theorem Qeo {G : Nat -> Option (List CSel × Nat)} {s : Bs} {acc : Bool} {i : Nat} {l : List CSel} {pe r : Bs} (e : s.drop i = r) (h : QbS r) : Vn G s acc i l pe = some (Vp l pe, i) := by
 rw [Vn, if_neg]
 rintro ⟨_, q⟩
 rw [bhd e, h.no.1] at q
 cases q
theorem Yi.nil (d : Nat) : Yi d [] [] [] := by
 refine ⟨.inl rfl, fun s acc k i r l0 _ e hr => ?_⟩
 rw [Qeo e hr, if_neg (fun q => q.1 rfl)]
 simp
theorem Yi.el {pe t : Bs} (d : Nat) (h : ElS pe t) : Yi d [] pe t := by
 refine ⟨.inr h.1, fun s acc k i r l0 _ e hr => ?_⟩
 have hb := bhd e
 rw [Q8 (Jd h.1)] at hb
 have hl := lhd e (by simp [Jd h.1])
 have hp : 1 <= t.length := zu.2 (Jd h.1)
 rw [Vn, if_pos ⟨hl, by rw [hb]; exact h.1⟩, h.2.2 _ s i r e hr.no.2.1]
 simp only
 rw [if_pos (by omega)]
 cases acc with
 | false => rw [if_neg (by simp), if_pos ⟨h.2.1, rfl⟩]
 | true => rw [if_pos (by simp), Qeo (dA e) hr, if_neg (by simp)]; simp
theorem Yi.cons {d : Nat} {x : CSel} {t : Bs} {l : List CSel} {pe u : Bs} (h : Q6 d x t) (h' : Yi d l pe u) : Yi d (x :: l) pe (t ++ u) := by
 have hne := Jd h.1
 refine ⟨.inr (by rw [Q8 hne]; exact h.1), fun s acc k i r l0 hk e hr => ?_⟩
 rw [zo] at e
 have hb := bhd e
 rw [Q8 hne] at hb
 have hl := lhd e (by simp [hne])
 have hp : 1 <= t.length := zu.2 hne
 have hs : YP (u ++ r) := by
  rcases h'.1 with q | q
  subst q; exact hr.no.2.1
  exact QgP q
 rw [Vn, if_pos ⟨hl, by rw [hb]; exact h.1⟩, h.2 s acc k i _ hk e hs]
 simp only
 rw [if_pos (by omega), if_pos trivial, h'.2 s acc k _ r _ hk (dA e) hr]
 simp [Nat.add_assoc]
def Qaa (t : Bs) : Prop := t ≠ [] /\ VM (hd t) = false /\ hd t ≠ 47 /\ Vh (hd t) = false /\ hd t ≠ 44 /\ hd t ≠ 41
theorem Qaa.app {t u : Bs} (h : Qaa t) : Qaa (t ++ u) := by
 obtain ⟨h1, h2⟩ := h
 refine ⟨by simp [h1], ?_⟩
 rw [Q8 h1]; exact h2
theorem Qaa.stop {t r : Bs} (h : Qaa t) : V6 (t ++ r) := by
 unfold V6; rw [Q8 h.1]; exact ⟨h.2.1, h.2.2.1⟩
def Ya (d : Nat) (x : CSel) (p : Bool) (t : Bs) : Prop := Qaa t /\ ∀ (s : Bs) (acc : Bool) (k i : Nat) (r : Bs), d <= k -> s.drop i = t ++ r -> QbS r ->
 YK (QD s acc k) s acc i = if p = true /\ acc = false then none else some (x, i + t.length)
theorem ifp {α : Type} {pe : Bs} {acc : Bool} (a b : α) : (if pe ≠ [] /\ acc = false then a else b) = (if (!decide (pe = [])) = true /\ acc = false then a else b) := by
 by_cases h : pe = []
 subst h; simp
 simp [h]
theorem Ya.star {d : Nat} {l : List CSel} {pe u : Bs} (h : Yi d l pe u) : Ya d (Vp l pe) (!decide (pe = [])) (42 :: u) := by
 refine ⟨⟨by simp, show VM 42 = false by decide, show 42 ≠ 47 by decide, show Vh 42 = false by decide, show 42 ≠ 44 by decide, show 42 ≠ 41 by decide⟩, fun s acc k i r hk e hr => ?_⟩
 obtain ⟨h1, h2, h3, h4⟩ := d1 (show s.drop i = 42 :: (u ++ r) from e)
 have hb := bhd h4
 have hb' : bat s (i + 1) ≠ 124 := by
  rw [hb]
  rcases h.1 with q | q
  subst q; exact hr.no.2.2
  rw [Q8 (Jd q)]
  simp only [Q0, zw, decide_eq_true_eq] at q
  omega
 unfold YK
 rw [if_pos h1, h2, if_pos (by decide), if_neg (fun q => hb' q.2.1), h.2 s acc k _ r [] hk h4 hr, <- ifp, show i + 1 + u.length = i + (42 :: u).length by simp; omega]
 rfl
theorem Ya.bare {d : Nat} {l : List CSel} {pe u : Bs} (h : Yi d l pe u) (hu : u ≠ []) : Ya d (Vp l pe) (!decide (pe = [])) u := by
 have hs := h.1.resolve_left hu
 refine ⟨⟨hu, ?_⟩, fun s acc k i r hk e hr => ?_⟩
 simp only [Q0, zw, decide_eq_true_eq] at hs
 rcases hs with ((q | q) | q) | q <;> rw [q] <;> decide
 have hb := bhd e
 rw [Q8 hu] at hb
 unfold YK
 rw [if_pos (lhd e (by simp [hu])), if_neg (by rw [hb]; intro q; rw [q] at hs; revert hs; decide), if_pos (by rw [hb]; exact hs), h.2 s acc k i r [] hk e hr, <- ifp]
 simp
theorem Ya.tag {d : Nat} {v t : Bs} {l : List CSel} {pe u : Bs} (ht : IdW v t) (h : Yi d l pe u) : Ya d (Vp (.tag (low v) :: l) pe) (!decide (pe = [])) (t ++ u) := by
 obtain ⟨k1, _, k3⟩ := ht.head
 have k4 := Qds k3
 refine ⟨Qaa.app ⟨k1, k4.2.2.2.1, k4.2.2.2.2.1, k4.2.2.2.2.2.1, k4.2.2.2.2.2.2.1, k4.2.2.2.2.2.2.2.1⟩, fun s acc k i r hk e hr => ?_⟩
 rw [zo] at e
 have hb := bhd e
 rw [Q8 k1] at hb
 have hs : YP (u ++ r) := by
  rcases h.1 with q | q
  subst q; exact hr.no.2.1
  exact QgP q
 unfold YK
 rw [if_pos (lhd e (by simp [k1])), hb, if_neg k4.2.1, if_neg (by rw [k4.2.2.1]; exact zE), Y0 ht e hs]
 simp only
 rw [h.2 s acc k _ r _ hk (dA e) hr, <- ifp]
 simp [Nat.add_assoc]
def Yq (d : Nat) (x : CSel) (p : Bool) (t : Bs) : Prop := Qaa t /\ ∀ (s : Bs) (acc : Bool) (k i : Nat) (r : Bs), d <= k -> s.drop i = t ++ r -> QbS r ->
 ((YK (QD s acc k) s acc i).bind fun y => VE (QD s acc k) s acc y.1 y.2) = if p = true /\ acc = false then none else VE (QD s acc k) s acc x (i + t.length)
theorem Yq.one {d : Nat} {x : CSel} {p : Bool} {t : Bs} (h : Ya d x p t) : Yq d x p t := by
 refine ⟨h.1, fun s acc k i r hk e hr => ?_⟩
 rw [h.2 s acc k i r hk e hr]
 by_cases hq : p = true /\ acc = false
 rw [if_pos hq, if_pos hq]; rfl
 rw [if_neg hq, if_neg hq]; rfl
theorem QbS.ws {g r : Bs} (hg : WsL g) (hr : QbS r) : QbS (g ++ r) := by
 match g, hg with
 | [], _ => exact hr
 | c :: g, hg => exact .inr (.inr (.inr (.inr (hg c (by simp)))))
theorem QlJ {c : UInt8} {r : Bs} (h : Vh c.toNat = true) : V6 (c :: r) := by
 simp only [Vh, zw, decide_eq_true_eq] at h
 unfold V6
 rcases h with (h | h) | h <;> (show VM c.toNat = false /\ c.toNat ≠ 47) <;> rw [h] <;> decide
theorem Yq.comb {d : Nat} {x y : CSel} {p : Bool} {t g1 g2 u : Bs} {c : UInt8} (h : Yq d x false t) (w1 : WsL g1) (hc : Vh c.toNat = true) (w2 : WsL g2) (h' : Ya d y p u) :
 Yq d (.combined x c y) p (t ++ (g1 ++ (c :: (g2 ++ u)))) := by
 refine ⟨h.1.app, fun s acc k i r hk e hr => ?_⟩
 have e1 : s.drop i = t ++ (g1 ++ (c :: (g2 ++ (u ++ r)))) := by rw [e]; simp
 have e2 := dA e1
 have e3 := dA e2
 obtain ⟨c1, c2, c3, c4⟩ := d1 e3
 have e5 := dA c4
 rw [h.2 s acc k i _ hk e1 (QbS.ws w1 (.inr (.inr (.inr (.inl hc))))), if_neg (by simp)]
 rw [VE, Ym g1 _ _ e2 w1 (QlJ hc), if_pos c1, if_pos (by rw [c2]; exact hc), Ym g2 _ _ c4 w2 h'.1.stop, h'.2 s acc k _ r hk e5 hr, c3]
 have hp : 1 <= u.length := zu.2 h'.1.1
 by_cases hq : p = true /\ acc = false
 rw [if_pos hq, if_pos hq]
 rw [if_neg hq, if_neg hq]
 simp only
 rw [if_pos (by omega)]
 congr 1
 simp; omega
theorem Yq.desc {d : Nat} {x y : CSel} {p : Bool} {t g u : Bs} (h : Yq d x false t) (w : WsL g) (hg : g ≠ []) (h' : Ya d y p u) : Yq d (.combined x 32 y) p (t ++ (g ++ u)) := by
 refine ⟨h.1.app, fun s acc k i r hk e hr => ?_⟩
 have e1 : s.drop i = t ++ (g ++ (u ++ r)) := by rw [e]; simp
 have e2 := dA e1
 have e3 := dA e2
 have hb := bhd e3
 rw [Q8 h'.1.1] at hb
 have hgl : 1 <= g.length := zu.2 hg
 have hws : QbS (g ++ (u ++ r)) := by
  match g, w, hg with
  | c :: g, w, _ => exact .inr (.inr (.inr (.inr (w c (by simp)))))
 rw [h.2 s acc k i _ hk e1 hws, if_neg (by simp)]
 rw [VE, Ym g _ _ e2 w h'.1.stop, if_pos (lhd e3 (by simp [h'.1.1])), hb, if_neg (by rw [h'.1.2.2.2.1]; exact zE),
  if_neg (by rintro (q | q | q); exact h'.1.2.2.2.2.1 q; exact h'.1.2.2.2.2.2 q; omega), h'.2 s acc k _ r hk e3 hr]
 have hp : 1 <= u.length := zu.2 h'.1.1
 by_cases hq : p = true /\ acc = false
 rw [if_pos hq, if_pos hq]
 rw [if_neg hq, if_neg hq]
 simp only
 rw [if_pos (by omega)]
 congr 1
 simp; omega
def QoG (r : Bs) : Prop := r = [] \/ hd r = 44 \/ hd r = 41
theorem QoG.s {r : Bs} (h : QoG r) : QbS r /\ V6 r := by
 rcases h with h | h | h
 subst h; exact ⟨.inl rfl, by decide, by decide⟩
 exact ⟨.inr (.inl h), by unfold V6; rw [h]; decide⟩
 exact ⟨.inr (.inr (.inl h)), by unfold V6; rw [h]; decide⟩
theorem QpN (G : Nat -> Option (List CSel × Nat)) (s : Bs) (acc : Bool) (i : Nat) : Zk G s acc i = (YK G s acc (iWs s i)).bind fun y => VE G s acc y.1 y.2 := by
 unfold Zk
 cases YK G s acc (iWs s i) <;> rfl
def SlS (d : Nat) (x : CSel) (p : Bool) (t : Bs) : Prop := t ≠ [] /\ ∀ (s : Bs) (acc : Bool) (k i : Nat) (r : Bs), d <= k -> s.drop i = t ++ r -> QoG r ->
 Zk (QD s acc k) s acc i = if p = true /\ acc = false then none else some (x, i + t.length)
theorem selGo_end {G : Nat -> Option (List CSel × Nat)} {s : Bs} {acc : Bool} {j : Nat} {x : CSel} {g r : Bs} (e : s.drop j = g ++ r) (hg : WsL g) (h : QoG r) : VE G s acc x j = some (x, j + g.length) := by
 have q := Ym g j r e hg h.s.2
 have e2 := dA e
 have hb := bhd e2
 rw [VE, q]
 split
 rename_i hl
 rw [hb]
 rcases h with h | h | h
 subst h; have := nhd e2; omega
 rw [h, if_neg (by decide), if_pos (.inl rfl)]
 rw [h, if_neg (by decide), if_pos (.inr (.inl rfl))]
 rfl
theorem SlS.mk {d : Nat} {x : CSel} {p : Bool} {t g1 g2 : Bs} (w1 : WsL g1) (h : Yq d x p t) (w2 : WsL g2) : SlS d x p (g1 ++ (t ++ g2)) := by
 refine ⟨by simp [h.1.1], fun s acc k i r hk e hr => ?_⟩
 have e1 : s.drop i = g1 ++ (t ++ (g2 ++ r)) := by rw [e]; simp
 have e2 := dA e1
 rw [QpN, Ym g1 i _ e1 w1 h.1.stop, h.2 s acc k _ _ hk e2 (QbS.ws w2 hr.s.1)]
 by_cases hq : p = true /\ acc = false
 rw [if_pos hq, if_pos hq]
 rw [if_neg hq, if_neg hq, selGo_end (dA e2) w2 hr]
 simp; omega
def Z7 (d : Nat) (l : List CSel) (p : Bool) (t : Bs) : Prop := (t = [] /\ l = [] /\ p = false \/ hd t = 44 /\ l ≠ []) /\ ∀ (s : Bs) (acc : Bool) (k j : Nat) (r : Bs) (l0 : List CSel), d <= k -> s.drop j = t ++ r -> (r = [] \/ hd r = 41) ->
 YC (QD s acc k) s acc l0 j = if p = true /\ acc = false then none else some (l0 ++ l, j + t.length)
theorem Z7.nil (d : Nat) : Z7 d [] false [] := by
 refine ⟨.inl ⟨rfl, rfl, rfl⟩, fun s acc k j r l0 _ e hr => ?_⟩
 have e' : s.drop j = r := e
 rw [YC, if_neg, if_neg (by simp)]
 simp
 rintro ⟨h1, h2⟩
 rcases hr with hr | hr
 subst hr; have := nhd e'; omega
 rw [bhd e', hr] at h2; cases h2
theorem Qgf {d : Nat} {l : List CSel} {p : Bool} {t r : Bs} (h : Z7 d l p t) (hr : r = [] \/ hd r = 41) : QoG (t ++ r) := by
 rcases h.1 with ⟨q, _⟩ | ⟨q, _⟩
 subst q; exact hr.elim .inl fun q => .inr (.inr q)
 exact .inr (.inl (by rw [Q8 (Qb3 (by omega))]; exact q))
theorem Qm6 {α : Type} {p q acc : Bool} {a : α} {b : Option α} : (if p = true /\ acc = false then none else if q = true /\ acc = false then none else b) = (if (p || q) = true /\ acc = false then none else b) := by
 cases p <;> cases q <;> cases acc <;> rfl
theorem Z7.cons {d : Nat} {x : CSel} {p q : Bool} {t u : Bs} {l : List CSel} (h : SlS d x p t) (h' : Z7 d l q u) : Z7 d (x :: l) (p || q) (44 :: (t ++ u)) := by
 refine ⟨.inr ⟨rfl, by simp⟩, fun s acc k j r l0 hk e hr => ?_⟩
 have e1 : s.drop j = 44 :: (t ++ (u ++ r)) := by rw [e]; simp
 obtain ⟨h1, h2, h3, h4⟩ := d1 e1
 have hp : 1 <= t.length := zu.2 h.1
 rw [YC, if_pos ⟨h1, h2⟩, h.2 s acc k _ _ hk h4 (Qgf h' hr), <- Qm6 (a := (l0 ++ x :: l, j))]
 by_cases hq : p = true /\ acc = false
 rw [if_pos hq, if_pos hq]
 rw [if_neg hq, if_neg hq]
 simp only
 rw [if_pos (by omega), h'.2 s acc k _ r _ hk (dA h4) hr]
 simp [Nat.add_assoc, Nat.add_comm, Nat.add_left_comm]
def QaW (d : Nat) (l : List CSel) (p : Bool) (t : Bs) : Prop := t ≠ [] /\ ∀ (s : Bs) (acc : Bool) (k i : Nat) (r : Bs), d <= k -> s.drop i = t ++ r -> (r = [] \/ hd r = 41) ->
 QD s acc (k + 1) i = if p = true /\ acc = false then none else some (l, i + t.length)
theorem QaW.mk {d : Nat} {x : CSel} {p q : Bool} {t u : Bs} {l : List CSel} (h : SlS d x p t) (h' : Z7 d l q u) : QaW d (x :: l) (p || q) (t ++ u) := by
 refine ⟨by simp [h.1], fun s acc k i r hk e hr => ?_⟩
 rw [zo] at e
 rw [QD, h.2 s acc k i _ hk e (Qgf h' hr), <- Qm6 (a := (x :: l, i))]
 by_cases hq : p = true /\ acc = false
 rw [if_pos hq, if_pos hq]
 rw [if_neg hq, if_neg hq]
 simp only
 rw [h'.2 s acc k _ r _ hk (dA e) hr]
 simp [Nat.add_assoc]
theorem Q6.rel {d : Nat} {v n t g1 u : Bs} {l : List CSel} (h : IdW v t) (hv : low v = n) (hn : n = Jv \/ n = Jw \/ n = nHasChild) (w1 : WsL g1) (hu : QaW d l false u) (hh : V6 u) :
 Q6 (d + 1) (.rel n l) (58 :: (t ++ (40 :: (g1 ++ (u ++ [41]))))) := by
 refine ⟨show Q0 58 = true by decide, fun s acc k i r hk e hs => ?_⟩
 have e1 : s.drop i = 58 :: (t ++ (40 :: (g1 ++ (u ++ (41 :: r))))) := by rw [e]; simp
 have e2 : s.drop (i + (t.length + 1)) = 40 :: (g1 ++ (u ++ (41 :: r))) := by
  have := dA (d1 e1).2.2.2; rw [<- this]; congr 1; omega
 have e3 := dA (d1 e2).2.2.2
 have e4 := dA e3
 have hsw : V6 (u ++ (41 :: r)) := by unfold V6; rw [Q8 hu.1]; exact hh
 obtain ⟨k', rfl⟩ : ∃ k', k = k' + 1 := ⟨k - 1, by omega⟩
 rw [Zu (d1 e).2.1, Qdu h e1 Qfk, hv]
 unfold Y9
 rw [if_pos hn]
 unfold J2
 rw [Qbh e2 w1 hsw]
 simp only
 rw [hu.2 s acc k' _ _ (by omega) e3 (.inr rfl), if_neg (by simp)]
 simp only
 rw [J1 (g := []) e4 .nil]
 simp; omega
theorem Jh {d : Nat} {l : List CSel} {p : Bool} {t : Bs} (h : QaW d l p t) (hd : d <= 1000) (acc : Bool) : Q2 t true acc = if p = true /\ acc = false then none else some l := by
 unfold Q2
 rw [if_pos rfl, h.2 t acc 1000 0 [] hd (by simp) (.inl rfl)]
 by_cases hq : p = true /\ acc = false
 rw [if_pos hq, if_pos hq]
 rw [if_neg hq, if_neg hq]
 simp
theorem QeD {d : Nat} {x : CSel} {p q : Bool} {t u : Bs} {l : List CSel} (h : SlS d x p t) (h' : Z7 d l q u) (hd : d <= 1001) (acc : Bool) :
 Q2 (t ++ u) false acc = if (p || q) = true /\ acc = false then none else if l = [] then some [x] else none := by
 unfold Q2
 rw [if_neg (by decide), h.2 (t ++ u) acc 1001 0 u hd (by simp) (by have := Qgf h' (r := []) (.inl rfl); simpa using this)]
 rcases h'.1 with ⟨h1, h2, h3⟩ | ⟨h1, h2⟩
 subst h1 h2 h3
 cases p <;> cases acc <;> simp
 have hu : u ≠ [] := Qb3 (by omega)
 have hul : 1 <= u.length := zu.2 hu
 by_cases hq : p = true /\ acc = false
 rw [if_pos hq, if_neg h2]
 simp
 rw [if_neg hq, if_neg h2]
 simp only
 rw [if_pos (by simp; omega)]
 simp
end Way
end
end Go.Proofs.YtengepcafdnalaaGreatDoor
