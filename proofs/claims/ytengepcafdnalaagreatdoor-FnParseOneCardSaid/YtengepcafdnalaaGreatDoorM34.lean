/-
  Parts of the proof that the law FnParseOne holds for every input (texts Wb). Conditions: none.
-/
import Derived.Test.YtengepcafdnalaaGreatDoorM33
namespace Go.Proofs.YtengepcafdnalaaGreatDoor
section
namespace Way
set_option maxRecDepth 20000
theorem stopN_of {r : Bs} {n : Nat} (h : hd r = n) (h1 : nmChar n = false) (h2 : n ≠ 92) : StopN r := by subst h; exact ⟨h1, h2⟩
theorem stopN_ws {g r : Bs} (hg : WsL g) (hr : StopN r) : StopN (g ++ r) := by
 match g, hg with
 | [], _ => exact hr
 | c :: g, hg =>
  have h := hg c (by simp)
  simp only [isWs, Bool.or_eq_true, decide_eq_true_eq] at h
  refine stopN_of (n := c.toNat) rfl ?_ (by omega)
  rcases h with ((((h | h) | h) | h) | h) <;> rw [h] <;> decide
theorem stopW_id {v t r : Bs} (h : IdW v t) : StopW (t ++ r) := by
 obtain ⟨h1, _, h3⟩ := h.head
 have h4 := id_noq h3
 unfold StopW
 rw [hd_app h1]
 exact ⟨h4.2.2.2.1, h4.2.2.2.2.1⟩
theorem stopW_c {c : UInt8} {r : Bs} (h1 : isWs c.toNat = false) (h2 : c.toNat ≠ 47) : StopW (c :: r) := ⟨h1, h2⟩
section
variable {s : Bs}
theorem attr_has {v t g1 g2 : Bs} (h : IdW v t) (w1 : WsL g1) (w2 : WsL g2) {i : Nat} {r : Bs} (e : s.drop i = 91 :: (g1 ++ (t ++ (g2 ++ (93 :: r))))) :
 iAttr s i = some (.attr (low v) [] [] false, i + (g1.length + t.length + g2.length + 2)) := by
 obtain ⟨_, _, _, e1⟩ := d1 e
 have q1 := iWs_at g1 (i + 1) _ e1 w1 (stopW_id h)
 have e2 := dA e1
 have q2 := iIdent_at h e2 (stopN_ws w2 (stopN_of (n := 93) rfl (by decide) (by decide)))
 have e3 := dA e2
 have q3 := iWs_at g2 _ _ e3 w2 (stopW_c (by decide) (by decide))
 obtain ⟨k1, k2, k3, k4⟩ := d1 (dA e3)
 unfold iAttr
 rw [q1, q2]
 simp only
 rw [q3, if_pos k1, if_pos (show _ = 93 from k2)]
 simp; omega
theorem sign_shape {op : Bs} (h : op ∈ attrSigns) : op = [61] ∨ ∃ c : UInt8, op = [c, 61] ∧ c.toNat ≠ 61 ∧ c.toNat ≠ 93 ∧ nmChar c.toNat = false ∧ c.toNat ≠ 92 ∧ isWs c.toNat = false ∧ c.toNat ≠ 47 := by
 simp only [attrSigns, List.mem_cons, List.not_mem_nil, or_false] at h
 rcases h with h | h | h | h | h | h | h
 · exact .inl h
 all_goals (refine .inr ⟨_, h, ?_⟩; decide)
def FlagW (ign : Bool) (f : Bs) : Prop := (ign = false ∧ f = []) ∨ (ign = true ∧ (f = [105] ∨ f = [73]))
theorem attr_val {v t g1 g2 op g3 val vt g4 f g5 : Bs} {ign : Bool} (h : IdW v t) (w1 : WsL g1) (w2 : WsL g2) (ho : op ∈ attrSigns) (w3 : WsL g3) (hv : ValW val vt) (w4 : WsL g4)
 (hf : FlagW ign f) (hz : f = [] ∨ g4 ≠ [] ∨ ∃ u, vt = u ++ [34] ∨ vt = u ++ [39]) (w5 : WsL g5) {i : Nat} {r : Bs} (hn : StopN (g4 ++ (f ++ (g5 ++ (93 :: r)))) ∨ ¬ IdW val vt)
 (e : s.drop i = 91 :: (g1 ++ (t ++ (g2 ++ (op ++ (g3 ++ (vt ++ (g4 ++ (f ++ (g5 ++ (93 :: r))))))))))) :
 iAttr s i = some (.attr (low v) val op ign, i + (g1.length + t.length + g2.length + op.length + g3.length + vt.length + g4.length + f.length + g5.length + 2)) := by
 obtain ⟨_, _, _, e1⟩ := d1 e
 have q1 := iWs_at g1 (i + 1) _ e1 w1 (stopW_id h)
 have e2 := dA e1
 have hop := sign_shape ho
 have hsn : StopN (op ++ (g3 ++ (vt ++ (g4 ++ (f ++ (g5 ++ (93 :: r))))))) := by
  rcases hop with rfl | ⟨c, rfl, k1, k2, k3, k4, k5, k6⟩
  · exact stopN_of (n := 61) rfl (by decide) (by decide)
  exact ⟨k3, k4⟩
 have q2 := iIdent_at h e2 (stopN_ws w2 hsn)
 have e3 := dA e2
 have hsw : StopW (op ++ (g3 ++ (vt ++ (g4 ++ (f ++ (g5 ++ (93 :: r))))))) := by
  rcases hop with rfl | ⟨c, rfl, k1, k2, k3, k4, k5, k6⟩
  · exact stopW_c (by decide) (by decide)
  exact stopW_c k5 k6
 have q3 := iWs_at g2 _ _ e3 w2 hsw
 have e4 := dA e3
 have e5 := dA e4
 have hve := hv.ne
 have q5 := iWs_at g3 _ _ e5 w3 (by unfold StopW; rw [hd_app hve.1]; exact hve.2)
 have e6 := dA e5
 have q6 : (if bat s (i + 1 + g1.length + t.length + g2.length + op.length + g3.length) = 39 ∨ bat s (i + 1 + g1.length + t.length + g2.length + op.length + g3.length) = 34 then iStr s (i + 1 + g1.length + t.length + g2.length + op.length + g3.length)
  else iIdent s (i + 1 + g1.length + t.length + g2.length + op.length + g3.length)) = some (val, i + 1 + g1.length + t.length + g2.length + op.length + g3.length + vt.length) := by
  rcases hn with hn | hn
  · exact val_at hv e6 hn
  rcases hv with hv | ⟨q, u, hq, hu, hvt⟩
  · exact absurd hv hn
  subst hvt
  have e' : s.drop (i + 1 + g1.length + t.length + g2.length + op.length + g3.length) = q :: (u ++ (q :: (g4 ++ (f ++ (g5 ++ (93 :: r)))))) := by rw [e6]; simp
  have hb := (d1 e').2.1
  rw [hb, if_pos (by rcases hq with rfl | rfl <;> decide), iStr_at (by rcases hq with rfl | rfl <;> decide) hu e']
  simp
 have e7 := dA e6
 have hfw : StopW (f ++ (g5 ++ (93 :: r))) ∨ f = [] := by
  rcases hf with ⟨_, hf⟩ | ⟨_, hf | hf⟩
  · exact .inr hf
  · subst hf; exact .inl (stopW_c (by decide) (by decide))
  subst hf; exact .inl (stopW_c (by decide) (by decide))
 obtain ⟨z1, z2, z3, z4⟩ := d1 (dA (dA (dA e7)))
 have hm : i + 1 + g1.length + t.length + g2.length < s.length := lhd e4 (by rcases hop with rfl | ⟨c, rfl, _⟩ <;> simp)
 unfold iAttr
 rw [q1, q2]
 simp only
 rw [q3, if_pos hm]
 have b0 : bat s (i + 1 + g1.length + t.length + g2.length) = hd op := by rw [bhd e4, hd_app (by rcases hop with rfl | ⟨c, rfl, _⟩ <;> simp)]
 have hvl : 1 ≤ vt.length := List.length_pos_iff.2 hve.1
 have key : iAttr.iAttrV s (low v) op (i + 1 + g1.length + t.length + g2.length + op.length + g3.length) = some (.attr (low v) val op ign, i + (g1.length + t.length + g2.length + op.length + g3.length + vt.length + g4.length + f.length + g5.length + 2)) := by
  unfold iAttr.iAttrV
  rw [if_pos (lhd e6 (by simp [hve.1])), q6]
  simp only
  rcases hf with ⟨rfl, rfl⟩ | ⟨rfl, hf⟩
  · have e8 : s.drop (i + 1 + g1.length + t.length + g2.length + op.length + g3.length + vt.length) = (g4 ++ g5) ++ (93 :: r) := by rw [e7]; simp
    have w45 : WsL (g4 ++ g5) := fun c hc => (List.mem_append.1 hc).elim (w4 c) (w5 c)
    have q8 := iWs_at _ _ _ e8 w45 (stopW_c (by decide) (by decide))
    have e9 := dA e8
    obtain ⟨y1, y2, y3, y4⟩ := d1 e9
    have q9 := iWs_0 e9 (stopW_c (by decide) (by decide))
    rw [q8, if_pos y1, y2, if_neg (by decide), q9]
    unfold iAttr.iAttrE
    rw [if_pos ⟨y1, y2, ho⟩]
    simp; omega
  have hfl : f ≠ [] := by rcases hf with rfl | rfl <;> simp
  have hfb : hd f = 105 ∨ hd f = 73 := by rcases hf with rfl | rfl <;> decide
  have hf1 : f.length = 1 := by rcases hf with rfl | rfl <;> rfl
  have hsf : StopW (f ++ (g5 ++ (93 :: r))) := hfw.resolve_right hfl
  have q8 := iWs_at g4 _ _ e7 w4 hsf
  have e8 := dA e7
  have e9 := dA e8
  have hb := bhd e8
  rw [hd_app hfl] at hb
  have q9 := iWs_at g5 _ _ e9 w5 (stopW_c (by decide) (by decide))
  rw [q8, if_pos (lhd e8 (by simp [hfl])), hb, if_pos hfb, decide_eq_true hfb]
  rw [hf1] at q9
  rw [q9]
  rw [hf1] at z1 z2
  unfold iAttr.iAttrE
  rw [if_pos ⟨z1, z2, ho⟩, hf1]
  simp; omega
 rcases hop with rfl | ⟨c, rfl, k1, k2, k3, k4, k5, k6⟩
 · have b1 : bat s (i + 1 + g1.length + t.length + g2.length) = 61 := b0
   rw [b1, if_neg (by decide), if_pos ⟨by simp only [List.length_cons, List.length_nil] at z1; omega, .inl rfl⟩, if_pos rfl, if_pos rfl]
   simp only [List.length_cons, List.length_nil] at q5 key ⊢
   rw [q5]
   exact key
 have b1 : bat s (i + 1 + g1.length + t.length + g2.length) = c.toNat := b0
 obtain ⟨x1, x2, x3, x4⟩ := d1 e4
 obtain ⟨y1, y2, y3, y4⟩ := d1 x4
 rw [b1, if_neg k2, if_pos ⟨by simp only [List.length_cons, List.length_nil] at z1; omega, .inr y2⟩, if_neg k1, if_neg k1, x3, y3]
 simp only [List.length_cons, List.length_nil] at q5 key ⊢
 rw [q5]
 exact key
theorem digEnd_at : ∀ (ds : Bs) (i : Nat) (r : Bs), s.drop i = ds ++ r → (∀ c ∈ ds, digB c.toNat = true) → digB (hd r) = false → digEnd s i = i + ds.length
 | [], i, r, e, _, hr => by
  rw [digEnd, if_neg]
  · rfl
  rintro ⟨_, q⟩
  rw [bhd e] at q
  simp only [List.nil_append] at q
  rw [hr] at q; cases q
 | c :: ds, i, r, e, h, hr => by
  obtain ⟨h1, h2, h3, h4⟩ := d1 e
  rw [digEnd, if_pos ⟨h1, by rw [h2]; exact h c (by simp)⟩, digEnd_at ds (i + 1) r h4 (fun c hc => h c (by simp [hc])) hr]
  simp; omega
def DigW (n : Nat) (ds : Bs) : Prop := ds ≠ [] ∧ (∀ c ∈ ds, digB c.toNat = true) ∧ decVal ds = n ∧ n ≤ 9223372036854775807
theorem iInt_at {n : Nat} {ds : Bs} (h : DigW n ds) {i : Nat} {r : Bs} (e : s.drop i = ds ++ r) (hr : digB (hd r) = false) : iInt s i = some ((n : Int), i + ds.length) := by
 obtain ⟨h1, h2, h3, h4⟩ := h
 have h5 : 1 ≤ ds.length := List.length_pos_iff.2 h1
 unfold iInt
 rw [digEnd_at ds i r e h2 hr, if_neg (by omega), dtake e, h3, if_pos h4]
end
def NthW (a b : Int) (t : Bs) : Prop := t ≠ [] ∧ isWs (hd t) = false ∧ hd t ≠ 47 ∧ ∀ (s : Bs) (i : Nat) (g r : Bs), s.drop i = t ++ (g ++ (41 :: r)) → WsL g → ∃ j, iNth s i = some (a, b, j) ∧ (j = i + t.length ∨ j = i + t.length + g.length)
theorem ws_or {g r : Bs} (w : WsL g) : isWs (hd (g ++ (41 :: r))) = true ∨ hd (g ++ (41 :: r)) = 41 := by
 match g, w with
 | [], _ => exact .inr rfl
 | c :: g, w => exact .inl (w c (by simp))
def SimS (d : Nat) (x : CSel) (t : Bs) : Prop := isSim (hd t) = true ∧ ∀ (s : Bs) (acc : Bool) (k i : Nat) (r : Bs), d ≤ k → s.drop i = t ++ r → StopN r → iSimple (iGrp s acc k) s i = some (some x, [], i + t.length)
theorem sim_ne {t : Bs} (h : isSim (hd t) = true) : t ≠ [] := hd_ne (by simp [isSim] at h; omega)
theorem sim_stop {t r : Bs} (h : isSim (hd t) = true) : StopN (t ++ r) := by
 unfold StopN
 rw [hd_app (sim_ne h)]
 simp only [isSim, Bool.or_eq_true, decide_eq_true_eq] at h
 rcases h with ((h | h) | h) | h <;> rw [h] <;> decide
theorem SimS.mono {d d' : Nat} {x : CSel} {t : Bs} (h : SimS d x t) (hd : d ≤ d') : SimS d' x t := ⟨h.1, fun s acc k i r hk => h.2 s acc k i r (by omega)⟩
theorem SimS.idn {v t : Bs} (h : NmW v t) (ht : t ≠ []) : SimS 0 (.idn v) (35 :: t) := by
 refine ⟨show isSim 35 = true by decide, fun s acc k i r _ e hs => ?_⟩
 obtain ⟨h1, h2, h3, h4⟩ := d1 e
 unfold iSimple
 rw [h2, if_pos (by decide), iName_at h ht h4 hs]
 simp; omega
theorem SimS.cls {v t : Bs} (h : IdW v t) : SimS 0 (.cls v) (46 :: t) := by
 refine ⟨show isSim 46 = true by decide, fun s acc k i r _ e hs => ?_⟩
 obtain ⟨h1, h2, h3, h4⟩ := d1 e
 unfold iSimple
 rw [h2, if_neg (by decide), if_pos (by decide), iIdent_at h h4 hs]
 simp; omega
theorem SimS.attr0 {v t g1 g2 : Bs} (h : IdW v t) (w1 : WsL g1) (w2 : WsL g2) : SimS 0 (.attr (low v) [] [] false) (91 :: (g1 ++ (t ++ (g2 ++ [93])))) := by
 refine ⟨show isSim 91 = true by decide, fun s acc k i r _ e hs => ?_⟩
 have e' : s.drop i = 91 :: (g1 ++ (t ++ (g2 ++ (93 :: r)))) := by rw [e]; simp
 unfold iSimple
 rw [(d1 e).2.1, if_neg (by decide), if_neg (by decide), if_pos (by decide), attr_has h w1 w2 e']
 simp; omega
theorem SimS.attr1 {v t g1 g2 op g3 val vt g4 f g5 : Bs} {ign : Bool} (h : IdW v t) (w1 : WsL g1) (w2 : WsL g2) (ho : op ∈ attrSigns) (w3 : WsL g3) (hv : ValW val vt) (w4 : WsL g4)
 (hf : FlagW ign f) (hz : f = [] ∨ g4 ≠ []) (w5 : WsL g5) : SimS 0 (.attr (low v) val op ign) (91 :: (g1 ++ (t ++ (g2 ++ (op ++ (g3 ++ (vt ++ (g4 ++ (f ++ (g5 ++ [93])))))))))) := by
 refine ⟨show isSim 91 = true by decide, fun s acc k i r _ e hs => ?_⟩
 have e' : s.drop i = 91 :: (g1 ++ (t ++ (g2 ++ (op ++ (g3 ++ (vt ++ (g4 ++ (f ++ (g5 ++ (93 :: r)))))))))) := by rw [e]; simp
 have hn : StopN (g4 ++ (f ++ (g5 ++ (93 :: r)))) := by
  have h93 : StopN (g5 ++ (93 :: r)) := stopN_ws w5 (stopN_of (n := 93) rfl (by decide) (by decide))
  rcases hz with rfl | hz
  · exact stopN_ws w4 h93
  match g4, w4, hz with
  | c :: g, w4, _ =>
   have q := stopN_ws (g := [c]) (r := [93]) (fun x hx => w4 x (by simp at hx; simp [hx])) (stopN_of (n := 93) rfl (by decide) (by decide))
   exact q
 unfold iSimple
 rw [(d1 e).2.1, if_neg (by decide), if_neg (by decide), if_pos (by decide), attr_val h w1 w2 ho w3 hv w4 hf (hz.elim .inl fun q => .inr (.inl q)) w5 (.inl hn) e']
 simp; omega
section
variable {s : Bs}
theorem iPs_at {G : Nat → Option (List CSel × Nat)} {v t : Bs} (h : IdW v t) {i : Nat} {r : Bs} (e : s.drop i = 58 :: (t ++ r)) (hs : StopN r) : iPs G s i = iPsN G s (low v) (i + (t.length + 1)) := by
 obtain ⟨h1, h2, h3, h4⟩ := d1 e
 obtain ⟨k1, _, k3⟩ := h.head
 have k4 := id_noq k3
 have hb := bhd h4
 rw [hd_app k1] at hb
 unfold iPs
 rw [if_pos (lhd h4 (by simp [k1])), hb, if_neg k4.2.2.2.2.2.2.2.2, iIdent_at h h4 hs]
 simp only
 rw [if_neg (fun q => k4.2.2.2.2.2.2.2.2 q.1)]
 congr 1; omega
theorem iSimple_ps {G : Nat → Option (List CSel × Nat)} {i : Nat} (h : bat s i = 58) : iSimple G s i = iPs G s i := by
 unfold iSimple
 rw [h, if_neg (by decide), if_neg (by decide), if_neg (by decide)]
end
theorem SimS.plain {v t : Bs} {x : CSel} (h : IdW v t) (hx : ∀ G s j, iPsN G s (low v) j = some (some x, [], j)) : SimS 0 x (58 :: t) := by
 refine ⟨show isSim 58 = true by decide, fun s acc k i r _ e hs => ?_⟩
 rw [iSimple_ps (d1 e).2.1, iPs_at h e hs, hx]
 simp
theorem stop40 {r : Bs} : StopN (40 :: r) := stopN_of (n := 40) rfl (by decide) (by decide)
theorem stop41 {r : Bs} : StopN (41 :: r) := stopN_of (n := 41) rfl (by decide) (by decide)
section
variable {s : Bs}
theorem iOpen_at {g : Bs} {i : Nat} {r : Bs} (e : s.drop i = 40 :: (g ++ r)) (hg : WsL g) (hr : StopW r) : iOpen s i = some (i + 1 + g.length) := by
 obtain ⟨h1, h2, h3, h4⟩ := d1 e
 unfold iOpen
 rw [if_pos ⟨h1, h2⟩, iWs_at g _ r h4 hg hr]
theorem iClose_at {g : Bs} {i : Nat} {r : Bs} (e : s.drop i = g ++ (41 :: r)) (hg : WsL g) : iClose s i = some (i + g.length + 1) := by
 have q := iWs_at g i (41 :: r) e hg (stopW_c (by decide) (by decide))
 obtain ⟨h1, h2, h3, h4⟩ := d1 (dA e)
 unfold iClose
 rw [q, if_pos ⟨h1, h2⟩]
end
theorem SimS.lang {v t w u g1 g2 : Bs} (h : IdW v t) (hv : low v = nLang) (hu : IdW w u) (w1 : WsL g1) (w2 : WsL g2) : SimS 0 (.lang (low w)) (58 :: (t ++ (40 :: (g1 ++ (u ++ (g2 ++ [41])))))) := by
 refine ⟨show isSim 58 = true by decide, fun s acc k i r _ e hs => ?_⟩
 have e1 : s.drop i = 58 :: (t ++ (40 :: (g1 ++ (u ++ (g2 ++ (41 :: r)))))) := by rw [e]; simp
 have e2 : s.drop (i + (t.length + 1)) = 40 :: (g1 ++ (u ++ (g2 ++ (41 :: r)))) := by
  have := dA (d1 e1).2.2.2; rw [← this]; congr 1; omega
 have e3 := dA (d1 e2).2.2.2
 have e4 := dA e3
 rw [iSimple_ps (d1 e).2.1, iPs_at h e1 stop40, hv]
 unfold iPsN
 rw [if_neg (by decide), if_neg (by decide), if_neg (by decide), if_pos rfl]
 unfold iArgL
 rw [iOpen_at e2 w1 (stopW_id hu)]
 simp only
 rw [if_pos (lhd e3 (by simp [hu.head.1])), iIdent_at hu e3 (stopN_ws w2 stop41)]
 simp only
 rw [iClose_at e4 w2]
 simp; omega
theorem SimS.contains {v t w u g1 g2 : Bs} (own : Bool) (h : IdW v t) (hv : low v = if own = true then nContainsOwn else nContains) (hu : ValW w u) (w1 : WsL g1) (w2 : WsL g2) :
 SimS 0 (.contains (low w) own) (58 :: (t ++ (40 :: (g1 ++ (u ++ (g2 ++ [41])))))) := by
 refine ⟨show isSim 58 = true by decide, fun s acc k i r _ e hs => ?_⟩
 have e1 : s.drop i = 58 :: (t ++ (40 :: (g1 ++ (u ++ (g2 ++ (41 :: r)))))) := by rw [e]; simp
 have e2 : s.drop (i + (t.length + 1)) = 40 :: (g1 ++ (u ++ (g2 ++ (41 :: r)))) := by
  have := dA (d1 e1).2.2.2; rw [← this]; congr 1; omega
 have e3 := dA (d1 e2).2.2.2
 have e4 := dA e3
 have hue := hu.ne
 have hsw : StopW (u ++ (g2 ++ (41 :: r))) := by unfold StopW; rw [hd_app hue.1]; exact hue.2
 rw [iSimple_ps (d1 e).2.1, iPs_at h e1 stop40, hv]
 have hname : iPsN (iGrp s acc k) s (if own = true then nContainsOwn else nContains) (i + (t.length + 1)) = (iArgV s own (i + (t.length + 1))).map fun p => (some p.1, [], p.2) := by
  unfold iPsN
  cases own
  · rw [if_neg (by decide), if_pos (by decide)]; rfl
  rw [if_neg (by decide), if_pos (by decide)]; rfl
 rw [hname]
 unfold iArgV
 rw [iOpen_at e2 w1 hsw]
 simp only
 rw [if_pos (lhd e3 (by simp [hue.1])), val_at hu e3 (stopN_ws w2 stop41)]
 simp only
 rw [iClose_at e4 w2]
 simp; omega
def nthName (last ofType : Bool) : Bs := if last = true then (if ofType = true then nNthLastType else nNthLastChild) else (if ofType = true then nNthType else nNthChild)
theorem SimS.nth {v t u g1 g2 : Bs} {a b : Int} (l ty : Bool) (h : IdW v t) (hv : low v = nthName l ty) (hu : NthW a b u) (w1 : WsL g1) (w2 : WsL g2) :
 SimS 0 (.nth a b l ty) (58 :: (t ++ (40 :: (g1 ++ (u ++ (g2 ++ [41])))))) := by
 refine ⟨show isSim 58 = true by decide, fun s acc k i r _ e hs => ?_⟩
 have e1 : s.drop i = 58 :: (t ++ (40 :: (g1 ++ (u ++ (g2 ++ (41 :: r)))))) := by rw [e]; simp
 have e2 : s.drop (i + (t.length + 1)) = 40 :: (g1 ++ (u ++ (g2 ++ (41 :: r)))) := by
  have := dA (d1 e1).2.2.2; rw [← this]; congr 1; omega
 have e3 := dA (d1 e2).2.2.2
 have e4 := dA e3
 obtain ⟨n1, n2, n3, n4⟩ := hu
 have hsw : StopW (u ++ (g2 ++ (41 :: r))) := by unfold StopW; rw [hd_app n1]; exact ⟨n2, n3⟩
 rw [iSimple_ps (d1 e).2.1, iPs_at h e1 stop40, hv]
 have hname : iPsN (iGrp s acc k) s (nthName l ty) (i + (t.length + 1)) = (iArgN s l ty (i + (t.length + 1))).map fun p => (some p.1, [], p.2) := by
  unfold iPsN
  cases l <;> cases ty <;> rfl
 obtain ⟨j, n5, n6⟩ := n4 s _ g2 r e3 w2
 rw [hname]
 unfold iArgN
 rw [iOpen_at e2 w1 hsw]
 simp only
 rw [n5]
 simp only
 rcases n6 with rfl | rfl
 · rw [iClose_at e4 w2]
   simp; omega
 rw [iClose_at (g := []) (dA e4) .nil]
 simp; omega
def ElS (pe t : Bs) : Prop := isSim (hd t) = true ∧ pe ≠ [] ∧ ∀ (G : Nat → Option (List CSel × Nat)) (s : Bs) (i : Nat) (r : Bs), s.drop i = t ++ r → StopN r → iSimple G s i = some (none, pe, i + t.length)
theorem ElS.two {v t : Bs} (h : IdW v t) (hv : low v ∈ elNames) (hn : ∀ G s j, iPsN G s (low v) j = some (none, low v, j)) (hz : low v ≠ []) : ElS (low v) (58 :: 58 :: t) := by
 refine ⟨show isSim 58 = true by decide, hz, fun G s i r e hs => ?_⟩
 obtain ⟨h1, h2, h3, h4⟩ := d1 e
 obtain ⟨k1, k2, k3, k4⟩ := d1 h4
 rw [iSimple_ps h2]
 unfold iPs
 rw [if_pos k1, k2, if_pos (by decide), iIdent_at h k4 hs]
 simp only
 rw [if_neg (fun q => q.2 hv), hn]
 simp; omega
def EndS (r : Bs) : Prop := r = [] ∨ hd r = 44 ∨ hd r = 41 ∨ isComb (hd r) = true ∨ isWs (hd r) = true
theorem EndS.no {r : Bs} (h : EndS r) : isSim (hd r) = false ∧ StopN r ∧ hd r ≠ 124 := by
 rcases h with h | h | h | h | h
 · subst h; exact ⟨by decide, ⟨by decide, by decide⟩, by decide⟩
 · exact ⟨by rw [h]; decide, ⟨by rw [h]; decide, by omega⟩, by omega⟩
 · exact ⟨by rw [h]; decide, ⟨by rw [h]; decide, by omega⟩, by omega⟩
 · simp only [isComb, Bool.or_eq_true, decide_eq_true_eq] at h
   rcases h with (h | h) | h <;> exact ⟨by rw [h]; decide, ⟨by rw [h]; decide, by omega⟩, by omega⟩
 simp only [isWs, Bool.or_eq_true, decide_eq_true_eq] at h
 rcases h with (((h | h) | h) | h) | h <;> exact ⟨by rw [h]; decide, ⟨by rw [h]; decide, by omega⟩, by omega⟩
def SeqR (d : Nat) (l : List CSel) (pe t : Bs) : Prop := (t = [] ∨ isSim (hd t) = true) ∧ ∀ (s : Bs) (acc : Bool) (k i : Nat) (r : Bs) (l0 : List CSel), d ≤ k → s.drop i = t ++ r → EndS r →
 iSeqGo (iGrp s acc k) s acc i l0 [] = if pe ≠ [] ∧ acc = false then none else some (seqEnd (l0 ++ l) pe, i + t.length)
theorem seqGo_end {G : Nat → Option (List CSel × Nat)} {s : Bs} {acc : Bool} {i : Nat} {l : List CSel} {pe r : Bs} (e : s.drop i = r) (h : EndS r) : iSeqGo G s acc i l pe = some (seqEnd l pe, i) := by
 rw [iSeqGo, if_neg]
 rintro ⟨_, q⟩
 rw [bhd e, h.no.1] at q
 cases q
theorem SeqR.nil (d : Nat) : SeqR d [] [] [] := by
 refine ⟨.inl rfl, fun s acc k i r l0 _ e hr => ?_⟩
 rw [seqGo_end e hr, if_neg (fun q => q.1 rfl)]
 simp
theorem SeqR.el {pe t : Bs} (d : Nat) (h : ElS pe t) : SeqR d [] pe t := by
 refine ⟨.inr h.1, fun s acc k i r l0 _ e hr => ?_⟩
 have hb := bhd e
 rw [hd_app (sim_ne h.1)] at hb
 have hl := lhd e (by simp [sim_ne h.1])
 have hp : 1 ≤ t.length := List.length_pos_iff.2 (sim_ne h.1)
 rw [iSeqGo, if_pos ⟨hl, by rw [hb]; exact h.1⟩, h.2.2 _ s i r e hr.no.2.1]
 simp only
 rw [if_pos (by omega)]
 cases acc with
 | false => rw [if_neg (by simp), if_pos ⟨h.2.1, rfl⟩]
 | true => rw [if_pos (by simp), seqGo_end (dA e) hr, if_neg (by simp)]; simp
theorem SeqR.cons {d : Nat} {x : CSel} {t : Bs} {l : List CSel} {pe u : Bs} (h : SimS d x t) (h' : SeqR d l pe u) : SeqR d (x :: l) pe (t ++ u) := by
 have hne := sim_ne h.1
 refine ⟨.inr (by rw [hd_app hne]; exact h.1), fun s acc k i r l0 hk e hr => ?_⟩
 rw [List.append_assoc] at e
 have hb := bhd e
 rw [hd_app hne] at hb
 have hl := lhd e (by simp [hne])
 have hp : 1 ≤ t.length := List.length_pos_iff.2 hne
 have hs : StopN (u ++ r) := by
  rcases h'.1 with q | q
  · subst q; exact hr.no.2.1
  exact sim_stop q
 rw [iSeqGo, if_pos ⟨hl, by rw [hb]; exact h.1⟩, h.2 s acc k i _ hk e hs]
 simp only
 rw [if_pos (by omega), if_pos trivial, h'.2 s acc k _ r _ hk (dA e) hr]
 simp [Nat.add_assoc]
def HeadOk (t : Bs) : Prop := t ≠ [] ∧ isWs (hd t) = false ∧ hd t ≠ 47 ∧ isComb (hd t) = false ∧ hd t ≠ 44 ∧ hd t ≠ 41
theorem HeadOk.app {t u : Bs} (h : HeadOk t) : HeadOk (t ++ u) := by
 obtain ⟨h1, h2⟩ := h
 refine ⟨by simp [h1], ?_⟩
 rw [hd_app h1]; exact h2
theorem HeadOk.stop {t r : Bs} (h : HeadOk t) : StopW (t ++ r) := by
 unfold StopW; rw [hd_app h.1]; exact ⟨h.2.1, h.2.2.1⟩
def SeqS (d : Nat) (x : CSel) (p : Bool) (t : Bs) : Prop := HeadOk t ∧ ∀ (s : Bs) (acc : Bool) (k i : Nat) (r : Bs), d ≤ k → s.drop i = t ++ r → EndS r →
 iSeq (iGrp s acc k) s acc i = if p = true ∧ acc = false then none else some (x, i + t.length)
theorem ifp {α : Type} {pe : Bs} {acc : Bool} (a b : α) : (if pe ≠ [] ∧ acc = false then a else b) = (if (!decide (pe = [])) = true ∧ acc = false then a else b) := by
 by_cases h : pe = []
 · subst h; simp
 simp [h]
theorem SeqS.star {d : Nat} {l : List CSel} {pe u : Bs} (h : SeqR d l pe u) : SeqS d (seqEnd l pe) (!decide (pe = [])) (42 :: u) := by
 refine ⟨⟨by simp, show isWs 42 = false by decide, show 42 ≠ 47 by decide, show isComb 42 = false by decide, show 42 ≠ 44 by decide, show 42 ≠ 41 by decide⟩, fun s acc k i r hk e hr => ?_⟩
 obtain ⟨h1, h2, h3, h4⟩ := d1 (show s.drop i = 42 :: (u ++ r) from e)
 have hb := bhd h4
 have hb' : bat s (i + 1) ≠ 124 := by
  rw [hb]
  rcases h.1 with q | q
  · subst q; exact hr.no.2.2
  rw [hd_app (sim_ne q)]
  simp only [isSim, Bool.or_eq_true, decide_eq_true_eq] at q
  omega
 unfold iSeq
 rw [if_pos h1, h2, if_pos (by decide), if_neg (fun q => hb' q.2.1), h.2 s acc k _ r [] hk h4 hr, ← ifp, show i + 1 + u.length = i + (42 :: u).length by simp; omega]
 rfl
theorem SeqS.bare {d : Nat} {l : List CSel} {pe u : Bs} (h : SeqR d l pe u) (hu : u ≠ []) : SeqS d (seqEnd l pe) (!decide (pe = [])) u := by
 have hs := h.1.resolve_left hu
 refine ⟨⟨hu, ?_⟩, fun s acc k i r hk e hr => ?_⟩
 · simp only [isSim, Bool.or_eq_true, decide_eq_true_eq] at hs
   rcases hs with ((q | q) | q) | q <;> rw [q] <;> decide
 have hb := bhd e
 rw [hd_app hu] at hb
 unfold iSeq
 rw [if_pos (lhd e (by simp [hu])), if_neg (by rw [hb]; intro q; rw [q] at hs; revert hs; decide), if_pos (by rw [hb]; exact hs), h.2 s acc k i r [] hk e hr, ← ifp]
 simp
theorem SeqS.tag {d : Nat} {v t : Bs} {l : List CSel} {pe u : Bs} (ht : IdW v t) (h : SeqR d l pe u) : SeqS d (seqEnd (.tag (low v) :: l) pe) (!decide (pe = [])) (t ++ u) := by
 obtain ⟨k1, _, k3⟩ := ht.head
 have k4 := id_noq k3
 refine ⟨HeadOk.app ⟨k1, k4.2.2.2.1, k4.2.2.2.2.1, k4.2.2.2.2.2.1, k4.2.2.2.2.2.2.1, k4.2.2.2.2.2.2.2.1⟩, fun s acc k i r hk e hr => ?_⟩
 rw [List.append_assoc] at e
 have hb := bhd e
 rw [hd_app k1] at hb
 have hs : StopN (u ++ r) := by
  rcases h.1 with q | q
  · subst q; exact hr.no.2.1
  exact sim_stop q
 unfold iSeq
 rw [if_pos (lhd e (by simp [k1])), hb, if_neg k4.2.1, if_neg (by rw [k4.2.2.1]; exact Bool.false_ne_true), iIdent_at ht e hs]
 simp only
 rw [h.2 s acc k _ r _ hk (dA e) hr, ← ifp]
 simp [Nat.add_assoc]
def SelS (d : Nat) (x : CSel) (p : Bool) (t : Bs) : Prop := HeadOk t ∧ ∀ (s : Bs) (acc : Bool) (k i : Nat) (r : Bs), d ≤ k → s.drop i = t ++ r → EndS r →
 ((iSeq (iGrp s acc k) s acc i).bind fun y => iSelGo (iGrp s acc k) s acc y.1 y.2) = if p = true ∧ acc = false then none else iSelGo (iGrp s acc k) s acc x (i + t.length)
theorem SelS.one {d : Nat} {x : CSel} {p : Bool} {t : Bs} (h : SeqS d x p t) : SelS d x p t := by
 refine ⟨h.1, fun s acc k i r hk e hr => ?_⟩
 rw [h.2 s acc k i r hk e hr]
 by_cases hq : p = true ∧ acc = false
 · rw [if_pos hq, if_pos hq]; rfl
 rw [if_neg hq, if_neg hq]; rfl
theorem EndS.ws {g r : Bs} (hg : WsL g) (hr : EndS r) : EndS (g ++ r) := by
 match g, hg with
 | [], _ => exact hr
 | c :: g, hg => exact .inr (.inr (.inr (.inr (hg c (by simp)))))
theorem comb_stop {c : UInt8} {r : Bs} (h : isComb c.toNat = true) : StopW (c :: r) := by
 simp only [isComb, Bool.or_eq_true, decide_eq_true_eq] at h
 unfold StopW
 rcases h with (h | h) | h <;> (show isWs c.toNat = false ∧ c.toNat ≠ 47) <;> rw [h] <;> decide
theorem SelS.comb {d : Nat} {x y : CSel} {p : Bool} {t g1 g2 u : Bs} {c : UInt8} (h : SelS d x false t) (w1 : WsL g1) (hc : isComb c.toNat = true) (w2 : WsL g2) (h' : SeqS d y p u) :
 SelS d (.combined x c y) p (t ++ (g1 ++ (c :: (g2 ++ u)))) := by
 refine ⟨h.1.app, fun s acc k i r hk e hr => ?_⟩
 have e1 : s.drop i = t ++ (g1 ++ (c :: (g2 ++ (u ++ r)))) := by rw [e]; simp
 have e2 := dA e1
 have e3 := dA e2
 obtain ⟨c1, c2, c3, c4⟩ := d1 e3
 have e5 := dA c4
 rw [h.2 s acc k i _ hk e1 (EndS.ws w1 (.inr (.inr (.inr (.inl hc))))), if_neg (by simp)]
 rw [iSelGo, iWs_at g1 _ _ e2 w1 (comb_stop hc), if_pos c1, if_pos (by rw [c2]; exact hc), iWs_at g2 _ _ c4 w2 h'.1.stop, h'.2 s acc k _ r hk e5 hr, c3]
 have hp : 1 ≤ u.length := List.length_pos_iff.2 h'.1.1
 by_cases hq : p = true ∧ acc = false
 · rw [if_pos hq, if_pos hq]
 rw [if_neg hq, if_neg hq]
 simp only
 rw [if_pos (by omega)]
 congr 1
 simp; omega
theorem SelS.desc {d : Nat} {x y : CSel} {p : Bool} {t g u : Bs} (h : SelS d x false t) (w : WsL g) (hg : g ≠ []) (h' : SeqS d y p u) : SelS d (.combined x 32 y) p (t ++ (g ++ u)) := by
 refine ⟨h.1.app, fun s acc k i r hk e hr => ?_⟩
 have e1 : s.drop i = t ++ (g ++ (u ++ r)) := by rw [e]; simp
 have e2 := dA e1
 have e3 := dA e2
 have hb := bhd e3
 rw [hd_app h'.1.1] at hb
 have hgl : 1 ≤ g.length := List.length_pos_iff.2 hg
 have hws : EndS (g ++ (u ++ r)) := by
  match g, w, hg with
  | c :: g, w, _ => exact .inr (.inr (.inr (.inr (w c (by simp)))))
 rw [h.2 s acc k i _ hk e1 hws, if_neg (by simp)]
 rw [iSelGo, iWs_at g _ _ e2 w h'.1.stop, if_pos (lhd e3 (by simp [h'.1.1])), hb, if_neg (by rw [h'.1.2.2.2.1]; exact Bool.false_ne_true),
  if_neg (by rintro (q | q | q); exact h'.1.2.2.2.2.1 q; exact h'.1.2.2.2.2.2 q; omega), h'.2 s acc k _ r hk e3 hr]
 have hp : 1 ≤ u.length := List.length_pos_iff.2 h'.1.1
 by_cases hq : p = true ∧ acc = false
 · rw [if_pos hq, if_pos hq]
 rw [if_neg hq, if_neg hq]
 simp only
 rw [if_pos (by omega)]
 congr 1
 simp; omega
def EndG (r : Bs) : Prop := r = [] ∨ hd r = 44 ∨ hd r = 41
theorem EndG.s {r : Bs} (h : EndG r) : EndS r ∧ StopW r := by
 rcases h with h | h | h
 · subst h; exact ⟨.inl rfl, by decide, by decide⟩
 · exact ⟨.inr (.inl h), by unfold StopW; rw [h]; decide⟩
 exact ⟨.inr (.inr (.inl h)), by unfold StopW; rw [h]; decide⟩
theorem iSel_eq (G : Nat → Option (List CSel × Nat)) (s : Bs) (acc : Bool) (i : Nat) : iSel G s acc i = (iSeq G s acc (iWs s i)).bind fun y => iSelGo G s acc y.1 y.2 := by
 unfold iSel
 cases iSeq G s acc (iWs s i) <;> rfl
def SlS (d : Nat) (x : CSel) (p : Bool) (t : Bs) : Prop := t ≠ [] ∧ ∀ (s : Bs) (acc : Bool) (k i : Nat) (r : Bs), d ≤ k → s.drop i = t ++ r → EndG r →
 iSel (iGrp s acc k) s acc i = if p = true ∧ acc = false then none else some (x, i + t.length)
theorem selGo_end {G : Nat → Option (List CSel × Nat)} {s : Bs} {acc : Bool} {j : Nat} {x : CSel} {g r : Bs} (e : s.drop j = g ++ r) (hg : WsL g) (h : EndG r) : iSelGo G s acc x j = some (x, j + g.length) := by
 have q := iWs_at g j r e hg h.s.2
 have e2 := dA e
 have hb := bhd e2
 rw [iSelGo, q]
 split
 · rename_i hl
   rw [hb]
   rcases h with h | h | h
   · subst h; have := nhd e2; omega
   · rw [h, if_neg (by decide), if_pos (.inl rfl)]
   rw [h, if_neg (by decide), if_pos (.inr (.inl rfl))]
 rfl
theorem SlS.mk {d : Nat} {x : CSel} {p : Bool} {t g1 g2 : Bs} (w1 : WsL g1) (h : SelS d x p t) (w2 : WsL g2) : SlS d x p (g1 ++ (t ++ g2)) := by
 refine ⟨by simp [h.1.1], fun s acc k i r hk e hr => ?_⟩
 have e1 : s.drop i = g1 ++ (t ++ (g2 ++ r)) := by rw [e]; simp
 have e2 := dA e1
 rw [iSel_eq, iWs_at g1 i _ e1 w1 h.1.stop, h.2 s acc k _ _ hk e2 (EndS.ws w2 hr.s.1)]
 by_cases hq : p = true ∧ acc = false
 · rw [if_pos hq, if_pos hq]
 rw [if_neg hq, if_neg hq, selGo_end (dA e2) w2 hr]
 simp; omega
def GrpT (d : Nat) (l : List CSel) (p : Bool) (t : Bs) : Prop := (t = [] ∧ l = [] ∧ p = false ∨ hd t = 44 ∧ l ≠ []) ∧ ∀ (s : Bs) (acc : Bool) (k j : Nat) (r : Bs) (l0 : List CSel), d ≤ k → s.drop j = t ++ r → (r = [] ∨ hd r = 41) →
 iGrpGo (iGrp s acc k) s acc l0 j = if p = true ∧ acc = false then none else some (l0 ++ l, j + t.length)
theorem GrpT.nil (d : Nat) : GrpT d [] false [] := by
 refine ⟨.inl ⟨rfl, rfl, rfl⟩, fun s acc k j r l0 _ e hr => ?_⟩
 have e' : s.drop j = r := e
 rw [iGrpGo, if_neg, if_neg (by simp)]
 · simp
 rintro ⟨h1, h2⟩
 rcases hr with hr | hr
 · subst hr; have := nhd e'; omega
 rw [bhd e', hr] at h2; cases h2
theorem endG_tl {d : Nat} {l : List CSel} {p : Bool} {t r : Bs} (h : GrpT d l p t) (hr : r = [] ∨ hd r = 41) : EndG (t ++ r) := by
 rcases h.1 with ⟨q, _⟩ | ⟨q, _⟩
 · subst q; exact hr.elim .inl fun q => .inr (.inr q)
 exact .inr (.inl (by rw [hd_app (hd_ne (by omega))]; exact q))
theorem or_acc {α : Type} {p q acc : Bool} {a : α} {b : Option α} : (if p = true ∧ acc = false then none else if q = true ∧ acc = false then none else b) = (if (p || q) = true ∧ acc = false then none else b) := by
 cases p <;> cases q <;> cases acc <;> rfl
theorem GrpT.cons {d : Nat} {x : CSel} {p q : Bool} {t u : Bs} {l : List CSel} (h : SlS d x p t) (h' : GrpT d l q u) : GrpT d (x :: l) (p || q) (44 :: (t ++ u)) := by
 refine ⟨.inr ⟨rfl, by simp⟩, fun s acc k j r l0 hk e hr => ?_⟩
 have e1 : s.drop j = 44 :: (t ++ (u ++ r)) := by rw [e]; simp
 obtain ⟨h1, h2, h3, h4⟩ := d1 e1
 have hp : 1 ≤ t.length := List.length_pos_iff.2 h.1
 rw [iGrpGo, if_pos ⟨h1, h2⟩, h.2 s acc k _ _ hk h4 (endG_tl h' hr), ← or_acc (a := (l0 ++ x :: l, j))]
 by_cases hq : p = true ∧ acc = false
 · rw [if_pos hq, if_pos hq]
 rw [if_neg hq, if_neg hq]
 simp only
 rw [if_pos (by omega), h'.2 s acc k _ r _ hk (dA h4) hr]
 simp [Nat.add_assoc, Nat.add_comm, Nat.add_left_comm]
def GrpS (d : Nat) (l : List CSel) (p : Bool) (t : Bs) : Prop := t ≠ [] ∧ ∀ (s : Bs) (acc : Bool) (k i : Nat) (r : Bs), d ≤ k → s.drop i = t ++ r → (r = [] ∨ hd r = 41) →
 iGrp s acc (k + 1) i = if p = true ∧ acc = false then none else some (l, i + t.length)
theorem GrpS.mk {d : Nat} {x : CSel} {p q : Bool} {t u : Bs} {l : List CSel} (h : SlS d x p t) (h' : GrpT d l q u) : GrpS d (x :: l) (p || q) (t ++ u) := by
 refine ⟨by simp [h.1], fun s acc k i r hk e hr => ?_⟩
 rw [List.append_assoc] at e
 rw [iGrp, h.2 s acc k i _ hk e (endG_tl h' hr), ← or_acc (a := (x :: l, i))]
 by_cases hq : p = true ∧ acc = false
 · rw [if_pos hq, if_pos hq]
 rw [if_neg hq, if_neg hq]
 simp only
 rw [h'.2 s acc k _ r _ hk (dA e) hr]
 simp [Nat.add_assoc]
theorem SimS.rel {d : Nat} {v n t g1 u : Bs} {l : List CSel} (h : IdW v t) (hv : low v = n) (hn : n = nNot ∨ n = nHas ∨ n = nHasChild) (w1 : WsL g1) (hu : GrpS d l false u) (hh : StopW u) :
 SimS (d + 1) (.rel n l) (58 :: (t ++ (40 :: (g1 ++ (u ++ [41]))))) := by
 refine ⟨show isSim 58 = true by decide, fun s acc k i r hk e hs => ?_⟩
 have e1 : s.drop i = 58 :: (t ++ (40 :: (g1 ++ (u ++ (41 :: r))))) := by rw [e]; simp
 have e2 : s.drop (i + (t.length + 1)) = 40 :: (g1 ++ (u ++ (41 :: r))) := by
  have := dA (d1 e1).2.2.2; rw [← this]; congr 1; omega
 have e3 := dA (d1 e2).2.2.2
 have e4 := dA e3
 have hsw : StopW (u ++ (41 :: r)) := by unfold StopW; rw [hd_app hu.1]; exact hh
 obtain ⟨k', rfl⟩ : ∃ k', k = k' + 1 := ⟨k - 1, by omega⟩
 rw [iSimple_ps (d1 e).2.1, iPs_at h e1 stop40, hv]
 unfold iPsN
 rw [if_pos hn]
 unfold iArgG
 rw [iOpen_at e2 w1 hsw]
 simp only
 rw [hu.2 s acc k' _ _ (by omega) e3 (.inr rfl), if_neg (by simp)]
 simp only
 rw [iClose_at (g := []) e4 .nil]
 simp; omega
theorem parse_many {d : Nat} {l : List CSel} {p : Bool} {t : Bs} (h : GrpS d l p t) (hd : d ≤ 1000) (acc : Bool) : iParse t true acc = if p = true ∧ acc = false then none else some l := by
 unfold iParse
 rw [if_pos rfl, h.2 t acc 1000 0 [] hd (by simp) (.inl rfl)]
 by_cases hq : p = true ∧ acc = false
 · rw [if_pos hq, if_pos hq]
 rw [if_neg hq, if_neg hq]
 simp
theorem parse_one {d : Nat} {x : CSel} {p q : Bool} {t u : Bs} {l : List CSel} (h : SlS d x p t) (h' : GrpT d l q u) (hd : d ≤ 1001) (acc : Bool) :
 iParse (t ++ u) false acc = if (p || q) = true ∧ acc = false then none else if l = [] then some [x] else none := by
 unfold iParse
 rw [if_neg (by decide), h.2 (t ++ u) acc 1001 0 u hd (by simp) (by have := endG_tl h' (r := []) (.inl rfl); simpa using this)]
 rcases h'.1 with ⟨h1, h2, h3⟩ | ⟨h1, h2⟩
 · subst h1 h2 h3
   cases p <;> cases acc <;> simp
 have hu : u ≠ [] := hd_ne (by omega)
 have hul : 1 ≤ u.length := List.length_pos_iff.2 hu
 by_cases hq : p = true ∧ acc = false
 · rw [if_pos hq, if_neg h2]
   simp
 rw [if_neg hq, if_neg h2]
 simp only
 rw [if_pos (by simp; omega)]
 simp
end Way
end
end Go.Proofs.YtengepcafdnalaaGreatDoor
