/-
  Parts of the proof that the law FnParseOtherwise holds for every input (texts Xb, Xc). Conditions: none.
-/
import Derived.Test.YtengepcafdnalaaGreatDoorM36
namespace Go.Proofs.YtengepcafdnalaaGreatDoor
section
namespace Way
set_option maxRecDepth 20000
theorem Qob : ∀ n : Fin 256, (QO (upB (UInt8.ofNat n.val)).toNat = QO n.val) /\ (QE (upB (UInt8.ofNat n.val)).toNat = QE n.val) /\ (Q2 (upB (UInt8.ofNat n.val)).toNat = Q2 n.val) /\ (Q2 n.val = true -> Yv (upB (UInt8.ofNat n.val)).toNat = Yv n.val) /\
 (Y4 (upB (UInt8.ofNat n.val)).toNat = Y4 n.val) /\ UT (upB (UInt8.ofNat n.val)) = UT (UInt8.ofNat n.val) /\ (n.val = 92 \/ n.val = 45 \/ n.val = 58 -> upB (UInt8.ofNat n.val) = UInt8.ofNat n.val) := by decide +kernel
theorem J4 (c : UInt8) : (QO (upB c).toNat = QO c.toNat) /\ (QE (upB c).toNat = QE c.toNat) /\ (Q2 (upB c).toNat = Q2 c.toNat) /\ (Q2 c.toNat = true -> Yv (upB c).toNat = Yv c.toNat) /\
 (Y4 (upB c).toNat = Y4 c.toNat) /\ UT (upB c) = UT c /\ (c.toNat = 92 \/ c.toNat = 45 \/ c.toNat = 58 -> upB c = c) := by
 have h := Qob ⟨c.toNat, c.toNat_lt⟩
 simp only [UInt8.ofNat_toNat] at h
 exact h
theorem QiJ (ds : Bs) (h : ∀ c ∈ ds, Q2 c.toNat = true) : VD (upp ds) = VD ds := by
 unfold VD upp
 generalize 0 = k
 induction ds generalizing k with
 | nil => rfl
 | cons c ds ih =>
  simp only [List.map_cons, List.foldl_cons]
  rw [(J4 c).2.2.2.1 (h c (by simp))]
  exact ih (fun c hc => h c (by simp [hc])) _
theorem Qi8 (a b : Bs) : upp (a ++ b) = upp a ++ upp b := by simp [upp]
theorem Qcr (a b : Bs) : low (a ++ b) = low a ++ low b := by simp [low]
theorem Es.upp {v t : Bs} (h : Es v t) : ∃ v', Es v' (upp t) /\ low v' = low v := by
 cases h with
 | hex ds h0 h1 h2 h3 =>
  refine ⟨YZ (VD (YtengepcafdnalaaGreatDoor.upp ds) : Nat), ?_, by rw [QiJ ds h2]⟩
  have e : YtengepcafdnalaaGreatDoor.upp (92 :: (ds ++ [32])) = 92 :: (YtengepcafdnalaaGreatDoor.upp ds ++ [32]) := by
   have h92 : upB 92 = 92 := by decide
   have h32 : upB 32 = 32 := by decide
   simp [YtengepcafdnalaaGreatDoor.upp, h92, h32]
  rw [e]
  refine .hex _ (by simpa [YtengepcafdnalaaGreatDoor.upp] using h0) (by simpa [YtengepcafdnalaaGreatDoor.upp] using h1) (fun c hc => ?_) (utf8_ne _)
  obtain ⟨d, hd, rfl⟩ := List.mem_map.1 hc
  rw [(J4 d).2.2.1]; exact h2 d hd
 | lit c h1 h2 =>
  refine ⟨[upB c], ?_, by simp [low, (J4 c).2.2.2.2.2.1]⟩
  have e : YtengepcafdnalaaGreatDoor.upp [92, c] = [92, upB c] := by
   have h92 : upB 92 = 92 := by decide
   simp [YtengepcafdnalaaGreatDoor.upp, h92]
  rw [e]
  exact .lit _ (by rw [(J4 c).2.2.1]; exact h1) (by rw [(J4 c).2.2.2.2.1]; exact h2)
theorem NmW.upp {v t : Bs} (h : NmW v t) : ∃ v', NmW v' (upp t) /\ low v' = low v := by
 induction h with
 | nil => exact ⟨[], .nil, rfl⟩
 | @raw c v t hc k ih =>
  obtain ⟨v', h1, h2⟩ := ih
  refine ⟨upB c :: v', .raw (by rw [(J4 c).1]; exact hc) h1, ?_⟩
  have : low (upB c :: v') = UT (upB c) :: low v' := rfl
  rw [this, (J4 c).2.2.2.2.2.1, h2]; rfl
 | @esc a b v t he k ih =>
  obtain ⟨v', h1, h2⟩ := ih
  obtain ⟨a', h3, h4⟩ := he.upp
  refine ⟨a' ++ v', by rw [Qi8]; exact .esc h3 h1, by rw [Qcr, Qcr, h2, h4]⟩
theorem IdW.upp {v t : Bs} (h : IdW v t) : ∃ v', IdW v' (upp t) /\ low v' = low v := by
 obtain ⟨k, v', t', rfl, rfl, hn, hh⟩ := h
 obtain ⟨w, h1, h2⟩ := hn.upp
 have e : YtengepcafdnalaaGreatDoor.upp (List.replicate k 45) = List.replicate k 45 := by
  have h45 : upB 45 = 45 := by decide
  simp [YtengepcafdnalaaGreatDoor.upp, h45]
 refine ⟨List.replicate k 45 ++ w, ⟨k, w, YtengepcafdnalaaGreatDoor.upp t', rfl, by rw [Qi8, e], h1, ?_⟩, by rw [Qcr, Qcr, h2]⟩
 have hne := (QcM hh).2
 obtain ⟨c, u, rfl⟩ := List.exists_cons_of_ne_nil hne
 show QE (upB c).toNat = true \/ (upB c).toNat = 92
 rcases hh with hh | hh
 left; rw [(J4 c).2.1]; exact hh
 right
 have hc : c.toNat = 92 := hh
 rw [(J4 c).2.2.2.2.2.2 (.inl hc)]; exact hc
theorem QdH {y s : Bs} {n : Nat} {v : Bs} (h : IdW v s) : ∃ v', IdW v' (Ql y s n).1 /\ low v' = low v := by
 unfold Ql
 by_cases hc : (chc y n 4).1 = 1
 simp only [if_pos hc]; exact h.upp
 simp only [if_neg hc]; exact ⟨v, h, rfl⟩
theorem Vf (y : Bs) (n : Nat) : WsL (Qh y n).1 := by
 unfold Qh
 simp only
 by_cases h : (chc y n 9).1 < 9
 have : ∀ m : Fin 9, ∀ c ∈ Qds.getD m.val [], VM c.toNat = true := by decide
 exact this ⟨_, h⟩
 rw [List.getD_eq_getElem?_getD, List.getElem?_eq_none (by simp [Qds]; omega)]
 exact WsL.nil
theorem Qc4 {s : Bs} : ∀ {k i c d : Nat}, VV s k i c = some d -> ∀ m, i <= m -> m < i + k -> 128 <= bat s m /\ bat s m <= 191
 | 0, i, c, d, h, m, h1, h2 => by omega
 | k + 1, i, c, d, h, m, h1, h2 => by
  rw [VV] at h
  split at h
  cases h
  rename_i h0
  by_cases e : m = i
  subst e; omega
  exact Qc4 h m (by omega) (by omega)
theorem Ja {s : Bs} {j n : Nat} (h : bat s j = n) (hl : j < s.length) : s.getD j 0 = UInt8.ofNat n := by
 rw [<- h]; unfold bat; rw [UInt8.ofNat_toNat]
theorem QaY {s : Bs} {i k : Nat} (h : i + k <= s.length) : (s.take (i + k)).drop i = (List.range k).map fun j => s.getD (i + j) 0 := by
 apply List.ext_getElem?
 intro j
 rw [List.getElem?_drop, List.getElem?_take, List.getElem?_map]
 by_cases hj : j < k
 rw [if_pos (by omega), List.getElem?_range hj, List.getElem?_eq_getElem (by omega)]
 simp [List.getD_eq_getElem?_getD, List.getElem?_eq_getElem (show i + j < s.length by omega)]
 rw [if_neg (by omega), List.getElem?_eq_none (by simpa using hj)]
 rfl
theorem Zv {s : Bs} {i : Nat} (hi : i < s.length) (h : (Qk s i).2 ≠ 0) : YZ ((Qk s i).1 : Int) = (s.take (i + (Qk s i).2)).drop i /\ i + (Qk s i).2 <= s.length /\ (Qk s i).1 <= 1114111 := by
 unfold Qk at h ⊢
 by_cases h1 : bat s i < 128
 rw [if_pos h1]
 simp only
 refine ⟨?_, by omega, by omega⟩
 rw [QcC h1, QaY (by omega)]
 simp [bat]
 rw [if_neg h1] at h ⊢
 by_cases h2 : (VA (bat s i)).2.1 = 0 \/ s.length < i + (VA (bat s i)).2.1
 rw [if_pos h2] at h; exact absurd rfl h
 rw [if_neg h2] at h ⊢
 cases h3 : VV s ((VA (bat s i)).2.1 - 1) (i + 1) (VA (bat s i)).1 with
 | none => rw [h3] at h; exact absurd rfl h
 | some c =>
  rw [h3] at h
  simp only at h ⊢
  by_cases h4 : c < (VA (bat s i)).2.2 \/ 1114111 < c \/ (55296 <= c /\ c < 57344)
  rw [if_pos h4] at h; exact absurd rfl h
  rw [if_neg h4]
  simp only
  have hv : Utf8.valid (c : Int) = true := by unfold Utf8.valid; simp; omega
  have hb := Qc4 h3
  have hlt := Qcx (s.getD i 0)
  have b0 : s.getD i 0 = UInt8.ofNat (bat s i) := Ja rfl hi
  unfold VA at h2 h3 h4 hb ⊢
  by_cases c2 : 194 <= bat s i /\ bat s i < 224
  rw [if_pos c2] at h2 h3 h4 hb ⊢
  simp only at h2 h3 h4 hb ⊢
  refine ⟨?_, by omega, by omega⟩
  have d1 := hb (i + 1) (by omega) (by omega)
  simp only [VV, Option.some.injEq] at h3
  rw [if_neg (by omega)] at h3
  simp only [Option.some.injEq] at h3
  rw [QaY (by omega)]
  unfold YZ Utf8.encode
  simp only [hv, if_true, Int.toNat_natCast]
  rw [if_neg (by omega), if_pos (by omega)]
  simp only [List.range, List.range.loop, List.map_cons, List.map_nil, Nat.add_zero]
  rw [b0, Ja (s := s) (j := i + 1) rfl (by omega)]
  have e1 : 0xC0 + c / 64 = bat s i := by omega
  have e2 : 0x80 + c % 64 = bat s (i + 1) := by omega
  rw [e1, e2]
  rw [if_neg c2] at h2 h3 h4 hb ⊢
  by_cases c3 : 224 <= bat s i /\ bat s i < 240
  rw [if_pos c3] at h2 h3 h4 hb ⊢
  simp only at h2 h3 h4 hb ⊢
  refine ⟨?_, by omega, by omega⟩
  have d1 := hb (i + 1) (by omega) (by omega)
  have d2 := hb (i + 2) (by omega) (by omega)
  simp only [VV] at h3
  rw [if_neg (by omega), if_neg (by rw [show i + 1 + 1 = i + 2 from rfl]; omega)] at h3
  simp only [Option.some.injEq, show i + 1 + 1 = i + 2 from rfl] at h3
  rw [QaY (by omega)]
  unfold YZ Utf8.encode
  simp only [hv, if_true, Int.toNat_natCast]
  rw [if_neg (by omega), if_neg (by omega), if_pos (by omega)]
  simp only [List.range, List.range.loop, List.map_cons, List.map_nil, Nat.add_zero]
  rw [b0, Ja (s := s) (j := i + 1) rfl (by omega), Ja (s := s) (j := i + 2) rfl (by omega)]
  have e1 : 0xE0 + c / 4096 = bat s i := by omega
  have e2 : 0x80 + c / 64 % 64 = bat s (i + 1) := by omega
  have e3 : 0x80 + c % 64 = bat s (i + 2) := by omega
  rw [e1, e2, e3]
  rw [if_neg c3] at h2 h3 h4 hb ⊢
  by_cases c4 : 240 <= bat s i /\ bat s i < 245
  rw [if_pos c4] at h2 h3 h4 hb ⊢
  simp only at h2 h3 h4 hb ⊢
  refine ⟨?_, by omega, by omega⟩
  have d1 := hb (i + 1) (by omega) (by omega)
  have d2 := hb (i + 2) (by omega) (by omega)
  have d3 := hb (i + 3) (by omega) (by omega)
  simp only [VV] at h3
  rw [if_neg (by omega), if_neg (by rw [show i + 1 + 1 = i + 2 from rfl]; omega), if_neg (by rw [show i + 1 + 1 + 1 = i + 3 from rfl]; omega)] at h3
  simp only [Option.some.injEq, show i + 1 + 1 = i + 2 from rfl, show i + 1 + 1 + 1 = i + 3 from rfl, show i + 2 + 1 = i + 3 from rfl] at h3
  rw [QaY (by omega)]
  unfold YZ Utf8.encode
  simp only [hv, if_true, Int.toNat_natCast]
  rw [if_neg (by omega), if_neg (by omega), if_neg (by omega)]
  simp only [List.range, List.range.loop, List.map_cons, List.map_nil, Nat.add_zero]
  rw [b0, Ja (s := s) (j := i + 1) rfl (by omega), Ja (s := s) (j := i + 2) rfl (by omega), Ja (s := s) (j := i + 3) rfl (by omega)]
  have e1 : 0xF0 + c / 262144 = bat s i := by omega
  have e2 : 0x80 + c / 4096 % 64 = bat s (i + 1) := by omega
  have e3 : 0x80 + c / 64 % 64 = bat s (i + 2) := by omega
  have e4 : 0x80 + c % 64 = bat s (i + 3) := by omega
  rw [e1, e2, e3, e4]
  rw [if_neg c4] at h2
  simp at h2
end Way
end
section
namespace Way
set_option maxRecDepth 20000
def U8 (t : Bs) : Prop := QE (hd t) = true \/ hd t = 92
theorem QjF {h : Nat} : ∀ (u v : Bs) (i : Nat), nmF h i (u ++ v) = nmF h i u ++ nmF h (i + u.length) v
 | [], v, i => by simp [nmF]
 | c :: u, v, i => by
  rw [List.cons_append, nmF, nmF, QjF u v (i + 1), List.append_assoc, List.length_cons, show i + 1 + u.length = i + (u.length + 1) by omega]
theorem QjG {w : Bs} (h : w ++ [120] ≠ [45]) (hw : w ≠ []) : (Qs (w ++ [120])).take ((Qs (w ++ [120])).length - 1) = nmF (bat w 0) 0 w := by
 have hb : bat (w ++ [120]) 0 = bat w 0 := by
  obtain ⟨c, u, rfl⟩ := List.exists_cons_of_ne_nil hw
  rfl
 have h120 : ∀ k, nmP (bat w 0) k 120 = [120] := by
  intro k; unfold nmP
  rw [if_neg, if_pos (by decide)]
  have : (120 : UInt8).toNat = 120 := rfl
  rw [this]
  simp [Qy]
 unfold Qs
 rw [if_neg h, hb, QjF, nmF, nmF, h120]
 simp
theorem Qe4 (w : Bs) : (Qs (120 :: w)).drop 1 = nmF 120 1 w := by
 unfold Qs
 rw [if_neg (by intro e; cases e)]
 have hb : bat (120 :: w) 0 = 120 := rfl
 have h120 : nmP 120 0 120 = [120] := by decide
 rw [hb, nmF, h120]
 rfl
section
variable {s : Bs}
def cpB (s : Bs) (i : Nat) : Bs := (s.take (i + (Qk s i).2)).drop i
theorem U2 {i : Nat} (hi : i < s.length) (hp : (Qk s i).2 ≠ 0) : s.drop i = cpB s i ++ s.drop (i + (Qk s i).2) /\ cpB s i ≠ [] /\ (cpB s i).length = (Qk s i).2 /\ bat (cpB s i) 0 = bat s i := by
 obtain ⟨_, hl, _⟩ := Zv hi hp
 have hlen : (cpB s i).length = (Qk s i).2 := by unfold cpB; simp; omega
 refine ⟨?_, ?_, hlen, ?_⟩
 unfold cpB
 rw [List.drop_take, Nat.add_sub_cancel_left, <- List.drop_drop, List.take_append_drop]
 intro e; rw [e] at hlen; simp at hlen; omega
 unfold cpB bat
 simp only [List.getD_eq_getElem?_getD, List.getElem?_drop, List.getElem?_take]
 rw [if_pos (by omega)]; rfl
theorem QhC (hz : ∀ c ∈ s, c.toNat ≠ 0) {i : Nat} : ∀ c ∈ cpB s i, c.toNat ≠ 0 := fun c hc => hz c (List.mem_of_mem_take (List.mem_of_mem_drop hc))
theorem Qqv (hz : ∀ c ∈ s, c.toNat ≠ 0) {i : Nat} (hi : i < s.length) (hp : (Qk s i).2 ≠ 0) : Es (cpB s i) (VR (Qk s i).1) := by
 obtain ⟨e1, e2, e3⟩ := Zv hi hp
 have h0 : (Qk s i).1 ≠ 0 := by
  intro e
  rw [e] at e1
  have hu : YZ ((0 : Nat) : Int) = [0] := QcC (by decide)
  rw [hu] at e1
  exact QhC (i := i) hz 0 (by unfold cpB; rw [<- e1]; simp) rfl
 have := Qhw h0 (by omega)
 rwa [e1] at this
theorem Qmv (hz : ∀ c ∈ s, c.toNat ≠ 0) (hs : s ≠ [45]) {i : Nat} (hi : i < s.length) (hp : (Qk s i).2 ≠ 0) (e : Bool) : NmW (cpB s i) (pnP s i (Qk s i).1 (Qk s i).2 e) := by
 have hes := Qqv hz hi hp
 have hesn : NmW (cpB s i) (VR (Qk s i).1) := by
  have := NmW.esc hes .nil
  simpa using this
 obtain ⟨d1, d2, d3, d4⟩ := U2 hi hp
 have hx : NmW (cpB s i) (nmF 120 1 (cpB s i)) := Qbz 1 _ (QhC hz)
 unfold pnP
 by_cases he : e = true
 rw [if_pos he]; exact hesn
 rw [if_neg he]
 by_cases h01 : i = 0 \/ (i = 1 /\ bat s 0 = 45)
 rw [if_pos h01]
 unfold Zi
 by_cases h0 : i = 0
 rw [if_pos h0, if_neg hs]
 have ec : s.take (Qk s i).2 = cpB s i := by unfold cpB; rw [h0]; simp
 rw [ec, QjG (by intro q; have := congrArg List.length q; simp at this; exact d2 this) d2]
 exact Qbz 0 _ (QhC hz)
 rw [if_neg h0]
 by_cases h45 : bat s i = 45 \/ Qy (bat s i) = true
 rw [if_pos h45]
 have hlo : bat s i < 128 := by
  rcases h45 with q | q
  omega
  simp [Qy] at q; omega
 have ep : Qk s i = (bat s i, 1) := Qa7 hlo
 rw [ep] at hesn
 exact hesn
 rw [if_neg h45]
 have := Qe4 (cpB s i)
 unfold cpB at this hx
 rw [this]; exact hx
 rw [if_neg h01]
 have := Qe4 (cpB s i)
 unfold cpB at this hx
 rw [this]; exact hx
theorem Qaj (c : Nat) : U8 (VR c) := .inr rfl
theorem Qeu {h i : Nat} {w : Bs} (hw : w ≠ []) (h0 : ∀ c ∈ w, c.toNat ≠ 0) (hh : (i = 0 \/ (i = 1 /\ h = 45)) /\ (i = 0 -> bat w 0 ≠ 45) \/ (Qy (bat w 0) = false /\ bat w 0 ≠ 45)) : U8 (nmF h i w) := by
 obtain ⟨c, u, rfl⟩ := List.exists_cons_of_ne_nil hw
 have hb : bat (c :: u) 0 = c.toNat := rfl
 rw [hb] at hh
 rw [nmF]
 rcases hh with ⟨h1, h2⟩ | ⟨h1, h2⟩
 obtain ⟨q1, q2⟩ := Qby (h := h) (i := i) (h0 c (by simp)) h1 h2
 unfold U8
 rw [Q5 q1]; exact q2
 rcases Qiq (h := h) (i := i) (h0 c (by simp)) with ⟨k, e, k1, k2⟩ | he
 rw [e]
 exact .inl (QgC (k1.trans k2) h1 h2)
 have := Qqr he
 unfold U8
 rw [Q5 (QbY (by omega))]; exact .inr this
theorem Qcl (hz : ∀ c ∈ s, c.toNat ≠ 0) (hs : s ≠ [45]) {i : Nat} (hi : i < s.length) (hp : (Qk s i).2 ≠ 0) (e : Bool) :
 (i = 0 -> bat s 0 ≠ 45 -> U8 (pnP s i (Qk s i).1 (Qk s i).2 e)) /\ (i = 0 -> bat s 0 = 45 -> U8 (pnP s i (Qk s i).1 (Qk s i).2 e) \/ (pnP s i (Qk s i).1 (Qk s i).2 e = [45] /\ (Qk s i).2 = 1)) /\
 (i = 1 -> bat s 0 = 45 -> U8 (pnP s i (Qk s i).1 (Qk s i).2 e)) := by
 obtain ⟨d1, d2, d3, d4⟩ := U2 hi hp
 by_cases he : e = true
 subst he
 have : pnP s i (Qk s i).1 (Qk s i).2 true = VR (Qk s i).1 := by unfold pnP; rw [if_pos rfl]
 rw [this]
 exact ⟨fun _ _ => Qaj _, fun _ _ => .inl (Qaj _), fun _ _ => Qaj _⟩
 have hf : ∀ q : i = 0, pnP s i (Qk s i).1 (Qk s i).2 e = nmF (bat s i) 0 (cpB s i) := by
  intro h0
  unfold pnP Zi
  rw [if_neg he, if_pos (.inl h0), if_pos h0, if_neg hs]
  have ec : s.take (Qk s i).2 = cpB s i := by unfold cpB; rw [h0]; simp
  rw [ec, QjG (by intro q; have := congrArg List.length q; simp at this; exact d2 this) d2, d4]
 refine ⟨fun h0 h1 => ?_, fun h0 h1 => ?_, fun h0 h1 => ?_⟩
 rw [hf h0]
 exact Qeu d2 (QhC hz) (.inl ⟨.inl rfl, fun _ => by rw [d4, h0]; exact h1⟩)
 right
 have hb : bat s i = 45 := by rw [h0]; exact h1
 have ep : Qk s i = (bat s i, 1) := Qa7 (by omega)
 refine ⟨?_, by rw [ep]⟩
 rw [hf h0, hb]
 have ec : cpB s i = [45] := by
  unfold cpB
  rw [ep, slice1' hi]
  have : s.getD i 0 = UInt8.ofNat (bat s i) := Ja rfl hi
  rw [this, hb]; rfl
 rw [ec]; decide
 unfold pnP
 rw [if_neg he, if_pos (.inr ⟨h0, h1⟩)]
 unfold Zi
 rw [if_neg (by omega)]
 by_cases h45 : bat s i = 45 \/ Qy (bat s i) = true
 rw [if_pos h45]; exact Qaj _
 rw [if_neg h45]
 have hx := Qe4 (cpB s i)
 unfold cpB at hx
 rw [hx]
 have := Qeu (h := 120) (i := 1) d2 (QhC hz) (.inr ⟨by rw [d4]; cases hc : Qy (bat s i) with | true => exact absurd (.inr hc) h45 | false => rfl, by rw [d4]; exact fun q => h45 (.inl q)⟩)
 unfold cpB at this
 exact this
where
 slice1' {s : Bs} {i : Nat} (h : i < s.length) : (s.take (i + 1)).drop i = [s.getD i 0] := by
  rw [List.drop_take, Nat.add_sub_cancel_left, List.drop_eq_getElem_cons h, List.take_succ_cons, List.take_zero]
  simp [List.getD_eq_getElem?_getD, List.getElem?_eq_getElem h]
theorem QrK (y : Bs) (hz : ∀ c ∈ s, c.toNat ≠ 0) (hs : s ≠ [45]) : ∀ (d i n : Nat) (out : Bs), s.length - i = d -> QG s i = true -> i <= s.length ->
 ∃ t, (UO y s i n out).1 = out ++ t /\ NmW (s.drop i) t /\ (i = 1 -> bat s 0 = 45 -> i < s.length -> U8 t) := by
 intro d
 induction d using Nat.strongRecOn with
 | _ d ih =>
  intro i n out hd' hr hl
  rw [UO]
  by_cases hi : i < s.length
  obtain ⟨r1, r2⟩ := Law.readGo_step hr hi
  rw [if_pos ⟨hi, r1⟩]
  obtain ⟨_, hle, _⟩ := Zv hi r1
  obtain ⟨t, t1, t2, t3⟩ := ih (s.length - (i + (Qk s i).2)) (by omega) (i + (Qk s i).2) (chc y n 6).2 (out ++ pnP s i (Qk s i).1 (Qk s i).2 (decide ((chc y n 6).1 = 1))) rfl r2 hle
  obtain ⟨d1, d2, d3, d4⟩ := U2 hi r1
  have hp := Qmv hz hs hi r1 (decide ((chc y n 6).1 = 1))
  have hone := Qcl hz hs hi r1 (decide ((chc y n 6).1 = 1))
  refine ⟨pnP s i (Qk s i).1 (Qk s i).2 (decide ((chc y n 6).1 = 1)) ++ t, by rw [t1, List.append_assoc], by rw [d1]; exact hp.app t2, fun h1 h2 _ => ?_⟩
  have h3 := hone.2.2 h1 h2
  unfold U8 at h3 ⊢
  rw [Q5 (QbY (by rcases h3 with q | q; simp [QE] at q; omega; omega))]
  exact h3
  rw [if_neg (fun q => hi q.1)]
  exact ⟨[], by simp, by rw [List.drop_eq_nil_of_le (by omega)]; exact .nil, fun _ _ q => absurd q hi⟩
theorem Qil (y : Bs) (n : Nat) (hr : QG s 0 = true) (hs0 : s ≠ []) : IdW s (V4 y s n).1 := by
 have hz := Qcj hr
 unfold V4
 by_cases hs : s = [45]
 subst hs
 exact ⟨0, [45], [92, 45], rfl, rfl, .esc (.lit 45 (by decide) (by decide)) .nil, .inr rfl⟩
 simp only [if_neg hs]
 have hi : 0 < s.length := List.length_pos_iff.2 hs0
 obtain ⟨r1, r2⟩ := Law.readGo_step hr hi
 rw [UO, if_pos ⟨hi, r1⟩]
 obtain ⟨_, hle, _⟩ := Zv hi r1
 obtain ⟨t, t1, t2, t3⟩ := QrK y hz hs _ (0 + (Qk s 0).2) (chc y n 6).2 ([] ++ pnP s 0 (Qk s 0).1 (Qk s 0).2 (decide ((chc y n 6).1 = 1))) rfl r2 hle
 obtain ⟨d1, d2, d3, d4⟩ := U2 hi r1
 have hp := Qmv hz hs hi r1 (decide ((chc y n 6).1 = 1))
 obtain ⟨o1, o2, _⟩ := Qcl hz hs hi r1 (decide ((chc y n 6).1 = 1))
 generalize pnP s 0 (Qk s 0).1 (Qk s 0).2 (decide ((chc y n 6).1 = 1)) = P at t1 hp o1 o2 ⊢
 rw [t1, List.nil_append]
 have hst : ∀ {P : Bs}, U8 P -> P ≠ [] := fun h3 => QbY (by rcases h3 with q | q; simp [QE] at q; omega; omega)
 have whole : U8 P -> IdW s (P ++ t) := by
  intro h
  have hn : NmW s (P ++ t) := by
   have := hp.app t2
   rw [<- d1] at this
   simpa using this
  exact ⟨0, s, P ++ t, rfl, rfl, hn, by rw [Q5 (hst h)]; exact h⟩
 by_cases h45 : bat s 0 = 45
 rcases o2 rfl h45 with h | ⟨h, hk⟩
 exact whole h
 subst h
 rw [hk] at t2 t3 d1
 have hl1 : 1 < s.length := by
  have hne : s.length ≠ 1 := by
   intro q
   obtain ⟨c, hc⟩ := List.length_eq_one_iff.1 q
   subst hc
   have : c.toNat = 45 := h45
   have hc' : c = 45 := UInt8.toNat_inj.1 this
   exact hs (by rw [hc'])
  omega
 have hst' := t3 rfl h45 (by omega)
 have es : s = 45 :: s.drop 1 := by
  obtain ⟨c, u, rfl⟩ := List.exists_cons_of_ne_nil hs0
  have : c.toNat = 45 := h45
  have hc' : c = 45 := UInt8.toNat_inj.1 this
  rw [hc']; rfl
 refine ⟨1, s.drop 1, t, ?_, rfl, t2, hst'⟩
 exact es
 exact whole (o1 rfl h45)
theorem StW.app {q : Nat} {v t v' t' : Bs} (h : StW q v t) (k : StW q v' t') : StW q (v ++ v') (t ++ t') := by
 induction h with
 | nil => exact k
 | raw hc _ ih => exact .raw hc ih
 | esc he _ ih => rw [List.append_assoc, List.append_assoc]; exact .esc he ih
theorem QrI (y : Bs) (hz : ∀ c ∈ s, c.toNat ≠ 0) {q : UInt8} (hq : q = 39 \/ q = 34) {i n : Nat} (hi : i < s.length) (hp : (Qk s i).2 ≠ 0) : StW q.toNat (cpB s i) (ptP y s q i n).1 := by
 have hes := Qqv hz hi hp
 have hesn : StW q.toNat (cpB s i) (VR (Qk s i).1) := by
  have := StW.esc (q := q.toNat) hes .nil
  simpa using this
 unfold ptP
 by_cases h1 : (Qk s i).1 < 32 \/ (Qk s i).1 = 127
 rw [if_pos h1]; exact hesn
 rw [if_neg h1]
 by_cases h2 : (chc y n 8).1 = 1
 rw [if_pos h2]; exact hesn
 rw [if_neg h2]
 by_cases hb : bat s i < 128
 have ep : Qk s i = (bat s i, 1) := Qa7 hb
 have ec : cpB s i = [s.getD i 0] := by unfold cpB; rw [ep]; exact Qcl.slice1' hi
 have eb : s.getD i 0 = UInt8.ofNat (bat s i) := Ja rfl hi
 have hn : (s.getD i 0).toNat = bat s i := rfl
 rw [ep] at h1 ⊢
 simp only at h1 ⊢
 by_cases h3 : bat s i = q.toNat \/ bat s i = 92
 rw [if_pos h3, ec, <- eb]
 have hl : Es [s.getD i 0] [92, s.getD i 0] := .lit _ (by
  rw [hn]
  rcases h3 with h3 | h3
  rw [h3]; rcases hq with rfl | rfl <;> decide
  rw [h3]; decide) (by rw [hn]; exact Qk1 fun q' => h1 (.inl q'))
 have := StW.esc (q := q.toNat) hl .nil
 simpa using this
 rw [if_neg h3]
 have e2 : (s.take (i + 1)).drop i = [s.getD i 0] := Qcl.slice1' hi
 rw [ec, e2]
 exact .raw ⟨by rw [hn]; exact fun q' => h3 (.inl q'), by rw [hn]; exact fun q' => h3 (.inr q'), by rw [hn]; exact Qk1 fun q' => h1 (.inl q')⟩ .nil
 have hge : 128 <= (Qk s i).1 := by
  unfold Qk
  unfold Qk at hp
  rw [if_neg hb] at hp ⊢
  split
  rename_i h3; rw [if_pos h3] at hp; exact absurd rfl hp
  rename_i h3
  rw [if_neg h3] at hp
  split
  rename_i h4; rw [h4] at hp; exact absurd rfl hp
  rename_i d h4
  rw [h4] at hp
  simp only at hp ⊢
  split
  rename_i h5; rw [if_pos h5] at hp; exact absurd rfl hp
  rename_i h5
  simp only [not_or] at h5 h3
  have hm : 128 <= (VA (bat s i)).2.2 := by
   have h6 := h3.1
   unfold VA at h6 ⊢
   repeat' split
   all_goals first | (simp; done) | simp_all
  simp only; omega
 have hq39 : q.toNat = 39 \/ q.toNat = 34 := by rcases hq with rfl | rfl; exact .inl rfl; exact .inr rfl
 rw [if_neg (by omega)]
 have hhi : ∀ c ∈ cpB s i, 128 <= c.toNat := by
  intro c hc
  unfold cpB at hc
  obtain ⟨_, hle, _⟩ := Zv hi hp
  rw [QaY hle] at hc
  obtain ⟨j, hj, rfl⟩ := List.mem_map.1 hc
  have hj' := List.mem_range.1 hj
  show 128 <= bat s (i + j)
  obtain ⟨q1, q2, q3, q4⟩ := Law.point_shape hi hp
  rcases Nat.eq_zero_or_pos j with h0 | h0
  subst h0; simp; omega
  exact q3 (i + j) (by omega) (by omega)
 show StW q.toNat (cpB s i) (cpB s i)
 generalize cpB s i = w at hhi
 induction w with
 | nil => exact .nil
 | cons c w ih =>
  have := hhi c (by simp)
  refine .raw ⟨?_, by omega, Qk1 (by omega)⟩ (ih fun c hc => hhi c (by simp [hc]))
  rcases hq with rfl | rfl
  show c.toNat ≠ 39; omega
  show c.toNat ≠ 34; omega
theorem QrG (y : Bs) (hz : ∀ c ∈ s, c.toNat ≠ 0) {q : UInt8} (hq : q = 39 \/ q = 34) : ∀ (d i n : Nat) (out : Bs), s.length - i = d -> QG s i = true -> i <= s.length ->
 ∃ t, (Qar y s q i n out).1 = out ++ t /\ StW q.toNat (s.drop i) t := by
 intro d
 induction d using Nat.strongRecOn with
 | _ d ih =>
  intro i n out hd' hr hl
  rw [Qar]
  by_cases hi : i < s.length
  obtain ⟨r1, r2⟩ := Law.readGo_step hr hi
  rw [if_pos ⟨hi, r1⟩]
  obtain ⟨_, hle, _⟩ := Zv hi r1
  obtain ⟨t, t1, t2⟩ := ih (s.length - (i + (Qk s i).2)) (by omega) (i + (Qk s i).2) (ptP y s q i n).2 (out ++ (ptP y s q i n).1) rfl r2 hle
  obtain ⟨d1, d2, d3, d4⟩ := U2 hi r1
  exact ⟨(ptP y s q i n).1 ++ t, by rw [t1, List.append_assoc], by rw [d1]; exact (QrI y hz hq hi r1).app t2⟩
  rw [if_neg (fun q => hi q.1)]
  exact ⟨[], by simp, by rw [List.drop_eq_nil_of_le (by omega)]; exact .nil⟩
theorem Qem (y : Bs) (n : Nat) {q : UInt8} (hq : q = 39 \/ q = 34) (hr : QG s 0 = true) : Qgk s (YV y s q n).1 := by
 obtain ⟨t, t1, t2⟩ := QrG y (Qcj hr) hq _ 0 n [q] rfl hr (Nat.zero_le _)
 unfold YV
 simp only
 rw [t1]
 exact .inr ⟨q, t, hq, by simpa using t2, rfl⟩
theorem Qgv (y : Bs) (n : Nat) (hr : QG s 0 = true) : Qgk s (VK y s n).1 := by
 unfold VK
 by_cases h1 : (chc y n 3).1 = 1
 rw [if_pos h1]; exact Qem y _ (.inl rfl) hr
 rw [if_neg h1]
 by_cases h2 : (chc y n 3).1 = 2 /\ s ≠ []
 rw [if_pos h2]; exact .inl (Qil y _ hr h2.2)
 rw [if_neg h2]; exact Qem y _ (.inr rfl) hr
end
end Way
end
end Go.Proofs.YtengepcafdnalaaGreatDoor
