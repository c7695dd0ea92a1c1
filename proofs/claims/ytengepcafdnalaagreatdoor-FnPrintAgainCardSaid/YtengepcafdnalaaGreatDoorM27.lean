/-
  Parts of the proof that the law FnPrintAgain holds for every input (texts Xb, Xc). Conditions: none.
-/
import Derived.Test.YtengepcafdnalaaGreatDoorM26
namespace Go.Proofs.YtengepcafdnalaaGreatDoor
open _root_.List renaming map_cons → zJ, foldl_cons → zR, replicate → zG, exists_cons_of_ne_nil → zB, getD_eq_getElem?_getD → za, range → zH, getElem?_map → zD, getElem?_eq_getElem → zi, append_assoc → zo, length_cons → ze, drop_drop → xj, drop_eq_getElem_cons → zP, drop_eq_nil_of_le → xk, length_pos_iff → zu, nil_append → zI
open _root_.Nat renaming strongRecOn → zl
open _root_.UInt8 renaming ofNat → zx
section
namespace Way
set_option maxRecDepth 20000
theorem QoL : ∀ n : Fin 256, (QG (upB (zx n.val)).toNat = QG n.val) /\ (QA (upB (zx n.val)).toNat = QA n.val) /\ (Q3 (upB (zx n.val)).toNat = Q3 n.val) /\ (Q3 n.val = true -> Yr (upB (zx n.val)).toNat = Yr n.val) /\
 (YN (upB (zx n.val)).toNat = YN n.val) /\ UX (upB (zx n.val)) = UX (zx n.val) /\ (n.val = 92 \/ n.val = 45 \/ n.val = 58 -> upB (zx n.val) = zx n.val) := by decide +kernel
theorem J9 (c : UInt8) : (QG (upB c).toNat = QG c.toNat) /\ (QA (upB c).toNat = QA c.toNat) /\ (Q3 (upB c).toNat = Q3 c.toNat) /\ (Q3 c.toNat = true -> Yr (upB c).toNat = Yr c.toNat) /\
 (YN (upB c).toNat = YN c.toNat) /\ UX (upB c) = UX c /\ (c.toNat = 92 \/ c.toNat = 45 \/ c.toNat = 58 -> upB c = c) := by
 have h := QoL ⟨c.toNat, c.toNat_lt⟩
 simp only [UInt8.ofNat_toNat] at h
 exact h
theorem Qja (ds : Bs) (h : ∀ c ∈ ds, Q3 c.toNat = true) : VB (upp ds) = VB ds := by
 unfold VB upp
 generalize 0 = k
 induction ds generalizing k with
 | nil => rfl
 | cons c ds ih =>
  simp only [zJ, zR]
  rw [(J9 c).2.2.2.1 (h c (by simp))]
  exact ih (fun c hc => h c (by simp [hc])) _
theorem Qjy (a b : Bs) : upp (a ++ b) = upp a ++ upp b := by simp [upp]
theorem Qcz (a b : Bs) : low (a ++ b) = low a ++ low b := by simp [low]
theorem Es.upp {v t : Bs} (h : Es v t) : ∃ v', Es v' (upp t) /\ low v' = low v := by
 cases h with
 | hex ds h0 h1 h2 h3 =>
  refine ⟨YL (VB (YtengepcafdnalaaGreatDoor.upp ds) : Nat), ?_, by rw [Qja ds h2]⟩
  have e : YtengepcafdnalaaGreatDoor.upp (92 :: (ds ++ [32])) = 92 :: (YtengepcafdnalaaGreatDoor.upp ds ++ [32]) := by
   have h92 : upB 92 = 92 := by decide
   have h32 : upB 32 = 32 := by decide
   simp [YtengepcafdnalaaGreatDoor.upp, h92, h32]
  rw [e]
  refine .hex _ (by simpa [YtengepcafdnalaaGreatDoor.upp] using h0) (by simpa [YtengepcafdnalaaGreatDoor.upp] using h1) (fun c hc => ?_) (utf8_ne _)
  obtain ⟨d, hd, rfl⟩ := List.mem_map.1 hc
  rw [(J9 d).2.2.1]; exact h2 d hd
 | lit c h1 h2 =>
  refine ⟨[upB c], ?_, by simp [low, (J9 c).2.2.2.2.2.1]⟩
  have e : YtengepcafdnalaaGreatDoor.upp [92, c] = [92, upB c] := by
   have h92 : upB 92 = 92 := by decide
   simp [YtengepcafdnalaaGreatDoor.upp, h92]
  rw [e]
  exact .lit _ (by rw [(J9 c).2.2.1]; exact h1) (by rw [(J9 c).2.2.2.2.1]; exact h2)
theorem NmW.upp {v t : Bs} (h : NmW v t) : ∃ v', NmW v' (upp t) /\ low v' = low v := by
 induction h with
 | nil => exact ⟨[], .nil, rfl⟩
 | @raw c v t hc k ih =>
  obtain ⟨v', h1, h2⟩ := ih
  refine ⟨upB c :: v', .raw (by rw [(J9 c).1]; exact hc) h1, ?_⟩
  have : low (upB c :: v') = UX (upB c) :: low v' := rfl
  rw [this, (J9 c).2.2.2.2.2.1, h2]; rfl
 | @esc a b v t he k ih =>
  obtain ⟨v', h1, h2⟩ := ih
  obtain ⟨a', h3, h4⟩ := he.upp
  refine ⟨a' ++ v', by rw [Qjy]; exact .esc h3 h1, by rw [Qcz, Qcz, h2, h4]⟩
theorem IdW.upp {v t : Bs} (h : IdW v t) : ∃ v', IdW v' (upp t) /\ low v' = low v := by
 obtain ⟨k, v', t', rfl, rfl, hn, hh⟩ := h
 obtain ⟨w, h1, h2⟩ := hn.upp
 have e : YtengepcafdnalaaGreatDoor.upp (zG k 45) = zG k 45 := by
  have h45 : upB 45 = 45 := by decide
  simp [YtengepcafdnalaaGreatDoor.upp, h45]
 refine ⟨zG k 45 ++ w, ⟨k, w, YtengepcafdnalaaGreatDoor.upp t', rfl, by rw [Qjy, e], h1, ?_⟩, by rw [Qcz, Qcz, h2]⟩
 have hne := (QcY hh).2
 obtain ⟨c, u, rfl⟩ := zB hne
 show QA (upB c).toNat = true \/ (upB c).toNat = 92
 rcases hh with hh | hh
 left; rw [(J9 c).2.1]; exact hh
 right
 have hc : c.toNat = 92 := hh
 rw [(J9 c).2.2.2.2.2.2 (.inl hc)]; exact hc
theorem QdQ {y s : Bs} {n : Nat} {v : Bs} (h : IdW v s) : ∃ v', IdW v' (Qm y s n).1 /\ low v' = low v := by
 unfold Qm
 by_cases hc : (chc y n 4).1 = 1
 simp only [if_pos hc]; exact h.upp
 simp only [if_neg hc]; exact ⟨v, h, rfl⟩
theorem Vg (y : Bs) (n : Nat) : WsL (Qh y n).1 := by
 unfold Qh
 simp only
 by_cases h : (chc y n 9).1 < 9
 have : ∀ m : Fin 9, ∀ c ∈ QdB.getD m.val [], VM c.toNat = true := by decide
 exact this ⟨_, h⟩
 rw [za, List.getElem?_eq_none (by simp [QdB]; omega)]
 exact WsL.nil
theorem Qdf {s : Bs} : ∀ {k i c d : Nat}, VV s k i c = some d -> ∀ m, i <= m -> m < i + k -> 128 <= bat s m /\ bat s m <= 191
 | 0, i, c, d, h, m, h1, h2 => by omega
 | k + 1, i, c, d, h, m, h1, h2 => by
  rw [VV] at h
  split at h
  cases h
  rename_i h0
  by_cases e : m = i
  subst e; omega
  exact Qdf h m (by omega) (by omega)
theorem Z6 {s : Bs} {j n : Nat} (h : bat s j = n) (hl : j < s.length) : s.getD j 0 = zx n := by
 rw [<- h]; unfold bat; rw [UInt8.ofNat_toNat]
theorem QaZ {s : Bs} {i k : Nat} (h : i + k <= s.length) : (s.take (i + k)).drop i = (zH k).map fun j => s.getD (i + j) 0 := by
 apply List.ext_getElem?
 intro j
 rw [List.getElem?_drop, List.getElem?_take, zD]
 by_cases hj : j < k
 rw [if_pos (by omega), List.getElem?_range hj, zi (by omega)]
 simp [za, zi (show i + j < s.length by omega)]
 rw [if_neg (by omega), List.getElem?_eq_none (by simpa using hj)]
 rfl
theorem Zp {s : Bs} {i : Nat} (hi : i < s.length) (h : (Ql s i).2 ≠ 0) : YL ((Ql s i).1 : Int) = (s.take (i + (Ql s i).2)).drop i /\ i + (Ql s i).2 <= s.length /\ (Ql s i).1 <= 1114111 := by
 unfold Ql at h ⊢
 by_cases h1 : bat s i < 128
 rw [if_pos h1]
 simp only
 refine ⟨?_, by omega, by omega⟩
 rw [QcO h1, QaZ (by omega)]
 simp [bat]
 rw [if_neg h1] at h ⊢
 by_cases h2 : (Vz (bat s i)).2.1 = 0 \/ s.length < i + (Vz (bat s i)).2.1
 rw [if_pos h2] at h; exact absurd rfl h
 rw [if_neg h2] at h ⊢
 cases h3 : VV s ((Vz (bat s i)).2.1 - 1) (i + 1) (Vz (bat s i)).1 with
 | none => rw [h3] at h; exact absurd rfl h
 | some c =>
  rw [h3] at h
  simp only at h ⊢
  by_cases h4 : c < (Vz (bat s i)).2.2 \/ 1114111 < c \/ (55296 <= c /\ c < 57344)
  rw [if_pos h4] at h; exact absurd rfl h
  rw [if_neg h4]
  simp only
  have hv : Utf8.valid (c : Int) = true := by unfold Utf8.valid; simp; omega
  have hb := Qdf h3
  have hlt := QcI (s.getD i 0)
  have b0 : s.getD i 0 = zx (bat s i) := Z6 rfl hi
  unfold Vz at h2 h3 h4 hb ⊢
  by_cases c2 : 194 <= bat s i /\ bat s i < 224
  rw [if_pos c2] at h2 h3 h4 hb ⊢
  simp only at h2 h3 h4 hb ⊢
  refine ⟨?_, by omega, by omega⟩
  have d1 := hb (i + 1) (by omega) (by omega)
  simp only [VV, Option.some.injEq] at h3
  rw [if_neg (by omega)] at h3
  simp only [Option.some.injEq] at h3
  rw [QaZ (by omega)]
  unfold YL Utf8.encode
  simp only [hv, if_true, Int.toNat_natCast]
  rw [if_neg (by omega), if_pos (by omega)]
  simp only [zH, zH.loop, zJ, List.map_nil, Nat.add_zero]
  rw [b0, Z6 (s := s) (j := i + 1) rfl (by omega)]
  have e1 : 0xC0 + c / 64 = bat s i := by omega
  have e2 : 0x80 + c % 64 = bat s (i + 1) := by omega
  rw [e1, e2]
  rw [if_neg c2] at h2 h3 h4 hb ⊢
  by_cases c3 : 224 <= bat s i /\ bat s i < 240
  rw [if_pos c3] at h2 h3 h4 hb ⊢
  simp only at h2 h3 h4 hb ⊢
  refine ⟨?_, by omega, by omega⟩
  have d1 := hb (i + 1) (by omega) (by omega)
  have d2 := hb (i + 2) (by omega) (by omega)
  simp only [VV] at h3
  rw [if_neg (by omega), if_neg (by rw [show i + 1 + 1 = i + 2 from rfl]; omega)] at h3
  simp only [Option.some.injEq, show i + 1 + 1 = i + 2 from rfl] at h3
  rw [QaZ (by omega)]
  unfold YL Utf8.encode
  simp only [hv, if_true, Int.toNat_natCast]
  rw [if_neg (by omega), if_neg (by omega), if_pos (by omega)]
  simp only [zH, zH.loop, zJ, List.map_nil, Nat.add_zero]
  rw [b0, Z6 (s := s) (j := i + 1) rfl (by omega), Z6 (s := s) (j := i + 2) rfl (by omega)]
  have e1 : 0xE0 + c / 4096 = bat s i := by omega
  have e2 : 0x80 + c / 64 % 64 = bat s (i + 1) := by omega
  have e3 : 0x80 + c % 64 = bat s (i + 2) := by omega
  rw [e1, e2, e3]
  rw [if_neg c3] at h2 h3 h4 hb ⊢
  by_cases c4 : 240 <= bat s i /\ bat s i < 245
  rw [if_pos c4] at h2 h3 h4 hb ⊢
  simp only at h2 h3 h4 hb ⊢
  refine ⟨?_, by omega, by omega⟩
  have d1 := hb (i + 1) (by omega) (by omega)
  have d2 := hb (i + 2) (by omega) (by omega)
  have d3 := hb (i + 3) (by omega) (by omega)
  simp only [VV] at h3
  rw [if_neg (by omega), if_neg (by rw [show i + 1 + 1 = i + 2 from rfl]; omega), if_neg (by rw [show i + 1 + 1 + 1 = i + 3 from rfl]; omega)] at h3
  simp only [Option.some.injEq, show i + 1 + 1 = i + 2 from rfl, show i + 1 + 1 + 1 = i + 3 from rfl, show i + 2 + 1 = i + 3 from rfl] at h3
  rw [QaZ (by omega)]
  unfold YL Utf8.encode
  simp only [hv, if_true, Int.toNat_natCast]
  rw [if_neg (by omega), if_neg (by omega), if_neg (by omega)]
  simp only [zH, zH.loop, zJ, List.map_nil, Nat.add_zero]
  rw [b0, Z6 (s := s) (j := i + 1) rfl (by omega), Z6 (s := s) (j := i + 2) rfl (by omega), Z6 (s := s) (j := i + 3) rfl (by omega)]
  have e1 : 0xF0 + c / 262144 = bat s i := by omega
  have e2 : 0x80 + c / 4096 % 64 = bat s (i + 1) := by omega
  have e3 : 0x80 + c / 64 % 64 = bat s (i + 2) := by omega
  have e4 : 0x80 + c % 64 = bat s (i + 3) := by omega
  rw [e1, e2, e3, e4]
  rw [if_neg c4] at h2
  simp at h2
end Way
end
section
namespace Way
set_option maxRecDepth 20000
def U8 (t : Bs) : Prop := QA (hd t) = true \/ hd t = 92
theorem Qj2 {h : Nat} : ∀ (u v : Bs) (i : Nat), nmF h i (u ++ v) = nmF h i u ++ nmF h (i + u.length) v
 | [], v, i => by simp [nmF]
 | c :: u, v, i => by
  rw [List.cons_append, nmF, nmF, Qj2 u v (i + 1), zo, ze, show i + 1 + u.length = i + (u.length + 1) by omega]
theorem Qj3 {w : Bs} (h : w ++ [120] ≠ [45]) (hw : w ≠ []) : (Qr (w ++ [120])).take ((Qr (w ++ [120])).length - 1) = nmF (bat w 0) 0 w := by
 have hb : bat (w ++ [120]) 0 = bat w 0 := by
  obtain ⟨c, u, rfl⟩ := zB hw
  rfl
 have h120 : ∀ k, nmP (bat w 0) k 120 = [120] := by
  intro k; unfold nmP
  rw [if_neg, if_pos (by decide)]
  have : (120 : UInt8).toNat = 120 := rfl
  rw [this]
  simp [Qw]
 unfold Qr
 rw [if_neg h, hb, Qj2, nmF, nmF, h120]
 simp
theorem Qfh (w : Bs) : (Qr (120 :: w)).drop 1 = nmF 120 1 w := by
 unfold Qr
 rw [if_neg (by intro e; cases e)]
 have hb : bat (120 :: w) 0 = 120 := rfl
 have h120 : nmP 120 0 120 = [120] := by decide
 rw [hb, nmF, h120]
 rfl
section
variable {s : Bs}
def cpB (s : Bs) (i : Nat) : Bs := (s.take (i + (Ql s i).2)).drop i
theorem U6 {i : Nat} (hi : i < s.length) (hp : (Ql s i).2 ≠ 0) : s.drop i = cpB s i ++ s.drop (i + (Ql s i).2) /\ cpB s i ≠ [] /\ (cpB s i).length = (Ql s i).2 /\ bat (cpB s i) 0 = bat s i := by
 obtain ⟨_, hl, _⟩ := Zp hi hp
 have hlen : (cpB s i).length = (Ql s i).2 := by unfold cpB; simp; omega
 refine ⟨?_, ?_, hlen, ?_⟩
 unfold cpB
 rw [List.drop_take, Nat.add_sub_cancel_left, <- xj, List.take_append_drop]
 intro e; rw [e] at hlen; simp at hlen; omega
 unfold cpB bat
 simp only [za, List.getElem?_drop, List.getElem?_take]
 rw [if_pos (by omega)]; rfl
theorem Qh2 (hz : ∀ c ∈ s, c.toNat ≠ 0) {i : Nat} : ∀ c ∈ cpB s i, c.toNat ≠ 0 := fun c hc => hz c (List.mem_of_mem_take (List.mem_of_mem_drop hc))
theorem Qrg (hz : ∀ c ∈ s, c.toNat ≠ 0) {i : Nat} (hi : i < s.length) (hp : (Ql s i).2 ≠ 0) : Es (cpB s i) (VQ (Ql s i).1) := by
 obtain ⟨e1, e2, e3⟩ := Zp hi hp
 have h0 : (Ql s i).1 ≠ 0 := by
  intro e
  rw [e] at e1
  have hu : YL ((0 : Nat) : Int) = [0] := QcO (by decide)
  rw [hu] at e1
  exact Qh2 (i := i) hz 0 (by unfold cpB; rw [<- e1]; simp) rfl
 have := QhT h0 (by omega)
 rwa [e1] at this
theorem QmU (hz : ∀ c ∈ s, c.toNat ≠ 0) (hs : s ≠ [45]) {i : Nat} (hi : i < s.length) (hp : (Ql s i).2 ≠ 0) (e : Bool) : NmW (cpB s i) (pnP s i (Ql s i).1 (Ql s i).2 e) := by
 have hes := Qrg hz hi hp
 have hesn : NmW (cpB s i) (VQ (Ql s i).1) := by
  have := NmW.esc hes .nil
  simpa using this
 obtain ⟨d1, d2, d3, d4⟩ := U6 hi hp
 have hx : NmW (cpB s i) (nmF 120 1 (cpB s i)) := QbC 1 _ (Qh2 hz)
 unfold pnP
 by_cases he : e = true
 rw [if_pos he]; exact hesn
 rw [if_neg he]
 by_cases h01 : i = 0 \/ (i = 1 /\ bat s 0 = 45)
 rw [if_pos h01]
 unfold Zb
 by_cases h0 : i = 0
 rw [if_pos h0, if_neg hs]
 have ec : s.take (Ql s i).2 = cpB s i := by unfold cpB; rw [h0]; simp
 rw [ec, Qj3 (by intro q; have := congrArg List.length q; simp at this; exact d2 this) d2]
 exact QbC 0 _ (Qh2 hz)
 rw [if_neg h0]
 by_cases h45 : bat s i = 45 \/ Qw (bat s i) = true
 rw [if_pos h45]
 have hlo : bat s i < 128 := by
  rcases h45 with q | q
  omega
  simp [Qw] at q; omega
 have ep : Ql s i = (bat s i, 1) := Qa9 hlo
 rw [ep] at hesn
 exact hesn
 rw [if_neg h45]
 have := Qfh (cpB s i)
 unfold cpB at this hx
 rw [this]; exact hx
 rw [if_neg h01]
 have := Qfh (cpB s i)
 unfold cpB at this hx
 rw [this]; exact hx
theorem Qan (c : Nat) : U8 (VQ c) := .inr rfl
theorem QeI {h i : Nat} {w : Bs} (hw : w ≠ []) (h0 : ∀ c ∈ w, c.toNat ≠ 0) (hh : (i = 0 \/ (i = 1 /\ h = 45)) /\ (i = 0 -> bat w 0 ≠ 45) \/ (Qw (bat w 0) = false /\ bat w 0 ≠ 45)) : U8 (nmF h i w) := by
 obtain ⟨c, u, rfl⟩ := zB hw
 have hb : bat (c :: u) 0 = c.toNat := rfl
 rw [hb] at hh
 rw [nmF]
 rcases hh with ⟨h1, h2⟩ | ⟨h1, h2⟩
 obtain ⟨q1, q2⟩ := QbB (h := h) (i := i) (h0 c (by simp)) h1 h2
 unfold U8
 rw [Q8 q1]; exact q2
 rcases QiS (h := h) (i := i) (h0 c (by simp)) with ⟨k, e, k1, k2⟩ | he
 rw [e]
 exact .inl (QgK (k1.trans k2) h1 h2)
 have := Qrc he
 unfold U8
 rw [Q8 (Qb3 (by omega))]; exact .inr this
theorem Qcu (hz : ∀ c ∈ s, c.toNat ≠ 0) (hs : s ≠ [45]) {i : Nat} (hi : i < s.length) (hp : (Ql s i).2 ≠ 0) (e : Bool) :
 (i = 0 -> bat s 0 ≠ 45 -> U8 (pnP s i (Ql s i).1 (Ql s i).2 e)) /\ (i = 0 -> bat s 0 = 45 -> U8 (pnP s i (Ql s i).1 (Ql s i).2 e) \/ (pnP s i (Ql s i).1 (Ql s i).2 e = [45] /\ (Ql s i).2 = 1)) /\
 (i = 1 -> bat s 0 = 45 -> U8 (pnP s i (Ql s i).1 (Ql s i).2 e)) := by
 obtain ⟨d1, d2, d3, d4⟩ := U6 hi hp
 by_cases he : e = true
 subst he
 have : pnP s i (Ql s i).1 (Ql s i).2 true = VQ (Ql s i).1 := by unfold pnP; rw [if_pos rfl]
 rw [this]
 exact ⟨fun _ _ => Qan _, fun _ _ => .inl (Qan _), fun _ _ => Qan _⟩
 have hf : ∀ q : i = 0, pnP s i (Ql s i).1 (Ql s i).2 e = nmF (bat s i) 0 (cpB s i) := by
  intro h0
  unfold pnP Zb
  rw [if_neg he, if_pos (.inl h0), if_pos h0, if_neg hs]
  have ec : s.take (Ql s i).2 = cpB s i := by unfold cpB; rw [h0]; simp
  rw [ec, Qj3 (by intro q; have := congrArg List.length q; simp at this; exact d2 this) d2, d4]
 refine ⟨fun h0 h1 => ?_, fun h0 h1 => ?_, fun h0 h1 => ?_⟩
 rw [hf h0]
 exact QeI d2 (Qh2 hz) (.inl ⟨.inl rfl, fun _ => by rw [d4, h0]; exact h1⟩)
 right
 have hb : bat s i = 45 := by rw [h0]; exact h1
 have ep : Ql s i = (bat s i, 1) := Qa9 (by omega)
 refine ⟨?_, by rw [ep]⟩
 rw [hf h0, hb]
 have ec : cpB s i = [45] := by
  unfold cpB
  rw [ep, slice1' hi]
  have : s.getD i 0 = zx (bat s i) := Z6 rfl hi
  rw [this, hb]; rfl
 rw [ec]; decide
 unfold pnP
 rw [if_neg he, if_pos (.inr ⟨h0, h1⟩)]
 unfold Zb
 rw [if_neg (by omega)]
 by_cases h45 : bat s i = 45 \/ Qw (bat s i) = true
 rw [if_pos h45]; exact Qan _
 rw [if_neg h45]
 have hx := Qfh (cpB s i)
 unfold cpB at hx
 rw [hx]
 have := QeI (h := 120) (i := 1) d2 (Qh2 hz) (.inr ⟨by rw [d4]; cases hc : Qw (bat s i) with | true => exact absurd (.inr hc) h45 | false => rfl, by rw [d4]; exact fun q => h45 (.inl q)⟩)
 unfold cpB at this
 exact this
where
 slice1' {s : Bs} {i : Nat} (h : i < s.length) : (s.take (i + 1)).drop i = [s.getD i 0] := by
  rw [List.drop_take, Nat.add_sub_cancel_left, zP h, List.take_succ_cons, List.take_zero]
  simp [za, zi h]
theorem QsJ (y : Bs) (hz : ∀ c ∈ s, c.toNat ≠ 0) (hs : s ≠ [45]) : ∀ (d i n : Nat) (out : Bs), s.length - i = d -> QE s i = true -> i <= s.length ->
 ∃ t, (UU y s i n out).1 = out ++ t /\ NmW (s.drop i) t /\ (i = 1 -> bat s 0 = 45 -> i < s.length -> U8 t) := by
 intro d
 induction d using zl with
 | _ d ih =>
  intro i n out hd' hr hl
  rw [UU]
  by_cases hi : i < s.length
  obtain ⟨r1, r2⟩ := Law.readGo_step hr hi
  rw [if_pos ⟨hi, r1⟩]
  obtain ⟨_, hle, _⟩ := Zp hi r1
  obtain ⟨t, t1, t2, t3⟩ := ih (s.length - (i + (Ql s i).2)) (by omega) (i + (Ql s i).2) (chc y n 6).2 (out ++ pnP s i (Ql s i).1 (Ql s i).2 (decide ((chc y n 6).1 = 1))) rfl r2 hle
  obtain ⟨d1, d2, d3, d4⟩ := U6 hi r1
  have hp := QmU hz hs hi r1 (decide ((chc y n 6).1 = 1))
  have hone := Qcu hz hs hi r1 (decide ((chc y n 6).1 = 1))
  refine ⟨pnP s i (Ql s i).1 (Ql s i).2 (decide ((chc y n 6).1 = 1)) ++ t, by rw [t1, zo], by rw [d1]; exact hp.app t2, fun h1 h2 _ => ?_⟩
  have h3 := hone.2.2 h1 h2
  unfold U8 at h3 ⊢
  rw [Q8 (Qb3 (by rcases h3 with q | q; simp [QA] at q; omega; omega))]
  exact h3
  rw [if_neg (fun q => hi q.1)]
  exact ⟨[], by simp, by rw [xk (by omega)]; exact .nil, fun _ _ q => absurd q hi⟩
theorem QiN (y : Bs) (n : Nat) (hr : QE s 0 = true) (hs0 : s ≠ []) : IdW s (V3 y s n).1 := by
 have hz := Qcq hr
 unfold V3
 by_cases hs : s = [45]
 subst hs
 exact ⟨0, [45], [92, 45], rfl, rfl, .esc (.lit 45 (by decide) (by decide)) .nil, .inr rfl⟩
 simp only [if_neg hs]
 have hi : 0 < s.length := zu.2 hs0
 obtain ⟨r1, r2⟩ := Law.readGo_step hr hi
 rw [UU, if_pos ⟨hi, r1⟩]
 obtain ⟨_, hle, _⟩ := Zp hi r1
 obtain ⟨t, t1, t2, t3⟩ := QsJ y hz hs _ (0 + (Ql s 0).2) (chc y n 6).2 ([] ++ pnP s 0 (Ql s 0).1 (Ql s 0).2 (decide ((chc y n 6).1 = 1))) rfl r2 hle
 obtain ⟨d1, d2, d3, d4⟩ := U6 hi r1
 have hp := QmU hz hs hi r1 (decide ((chc y n 6).1 = 1))
 obtain ⟨o1, o2, _⟩ := Qcu hz hs hi r1 (decide ((chc y n 6).1 = 1))
 generalize pnP s 0 (Ql s 0).1 (Ql s 0).2 (decide ((chc y n 6).1 = 1)) = P at t1 hp o1 o2 ⊢
 rw [t1, zI]
 have hst : ∀ {P : Bs}, U8 P -> P ≠ [] := fun h3 => Qb3 (by rcases h3 with q | q; simp [QA] at q; omega; omega)
 have whole : U8 P -> IdW s (P ++ t) := by
  intro h
  have hn : NmW s (P ++ t) := by
   have := hp.app t2
   rw [<- d1] at this
   simpa using this
  exact ⟨0, s, P ++ t, rfl, rfl, hn, by rw [Q8 (hst h)]; exact h⟩
 by_cases h45 : bat s 0 = 45
 rcases o2 rfl h45 with h | ⟨h, hk⟩
 exact whole h
 subst h
 rw [hk] at t2 t3 d1
 have hl1 : 1 < s.length := by
  have hne : s.length ≠ 1 := by
   intro q
   obtain ⟨c, hc⟩ := List.length_eq_one_iff.1 q
   subst hc
   have : c.toNat = 45 := h45
   have hc' : c = 45 := UInt8.toNat_inj.1 this
   exact hs (by rw [hc'])
  omega
 have hst' := t3 rfl h45 (by omega)
 have es : s = 45 :: s.drop 1 := by
  obtain ⟨c, u, rfl⟩ := zB hs0
  have : c.toNat = 45 := h45
  have hc' : c = 45 := UInt8.toNat_inj.1 this
  rw [hc']; rfl
 refine ⟨1, s.drop 1, t, ?_, rfl, t2, hst'⟩
 exact es
 exact whole (o1 rfl h45)
theorem StW.app {q : Nat} {v t v' t' : Bs} (h : StW q v t) (k : StW q v' t') : StW q (v ++ v') (t ++ t') := by
 induction h with
 | nil => exact k
 | raw hc _ ih => exact .raw hc ih
 | esc he _ ih => rw [zo, zo]; exact .esc he ih
theorem QsH (y : Bs) (hz : ∀ c ∈ s, c.toNat ≠ 0) {q : UInt8} (hq : q = 39 \/ q = 34) {i n : Nat} (hi : i < s.length) (hp : (Ql s i).2 ≠ 0) : StW q.toNat (cpB s i) (ptP y s q i n).1 := by
 have hes := Qrg hz hi hp
 have hesn : StW q.toNat (cpB s i) (VQ (Ql s i).1) := by
  have := StW.esc (q := q.toNat) hes .nil
  simpa using this
 unfold ptP
 by_cases h1 : (Ql s i).1 < 32 \/ (Ql s i).1 = 127
 rw [if_pos h1]; exact hesn
 rw [if_neg h1]
 by_cases h2 : (chc y n 8).1 = 1
 rw [if_pos h2]; exact hesn
 rw [if_neg h2]
 by_cases hb : bat s i < 128
 have ep : Ql s i = (bat s i, 1) := Qa9 hb
 have ec : cpB s i = [s.getD i 0] := by unfold cpB; rw [ep]; exact Qcu.slice1' hi
 have eb : s.getD i 0 = zx (bat s i) := Z6 rfl hi
 have hn : (s.getD i 0).toNat = bat s i := rfl
 rw [ep] at h1 ⊢
 simp only at h1 ⊢
 by_cases h3 : bat s i = q.toNat \/ bat s i = 92
 rw [if_pos h3, ec, <- eb]
 have hl : Es [s.getD i 0] [92, s.getD i 0] := .lit _ (by
  rw [hn]
  rcases h3 with h3 | h3
  rw [h3]; rcases hq with rfl | rfl <;> decide
  rw [h3]; decide) (by rw [hn]; exact Qll fun q' => h1 (.inl q'))
 have := StW.esc (q := q.toNat) hl .nil
 simpa using this
 rw [if_neg h3]
 have e2 : (s.take (i + 1)).drop i = [s.getD i 0] := Qcu.slice1' hi
 rw [ec, e2]
 exact .raw ⟨by rw [hn]; exact fun q' => h3 (.inl q'), by rw [hn]; exact fun q' => h3 (.inr q'), by rw [hn]; exact Qll fun q' => h1 (.inl q')⟩ .nil
 have hge : 128 <= (Ql s i).1 := by
  unfold Ql
  unfold Ql at hp
  rw [if_neg hb] at hp ⊢
  split
  rename_i h3; rw [if_pos h3] at hp; exact absurd rfl hp
  rename_i h3
  rw [if_neg h3] at hp
  split
  rename_i h4; rw [h4] at hp; exact absurd rfl hp
  rename_i d h4
  rw [h4] at hp
  simp only at hp ⊢
  split
  rename_i h5; rw [if_pos h5] at hp; exact absurd rfl hp
  rename_i h5
  simp only [not_or] at h5 h3
  have hm : 128 <= (Vz (bat s i)).2.2 := by
   have h6 := h3.1
   unfold Vz at h6 ⊢
   repeat' split
   all_goals first | (simp; done) | simp_all
  simp only; omega
 have hq39 : q.toNat = 39 \/ q.toNat = 34 := by rcases hq with rfl | rfl; exact .inl rfl; exact .inr rfl
 rw [if_neg (by omega)]
 have hhi : ∀ c ∈ cpB s i, 128 <= c.toNat := by
  intro c hc
  unfold cpB at hc
  obtain ⟨_, hle, _⟩ := Zp hi hp
  rw [QaZ hle] at hc
  obtain ⟨j, hj, rfl⟩ := List.mem_map.1 hc
  have hj' := List.mem_range.1 hj
  show 128 <= bat s (i + j)
  obtain ⟨q1, q2, q3, q4⟩ := Law.point_shape hi hp
  rcases Nat.eq_zero_or_pos j with h0 | h0
  subst h0; simp; omega
  exact q3 (i + j) (by omega) (by omega)
 show StW q.toNat (cpB s i) (cpB s i)
 generalize cpB s i = w at hhi
 induction w with
 | nil => exact .nil
 | cons c w ih =>
  have := hhi c (by simp)
  refine .raw ⟨?_, by omega, Qll (by omega)⟩ (ih fun c hc => hhi c (by simp [hc]))
  rcases hq with rfl | rfl
  show c.toNat ≠ 39; omega
  show c.toNat ≠ 34; omega
theorem QsF (y : Bs) (hz : ∀ c ∈ s, c.toNat ≠ 0) {q : UInt8} (hq : q = 39 \/ q = 34) : ∀ (d i n : Nat) (out : Bs), s.length - i = d -> QE s i = true -> i <= s.length ->
 ∃ t, (Qav y s q i n out).1 = out ++ t /\ StW q.toNat (s.drop i) t := by
 intro d
 induction d using zl with
 | _ d ih =>
  intro i n out hd' hr hl
  rw [Qav]
  by_cases hi : i < s.length
  obtain ⟨r1, r2⟩ := Law.readGo_step hr hi
  rw [if_pos ⟨hi, r1⟩]
  obtain ⟨_, hle, _⟩ := Zp hi r1
  obtain ⟨t, t1, t2⟩ := ih (s.length - (i + (Ql s i).2)) (by omega) (i + (Ql s i).2) (ptP y s q i n).2 (out ++ (ptP y s q i n).1) rfl r2 hle
  obtain ⟨d1, d2, d3, d4⟩ := U6 hi r1
  exact ⟨(ptP y s q i n).1 ++ t, by rw [t1, zo], by rw [d1]; exact (QsH y hz hq hi r1).app t2⟩
  rw [if_neg (fun q => hi q.1)]
  exact ⟨[], by simp, by rw [xk (by omega)]; exact .nil⟩
theorem Qey (y : Bs) (n : Nat) {q : UInt8} (hq : q = 39 \/ q = 34) (hr : QE s 0 = true) : Qef s (YS y s q n).1 := by
 obtain ⟨t, t1, t2⟩ := QsF y (Qcq hr) hq _ 0 n [q] rfl hr (Nat.zero_le _)
 unfold YS
 simp only
 rw [t1]
 exact .inr ⟨q, t, hq, by simpa using t2, rfl⟩
theorem QgE (y : Bs) (n : Nat) (hr : QE s 0 = true) : Qef s (VJ y s n).1 := by
 unfold VJ
 by_cases h1 : (chc y n 3).1 = 1
 rw [if_pos h1]; exact Qey y _ (.inl rfl) hr
 rw [if_neg h1]
 by_cases h2 : (chc y n 3).1 = 2 /\ s ≠ []
 rw [if_pos h2]; exact .inl (QiN y _ hr h2.2)
 rw [if_neg h2]; exact Qey y _ (.inr rfl) hr
end
end Way
end
end Go.Proofs.YtengepcafdnalaaGreatDoor
