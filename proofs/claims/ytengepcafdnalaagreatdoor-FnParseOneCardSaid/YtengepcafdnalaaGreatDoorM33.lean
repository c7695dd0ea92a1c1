/-
  Parts of the proof that the law FnParseOne holds for every input (texts Lm, Wa). Conditions: none.
-/
import Derived.Test.YtengepcafdnalaaGreatDoorM32
namespace Go.Proofs.YtengepcafdnalaaGreatDoor
section
open Go Go.RowKit
set_option maxRecDepth 20000
theorem sat2726 : ∀ m, Sat 27 (c27 m) ∧ Sat 26 (c26 m)
 | 0 => by
  have h : Sat 27 (c27 0) := by
   intro g0 w M ω svs args b K hS hn hr hP
   unfold c27 at hP
   split at hP
   · rename_i x l
     have := dataOf_pos x
     omega
   exact hP.elim
  exact ⟨h, sat26 0 h⟩
 | m + 1 => by
  obtain ⟨h1, h2⟩ := sat2726 m
  have h : Sat 27 (c27 (m + 1)) := sat27s m h2 h1
  exact ⟨h, sat26 (m + 1) h⟩
theorem parse_T {s : Bs} {p : Bool} {v : List CSel} (h : iParse s true p = some v) : (dataAll v).length ≤ 2 * s.length + 2 := by
 have := parse_len h
 simp only [parseData, if_true, sizedD, List.length_cons] at this
 omega
theorem parse_F {s : Bs} {p : Bool} {v : List CSel} (h : iParse s false p = some v) : (dataOf (v.headD default)).length ≤ 2 * s.length + 2 := by
 have := parse_len h
 exact this
def c11 (svs : List SV) (b : Option SB) (K : Out → Option SB → Prop) : Prop := match svs, b with
 | [.str s, .bool m, .bool p], none => s.length ≤ 1000000 ∧ optK (iParse s m p) (fun v => K (.val (.tup [.sl (.sels (parseData m v)), .bool true])) none) (K (.val (.tup [.sl (.sels []), .bool false])) none)
 | _, _ => False
noncomputable def W11 : Wk := ⟨[(25, .plain c25), (26, .own 22 (c26 10000000)), (27, .own 22 (c27 10000000))], bodyOf Tryz.f11, false, false, [.tmp 6, .tmp 7], [22, 4], [], []⟩
theorem has11 : Has 11 := Has.of (fn := Tryz.f11) (by kernel_rfl) (by kernel_rfl) (by kernel_rfl)
theorem lmz0 {p q : Prop} (k : q) (h : p := by first | omega | (simp; done) | (have q := parse_T h2; omega) | (have q := parse_F h2; show (dataOf (v2.headD default)).length ≤ _; omega) | (have q := parse_F h2; show 0 + (dataOf (v2.headD default)).length ≤ _; omega) | exact absurd (h1.symm.trans h3) (by decide)) : p ∧ q := ⟨h, k⟩
theorem sat11 : Sat 11 c11 := by
 have hD : CxOk W11.D := (CxOk.cons has25 sat25 (CxOk.cons has26 (sat2726 10000000).2 (CxOk.cons has27 (sat2726 10000000).1 CxOk.nil)))
 refine W11.sat hD (fn := Tryz.f11) (by kernel_rfl) (by kernel_rfl) (by kernel_rfl) (Nat.le_of_ble_eq_true (by kernel_rfl)) fun svs b K hP => ?_
 unfold c11 at hP
 split at hP
 · rename_i s m p
   obtain ⟨h01, hk⟩ := hP
   refine W11.entry rfl (X := have a0 : Out := .val (.tup [(.sl (.sels [])), (.bool false)]); (s.length ≤ 1000000) ∧ cond m (optK (iParse s true p) (fun v1 => cond m ((0 + (dataAll v1).length + 1 ≤ 1000000000) ∧ ((dataAll v1).length ≤ 10000000) ∧ ∀ b3 : Option SB, K (.val (.tup [(.sl (.sels ([] ++ sizedD grpNode (dataAll v1)))), (.bool true)])) none) ((0 < v1.length) ∧ (0 + (dataOf (v1.getD 0 default)).length ≤ 1000000000) ∧ ((dataOf (v1.getD 0 default)).length ≤ 10000000) ∧ ∀ b4 : Option SB, K (.val (.tup [(.sl (.sels ([] ++ dataOf (v1.getD 0 default)))), (.bool true)])) none)) (K a0 none)) (optK (iParse s false p) (fun v2 => cond m ((0 + (dataAll [v2.headD default]).length + 1 ≤ 1000000000) ∧ ((dataAll [v2.headD default]).length ≤ 10000000) ∧ ∀ b5 : Option SB, K (.val (.tup [(.sl (.sels ([] ++ sizedD grpNode (dataAll [v2.headD default])))), (.bool true)])) none) ((0 < 1) ∧ (0 + (dataOf (([v2.headD default] : List CSel).getD 0 default)).length ≤ 1000000000) ∧ ((dataOf (([v2.headD default] : List CSel).getD 0 default)).length ≤ 10000000) ∧ ∀ b6 : Option SB, K (.val (.tup [(.sl (.sels ([] ++ dataOf (([v2.headD default] : List CSel).getD 0 default)))), (.bool true)])) none)) (K a0 none))) (by kernel_rfl) ?_
   refine lmz0 ?_
   refine cndI ?_ ?_ <;> intro h1 <;> simp -failIfUnchanged [-List.getD_eq_getElem?_getD, -UInt8.toNat_or] at h1
   · refine optI (fun v1 h2 => ?_) (fun h2 => ?_)
     ·
      refine cndI ?_ ?_ <;> intro h3 <;> simp -failIfUnchanged [-List.getD_eq_getElem?_getD, -UInt8.toNat_or] at h3
      · refine lmz0 (lmz0 ?_)
        intro b3
        subst h1
        have q := opt_some hk h2
        exact q
      refine lmz0 ?_
      refine lmz0 (lmz0 ?_)
      intro b4
      exact absurd (h1.symm.trans h3) (by decide)
     subst h1
     exact opt_none hk h2
   refine optI (fun v2 h2 => ?_) (fun h2 => ?_)
   ·
    refine cndI ?_ ?_ <;> intro h3 <;> simp -failIfUnchanged [-List.getD_eq_getElem?_getD, -UInt8.toNat_or] at h3
    · refine lmz0 (lmz0 ?_)
      intro b5
      exact absurd (h1.symm.trans h3) (by decide)
    refine lmz0 ?_
    refine lmz0 (lmz0 ?_)
    intro b6
    subst h1
    have q := opt_some hk h2
    exact q
   subst h1
   exact opt_none hk h2
 exact hP.elim
theorem group9_le (l : List SelD) : (group9 l).length ≤ l.length + 1 := by
 unfold group9
 split
 · omega
 simp [selMade, sizedD]
def c3 (svs : List SV) (b : Option SB) (K : Out → Option SB → Prop) : Prop := match svs, b with
 | [.str s, .bool m, .bool p], none => s.length ≤ 9223372036854775807 ∧ K (.val (.bool true)) none
 | _, _ => False
end
section
namespace Way
set_option maxRecDepth 20000
def hd (r : Bs) : Nat := match r with
 | [] => 0
 | c :: _ => c.toNat
section
variable {s : Bs}
theorem d1 {i : Nat} {c : UInt8} {r : Bs} (h : s.drop i = c :: r) : i < s.length ∧ bat s i = c.toNat ∧ s.getD i 0 = c ∧ s.drop (i + 1) = r := by
 have hl : i < s.length := by
  have := congrArg List.length h
  simp at this; omega
 have hg : s[i]? = some c := by
  have : (s.drop i)[0]? = some c := by rw [h]; rfl
  rw [List.getElem?_drop] at this
  simpa using this
 refine ⟨hl, ?_, ?_, ?_⟩
 · simp [bat, List.getD_eq_getElem?_getD, hg]
 · simp [List.getD_eq_getElem?_getD, hg]
 rw [← List.drop_drop, h]; rfl
theorem dA {i : Nat} {t r : Bs} (h : s.drop i = t ++ r) : s.drop (i + t.length) = r := by
 rw [← List.drop_drop, h, List.drop_left]
theorem bhd {i : Nat} {r : Bs} (h : s.drop i = r) : bat s i = hd r := by
 match r, h with
 | [], h =>
  have : s.length ≤ i := by simpa using h
  simp [bat, List.getD_eq_getElem?_getD, List.getElem?_eq_none this, hd]
 | c :: r, h => exact (d1 h).2.1
theorem lhd {i : Nat} {r : Bs} (h : s.drop i = r) (hz : r ≠ []) : i < s.length := by
 match r, h, hz with
 | c :: r, h, _ => exact (d1 h).1
theorem nhd {i : Nat} (h : s.drop i = []) : s.length ≤ i := by simpa using h
theorem hd_ne {r : Bs} (h : hd r ≠ 0) : r ≠ [] := by
 intro e; subst e; exact h rfl
theorem hd_app {t r : Bs} (h : t ≠ []) : hd (t ++ r) = hd t := by
 match t, h with
 | c :: t, _ => rfl
theorem dtake {j : Nat} {t r : Bs} (h : s.drop j = t ++ r) : (s.take (j + t.length)).drop j = t := by
 rw [List.drop_take, h, Nat.add_sub_cancel_left, List.take_left]
end
inductive Es : Bs → Bs → Prop
 | hex (ds : Bs) (h0 : ds ≠ []) (h1 : ds.length ≤ 6) (h2 : ∀ c ∈ ds, hexDig c.toNat = true) (h3 : utf8 (hexVal ds : Nat) ≠ []) : Es (utf8 (hexVal ds : Nat)) (92 :: (ds ++ [32]))
 | lit (c : UInt8) (h1 : hexDig c.toNat = false) (h2 : isNl c.toNat = false) : Es [c] [92, c]
theorem hex_nl {c : Nat} (h : hexDig c = true) : isNl c = false := by
 simp [hexDig] at h
 simp [isNl]; omega
theorem Es.shape {v t : Bs} (h : Es v t) : v ≠ [] ∧ ∃ c u, t = 92 :: c :: u ∧ isNl c.toNat = false := by
 cases h with
 | hex ds h0 h1 h2 h3 =>
  refine ⟨h3, ?_⟩
  obtain ⟨c, ds', rfl⟩ := List.exists_cons_of_ne_nil h0
  exact ⟨c, _, rfl, hex_nl (h2 c (by simp))⟩
 | lit c h1 h2 => exact ⟨by simp, c, [], rfl, h2⟩
section
variable {s : Bs}
theorem hexEnd_at : ∀ (ds : Bs) (k i : Nat) (r : Bs), ds.length ≤ k → (∀ c ∈ ds, hexDig c.toNat = true) → s.drop i = ds ++ r → hexDig (hd r) = false → hexEnd s k i = i + ds.length
 | [], 0, i, r, _, _, _, _ => rfl
 | [], k + 1, i, r, _, _, h, hr => by
  unfold hexEnd
  rw [if_neg]
  · rfl
  rintro ⟨_, q⟩
  rw [bhd h] at q
  simp only [List.nil_append] at q
  rw [hr] at q; cases q
 | c :: ds, 0, i, r, hk, _, _, _ => by simp at hk
 | c :: ds, k + 1, i, r, hk, h2, h, hr => by
  obtain ⟨q1, q2, q3, q4⟩ := d1 h
  unfold hexEnd
  rw [if_pos ⟨q1, by rw [q2]; exact h2 c (by simp)⟩, hexEnd_at ds k (i + 1) r (by simp at hk; omega) (fun c hc => h2 c (by simp [hc])) q4 hr]
  simp; omega
theorem iEsc_at {v t : Bs} (h : Es v t) {i : Nat} {r : Bs} (e : s.drop i = t ++ r) : iEsc s i = some (v, i + t.length) := by
 cases h with
 | hex ds h0 h1 h2 h3 =>
  obtain ⟨q1, q2, q3, q4⟩ := d1 e
  have q5 : s.drop (i + 1) = ds ++ (32 :: r) := by rw [q4]; simp
  have q6 := hexEnd_at ds 6 (i + 1) (32 :: r) h1 h2 q5 (show hexDig 32 = false by decide)
  obtain ⟨w1, w2, w3, w4⟩ := d1 (dA q5)
  have q7 : hexDig (bat s (i + 1)) = true := by
   obtain ⟨c, ds', rfl⟩ := List.exists_cons_of_ne_nil h0
   rw [(d1 q5).2.1]; exact h2 c (by simp)
  unfold iEsc
  rw [if_neg (by simp only [not_or, Decidable.not_not]; exact ⟨by omega, by rw [q2]; rfl⟩), if_neg (by rw [hex_nl q7]; exact Bool.false_ne_true), if_pos q7, q6, dtake q5]
  have q8 : skipOne s (i + 1 + ds.length) = i + 1 + ds.length + 1 := by
   unfold skipOne
   rw [if_pos w1, if_neg (by rw [w2]; decide), if_pos (by rw [w2]; decide)]
  rw [q8]
  simp; omega
 | lit c h1 h2 =>
  obtain ⟨q1, q2, q3, q4⟩ := d1 e
  obtain ⟨w1, w2, w3, w4⟩ := d1 q4
  unfold iEsc
  rw [if_neg (by simp only [not_or, Decidable.not_not]; exact ⟨by omega, by rw [q2]; rfl⟩), if_neg (by rw [w2, h2]; exact Bool.false_ne_true), if_neg (by rw [w2, h1]; exact Bool.false_ne_true), w3]
  rfl
end
inductive NmW : Bs → Bs → Prop
 | nil : NmW [] []
 | raw {c : UInt8} {v t : Bs} (h : nmChar c.toNat = true) (k : NmW v t) : NmW (c :: v) (c :: t)
 | esc {a b v t : Bs} (h : Es a b) (k : NmW v t) : NmW (a ++ v) (b ++ t)
def StopN (r : Bs) : Prop := nmChar (hd r) = false ∧ hd r ≠ 92
theorem NmW.ne {v t : Bs} (h : NmW v t) (ht : t ≠ []) : v ≠ [] := by
 cases h with
 | nil => exact ht
 | raw h k => simp
 | esc h k => have := h.shape.1; simp [this]
theorem NmW.app {v t v' t' : Bs} (h : NmW v t) (k : NmW v' t') : NmW (v ++ v') (t ++ t') := by
 induction h with
 | nil => exact k
 | raw hc _ ih => exact .raw hc ih
 | esc he _ ih => rw [List.append_assoc, List.append_assoc]; exact .esc he ih
section
variable {s : Bs}
theorem nameGo_at {v t : Bs} (h : NmW v t) : ∀ (i : Nat) (r acc : Bs), s.drop i = t ++ r → StopN r → nameGo s i acc = some (acc ++ v, i + t.length) := by
 induction h with
 | nil =>
  intro i r acc e hs
  have hb : bat s i = hd r := bhd e
  rw [nameGo]
  split
  · rw [if_neg (by rw [hb, hs.1]; exact Bool.false_ne_true), if_neg (by rw [hb]; exact hs.2)]; simp
  simp
 | raw hc k ih =>
  intro i r acc e hs
  obtain ⟨h1, h2, h3, h4⟩ := d1 e
  rw [nameGo, if_pos h1, if_pos (by rw [h2]; exact hc), h3, ih (i + 1) r _ h4 hs]
  simp; omega
 | @esc a b v t he k ih =>
  intro i r acc e hs
  obtain ⟨_, c, u, hb, _⟩ := he.shape
  rw [List.append_assoc] at e
  have e' := e
  rw [hb] at e'
  obtain ⟨h1, h2, h3, h4⟩ := d1 e'
  have hE := iEsc_at he e
  rw [nameGo, if_pos h1, if_neg (by rw [h2]; decide), if_pos (by rw [h2]; rfl)]
  split
  · rename_i hv; rw [hE] at hv; cases hv
  rename_i v' j hv
  rw [hE] at hv
  cases hv
  rw [ih _ r _ (dA e) hs]
  simp; omega
theorem iName_at {v t : Bs} (h : NmW v t) (ht : t ≠ []) {i : Nat} {r : Bs} (e : s.drop i = t ++ r) (hs : StopN r) : iName s i = some (v, i + t.length) := by
 have hv := h.ne ht
 unfold iName
 rw [nameGo_at h i r [] e hs, List.nil_append]
 match v, hv with
 | c :: v, _ => rfl
end
def IdW (v t : Bs) : Prop := ∃ (k : Nat) (v' t' : Bs), v = List.replicate k 45 ++ v' ∧ t = List.replicate k 45 ++ t' ∧ NmW v' t' ∧ (nmStart (hd t') = true ∨ hd t' = 92)
theorem start_hd {t : Bs} (h : nmStart (hd t) = true ∨ hd t = 92) : hd t ≠ 45 ∧ t ≠ [] := by
 have h0 : hd t ≠ 0 ∧ hd t ≠ 45 := by
  rcases h with h | h
  · simp [nmStart] at h; omega
  omega
 exact ⟨h0.2, hd_ne h0.1⟩
theorem IdW.head {v t : Bs} (h : IdW v t) : t ≠ [] ∧ v ≠ [] ∧ (hd t = 45 ∨ nmStart (hd t) = true ∨ hd t = 92) := by
 obtain ⟨k, v', t', rfl, rfl, hn, hh⟩ := h
 have h1 := (start_hd hh).2
 have h2 := hn.ne h1
 refine ⟨by simp [h1], by simp [h2], ?_⟩
 cases k with
 | zero => right; simpa using hh
 | succ k => left; rfl
theorem IdW.nm {v t : Bs} (h : IdW v t) : NmW v t := by
 obtain ⟨k, v', t', rfl, rfl, hn, hh⟩ := h
 refine NmW.app ?_ hn
 clear hn hh
 induction k with
 | zero => exact .nil
 | succ k ih => exact .raw (by decide) ih
section
variable {s : Bs}
theorem hyEnd_at : ∀ (k i : Nat) (r : Bs), s.drop i = List.replicate k 45 ++ r → hd r ≠ 45 → hyEnd s i = i + k
 | 0, i, r, e, hr => by
  rw [hyEnd, if_neg]
  · rfl
  rintro ⟨_, q⟩
  rw [bhd e] at q
  exact hr q
 | k + 1, i, r, e, hr => by
  obtain ⟨h1, h2, h3, h4⟩ := d1 e
  rw [hyEnd, if_pos ⟨h1, by rw [h2]; rfl⟩, hyEnd_at k (i + 1) r h4 hr]
  omega
theorem iIdent_at {v t : Bs} (h : IdW v t) {i : Nat} {r : Bs} (e : s.drop i = t ++ r) (hs : StopN r) : iIdent s i = some (v, i + t.length) := by
 obtain ⟨k, v', t', rfl, rfl, hn, hh⟩ := h
 obtain ⟨h1, h2⟩ := start_hd hh
 rw [List.append_assoc] at e
 have q1 := hyEnd_at k i (t' ++ r) e (by rw [hd_app h2]; exact h1)
 have q2 : s.drop (i + k) = t' ++ r := by
  have := dA e
  rwa [List.length_replicate] at this
 have q3 := bhd q2
 rw [hd_app h2] at q3
 unfold iIdent
 rw [q1, q3, if_pos ⟨lhd q2 (by simp [h2]), hh⟩, iName_at hn h2 q2 hs]
 simp; omega
end
def WsL (g : Bs) : Prop := ∀ c ∈ g, isWs c.toNat = true
def StopW (r : Bs) : Prop := isWs (hd r) = false ∧ hd r ≠ 47
theorem WsL.nil : WsL [] := fun _ h => by cases h
section
variable {s : Bs}
theorem iWs_at : ∀ (g : Bs) (i : Nat) (r : Bs), s.drop i = g ++ r → WsL g → StopW r → iWs s i = i + g.length
 | [], i, r, e, _, hr => by
  have hb : bat s i = hd r := bhd e
  rw [iWs]
  split
  · rw [if_neg (by rw [hb, hr.1]; exact Bool.false_ne_true), if_neg (by rw [hb]; exact fun q => hr.2 q.2.1)]; rfl
  rfl
 | c :: g, i, r, e, hg, hr => by
  obtain ⟨h1, h2, h3, h4⟩ := d1 e
  rw [iWs, if_pos h1, if_pos (by rw [h2]; exact hg c (by simp)), iWs_at g (i + 1) r h4 (fun c hc => hg c (by simp [hc])) hr]
  simp; omega
theorem iWs_0 {i : Nat} {r : Bs} (e : s.drop i = r) (hr : StopW r) : iWs s i = i := iWs_at [] i r e .nil hr
end
inductive StW (q : Nat) : Bs → Bs → Prop
 | nil : StW q [] []
 | raw {c : UInt8} {v t : Bs} (h : c.toNat ≠ q ∧ c.toNat ≠ 92 ∧ isNl c.toNat = false) (k : StW q v t) : StW q (c :: v) (c :: t)
 | esc {a b v t : Bs} (h : Es a b) (k : StW q v t) : StW q (a ++ v) (b ++ t)
section
variable {s : Bs}
theorem strGo_at {q : UInt8} (hq : q.toNat ≠ 92) {v t : Bs} (h : StW q.toNat v t) : ∀ (i : Nat) (r acc : Bs), s.drop i = t ++ (q :: r) → strGo s q.toNat i acc = some (acc ++ v, i + t.length + 1) := by
 induction h with
 | nil =>
  intro i r acc e
  obtain ⟨h1, h2, h3, h4⟩ := d1 e
  rw [strGo, if_pos h1, if_neg (by rw [h2]; exact hq), if_pos h2]; simp
 | raw hc k ih =>
  intro i r acc e
  obtain ⟨h1, h2, h3, h4⟩ := d1 e
  rw [strGo, if_pos h1, if_neg (by rw [h2]; exact hc.2.1), if_neg (by rw [h2]; exact hc.1), if_neg (by rw [h2, hc.2.2]; exact Bool.false_ne_true), h3, ih (i + 1) r _ h4]
  simp; omega
 | @esc a b v t he k ih =>
  intro i r acc e
  obtain ⟨_, c, u, hb, hnl⟩ := he.shape
  rw [List.append_assoc] at e
  have e' := e
  rw [hb] at e'
  obtain ⟨h1, h2, h3, h4⟩ := d1 e'
  obtain ⟨w1, w2, w3, w4⟩ := d1 h4
  have hE := iEsc_at he e
  simp only [isNl, Bool.or_eq_false_iff, decide_eq_false_iff_not] at hnl
  rw [strGo, if_pos h1, if_pos (by rw [h2]; rfl), if_neg (by rw [w2]; exact fun q => hnl.1.1 q.2), if_neg (by rw [w2]; exact fun q => q.2.elim hnl.1.2 hnl.2)]
  split
  · rename_i hv; rw [hE] at hv; cases hv
  rename_i v' j hv
  rw [hE] at hv
  cases hv
  rw [ih _ r _ (dA e)]
  simp; omega
theorem iStr_at {q : UInt8} (hq : q.toNat ≠ 92) {v t : Bs} (h : StW q.toNat v t) {i : Nat} {r : Bs} (e : s.drop i = q :: (t ++ (q :: r))) : iStr s i = some (v, i + (t.length + 2)) := by
 obtain ⟨h1, h2, h3, h4⟩ := d1 e
 have h5 := lhd (dA h4) (by simp)
 unfold iStr
 rw [if_neg (by omega), h2, strGo_at hq h (i + 1) r [] h4]
 simp; omega
end
def ValW (v t : Bs) : Prop := IdW v t ∨ ∃ (q : UInt8) (u : Bs), (q = 39 ∨ q = 34) ∧ StW q.toNat v u ∧ t = q :: (u ++ [q])
theorem id_noq {t : Bs} (h : hd t = 45 ∨ nmStart (hd t) = true ∨ hd t = 92) : ¬ (hd t = 39 ∨ hd t = 34) ∧ hd t ≠ 42 ∧ isSim (hd t) = false ∧ isWs (hd t) = false ∧ hd t ≠ 47 ∧ isComb (hd t) = false ∧ hd t ≠ 44 ∧ hd t ≠ 41 ∧ hd t ≠ 58 := by
 simp only [nmStart, Bool.or_eq_true, Bool.and_eq_true, decide_eq_true_eq] at h
 simp [isSim, isWs, isComb]
 omega
section
variable {s : Bs}
theorem val_at {v t : Bs} (h : ValW v t) {i : Nat} {r : Bs} (e : s.drop i = t ++ r) (hs : StopN r) : (if bat s i = 39 ∨ bat s i = 34 then iStr s i else iIdent s i) = some (v, i + t.length) := by
 rcases h with h | ⟨q, u, hq, hu, rfl⟩
 · have h1 := h.head
   rw [bhd e, hd_app h1.1, if_neg (id_noq h1.2.2).1]
   exact iIdent_at h e hs
 have e' : s.drop i = q :: (u ++ (q :: r)) := by rw [e]; simp
 have hb := (d1 e').2.1
 rw [hb, if_pos (by rcases hq with rfl | rfl <;> decide), iStr_at (by rcases hq with rfl | rfl <;> decide) hu e']
 simp
theorem ValW.ne {v t : Bs} (h : ValW v t) : t ≠ [] ∧ isWs (hd t) = false ∧ hd t ≠ 47 := by
 rcases h with h | ⟨q, u, hq, hu, rfl⟩
 · have h1 := h.head
   have h2 := id_noq h1.2.2
   exact ⟨h1.1, h2.2.2.2.1, h2.2.2.2.2.1⟩
 refine ⟨by simp, ?_, ?_⟩
 · show isWs q.toNat = false
   rcases hq with rfl | rfl <;> decide
 show q.toNat ≠ 47
 rcases hq with rfl | rfl <;> decide
end
end Way
end
end Go.Proofs.YtengepcafdnalaaGreatDoor
