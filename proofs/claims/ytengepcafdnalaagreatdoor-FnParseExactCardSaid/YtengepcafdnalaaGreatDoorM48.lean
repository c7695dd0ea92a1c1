/-
  Parts of the proof that the law FnParseExact holds for every input (texts Lm). Conditions: none.
-/
import Derived.Test.YtengepcafdnalaaGreatDoorM47
namespace Go.Proofs.YtengepcafdnalaaGreatDoor
section
open Go Go.RowKit
set_option maxRecDepth 20000
theorem sat2726 : ∀ m, Sat 27 (c27 m) ∧ Sat 26 (c26 m)
 | 0 => by
  have h : Sat 27 (c27 0) := by
   intro g0 w M ω svs args b K hS hn hr hP
   unfold c27 at hP
   split at hP
   · rename_i x l
     have := dataOf_pos x
     omega
   exact hP.elim
  exact ⟨h, sat26 0 h⟩
 | m + 1 => by
  obtain ⟨h1, h2⟩ := sat2726 m
  have h : Sat 27 (c27 (m + 1)) := sat27s m h2 h1
  exact ⟨h, sat26 (m + 1) h⟩
theorem parse_T {s : Bs} {p : Bool} {v : List CSel} (h : iParse s true p = some v) : (dataAll v).length ≤ 2 * s.length + 2 := by
 have := parse_len h
 simp only [parseData, if_true, sizedD, List.length_cons] at this
 omega
theorem parse_F {s : Bs} {p : Bool} {v : List CSel} (h : iParse s false p = some v) : (dataOf (v.headD default)).length ≤ 2 * s.length + 2 := by
 have := parse_len h
 exact this
def c11 (svs : List SV) (b : Option SB) (K : Out → Option SB → Prop) : Prop := match svs, b with
 | [.str s, .bool m, .bool p], none => s.length ≤ 1000000 ∧ optK (iParse s m p) (fun v => K (.val (.tup [.sl (.sels (parseData m v)), .bool true])) none) (K (.val (.tup [.sl (.sels []), .bool false])) none)
 | _, _ => False
noncomputable def W11 : Wk := ⟨[(25, .plain c25), (26, .own 22 (c26 10000000)), (27, .own 22 (c27 10000000))], bodyOf Tryz.f11, false, false, [.tmp 6, .tmp 7], [22, 4], [], []⟩
theorem has11 : Has 11 := Has.of (fn := Tryz.f11) (by kernel_rfl) (by kernel_rfl) (by kernel_rfl)
theorem lmz0 {p q : Prop} (k : q) (h : p := by first | omega | (simp; done) | (have q := parse_T h2; omega) | (have q := parse_F h2; show (dataOf (v2.headD default)).length ≤ _; omega) | (have q := parse_F h2; show 0 + (dataOf (v2.headD default)).length ≤ _; omega) | exact absurd (h1.symm.trans h3) (by decide)) : p ∧ q := ⟨h, k⟩
theorem sat11 : Sat 11 c11 := by
 have hD : CxOk W11.D := (CxOk.cons has25 sat25 (CxOk.cons has26 (sat2726 10000000).2 (CxOk.cons has27 (sat2726 10000000).1 CxOk.nil)))
 refine W11.sat hD (fn := Tryz.f11) (by kernel_rfl) (by kernel_rfl) (by kernel_rfl) (Nat.le_of_ble_eq_true (by kernel_rfl)) fun svs b K hP => ?_
 unfold c11 at hP
 split at hP
 · rename_i s m p
   obtain ⟨h01, hk⟩ := hP
   refine W11.entry rfl (X := have a0 : Out := .val (.tup [(.sl (.sels [])), (.bool false)]); (s.length ≤ 1000000) ∧ cond m (optK (iParse s true p) (fun v1 => cond m ((0 + (dataAll v1).length + 1 ≤ 1000000000) ∧ ((dataAll v1).length ≤ 10000000) ∧ ∀ b3 : Option SB, K (.val (.tup [(.sl (.sels ([] ++ sizedD grpNode (dataAll v1)))), (.bool true)])) none) ((0 < v1.length) ∧ (0 + (dataOf (v1.getD 0 default)).length ≤ 1000000000) ∧ ((dataOf (v1.getD 0 default)).length ≤ 10000000) ∧ ∀ b4 : Option SB, K (.val (.tup [(.sl (.sels ([] ++ dataOf (v1.getD 0 default)))), (.bool true)])) none)) (K a0 none)) (optK (iParse s false p) (fun v2 => cond m ((0 + (dataAll [v2.headD default]).length + 1 ≤ 1000000000) ∧ ((dataAll [v2.headD default]).length ≤ 10000000) ∧ ∀ b5 : Option SB, K (.val (.tup [(.sl (.sels ([] ++ sizedD grpNode (dataAll [v2.headD default])))), (.bool true)])) none) ((0 < 1) ∧ (0 + (dataOf (([v2.headD default] : List CSel).getD 0 default)).length ≤ 1000000000) ∧ ((dataOf (([v2.headD default] : List CSel).getD 0 default)).length ≤ 10000000) ∧ ∀ b6 : Option SB, K (.val (.tup [(.sl (.sels ([] ++ dataOf (([v2.headD default] : List CSel).getD 0 default)))), (.bool true)])) none)) (K a0 none))) (by kernel_rfl) ?_
   refine lmz0 ?_
   refine cndI ?_ ?_ <;> intro h1 <;> simp -failIfUnchanged [-List.getD_eq_getElem?_getD, -UInt8.toNat_or] at h1
   · refine optI (fun v1 h2 => ?_) (fun h2 => ?_)
     ·
      refine cndI ?_ ?_ <;> intro h3 <;> simp -failIfUnchanged [-List.getD_eq_getElem?_getD, -UInt8.toNat_or] at h3
      · refine lmz0 (lmz0 ?_)
        intro b3
        subst h1
        have q := opt_some hk h2
        exact q
      refine lmz0 ?_
      refine lmz0 (lmz0 ?_)
      intro b4
      exact absurd (h1.symm.trans h3) (by decide)
     subst h1
     exact opt_none hk h2
   refine optI (fun v2 h2 => ?_) (fun h2 => ?_)
   ·
    refine cndI ?_ ?_ <;> intro h3 <;> simp -failIfUnchanged [-List.getD_eq_getElem?_getD, -UInt8.toNat_or] at h3
    · refine lmz0 (lmz0 ?_)
      intro b5
      exact absurd (h1.symm.trans h3) (by decide)
    refine lmz0 ?_
    refine lmz0 (lmz0 ?_)
    intro b6
    subst h1
    have q := opt_some hk h2
    exact q
   subst h1
   exact opt_none hk h2
 exact hP.elim
theorem group9_le (l : List SelD) : (group9 l).length ≤ l.length + 1 := by
 unfold group9
 split
 · omega
 simp [selMade, sizedD]
theorem law3 {s : Bs} {m p : Bool} {v : List CSel} (h2 : s.length ≤ 1000) (h3 : (sParsed s m p).2.2 = true) (h4 : iParse s m p = some v) :
 (sParsed s m p).2.1 = true ∧ (0 < (parseData m v).length ∧ (parseData m v).length ≤ 100000) ∧ (0 < (sParsed s m p).1.length ∧ (sParsed s m p).1.length ≤ 100000000) ∧
 NormOk (group9 (parseData m v)) ∧ NormOk (group9 (sParsed s m p).1) ∧ sameD (group9 (parseData m v)) (group9 (sParsed s m p).1) = true ∧
 (group9 (parseData m v)).length ≤ 1000000000 ∧ (group9 (sParsed s m p).1).length ≤ 1000000000 := by
 rcases Law.parse_sim s m p h2 h3 with ⟨l, h5, h6, h7⟩ | ⟨h5, _⟩
 · rw [h4] at h5
   cases h5
   obtain ⟨⟨k1, k2⟩, k3, k4, k5⟩ := same_of_alike h7
   have k6 := parse_len h4
   have k7 := sParsed_len (many := m) (p := p) h2
   have k8 := group9_le (parseData m v)
   have k9 := group9_le (sParsed s m p).1
   exact ⟨h6, ⟨k1, by omega⟩, ⟨k2, k7⟩, k3, k4, k5, by omega, by omega⟩
 rw [h4] at h5; cases h5
theorem law3n {s : Bs} {m p : Bool} (h2 : s.length ≤ 1000) (h3 : (sParsed s m p).2.2 = true) (h4 : iParse s m p = none) : (sParsed s m p).2.1 = false := by
 rcases Law.parse_sim s m p h2 h3 with ⟨l, h5, _⟩ | ⟨_, h6⟩
 · rw [h4] at h5; cases h5
 exact h6
def c3 (svs : List SV) (b : Option SB) (K : Out → Option SB → Prop) : Prop := match svs, b with
 | [.str s, .bool m, .bool p], none => s.length ≤ 9223372036854775807 ∧ K (.val (.bool true)) none
 | _, _ => False
noncomputable def W3 : Wk := ⟨[(10, .pure c10), (11, .plain c11), (12, .pure c12), (13, .pure c13)], bodyOf Tryz.f3, false, false, [.tmp 6], [4], [], []⟩
theorem has3 : Has 3 := Has.of (fn := Tryz.f3) (by kernel_rfl) (by kernel_rfl) (by kernel_rfl)
theorem lmz3 {c0 c1 c2 p0 p1 p2 q : Prop} (k : q) (h : c0 → c1 → c2 → p0 ∧ p1 ∧ p2 ∧ True := by intro g0 g1 g2; (try simp at g0); (try simp at g1); (try simp at g2); exact ⟨(by first | omega | (simp; done) | (simp; omega) | (simp; assumption) | (have q := law3 h2 h3 h4; omega) | exact (law3 h2 h3 h4).2.2.2.1 | exact (law3 h2 h3 h4).2.2.2.2.1), (by first | omega | (simp; done) | (simp; omega) | (simp; assumption) | (have q := law3 h2 h3 h4; omega) | exact (law3 h2 h3 h4).2.2.2.1 | exact (law3 h2 h3 h4).2.2.2.2.1), (by first | omega | (simp; done) | (simp; omega) | (simp; assumption) | (have q := law3 h2 h3 h4; omega) | exact (law3 h2 h3 h4).2.2.2.1 | exact (law3 h2 h3 h4).2.2.2.2.1), trivial⟩) : (c0 → c1 → c2 → p0 ∧ p1 ∧ p2 ∧ True) ∧ q := ⟨h, k⟩
theorem lmz2 {c0 c1 c2 p0 q : Prop} (k : q) (h : c0 → c1 → c2 → p0 ∧ True := by intro g0 g1 g2; (try simp at g0); (try simp at g1); (try simp at g2); exact ⟨(by first | omega | (simp; done) | (simp; omega) | (simp; assumption) | (have q := law3 h2 h3 h4; omega) | exact (law3 h2 h3 h4).2.2.2.1 | exact (law3 h2 h3 h4).2.2.2.2.1), trivial⟩) : (c0 → c1 → c2 → p0 ∧ True) ∧ q := ⟨h, k⟩
theorem lmz1 {p q : Prop} (k : q) (h : p := by first | omega | (simp; done) | (simp; omega) | (simp; assumption) | (have q := law3 h2 h3 h4; omega) | exact (law3 h2 h3 h4).2.2.2.1 | exact (law3 h2 h3 h4).2.2.2.2.1) : p ∧ q := ⟨h, k⟩
theorem sat3 : Sat 3 c3 := by
 have hD : CxOk W3.D := (CxOk.cons has10 sat10 (CxOk.cons has11 sat11 (CxOk.cons has12 sat12 (CxOk.cons has13 sat13 CxOk.nil))))
 refine W3.sat hD (fn := Tryz.f3) (by kernel_rfl) (by kernel_rfl) (by kernel_rfl) (Nat.le_of_ble_eq_true (by kernel_rfl)) fun svs b K hP => ?_
 unfold c3 at hP
 split at hP
 · rename_i s m p
   obtain ⟨h01, hk⟩ := hP
   refine W3.entry rfl (X := have a0 := sParsed s m p; have a1 := decide (false = a0.2.1); have a2 := decide (true = a0.2.1); have a3 := group9 (a0.1); cond (decide (2147483647 < s.length)) (K (.val (.bool true)) none) (cond (decide (1000 < s.length)) (K (.val (.bool true)) none) ((s.length ≤ 100000) ∧ cond (!a0.2.2) (K (.val (.bool true)) none) ((s.length ≤ 1000000) ∧ optK (iParse s m p) (fun v1 => (a2 = true → (!a0.2.1) = false → (decide (0 < (parseData m v1).length)) = true → (0 < (parseData m v1).length ∧ (parseData m v1).length ≤ 1000000000) ∧ True) ∧ (a2 = true → (!a0.2.1) = false → (decide (0 < (parseData m v1).length)) = true → (0 < (a0.1).length ∧ (a0.1).length ≤ 1000000000) ∧ True) ∧ (a2 = true → (!a0.2.1) = false → (decide (0 < (parseData m v1).length)) = true → ((group9 (parseData m v1)).length ≤ 1000000000 ∧ a3.length ≤ 1000000000) ∧ (NormOk (group9 (parseData m v1))) ∧ (NormOk a3) ∧ True) ∧ K (.val (.bool (a2 && ((!a0.2.1) || ((decide (0 < (parseData m v1).length)) && (sameD (group9 (parseData m v1)) a3)))))) none) ((a1 = true → (!a0.2.1) = false → false = true → (0 < 0 ∧ 0 ≤ 1000000000) ∧ True) ∧ (a1 = true → (!a0.2.1) = false → false = true → (0 < (a0.1).length ∧ (a0.1).length ≤ 1000000000) ∧ True) ∧ (a1 = true → (!a0.2.1) = false → false = true → ((group9 []).length ≤ 1000000000 ∧ a3.length ≤ 1000000000) ∧ (NormOk (group9 [])) ∧ (NormOk a3) ∧ True) ∧ K (.val (.bool (a1 && ((!a0.2.1) || false)))) none))))) (by kernel_rfl) ?_
   refine cndI ?_ ?_ <;> intro h1 <;> simp -failIfUnchanged [-List.getD_eq_getElem?_getD, -UInt8.toNat_or] at h1
   · exact hk
   refine cndI (fun h2 => ?_) (fun h2 => ?_)
   · simp -failIfUnchanged [-List.getD_eq_getElem?_getD, -UInt8.toNat_or] at h2
     exact hk
   simp -failIfUnchanged [-List.getD_eq_getElem?_getD, -UInt8.toNat_or] at h2
   refine lmz1 ?_
   refine cndI ?_ ?_ <;> intro h3 <;> simp -failIfUnchanged [-List.getD_eq_getElem?_getD, -UInt8.toNat_or] at h3
   · exact hk
   refine lmz1 ?_
   refine optI (fun v1 h4 => ?_) (fun h4 => ?_)
   ·
    refine lmz2 ?_
    refine lmz2 ?_
    refine lmz3 ?_
    obtain ⟨q1, q2, q3, q4, q5, q6, _⟩ := law3 h2 h3 h4
    refine (congrArg (fun q => K (.val (.bool q)) none) ?_).mpr hk
    rw [q1, q6, decide_eq_true q2.1]
    rfl
   refine ⟨fun g0 g1 g2 => (by cases g2), ?_⟩
   refine ⟨fun g0 g1 g2 => (by cases g2), ?_⟩
   refine ⟨fun g0 g1 g2 => (by cases g2), ?_⟩
   refine (congrArg (fun q => K (.val (.bool q)) none) ?_).mpr hk
   rw [law3n h2 h3 h4]
   rfl
 exact hP.elim
end
end Go.Proofs.YtengepcafdnalaaGreatDoor
