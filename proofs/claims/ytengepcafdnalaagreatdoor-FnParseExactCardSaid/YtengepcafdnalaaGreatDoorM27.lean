/-
  Parts of the proof that the law FnParseExact holds for every input (texts Kh). Conditions: none.
-/
import Derived.Test.YtengepcafdnalaaGreatDoorM26
namespace Go.Proofs.YtengepcafdnalaaGreatDoor
section
open Go Go.RowKit
set_option maxRecDepth 20000
theorem krow {K : Out → Option SB → Prop} {s : Bs} {ps : Bool} {r : List SelD × RS} {v : List SelD} {p : Nat} {b u : Bool}
 (hk : K (.row (.sels r.1)) (some (.blk 46 [.str s, .nat r.2.p, .bool r.2.bad, .bool r.2.un, .bool ps]))) (e : r = (v, ⟨p, b, u⟩)) :
 K (.row (.sels v)) (some (.blk 46 [.str s, .nat p, .bool b, .bool u, .bool ps])) := by rw [e] at hk; exact hk
theorem sVal_le (s : Bs) (t : RS) (h : t.p ≤ s.length + 1) : (sValue s t).2.p ≤ s.length + 1 := by
 refine sValue_le s t ?_
 by_cases hl : t.p < s.length
 · exact .inl hl
 exact .inr ⟨h, by rw [bat_out (by omega)]; rfl⟩
theorem sRest_n (s : Bs) (t : RS) (acc : Bs) : (sRest s t acc).1.length + 4 * t.p ≤ acc.length + 4 * (sRest s t acc).2.p := by
 fun_induction sRest s t acc with
 | case1 t acc h1 h2 ih => simp only [RS.go_p, List.length_append, List.length_singleton] at ih; omega
 | case2 t acc h1 h2 h3 ih =>
  simp only [List.length_append] at ih
  have := sEsc_n4 s t
  have := sEsc_p s t
  omega
 | case3 => exact Nat.le_refl _
 | case4 => exact Nat.le_refl _
theorem sName_n (s : Bs) (t : RS) (h : t.p ≤ s.length + 1) : (sName s t).1.length ≤ 4 * (s.length + 1) := by
 have hl := sName_le s t h
 unfold sName at hl ⊢
 split
 · rename_i q
   rw [if_pos q] at hl
   have := sRest_n s (t.unI (nmUn s t.p)) []
   simp only [List.length_nil, RS.unI_p] at this
   omega
 simp
theorem h93t {s : Bs} {p : Nat} (h : hereB s [93] p = true) : bat s p = 93 := by
 rw [here1 s p 93 (by decide)] at h; exact of_decide_eq_true h
theorem h93f {s : Bs} {p : Nat} (h : hereB s [93] p = false) : ¬ bat s p = 93 := by
 rw [here1 s p 93 (by decide)] at h; exact of_decide_eq_false h
theorem h40t {s : Bs} {p : Nat} (h : hereB s [40] p = true) : bat s p = 40 := by
 rw [here1 s p 40 (by decide)] at h; exact of_decide_eq_true h
theorem h40f {s : Bs} {p : Nat} (h : hereB s [40] p = false) : ¬ bat s p = 40 := by
 rw [here1 s p 40 (by decide)] at h; exact of_decide_eq_false h
theorem h41t {s : Bs} {p : Nat} (h : hereB s [41] p = true) : bat s p = 41 := by
 rw [here1 s p 41 (by decide)] at h; exact of_decide_eq_true h
theorem h41f {s : Bs} {p : Nat} (h : hereB s [41] p = false) : ¬ bat s p = 41 := by
 rw [here1 s p 41 (by decide)] at h; exact of_decide_eq_false h
theorem h44t {s : Bs} {p : Nat} (h : hereB s [44] p = true) : bat s p = 44 := by
 rw [here1 s p 44 (by decide)] at h; exact of_decide_eq_true h
theorem h44f {s : Bs} {p : Nat} (h : hereB s [44] p = false) : ¬ bat s p = 44 := by
 rw [here1 s p 44 (by decide)] at h; exact of_decide_eq_false h
theorem h124t {s : Bs} {p : Nat} (h : hereB s [124] p = true) : bat s p = 124 := by
 rw [here1 s p 124 (by decide)] at h; exact of_decide_eq_true h
theorem h58t {s : Bs} {p : Nat} (h : hereB s [58] p = true) : bat s p = 58 := by
 rw [here1 s p 58 (by decide)] at h; exact of_decide_eq_true h
theorem h58f {s : Bs} {p : Nat} (h : hereB s [58] p = false) : ¬ bat s p = 58 := by
 rw [here1 s p 58 (by decide)] at h; exact of_decide_eq_false h
theorem h42t {s : Bs} {p : Nat} (h : hereB s [42] p = true) : bat s p = 42 := by
 rw [here1 s p 42 (by decide)] at h; exact of_decide_eq_true h
theorem h42f {s : Bs} {p : Nat} (h : hereB s [42] p = false) : ¬ bat s p = 42 := by
 rw [here1 s p 42 (by decide)] at h; exact of_decide_eq_false h
theorem sEnd_y {s : Bs} {c : Nat} {x : SelD} {k : List SelD} {t : RS} (h : bat s t.p = c) : sEnd s c x k t = (selMade x k, t.go (t.p + 1)) := by unfold sEnd; rw [if_pos h]
theorem sEnd_n {s : Bs} {c : Nat} {x : SelD} {k : List SelD} {t : RS} (h : ¬ bat s t.p = c) : sEnd s c x k t = (failL, t.no) := by unfold sEnd; rw [if_neg h]
def signs : List Bs := [[], [], [61], [33, 61], [126, 61], [124, 61], [94, 61], [36, 61], [42, 61]]
theorem sign_no {s : Bs} {p : Nat} {k : Nat} (hk : k ≤ 9) (h : ∀ j, 2 ≤ j → j < k → hereB s (signs.getD j []) p = false) :
 (2 < k → bat s p ≠ 61) ∧ (3 < k → ¬ (bat s p = 33 ∧ bat s (p + 1) = 61)) ∧ (4 < k → ¬ (bat s p = 126 ∧ bat s (p + 1) = 61)) ∧ (5 < k → ¬ (bat s p = 124 ∧ bat s (p + 1) = 61)) ∧
 (6 < k → ¬ (bat s p = 94 ∧ bat s (p + 1) = 61)) ∧ (7 < k → ¬ (bat s p = 36 ∧ bat s (p + 1) = 61)) ∧ (8 < k → ¬ (bat s p = 42 ∧ bat s (p + 1) = 61)) := by
 have two : ∀ a : UInt8, hereB s [a, 61] p = false → ¬ (bat s p = a.toNat ∧ bat s (p + 1) = 61) := by
  intro a h
  rw [here2 s p a 61 (by decide)] at h
  exact of_decide_eq_false h
 refine ⟨fun q => ?_, fun q => two 33 (h 3 (by omega) q), fun q => two 126 (h 4 (by omega) q), fun q => two 124 (h 5 (by omega) q), fun q => two 94 (h 6 (by omega) q), fun q => two 36 (h 7 (by omega) q), fun q => two 42 (h 8 (by omega) q)⟩
 have := h 2 (by omega) q
 rw [show signs.getD 2 [] = [61] from rfl, here1 s p 61 (by decide)] at this
 exact of_decide_eq_false this
theorem sign_none {s : Bs} {p : Nat} (h : ∀ j, 2 ≤ j → j < 9 → hereB s (signs.getD j []) p = false) : sSign s p = (1, 0) := by
 obtain ⟨h2, h3, h4, h5, h6, h7, h8⟩ := sign_no (Nat.le_refl 9) h
 unfold sSign
 rw [if_neg (h2 (by omega))]
 split
 · rename_i e
   rw [if_neg (fun q => h3 (by omega) ⟨q, e⟩), if_neg (fun q => h4 (by omega) ⟨q, e⟩), if_neg (fun q => h5 (by omega) ⟨q, e⟩), if_neg (fun q => h6 (by omega) ⟨q, e⟩), if_neg (fun q => h7 (by omega) ⟨q, e⟩), if_neg (fun q => h8 (by omega) ⟨q, e⟩)]
 rfl
theorem sign_some {s : Bs} {p : Nat} {k : Nat} (h1 : 2 ≤ k) (h2 : k < 9) (h : ∀ j, 2 ≤ j → j < k → hereB s (signs.getD j []) p = false) (hh : hereB s (signs.getD k []) p = true) :
 sSign s p = (((k : Nat) : Int), (signs.getD k []).length) ∧ p + (signs.getD k []).length ≤ s.length := by
 have hl : p + (signs.getD k []).length ≤ s.length := by
  unfold hereB at hh
  simp only [Bool.and_eq_true, decide_eq_true_eq] at hh
  exact hh.1
 refine ⟨?_, hl⟩
 obtain ⟨n2, n3, n4, n5, n6, n7, n8⟩ := sign_no (Nat.le_of_lt h2) h
 have two : ∀ a : UInt8, hereB s [a, 61] p = true → bat s p = a.toNat ∧ bat s (p + 1) = 61 := by
  intro a h
  rw [here2 s p a 61 (by decide)] at h
  exact of_decide_eq_true h
 unfold sSign
 obtain rfl | rfl | rfl | rfl | rfl | rfl | rfl : k = 2 ∨ k = 3 ∨ k = 4 ∨ k = 5 ∨ k = 6 ∨ k = 7 ∨ k = 8 := by omega
 · rw [show signs.getD 2 [] = [61] from rfl, here1 s p 61 (by decide)] at hh
   have e : bat s p = 61 := of_decide_eq_true hh
   rw [if_pos e]; rfl
 · obtain ⟨e1, e2⟩ := two 33 hh
   rw [if_neg (by rw [e1]; decide), if_pos e2, e1]; rfl
 · obtain ⟨e1, e2⟩ := two 126 hh
   rw [if_neg (by rw [e1]; decide), if_pos e2, e1]; rfl
 · obtain ⟨e1, e2⟩ := two 124 hh
   rw [if_neg (by rw [e1]; decide), if_pos e2, e1]; rfl
 · obtain ⟨e1, e2⟩ := two 94 hh
   rw [if_neg (by rw [e1]; decide), if_pos e2, e1]; rfl
 · obtain ⟨e1, e2⟩ := two 36 hh
   rw [if_neg (by rw [e1]; decide), if_pos e2, e1]; rfl
 obtain ⟨e1, e2⟩ := two 42 hh
 rw [if_neg (by rw [e1]; decide), if_pos e2, e1]; rfl
theorem signs_2k {k : Nat} (h : k < 9) : (signs.getD k []).length ≤ 1000 := by
 obtain rfl | rfl | rfl | rfl | rfl | rfl | rfl | rfl | rfl : k = 0 ∨ k = 1 ∨ k = 2 ∨ k = 3 ∨ k = 4 ∨ k = 5 ∨ k = 6 ∨ k = 7 ∨ k = 8 := by omega
 all_goals decide
theorem signs_2 {k : Nat} (h : k < 9) : (signs.getD k []).length ≤ 2 := by
 obtain rfl | rfl | rfl | rfl | rfl | rfl | rfl | rfl | rfl : k = 0 ∨ k = 1 ∨ k = 2 ∨ k = 3 ∨ k = 4 ∨ k = 5 ∨ k = 6 ∨ k = 7 ∨ k = 8 := by omega
 all_goals decide
def c110 (svs : List SV) (b : Option SB) : FR := match svs, b with
 | [.ptr 0 0], some (.blk 46 [.str s, .nat p, .bool bad, .bool un, .bool ps]) => some ([s.length ≤ 1000000, p ≤ s.length + 1], .row (.sels (sAttr s ⟨p, bad, un⟩).1),
  some (.blk 46 [.str s, .nat (sAttr s ⟨p, bad, un⟩).2.p, .bool (sAttr s ⟨p, bad, un⟩).2.bad, .bool (sAttr s ⟨p, bad, un⟩).2.un, .bool ps]))
 | _, _ => none
noncomputable def W110 : Wk := ⟨[(29, .fn c29), (43, .plain c43), (64, .fn c64), (66, .pure c66), (68, .fn c68), (77, .pure c77), (96, .fn c96), (123, .fn c123)], bodyOf Tryz.f110, true, true, [.tmp 2], [22], [(10, 57)], []⟩
theorem has110 : Has 110 := Has.of (fn := Tryz.f110) (by kernel_rfl) (by kernel_rfl) (by kernel_rfl)
theorem khz2 {c0 p0 p1 q : Prop} (k : q) (h : c0 → p0 ∧ p1 ∧ True := by intro g0; (try simp at g0); exact ⟨(by first | omega | (simp; done) | exact signs_2k ‹_›   | (have a1 := sSp_le s ⟨p, bad, un⟩ h02; have a2 := sName_le s _ a1; have a3 := sSp_le s _ a2; have a4 := sName_n s _ a1; first | exact a1 | exact a2 | exact a3 | omega)   | (have a1 := sSp_le s t k1; have a2 := sVal_le s _ a1; have a3 := sSp_le s _ a2; first | exact a1 | exact a2 | exact a3 | omega)   | (have a1 := sSp_le s t k1; have a2 := sVal_le s _ a1; have a3 := sSp_le s _ a2; have a0 := h3.2; have a4 : (sSp s (sValue s (sSp s t)).2).p < s.length := (by rcases a0 with a0 | a0 <;> exact bat_lt a0 (by decide)); first | omega | (have a5 := sSp_le s ⟨(sSp s (sValue s (sSp s t)).2).p + 1, (sSp s (sValue s (sSp s t)).2).bad, (sSp s (sValue s (sSp s t)).2).un⟩ (by show _ + 1 ≤ _; omega); first | exact a5 | omega))), (by first | omega | (simp; done) | exact signs_2k ‹_›   | (have a1 := sSp_le s ⟨p, bad, un⟩ h02; have a2 := sName_le s _ a1; have a3 := sSp_le s _ a2; have a4 := sName_n s _ a1; first | exact a1 | exact a2 | exact a3 | omega)   | (have a1 := sSp_le s t k1; have a2 := sVal_le s _ a1; have a3 := sSp_le s _ a2; first | exact a1 | exact a2 | exact a3 | omega)   | (have a1 := sSp_le s t k1; have a2 := sVal_le s _ a1; have a3 := sSp_le s _ a2; have a0 := h3.2; have a4 : (sSp s (sValue s (sSp s t)).2).p < s.length := (by rcases a0 with a0 | a0 <;> exact bat_lt a0 (by decide)); first | omega | (have a5 := sSp_le s ⟨(sSp s (sValue s (sSp s t)).2).p + 1, (sSp s (sValue s (sSp s t)).2).bad, (sSp s (sValue s (sSp s t)).2).un⟩ (by show _ + 1 ≤ _; omega); first | exact a5 | omega))), trivial⟩) : (c0 → p0 ∧ p1 ∧ True) ∧ q := ⟨h, k⟩
theorem khz1 {p q : Prop} (k : q) (h : p := by first | omega | (simp; done) | exact signs_2k ‹_›   | (have a1 := sSp_le s ⟨p, bad, un⟩ h02; have a2 := sName_le s _ a1; have a3 := sSp_le s _ a2; have a4 := sName_n s _ a1; first | exact a1 | exact a2 | exact a3 | omega)   | (have a1 := sSp_le s t k1; have a2 := sVal_le s _ a1; have a3 := sSp_le s _ a2; first | exact a1 | exact a2 | exact a3 | omega)   | (have a1 := sSp_le s t k1; have a2 := sVal_le s _ a1; have a3 := sSp_le s _ a2; have a0 := h3.2; have a4 : (sSp s (sValue s (sSp s t)).2).p < s.length := (by rcases a0 with a0 | a0 <;> exact bat_lt a0 (by decide)); first | omega | (have a5 := sSp_le s ⟨(sSp s (sValue s (sSp s t)).2).p + 1, (sSp s (sValue s (sSp s t)).2).bad, (sSp s (sValue s (sSp s t)).2).un⟩ (by show _ + 1 ≤ _; omega); first | exact a5 | omega))) : p ∧ q := ⟨h, k⟩
theorem khz0 {c0 p0 q : Prop} (k : q) (h : c0 → p0 ∧ True := by intro g0; (try simp at g0); exact ⟨(by first | omega | (simp; done) | exact signs_2k ‹_›   | (have a1 := sSp_le s ⟨p, bad, un⟩ h02; have a2 := sName_le s _ a1; have a3 := sSp_le s _ a2; have a4 := sName_n s _ a1; first | exact a1 | exact a2 | exact a3 | omega)   | (have a1 := sSp_le s t k1; have a2 := sVal_le s _ a1; have a3 := sSp_le s _ a2; first | exact a1 | exact a2 | exact a3 | omega)   | (have a1 := sSp_le s t k1; have a2 := sVal_le s _ a1; have a3 := sSp_le s _ a2; have a0 := h3.2; have a4 : (sSp s (sValue s (sSp s t)).2).p < s.length := (by rcases a0 with a0 | a0 <;> exact bat_lt a0 (by decide)); first | omega | (have a5 := sSp_le s ⟨(sSp s (sValue s (sSp s t)).2).p + 1, (sSp s (sValue s (sSp s t)).2).bad, (sSp s (sValue s (sSp s t)).2).un⟩ (by show _ + 1 ≤ _; omega); first | exact a5 | omega))), trivial⟩) : (c0 → p0 ∧ True) ∧ q := ⟨h, k⟩
theorem sat110 : Sat 110 (fnS c110) := by
 have hD : CxOk W110.D := (CxOk.cons has29 sat29 (CxOk.cons has43 sat43 (CxOk.cons has64 sat64 (CxOk.cons has66 sat66 (CxOk.cons has68 sat68 (CxOk.cons has77 sat77 (CxOk.cons has96 sat96 (CxOk.cons has123 sat123 CxOk.nil))))))))
 refine W110.sat hD (fn := Tryz.f110) (by kernel_rfl) (by kernel_rfl) (by kernel_rfl) (by decide) fun svs b K hP => ?_
 obtain ⟨ps, o, b', e, hp, hk⟩ := fnS_inv hP
 unfold c110 at e
 split at e
 · rename_i s p bad un ps
   cases e
   obtain ⟨h01, h02, _⟩ := hp
   have L10 : ∀ (mm : Nat) (i op : Nat) (key : Bs) (t t1 : RS), 9 - i = mm → t.p ≤ s.length + 1 ∧ 2 ≤ i ∧ i ≤ 9 ∧ sAttr s ⟨p, bad, un⟩ = sAttrV s key t1 ∧ t1.bad = false ∧ ((op = 1 ∧ t = t1 ∧ ∀ j, 2 ≤ j → j < i → hereB s (signs.getD j []) t.p = false) ∨ (op ≠ 1 ∧ (sSign s t1.p).1 = op ∧ t = t1.go (t1.p + (sSign s t1.p).2))) → W110.L K 10 (mkS 115 [(0, (.ptr 0 0)), (3, (.ptr 1 0)), (4, (.own 2)), (5, (.nat i))] [(0, .blk 46 [(.str s), (.nat t.p), (.bool t.bad), (.bool t.un), (.bool ps)]), (1, .blk 33 [(.nat 5), (.nat op), (.str key), (.str []), (.nat 0), (.nat 0), (.nat 0), (.nat 0)]), (2, .row (.strs [[], [], [61], [33, 61], [126, 61], [124, 61], [94, 61], [36, 61], [42, 61]]) true)] 3) := by
    intro mm
    induction mm using Nat.strongRecOn with
    | _ mm ih =>
     intro i op key t t1 hm hI
     obtain ⟨k1, k2, k3, k4, k5, k6⟩ := hI
     refine W110.atL hD (X := have a0 := sSp s ((sValue s (sSp s t)).2); have a1 := mkS 115 [(0, (.ptr 0 0)), (3, (.ptr 1 0)), (4, (.own 2)), (5, (.nat (i + 1)))] [(0, .blk 46 [(.str s), (.nat t.p), (.bool t.bad), (.bool t.un), (.bool ps)]), (1, .blk 33 [(.nat 5), (.nat op), (.str key), (.str []), (.nat 0), (.nat 0), (.nat 0), (.nat 0)]), (2, .row (.strs [[], [], [61], [33, 61], [126, 61], [124, 61], [94, 61], [36, 61], [42, 61]]) true)] 3; have a2 := sSp s (RS.mk (a0.p + 1) (a0.bad) (a0.un)); have a3 := ([[], [], [61], [33, 61], [126, 61], [124, 61], [94, 61], [36, 61], [42, 61]] : List (List UInt8)).getD i []; have a4 := s.length ≤ 1000000; have a5 : Out := .row (.sels (selMade (SelD.mk (5 : Int) ((op : Nat) : Int) key ((sValue s (sSp s t)).1) (0 : Int) (0 : Int) (0 : Int) (0 : Int)) ([] : List (List SelD)).flatten)); have a6 := ([] : List (List SelD)).flatten.length ≤ 1000000000000; have a7 := ([] : List (List SelD)).length ≤ 1000000000; have a8 := t.p ≤ s.length + 1; have a9 := decide (op = 1); have a10 := i + 1 ≤ 9223372036854775807; have a11 : Out := .row (.sels failL); cond (decide (i < 9)) ((a9 = true → (i < 9) ∧ True) ∧ (a9 = true → (i < 9) ∧ True) ∧ (a9 = true → a4 ∧ a8 ∧ (a3.length ≤ 1000) ∧ cond (hereB s a3 t.p) (a10 ∧ (W110).L K 10 (mkS 115 [(0, (.ptr 0 0)), (3, (.ptr 1 0)), (4, (.own 2)), (5, (.nat (i + 1)))] [(0, .blk 46 [(.str s), (.nat (t.p + a3.length)), (.bool t.bad), (.bool t.un), (.bool ps)]), (1, .blk 33 [(.nat 5), (.nat i), (.str key), (.str []), (.nat 0), (.nat 0), (.nat 0), (.nat 0)]), (2, .row (.strs [[], [], [61], [33, 61], [126, 61], [124, 61], [94, 61], [36, 61], [42, 61]]) true)] 3)) (a10 ∧ (W110).L K 10 a1)) ∧ (a9 = false → a10 ∧ (W110).L K 10 a1)) (cond a9 ((t.un = false → a4 ∧ a8 ∧ True) ∧ ((t.un || (decide (bat s t.p = 124))) = false → a4 ∧ a8 ∧ True) ∧ K a11 (some (.blk 46 [(.str s), (.nat t.p), (.bool true), (.bool ((t.un || (decide (bat s t.p = 124))) || (decide (bat s t.p = 35)))), (.bool ps)]))) (a4 ∧ a8 ∧ a4 ∧ ((sSp s t).p ≤ s.length + 1) ∧ a4 ∧ ((sValue s (sSp s t)).2.p ≤ s.length + 1) ∧ a4 ∧ (a0.p ≤ s.length + 1) ∧ cond ((!a0.bad) && ((decide (bat s (a0.p) = 105)) || (decide (bat s (a0.p) = 73)))) ((a0.p + 1 ≤ 9223372036854775807) ∧ a4 ∧ (a0.p + 1 ≤ s.length + 1) ∧ a4 ∧ (a2.p ≤ s.length + 1) ∧ (1 ≤ 1000) ∧ cond (hereB s [93] (a2.p)) (a7 ∧ a6 ∧ K (.row (.sels (selMade (SelD.mk (5 : Int) ((op : Nat) : Int) key ((sValue s (sSp s t)).1) (0 : Int) (0 : Int) (1 : Int) (0 : Int)) ([] : List (List SelD)).flatten))) (some (.blk 46 [(.str s), (.nat (a2.p + 1)), (.bool (a2.bad)), (.bool (a2.un)), (.bool ps)]))) (K a11 (some (.blk 46 [(.str s), (.nat (a2.p)), (.bool true), (.bool (a2.un)), (.bool ps)])))) (cond ((decide (bat s (a0.p) = 115)) || (decide (bat s (a0.p) = 83))) (a4 ∧ (a0.p ≤ s.length + 1) ∧ (1 ≤ 1000) ∧ cond (hereB s [93] (a0.p)) (a7 ∧ a6 ∧ K a5 (some (.blk 46 [(.str s), (.nat (a0.p + 1)), (.bool (a0.bad)), (.bool true), (.bool ps)]))) (K a11 (some (.blk 46 [(.str s), (.nat (a0.p)), (.bool true), (.bool true), (.bool ps)])))) (a4 ∧ (a0.p ≤ s.length + 1) ∧ (1 ≤ 1000) ∧ cond (hereB s [93] (a0.p)) (a7 ∧ a6 ∧ K a5 (some (.blk 46 [(.str s), (.nat (a0.p + 1)), (.bool (a0.bad)), (.bool (a0.un)), (.bool ps)]))) (K a11 (some (.blk 46 [(.str s), (.nat (a0.p)), (.bool true), (.bool (a0.un)), (.bool ps)])))))))) (by kernel_rfl) ?_
     refine cndI ?_ ?_ <;> intro h1 <;> simp -failIfUnchanged [-List.getD_eq_getElem?_getD] at h1
     · refine khz0 ?_
       refine khz0 ?_
       refine ⟨fun h2 => ?_, fun h2 => ?_⟩
       · simp -failIfUnchanged [-List.getD_eq_getElem?_getD] at h2
         refine khz1 (khz1 (khz1 ?_))
         refine cndI ?_ ?_ <;> intro h3 <;> simp -failIfUnchanged [-List.getD_eq_getElem?_getD] at h3
         · refine khz1 ?_
           rcases k6 with ⟨q1, q2, q3⟩ | ⟨q1, _⟩
           · subst q2
             have q4 := sign_some k2 h1 q3 h3
             have q5 := signs_2 h1
             exact ih _ (by omega) (i + 1) i key (t.go (t.p + (signs.getD i []).length)) t rfl ⟨by simp only [RS.go_p]; omega, by omega, by omega, k4, k5, .inr ⟨by omega, by rw [q4.1], by rw [q4.1]⟩⟩
           exact absurd h2 q1
         refine khz1 ?_
         rcases k6 with ⟨q1, q2, q3⟩ | ⟨q1, _⟩
         · exact ih _ (by omega) (i + 1) op key t t1 rfl ⟨by omega, by omega, by omega, k4, k5, .inl ⟨q1, q2, fun j j1 j2 => by
            by_cases e : j = i
            · rw [e]; exact h3
            exact q3 j j1 (by omega)⟩⟩
         exact absurd h2 q1
       simp -failIfUnchanged [-List.getD_eq_getElem?_getD] at h2
       refine khz1 ?_
       rcases k6 with ⟨q1, _⟩ | q
       · exact absurd q1 h2
       exact ih _ (by omega) (i + 1) op key t t1 rfl ⟨by omega, by omega, by omega, k4, k5, .inr q⟩
     refine cndI (fun h2 => ?_) (fun h2 => ?_)
     · simp -failIfUnchanged [-List.getD_eq_getElem?_getD] at h2
       refine khz2 ?_
       refine khz2 ?_
       rcases k6 with ⟨q1, q2, q3⟩ | ⟨q1, _⟩
       · subst q2
         refine krow hk ?_
         rw [k4]
         unfold sAttrV
         rw [if_pos (by rw [sign_none (fun j j1 j2 => q3 j j1 (by omega))])]
         simp [RS.unI, RS.no, Bool.or_assoc]
       exact absurd h2 q1
     simp -failIfUnchanged [-List.getD_eq_getElem?_getD] at h2
     refine khz1 (khz1 ?_)
     refine khz1 (khz1 ?_)
     refine khz1 (khz1 ?_)
     refine khz1 (khz1 ?_)
     refine cndI ?_ ?_ <;> intro h3 <;> simp -failIfUnchanged [-List.getD_eq_getElem?_getD] at h3
     · refine khz1 ?_
       refine khz1 (khz1 ?_)
       refine khz1 (khz1 (khz1 ?_))
       refine cndI ?_ ?_ <;> intro h4 <;> simp -failIfUnchanged [-List.getD_eq_getElem?_getD] at h4
       · refine khz1 (khz1 ?_)
         rcases k6 with ⟨q1, _⟩ | ⟨q1, q2, q3⟩
         · exact absurd q1 h2
         refine krow hk ?_
         rw [k4]
         unfold sAttrV
         rw [if_neg (by rw [q2]; omega), ← q3, q2]
         unfold sAttrE
         rw [if_pos h3, sEnd_y (show bat s (sSp s ((sSp s (sValue s (sSp s t)).2).go ((sSp s (sValue s (sSp s t)).2).p + 1))).p = 93 from h93t h4)]
         rfl
       rcases k6 with ⟨q1, _⟩ | ⟨q1, q2, q3⟩
       · exact absurd q1 h2
       refine krow hk ?_
       rw [k4]
       unfold sAttrV
       rw [if_neg (by rw [q2]; omega), ← q3, q2]
       unfold sAttrE
       rw [if_pos h3, sEnd_n (show ¬ bat s (sSp s ((sSp s (sValue s (sSp s t)).2).go ((sSp s (sValue s (sSp s t)).2).p + 1))).p = 93 from h93f h4)]
       rfl
     refine cndI (fun h4 => ?_) (fun h4 => ?_)
     · simp -failIfUnchanged [-List.getD_eq_getElem?_getD] at h4
       refine khz1 (khz1 (khz1 ?_))
       refine cndI ?_ ?_ <;> intro h5 <;> simp -failIfUnchanged [-List.getD_eq_getElem?_getD] at h5
       · refine khz1 (khz1 ?_)
         rcases k6 with ⟨q1, _⟩ | ⟨q1, q2, q3⟩
         · exact absurd q1 h2
         refine krow hk ?_
         rw [k4]
         unfold sAttrV
         rw [if_neg (by rw [q2]; omega), ← q3, q2]
         unfold sAttrE
         rw [if_neg (by simp only [not_and, not_or]; exact fun a => by simpa using h3 a), sEnd_y (show bat s (RS.unI (sSp s (sValue s (sSp s t)).2) _).p = 93 from h93t h5), show (decide (bat s (sSp s (sValue s (sSp s t)).2).p = 115) || decide (bat s (sSp s (sValue s (sSp s t)).2).p = 83)) = true from by simpa using h4]
         simp [RS.unI, RS.go]
       rcases k6 with ⟨q1, _⟩ | ⟨q1, q2, q3⟩
       · exact absurd q1 h2
       refine krow hk ?_
       rw [k4]
       unfold sAttrV
       rw [if_neg (by rw [q2]; omega), ← q3, q2]
       unfold sAttrE
       rw [if_neg (by simp only [not_and, not_or]; exact fun a => by simpa using h3 a), sEnd_n (show ¬ bat s (RS.unI (sSp s (sValue s (sSp s t)).2) _).p = 93 from h93f h5), show (decide (bat s (sSp s (sValue s (sSp s t)).2).p = 115) || decide (bat s (sSp s (sValue s (sSp s t)).2).p = 83)) = true from by simpa using h4]
       simp [RS.unI, RS.no]
     simp -failIfUnchanged [-List.getD_eq_getElem?_getD] at h4
     refine khz1 (khz1 (khz1 ?_))
     refine cndI ?_ ?_ <;> intro h5 <;> simp -failIfUnchanged [-List.getD_eq_getElem?_getD] at h5
     · refine khz1 (khz1 ?_)
       rcases k6 with ⟨q1, _⟩ | ⟨q1, q2, q3⟩
       · exact absurd q1 h2
       refine krow hk ?_
       rw [k4]
       unfold sAttrV
       rw [if_neg (by rw [q2]; omega), ← q3, q2]
       unfold sAttrE
       rw [if_neg (by simp only [not_and, not_or]; exact fun a => by simpa using h3 a), sEnd_y (show bat s (RS.unI (sSp s (sValue s (sSp s t)).2) _).p = 93 from h93t h5), show (decide (bat s (sSp s (sValue s (sSp s t)).2).p = 115) || decide (bat s (sSp s (sValue s (sSp s t)).2).p = 83)) = false from by simpa using h4]
       simp [RS.unI, RS.go]
     rcases k6 with ⟨q1, _⟩ | ⟨q1, q2, q3⟩
     · exact absurd q1 h2
     refine krow hk ?_
     rw [k4]
     unfold sAttrV
     rw [if_neg (by rw [q2]; omega), ← q3, q2]
     unfold sAttrE
     rw [if_neg (by simp only [not_and, not_or]; exact fun a => by simpa using h3 a), sEnd_n (show ¬ bat s (RS.unI (sSp s (sValue s (sSp s t)).2) _).p = 93 from h93f h5), show (decide (bat s (sSp s (sValue s (sSp s t)).2).p = 115) || decide (bat s (sSp s (sValue s (sSp s t)).2).p = 83)) = false from by simpa using h4]
     simp [RS.unI, RS.no]
   refine W110.entry rfl (X := have a0 := sName s (sSp s (RS.mk p bad un)); have a1 := sSp s (a0.2); have a2 := s.length ≤ 1000000; a2 ∧ (p ≤ s.length + 1) ∧ a2 ∧ ((sSp s (RS.mk p bad un)).p ≤ s.length + 1) ∧ ((a0.1).length ≤ 1000000000) ∧ a2 ∧ (a0.2.p ≤ s.length + 1) ∧ cond a1.bad (K (.row (.sels failL)) (some (.blk 46 [(.str s), (.nat (a1.p)), (.bool true), (.bool (a1.un)), (.bool ps)]))) (a2 ∧ (a1.p ≤ s.length + 1) ∧ (1 ≤ 1000) ∧ cond (hereB s [93] (a1.p)) ((([] : List (List SelD)).length ≤ 1000000000) ∧ (([] : List (List SelD)).flatten.length ≤ 1000000000000) ∧ K (.row (.sels (selMade (SelD.mk (5 : Int) (1 : Int) (low (a0.1)) [] (0 : Int) (0 : Int) (0 : Int) (0 : Int)) ([] : List (List SelD)).flatten))) (some (.blk 46 [(.str s), (.nat (a1.p + 1)), (.bool (a1.bad)), (.bool (a1.un)), (.bool ps)]))) ((W110).L K 10 (mkS 115 [(0, (.ptr 0 0)), (3, (.ptr 1 0)), (4, (.own 2)), (5, (.nat 2))] [(2, .row (.strs [[], [], [61], [33, 61], [126, 61], [124, 61], [94, 61], [36, 61], [42, 61]]) true), (1, .blk 33 [(.nat 5), (.nat 1), (.str (low (a0.1))), (.str []), (.nat 0), (.nat 0), (.nat 0), (.nat 0)]), (0, .blk 46 [(.str s), (.nat (a1.p)), (.bool (a1.bad)), (.bool (a1.un)), (.bool ps)])] 3)))) (by kernel_rfl) ?_
   refine khz1 (khz1 ?_)
   refine khz1 (khz1 ?_)
   refine khz1 ?_
   refine khz1 (khz1 ?_)
   refine cndI ?_ ?_ <;> intro h1 <;> simp -failIfUnchanged [-List.getD_eq_getElem?_getD] at h1
   · refine krow hk ?_
     unfold sAttr
     simp only
     rw [if_pos h1]
     rfl
   refine khz1 (khz1 (khz1 ?_))
   refine cndI ?_ ?_ <;> intro h2 <;> simp -failIfUnchanged [-List.getD_eq_getElem?_getD] at h2
   · refine khz1 (khz1 ?_)
     refine krow hk ?_
     unfold sAttr
     simp only
     rw [if_neg (by rw [h1]; simp), if_pos (h93t h2)]
     rfl
   exact Wk.L.ren [0, 1, 2] (by kernel_rfl) (by kernel_rfl) (by kernel_rfl) (L10 _ 2 1 (low (sName s (sSp s ⟨p, bad, un⟩)).1) (sSp s (sName s (sSp s ⟨p, bad, un⟩)).2) (sSp s (sName s (sSp s ⟨p, bad, un⟩)).2) rfl ⟨sSp_le s _ (sName_le s _ (sSp_le s _ h02)), by omega, by omega, by
    unfold sAttr
    simp only
    rw [if_neg (by rw [h1]; simp), if_neg (h93f h2)], h1, .inl ⟨rfl, rfl, fun j j1 j2 => by omega⟩⟩)
 cases e
end
end Go.Proofs.YtengepcafdnalaaGreatDoor
