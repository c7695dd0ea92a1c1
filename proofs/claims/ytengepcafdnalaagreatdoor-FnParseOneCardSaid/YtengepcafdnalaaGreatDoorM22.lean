/-
  Parts of the proof that the law FnParseOne holds for every input (texts Ky). Conditions: none.
-/
import Derived.Test.YtengepcafdnalaaGreatDoorM21
namespace Go.Proofs.YtengepcafdnalaaGreatDoor
section
open Go Go.RowKit
set_option maxRecDepth 20000
theorem hex_take (l : Bs) (i : Nat) (h : i < l.length) : hexVal (l.take (i + 1)) = 16 * hexVal (l.take i) + hexOf (bat l i) := by
 rw [List.take_add_one, List.getElem?_eq_getElem h, Option.toList_some, hexVal_snoc]
 simp [bat, List.getD_eq_getElem?_getD, List.getElem?_eq_getElem h]
theorem hex_lt (l : Bs) (hd : ∀ i, i < l.length → hexDig (bat l i) = true) : ∀ i, i ≤ l.length → hexVal (l.take i) < 16 ^ i
 | 0, _ => by simp [hexVal]
 | i + 1, h => by
  have h1 := hex_lt l hd i (by omega)
  have h2 := hexOf_lt (hd i (by omega))
  rw [hex_take l i (by omega), Nat.pow_succ]
  omega
theorem or32 : ∀ n : Nat, n < 256 → (65 ≤ n ∧ n ≤ 70 → ((UInt8.ofNat n) ||| 32).toNat = n + 32) ∧ (97 ≤ n ∧ n ≤ 102 → ((UInt8.ofNat n) ||| 32).toNat = n) := by decide
theorem or32c (c : UInt8) : (65 ≤ c.toNat ∧ c.toNat ≤ 70 → (c ||| 32).toNat = c.toNat + 32) ∧ (97 ≤ c.toNat ∧ c.toNat ≤ 102 → (c ||| 32).toNat = c.toNat) := by
 have := or32 c.toNat (UInt8.toNat_lt c)
 simpa using this
theorem hex_small {c : UInt8} (h : digB c.toNat = true) : (c - 48).toNat = hexOf c.toNat := by
 simp only [digB, Bool.and_eq_true, decide_eq_true_eq] at h
 rw [UInt8.toNat_sub, hexOf, if_pos h.2]
 have h2 : (48 : UInt8).toNat = 48 := rfl
 omega
theorem hex_big {c : UInt8} (h : hexDig c.toNat = true) (hn : ¬ digB c.toNat = true) : 97 ≤ (c ||| 32).toNat ∧ (c ||| 32).toNat ≤ 122 ∧ ((c ||| 32) - 97 + 10).toNat = hexOf c.toNat := by
 simp only [hexDig, digB, Bool.or_eq_true, Bool.and_eq_true, decide_eq_true_eq] at h hn
 have ho := or32c c
 have h2 : (97 : UInt8).toNat = 97 := rfl
 have h3 : (10 : UInt8).toNat = 10 := rfl
 rw [UInt8.toNat_add, UInt8.toNat_sub, hexOf, if_neg (by omega)]
 by_cases h70 : c.toNat ≤ 70
 · rw [ho.1 (by omega), if_pos h70]; omega
 rw [ho.2 (by omega), if_neg h70]; omega
def c160 (svs : List SV) (b : Option SB) : QR := match svs, b with
 | [.str _], none => some ([False], .bool false)
 | _, _ => none
theorem has160 : Has 160 := Has.of (fn := Tryz.f160) (by kernel_rfl) (by kernel_rfl) (by kernel_rfl)
theorem sat160 : Sat 160 (pureS c160) := by
 intro g0 w M ω svs args b K _ _ _ hP
 exfalso
 obtain ⟨ps, v, e, hp, hk⟩ := pureS_inv hP
 unfold c160 at e
 split at e
 · cases e; exact hp.1
 cases e
theorem ku64 {K : Out → Option SB → Prop} {n m : Int} (hk : K (.val (.tup [.int .u64 n, .nilif])) none) (e : n = m) : K (.val (.tup [.int .u64 m, .nilif])) none := by rw [← e]; exact hk
def c159 (svs : List SV) (b : Option SB) : QR := match svs, b with
 | [.byt c], none => some ([], .byt (c ||| 32))
 | _, _ => none
noncomputable def W159 : Wk := ⟨[], bodyOf Tryz.f159, false, false, [.tmp 2], [5], [], []⟩
theorem has159 : Has 159 := Has.of (fn := Tryz.f159) (by kernel_rfl) (by kernel_rfl) (by kernel_rfl)
theorem sat159 : Sat 159 (pureS c159) := by
 have hD : CxOk W159.D := CxOk.nil
 refine W159.sat hD (fn := Tryz.f159) (by kernel_rfl) (by kernel_rfl) (by kernel_rfl) (Nat.le_of_ble_eq_true (by kernel_rfl)) fun svs b K hP => ?_
 obtain ⟨ps, v, e, hp, hk⟩ := pureS_inv hP
 unfold c159 at e
 split at e
 · rename_i c
   cases e
   skip
   refine W159.entry rfl (X := K (.val (.byt (c ||| 32))) none) (by kernel_rfl) ?_
   exact hk
 cases e
def c156 (svs : List SV) (b : Option SB) : QR := match svs, b with
 | [.str l, .nat 16, .nat 64], none => some ([0 < l.length ∧ l.length ≤ 6, ∀ i, i < l.length → hexDig (bat l i) = true], .tup [.int .u64 (hexVal l : Nat), .nilif])
 | _, _ => none
noncomputable def W156 : Wk := ⟨[(159, .pure c159), (160, .pure c160)], bodyOf Tryz.f156, false, false, [.tmp 6, .tmp 7], [182, 71], [(36, 4436777100798802905238461234946)], []⟩
theorem has156 : Has 156 := Has.of (fn := Tryz.f156) (by kernel_rfl) (by kernel_rfl) (by kernel_rfl)
theorem kyz0 {p q : Prop} (k : q) (h : p := by first | omega | (simp; done) | (simp; omega) | (exact absurd g0 (by decide)) | assumption) : p ∧ q := ⟨h, k⟩
theorem sat156 : Sat 156 (pureS c156) := by
 have hD : CxOk W156.D := (CxOk.cons has159 sat159 (CxOk.cons has160 sat160 CxOk.nil))
 refine W156.sat hD (fn := Tryz.f156) (by kernel_rfl) (by kernel_rfl) (by kernel_rfl) (Nat.le_of_ble_eq_true (by kernel_rfl)) fun svs b K hP => ?_
 obtain ⟨ps, v, e, hp, hk⟩ := pureS_inv hP
 unfold c156 at e
 split at e
 · rename_i l
   cases e
   obtain ⟨h01, h02, _⟩ := hp
   have hl := hex_lt l h02
   have L36 : ∀ (mm : Nat) (i : Nat) (mx n : Int), l.length - i = mm → (i ≤ l.length ∧ mx = 18446744073709551615 ∧ n = (hexVal (l.take i) : Nat)) → W156.L K 36 (mkS 172 [(1, (.nat 16)), (8, (.bool false)), (9, (.str l)), (10, (.int .u64 1152921504606846976)), (11, (.int .u64 mx)), (12, (.bool false)), (13, (.int .u64 n)), (99, (.own 1)), (100, (.nat l.length)), (101, (.nat i))] [(1, .row (.bytes l) false)] 2) := by
    intro mm
    induction mm using Nat.strongRecOn with
    | _ mm ih =>
     intro i mx n hm hI
     obtain ⟨k1, k2, k3⟩ := hI
     have p1 : i < l.length → hexVal (l.take (i + 1)) = 16 * hexVal (l.take i) + hexOf (bat l i) := hex_take l i
     have p2 : i < l.length → hexVal (l.take (i + 1)) < 16 ^ 6 := fun h => Nat.lt_of_lt_of_le (hl (i + 1) (by omega)) (Nat.pow_le_pow_right (by omega) (by omega))
     have p3 : hexVal (l.take i) < 16 ^ 6 := Nat.lt_of_lt_of_le (hl i k1) (Nat.pow_le_pow_right (by omega) (by omega))
     have p4 : i < l.length → hexOf (bat l i) < 16 := fun h => hexOf_lt (h02 i h)
     simp only [show (16 : Nat) ^ 6 = 16777216 from rfl] at p2 p3
     refine W156.atL hD (X := have a0 := (n * (16 : Int)) % 18446744073709551616; have a1 := (a0 + (((((l.getD i 0 ||| 32) - 97) + 10).toNat : Nat) : Int)) % 18446744073709551616; have a2 := (a0 + (((l.getD i 0 - 48).toNat : Nat) : Int)) % 18446744073709551616; have a3 : Out := .val (.tup [(.int .u64 mx), .ifx]); have a4 : Out := .val (.tup [(.int .u64 0), .ifx]); have a5 := i + 1 ≤ 9223372036854775807; have a6 : SV := .int .u64 1152921504606846976; cond (decide (i < l.length)) ((i < l.length) ∧ (i < l.length) ∧ cond ((decide (bat l i = 95)) && false) (a5 ∧ (W156).L K 36 (mkS 172 [(1, (.nat 16)), (8, (.bool false)), (9, (.str l)), (10, a6), (11, (.int .u64 mx)), (12, (.bool true)), (13, (.int .u64 n)), (99, (.own 1)), (100, (.nat l.length)), (101, (.nat (i + 1)))] [(1, .row (.bytes l) false)] 2)) (cond ((decide (48 ≤ bat l i)) && (decide (bat l i ≤ 57))) (cond (decide ((UInt8.ofNat 16).toNat ≤ (l.getD i 0 - 48).toNat)) (K a4 none) (cond (decide ((1152921504606846976 : Int) ≤ n)) (K a3 none) ((16 ≤ 9223372036854775807) ∧ cond ((decide (a2 < a0)) || (decide (mx < a2))) (K a3 none) (a5 ∧ (W156).L K 36 (mkS 172 [(1, (.nat 16)), (8, (.bool false)), (9, (.str l)), (10, a6), (11, (.int .u64 mx)), (12, (.bool false)), (13, (.int .u64 a2)), (99, (.own 1)), (100, (.nat l.length)), (101, (.nat (i + 1)))] [(1, .row (.bytes l) false)] 2))))) (cond ((decide (97 ≤ (l.getD i 0 ||| 32).toNat)) && (decide ((l.getD i 0 ||| 32).toNat ≤ 122))) (cond (decide ((UInt8.ofNat 16).toNat ≤ (((l.getD i 0 ||| 32) - 97) + 10).toNat)) (K a4 none) (cond (decide ((1152921504606846976 : Int) ≤ n)) (K a3 none) ((16 ≤ 9223372036854775807) ∧ cond ((decide (a1 < a0)) || (decide (mx < a1))) (K a3 none) (a5 ∧ (W156).L K 36 (mkS 172 [(1, (.nat 16)), (8, (.bool false)), (9, (.str l)), (10, a6), (11, (.int .u64 mx)), (12, (.bool false)), (13, (.int .u64 a1)), (99, (.own 1)), (100, (.nat l.length)), (101, (.nat (i + 1)))] [(1, .row (.bytes l) false)] 2))))) (K a4 none)))) ((false = true → (False) ∧ True) ∧ K (.val (.tup [(.int .u64 n), .nilif])) none)) (by kernel_rfl) ?_
     refine cndI ?_ ?_ <;> intro h1 <;> simp -failIfUnchanged [-List.getD_eq_getElem?_getD, -UInt8.toNat_or] at h1
     · refine kyz0 ?_
       refine kyz0 ?_
       refine cndI (fun h2 => ?_) (fun h2 => ?_)
       · simp -failIfUnchanged [-List.getD_eq_getElem?_getD, -UInt8.toNat_or] at h2
       simp -failIfUnchanged [-List.getD_eq_getElem?_getD, -UInt8.toNat_or] at h2
       refine cndI ?_ ?_ <;> intro h3 <;> simp -failIfUnchanged [-List.getD_eq_getElem?_getD, -UInt8.toNat_or] at h3
       · refine cndI (fun h4 => ?_) (fun h4 => ?_)
         · simp -failIfUnchanged [-List.getD_eq_getElem?_getD, -UInt8.toNat_or] at h4
           exfalso
           have q := p4 h1
           have q2 : (l.getD i 0 - 48).toNat = hexOf (bat l i) := hex_small (by unfold digB; simp only [Bool.and_eq_true, decide_eq_true_eq]; exact h3)
           omega
         simp -failIfUnchanged [-List.getD_eq_getElem?_getD, -UInt8.toNat_or] at h4
         refine cndI ?_ ?_ <;> intro h5 <;> simp -failIfUnchanged [-List.getD_eq_getElem?_getD, -UInt8.toNat_or] at h5
         · exfalso
           have q := p4 h1
           have q2 : (l.getD i 0 - 48).toNat = hexOf (bat l i) := hex_small (by unfold digB; simp only [Bool.and_eq_true, decide_eq_true_eq]; exact h3)
           omega
         refine kyz0 ?_
         refine cndI ?_ ?_ <;> intro h6 <;> simp -failIfUnchanged [-List.getD_eq_getElem?_getD, -UInt8.toNat_or] at h6
         · exfalso
           have q := p4 h1
           have q2 : (l.getD i 0 - 48).toNat = hexOf (bat l i) := hex_small (by unfold digB; simp only [Bool.and_eq_true, decide_eq_true_eq]; exact h3)
           omega
         refine kyz0 ?_
         have q2 : (l.getD i 0 - 48).toNat = hexOf (bat l i) := hex_small (by unfold digB; simp only [Bool.and_eq_true, decide_eq_true_eq]; exact h3)
         have q := p4 h1
         have q5 := p1 h1
         rw [q2]
         exact ih _ (by omega) (i + 1) mx _ rfl ⟨by omega, k2, by rw [q5, k3]; omega⟩
       refine cndI (fun h4 => ?_) (fun h4 => ?_)
       · simp -failIfUnchanged [-List.getD_eq_getElem?_getD, -UInt8.toNat_or] at h4
         refine cndI ?_ ?_ <;> intro h5 <;> simp -failIfUnchanged [-List.getD_eq_getElem?_getD, -UInt8.toNat_or] at h5
         · exfalso
           have q := p4 h1
           have q3 := hex_big (c := l.getD i 0) (h02 i h1) (by intro q; simp only [digB, Bool.and_eq_true, decide_eq_true_eq] at q; have q4 : 48 ≤ bat l i ∧ bat l i ≤ 57 := q; have := h3 q4.1; omega)
           have q2 : ((l.getD i 0 ||| 32) - 97 + 10).toNat = hexOf (bat l i) := q3.2.2
           have q6 := UInt8.toNat_add ((l.getD i 0 ||| 32) - 97) 10
           have q7 : (10 : UInt8).toNat = 10 := rfl
           omega
         refine cndI (fun h6 => ?_) (fun h6 => ?_)
         · simp -failIfUnchanged [-List.getD_eq_getElem?_getD, -UInt8.toNat_or] at h6
           exfalso
           have q := p4 h1
           have q3 := hex_big (c := l.getD i 0) (h02 i h1) (by intro q; simp only [digB, Bool.and_eq_true, decide_eq_true_eq] at q; have q4 : 48 ≤ bat l i ∧ bat l i ≤ 57 := q; have := h3 q4.1; omega)
           have q2 : ((l.getD i 0 ||| 32) - 97 + 10).toNat = hexOf (bat l i) := q3.2.2
           have q6 := UInt8.toNat_add ((l.getD i 0 ||| 32) - 97) 10
           have q7 : (10 : UInt8).toNat = 10 := rfl
           omega
         simp -failIfUnchanged [-List.getD_eq_getElem?_getD, -UInt8.toNat_or] at h6
         refine kyz0 ?_
         refine cndI ?_ ?_ <;> intro h7 <;> simp -failIfUnchanged [-List.getD_eq_getElem?_getD, -UInt8.toNat_or] at h7
         · exfalso
           have q := p4 h1
           have q3 := hex_big (c := l.getD i 0) (h02 i h1) (by intro q; simp only [digB, Bool.and_eq_true, decide_eq_true_eq] at q; have q4 : 48 ≤ bat l i ∧ bat l i ≤ 57 := q; have := h3 q4.1; omega)
           have q2 : ((l.getD i 0 ||| 32) - 97 + 10).toNat = hexOf (bat l i) := q3.2.2
           have q6 := UInt8.toNat_add ((l.getD i 0 ||| 32) - 97) 10
           have q7 : (10 : UInt8).toNat = 10 := rfl
           omega
         refine kyz0 ?_
         have q3 := hex_big (c := l.getD i 0) (h02 i h1) (by intro q; simp only [digB, Bool.and_eq_true, decide_eq_true_eq] at q; have q4 : 48 ≤ bat l i ∧ bat l i ≤ 57 := q; have := h3 q4.1; omega)
         have q2 : ((l.getD i 0 ||| 32) - 97 + 10).toNat = hexOf (bat l i) := q3.2.2
         have q6 := UInt8.toNat_add ((l.getD i 0 ||| 32) - 97) 10
         have q7 : (10 : UInt8).toNat = 10 := rfl
         have q := p4 h1
         have q5 := p1 h1
         rw [q2]
         exact ih _ (by omega) (i + 1) mx _ rfl ⟨by omega, k2, by rw [q5, k3]; omega⟩
       simp -failIfUnchanged [-List.getD_eq_getElem?_getD, -UInt8.toNat_or] at h4
       exfalso
       have q := p4 h1
       have q3 := hex_big (c := l.getD i 0) (h02 i h1) (by intro q; simp only [digB, Bool.and_eq_true, decide_eq_true_eq] at q; have q4 : 48 ≤ bat l i ∧ bat l i ≤ 57 := q; have := h3 q4.1; omega)
       have q2 : ((l.getD i 0 ||| 32) - 97 + 10).toNat = hexOf (bat l i) := q3.2.2
       have q6 := UInt8.toNat_add ((l.getD i 0 ||| 32) - 97) 10
       have q7 : (10 : UInt8).toNat = 10 := rfl
       omega
     refine ⟨fun g0 => (by cases g0), ?_⟩
     exact ku64 hk (by rw [k3, List.take_of_length_le (by omega)])
   refine W156.entry rfl (X := cond (decide (l = [])) (K (.val (.tup [(.int .u64 0), .ifx])) none) ((64 ≤ 9223372036854775807) ∧ (0 ≤ (64 : Int) ∧ (64 : Int) ≤ 64) ∧ (l.length ≤ 1099511627776) ∧ (W156).L K 36 (mkS 172 [(1, (.nat 16)), (8, (.bool false)), (9, (.str l)), (10, (.int .u64 1152921504606846976)), (11, (.int .u64 (((((1 : Int) * 2 ^ ((64 : Int)).toNat) % 18446744073709551616) - (1 : Int)) % 18446744073709551616))), (12, (.bool false)), (13, (.int .u64 0)), (99, (.own 1)), (100, (.nat l.length)), (101, (.nat 0))] [(1, .row (.bytes l) false)] 2))) (by kernel_rfl) ?_
   refine cndI ?_ ?_ <;> intro h1 <;> simp -failIfUnchanged [-List.getD_eq_getElem?_getD, -UInt8.toNat_or] at h1
   · simp [h1] at h01
   refine kyz0 ?_
   refine kyz0 ?_
   refine kyz0 ?_
   exact L36 _ 0 _ 0 rfl ⟨by omega, by decide, by simp [hexVal]⟩
 cases e
def c152 (svs : List SV) (b : Option SB) : QR := match svs, b with
 | [.str l, .nat 16, .nat 64], none => some ([0 < l.length ∧ l.length ≤ 6, ∀ i, i < l.length → hexDig (bat l i) = true], .tup [.int .u64 (hexVal l : Nat), .nilif])
 | _, _ => none
noncomputable def W152 : Wk := ⟨[(156, .pure c156)], bodyOf Tryz.f152, false, false, [.tmp 6, .tmp 7], [182, 71], [], []⟩
theorem has152 : Has 152 := Has.of (fn := Tryz.f152) (by kernel_rfl) (by kernel_rfl) (by kernel_rfl)
theorem kyz1 {p q : Prop} (k : q) (h : p := by first | omega | assumption) : p ∧ q := ⟨h, k⟩
theorem sat152 : Sat 152 (pureS c152) := by
 have hD : CxOk W152.D := (CxOk.cons has156 sat156 CxOk.nil)
 refine W152.sat hD (fn := Tryz.f152) (by kernel_rfl) (by kernel_rfl) (by kernel_rfl) (Nat.le_of_ble_eq_true (by kernel_rfl)) fun svs b K hP => ?_
 obtain ⟨ps, v, e, hp, hk⟩ := pureS_inv hP
 unfold c152 at e
 split at e
 · rename_i l
   cases e
   obtain ⟨h01, h02, _⟩ := hp
   refine W152.entry rfl (X := (0 < l.length ∧ l.length ≤ 6) ∧ (∀ i, i < l.length → hexDig (bat l i) = true) ∧ K (.val (.tup [(.int .u64 ((hexVal l : Nat) : Int)), .nilif])) none) (by kernel_rfl) ?_
   refine kyz1 (kyz1 ?_)
   exact hk
 cases e
end
end Go.Proofs.YtengepcafdnalaaGreatDoor
