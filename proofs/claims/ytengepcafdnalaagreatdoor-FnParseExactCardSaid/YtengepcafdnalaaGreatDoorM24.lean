/-
  Parts of the proof that the law FnParseExact holds for every input (texts Kd). Conditions: none.
-/
import Derived.Test.YtengepcafdnalaaGreatDoorM23
namespace Go.Proofs.YtengepcafdnalaaGreatDoor
section
open Go Go.RowKit
set_option maxRecDepth 20000
def c95 (svs : List SV) (b : Option SB) : FR := match svs, b with
 | [.ptr 0 0], some (.blk 46 [.str s, .nat p, .bool bad, .bool un, .bool ps]) => some ([s.length ≤ 1000000, p ≤ s.length + 1], .val (.bool (nmFollow s p)), some (.blk 46 [.str s, .nat p, .bool bad, .bool (un || nmUn s p), .bool ps]))
 | _, _ => none
noncomputable def W95 : Wk := ⟨[(104, .pure c104), (107, .pure c107)], bodyOf Tryz.f95, true, false, [.tmp 2], [4], [], []⟩
theorem has95 : Has 95 := Has.of (fn := Tryz.f95) (by kernel_rfl) (by kernel_rfl) (by kernel_rfl)
theorem kdz2 {c0 p0 p1 q : Prop} (k : q) (h : c0 → p0 ∧ p1 ∧ True := by intro g0; (try simp at g0); exact ⟨(by first | omega | (simp; done) | (simp; omega) | (simp; assumption)), (by first | omega | (simp; done) | (simp; omega) | (simp; assumption)), trivial⟩) : (c0 → p0 ∧ p1 ∧ True) ∧ q := ⟨h, k⟩
theorem kdz1 {p q : Prop} (k : q) (h : p := by first | omega | (simp; done) | (simp; omega) | (simp; assumption)) : p ∧ q := ⟨h, k⟩
theorem kdz0 {c0 p0 q : Prop} (k : q) (h : c0 → p0 ∧ True := by intro g0; (try simp at g0); exact ⟨(by first | omega | (simp; done) | (simp; omega) | (simp; assumption)), trivial⟩) : (c0 → p0 ∧ True) ∧ q := ⟨h, k⟩
theorem sat95 : Sat 95 (fnS c95) := by
 have hD : CxOk W95.D := (CxOk.cons has104 sat104 (CxOk.cons has107 sat107 CxOk.nil))
 refine W95.sat hD (fn := Tryz.f95) (by kernel_rfl) (by kernel_rfl) (by kernel_rfl) (by decide) fun svs b K hP => ?_
 obtain ⟨ps, o, b', e, hp, hk⟩ := fnS_inv hP
 unfold c95 at e
 split at e
 · rename_i s p bad un ps
   cases e
   obtain ⟨h01, h02, _⟩ := hp
   refine W95.entry rfl (X := have a0 := decide (p + 1 < s.length); have a1 := (a0 && (nmStart (bat s (p + 1)))) = false → (s.length ≤ 1000000) ∧ (p + 1 ≤ s.length + 1) ∧ True; have a2 := decide (p < s.length); have a3 := a0 = true → (p + 1 < s.length) ∧ True; have a4 : Option SB := some (.blk 46 [(.str s), (.nat p), (.bool bad), (.bool un), (.bool ps)]); have a5 : Out := .val (.bool ((a0 && (nmStart (bat s (p + 1)))) || (escF s (p + 1)))); (a2 = true → (p < s.length) ∧ True) ∧ cond (a2 && (decide (bat s p = 45))) ((p + 1 ≤ 9223372036854775807) ∧ a3 ∧ cond (a0 && (decide (bat s (p + 1) = 45))) (a3 ∧ a1 ∧ K a5 (some (.blk 46 [(.str s), (.nat p), (.bool bad), (.bool true), (.bool ps)]))) (a3 ∧ a1 ∧ K a5 a4)) ((a2 = true → (p < s.length) ∧ True) ∧ ((a2 && (nmStart (bat s p))) = false → (s.length ≤ 1000000) ∧ (p ≤ s.length + 1) ∧ True) ∧ K (.val (.bool ((a2 && (nmStart (bat s p))) || (escF s p)))) a4)) (by kernel_rfl) ?_
   refine kdz0 ?_
   refine cndI ?_ ?_ <;> intro h1 <;> simp -failIfUnchanged [-List.getD_eq_getElem?_getD] at h1
   · refine kdz1 ?_
     refine kdz0 ?_
     refine cndI ?_ ?_ <;> intro h2 <;> simp -failIfUnchanged [-List.getD_eq_getElem?_getD] at h2
     · refine kdz0 ?_
       refine kdz2 ?_
       exact keq hk (by simp only [nmFollow, nmAt]; simp_all) (by simp only [nmUn]; simp_all)
     refine kdz0 ?_
     refine kdz2 ?_
     exact keq hk (by simp only [nmFollow, nmAt]; simp_all) (by simp only [nmUn]; simp_all)
   refine kdz0 ?_
   refine kdz2 ?_
   have e : nmAt s p = p := by unfold nmAt; rw [if_neg (fun q => h1 q.1 q.2)]
   exact keq hk (by simp [nmFollow, e]) (by simp [nmUn]; intro q1 q2; exact absurd q2 (h1 q1))
 cases e
def c137 : Spec := fun svs b K => match svs, b with
 | [.byt c], none => cond (hexDig c.toNat) (K (.val (.nat (hexOf c.toNat))) none) (K (.val (.int .i64 (-1))) none)
 | _, _ => False
noncomputable def W137 : Wk := ⟨[], bodyOf Tryz.f137, false, false, [.tmp 2], [3], [], []⟩
theorem has137 : Has 137 := Has.of (fn := Tryz.f137) (by kernel_rfl) (by kernel_rfl) (by kernel_rfl)
theorem kdz3 {p q : Prop} (k : q) (h : p := by first | omega | (have := UInt8.toNat_lt (c - 97); have := UInt8.toNat_lt (c - 65); omega)) : p ∧ q := ⟨h, k⟩
theorem sat137 : Sat 137 c137 := by
 have hD : CxOk W137.D := CxOk.nil
 refine W137.sat hD (fn := Tryz.f137) (by kernel_rfl) (by kernel_rfl) (by kernel_rfl) (by decide) fun svs b K hP => ?_
 unfold c137 at hP
 split at hP
 · rename_i c
   have hk := hP
   refine W137.entry rfl (X := cond ((decide (48 ≤ c.toNat)) && (decide (c.toNat ≤ 57))) (K (.val (.nat ((c - 48).toNat))) none) (cond ((decide (97 ≤ c.toNat)) && (decide (c.toNat ≤ 102))) (((c - 97).toNat + 10 ≤ 9223372036854775807) ∧ K (.val (.nat ((c - 97).toNat + 10))) none) (cond ((decide (65 ≤ c.toNat)) && (decide (c.toNat ≤ 70))) (((c - 65).toNat + 10 ≤ 9223372036854775807) ∧ K (.val (.nat ((c - 65).toNat + 10))) none) (K (.val (.int .i64 (-1))) none)))) (by kernel_rfl) ?_
   refine cndI ?_ ?_ <;> intro h1 <;> simp -failIfUnchanged [-List.getD_eq_getElem?_getD] at h1
   · rw [show hexDig c.toNat = true from by simp [hexDig]; omega] at hk; exact keq hk (by simp [hexOf]; rw [if_pos (by omega), UInt8.toNat_sub]; have := UInt8.toNat_lt c; simp; omega) rfl
   refine cndI (fun h2 => ?_) (fun h2 => ?_)
   · simp -failIfUnchanged [-List.getD_eq_getElem?_getD] at h2
     refine kdz3 ?_
     rw [show hexDig c.toNat = true from by simp [hexDig]; omega] at hk; exact keq hk (by simp [hexOf]; rw [if_neg (by omega), if_neg (by omega), UInt8.toNat_sub]; have := UInt8.toNat_lt c; simp; omega) rfl
   simp -failIfUnchanged [-List.getD_eq_getElem?_getD] at h2
   refine cndI ?_ ?_ <;> intro h3 <;> simp -failIfUnchanged [-List.getD_eq_getElem?_getD] at h3
   · refine kdz3 ?_
     rw [show hexDig c.toNat = true from by simp [hexDig]; omega] at hk; exact keq hk (by simp [hexOf]; rw [if_neg (by omega), if_pos (by omega), UInt8.toNat_sub]; have := UInt8.toNat_lt c; simp; omega) rfl
   rw [show hexDig c.toNat = false from by simp [hexDig]; omega] at hk; exact hk
 exact hP.elim
def c138 (svs : List SV) (b : Option SB) : QR := match svs, b with
 | [.nat n], none => some ([n ≤ 2147483647], .str (utf8 ((n : Nat) : Int)))
 | _, _ => none
noncomputable def W138 : Wk := ⟨[], bodyOf Tryz.f138, false, false, [.tmp 2], [9], [], []⟩
theorem has138 : Has 138 := Has.of (fn := Tryz.f138) (by kernel_rfl) (by kernel_rfl) (by kernel_rfl)
theorem sat138 : Sat 138 (pureS c138) := by
 have hD : CxOk W138.D := CxOk.nil
 refine W138.sat hD (fn := Tryz.f138) (by kernel_rfl) (by kernel_rfl) (by kernel_rfl) (by decide) fun svs b K hP => ?_
 obtain ⟨ps, v, e, hp, hk⟩ := pureS_inv hP
 unfold c138 at e
 split at e
 · rename_i n
   cases e
   obtain ⟨h01, _⟩ := hp
   refine W138.entry rfl (X := (n ≤ 2147483647) ∧ K (.val (.str (utf8 ((n : Nat) : Int)))) none) (by kernel_rfl) ?_
   refine kdz1 ?_
   exact hk
 cases e
theorem pm2 {b : Nat} (h : 194 ≤ b ∧ b < 224) : pointM b = (b - 192, 2, 128) := by unfold pointM; rw [if_pos h]
theorem pm3 {b : Nat} (h : 224 ≤ b ∧ b < 240) : pointM b = (b - 224, 3, 2048) := by unfold pointM; rw [if_neg (by omega), if_pos h]
theorem pm4 {b : Nat} (h : 240 ≤ b ∧ b < 245) : pointM b = (b - 240, 4, 65536) := by unfold pointM; rw [if_neg (by omega), if_neg (by omega), if_pos h]
theorem pointGo_none {s : Bs} {k i c : Nat} (h : bat s i < 128 ∨ 191 < bat s i) : pointGo s (k + 1) i c = none := by
 unfold pointGo; rw [if_pos h]
theorem pointGo_some {s : Bs} {k i c : Nat} (h : ¬ (bat s i < 128 ∨ 191 < bat s i)) : pointGo s (k + 1) i c = pointGo s k (i + 1) (c * 64 + bat s i - 128) := by
 conv => lhs; unfold pointGo
 rw [if_neg h]
theorem bat_u8 (s : Bs) (i : Nat) : bat s i < 256 := UInt8.toNat_lt _
def pointEnd (c least many : Nat) : Nat × Nat := if c < least ∨ 1114111 < c ∨ (55296 ≤ c ∧ c < 57344) then (0, 0) else (c, many)
theorem point_eq {s : Bs} {i c0 many least : Nat} (h : ¬ bat s i < 128) (hm : pointM (bat s i) = (c0, many, least)) (hn : many ≠ 0) (hl : i + many ≤ s.length) :
 point s i = match pointGo s (many - 1) (i + 1) c0 with
  | none => (0, 0)
  | some c => pointEnd c least many := by
 unfold point
 rw [if_neg h, hm]
 simp only
 rw [if_neg (by omega)]
 rfl
def c41 (svs : List SV) (b : Option SB) : QR := match svs, b with
 | [.str s, .nat i], none => some ([s.length ≤ 1000000, i < s.length], .tup [.nat (point s i).1, .nat (point s i).2])
 | _, _ => none
noncomputable def W41 : Wk := ⟨[], bodyOf Tryz.f41, false, false, [.tmp 4, .tmp 5], [3, 3], [(14, 435)], []⟩
theorem has41 : Has 41 := Has.of (fn := Tryz.f41) (by kernel_rfl) (by kernel_rfl) (by kernel_rfl)
theorem sat41 : Sat 41 (pureS c41) := by
 have hD : CxOk W41.D := CxOk.nil
 refine W41.sat hD (fn := Tryz.f41) (by kernel_rfl) (by kernel_rfl) (by kernel_rfl) (by decide) fun svs b K hP => ?_
 obtain ⟨ps, v, e, hp, hk⟩ := pureS_inv hP
 unfold c41 at e
 split at e
 · rename_i s i
   cases e
   obtain ⟨h01, h02, _⟩ := hp
   have L14 : ∀ (mm : Nat) (c m l j : Nat), i + m - j = mm → i + 1 ≤ j ∧ j ≤ i + m ∧ m ≤ 4 ∧ i + m ≤ s.length ∧ c < 64 * 64 ^ (j - i - 1) ∧ point s i = (match pointGo s (i + m - j) j c with | none => (0, 0) | some c => pointEnd c l m) → W41.L K 14 (mkS 98 [(0, (.str s)), (1, (.nat i)), (4, (.nat c)), (5, (.nat m)), (7, (.nat l)), (8, (.nat j))] [] 1) := by
    intro mm
    induction mm using Nat.strongRecOn with
    | _ mm ih =>
     intro c m l j hm hI
     obtain ⟨k1, k2, k3, k4, k5, k6⟩ := hI
     have k7 : c < 64 * 64 ^ 3 := Nat.lt_of_lt_of_le k5 (Nat.mul_le_mul_left _ (Nat.pow_le_pow_right (by omega) (by omega)))
     refine W41.atL hD (X := (i + m ≤ 9223372036854775807) ∧ cond (decide (j < i + m)) ((j < s.length) ∧ ((decide (bat s j < 128)) = false → (j < s.length) ∧ True) ∧ cond ((decide (bat s j < 128)) || (decide (191 < bat s j))) (K (.val (.tup [(.nat 0), (.nat 0)])) none) ((6 ≤ 62 ∧ c * 2 ^ 6 ≤ 9223372036854775807) ∧ (j < s.length) ∧ ((c * 2 ^ 6) + (bat s j) ≤ 9223372036854775807) ∧ (128 ≤ (c * 2 ^ 6) + (bat s j) ∧ (c * 2 ^ 6) + (bat s j) ≤ 9223372036854775807) ∧ (j + 1 ≤ 9223372036854775807) ∧ (W41).L K 14 (mkS 98 [(0, (.str s)), (1, (.nat i)), (4, (.nat ((c * 2 ^ 6) + (bat s j) - 128))), (5, (.nat m)), (7, (.nat l)), (8, (.nat (j + 1)))] [] 1))) (cond (((decide (c < l)) || (decide (1114111 < c))) || ((decide (55296 ≤ c)) && (decide (c < 57344)))) (K (.val (.tup [(.nat 0), (.nat 0)])) none) (K (.val (.tup [(.nat c), (.nat m)])) none))) (by kernel_rfl) ?_
     refine kdz1 ?_
     refine cndI ?_ ?_ <;> intro h1 <;> simp -failIfUnchanged [-List.getD_eq_getElem?_getD] at h1
     · refine kdz1 ?_
       refine kdz0 ?_
       refine cndI ?_ ?_ <;> intro h2 <;> simp -failIfUnchanged [-List.getD_eq_getElem?_getD] at h2
       · have e : point s i = (0, 0) := by rw [k6, show i + m - j = (i + m - j - 1) + 1 from by omega, pointGo_none (by omega)]
         rw [e] at hk
         exact hk
       refine kdz1 ?_
       refine kdz1 ?_
       refine kdz1 ?_
       refine kdz1 ?_
       refine kdz1 ?_
       refine ih _ (by omega) _ _ _ _ rfl ⟨by omega, by omega, by omega, by omega, ?_, ?_⟩
       · rw [show j + 1 - i - 1 = (j - i - 1) + 1 from by omega, Nat.pow_succ]; omega
       rw [k6, show i + m - j = (i + m - (j + 1)) + 1 from by omega, pointGo_some (by omega)]
     refine cndI (fun h2 => ?_) (fun h2 => ?_)
     · simp -failIfUnchanged [-List.getD_eq_getElem?_getD] at h2
       have e : point s i = (0, 0) := by
        rw [k6, show i + m - j = 0 from by omega]
        show pointEnd c l m = _
        unfold pointEnd
        rw [if_pos (by omega)]
       rw [e] at hk
       exact hk
     simp -failIfUnchanged [-List.getD_eq_getElem?_getD] at h2
     have e : point s i = (c, m) := by
      rw [k6, show i + m - j = 0 from by omega]
      show pointEnd c l m = _
      unfold pointEnd
      rw [if_neg (by omega)]
     rw [e] at hk
     exact hk
   refine W41.entry rfl (X := have a0 : Out := .val (.tup [(.nat 0), (.nat 0)]); have a1 := i + 1 ≤ 9223372036854775807; (i < s.length) ∧ cond (decide (bat s i < 128)) (K (.val (.tup [(.nat (bat s i)), (.nat 1)])) none) (cond ((decide (194 ≤ bat s i)) && (decide (bat s i < 224))) ((192 ≤ bat s i ∧ bat s i ≤ 9223372036854775807) ∧ (false = false → (i + 2 ≤ 9223372036854775807) ∧ True) ∧ cond (decide (s.length < i + 2)) (K a0 none) (a1 ∧ (W41).L K 14 (mkS 98 [(0, (.str s)), (1, (.nat i)), (4, (.nat (bat s i - 192))), (5, (.nat 2)), (7, (.nat 128)), (8, (.nat (i + 1)))] [] 1))) (cond ((decide (224 ≤ bat s i)) && (decide (bat s i < 240))) ((224 ≤ bat s i ∧ bat s i ≤ 9223372036854775807) ∧ (false = false → (i + 3 ≤ 9223372036854775807) ∧ True) ∧ cond (decide (s.length < i + 3)) (K a0 none) (a1 ∧ (W41).L K 14 (mkS 98 [(0, (.str s)), (1, (.nat i)), (4, (.nat (bat s i - 224))), (5, (.nat 3)), (7, (.nat 2048)), (8, (.nat (i + 1)))] [] 1))) (cond ((decide (240 ≤ bat s i)) && (decide (bat s i < 245))) ((240 ≤ bat s i ∧ bat s i ≤ 9223372036854775807) ∧ (false = false → (i + 4 ≤ 9223372036854775807) ∧ True) ∧ cond (decide (s.length < i + 4)) (K a0 none) (a1 ∧ (W41).L K 14 (mkS 98 [(0, (.str s)), (1, (.nat i)), (4, (.nat (bat s i - 240))), (5, (.nat 4)), (7, (.nat 65536)), (8, (.nat (i + 1)))] [] 1))) ((true = false → (i ≤ 9223372036854775807) ∧ True) ∧ K a0 none))))) (by kernel_rfl) ?_
   refine kdz1 ?_
   refine cndI ?_ ?_ <;> intro h1 <;> simp -failIfUnchanged [-List.getD_eq_getElem?_getD] at h1
   · have e : point s i = (bat s i, 1) := by unfold point; rw [if_pos (by omega)]
     rw [e] at hk
     exact hk
   refine cndI (fun h2 => ?_) (fun h2 => ?_)
   · simp -failIfUnchanged [-List.getD_eq_getElem?_getD] at h2
     refine kdz1 ?_
     refine kdz0 ?_
     refine cndI ?_ ?_ <;> intro h3 <;> simp -failIfUnchanged [-List.getD_eq_getElem?_getD] at h3
     · have e : point s i = (0, 0) := by
        unfold point
        rw [if_neg (by omega), show pointM (bat s i) = (bat s i - 192, 2, 128) from pm2 (by omega), if_pos (by right; simp; omega)]
       rw [e] at hk
       exact hk
     refine kdz1 ?_
     refine L14 _ _ _ _ _ rfl ⟨by omega, by omega, by omega, by omega, ?_, ?_⟩
     · rw [show i + 1 - i - 1 = 0 from by omega]; omega
     rw [show i + 2 - (i + 1) = 2 - 1 from by omega]
     exact point_eq (by omega) (show pointM (bat s i) = (bat s i - 192, 2, 128) from pm2 (by omega)) (by decide) (by omega)
   simp -failIfUnchanged [-List.getD_eq_getElem?_getD] at h2
   refine cndI ?_ ?_ <;> intro h3 <;> simp -failIfUnchanged [-List.getD_eq_getElem?_getD] at h3
   · refine kdz1 ?_
     refine kdz0 ?_
     refine cndI ?_ ?_ <;> intro h4 <;> simp -failIfUnchanged [-List.getD_eq_getElem?_getD] at h4
     · have e : point s i = (0, 0) := by
        unfold point
        rw [if_neg (by omega), show pointM (bat s i) = (bat s i - 224, 3, 2048) from pm3 (by omega), if_pos (by right; simp; omega)]
       rw [e] at hk
       exact hk
     refine kdz1 ?_
     refine L14 _ _ _ _ _ rfl ⟨by omega, by omega, by omega, by omega, ?_, ?_⟩
     · rw [show i + 1 - i - 1 = 0 from by omega]; omega
     rw [show i + 3 - (i + 1) = 3 - 1 from by omega]
     exact point_eq (by omega) (show pointM (bat s i) = (bat s i - 224, 3, 2048) from pm3 (by omega)) (by decide) (by omega)
   refine cndI (fun h4 => ?_) (fun h4 => ?_)
   · simp -failIfUnchanged [-List.getD_eq_getElem?_getD] at h4
     refine kdz1 ?_
     refine kdz0 ?_
     refine cndI ?_ ?_ <;> intro h5 <;> simp -failIfUnchanged [-List.getD_eq_getElem?_getD] at h5
     · have e : point s i = (0, 0) := by
        unfold point
        rw [if_neg (by omega), show pointM (bat s i) = (bat s i - 240, 4, 65536) from pm4 (by omega), if_pos (by right; simp; omega)]
       rw [e] at hk
       exact hk
     refine kdz1 ?_
     refine L14 _ _ _ _ _ rfl ⟨by omega, by omega, by omega, by omega, ?_, ?_⟩
     · rw [show i + 1 - i - 1 = 0 from by omega]; omega
     rw [show i + 4 - (i + 1) = 4 - 1 from by omega]
     exact point_eq (by omega) (show pointM (bat s i) = (bat s i - 240, 4, 65536) from pm4 (by omega)) (by decide) (by omega)
   simp -failIfUnchanged [-List.getD_eq_getElem?_getD] at h4
   refine ⟨fun g0 => (by cases g0), ?_⟩
   have e : point s i = (0, 0) := by
    unfold point
    rw [if_neg (by omega), show pointM (bat s i) = (0, 0, 0) from by unfold pointM; rw [if_neg (by omega), if_neg (by omega), if_neg (by omega)], if_pos (by left; rfl)]
   rw [e] at hk
   exact hk
 cases e
end
end Go.Proofs.YtengepcafdnalaaGreatDoor
