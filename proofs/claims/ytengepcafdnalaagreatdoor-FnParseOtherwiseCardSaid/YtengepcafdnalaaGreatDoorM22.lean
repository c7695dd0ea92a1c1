/-
  Parts of the proof that the law FnParseOtherwise holds for every input (texts Kz). Conditions: none.
-/
import Derived.Test.YtengepcafdnalaaGreatDoorM21
namespace Go.Proofs.YtengepcafdnalaaGreatDoor
section
open Go Go.RowKit
set_option maxRecDepth 20000
theorem Qi {α : Type} {o : Option α} {v : α} {f : α -> Prop} {g : Prop} (h : Qx o f g) (e : o = some v) : f v := by rw [e] at h; exact h
theorem Qa {α : Type} {o : Option α} {f : α -> Prop} {g : Prop} (h : Qx o f g) (e : o = none) : g := by rw [e] at h; exact h
theorem Zn {s : Bs} {a b : Nat} (h : b <= s.length) : ((s.take b).drop a).length = b - a := by simp; omega
theorem Qdq (s : Bs) : ∀ k i m, i <= m -> m < VN s k i -> Q2 (bat s m) = true
 | 0, i, m, h1, h2 => by rw [VN] at h2; omega
 | k + 1, i, m, h1, h2 => by
  rw [VN] at h2
  split at h2
  rename_i h
  by_cases e : m = i
  rw [e]; exact h.2
  exact Qdq s k (i + 1) m (by omega) h2
  omega
theorem Zh {s : Bs} {i : Nat} {v : Bs} {j : Nat} (h : ZQ s i = some (v, j)) : i < j /\ j <= s.length /\ v.length <= 4 * (j - i) := by
 have h1 := JU h
 refine ⟨by omega, h1.2.1, ?_⟩
 unfold ZQ at h
 split at h
 cases h
 split at h
 cases h
 split at h <;> (simp only [Option.some.injEq, Prod.mk.injEq] at h; rw [<- h.1])
 have := Qn9 (VD ((s.take (VN s 6 (i + 1))).drop (i + 1))); omega
 simp only [List.length_singleton]; omega
theorem Qf2 {s : Bs} {a e i : Nat} (h : i < ((s.take e).drop a).length) : bat ((s.take e).drop a) i = bat s (a + i) := by
 simp only [List.length_drop, List.length_take] at h
 unfold bat
 simp only [List.getD_eq_getElem?_getD, List.getElem?_drop, List.getElem?_take]
 rw [if_pos (by omega)]
def c145 (svs : List SV) (b : Option SB) (K : Out -> Option SB -> Prop) : Prop := match svs, b with
 | [.ptr 0 0], some (.blk 94 [.str s, .nat i, .nat d, .bool a]) => s.length <= 1000000 /\ i <= s.length /\ Qx (ZQ s i) (fun v => i < v.2 /\ v.2 <= s.length /\ v.1.length <= 4 * (v.2 - i) -> K (.val (.tup [.str v.1, .nilif])) (some (.blk 94 [.str s, .nat v.2, .nat d, .bool a]))) (∀ j, K (.val (.tup [.str [], .ifx])) (some (.blk 94 [.str s, .nat j, .nat d, .bool a])))
 | _, _ => False
noncomputable def Qi1 : Wk := ⟨[(71, .pure c71), (151, .pure c151), (152, .pure c152)], Qm Tryz.f145, true, false, [.tmp 2, .tmp 3], [9, 71], [(10, 81)], []⟩
theorem Qnl : Has 145 := hsf Tryz.f145
theorem kzz2 {c0 p0 p1 p2 q : Prop} (k : q) (h : c0 -> p0 /\ p1 /\ p2 /\ True := by intro g0; (try simp at g0); exact ⟨(by first | omega | (simp; done) | (rw [qc]; have := ql h1; omega) | exact qd h1 | (have := qv h1; omega) | (simp; omega) | (simp; assumption)), (by first | omega | (simp; done) | (rw [qc]; have := ql h1; omega) | exact qd h1 | (have := qv h1; omega) | (simp; omega) | (simp; assumption)), (by first | omega | (simp; done) | (rw [qc]; have := ql h1; omega) | exact qd h1 | (have := qv h1; omega) | (simp; omega) | (simp; assumption)), trivial⟩) : (c0 -> p0 /\ p1 /\ p2 /\ True) /\ q := ⟨h, k⟩
theorem QfI {c0 p0 q : Prop} (k : q) (h : c0 -> p0 /\ True := by intro g0; (try simp at g0); exact ⟨(by first | omega | (simp; done) | (rw [qc]; have := ql h1; omega) | exact qd h1 | (have := qv h1; omega) | (simp; omega) | (simp; assumption)), trivial⟩) : (c0 -> p0 /\ True) /\ q := ⟨h, k⟩
theorem Zx {p q : Prop} (k : q) (h : p := by first | omega | (simp; done) | (rw [qc]; have := ql h1; omega) | exact qd h1 | (have := qv h1; omega) | (simp; omega) | (simp; assumption)) : p /\ q := ⟨h, k⟩
theorem Ql9 : Sat 145 c145 := by
 have hD : Qe Qi1.D := (Qe.cons Zt Zr (Qe.cons Qr9 Qq2 (Qe.cons Qr8 Qq1 Qe.nil)))
 refine Qi1.sa hD Tryz.f145 fun svs b K hP => ?_
 unfold c145 at hP
 split at hP
 rename_i s i d a
 obtain ⟨h01, h02, hk⟩ := hP
 have L10 : ∀ (mm : Nat) (j : Nat), i + 7 - j = mm -> (i + 1 < s.length /\ bat s i = 92 /\ Y4 (bat s (i + 1)) = false /\ Q2 (bat s (i + 1)) = true /\ i + 1 <= j /\ j <= s.length /\ j <= i + 7 /\ VN s (i + 7 - j) j = VN s 6 (i + 1)) -> Qi1.L K 10 (mkS 160 [(0, (.ptr 0 0)), (4, (.nat (i + 1))), (6, (.nat j))] [(0, .blk 94 [(.str s), (.nat i), (.nat d), (.bool a)])] 1) := by
  intro mm
  induction mm using Nat.strongRecOn with
  | _ mm ih =>
   intro j hm hI
   obtain ⟨k1, k2, k3, k4, k5, k6, k7, k8⟩ := hI
   have qj : (j < i + 7 -> j < s.length -> Q2 (bat s j) = false) -> VN s 6 (i + 1) = j := fun h => by
    rw [<- k8]
    by_cases h7 : j < i + 7
    rw [show i + 7 - j = (i + 6 - j) + 1 from by omega, VN, if_neg (fun q => by rw [h h7 q.1] at q; cases q.2)]
    rw [show i + 7 - j = 0 from by omega, VN]
   have qi : (j < i + 7 -> j < s.length -> Q2 (bat s j) = false) -> ZQ s i = some (YZ (VD ((s.take j).drop (i + 1))), Vy s j) := fun h => by
    unfold ZQ
    rw [if_neg (by simp only [not_or, Decidable.not_not]; exact ⟨by omega, k2⟩), if_neg (by rw [k3]; exact Bool.false_ne_true), if_pos k4, qj h]
   have ql : (j < i + 7 -> j < s.length -> Q2 (bat s j) = false) -> i + 1 < j := fun h => by
    have q : i + 1 + 1 <= VN s 6 (i + 1) := QeB s 5 (i + 1) k1 k4
    rw [qj h] at q; exact q
   have qc := Zn (a := i + 1) k6
   have qd : (j < i + 7 -> j < s.length -> Q2 (bat s j) = false) -> ∀ n, n < ((s.take j).drop (i + 1)).length -> Q2 (bat ((s.take j).drop (i + 1)) n) = true := fun h n hn => by
    rw [Qf2 hn]
    exact Qdq s 6 (i + 1) _ (by omega) (by rw [qj h]; omega)
   have qv : (j < i + 7 -> j < s.length -> Q2 (bat s j) = false) -> VD ((s.take j).drop (i + 1)) < 16777216 := fun h => by
    have q := QiI _ (qd h) _ (Nat.le_refl _)
    rw [List.take_length] at q
    have q2 : ((s.take j).drop (i + 1)).length <= 6 := by rw [qc]; omega
    exact Nat.lt_of_lt_of_le q (Nat.pow_le_pow_right (n := 16) (by omega) q2)
   refine Qi1.aL hD (have a2 : Option SB := some (.blk 94 [(.str s), (.nat (j + 1)), (.nat d), (.bool a)]); have a3 := j + 1 <= 9223372036854775807; have a4 := (s.take j).drop (i + 1); have a0 := ((VD a4 : Nat) : Int); have a1 : Out := .val (.tup [(.str (YZ a0)), .nilif]); have a5 : Option SB := some (.blk 94 [(.str s), (.nat j), (.nat d), (.bool a)]); have a6 := (decide (j < i + 7)) && (decide (j < s.length)); (i + 7 <= 9223372036854775807) /\ (a6 = true -> (j < s.length) /\ True) /\ cond (a6 && (Q2 (bat s j))) (a3 /\ (Qi1).L K 10 (mkS 160 [(0, (.ptr 0 0)), (4, (.nat (i + 1))), (6, (.nat (j + 1)))] [(0, .blk 94 [(.str s), (.nat i), (.nat d), (.bool a)])] 1)) ((i + 1 <= j /\ j <= s.length) /\ (0 < a4.length /\ a4.length <= 6) /\ (∀ n0, n0 < a4.length -> Q2 (bat a4 n0) = true) /\ cond (decide (j < s.length)) ((j < s.length) /\ cond (decide (bat s j = 13)) (a3 /\ ((decide (j + 1 < s.length)) = true -> (j + 1 < s.length) /\ True) /\ cond ((decide (j + 1 < s.length)) && (decide (bat s (j + 1) = 10))) ((j + 2 <= 9223372036854775807) /\ (0 <= a0 /\ a0 <= 2147483647) /\ K a1 (some (.blk 94 [(.str s), (.nat (j + 2)), (.nat d), (.bool a)]))) ((0 <= a0 /\ a0 <= 2147483647) /\ K a1 a2)) (cond (decide (bat s j = 32)) (a3 /\ (0 <= a0 /\ a0 <= 2147483647) /\ K a1 a2) (cond (decide (bat s j = 9)) (a3 /\ (0 <= a0 /\ a0 <= 2147483647) /\ K a1 a2) (cond (decide (bat s j = 10)) (a3 /\ (0 <= a0 /\ a0 <= 2147483647) /\ K a1 a2) (cond (decide (bat s j = 12)) (a3 /\ (0 <= a0 /\ a0 <= 2147483647) /\ K a1 a2) ((0 <= a0 /\ a0 <= 2147483647) /\ K a1 a5)))))) ((0 <= a0 /\ a0 <= 2147483647) /\ K a1 a5))) ?_
   refine Zx (QfI ?_)
   refine Qd ?_ ?_ <;> intro h1 <;> simp -failIfUnchanged [-List.getD_eq_getElem?_getD, -UInt8.toNat_or] at h1
   refine Zx ?_
   exact ih _ (by omega) (j + 1) rfl ⟨k1, k2, k3, k4, by omega, by omega, by omega, by rw [<- k8, show i + 7 - j = (i + 7 - (j + 1)) + 1 from by omega]; conv => rhs; rw [VN, if_pos ⟨h1.1.2, h1.2⟩]⟩
   refine Zx (Zx (Zx ?_))
   refine Qd ?_ ?_ <;> intro h2 <;> simp -failIfUnchanged [-List.getD_eq_getElem?_getD, -UInt8.toNat_or] at h2
   refine Zx ?_
   refine Qd ?_ ?_ <;> intro h3 <;> simp -failIfUnchanged [-List.getD_eq_getElem?_getD, -UInt8.toNat_or] at h3
   refine Zx (QfI ?_)
   refine Qd ?_ ?_ <;> intro h4 <;> simp -failIfUnchanged [-List.getD_eq_getElem?_getD, -UInt8.toNat_or] at h4
   refine Zx (Zx ?_)
   have e := qi h1
   rw [show Vy s j = j + 2 from by unfold Vy; rw [if_pos h2, if_pos h3, if_pos h4]] at e
   have q := Qi hk e (by have q3 := Zh e; dsimp only; exact q3)
   dsimp only at q
   exact q
   refine Zx ?_
   have e := qi h1
   rw [show Vy s j = j + 1 from by unfold Vy; rw [if_pos h2, if_pos h3, if_neg (fun q => h4 q.1 q.2)]] at e
   have q := Qi hk e (by have q3 := Zh e; dsimp only; exact q3)
   dsimp only at q
   exact q
   refine Qd (fun h4 => ?_) (fun h4 => ?_)
   simp -failIfUnchanged [-List.getD_eq_getElem?_getD, -UInt8.toNat_or] at h4
   refine Zx (Zx ?_)
   have e := qi h1
   rw [show Vy s j = j + 1 from by unfold Vy; rw [if_pos h2, if_neg h3, if_pos (by simp [VM, h4])]] at e
   have q := Qi hk e (by have q3 := Zh e; dsimp only; exact q3)
   dsimp only at q
   exact q
   simp -failIfUnchanged [-List.getD_eq_getElem?_getD, -UInt8.toNat_or] at h4
   refine Qd ?_ ?_ <;> intro h5 <;> simp -failIfUnchanged [-List.getD_eq_getElem?_getD, -UInt8.toNat_or] at h5
   refine Zx (Zx ?_)
   have e := qi h1
   rw [show Vy s j = j + 1 from by unfold Vy; rw [if_pos h2, if_neg h3, if_pos (by simp [VM, h5])]] at e
   have q := Qi hk e (by have q3 := Zh e; dsimp only; exact q3)
   dsimp only at q
   exact q
   refine Qd (fun h6 => ?_) (fun h6 => ?_)
   simp -failIfUnchanged [-List.getD_eq_getElem?_getD, -UInt8.toNat_or] at h6
   refine Zx (Zx ?_)
   have e := qi h1
   rw [show Vy s j = j + 1 from by unfold Vy; rw [if_pos h2, if_neg h3, if_pos (by simp [VM, h6])]] at e
   have q := Qi hk e (by have q3 := Zh e; dsimp only; exact q3)
   dsimp only at q
   exact q
   simp -failIfUnchanged [-List.getD_eq_getElem?_getD, -UInt8.toNat_or] at h6
   refine Qd ?_ ?_ <;> intro h7 <;> simp -failIfUnchanged [-List.getD_eq_getElem?_getD, -UInt8.toNat_or] at h7
   refine Zx (Zx ?_)
   have e := qi h1
   rw [show Vy s j = j + 1 from by unfold Vy; rw [if_pos h2, if_neg h3, if_pos (by simp [VM, h7])]] at e
   have q := Qi hk e (by have q3 := Zh e; dsimp only; exact q3)
   dsimp only at q
   exact q
   refine Zx ?_
   have e := qi h1
   rw [show Vy s j = j from by unfold Vy; rw [if_pos h2, if_neg h3, if_neg (by simp [VM]; omega)]] at e
   have q := Qi hk e (by have q3 := Zh e; dsimp only; exact q3)
   dsimp only at q
   exact q
   refine Zx ?_
   have e := qi h1
   rw [show Vy s j = j from by unfold Vy; rw [if_neg (by omega)]] at e
   have q := Qi hk e (by have q3 := Zh e; dsimp only; exact q3)
   dsimp only at q
   exact q
 refine Qi1.en (have a1 := decide (s.length < i + 2); have a0 := a1 = false -> ((a1 == false) = true) /\ True; have a2 := i + 2 <= 9223372036854775807; have a3 : Option SB := some (.blk 94 [(.str s), (.nat i), (.nat d), (.bool a)]); a2 /\ a0 /\ a0 /\ a0 /\ a0 /\ a0 /\ a0 /\ (a1 = false -> ((a1 == false) = true) /\ ((a1 == false) = true) /\ (i < s.length) /\ True) /\ a0 /\ (a1 = false -> (a1 == false) = true) /\ cond (a1 || (!(decide (bat s i = 92)))) (K (.val (.tup [(.str []), .ifx])) a3) ((i + 1 <= 9223372036854775807) /\ (i + 1 < s.length) /\ cond (((decide (bat s (i + 1) = 13)) || (decide (bat s (i + 1) = 10))) || (decide (bat s (i + 1) = 12))) (K (.val (.tup [(.str []), .ifx])) a3) (cond (Q2 (bat s (i + 1))) ((Qi1).L K 10 (mkS 160 [(0, (.ptr 0 0)), (4, (.nat (i + 1))), (6, (.nat (i + 1)))] [(0, .blk 94 [(.str s), (.nat i), (.nat d), (.bool a)])] 1)) (a2 /\ (i + 1 <= i + 2 /\ i + 2 <= s.length) /\ a2 /\ K (.val (.tup [(.str ((s.take (i + 2)).drop (i + 1))), .nilif])) (some (.blk 94 [(.str s), (.nat (i + 2)), (.nat d), (.bool a)])))))) ?_
 refine Zx (QfI (QfI (QfI (QfI (QfI (QfI (kzz2 (QfI (Zx ?_)))))))))
 refine Qd ?_ ?_ <;> intro h1 <;> simp -failIfUnchanged [-List.getD_eq_getElem?_getD, -UInt8.toNat_or] at h1
 exact Qa hk (by unfold ZQ; rw [if_pos h1]) _
 refine Zx (Zx ?_)
 refine Qd ?_ ?_ <;> intro h2 <;> simp -failIfUnchanged [-List.getD_eq_getElem?_getD, -UInt8.toNat_or] at h2
 exact Qa hk (by unfold ZQ; rw [if_neg (by omega), if_pos (by simp [Y4]; omega)]) _
 refine Qd (fun h3 => ?_) (fun h3 => ?_)
 simp -failIfUnchanged [-List.getD_eq_getElem?_getD, -UInt8.toNat_or] at h3
 exact L10 _ (i + 1) rfl ⟨by omega, h1.2, by simp [Y4]; omega, h3, by omega, by omega, by omega, by rw [show i + 7 - (i + 1) = 6 from by omega]⟩
 simp -failIfUnchanged [-List.getD_eq_getElem?_getD, -UInt8.toNat_or] at h3
 refine Zx (Zx (Zx ?_))
 have e : ZQ s i = some ([s.getD (i + 1) 0], i + 2) := by
  unfold ZQ
  rw [if_neg (by omega), if_neg (by simp [Y4]; omega), if_neg (by rw [h3]; exact Bool.false_ne_true)]
 rw [cut1 (show i + 1 < s.length from by omega)]
 have q := Qi hk e (by have q3 := Zh e; dsimp only; exact q3)
 dsimp only at q
 exact q
 exact hP.elim
structure Nm2 (s : Bs) (i j : Nat) (acc : Bs) : Prop where
 a : i <= j
 b : j <= s.length
 n : acc.length <= 4 * (j - i)
 e : Vm s j acc = Vm s i []
theorem Uh {s : Bs} {i j : Nat} {acc : Bs} (h : Vm s i [] = some (acc, j)) (hn : acc ≠ []) : V0 s i = some (acc, j) := by
 unfold V0
 rw [h]
 cases acc with
 | nil => exact absurd rfl hn
 | cons => rfl
theorem QeA {s : Bs} {i j : Nat} (h : Vm s i [] = some ([], j)) : V0 s i = none := by unfold V0; rw [h]
theorem Qle {s : Bs} {i : Nat} (h : Vm s i [] = none) : V0 s i = none := by unfold V0; rw [h]
def c131 (svs : List SV) (b : Option SB) (K : Out -> Option SB -> Prop) : Prop := match svs, b with
 | [.ptr 0 0], some (.blk 94 [.str s, .nat i, .nat d, .bool a]) => s.length <= 1000000 /\ i <= s.length /\ Qx (V0 s i) (fun v => i < v.2 /\ v.2 <= s.length /\ v.1.length <= 4 * (v.2 - i) -> K (.val (.tup [.str v.1, .nilif])) (some (.blk 94 [.str s, .nat v.2, .nat d, .bool a]))) (∀ j, K (.val (.tup [.str [], .ifx])) (some (.blk 94 [.str s, .nat j, .nat d, .bool a])))
 | _, _ => False
noncomputable def QbM : Wk := ⟨[(71, .pure c71), (144, .pure c144), (145, .plain c145)], Qm Tryz.f131, true, false, [.tmp 2, .tmp 3], [9, 71], [(2, 21), (6, 85)], []⟩
theorem QiL : Has 131 := hsf Tryz.f131
theorem QiD {p q : Prop} (k : q) (h : p := by first | omega | (simp; done) | (simp; omega) | (simp; assumption)) : p /\ q := ⟨h, k⟩
theorem kzz3 {c0 p0 q : Prop} (k : q) (h : c0 -> p0 /\ True := by intro g0; (try simp at g0); exact ⟨(by first | omega | (simp; done) | (simp; omega) | (simp; assumption)), trivial⟩) : (c0 -> p0 /\ True) /\ q := ⟨h, k⟩
theorem Qia : Sat 131 c131 := by
 have hD : Qe QbM.D := (Qe.cons Zt Zr (Qe.cons Qsb Qq4 (Qe.cons Qnl Ql9 Qe.nil)))
 refine QbM.sa hD Tryz.f131 fun svs b K hP => ?_
 unfold c131 at hP
 split at hP
 rename_i s i d a
 obtain ⟨h01, h02, hk⟩ := hP
 have L6 : ∀ (mm : Nat) (b j st : Nat) (acc : Bs), s.length - j = mm -> (Nm2 s i st acc /\ st <= j /\ j <= s.length /\ (st < s.length /\ QO (bat s st) = true) /\ (∀ m, st <= m -> m < j -> QO (bat s m) = true) /\ ∀ b' j' acc', s.length - j' < s.length - st -> Nm2 s i j' acc' -> QbM.L K 2 (mkS 87 [(0, (.ptr 0 0)), (2, (.str acc')), (4, (.nat j'))] [(0, .blk 94 [(.str s), (.nat b'), (.nat d), (.bool a)])] 1)) -> QbM.L K 6 (mkS 87 [(0, (.ptr 0 0)), (2, (.str acc)), (4, (.nat j)), (6, (.nat st))] [(0, .blk 94 [(.str s), (.nat b), (.nat d), (.bool a)])] 1) := by
  intro mm
  induction mm using Nat.strongRecOn with
  | _ mm ih =>
   intro b j st acc hm hI
   obtain ⟨⟨k1, k2, k3, k4⟩, k5, k6, k7, k8, ih3⟩ := hI
   have kc := Zn (a := st) k6
   refine QbM.aL hD (((decide (j < s.length)) = true -> (j < s.length) /\ True) /\ cond ((decide (j < s.length)) && (QO (bat s j))) ((j + 1 <= 9223372036854775807) /\ (QbM).L K 6 (mkS 87 [(0, (.ptr 0 0)), (2, (.str acc)), (4, (.nat (j + 1))), (6, (.nat st))] [(0, .blk 94 [(.str s), (.nat b), (.nat d), (.bool a)])] 1)) ((st <= j /\ j <= s.length) /\ (acc.length + ((s.take j).drop st).length <= 2305843009213693952) /\ (QbM).L K 2 (mkS 87 [(0, (.ptr 0 0)), (2, (.str (acc ++ ((s.take j).drop st)))), (4, (.nat j))] [(0, .blk 94 [(.str s), (.nat b), (.nat d), (.bool a)])] 1))) ?_
   refine kzz3 ?_
   refine Qd ?_ ?_ <;> intro h1 <;> simp -failIfUnchanged [-List.getD_eq_getElem?_getD, -UInt8.toNat_or] at h1
   refine QiD ?_
   exact ih _ (by omega) b (j + 1) st acc rfl ⟨⟨k1, k2, k3, k4⟩, by omega, by omega, k7, fun m a c => by
    by_cases e : m = j
    rw [e]; exact h1.2
    exact k8 m a (by omega), ih3⟩
   refine QiD (QiD ?_)
   have hj : st < j := by
    rcases Nat.lt_or_ge st j with q | q
    exact q
    have e : j = st := by omega
    rw [e] at h1
    rw [h1 k7.1] at k7
    cases k7.2
   have e := Law.nameGo_run s st acc (j - st) (by omega) (fun m a c => k8 m a (by omega))
   rw [show st + (j - st) = j from by omega] at e
   exact ih3 b j (acc ++ (s.take j).drop st) (by omega) ⟨by omega, by omega, by rw [List.length_append, kc]; omega, by rw [<- k4, e]⟩
 have L2 : ∀ (mm : Nat) (b j : Nat) (acc : Bs), s.length - j = mm -> (Nm2 s i j acc) -> QbM.L K 2 (mkS 87 [(0, (.ptr 0 0)), (2, (.str acc)), (4, (.nat j))] [(0, .blk 94 [(.str s), (.nat b), (.nat d), (.bool a)])] 1) := by
  intro mm
  induction mm using Nat.strongRecOn with
  | _ mm ih =>
   intro b j acc hm hI
   obtain ⟨k1, k2, k3, k4⟩ := hI
   refine QbM.aL hD (have a0 : Out := .val (.tup [(.str []), .ifx]); have a1 : Option SB := some (.blk 94 [(.str s), (.nat b), (.nat d), (.bool a)]); have a2 : Option SB := some (.blk 94 [(.str s), (.nat j), (.nat d), (.bool a)]); cond (decide (j < s.length)) ((j < s.length) /\ cond (QO (bat s j)) ((QbM).L K 6 (mkS 87 [(0, (.ptr 0 0)), (2, (.str acc)), (4, (.nat j)), (6, (.nat j))] [(0, .blk 94 [(.str s), (.nat b), (.nat d), (.bool a)])] 1)) (cond (decide (bat s j = 92)) ((s.length <= 1000000) /\ (j <= s.length) /\ Qx (ZQ s j) (fun v1 => (j < v1.2 /\ v1.2 <= s.length /\ v1.1.length <= 4 * (v1.2 - j)) -> (acc.length + v1.1.length <= 2305843009213693952) /\ (QbM).L K 2 (mkS 87 [(0, (.ptr 0 0)), (2, (.str (acc ++ v1.1))), (4, (.nat v1.2))] [(0, .blk 94 [(.str s), (.nat v1.2), (.nat d), (.bool a)])] 1)) (∀ j2 : Nat, K a0 (some (.blk 94 [(.str s), (.nat j2), (.nat d), (.bool a)])))) (cond (decide (acc = [])) (K a0 a1) (K (.val (.tup [(.str acc), .nilif])) a2)))) (cond (decide (acc = [])) (K a0 a1) (K (.val (.tup [(.str acc), .nilif])) a2))) ?_
   refine Qd ?_ ?_ <;> intro h1 <;> simp -failIfUnchanged [-List.getD_eq_getElem?_getD, -UInt8.toNat_or] at h1
   refine QiD ?_
   refine Qd ?_ ?_ <;> intro h2 <;> simp -failIfUnchanged [-List.getD_eq_getElem?_getD, -UInt8.toNat_or] at h2
   exact L6 _ b j j acc rfl ⟨⟨k1, k2, k3, k4⟩, Nat.le_refl _, k2, ⟨h1, h2⟩, fun m a c => by omega, fun b' j' acc' hlt h' => ih _ (by omega) b' j' acc' rfl h'⟩
   refine Qd (fun h3 => ?_) (fun h3 => ?_)
   simp -failIfUnchanged [-List.getD_eq_getElem?_getD, -UInt8.toNat_or] at h3
   refine QiD (QiD ?_)
   refine QJ (fun v1 h4 => ?_) (fun h4 => ?_)
   intro h5
   simp -failIfUnchanged [-List.getD_eq_getElem?_getD, -UInt8.toNat_or] at h5
   refine QiD ?_
   exact ih _ (by omega) v1.2 v1.2 (acc ++ v1.1) rfl ⟨by omega, by omega, by rw [List.length_append]; omega, by rw [<- k4, Law.nameGo_esc h1 h3 (v := v1.1) (j := v1.2) h4]⟩
   intro j2
   exact Qa hk (Qle (by rw [<- k4]; exact Law.nameGo_none h1 h3 h4)) _
   simp -failIfUnchanged [-List.getD_eq_getElem?_getD, -UInt8.toNat_or] at h3
   refine Qd ?_ ?_ <;> intro h4 <;> simp -failIfUnchanged [-List.getD_eq_getElem?_getD, -UInt8.toNat_or] at h4
   have e := Law.nameGo_stop (s := s) (i := j) (acc := acc) (.inr ⟨h2, h3⟩)
   rw [k4, h4] at e
   exact Qa hk (QeA e) _
   have e := Law.nameGo_stop (s := s) (i := j) (acc := acc) (.inr ⟨h2, h3⟩)
   rw [k4] at e
   exact Qi hk (Uh e h4) ⟨(Law.iName_lt (Uh e h4)).1, by omega, by omega⟩
   refine Qd (fun h2 => ?_) (fun h2 => ?_)
   simp -failIfUnchanged [-List.getD_eq_getElem?_getD, -UInt8.toNat_or] at h2
   have e := Law.nameGo_stop (s := s) (i := j) (acc := acc) (.inl (by omega))
   rw [k4, h2] at e
   exact Qa hk (QeA e) _
   simp -failIfUnchanged [-List.getD_eq_getElem?_getD, -UInt8.toNat_or] at h2
   have e := Law.nameGo_stop (s := s) (i := j) (acc := acc) (.inl (by omega))
   rw [k4] at e
   exact Qi hk (Uh e h2) ⟨(Law.iName_lt (Uh e h2)).1, by omega, by omega⟩
 refine QbM.en ((QbM).L K 2 (mkS 87 [(0, (.ptr 0 0)), (2, (.str [])), (4, (.nat i))] [(0, .blk 94 [(.str s), (.nat i), (.nat d), (.bool a)])] 1)) ?_
 exact L2 _ i i [] rfl ⟨Nat.le_refl _, h02, by simp, rfl⟩
 exact hP.elim
theorem QbW {s : Bs} {i h : Nat} {r : Bs} {j : Nat} (e : Yn s i = h) (hl : h < s.length) (hc : QE (bat s h) = true \/ bat s h = 92) (hn : V0 s h = some (r, j)) : QL s i = some (List.replicate (h - i) 45 ++ r, j) := by
 unfold QL
 rw [e, if_pos ⟨hl, hc⟩, hn]
theorem QaI {s : Bs} {i h : Nat} (e : Yn s i = h) (hn : ¬ (h < s.length /\ (QE (bat s h) = true \/ bat s h = 92)) \/ V0 s h = none) : QL s i = none := by
 unfold QL
 rw [e]
 split
 rename_i h1
 rw [hn.resolve_left (fun q => q h1)]
 rfl
theorem QcU (k : Nat) : Lib.repeatL [45] k = List.replicate k 45 := by
 have := Lib.repeatL_replicate 45 1 k
 simpa using this
def c129 (svs : List SV) (b : Option SB) (K : Out -> Option SB -> Prop) : Prop := match svs, b with
 | [.ptr 0 0], some (.blk 94 [.str s, .nat i, .nat d, .bool a]) => s.length <= 1000000 /\ i <= s.length /\ Qx (QL s i) (fun v => i < v.2 /\ v.2 <= s.length /\ v.1.length <= 4 * (v.2 - i) -> K (.val (.tup [.str v.1, .nilif])) (some (.blk 94 [.str s, .nat v.2, .nat d, .bool a]))) (∀ j, K (.val (.tup [.str [], .ifx])) (some (.blk 94 [.str s, .nat j, .nat d, .bool a])))
 | _, _ => False
noncomputable def Qi2 : Wk := ⟨[(71, .pure c71), (131, .plain c131), (142, .pure c142), (143, .pure c143)], Qm Tryz.f129, true, false, [.tmp 2, .tmp 3], [9, 71], [(2, 17)], []⟩
theorem QfT : Has 129 := hsf Tryz.f129
theorem Qhg {p q : Prop} (k : q) (h : p := by first | omega | (simp; done) | (simp; omega) | (simp; assumption) | (rw [QcU, List.length_replicate]; omega)) : p /\ q := ⟨h, k⟩
theorem kzz6 {c0 p0 p1 p2 q : Prop} (k : q) (h : c0 -> p0 /\ p1 /\ p2 /\ True := by intro g0; (try simp at g0); exact ⟨(by first | omega | (simp; done) | (simp; omega) | (simp; assumption) | (rw [QcU, List.length_replicate]; omega)), (by first | omega | (simp; done) | (simp; omega) | (simp; assumption) | (rw [QcU, List.length_replicate]; omega)), (by first | omega | (simp; done) | (simp; omega) | (simp; assumption) | (rw [QcU, List.length_replicate]; omega)), trivial⟩) : (c0 -> p0 /\ p1 /\ p2 /\ True) /\ q := ⟨h, k⟩
theorem QiC {c0 p0 q : Prop} (k : q) (h : c0 -> p0 /\ True := by intro g0; (try simp at g0); exact ⟨(by first | omega | (simp; done) | (simp; omega) | (simp; assumption) | (rw [QcU, List.length_replicate]; omega)), trivial⟩) : (c0 -> p0 /\ True) /\ q := ⟨h, k⟩
theorem Qfg : Sat 129 c129 := by
 have hD : Qe Qi2.D := (Qe.cons Zt Zr (Qe.cons QiL Qia (Qe.cons Qsd Qq6 (Qe.cons Qsc Qq5 Qe.nil))))
 refine Qi2.sa hD Tryz.f129 fun svs b K hP => ?_
 unfold c129 at hP
 split at hP
 rename_i s i d a
 obtain ⟨h01, h02, hk⟩ := hP
 have L2 : ∀ (mm : Nat) (k : Nat), s.length - (i + k) = mm -> (i + k <= s.length /\ Yn s (i + k) = Yn s i) -> Qi2.L K 2 (mkS 80 [(0, (.ptr 0 0)), (4, (.nat k))] [(0, .blk 94 [(.str s), (.nat (i + k)), (.nat d), (.bool a)])] 1) := by
  intro mm
  induction mm using Nat.strongRecOn with
  | _ mm ih =>
   intro k hm hI
   obtain ⟨k1, k2⟩ := hI
   refine Qi2.aL hD (have a1 := decide (i + k < s.length); have a0 := a1 = true -> ((a1 == true) = true) /\ True; have a2 : Option SB := some (.blk 94 [(.str s), (.nat (i + k)), (.nat d), (.bool a)]); have a3 : Out := .val (.tup [(.str []), .ifx]); a0 /\ a0 /\ a0 /\ a0 /\ a0 /\ a0 /\ (a1 = true -> ((a1 == true) = true) /\ ((a1 == true) = true) /\ (i + k < s.length) /\ True) /\ a0 /\ (a1 = true -> (a1 == true) = true) /\ cond (a1 && (decide (bat s (i + k) = 45))) ((i + k + 1 <= 9223372036854775807) /\ (k + 1 <= 9223372036854775807) /\ (Qi2).L K 2 (mkS 80 [(0, (.ptr 0 0)), (4, (.nat (k + 1)))] [(0, .blk 94 [(.str s), (.nat (i + k + 1)), (.nat d), (.bool a)])] 1)) (cond (decide (s.length <= i + k)) (K a3 a2) ((i + k < s.length) /\ cond (!((QE (bat s (i + k))) || (decide (bat s (i + k) = 92)))) (K a3 a2) ((s.length <= 1000000) /\ (i + k <= s.length) /\ Qx (V0 s (i + k)) (fun v1 => (i + k < v1.2 /\ v1.2 <= s.length /\ v1.1.length <= 4 * (v1.2 - (i + k))) -> cond ((decide (0 < k)) || false) ((1 * k <= 140737488355328 /\ k <= 9223372036854775807) /\ ((Lib.repeatL [45] k).length + v1.1.length <= 2305843009213693952) /\ K (.val (.tup [(.str (Lib.repeatL [45] k ++ v1.1)), .nilif])) (some (.blk 94 [(.str s), (.nat v1.2), (.nat d), (.bool a)]))) (K (.val (.tup [(.str v1.1), .nilif])) (some (.blk 94 [(.str s), (.nat v1.2), (.nat d), (.bool a)])))) (∀ j2 : Nat, cond ((decide (0 < k)) && false) ((1 * k <= 140737488355328 /\ k <= 9223372036854775807) /\ ((Lib.repeatL [45] k).length + 0 <= 2305843009213693952) /\ K (.val (.tup [(.str (Lib.repeatL [45] k ++ [])), .ifx])) (some (.blk 94 [(.str s), (.nat j2), (.nat d), (.bool a)]))) (K a3 (some (.blk 94 [(.str s), (.nat j2), (.nat d), (.bool a)])))))))) ?_
   refine QiC (QiC (QiC (QiC (QiC (QiC (kzz6 (QiC (Qhg ?_))))))))
   refine Qd ?_ ?_ <;> intro h1 <;> simp -failIfUnchanged [-List.getD_eq_getElem?_getD, -UInt8.toNat_or] at h1
   refine Qhg (Qhg ?_)
   exact ih _ (by omega) (k + 1) rfl ⟨by omega, by show Yn s (i + k + 1) = Yn s i; rw [<- k2]; conv => rhs; rw [Yn, if_pos h1]⟩
   refine Qd (fun h2 => ?_) (fun h2 => ?_)
   simp -failIfUnchanged [-List.getD_eq_getElem?_getD, -UInt8.toNat_or] at h2
   have e : Yn s i = i + k := by rw [<- k2, Yn, if_neg (fun q => h1 q.1 q.2)]
   exact Qa hk (QaI e (.inl (by omega))) _
   simp -failIfUnchanged [-List.getD_eq_getElem?_getD, -UInt8.toNat_or] at h2
   refine Qhg ?_
   refine Qd ?_ ?_ <;> intro h3 <;> simp -failIfUnchanged [-List.getD_eq_getElem?_getD, -UInt8.toNat_or] at h3
   have e : Yn s i = i + k := by rw [<- k2, Yn, if_neg (fun q => h1 q.1 q.2)]
   exact Qa hk (QaI e (.inl (fun q => by rcases q.2 with q | q; rw [h3.1] at q; cases q; exact h3.2 q))) _
   refine Qhg (Qhg ?_)
   refine QJ (fun v1 h4 => ?_) (fun h4 => ?_)
   intro h5
   simp -failIfUnchanged [-List.getD_eq_getElem?_getD, -UInt8.toNat_or] at h5
   refine Qd ?_ ?_ <;> intro h6 <;> simp -failIfUnchanged [-List.getD_eq_getElem?_getD, -UInt8.toNat_or] at h6
   refine Qhg (Qhg ?_)
   have e : Yn s i = i + k := by rw [<- k2, Yn, if_neg (fun q => h1 q.1 q.2)]
   have e2 := QbW (r := v1.1) (j := v1.2) e h2 (by cases q : QE (bat s (i + k)) with
    | true => exact .inl rfl
    | false => exact .inr (h3 q)) h4
   rw [<- QcU, show i + k - i = k from by omega] at e2
   have q := Qi hk e2 ⟨by omega, by omega, by dsimp only; rw [List.length_append, QcU, List.length_replicate]; omega⟩
   exact q
   have e : Yn s i = i + k := by rw [<- k2, Yn, if_neg (fun q => h1 q.1 q.2)]
   have e2 := QbW (r := v1.1) (j := v1.2) e h2 (by cases q : QE (bat s (i + k)) with
    | true => exact .inl rfl
    | false => exact .inr (h3 q)) h4
   rw [show i + k - i = 0 from by omega, List.replicate_zero, List.nil_append] at e2
   have q := Qi hk e2 ⟨by omega, by omega, by dsimp only; omega⟩
   exact q
   intro j2
   refine Qd (fun h5 => ?_) (fun h5 => ?_)
   simp -failIfUnchanged [-List.getD_eq_getElem?_getD, -UInt8.toNat_or] at h5
   simp -failIfUnchanged [-List.getD_eq_getElem?_getD, -UInt8.toNat_or] at h5
   have e : Yn s i = i + k := by rw [<- k2, Yn, if_neg (fun q => h1 q.1 q.2)]
   exact Qa hk (QaI e (.inr h4)) _
 refine Qi2.en ((Qi2).L K 2 (mkS 80 [(0, (.ptr 0 0)), (4, (.nat 0))] [(0, .blk 94 [(.str s), (.nat i), (.nat d), (.bool a)])] 1)) ?_
 exact L2 _ 0 rfl ⟨h02, rfl⟩
 exact hP.elim
end
end Go.Proofs.YtengepcafdnalaaGreatDoor
