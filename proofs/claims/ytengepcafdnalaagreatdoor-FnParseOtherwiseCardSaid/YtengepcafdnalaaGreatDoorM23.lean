/-
  Parts of the proof that the law FnParseOtherwise holds for every input (texts La). Conditions: none.
-/
import Derived.Test.YtengepcafdnalaaGreatDoorM22
namespace Go.Proofs.YtengepcafdnalaaGreatDoor
section
open Go Go.RowKit
set_option maxRecDepth 20000
structure St2 (s : Bs) (i j : Nat) (acc : Bs) : Prop where
 a : i < j
 b : j <= s.length
 n : acc.length <= 4 * (j - i)
 e : VH s (bat s i) j acc = Jl s i
theorem QkC {s : Bs} {q j : Nat} {acc : Bs} (h : s.length <= j) : VH s q j acc = none := by rw [VH, if_neg (by omega)]
theorem Qoj {s : Bs} {q j : Nat} {acc : Bs} (h : j < s.length) (h1 : bat s j ≠ 92) (h2 : bat s j = q) : VH s q j acc = some (acc, j + 1) := by rw [VH, if_pos h, if_neg h1, if_pos h2]
theorem QcG {s : Bs} {q j : Nat} {acc : Bs} (h : j < s.length) (h1 : bat s j ≠ 92) (h2 : bat s j ≠ q) (h3 : Y4 (bat s j) = true) : VH s q j acc = none := by rw [VH, if_pos h, if_neg h1, if_neg h2, if_pos h3]
theorem QlJ {s : Bs} {q j : Nat} {acc : Bs} (h1 : bat s j = 92) (h2 : bat s (j + 1) = 13) (h3 : j + 2 < s.length /\ bat s (j + 2) = 10) : VH s q j acc = VH s q (j + 3) acc := by
 rw [VH, if_pos (by omega), if_pos h1, if_pos ⟨by omega, h2⟩, if_pos h3]
theorem Qoi {s : Bs} {q j : Nat} {acc : Bs} (h0 : j + 1 < s.length) (h1 : bat s j = 92) (h2 : bat s (j + 1) = 13) (h3 : ¬ (j + 2 < s.length /\ bat s (j + 2) = 10)) : VH s q j acc = VH s q (j + 2) acc := by
 rw [VH, if_pos (by omega), if_pos h1, if_pos ⟨by omega, h2⟩, if_neg h3]
theorem Qjb {s : Bs} {q j : Nat} {acc : Bs} (h0 : j + 1 < s.length) (h1 : bat s j = 92) (h2 : bat s (j + 1) = 10 \/ bat s (j + 1) = 12) : VH s q j acc = VH s q (j + 2) acc := by
 rw [VH, if_pos (by omega), if_pos h1, if_neg (by omega), if_pos ⟨h0, h2⟩]
theorem QgA {s : Bs} {q j : Nat} {acc : Bs} (h0 : j < s.length) (h1 : bat s j = 92) (h2 : ¬ (j + 1 < s.length /\ (bat s (j + 1) = 13 \/ bat s (j + 1) = 10 \/ bat s (j + 1) = 12))) {v : Bs} {k : Nat} (he : ZQ s j = some (v, k)) : VH s q j acc = VH s q k (acc ++ v) := by
 rw [VH, if_pos h0, if_pos h1, if_neg (fun x => h2 ⟨x.1, .inl x.2⟩), if_neg (fun x => h2 ⟨x.1, .inr x.2⟩)]
 split
 rename_i x; rw [he] at x; cases x
 rename_i v' k' x; rw [he] at x; cases x; rfl
theorem QgB {s : Bs} {q j : Nat} {acc : Bs} (h0 : j < s.length) (h1 : bat s j = 92) (h2 : ¬ (j + 1 < s.length /\ (bat s (j + 1) = 13 \/ bat s (j + 1) = 10 \/ bat s (j + 1) = 12))) (he : ZQ s j = none) : VH s q j acc = none := by
 rw [VH, if_pos h0, if_pos h1, if_neg (fun x => h2 ⟨x.1, .inl x.2⟩), if_neg (fun x => h2 ⟨x.1, .inr x.2⟩)]
 split
 rfl
 rename_i v' k' x; rw [he] at x; cases x
def QhY (q c : Nat) : Bool := !(decide (c = q) || decide (c = 92) || Y4 c)
theorem strGo_run (s : Bs) (q i : Nat) (acc : Bs) : ∀ k, i + k <= s.length -> (∀ m, i <= m -> m < i + k -> QhY q (bat s m) = true) -> VH s q i acc = VH s q (i + k) (acc ++ (s.take (i + k)).drop i)
 | 0, h, hc => by simp
 | k + 1, h, hc => by
  have h5 := hc (i + k) (by omega) (by omega)
  simp only [QhY, Bool.not_eq_true', Bool.or_eq_false_iff, decide_eq_false_iff_not] at h5
  rw [strGo_run s q i acc k (by omega) (fun m h1 h2 => hc m h1 (by omega)), Law.strGo_chr (by omega) h5.1.2 h5.1.1 h5.2,
   Law.drop_take_succ s i k (by omega), List.append_assoc]
  rfl
def c132 (svs : List SV) (b : Option SB) (K : Out -> Option SB -> Prop) : Prop := match svs, b with
 | [.ptr 0 0], some (.blk 94 [.str s, .nat i, .nat d, .bool a]) => s.length <= 1000000 /\ i <= s.length /\ Qx (Jl s i) (fun v => i < v.2 /\ v.2 <= s.length /\ v.1.length <= 4 * (v.2 - i) -> K (.val (.tup [.str v.1, .nilif])) (some (.blk 94 [.str s, .nat v.2, .nat d, .bool a]))) (∀ j, K (.val (.tup [.str [], .ifx])) (some (.blk 94 [.str s, .nat j, .nat d, .bool a])))
 | _, _ => False
noncomputable def Us : Wk := ⟨[(71, .pure c71), (145, .plain c145)], Qm Tryz.f132, true, false, [.tmp 2, .tmp 3], [9, 71], [(6, 53), (9, 565)], []⟩
theorem Qnm : Has 132 := hsf Tryz.f132
theorem laz1 {c0 p0 q : Prop} (k : q) (h : c0 -> p0 /\ True := by intro g0; (try simp at g0); exact ⟨(by first | omega | (simp; done) | (simp; omega) | (simp; assumption)), trivial⟩) : (c0 -> p0 /\ True) /\ q := ⟨h, k⟩
theorem ZO {p q : Prop} (k : q) (h : p := by first | omega | (simp; done) | (simp; omega) | (simp; assumption)) : p /\ q := ⟨h, k⟩
theorem Qma : Sat 132 c132 := by
 have hD : Qe Us.D := (Qe.cons Zt Zr (Qe.cons Qnl Ql9 Qe.nil))
 refine Us.sa hD Tryz.f132 fun svs b K hP => ?_
 unfold c132 at hP
 split at hP
 rename_i s i d a
 obtain ⟨h01, h02, hk⟩ := hP
 have L9 : ∀ (mm : Nat) (b j st : Nat) (acc : Bs), s.length - j = mm -> (St2 s i st acc /\ st <= j /\ j <= s.length /\ (st < s.length /\ QhY (bat s i) (bat s st) = true) /\ (∀ m, st <= m -> m < j -> QhY (bat s i) (bat s m) = true) /\ ∀ b' j' acc', s.length - j' < s.length - st -> St2 s i j' acc' -> Us.L K 6 (mkS 176 [(0, (.ptr 0 0)), (2, (.str acc')), (4, (.nat j')), (5, (.byt (s.getD i 0)))] [(0, .blk 94 [(.str s), (.nat b'), (.nat d), (.bool a)])] 1)) -> Us.L K 9 (mkS 176 [(0, (.ptr 0 0)), (2, (.str acc)), (4, (.nat j)), (5, (.byt (s.getD i 0))), (9, (.nat st))] [(0, .blk 94 [(.str s), (.nat b), (.nat d), (.bool a)])] 1) := by
  intro mm
  induction mm using Nat.strongRecOn with
  | _ mm ih =>
   intro b j st acc hm hI
   obtain ⟨⟨k1, k2, k3, k4⟩, k5, k6, k7, k8, ih3⟩ := hI
   have kc := Zn (a := st) k6
   refine Us.aL hD (have a0 := mkS 176 [(0, (.ptr 0 0)), (2, (.str (acc ++ ((s.take j).drop st)))), (4, (.nat j)), (5, (.byt (s.getD i 0)))] [(0, .blk 94 [(.str s), (.nat b), (.nat d), (.bool a)])] 1; have a1 := acc.length + ((s.take j).drop st).length <= 2305843009213693952; cond (decide (j < s.length)) ((j < s.length) /\ cond (((((decide (bat s j = bat s i)) || (decide (bat s j = 92))) || (decide (bat s j = 13))) || (decide (bat s j = 10))) || (decide (bat s j = 12))) ((st <= j /\ j <= s.length) /\ a1 /\ (Us).L K 6 a0) ((j + 1 <= 9223372036854775807) /\ (Us).L K 9 (mkS 176 [(0, (.ptr 0 0)), (2, (.str acc)), (4, (.nat (j + 1))), (5, (.byt (s.getD i 0))), (9, (.nat st))] [(0, .blk 94 [(.str s), (.nat b), (.nat d), (.bool a)])] 1))) ((st <= j /\ j <= s.length) /\ a1 /\ (Us).L K 6 a0)) ?_
   refine Qd ?_ ?_ <;> intro h1 <;> simp -failIfUnchanged [-List.getD_eq_getElem?_getD, -UInt8.toNat_or] at h1
   refine ZO ?_
   refine Qd ?_ ?_ <;> intro h2 <;> simp -failIfUnchanged [-List.getD_eq_getElem?_getD, -UInt8.toNat_or] at h2
   refine ZO (ZO ?_)
   have hj : st < j := by
    rcases Nat.lt_or_ge st j with q | q
    exact q
    have e : j = st := by omega
    rw [e] at h2
    have q2 := k7.2
    simp [QhY, Y4] at q2
    omega
   have e := strGo_run s (bat s i) st acc (j - st) (by omega) (fun m a c => k8 m a (by omega))
   rw [show st + (j - st) = j from by omega] at e
   exact ih3 b j (acc ++ (s.take j).drop st) (by omega) ⟨by omega, by omega, by rw [List.length_append, kc]; omega, by rw [<- k4, e]⟩
   refine ZO ?_
   exact ih _ (by omega) b (j + 1) st acc rfl ⟨⟨k1, k2, k3, k4⟩, by omega, by omega, k7, fun m a c => by
    by_cases e : m = j
    rw [e]; simp [QhY, Y4]; omega
    exact k8 m a (by omega), ih3⟩
   refine ZO (ZO ?_)
   have e := strGo_run s (bat s i) st acc (j - st) (by omega) (fun m a c => k8 m a (by omega))
   rw [show st + (j - st) = j from by omega] at e
   exact ih3 b j (acc ++ (s.take j).drop st) (by omega) ⟨by omega, by omega, by rw [List.length_append, kc]; omega, by rw [<- k4, e]⟩
 have L6 : ∀ (mm : Nat) (b j : Nat) (acc : Bs), s.length - j = mm -> (St2 s i j acc) -> Us.L K 6 (mkS 176 [(0, (.ptr 0 0)), (2, (.str acc)), (4, (.nat j)), (5, (.byt (s.getD i 0)))] [(0, .blk 94 [(.str s), (.nat b), (.nat d), (.bool a)])] 1) := by
  intro mm
  induction mm using Nat.strongRecOn with
  | _ mm ih =>
   intro b j acc hm hI
   obtain ⟨k1, k2, k3, k4⟩ := hI
   refine Us.aL hD (have a1 : Option SB := some (.blk 94 [(.str s), (.nat b), (.nat d), (.bool a)]); have a2 : Out := .val (.tup [(.str []), .ifx]); have a3 := j + 2 <= 9223372036854775807; have a4 := j + 1 <= 9223372036854775807; have a5 : Option SB := some (.blk 94 [(.str s), (.nat (j + 1)), (.nat d), (.bool a)]); have a6 := decide (j + 2 < s.length); have a7 : SV := .byt (s.getD i 0); have a0 := mkS 176 [(0, (.ptr 0 0)), (2, (.str acc)), (4, (.nat (j + 2))), (5, a7)] [(0, .blk 94 [(.str s), (.nat b), (.nat d), (.bool a)])] 1; cond (decide (j < s.length)) ((j < s.length) /\ cond (decide (bat s j = 92)) (a4 /\ cond (decide (j + 1 < s.length)) (a4 /\ (j + 1 < s.length) /\ cond (decide (bat s (j + 1) = 13)) (a3 /\ (a6 = true -> a3 /\ True) /\ (a6 = true -> (j + 2 < s.length) /\ True) /\ cond (a6 && (decide (bat s (j + 2) = 10))) ((j + 3 <= 9223372036854775807) /\ (Us).L K 6 (mkS 176 [(0, (.ptr 0 0)), (2, (.str acc)), (4, (.nat (j + 3))), (5, a7)] [(0, .blk 94 [(.str s), (.nat b), (.nat d), (.bool a)])] 1)) (a3 /\ (Us).L K 6 a0)) (cond (decide (bat s (j + 1) = 10)) (a3 /\ (Us).L K 6 a0) (cond (decide (bat s (j + 1) = 12)) (a3 /\ (Us).L K 6 a0) ((s.length <= 1000000) /\ (j <= s.length) /\ Qx (ZQ s j) (fun v1 => (j < v1.2 /\ v1.2 <= s.length /\ v1.1.length <= 4 * (v1.2 - j)) -> (acc.length + v1.1.length <= 2305843009213693952) /\ (Us).L K 6 (mkS 176 [(0, (.ptr 0 0)), (2, (.str (acc ++ v1.1))), (4, (.nat v1.2)), (5, a7)] [(0, .blk 94 [(.str s), (.nat v1.2), (.nat d), (.bool a)])] 1)) (∀ j2 : Nat, K a2 (some (.blk 94 [(.str s), (.nat j2), (.nat d), (.bool a)]))))))) ((s.length <= 1000000) /\ (j <= s.length) /\ Qx (ZQ s j) (fun v3 => (j < v3.2 /\ v3.2 <= s.length /\ v3.1.length <= 4 * (v3.2 - j)) -> (acc.length + v3.1.length <= 2305843009213693952) /\ (Us).L K 6 (mkS 176 [(0, (.ptr 0 0)), (2, (.str (acc ++ v3.1))), (4, (.nat v3.2)), (5, a7)] [(0, .blk 94 [(.str s), (.nat v3.2), (.nat d), (.bool a)])] 1)) (∀ j4 : Nat, K a2 (some (.blk 94 [(.str s), (.nat j4), (.nat d), (.bool a)]))))) (cond (decide (bat s j = bat s i)) (cond (decide (s.length <= j)) (K a2 a1) (a4 /\ K (.val (.tup [(.str acc), .nilif])) a5)) (cond (decide (bat s j = 13)) (K a2 a1) (cond (decide (bat s j = 10)) (K a2 a1) (cond (decide (bat s j = 12)) (K a2 a1) ((Us).L K 9 (mkS 176 [(0, (.ptr 0 0)), (2, (.str acc)), (4, (.nat j)), (5, a7), (9, (.nat j))] [(0, .blk 94 [(.str s), (.nat b), (.nat d), (.bool a)])] 1))))))) (cond (decide (s.length <= j)) (K a2 a1) (a4 /\ K (.val (.tup [(.str acc), .nilif])) a5))) ?_
   refine Qd ?_ ?_ <;> intro h1 <;> simp -failIfUnchanged [-List.getD_eq_getElem?_getD, -UInt8.toNat_or] at h1
   refine ZO ?_
   refine Qd ?_ ?_ <;> intro h2 <;> simp -failIfUnchanged [-List.getD_eq_getElem?_getD, -UInt8.toNat_or] at h2
   refine ZO ?_
   refine Qd ?_ ?_ <;> intro h3 <;> simp -failIfUnchanged [-List.getD_eq_getElem?_getD, -UInt8.toNat_or] at h3
   refine ZO (ZO ?_)
   refine Qd ?_ ?_ <;> intro h4 <;> simp -failIfUnchanged [-List.getD_eq_getElem?_getD, -UInt8.toNat_or] at h4
   refine ZO (laz1 (laz1 ?_))
   refine Qd ?_ ?_ <;> intro h5 <;> simp -failIfUnchanged [-List.getD_eq_getElem?_getD, -UInt8.toNat_or] at h5
   refine ZO ?_
   exact ih _ (by omega) b (j + 3) acc rfl ⟨by omega, by omega, by omega, by rw [<- k4, QlJ h2 h4 h5]⟩
   refine ZO ?_
   exact ih _ (by omega) b (j + 2) acc rfl ⟨by omega, by omega, by omega, by rw [<- k4, Qoi h3 h2 h4 (fun q => h5 q.1 q.2)]⟩
   refine Qd (fun h5 => ?_) (fun h5 => ?_)
   simp -failIfUnchanged [-List.getD_eq_getElem?_getD, -UInt8.toNat_or] at h5
   refine ZO ?_
   exact ih _ (by omega) b (j + 2) acc rfl ⟨by omega, by omega, by omega, by rw [<- k4, Qjb h3 h2 (.inl h5)]⟩
   simp -failIfUnchanged [-List.getD_eq_getElem?_getD, -UInt8.toNat_or] at h5
   refine Qd ?_ ?_ <;> intro h6 <;> simp -failIfUnchanged [-List.getD_eq_getElem?_getD, -UInt8.toNat_or] at h6
   refine ZO ?_
   exact ih _ (by omega) b (j + 2) acc rfl ⟨by omega, by omega, by omega, by rw [<- k4, Qjb h3 h2 (.inr h6)]⟩
   refine ZO (ZO ?_)
   refine QJ (fun v1 h7 => ?_) (fun h7 => ?_)
   intro h8
   simp -failIfUnchanged [-List.getD_eq_getElem?_getD, -UInt8.toNat_or] at h8
   refine ZO ?_
   exact ih _ (by omega) v1.2 v1.2 (acc ++ v1.1) rfl ⟨by omega, by omega, by rw [List.length_append]; omega, by rw [<- k4, QgA h1 h2 (by omega) (v := v1.1) (k := v1.2) h7]⟩
   intro j2
   exact Qa hk (by rw [<- k4]; exact QgB h1 h2 (by omega) h7) _
   refine ZO (ZO ?_)
   refine QJ (fun v3 h4 => ?_) (fun h4 => ?_)
   intro h5
   simp -failIfUnchanged [-List.getD_eq_getElem?_getD, -UInt8.toNat_or] at h5
   refine ZO ?_
   exact ih _ (by omega) v3.2 v3.2 (acc ++ v3.1) rfl ⟨by omega, by omega, by rw [List.length_append]; omega, by rw [<- k4, QgA h1 h2 (by omega) (v := v3.1) (k := v3.2) h4]⟩
   intro j4
   exact Qa hk (by rw [<- k4]; exact QgB h1 h2 (by omega) h4) _
   refine Qd (fun h3 => ?_) (fun h3 => ?_)
   simp -failIfUnchanged [-List.getD_eq_getElem?_getD, -UInt8.toNat_or] at h3
   refine Qd ?_ ?_ <;> intro h4 <;> simp -failIfUnchanged [-List.getD_eq_getElem?_getD, -UInt8.toNat_or] at h4
   exfalso
   omega
   refine ZO ?_
   have q := Qi hk (k4.symm.trans (Qoj h1 h2 h3)) ⟨by dsimp only; omega, by dsimp only; omega, by dsimp only; omega⟩
   dsimp only at q
   exact q
   simp -failIfUnchanged [-List.getD_eq_getElem?_getD, -UInt8.toNat_or] at h3
   refine Qd ?_ ?_ <;> intro h4 <;> simp -failIfUnchanged [-List.getD_eq_getElem?_getD, -UInt8.toNat_or] at h4
   exact Qa hk (by rw [<- k4]; exact QcG h1 h2 h3 (by simp [Y4]; omega)) _
   refine Qd (fun h5 => ?_) (fun h5 => ?_)
   simp -failIfUnchanged [-List.getD_eq_getElem?_getD, -UInt8.toNat_or] at h5
   exact Qa hk (by rw [<- k4]; exact QcG h1 h2 h3 (by simp [Y4]; omega)) _
   simp -failIfUnchanged [-List.getD_eq_getElem?_getD, -UInt8.toNat_or] at h5
   refine Qd ?_ ?_ <;> intro h6 <;> simp -failIfUnchanged [-List.getD_eq_getElem?_getD, -UInt8.toNat_or] at h6
   exact Qa hk (by rw [<- k4]; exact QcG h1 h2 h3 (by simp [Y4]; omega)) _
   exact L9 _ b j j acc rfl ⟨⟨k1, k2, k3, k4⟩, Nat.le_refl _, k2, ⟨h1, by simp [QhY, Y4]; omega⟩, fun m a c => by omega, fun b' j' acc' hlt h' => ih _ (by omega) b' j' acc' rfl h'⟩
   refine Qd (fun h2 => ?_) (fun h2 => ?_)
   simp -failIfUnchanged [-List.getD_eq_getElem?_getD, -UInt8.toNat_or] at h2
   exact Qa hk (by rw [<- k4]; exact QkC h1) _
   simp -failIfUnchanged [-List.getD_eq_getElem?_getD, -UInt8.toNat_or] at h2
   refine ZO ?_
   exfalso
   omega
 refine Us.en ((i + 2 <= 9223372036854775807) /\ cond (decide (s.length < i + 2)) (K (.val (.tup [(.str []), .ifx])) (some (.blk 94 [(.str s), (.nat i), (.nat d), (.bool a)]))) ((i < s.length) /\ (i + 1 <= 9223372036854775807) /\ (Us).L K 6 (mkS 176 [(0, (.ptr 0 0)), (2, (.str [])), (4, (.nat (i + 1))), (5, (.byt (s.getD i 0)))] [(0, .blk 94 [(.str s), (.nat i), (.nat d), (.bool a)])] 1))) ?_
 refine ZO ?_
 refine Qd ?_ ?_ <;> intro h1 <;> simp -failIfUnchanged [-List.getD_eq_getElem?_getD, -UInt8.toNat_or] at h1
 exact Qa hk (by unfold Jl; rw [if_pos h1]) _
 refine ZO (ZO ?_)
 exact L6 _ i (i + 1) [] rfl ⟨by omega, by omega, by simp, by unfold Jl; rw [if_neg (by omega)]⟩
 exact hP.elim
def Ye (s : Bs) (i : Nat) : Option (Nat × Nat) :=
 if Yb s i = i then none
 else if YA ((s.take (Yb s i)).drop i) <= 9223372036854775807 then some (YA ((s.take (Yb s i)).drop i), Yb s i) else none
theorem Q1 (s : Bs) (i : Nat) : Qdn s i = (Ye s i).map fun p => ((p.1 : Int), p.2) := by
 unfold Qdn Ye
 split
 rfl
 split <;> rfl
theorem Qli {s : Bs} {i : Nat} (h : i < s.length /\ Qy (bat s i) = true) : Yb s i = Yb s (i + 1) := by
 conv => lhs; rw [Yb, if_pos h]
theorem QbH {s : Bs} {i : Nat} (h : ¬ (i < s.length /\ Qy (bat s i) = true)) : Yb s i = i := by
 rw [Yb, if_neg h]
theorem Qpt {s : Bs} {a e : Nat} {c : UInt8} (h : c ∈ (s.take e).drop a) : ∃ m, a <= m /\ m < e /\ c.toNat = bat s m := by
 obtain ⟨n, hn, rfl⟩ := List.getElem_of_mem h
 simp only [List.length_drop, List.length_take] at hn
 refine ⟨a + n, by omega, by omega, ?_⟩
 have : bat s (a + n) = (s[a + n]).toNat := by
  unfold bat; rw [List.getD_eq_getElem?_getD, List.getElem?_eq_getElem (by omega)]; rfl
 rw [this]
 simp
def c146 (svs : List SV) (b : Option SB) (K : Out -> Option SB -> Prop) : Prop := match svs, b with
 | [.ptr 0 0], some (.blk 94 [.str s, .nat i, .nat d, .bool a]) => s.length <= 1000000 /\ i <= s.length /\ Qx (Ye s i) (fun v => i < v.2 /\ v.2 <= s.length /\ v.1 <= 9223372036854775807 -> K (.val (.tup [.nat v.1, .nilif])) (some (.blk 94 [.str s, .nat v.2, .nat d, .bool a]))) (∀ j, K (.val (.tup [.nat 0, .ifx])) (some (.blk 94 [.str s, .nat j, .nat d, .bool a])))
 | _, _ => False
noncomputable def Qi0 : Wk := ⟨[(71, .pure c71), (153, .plain c153)], Qm Tryz.f146, true, false, [.tmp 2, .tmp 3], [3, 71], [(3, 49)], []⟩
theorem Qsa : Has 146 := hsf Tryz.f146
theorem Qm0 {p q : Prop} (k : q) (h : p := by first | omega | (simp; done) | (simp; omega) | (simp; assumption) | (rw [kc]; omega) | exact kd) : p /\ q := ⟨h, k⟩
theorem laz2 {c0 p0 q : Prop} (k : q) (h : c0 -> p0 /\ True := by intro g0; (try simp at g0); exact ⟨(by first | omega | (simp; done) | (simp; omega) | (simp; assumption) | (rw [kc]; omega) | exact kd), trivial⟩) : (c0 -> p0 /\ True) /\ q := ⟨h, k⟩
theorem Qq3 : Sat 146 c146 := by
 have hD : Qe Qi0.D := (Qe.cons Zt Zr (Qe.cons Qr7 Qq0 Qe.nil))
 refine Qi0.sa hD Tryz.f146 fun svs b K hP => ?_
 unfold c146 at hP
 split at hP
 rename_i s i d a
 obtain ⟨h01, h02, hk⟩ := hP
 have L3 : ∀ (mm : Nat) (j : Nat), s.length - j = mm -> (i <= j /\ j <= s.length /\ Yb s j = Yb s i /\ ∀ m, i <= m -> m < j -> Qy (bat s m) = true) -> Qi0.L K 3 (mkS 63 [(0, (.ptr 0 0)), (4, (.nat j)), (5, (.nat i))] [(0, .blk 94 [(.str s), (.nat i), (.nat d), (.bool a)])] 1) := by
  intro mm
  induction mm using Nat.strongRecOn with
  | _ mm ih =>
   intro j hm hI
   obtain ⟨k1, k2, k3, k4⟩ := hI
   have kc := Zn (a := i) k2
   have kd : ∀ c ∈ (s.take j).drop i, Qy c.toNat = true := fun c hc => by
    obtain ⟨m, q1, q2, q3⟩ := Qpt hc
    rw [q3]; exact k4 m q1 q2
   refine Qi0.aL hD (have a0 := (s.take j).drop i; have a1 : Option SB := some (.blk 94 [(.str s), (.nat j), (.nat d), (.bool a)]); have a2 := (decide (j < s.length)) && (decide (48 <= bat s j)); ((decide (j < s.length)) = true -> (j < s.length) /\ True) /\ (a2 = true -> (j < s.length) /\ True) /\ cond (a2 && (decide (bat s j <= 57))) ((j + 1 <= 9223372036854775807) /\ (Qi0).L K 3 (mkS 63 [(0, (.ptr 0 0)), (4, (.nat (j + 1))), (5, (.nat i))] [(0, .blk 94 [(.str s), (.nat i), (.nat d), (.bool a)])] 1)) (cond (decide (j = i)) (K (.val (.tup [(.nat 0), .ifx])) (some (.blk 94 [(.str s), (.nat i), (.nat d), (.bool a)]))) ((i <= j /\ j <= s.length) /\ (a0.length <= 1000000) /\ (0 < a0.length) /\ (∀ c ∈ a0, Qy c.toNat = true) /\ cond (decide (YA a0 <= 9223372036854775807)) (K (.val (.tup [(.nat (YA a0)), .nilif])) a1) (∀ n1 : Int, K (.val (.tup [(.nat 0), .ifx])) a1)))) ?_
   refine laz2 (laz2 ?_)
   refine Qd ?_ ?_ <;> intro h1 <;> simp -failIfUnchanged [-List.getD_eq_getElem?_getD, -UInt8.toNat_or] at h1
   refine Qm0 ?_
   exact ih _ (by omega) (j + 1) rfl ⟨by omega, by omega, by rw [<- k3, Qli (s := s) (i := j) ⟨h1.1.1, by simp [Qy]; omega⟩], fun m a c => by
    by_cases e : m = j
    rw [e]; simp [Qy]; omega
    exact k4 m a (by omega)⟩
   refine Qd (fun h2 => ?_) (fun h2 => ?_)
   simp -failIfUnchanged [-List.getD_eq_getElem?_getD, -UInt8.toNat_or] at h2
   have e : Yb s i = j := by rw [<- k3, QbH (fun q => by simp only [Qy, Bool.and_eq_true, decide_eq_true_eq] at q; have := h1 q.1 q.2.1; omega)]
   exact Qa hk (by unfold Ye; rw [e, if_pos h2]) _
   simp -failIfUnchanged [-List.getD_eq_getElem?_getD, -UInt8.toNat_or] at h2
   refine Qm0 (Qm0 (Qm0 (Qm0 ?_)))
   refine Qd ?_ ?_ <;> intro h3 <;> simp -failIfUnchanged [-List.getD_eq_getElem?_getD, -UInt8.toNat_or] at h3
   have e : Yb s i = j := by rw [<- k3, QbH (fun q => by simp only [Qy, Bool.and_eq_true, decide_eq_true_eq] at q; have := h1 q.1 q.2.1; omega)]
   have q := Qi hk (show Ye s i = some (YA ((s.take j).drop i), j) from by unfold Ye; rw [e, if_neg h2, if_pos h3]) ⟨by dsimp only; omega, by dsimp only; omega, by dsimp only; omega⟩
   dsimp only at q
   exact q
   intro n1
   have e : Yb s i = j := by rw [<- k3, QbH (fun q => by simp only [Qy, Bool.and_eq_true, decide_eq_true_eq] at q; have := h1 q.1 q.2.1; omega)]
   exact Qa hk (by unfold Ye; rw [e, if_neg h2, if_neg (by omega)]) _
 refine Qi0.en ((Qi0).L K 3 (mkS 63 [(0, (.ptr 0 0)), (4, (.nat i)), (5, (.nat i))] [(0, .blk 94 [(.str s), (.nat i), (.nat d), (.bool a)])] 1)) ?_
 exact L3 _ i rfl ⟨Nat.le_refl _, h02, rfl, fun m a c => by omega⟩
 exact hP.elim
end
end Go.Proofs.YtengepcafdnalaaGreatDoor
