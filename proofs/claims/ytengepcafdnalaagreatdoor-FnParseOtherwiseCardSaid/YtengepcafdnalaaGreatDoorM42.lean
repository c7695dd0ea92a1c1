/-
  Parts of the proof that the law FnParseOtherwise holds for every input (texts Nd, Wk, Nf). Conditions: none.
-/
import Derived.Test.YtengepcafdnalaaGreatDoorM41
namespace Go.Proofs.YtengepcafdnalaaGreatDoor
section
open Go Go.RowKit
set_option maxRecDepth 20000
def mbL : List SelD -> Nat
 | [] => 0
 | x :: l => min (x.key.length + x.val.length) 1000 + mbL l
theorem QjI : ∀ a b : List SelD, mbL (a ++ b) = mbL a + mbL b
 | [], b => by simp [mbL]
 | x :: a, b => by simp only [List.cons_append, mbL, QjI a b]; omega
theorem Qhb {l : List SelD} {i : Nat} (h : i < l.length) : mbL (l.take (i + 1)) = mbL (l.take i) + min ((l.getD i default).key.length + (l.getD i default).val.length) 1000 := by
 rw [List.take_add_one, List.getElem?_eq_getElem h, QjI]
 simp [mbL, List.getD_eq_getElem?_getD, List.getElem?_eq_getElem h]
theorem QrT {l : List SelD} : ∀ {i : Nat}, mbL (l.take i) <= 1000 * i := by
 intro i
 induction i with
 | zero => simp [mbL]
 | succ i ih =>
  by_cases h : i < l.length
  rw [Qhb h]; omega
  rw [List.take_of_length_le (by omega)] at ih ⊢; omega
theorem Qcp {l : List SelD} (h : mbL l <= 500) : ∀ x ∈ l, x.key.length + x.val.length <= 500 := by
 induction l with
 | nil => intro x hx; cases hx
 | cons y l ih =>
  intro x hx
  rw [mbL] at h
  rcases List.mem_cons.1 hx with e | e
  subst e; omega
  exact ih (by omega) x e
def QbV (x : SelD) : Bool := (decide (x.kind = 15) || (decide (x.kind = 16) || decide (x.kind = 17))) && !QaE x.val
def QaV (l : List SelD) : Bool :=
 if 60 < l.length then false else (List.range l.length).all (fun i => !QbV (l.getD i default)) && (decide (mbL l <= 500) && UM l)
theorem Qnx {l : List SelD} (h : Qbm l = true) : l.length <= 2147483647 /\ ∀ j, j < l.length -> (l.getD j default).key.length <= 2147483647 /\ (l.getD j default).val.length <= 2147483647 := by
 unfold Qbm at h
 rw [Bool.and_eq_true, J2] at h
 refine ⟨by have := h.1; simp at this; omega, fun j hj => ?_⟩
 have := h.2 j hj
 unfold Qd8 at this
 rw [Bool.and_eq_true] at this
 obtain ⟨h1, h2⟩ := this
 simp only [Bool.not_eq_true', decide_eq_false_iff_not] at h1 h2
 omega
def c15 (svs : List SV) (b : Option SB) : QR := match svs, b with
 | [.sl (.sels l)], none => some ([Qbm l = true], .bool (QaV l))
 | _, _ => none
noncomputable def W15 : Wk := ⟨[(31, .pure c31), (32, .pure c32)], Qm Tryz.f15, false, false, [.tmp 2], [4], [(5, 25)], []⟩
theorem has15 : Has 15 := hsf Tryz.f15
theorem ndz2 {c0 p0 p1 q : Prop} (k : q) (h : c0 -> p0 /\ p1 /\ True := by intro g0; (try simp at g0); exact ⟨(by first | omega | (have := f2 i h1; omega) | (have := Qcp (l := l) (by have := k5 (by omega); omega); intro x hx; have := this x hx; omega) | (simp; done) | assumption), (by first | omega | (have := f2 i h1; omega) | (have := Qcp (l := l) (by have := k5 (by omega); omega); intro x hx; have := this x hx; omega) | (simp; done) | assumption), trivial⟩) : (c0 -> p0 /\ p1 /\ True) /\ q := ⟨h, k⟩
theorem ndz1 {c0 p0 q : Prop} (k : q) (h : c0 -> p0 /\ True := by intro g0; (try simp at g0); exact ⟨(by first | omega | (have := f2 i h1; omega) | (have := Qcp (l := l) (by have := k5 (by omega); omega); intro x hx; have := this x hx; omega) | (simp; done) | assumption), trivial⟩) : (c0 -> p0 /\ True) /\ q := ⟨h, k⟩
theorem Qk6 {p q : Prop} (k : q) (h : p := by first | omega | (have := f2 i h1; omega) | (have := Qcp (l := l) (by have := k5 (by omega); omega); intro x hx; have := this x hx; omega) | (simp; done) | assumption) : p /\ q := ⟨h, k⟩
theorem sat15 : Sat 15 (QC c15) := by
 have hD : Qe W15.D := (Qe.cons has31 sat31 (Qe.cons has32 sat32 Qe.nil))
 refine W15.sa hD Tryz.f15 fun svs b K hP => ?_
 obtain ⟨ps, v, e, hp, hk⟩ := Qo hP
 unfold c15 at e
 split at e
 rename_i l
 cases e
 obtain ⟨h01, _⟩ := hp
 obtain ⟨f1, f2⟩ := Qnx h01
 have L5 : ∀ (mm : Nat) (b : Nat) (i : Nat), l.length - i = mm -> (l.length <= 60 /\ i <= l.length /\ (∀ j, j < i -> (!QbV (l.getD j default)) = true) /\ b = mbL (l.take i)) -> W15.L K 5 (mkS 61 [(0, (.sl (.sels l))), (3, (.nat b)), (4, (.nat i))] [] 1) := by
  intro mm
  induction mm using Nat.strongRecOn with
  | _ mm ih =>
   intro b i hm hI
   obtain ⟨k0, k1, k2, k3⟩ := hI
   have k4 := QrT (l := l) (i := i)
   have k5 : i = l.length -> b = mbL l := fun q => by rw [k3, q, List.take_length]
   refine W15.aL hD (have a1 := l.getD i default; have a0 := ((decide (a1.kind = (15 : Int))) || (decide (a1.kind = (16 : Int)))) || (decide (a1.kind = (17 : Int))); have a2 := min ((a1.key).length + (a1.val).length) 1000; cond (decide (i < l.length)) ((i < l.length) /\ (i < l.length) /\ ((a1.key).length + (a1.val).length <= 9223372036854775807) /\ (b + a2 <= 9223372036854775807) /\ (i < l.length) /\ (a0 = true -> (i < l.length) /\ True) /\ (a0 = true -> ((a1.val).length <= 1000000000000) /\ True) /\ cond (a0 && (!(QaE (a1.val)))) (K (.val (.bool false)) none) ((i + 1 <= 9223372036854775807) /\ (W15).L K 5 (mkS 61 [(0, (.sl (.sels l))), (3, (.nat (b + a2))), (4, (.nat (i + 1)))] [] 1))) (((decide (b <= 500)) = true -> (l.length <= 1000) /\ (∀ x ∈ l, x.key.length <= 1000 /\ x.val.length <= 1000) /\ True) /\ K (.val (.bool ((decide (b <= 500)) && (UM l)))) none)) ?_
   refine Qd ?_ ?_ <;> intro h1 <;> simp -failIfUnchanged [-List.getD_eq_getElem?_getD, -UInt8.toNat_or] at h1
   refine Qk6 (Qk6 (Qk6 (Qk6 (Qk6 (ndz1 (ndz1 ?_))))))
   refine Qd ?_ ?_ <;> intro h2 <;> simp -failIfUnchanged [-List.getD_eq_getElem?_getD, -UInt8.toNat_or] at h2
   refine VE hk ?_
   unfold QaV
   rw [if_neg (by omega), Ur (p := fun i => !QbV (l.getD i default)) h1 (by unfold QbV; simp only [h2.2]; have := h2.1; simp [-List.getD_eq_getElem?_getD]; omega)]
   rfl
   refine Qk6 ?_
   exact ih _ (by omega) _ (i + 1) rfl ⟨k0, by omega, fun j hj => by
    rcases (by omega : j < i \/ j = i) with q | q
    exact k2 j q
    subst q
    unfold QbV
    by_cases hc : ((l.getD j default).kind = 15 \/ (l.getD j default).kind = 16) \/ (l.getD j default).kind = 17
    rw [h2 hc]; simp
    have e1 : (decide ((l.getD j default).kind = 15) || (decide ((l.getD j default).kind = 16) || decide ((l.getD j default).kind = 17))) = false := by simp only [Bool.or_eq_false_iff, decide_eq_false_iff_not]; omega
    rw [e1]; rfl, by rw [Qhb h1, k3]⟩
   refine ndz2 ?_
   refine VE hk ?_
   unfold QaV
   rw [if_neg (by omega), J1 (p := fun i => !QbV (l.getD i default)) (fun j hj => k2 j (by omega)), k5 (by omega)]
   rfl
 refine W15.en (cond (decide (60 < l.length)) (K (.val (.bool false)) none) ((W15).L K 5 (mkS 61 [(0, (.sl (.sels l))), (3, (.nat 0)), (4, (.nat 0))] [] 1))) ?_
 refine Qd ?_ ?_ <;> intro h1 <;> simp -failIfUnchanged [-List.getD_eq_getElem?_getD, -UInt8.toNat_or] at h1
 refine VE hk ?_
 unfold QaV
 rw [if_pos h1]
 exact L5 _ 0 0 rfl ⟨h1, by omega, fun j hj => by omega, rfl⟩
 cases e
def c57i (svs : List SV) (b : Option SB) : QR := match svs, b with
 | [.agg [.int .i64 k, .int .i64 o, .str ke, .str va, .int .i64 a, .int .i64 bb, .int .i64 fl, .int .i64 sz]], none => some ([Way.Fld (SelD.mk k o ke va a bb fl sz), Qp (SelD.mk k o ke va a bb fl sz).kind = true /\ ¬ ((SelD.mk k o ke va a bb fl sz).kind = 18 \/ (SelD.mk k o ke va a bb fl sz).kind = 19 \/ (SelD.mk k o ke va a bb fl sz).kind = 20), (SelD.mk k o ke va a bb fl sz).key.length + (SelD.mk k o ke va a bb fl sz).val.length <= 100000], .str (Qq (SelD.mk k o ke va a bb fl sz)))
 | _, _ => none
noncomputable def W57 : Wk := ⟨[(62, .pure c62), (81, .pure c81), (82, .pure c82), (83, .pure c83)], Qm Tryz.f57, false, false, [.tmp 2], [9], [], []⟩
theorem has57 : Has 57 := hsf Tryz.f57
theorem Yu {p q : Prop} (k : q) (h : p := by first | omega | (simp only [List.length_append, List.length_cons, List.length_nil]; omega) | (unfold inI; omega) | (simp; done)) : p /\ q := ⟨h, k⟩
theorem QqN : Sat 57 (QC c57i) := by
 have hD : Qe W57.D := (Qe.cons Qj0 Qjh (Qe.cons Qqh QpO (Qe.cons Qng Ql2 (Qe.cons Qqg QpN Qe.nil))))
 refine W57.sa hD Tryz.f57 fun svs b K hP => ?_
 obtain ⟨ps, v, e, hp, hk⟩ := Qo hP
 unfold c57i at e
 split at e
 rename_i k o ke va a bb fl sz
 cases e
 obtain ⟨h01, ⟨h02, h03⟩, h04, _⟩ := hp
 simp only [Qp, Bool.and_eq_true, decide_eq_true_eq] at h02 h03 h04
 obtain ⟨r1, r2, r3, r4⟩ := h01.rng
 have f5 := h01.attr
 have f6 := h01.nth
 have f7 := h01.only
 simp only at r1 r2 r3 r4 f5 f6 f7
 have l1 := VL ke
 have l2 := VL va
 have l3 := Jw va
 have l4 := YR (a := a) (b := bb) (by omega) (by omega)
 have s1 := QY (l := Vz) (n := 2) (by decide) o.toNat
 have s2 := QY (l := ([[], [32, 105]] : List Bs)) (n := 2) (by decide) fl.toNat
 have s3 := QY (l := Q3) (n := 12) (by decide) fl.toNat
 have s4 := QY (l := VP) (n := 7) (by decide) fl.toNat
 have s5 := QY (l := Qw) (n := 8) (by decide) (k - 8).toNat
 unfold Q3 at s3
 unfold VP at s4
 unfold Qw at s5
 refine W57.en (have a0 := ([[99, 104, 105, 108, 100], [108, 97, 115, 116, 45, 99, 104, 105, 108, 100], [111, 102, 45, 116, 121, 112, 101], [108, 97, 115, 116, 45, 111, 102, 45, 116, 121, 112, 101]] : List (List UInt8)).getD ((fl).toNat) []; have a1 := ([[101, 109, 112, 116, 121], [114, 111, 111, 116], [105, 110, 112, 117, 116], [108, 105, 110, 107], [101, 110, 97, 98, 108, 101, 100], [100, 105, 115, 97, 98, 108, 101, 100], [99, 104, 101, 99, 107, 101, 100]] : List (List UInt8)).getD (((k - (8 : Int))).toNat) []; have a2 := ([[], [32, 105]] : List (List UInt8)).getD ((fl).toNat) []; have a3 := ([[99, 104, 105, 108, 100], [], [111, 102, 45, 116, 121, 112, 101]] : List (List UInt8)).getD ((fl).toNat) []; have a4 := Vz.getD (o).toNat []; have a5 := va.length <= 100000; cond (decide (k = (1 : Int))) (K (.val (.str [42])) none) (cond (decide (k = (2 : Int))) ((ke.length <= 100000) /\ K (.val (.str (Qs ke))) none) (cond (decide (k = (3 : Int))) (a5 /\ (1 + (Qs va).length <= 2305843009213693952) /\ K (.val (.str ([46] ++ (Qs va)))) none) (cond (decide (k = (4 : Int))) (a5 /\ (1 + (Qs va).length <= 2305843009213693952) /\ K (.val (.str ([35] ++ (Qs va)))) none) (cond (decide (k = (5 : Int))) (cond (decide (o = (1 : Int))) ((ke.length <= 100000) /\ (1 + (Qs ke).length <= 2305843009213693952) /\ (([91] ++ (Qs ke)).length + 1 <= 2305843009213693952) /\ K (.val (.str ([91] ++ (Qs ke) ++ [93]))) none) ((ke.length <= 100000) /\ (1 + (Qs ke).length <= 2305843009213693952) /\ (0 <= o /\ o < 9) /\ (([91] ++ (Qs ke)).length + a4.length <= 2305843009213693952) /\ a5 /\ (([91] ++ (Qs ke) ++ a4).length + (QQ va).length <= 2305843009213693952) /\ (0 <= fl /\ fl < (2 : Nat)) /\ (([91] ++ (Qs ke) ++ a4 ++ (QQ va)).length + a2.length <= 2305843009213693952) /\ (([91] ++ (Qs ke) ++ a4 ++ (QQ va) ++ a2).length + 1 <= 2305843009213693952) /\ K (.val (.str ([91] ++ (Qs ke) ++ a4 ++ (QQ va) ++ a2 ++ [93]))) none)) (cond (decide (k = (6 : Int))) ((0 <= fl /\ fl < (4 : Nat)) /\ (5 + a0.length <= 2305843009213693952) /\ (([58, 110, 116, 104, 45] ++ a0).length + 1 <= 2305843009213693952) /\ (-100000000000000000 <= a /\ a <= 100000000000000000) /\ (-100000000000000000 <= bb /\ bb <= 100000000000000000) /\ (([58, 110, 116, 104, 45] ++ a0 ++ [40]).length + (QF a bb).length <= 2305843009213693952) /\ (([58, 110, 116, 104, 45] ++ a0 ++ [40] ++ (QF a bb)).length + 1 <= 2305843009213693952) /\ K (.val (.str ([58, 110, 116, 104, 45] ++ a0 ++ [40] ++ (QF a bb) ++ [41]))) none) (cond (decide (k = (7 : Int))) ((0 <= fl /\ fl < (3 : Nat)) /\ ((fl).toNat < 3) /\ (6 + a3.length <= 2305843009213693952) /\ K (.val (.str ([58, 111, 110, 108, 121, 45] ++ a3))) none) (cond (decide (k = (15 : Int))) (a5 /\ (6 + (Qs va).length <= 2305843009213693952) /\ (([58, 108, 97, 110, 103, 40] ++ (Qs va)).length + 1 <= 2305843009213693952) /\ K (.val (.str ([58, 108, 97, 110, 103, 40] ++ (Qs va) ++ [41]))) none) (cond (decide (k = (16 : Int))) (a5 /\ (10 + (QQ va).length <= 2305843009213693952) /\ (([58, 99, 111, 110, 116, 97, 105, 110, 115, 40] ++ (QQ va)).length + 1 <= 2305843009213693952) /\ K (.val (.str ([58, 99, 111, 110, 116, 97, 105, 110, 115, 40] ++ (QQ va) ++ [41]))) none) (cond (decide (k = (17 : Int))) (a5 /\ (13 + (QQ va).length <= 2305843009213693952) /\ (([58, 99, 111, 110, 116, 97, 105, 110, 115, 79, 119, 110, 40] ++ (QQ va)).length + 1 <= 2305843009213693952) /\ K (.val (.str ([58, 99, 111, 110, 116, 97, 105, 110, 115, 79, 119, 110, 40] ++ (QQ va) ++ [41]))) none) ((inI (k - (8 : Int))) /\ (0 <= (k - (8 : Int)) /\ (k - (8 : Int)) < (7 : Nat)) /\ (((k - (8 : Int))).toNat < 7) /\ (1 + a1.length <= 2305843009213693952) /\ K (.val (.str ([58] ++ a1))) none))))))))))) ?_
 refine Qd ?_ ?_ <;> intro h1 <;> simp -failIfUnchanged [-List.getD_eq_getElem?_getD, -UInt8.toNat_or] at h1
 refine ZP hk ?_
 simp [Qq, h1, Q3, VP, Qw, -List.getD_eq_getElem?_getD]
 refine Qd (fun h2 => ?_) (fun h2 => ?_)
 simp -failIfUnchanged [-List.getD_eq_getElem?_getD, -UInt8.toNat_or] at h2
 refine Yu ?_
 refine ZP hk ?_
 simp [Qq, h1, h2, Q3, VP, Qw, -List.getD_eq_getElem?_getD]
 simp -failIfUnchanged [-List.getD_eq_getElem?_getD, -UInt8.toNat_or] at h2
 refine Qd ?_ ?_ <;> intro h3 <;> simp -failIfUnchanged [-List.getD_eq_getElem?_getD, -UInt8.toNat_or] at h3
 refine Yu (Yu ?_)
 refine ZP hk ?_
 simp [Qq, h1, h2, h3, Q3, VP, Qw, -List.getD_eq_getElem?_getD]
 refine Qd (fun h4 => ?_) (fun h4 => ?_)
 simp -failIfUnchanged [-List.getD_eq_getElem?_getD, -UInt8.toNat_or] at h4
 refine Yu (Yu ?_)
 refine ZP hk ?_
 simp [Qq, h1, h2, h3, h4, Q3, VP, Qw, -List.getD_eq_getElem?_getD]
 simp -failIfUnchanged [-List.getD_eq_getElem?_getD, -UInt8.toNat_or] at h4
 refine Qd ?_ ?_ <;> intro h5 <;> simp -failIfUnchanged [-List.getD_eq_getElem?_getD, -UInt8.toNat_or] at h5
 refine Qd (fun h6 => ?_) (fun h6 => ?_)
 simp -failIfUnchanged [-List.getD_eq_getElem?_getD, -UInt8.toNat_or] at h6
 refine Yu (Yu (Yu ?_))
 refine ZP hk ?_
 simp [Qq, h1, h2, h3, h4, h5, h6, Q3, VP, Qw, -List.getD_eq_getElem?_getD]
 simp -failIfUnchanged [-List.getD_eq_getElem?_getD, -UInt8.toNat_or] at h6
 refine Yu (Yu (Yu (Yu (Yu (Yu (Yu (Yu (Yu ?_))))))))
 refine ZP hk ?_
 simp [Qq, h1, h2, h3, h4, h5, h6, Q3, VP, Qw, -List.getD_eq_getElem?_getD]
 refine Qd (fun h6 => ?_) (fun h6 => ?_)
 simp -failIfUnchanged [-List.getD_eq_getElem?_getD, -UInt8.toNat_or] at h6
 refine Yu (Yu (Yu (Yu (Yu (Yu (Yu ?_))))))
 refine ZP hk ?_
 simp [Qq, h1, h2, h3, h4, h5, h6, Q3, VP, Qw, -List.getD_eq_getElem?_getD]
 simp -failIfUnchanged [-List.getD_eq_getElem?_getD, -UInt8.toNat_or] at h6
 refine Qd ?_ ?_ <;> intro h7 <;> simp -failIfUnchanged [-List.getD_eq_getElem?_getD, -UInt8.toNat_or] at h7
 refine Yu (Yu (Yu ?_))
 refine ZP hk ?_
 simp [Qq, h1, h2, h3, h4, h5, h6, h7, Q3, VP, Qw, -List.getD_eq_getElem?_getD]
 refine Qd (fun h8 => ?_) (fun h8 => ?_)
 simp -failIfUnchanged [-List.getD_eq_getElem?_getD, -UInt8.toNat_or] at h8
 refine Yu (Yu (Yu ?_))
 refine ZP hk ?_
 simp [Qq, h1, h2, h3, h4, h5, h6, h7, h8, Q3, VP, Qw, -List.getD_eq_getElem?_getD]
 simp -failIfUnchanged [-List.getD_eq_getElem?_getD, -UInt8.toNat_or] at h8
 refine Qd ?_ ?_ <;> intro h9 <;> simp -failIfUnchanged [-List.getD_eq_getElem?_getD, -UInt8.toNat_or] at h9
 refine Yu (Yu (Yu ?_))
 refine ZP hk ?_
 simp [Qq, h1, h2, h3, h4, h5, h6, h7, h8, h9, Q3, VP, Qw, -List.getD_eq_getElem?_getD]
 refine Qd (fun h10 => ?_) (fun h10 => ?_)
 simp -failIfUnchanged [-List.getD_eq_getElem?_getD, -UInt8.toNat_or] at h10
 refine Yu (Yu (Yu ?_))
 refine ZP hk ?_
 simp [Qq, h1, h2, h3, h4, h5, h6, h7, h8, h9, h10, Q3, VP, Qw, -List.getD_eq_getElem?_getD]
 simp -failIfUnchanged [-List.getD_eq_getElem?_getD, -UInt8.toNat_or] at h10
 refine Yu (Yu (Yu (Yu ?_)))
 refine ZP hk ?_
 simp [Qq, h1, h2, h3, h4, h5, h6, h7, h8, h9, h10, Q3, VP, Qw, -List.getD_eq_getElem?_getD]
 cases e
def c57 (svs : List SV) (b : Option SB) : QR := match svs, b with
 | [x], none => match QaX x with
  | some x => some ([Way.Fld x, Qp x.kind = true /\ ¬ (x.kind = 18 \/ x.kind = 19 \/ x.kind = 20), x.key.length + x.val.length <= 100000], .str (Qq x))
  | _ => none
 | _, _ => none
theorem sat57 : Sat 57 (QC c57) := by
 refine Sat.wk QqN fun svs b K h => ?_
 obtain ⟨ps, v, e, hp, hk⟩ := Qo h
 unfold c57 at e
 split at e
 rename_i x
 split at e
 rename_i x' hx
 cases e
 exact ⟨[.agg (Vl x')], ⟨fun ω v => Zu hx, trivial⟩, hp.1, hp.2.1, hp.2.2.1, hk⟩
 cases e
 cases e
end
section
set_option maxRecDepth 20000
open Go.Proofs.YtengepcafdnalaaGreatDoor.Way
theorem Qh0 {s : Bs} (h : QaE s = true) : low s = s := by
 unfold QaE at h
 rw [J2] at h
 unfold low
 apply List.ext_getElem
 simp
 intro j h1 h2
 have q := h j h2
 simp only [Bool.not_eq_true', Bool.or_eq_false_iff, decide_eq_false_iff_not, Bool.and_eq_false_imp, decide_eq_true_eq] at q
 have e : bat s j = (s[j]).toNat := by simp [bat, List.getD_eq_getElem?_getD, List.getElem?_eq_getElem h2]
 rw [List.getElem_map]
 unfold UT
 rw [if_neg (by rw [<- e]; intro c; exact q.2 c.1 c.2)]
theorem Qhd {x : SelD} (h : (!QbV x) = true) : UG x := by
 intro hk
 apply Qh0
 unfold QbV at h
 have e1 : (decide (x.kind = 15) || (decide (x.kind = 16) || decide (x.kind = 17))) = true := by simp; exact hk
 rw [e1] at h
 simpa using h
mutual
theorem Qjd : ∀ T : ST, (∀ x ∈ T.flat, UG x) -> QaS T
 | .mk x ks, h => by
  rw [ST.flat, QB] at h
  have h1 : UG { x with size := ((ST.flats ks).length : Nat) + 1 } := h _ (List.mem_cons_self ..)
  exact ⟨h1, QgE ks fun y hy => h y (List.mem_cons_of_mem _ hy)⟩
theorem QgE : ∀ ks : List ST, (∀ x ∈ ST.flats ks, UG x) -> Ut ks
 | [], _ => trivial
 | t :: ks, h => by
  rw [ST.flats] at h
  exact ⟨Qjd t fun y hy => h y (List.mem_append_left _ hy), QgE ks fun y hy => h y (List.mem_append_right _ hy)⟩
end
mutual
theorem QfP : ∀ T : ST, ST.ht' T <= T.flat.length
 | .mk x ks => by have := Qhm ks; simp only [ST.ht', ST.flat, QB, List.length_cons]; omega
theorem Qhm : ∀ ks : List ST, ST.hts' ks <= (ST.flats ks).length
 | [] => by simp [ST.hts']
 | t :: ks => by have := QfP t; have := Qhm ks; simp only [ST.hts', ST.flats, List.length_append]; omega
end
theorem Qlv : ∀ {l : List SelD}, mbL l <= 500 -> wtL l <= 100 * l.length + 4 * mbL l
 | [], _ => by simp [wtL]
 | x :: l, h => by
  rw [mbL] at h
  have ih := Qlv (l := l) (by omega)
  rw [wtL, mbL, List.length_cons]
  unfold wtN
  omega
structure Look (l : List SelD) (T : ST) : Prop where
 e : l = T.flat
 r : Yl T
 s : QaS T
 k : T.node.kind = 23 \/ Q9 T.node.kind = true
 n : 0 < l.length /\ l.length <= 60
 w : wtL l <= 8000
theorem Qkv {l : List SelD} (h : QaV l = true) : ∃ T, Look l T := by
 unfold QaV at h
 split at h
 cases h
 rename_i h0
 rw [Bool.and_eq_true, J2, Bool.and_eq_true, decide_eq_true_eq] at h
 obtain ⟨h1, h2, h3⟩ := h
 obtain ⟨T, e, r, k⟩ := Qmf h3
 have hs : ∀ x ∈ T.flat, UG x := by
  rw [<- e]
  intro x hx
  obtain ⟨i, hi, rfl⟩ := List.getElem_of_mem hx
  have := h1 i hi
  rw [List.getD_eq_getElem?_getD, List.getElem?_eq_getElem hi] at this
  exact Qhd this
 refine ⟨T, e, r, Qjd T hs, k, ⟨?_, by omega⟩, ?_⟩
 rw [e]; exact JY T
 have := Qlv h2; omega
section
variable {l : List SelD} {T : ST}
theorem Look.drop0 (h : Look l T) : l.drop 0 = T.flat ++ [] := by simpa using h.e
theorem Look.wat (h : Look l T) : WAt l 2000 0 := ⟨T, [], h.drop0, by have := Qdo T; have := h.n; have := congrArg List.length h.e; omega, h.r⟩
theorem Look.text (h : Look l T) : QcB l = wr T := by
 unfold QcB
 rw [if_neg (by have := h.n; omega)]
 exact Qfi l 2000 0 T [] h.drop0 (by have := Qdo T; have := h.n; have := congrArg List.length h.e; omega)
theorem Look.len (h : Look l T) : (QcB l).length <= 8000 := by
 have q := QhS T h.r
 rw [h.text]
 have := h.w
 rw [h.e] at this
 omega
theorem Look.read (h : Look l T) : ∃ x L, cs T = x :: L /\ (L = [] ↔ (T.node.kind = 23 -> (Qc l 0).length = 1)) /\ ∀ acc, Va (wr T) true acc = (if YN T = true /\ acc = false then none else some (x :: L)) /\
 Va (wr T) false acc = (if YN T = true /\ acc = false then none else if L = [] then some [x] else none) := by
 have hh : ST.ht' T <= 1000 := by have := QfP T; have := h.n; have := congrArg List.length h.e; omega
 have R := QgT 1000 T hh h.r h.s
 by_cases h23 : T.node.kind = 23
 obtain ⟨x, p, t, L, q, u, g1, g2, g3, g4, g5, g6⟩ := R.grp h23
 refine ⟨x, L, g4, ?_, fun acc => ⟨?_, ?_⟩⟩
 . have e : (cs T).length = (Qc l 0).length := by
    obtain ⟨y, ks⟩ := T
    have hr := h.r
    obtain ⟨_, _, hs, _⟩ := hr
    have h23' : y.kind = 23 := h23
    unfold UB at hs
    rw [if_pos h23'] at hs
    have hk := Jx ks 1 [] (Vd h.drop0).2.1
    rw [<- (Vd h.drop0).1] at hk
    have hl : (Qc l 0).length = ks.length := by simpa using congrArg List.length hk
    rw [cs, YC, if_pos h23', Qkh (fun k hk' => by have := hs.1 k hk'; simp [Q9, Qp] at this; omega), hl]
    simp
   rw [<- e, g4]
   simp [h23]
 rw [g3, Uc (QbN.mk g1 g2) (by omega) acc, g5]
 rw [g3, Qeq g1 g2 (by omega) acc, g5]
 have hc : Q9 T.node.kind = true := h.k.resolve_left h23
 have S := R.sel hc
 have g1 := SlS.mk (g1 := []) (g2 := []) .nil S .nil
 rw [List.nil_append, List.append_nil] at g1
 have g2 := JI.nil 1000
 refine ⟨c1 T, [], YB h23, by simp [h23], fun acc => ⟨?_, ?_⟩⟩
 have q := Uc (QbN.mk g1 g2) (by omega) acc
 rw [List.append_nil, Bool.or_false] at q
 exact q
 have q := Qeq g1 g2 (by omega) acc
 rw [List.append_nil, Bool.or_false] at q
 exact q
theorem QbJ (v : List CSel) : Vb true v = (ST.mk Vg (QZ v)).flat := by
 simp [Vb, ST.flat, ZG]
theorem Qj4 (ks : List ST) : VJ (ST.mk Vg ks).flat = (ST.mk Vg ks).flat := by
 unfold VJ
 rw [if_pos]
 simp [ST.flat, QB, Vg]
theorem Qsu {T : ST} (h : T.node.kind ≠ 23) : VJ T.flat = (ST.mk Vg [T]).flat := by
 unfold VJ
 rw [if_neg]
 simp [VO, ST.flat, ST.flats]
 obtain ⟨x, ks⟩ := T
 simpa [ST.flat, QB, ST.node] using h
theorem Look.grp (h : Look l T) : ∃ G : ST, VJ l = G.flat /\ (ST.mk Vg (QZ (cs T))).norm = G.norm /\ Qc (VJ l) 0 = Qc G.flat 0 /\ (T.node.kind ≠ 23 -> G = ST.mk Vg [T]) /\ (T.node.kind = 23 -> G = T) := by
 obtain ⟨n1, n2⟩ := Qg6 _ T (Nat.le_refl _) h.r
 by_cases h23 : T.node.kind = 23
 refine ⟨T, ?_, n2 h23, ?_, fun q => absurd h23 q, fun _ => rfl⟩
 rw [h.e]
 obtain ⟨x, ks⟩ := T
 unfold VJ
 rw [if_pos]
 simpa [ST.flat, QB, ST.node] using h23
 congr 1
 rw [h.e]
 obtain ⟨x, ks⟩ := T
 unfold VJ
 rw [if_pos]
 simpa [ST.flat, QB, ST.node] using h23
 have e : VJ l = (ST.mk Vg [T]).flat := by rw [h.e]; exact Qsu h23
 refine ⟨ST.mk Vg [T], e, ?_, by rw [e], fun _ => rfl, fun q => absurd q h23⟩
 rw [YB h23, Yz (by decide), Yz (by decide), QZ, QZ, ST.norms, ST.norms, ST.norms, ST.norms, n1 h23]
end
def Qgl (t : Bs) (l : List SelD) : Prop := t.length <= 1000000 /\ ∃ v, Va t true true = some v /\ (0 < (Vb true v).length /\ (Vb true v).length <= 10000000) /\ (0 < l.length /\ l.length <= 1000000) /\
 Yt (VJ (Vb true v)) /\ Yt (VJ l) /\ QgN (VJ (Vb true v)) (VJ l) = true
theorem Look.same {l : List SelD} {T : ST} (h : Look l T) {t : Bs} (ht : t.length <= 1000000) (hp : Va t true true = some (cs T)) : Qgl t l := by
 obtain ⟨G, e1, e2, _⟩ := h.grp
 refine ⟨ht, cs T, hp, ⟨?_, ?_⟩, ⟨h.n.1, by have := h.n.2; omega⟩, ?_, ⟨G, e1⟩, ?_⟩
 rw [QbJ]; exact JY _
 have := Qbw hp; omega
 rw [QbJ, Qj4]; exact ⟨_, rfl⟩
 rw [QbJ, Qj4, e1]
 unfold QgN
 rw [Yt.normed, Yt.normed, e2]
 exact QdR _
end
section
open Go Go.RowKit
set_option maxRecDepth 20000
def c18 (svs : List SV) (b : Option SB) : QR := match svs, b with
 | [.str t, .sl (.sels l)], none => some ([Qgl t l], .bool true)
 | _, _ => none
noncomputable def W18 : Wk := ⟨[(11, .plain c11), (12, .pure c12), (13, .pure c13)], Qm Tryz.f18, false, false, [.tmp 4], [4], [], []⟩
theorem has18 : Has 18 := hsf Tryz.f18
theorem nfz2 {c0 p0 p1 p2 q : Prop} (k : q) (h : c0 -> p0 /\ p1 /\ p2 /\ True := by intro g0; (try simp at g0); exact ⟨(by first | omega | (obtain rfl := Option.some.inj (h02.symm.trans h1); first | omega | exact h05 | exact h06)), (by first | omega | (obtain rfl := Option.some.inj (h02.symm.trans h1); first | omega | exact h05 | exact h06)), (by first | omega | (obtain rfl := Option.some.inj (h02.symm.trans h1); first | omega | exact h05 | exact h06)), trivial⟩) : (c0 -> p0 /\ p1 /\ p2 /\ True) /\ q := ⟨h, k⟩
theorem nfz1 {c0 p0 q : Prop} (k : q) (h : c0 -> p0 /\ True := by intro g0; (try simp at g0); exact ⟨(by first | omega | (obtain rfl := Option.some.inj (h02.symm.trans h1); first | omega | exact h05 | exact h06)), trivial⟩) : (c0 -> p0 /\ True) /\ q := ⟨h, k⟩
theorem nfz0 {p q : Prop} (k : q) (h : p := by first | omega | (obtain rfl := Option.some.inj (h02.symm.trans h1); first | omega | exact h05 | exact h06)) : p /\ q := ⟨h, k⟩
theorem sat18 : Sat 18 (QC c18) := by
 have hD : Qe W18.D := (Qe.cons has11 sat11 (Qe.cons has12 sat12 (Qe.cons has13 sat13 Qe.nil)))
 refine W18.sa hD Tryz.f18 fun svs b K hP => ?_
 obtain ⟨ps, v, e, hp, hk⟩ := Qo hP
 unfold c18 at e
 split at e
 rename_i t l
 cases e
 obtain ⟨⟨h01, v, h02, h03, h04, h05, h06, h07⟩, _⟩ := hp
 have g1 := QeK (Vb true v)
 have g2 := QeK l
 refine W18.en ((t.length <= 1000000) /\ Qx (Va t true true) (fun v1 => ((decide (0 < (Vb true v1).length)) = true -> (0 < (Vb true v1).length /\ (Vb true v1).length <= 1000000000) /\ True) /\ ((decide (0 < (Vb true v1).length)) = true -> (0 < l.length /\ l.length <= 1000000000) /\ True) /\ ((decide (0 < (Vb true v1).length)) = true -> ((VJ (Vb true v1)).length <= 1000000000 /\ (VJ l).length <= 1000000000) /\ (Yt (VJ (Vb true v1))) /\ (Yt (VJ l)) /\ True) /\ K (.val (.bool ((decide (0 < (Vb true v1).length)) && (QgN (VJ (Vb true v1)) (VJ l))))) none) ((false = true -> (0 < 0 /\ 0 <= 1000000000) /\ True) /\ (false = true -> (0 < l.length /\ l.length <= 1000000000) /\ True) /\ (false = true -> ((VJ []).length <= 1000000000 /\ (VJ l).length <= 1000000000) /\ (Yt (VJ [])) /\ (Yt (VJ l)) /\ True) /\ K (.val (.bool false)) none)) ?_
 refine nfz0 ?_
 refine QJ (fun v1 h1 => ?_) (fun h1 => ?_)
 refine nfz1 (nfz1 (nfz2 ?_))
 obtain rfl := Option.some.inj (h02.symm.trans h1)
 refine VE hk ?_
 rw [h07, decide_eq_true h03.1]; rfl
 refine ⟨fun g0 => (by cases g0), ?_⟩
 refine ⟨fun g0 => (by cases g0), ?_⟩
 refine ⟨fun g0 => (by cases g0), ?_⟩
 rw [h02] at h1; cases h1
 cases e
def c6 (svs : List SV) (b : Option SB) : QR := match svs, b with
 | [.sl (.sels l)], none => some ([l.length <= 9223372036854775807], .bool true)
 | _, _ => none
def c4 (svs : List SV) (b : Option SB) : QR := match svs, b with
 | [.sl (.sels l), .bool p], none => some ([l.length <= 9223372036854775807], .bool true)
 | _, _ => none
end
end Go.Proofs.YtengepcafdnalaaGreatDoor
