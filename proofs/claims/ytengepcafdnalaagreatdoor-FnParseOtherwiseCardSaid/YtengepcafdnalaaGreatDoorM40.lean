/-
  Parts of the proof that the law FnParseOtherwise holds for every input (texts Nb). Conditions: none.
-/
import Derived.Test.YtengepcafdnalaaGreatDoorM39
namespace Go.Proofs.YtengepcafdnalaaGreatDoor
section
open Go Go.RowKit
set_option maxRecDepth 20000
theorem ZP {K : Out -> Option SB -> Prop} {a c : List UInt8} (hk : K (.val (.str a)) none) (e : a = c) : K (.val (.str c)) none := by rw [e] at hk; exact hk
theorem Qfa {s : Bs} {i : Nat} (h : i < s.length) : (s.take (i + 1)).drop i = [s.getD i 0] := by
 rw [List.drop_take, Nat.add_sub_cancel_left, List.drop_eq_getElem_cons h, List.take_succ_cons, List.take_zero]
 simp [List.getD_eq_getElem?_getD, List.getElem?_eq_getElem h]
theorem Qqt {s : Bs} {i : Nat} (h : i < s.length) : s.drop i = s.getD i 0 :: s.drop (i + 1) := by
 rw [List.drop_eq_getElem_cons h]
 simp [List.getD_eq_getElem?_getD, List.getElem?_eq_getElem h]
theorem Uo (s : Bs) (i : Nat) : bat s i < 256 := Qcx _
theorem Qfx {s o P X : Bs} {h i : Nat} (h1 : i < s.length) (k2 : o ++ nmF h i (s.drop i) = X) (e : nmP h i (s.getD i 0) = P) : (o ++ P) ++ nmF h (i + 1) (s.drop (i + 1)) = X := by
 rw [Qqt h1, nmF, e] at k2
 rw [List.append_assoc]; exact k2
theorem nmP_1 {s : Bs} {i : Nat} (h : ((bat s i < 32 \/ bat s i = 127) \/ (48 <= bat s i /\ bat s i <= 57) /\ (i = 0 \/ i = 1 /\ bat s 0 = 45)) \/ (bat s i = 45 /\ i = 1) /\ bat s 0 = 45) : nmP (bat s 0) i (s.getD i 0) = VR (bat s i) := by
 unfold nmP
 rw [if_pos]
 rfl
 show bat s i < 32 \/ bat s i = 127 \/ (Qy (bat s i) = true /\ (i = 0 \/ (i = 1 /\ bat s 0 = 45))) \/ (bat s i = 45 /\ i = 1 /\ bat s 0 = 45)
 simp only [Qy, Bool.and_eq_true, decide_eq_true_eq]; omega
theorem Qqa {s : Bs} {i : Nat} (h : ((32 <= bat s i /\ ¬bat s i = 127) /\ (48 <= bat s i -> bat s i <= 57 -> ¬i = 0 /\ (i = 1 -> ¬bat s 0 = 45))) /\ (bat s i = 45 -> i = 1 -> ¬bat s 0 = 45)) :
 nmP (bat s 0) i (s.getD i 0) = if QO (bat s i) = true then [s.getD i 0] else [92, s.getD i 0] := by
 unfold nmP
 rw [if_neg]
 rfl
 show ¬ (bat s i < 32 \/ bat s i = 127 \/ (Qy (bat s i) = true /\ (i = 0 \/ (i = 1 /\ bat s 0 = 45))) \/ (bat s i = 45 /\ i = 1 /\ bat s 0 = 45))
 simp only [Qy, Bool.and_eq_true, decide_eq_true_eq]; omega
theorem Qig {s o P X : Bs} {i : Nat} (h1 : i < s.length) (k2 : o ++ qF (s.drop i) = X) (e : qP (s.getD i 0) = P) : (o ++ P) ++ qF (s.drop (i + 1)) = X := by
 rw [Qqt h1, qF, e] at k2
 rw [List.append_assoc]; exact k2
theorem Qml (s : Bs) (i : Nat) : qP (s.getD i 0) = if bat s i < 32 \/ bat s i = 127 then VR (bat s i) else if bat s i = 34 \/ bat s i = 92 then [92, s.getD i 0] else [s.getD i 0] := rfl
def Qd8 (x : SelD) : Bool := !decide (2147483647 < x.key.length) && !decide (2147483647 < x.val.length)
def Qbm (l : List SelD) : Bool := !decide (2147483647 < l.length) && (List.range l.length).all (fun i => Qd8 (l.getD i default))
def QaE (s : Bs) : Bool := (List.range s.length).all (fun i => !(decide (128 <= bat s i) || (decide (65 <= bat s i) && decide (bat s i <= 90))))
def c30i (svs : List SV) (b : Option SB) : QR := match svs, b with
 | [.agg [.int .i64 k, .int .i64 o, .str ke, .str va, .int .i64 a, .int .i64 bb, .int .i64 fl, .int .i64 sz]], none => some ([], .bool (Qd8 ⟨k, o, ke, va, a, bb, fl, sz⟩))
 | _, _ => none
noncomputable def W30 : Wk := ⟨[], Qm Tryz.f30, false, false, [.tmp 2], [4], [], []⟩
theorem has30 : Has 30 := hsf Tryz.f30
theorem QqT : Sat 30 (QC c30i) := by
 have hD : Qe W30.D := Qe.nil
 refine W30.sa hD Tryz.f30 fun svs b K hP => ?_
 obtain ⟨ps, v, e, hp, hk⟩ := Qo hP
 unfold c30i at e
 split at e
 rename_i k o ke va a bb fl sz
 cases e
 refine W30.en (cond (decide (2147483647 < ke.length)) (K (.val (.bool false)) none) (cond (decide (2147483647 < va.length)) (K (.val (.bool false)) none) (K (.val (.bool true)) none))) ?_
 refine Qd (fun h1 => ?_) (fun h1 => ?_)
 skip
 refine VE hk ?_
 simp only [Qd8]
 simp [*]
 skip
 refine Qd (fun h2 => ?_) (fun h2 => ?_)
 skip
 refine VE hk ?_
 simp only [Qd8]
 simp [*]
 skip
 refine VE hk ?_
 simp only [Qd8]
 simp [*]
 cases e
def c30 (svs : List SV) (b : Option SB) : QR := match svs, b with
 | [x], none => match QaX x with
  | some x => some ([], .bool (Qd8 x))
  | _ => none
 | _, _ => none
theorem sat30 : Sat 30 (QC c30) := by
 refine Sat.wk QqT fun svs b K h => ?_
 obtain ⟨ps, v, e, hp, hk⟩ := Qo h
 unfold c30 at e
 split at e
 rename_i x
 split at e
 rename_i x' hx
 cases e
 exact ⟨[.agg (Vl x')], ⟨fun ω v => Zu hx, trivial⟩, hk⟩
 cases e
 cases e
def c14 (svs : List SV) (b : Option SB) : QR := match svs, b with
 | [.sl (.sels l)], none => some ([l.length <= 9223372036854775807], .bool (Qbm l))
 | _, _ => none
noncomputable def W14 : Wk := ⟨[(30, .pure c30)], Qm Tryz.f14, false, false, [.tmp 2], [4], [(4, 1792)], []⟩
theorem has14 : Has 14 := hsf Tryz.f14
theorem Qir {p q : Prop} (k : q) (h : p := by first | omega | (simp; done) | (simp; omega) | (simp; assumption)) : p /\ q := ⟨h, k⟩
theorem sat14 : Sat 14 (QC c14) := by
 have hD : Qe W14.D := (Qe.cons has30 sat30 Qe.nil)
 refine W14.sa hD Tryz.f14 fun svs b K hP => ?_
 obtain ⟨ps, v, e, hp, hk⟩ := Qo hP
 unfold c14 at e
 split at e
 rename_i l
 cases e
 obtain ⟨h01, _⟩ := hp
 have L4 : ∀ (mm : Nat) (i : Nat), l.length - i = mm -> (l.length <= 2147483647 /\ i <= l.length /\ ∀ j, j < i -> Qd8 (l.getD j default) = true) -> W14.L K 4 (mkS 18 [(8, (.sl (.sels l))), (9, (.nat l.length)), (10, (.nat i))] [] 1) := by
  intro mm
  induction mm using Nat.strongRecOn with
  | _ mm ih =>
   intro i hm hI
   obtain ⟨k0, k1, k2⟩ := hI
   refine W14.aL hD (have a0 := l.getD i default; cond (decide (i < l.length)) ((i < l.length) /\ cond (!(Qd8 (SelD.mk (a0.kind) (a0.op) (a0.key) (a0.val) (a0.a) (a0.b) (a0.flag) (a0.size)))) (K (.val (.bool false)) none) ((i + 1 <= 9223372036854775807) /\ (W14).L K 4 (mkS 18 [(8, (.sl (.sels l))), (9, (.nat l.length)), (10, (.nat (i + 1)))] [(1, .blk 33 [(.int .i64 (a0.kind)), (.int .i64 (a0.op)), (.str (a0.key)), (.str (a0.val)), (.int .i64 (a0.a)), (.int .i64 (a0.b)), (.int .i64 (a0.flag)), (.int .i64 (a0.size))])] 2))) (K (.val (.bool true)) none)) ?_
   refine Qd ?_ ?_ <;> intro h1 <;> simp -failIfUnchanged [-List.getD_eq_getElem?_getD, -UInt8.toNat_or] at h1
   refine Qir ?_
   refine Qd ?_ ?_ <;> intro h2 <;> simp -failIfUnchanged [-List.getD_eq_getElem?_getD, -UInt8.toNat_or] at h2
   refine VE hk ?_
   unfold Qbm
   rw [Ur (p := fun i => Qd8 (l.getD i default)) h1 h2, Bool.and_false]
   refine Qir ?_
   exact Wk.L.rn [0] (ih _ (by omega) (i + 1) rfl ⟨k0, by omega, fun j hj => by
    rcases (by omega : j < i \/ j = i) with q | q
    exact k2 j q
    subst q; exact h2⟩)
   refine VE hk ?_
   unfold Qbm
   rw [J1 (fun j hj => k2 j (by omega))]
   simp; omega
 refine W14.en (cond (decide (2147483647 < l.length)) (K (.val (.bool false)) none) ((W14).L K 4 (mkS 18 [(8, (.sl (.sels l))), (9, (.nat l.length)), (10, (.nat 0))] [] 1))) ?_
 refine Qd ?_ ?_ <;> intro h1 <;> simp -failIfUnchanged [-List.getD_eq_getElem?_getD, -UInt8.toNat_or] at h1
 refine VE hk ?_
 unfold Qbm
 rw [decide_eq_true h1]; rfl
 exact L4 _ 0 rfl ⟨by omega, by omega, fun j hj => by omega⟩
 cases e
def c31 (svs : List SV) (b : Option SB) : QR := match svs, b with
 | [.str s], none => some ([s.length <= 1000000000000], .bool (QaE s))
 | _, _ => none
noncomputable def W31 : Wk := ⟨[], Qm Tryz.f31, false, false, [.tmp 2], [4], [(2, 9)], []⟩
theorem has31 : Has 31 := hsf Tryz.f31
theorem nbz2 {c0 c1 p0 q : Prop} (k : q) (h : c0 -> c1 -> p0 /\ True := by intro g0 g1; (try simp at g0); (try simp at g1); exact ⟨(by first | omega | (simp; done) | (simp; omega) | (simp; assumption)), trivial⟩) : (c0 -> c1 -> p0 /\ True) /\ q := ⟨h, k⟩
theorem QmO {c0 p0 q : Prop} (k : q) (h : c0 -> p0 /\ True := by intro g0; (try simp at g0); exact ⟨(by first | omega | (simp; done) | (simp; omega) | (simp; assumption)), trivial⟩) : (c0 -> p0 /\ True) /\ q := ⟨h, k⟩
theorem sat31 : Sat 31 (QC c31) := by
 have hD : Qe W31.D := Qe.nil
 refine W31.sa hD Tryz.f31 fun svs b K hP => ?_
 obtain ⟨ps, v, e, hp, hk⟩ := Qo hP
 unfold c31 at e
 split at e
 rename_i s
 cases e
 obtain ⟨h01, _⟩ := hp
 have L2 : ∀ (mm : Nat) (i : Nat), s.length - i = mm -> (i <= s.length /\ ∀ j, j < i -> (!(decide (128 <= bat s j) || (decide (65 <= bat s j) && decide (bat s j <= 90)))) = true) -> W31.L K 2 (mkS 26 [(0, (.str s)), (3, (.nat i))] [] 1) := by
  intro mm
  induction mm using Nat.strongRecOn with
  | _ mm ih =>
   intro i hm hI
   obtain ⟨k1, k2⟩ := hI
   refine W31.aL hD (have a0 := decide (128 <= bat s i); cond (decide (i < s.length)) ((i < s.length) /\ (a0 = false -> (i < s.length) /\ True) /\ (a0 = false -> (decide (65 <= bat s i)) = true -> (i < s.length) /\ True) /\ cond (a0 || ((decide (65 <= bat s i)) && (decide (bat s i <= 90)))) (K (.val (.bool false)) none) ((i + 1 <= 9223372036854775807) /\ (W31).L K 2 (mkS 26 [(0, (.str s)), (3, (.nat (i + 1)))] [] 1))) (K (.val (.bool true)) none)) ?_
   refine Qd ?_ ?_ <;> intro h1 <;> simp -failIfUnchanged [-List.getD_eq_getElem?_getD, -UInt8.toNat_or] at h1
   refine Qir (QmO (nbz2 ?_))
   refine Qd ?_ ?_ <;> intro h2 <;> simp -failIfUnchanged [-List.getD_eq_getElem?_getD, -UInt8.toNat_or] at h2
   refine VE hk ?_
   unfold QaE
   rw [Ur h1 (by simp; omega)]
   refine Qir ?_
   exact ih _ (by omega) (i + 1) rfl ⟨by omega, fun j hj => by
    rcases (by omega : j < i \/ j = i) with q | q
    exact k2 j q
    subst q; simp; omega⟩
   refine VE hk ?_
   unfold QaE
   rw [J1 (fun j hj => k2 j (by omega))]
 refine W31.en ((W31).L K 2 (mkS 26 [(0, (.str s)), (3, (.nat 0))] [] 1)) ?_
 exact L2 _ 0 rfl ⟨by omega, fun j hj => by omega⟩
 cases e
def c55 (svs : List SV) (b : Option SB) : QR := match svs, b with
 | [.int .i64 n], none => some ([], .bool (Q9 n))
 | _, _ => none
noncomputable def W55 : Wk := ⟨[(80, .pure c80)], Qm Tryz.f55, false, false, [.tmp 2], [4], [], []⟩
theorem Qqj : Has 55 := hsf Tryz.f55
theorem QpQ : Sat 55 (QC c55) := by
 have hD : Qe W55.D := (Qe.cons Qqi QpP Qe.nil)
 refine W55.sa hD Tryz.f55 fun svs b K hP => ?_
 obtain ⟨ps, v, e, hp, hk⟩ := Qo hP
 unfold c55 at e
 split at e
 rename_i n
 cases e
 refine W55.en (K (.val (.bool (((Qp n) || (decide (n = (21 : Int)))) || (decide (n = (22 : Int)))))) none) ?_
 exact hk
 cases e
def c88 (svs : List SV) (b : Option SB) : QR := match svs, b with
 | [.nat n], none => some ([n <= 2147483647], .str (VR n))
 | _, _ => none
noncomputable def W88 : Wk := ⟨[], Qm Tryz.f88, false, false, [.tmp 2], [9], [(2, 9)], []⟩
theorem Qhr : Has 88 := hsf Tryz.f88
theorem Qg8 {p q : Prop} (k : q) (h : p := by first | omega | (simp; done) | (simp; omega) | (simp only [List.length_append, List.length_drop, List.length_take, List.length_cons, List.length_nil]; omega)) : p /\ q := ⟨h, k⟩
theorem QgK : Sat 88 (QC c88) := by
 have hD : Qe W88.D := Qe.nil
 refine W88.sa hD Tryz.f88 fun svs b K hP => ?_
 obtain ⟨ps, v, e, hp, hk⟩ := Qo hP
 unfold c88 at e
 split at e
 rename_i n
 cases e
 obtain ⟨h01, _⟩ := hp
 have L2 : ∀ (mm : Nat) (c : Nat) (o : List UInt8), c = mm -> (Qd7 n [] = Qd7 c o /\ o.length + c <= 2147483647) -> W88.L K 2 (mkS 19 [(0, (.nat c)), (3, (.str o))] [] 1) := by
  intro mm
  induction mm using Nat.strongRecOn with
  | _ mm ih =>
   intro c o hm hI
   obtain ⟨k1, k2⟩ := hI
   refine W88.aL hD (have a0 := ([48, 49, 50, 51, 52, 53, 54, 55, 56, 57, 97, 98, 99, 100, 101, 102] : List UInt8).take (c % 16 + 1); cond (decide (0 < c)) ((0 < 16) /\ (0 < 16) /\ (c % 16 + 1 <= 9223372036854775807) /\ (c % 16 <= c % 16 + 1 /\ c % 16 + 1 <= 16) /\ ((a0.drop (c % 16)).length + o.length <= 2305843009213693952) /\ (c <= 9223372036854775807 /\ 0 < 16) /\ (W88).L K 2 (mkS 19 [(0, (.nat (c / 16))), (3, (.str (a0.drop (c % 16) ++ o)))] [] 1)) ((1 + o.length <= 2305843009213693952) /\ (([92] ++ o).length + 1 <= 2305843009213693952) /\ K (.val (.str ([92] ++ o ++ [32]))) none)) ?_
   refine Qd ?_ ?_ <;> intro h1 <;> simp -failIfUnchanged [-List.getD_eq_getElem?_getD, -UInt8.toNat_or] at h1
   refine Qg8 (Qg8 (Qg8 (Qg8 (Qg8 (Qg8 ?_)))))
   have e := k1
   rw [show Qd7 c o = _ from Qd7.eq_1 c o, if_pos h1] at e
   exact ih _ (by omega) (c / 16) _ rfl ⟨e, by simp only [List.length_append, List.length_drop, List.length_take, List.length_cons, List.length_nil]; omega⟩
   refine Qg8 (Qg8 ?_)
   refine ZP hk ?_
   unfold VR
   rw [k1, Qd7, if_neg (by omega)]
   rfl
 refine W88.en ((W88).L K 2 (mkS 19 [(0, (.nat n)), (3, (.str []))] [] 1)) ?_
 exact L2 _ n [] rfl ⟨rfl, by simp; omega⟩
 cases e
def c62 (svs : List SV) (b : Option SB) : QR := match svs, b with
 | [.str s], none => some ([s.length <= 100000], .str (Qs s))
 | _, _ => none
noncomputable def W62 : Wk := ⟨[(88, .pure c88), (89, .pure c89)], Qm Tryz.f62, false, false, [.tmp 2], [9], [(5, 25)], []⟩
theorem Qj0 : Has 62 := hsf Tryz.f62
theorem nbz6 {c0 c1 p0 q : Prop} (k : q) (h : c0 -> c1 -> p0 /\ True := by intro g0 g1; (try simp at g0); (try simp at g1); exact ⟨(by first | omega | (simp; done) | (have q1 := Y9 (Uo s i); omega) | (simp only [List.length_append, List.length_drop, List.length_take, List.length_cons, List.length_nil]; omega)), trivial⟩) : (c0 -> c1 -> p0 /\ True) /\ q := ⟨h, k⟩
theorem nbz5 {c0 c1 c2 c3 p0 q : Prop} (k : q) (h : c0 -> c1 -> c2 -> c3 -> p0 /\ True := by intro g0 g1 g2 g3; (try simp at g0); (try simp at g1); (try simp at g2); (try simp at g3); exact ⟨(by first | omega | (simp; done) | (have q1 := Y9 (Uo s i); omega) | (simp only [List.length_append, List.length_drop, List.length_take, List.length_cons, List.length_nil]; omega)), trivial⟩) : (c0 -> c1 -> c2 -> c3 -> p0 /\ True) /\ q := ⟨h, k⟩
theorem Zw {p q : Prop} (k : q) (h : p := by first | omega | (simp; done) | (have q1 := Y9 (Uo s i); omega) | (simp only [List.length_append, List.length_drop, List.length_take, List.length_cons, List.length_nil]; omega)) : p /\ q := ⟨h, k⟩
theorem Qjh : Sat 62 (QC c62) := by
 have hD : Qe W62.D := (Qe.cons Qhr QgK (Qe.cons has89 sat89 Qe.nil))
 refine W62.sa hD Tryz.f62 fun svs b K hP => ?_
 obtain ⟨ps, v, e, hp, hk⟩ := Qo hP
 unfold c62 at e
 split at e
 rename_i s
 cases e
 obtain ⟨h01, _⟩ := hp
 have L5 : ∀ (mm : Nat) (i : Nat) (o : List UInt8), s.length - i = mm -> (i <= s.length /\ o ++ nmF (bat s 0) i (s.drop i) = nmF (bat s 0) 0 s /\ o.length <= 4 * i /\ s ≠ [45]) -> W62.L K 5 (mkS 84 [(0, (.str s)), (3, (.str o)), (4, (.nat i))] [] 1) := by
  intro mm
  induction mm using Nat.strongRecOn with
  | _ mm ih =>
   intro i o hm hI
   obtain ⟨k1, k2, k3, k4⟩ := hI
   refine W62.aL hD (have a0 := ((decide (bat s i < 32)) || (decide (bat s i = 127))) || (((decide (48 <= bat s i)) && (decide (bat s i <= 57))) && ((decide (i = 0)) || ((decide (i = 1)) && (decide (bat s 0 = 45))))); have a1 := i + 1 <= 9223372036854775807; have a2 := (s.take (i + 1)).drop i; cond (decide (i < s.length)) ((i < s.length) /\ (((decide (bat s i < 32)) || (decide (bat s i = 127))) = false -> ((decide (48 <= bat s i)) && (decide (bat s i <= 57))) = true -> (decide (i = 0)) = false -> (decide (i = 1)) = true -> (0 < s.length) /\ True) /\ (a0 = false -> ((decide (bat s i = 45)) && (decide (i = 1))) = true -> (0 < s.length) /\ True) /\ cond (a0 || (((decide (bat s i = 45)) && (decide (i = 1))) && (decide (bat s 0 = 45)))) ((bat s i <= 2147483647) /\ (o.length + (VR (bat s i)).length <= 2305843009213693952) /\ a1 /\ (W62).L K 5 (mkS 84 [(0, (.str s)), (3, (.str (o ++ (VR (bat s i))))), (4, (.nat (i + 1)))] [] 1)) (cond (QO (bat s i)) (a1 /\ (i <= i + 1 /\ i + 1 <= s.length) /\ (o.length + a2.length <= 2305843009213693952) /\ a1 /\ (W62).L K 5 (mkS 84 [(0, (.str s)), (3, (.str (o ++ a2))), (4, (.nat (i + 1)))] [] 1)) (a1 /\ (i <= i + 1 /\ i + 1 <= s.length) /\ (1 + a2.length <= 2305843009213693952) /\ (o.length + ([92] ++ a2).length <= 2305843009213693952) /\ a1 /\ (W62).L K 5 (mkS 84 [(0, (.str s)), (3, (.str (o ++ ([92] ++ a2)))), (4, (.nat (i + 1)))] [] 1)))) (K (.val (.str o)) none)) ?_
   refine Qd ?_ ?_ <;> intro h1 <;> simp -failIfUnchanged [-List.getD_eq_getElem?_getD, -UInt8.toNat_or] at h1
   refine Zw (nbz5 (nbz6 ?_))
   refine Qd ?_ ?_ <;> intro h2 <;> simp -failIfUnchanged [-List.getD_eq_getElem?_getD, -UInt8.toNat_or] at h2
   refine Zw (Zw (Zw ?_))
   have q1 := Y9 (Uo s i)
   exact ih _ (by omega) (i + 1) _ rfl ⟨by omega, Qfx h1 k2 (nmP_1 h2), by rw [List.length_append]; omega, k4⟩
   refine Qd (fun h3 => ?_) (fun h3 => ?_)
   simp -failIfUnchanged [-List.getD_eq_getElem?_getD, -UInt8.toNat_or] at h3
   refine Zw (Zw (Zw (Zw ?_)))
   rw [Qfa h1]
   exact ih _ (by omega) (i + 1) _ rfl ⟨by omega, Qfx h1 k2 (by rw [Qqa h2, if_pos h3]), by simp; omega, k4⟩
   simp -failIfUnchanged [-List.getD_eq_getElem?_getD, -UInt8.toNat_or] at h3
   refine Zw (Zw (Zw (Zw (Zw ?_))))
   rw [Qfa h1]
   exact ih _ (by omega) (i + 1) _ rfl ⟨by omega, Qfx h1 k2 (by rw [Qqa h2, if_neg (by rw [h3]; exact Bool.false_ne_true)]; rfl), by simp; omega, k4⟩
   refine ZP hk ?_
   unfold Qs
   rw [if_neg k4, <- k2, List.drop_eq_nil_of_le h1, nmF, List.append_nil]
 refine W62.en (cond (decide (s = [45])) (K (.val (.str [92, 45])) none) ((W62).L K 5 (mkS 84 [(0, (.str s)), (3, (.str [])), (4, (.nat 0))] [] 1))) ?_
 refine Qd ?_ ?_ <;> intro h1 <;> simp -failIfUnchanged [-List.getD_eq_getElem?_getD, -UInt8.toNat_or] at h1
 refine ZP hk ?_
 unfold Qs
 rw [if_pos h1]
 exact L5 _ 0 [] rfl ⟨by omega, rfl, by simp, h1⟩
 cases e
def c82 (svs : List SV) (b : Option SB) : QR := match svs, b with
 | [.str s], none => some ([s.length <= 100000], .str (QQ s))
 | _, _ => none
noncomputable def W82 : Wk := ⟨[(88, .pure c88)], Qm Tryz.f82, false, false, [.tmp 2], [9], [(3, 25)], []⟩
theorem Qng : Has 82 := hsf Tryz.f82
theorem Ql2 : Sat 82 (QC c82) := by
 have hD : Qe W82.D := (Qe.cons Qhr QgK Qe.nil)
 refine W82.sa hD Tryz.f82 fun svs b K hP => ?_
 obtain ⟨ps, v, e, hp, hk⟩ := Qo hP
 unfold c82 at e
 split at e
 rename_i s
 cases e
 obtain ⟨h01, _⟩ := hp
 have L3 : ∀ (mm : Nat) (i : Nat) (o : List UInt8), s.length - i = mm -> (i <= s.length /\ o ++ qF (s.drop i) = 34 :: qF s /\ o.length <= 4 * i + 1) -> W82.L K 3 (mkS 51 [(0, (.str s)), (3, (.str o)), (4, (.nat i))] [] 1) := by
  intro mm
  induction mm using Nat.strongRecOn with
  | _ mm ih =>
   intro i o hm hI
   obtain ⟨k1, k2, k3⟩ := hI
   refine W82.aL hD (have a0 := i + 1 <= 9223372036854775807; have a1 := (s.take (i + 1)).drop i; cond (decide (i < s.length)) ((i < s.length) /\ cond ((decide (bat s i < 32)) || (decide (bat s i = 127))) ((bat s i <= 2147483647) /\ (o.length + (VR (bat s i)).length <= 2305843009213693952) /\ a0 /\ (W82).L K 3 (mkS 51 [(0, (.str s)), (3, (.str (o ++ (VR (bat s i))))), (4, (.nat (i + 1)))] [] 1)) (cond ((decide (bat s i = 34)) || (decide (bat s i = 92))) (a0 /\ (i <= i + 1 /\ i + 1 <= s.length) /\ (1 + a1.length <= 2305843009213693952) /\ (o.length + ([92] ++ a1).length <= 2305843009213693952) /\ a0 /\ (W82).L K 3 (mkS 51 [(0, (.str s)), (3, (.str (o ++ ([92] ++ a1)))), (4, (.nat (i + 1)))] [] 1)) (a0 /\ (i <= i + 1 /\ i + 1 <= s.length) /\ (o.length + a1.length <= 2305843009213693952) /\ a0 /\ (W82).L K 3 (mkS 51 [(0, (.str s)), (3, (.str (o ++ a1))), (4, (.nat (i + 1)))] [] 1)))) ((o.length + 1 <= 2305843009213693952) /\ K (.val (.str (o ++ [34]))) none)) ?_
   refine Qd ?_ ?_ <;> intro h1 <;> simp -failIfUnchanged [-List.getD_eq_getElem?_getD, -UInt8.toNat_or] at h1
   refine Zw ?_
   refine Qd ?_ ?_ <;> intro h2 <;> simp -failIfUnchanged [-List.getD_eq_getElem?_getD, -UInt8.toNat_or] at h2
   refine Zw (Zw (Zw ?_))
   have q1 := Y9 (Uo s i)
   exact ih _ (by omega) (i + 1) _ rfl ⟨by omega, Qig h1 k2 (by rw [Qml, if_pos h2]), by rw [List.length_append]; omega⟩
   refine Qd (fun h3 => ?_) (fun h3 => ?_)
   simp -failIfUnchanged [-List.getD_eq_getElem?_getD, -UInt8.toNat_or] at h3
   refine Zw (Zw (Zw (Zw (Zw ?_))))
   rw [Qfa h1]
   exact ih _ (by omega) (i + 1) _ rfl ⟨by omega, Qig h1 k2 (by rw [Qml, if_neg (by omega), if_pos h3]; rfl), by simp; omega⟩
   simp -failIfUnchanged [-List.getD_eq_getElem?_getD, -UInt8.toNat_or] at h3
   refine Zw (Zw (Zw (Zw ?_)))
   rw [Qfa h1]
   exact ih _ (by omega) (i + 1) _ rfl ⟨by omega, Qig h1 k2 (by rw [Qml, if_neg (by omega), if_neg (by omega)]), by simp; omega⟩
   refine Zw ?_
   refine ZP hk ?_
   unfold QQ
   rw [List.drop_eq_nil_of_le h1, qF, List.append_nil] at k2
   rw [k2]; rfl
 refine W82.en ((W82).L K 3 (mkS 51 [(0, (.str s)), (3, (.str [34])), (4, (.nat 0))] [] 1)) ?_
 exact L3 _ 0 [34] rfl ⟨by omega, rfl, by simp⟩
 cases e
def c102 (svs : List SV) (b : Option SB) : QR := match svs, b with
 | [.int .i64 n], none => some ([-100000000000000000 <= n /\ n <= 100000000000000000], .str (QP n))
 | _, _ => none
noncomputable def W102 : Wk := ⟨[(101, .pure QhI)], Qm Tryz.f102, false, false, [.tmp 2], [9], [], []⟩
theorem Qnn : Has 102 := hsf Tryz.f102
theorem QmN {p q : Prop} (k : q) (h : p := by first | omega | (unfold inI; omega) | (simp; done) | (have q1 := YD (n := n.toNat) (by omega); omega) | (have q1 := YD (n := (0 - n).toNat) (by omega); omega)) : p /\ q := ⟨h, k⟩
theorem Qmb : Sat 102 (QC c102) := by
 have hD : Qe W102.D := (Qe.cons QfU Qfh Qe.nil)
 refine W102.sa hD Tryz.f102 fun svs b K hP => ?_
 obtain ⟨ps, v, e, hp, hk⟩ := Qo hP
 unfold c102 at e
 split at e
 rename_i n
 cases e
 obtain ⟨h01, _⟩ := hp
 refine W102.en (cond (decide (n < (0 : Int))) ((inI (0 - n)) /\ (0 <= (0 - n) /\ (0 - n) <= 1000000000000000000) /\ (1 + (Vs ((0 - n)).toNat).length <= 2305843009213693952) /\ K (.val (.str ([45] ++ (Vs ((0 - n)).toNat)))) none) ((0 <= n /\ n <= 1000000000000000000) /\ (1 + (Vs (n).toNat).length <= 2305843009213693952) /\ K (.val (.str ([43] ++ (Vs (n).toNat)))) none)) ?_
 refine Qd ?_ ?_ <;> intro h1 <;> simp -failIfUnchanged [-List.getD_eq_getElem?_getD, -UInt8.toNat_or] at h1
 refine QmN (QmN (QmN ?_))
 refine ZP hk ?_
 unfold QP
 rw [if_pos h1, show -n = 0 - n by omega]; rfl
 refine QmN (QmN ?_)
 refine ZP hk ?_
 unfold QP
 rw [if_neg (by omega)]; rfl
 cases e
def c83 (svs : List SV) (b : Option SB) : QR := match svs, b with
 | [.int .i64 a, .int .i64 b], none => some ([-100000000000000000 <= a /\ a <= 100000000000000000, -100000000000000000 <= b /\ b <= 100000000000000000], .str (QF a b))
 | _, _ => none
noncomputable def W83 : Wk := ⟨[(101, .pure QhI), (102, .pure c102)], Qm Tryz.f83, false, false, [.tmp 4], [9], [], []⟩
theorem Qqg : Has 83 := hsf Tryz.f83
theorem Qd4 {p q : Prop} (k : q) (h : p := by first | omega | (unfold inI; omega) | (simp; done) | (have q1 := YD (n := a.toNat) (by omega); have q2 := ZK h02; first | omega | (simp only [List.length_append, List.length_cons, List.length_nil]; omega)) | (have q1 := YD (n := (0 - a).toNat) (by omega); have q2 := ZK h02; first | omega | (simp only [List.length_append, List.length_cons, List.length_nil]; omega))) : p /\ q := ⟨h, k⟩
theorem QpN : Sat 83 (QC c83) := by
 have hD : Qe W83.D := (Qe.cons QfU Qfh (Qe.cons Qnn Qmb Qe.nil))
 refine W83.sa hD Tryz.f83 fun svs b K hP => ?_
 obtain ⟨ps, v, e, hp, hk⟩ := Qo hP
 unfold c83 at e
 split at e
 rename_i a b
 cases e
 obtain ⟨h01, h02, _⟩ := hp
 refine W83.en (have a0 := Vs ((0 - a)).toNat; cond (decide (a < (0 : Int))) ((inI (0 - a)) /\ (0 <= (0 - a) /\ (0 - a) <= 1000000000000000000) /\ (1 + a0.length <= 2305843009213693952) /\ (([45] ++ a0).length + 1 <= 2305843009213693952) /\ (-100000000000000000 <= b /\ b <= 100000000000000000) /\ (([45] ++ a0 ++ [110]).length + (QP b).length <= 2305843009213693952) /\ K (.val (.str ([45] ++ a0 ++ [110] ++ (QP b)))) none) ((0 <= a /\ a <= 1000000000000000000) /\ ((Vs (a).toNat).length + 1 <= 2305843009213693952) /\ (-100000000000000000 <= b /\ b <= 100000000000000000) /\ ((Vs (a).toNat ++ [110]).length + (QP b).length <= 2305843009213693952) /\ K (.val (.str (Vs (a).toNat ++ [110] ++ (QP b)))) none)) ?_
 refine Qd ?_ ?_ <;> intro h1 <;> simp -failIfUnchanged [-List.getD_eq_getElem?_getD, -UInt8.toNat_or] at h1
 refine Qd4 (Qd4 (Qd4 (Qd4 (Qd4 (Qd4 ?_)))))
 refine ZP hk ?_
 unfold QF
 rw [if_pos h1, show -a = 0 - a by omega]; simp
 refine Qd4 (Qd4 (Qd4 (Qd4 ?_)))
 refine ZP hk ?_
 unfold QF
 rw [if_neg (by omega)]; simp
 cases e
def c53i (svs : List SV) (b : Option SB) : QR := match svs, b with
 | [.agg [.int .i64 k, .int .i64 o, .str ke, .str va, .int .i64 a, .int .i64 bb, .int .i64 fl, .int .i64 sz]], none => some ([ke.length <= 1000000 /\ va.length <= 1000000], .bool (Z7 ⟨k, o, ke, va, a, bb, fl, sz⟩))
 | _, _ => none
noncomputable def W53 : Wk := ⟨[(22, .pure c22), (77, .pure c77), (78, .pure c78)], Qm Tryz.f53, false, false, [.tmp 2], [4], [], []⟩
theorem has53 : Has 53 := hsf Tryz.f53
theorem nbz9 {c0 p0 p1 q : Prop} (k : q) (h : c0 -> p0 /\ p1 /\ True := by intro g0; (try simp at g0); exact ⟨(by first | omega | (simp; done) | (simp; omega) | (simp; assumption)), (by first | omega | (simp; done) | (simp; omega) | (simp; assumption)), trivial⟩) : (c0 -> p0 /\ p1 /\ True) /\ q := ⟨h, k⟩
theorem QqO : Sat 53 (QC c53i) := by
 have hD : Qe W53.D := (Qe.cons has22 sat22 (Qe.cons has77 sat77 (Qe.cons has78 sat78 Qe.nil)))
 refine W53.sa hD Tryz.f53 fun svs b K hP => ?_
 obtain ⟨ps, v, e, hp, hk⟩ := Qo hP
 unfold c53i at e
 split at e
 rename_i k o ke va a bb fl sz
 cases e
 obtain ⟨h01, _⟩ := hp
 refine W53.en (have a1 := !(QG ke 0); have a0 := a1 || (!(QG va 0)); have a2 := ((decide (k = (3 : Int))) || (decide (k = (4 : Int)))) || (decide (k = (15 : Int))); have a3 := (a0 == false) = true; have a4 := decide (fl = (0 : Int)); have a5 := a1 = false -> ((a1 == false) = true) /\ True; (ke.length <= 1000000) /\ a5 /\ (a1 = false -> ((a1 == false) = true) /\ (va.length <= 1000000) /\ True) /\ a5 /\ (a1 = false -> (a1 == false) = true) /\ (a0 = false -> a3 /\ True) /\ (a0 = false -> a3 /\ (ke.length <= 1000000000) /\ True) /\ (a0 = false -> a3 /\ True) /\ (a0 = false -> a3 /\ a3 /\ True) /\ (a0 = false -> (a0 == false) = true) /\ cond (a0 || (!(decide (low ke = ke)))) (K (.val (.bool false)) none) (cond (((decide (((decide (k = (2 : Int))) || (decide (k = (5 : Int)))) = (decide (ke = [])))) || (a2 && (decide (va = [])))) || (((!(((a2 || ((decide (k = (5 : Int))) && (!(decide (o = (1 : Int)))))) || (decide (k = (16 : Int)))) || (decide (k = (17 : Int))))) && (!(decide (va = [])))) && ((!(decide (k = (21 : Int)))) || (!(Uv va))))) (K (.val (.bool false)) none) (cond ((((((!(decide (k = (6 : Int)))) && ((!(decide (a = (0 : Int)))) || (!(decide (bb = (0 : Int)))))) || (decide ((9999 : Int) < a))) || (decide (a < (-9999)))) || (decide ((9999 : Int) < bb))) || (decide (bb < (-9999)))) (K (.val (.bool false)) none) (cond (decide (k = (5 : Int))) (K (.val (.bool (((((decide ((1 : Int) <= o)) && (decide (o <= (8 : Int)))) && (decide ((0 : Int) <= fl))) && (decide (fl <= (1 : Int)))) && ((!(decide (o = (1 : Int)))) || a4)))) none) (cond (decide (k = (22 : Int))) (K (.val (.bool (((decide ((1 : Int) <= o)) && (decide (o <= (4 : Int)))) && a4))) none) (cond (decide (k = (6 : Int))) (K (.val (.bool (((decide (o = (0 : Int))) && (decide ((0 : Int) <= fl))) && (decide (fl <= (3 : Int)))))) none) (cond (decide (k = (7 : Int))) (K (.val (.bool ((decide (o = (0 : Int))) && (a4 || (decide (fl = (2 : Int))))))) none) (K (.val (.bool ((decide (o = (0 : Int))) && a4))) none)))))))) ?_
 refine Qir (QmO (nbz9 (QmO (Qir (QmO (nbz9 (QmO (nbz9 (Qir ?_)))))))))
 refine Qd ?_ ?_ <;> intro h1 <;> simp -failIfUnchanged [-List.getD_eq_getElem?_getD, -UInt8.toNat_or] at h1
 refine VE hk ?_
 rw [Bool.eq_false_iff]
 intro hc
 simp only [Z7, Bool.and_eq_true, Bool.not_eq_true', Bool.and_eq_false_imp, decide_eq_true_eq, Bool.or_eq_true, Bool.or_eq_false_iff, decide_eq_false_iff_not, beq_eq_false_iff_ne] at hc
 grind
 refine Qd (fun h2 => ?_) (fun h2 => ?_)
 simp -failIfUnchanged [-List.getD_eq_getElem?_getD, -UInt8.toNat_or] at h2
 refine VE hk ?_
 rw [Bool.eq_false_iff]
 intro hc
 simp only [Z7, Bool.and_eq_true, Bool.not_eq_true', Bool.and_eq_false_imp, decide_eq_true_eq, Bool.or_eq_true, Bool.or_eq_false_iff, decide_eq_false_iff_not, beq_eq_false_iff_ne] at hc
 grind
 simp -failIfUnchanged [-List.getD_eq_getElem?_getD, -UInt8.toNat_or] at h2
 refine Qd ?_ ?_ <;> intro h3 <;> simp -failIfUnchanged [-List.getD_eq_getElem?_getD, -UInt8.toNat_or] at h3
 refine VE hk ?_
 rw [Bool.eq_false_iff]
 intro hc
 simp only [Z7, Bool.and_eq_true, Bool.not_eq_true', Bool.and_eq_false_imp, decide_eq_true_eq, Bool.or_eq_true, Bool.or_eq_false_iff, decide_eq_false_iff_not, beq_eq_false_iff_ne] at hc
 grind
 refine Qd (fun h4 => ?_) (fun h4 => ?_)
 simp -failIfUnchanged [-List.getD_eq_getElem?_getD, -UInt8.toNat_or] at h4
 refine VE hk ?_
 simp only [Z7]
 grind
 simp -failIfUnchanged [-List.getD_eq_getElem?_getD, -UInt8.toNat_or] at h4
 refine Qd ?_ ?_ <;> intro h5 <;> simp -failIfUnchanged [-List.getD_eq_getElem?_getD, -UInt8.toNat_or] at h5
 refine VE hk ?_
 simp only [Z7]
 grind
 refine Qd (fun h6 => ?_) (fun h6 => ?_)
 simp -failIfUnchanged [-List.getD_eq_getElem?_getD, -UInt8.toNat_or] at h6
 refine VE hk ?_
 simp only [Z7]
 grind
 simp -failIfUnchanged [-List.getD_eq_getElem?_getD, -UInt8.toNat_or] at h6
 refine Qd ?_ ?_ <;> intro h7 <;> simp -failIfUnchanged [-List.getD_eq_getElem?_getD, -UInt8.toNat_or] at h7
 refine VE hk ?_
 simp only [Z7]
 grind
 refine VE hk ?_
 simp only [Z7]
 grind
 cases e
def c53 (svs : List SV) (b : Option SB) : QR := match svs, b with
 | [x], none => match QaX x with
  | some x => some ([x.key.length <= 1000000 /\ x.val.length <= 1000000], .bool (Z7 x))
  | _ => none
 | _, _ => none
theorem sat53 : Sat 53 (QC c53) := by
 refine Sat.wk QqO fun svs b K h => ?_
 obtain ⟨ps, v, e, hp, hk⟩ := Qo h
 unfold c53 at e
 split at e
 rename_i x
 split at e
 rename_i x' hx
 cases e
 exact ⟨[.agg (Vl x')], ⟨fun ω v => Zu hx, trivial⟩, hp.1, hk⟩
 cases e
 cases e
end
end Go.Proofs.YtengepcafdnalaaGreatDoor
