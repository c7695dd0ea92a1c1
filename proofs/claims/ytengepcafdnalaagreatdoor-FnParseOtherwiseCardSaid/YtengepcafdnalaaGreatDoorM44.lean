/-
  Parts of the proof that the law FnParseOtherwise holds for every input (texts Oc). Conditions: none.
-/
import Derived.Test.YtengepcafdnalaaGreatDoorM43
namespace Go.Proofs.YtengepcafdnalaaGreatDoor
section
open Go Go.RowKit
set_option maxRecDepth 20000
def QN : Nat -> Prop -> SV -> Prop
 | 0, _, _ => True
 | n + 1, p, v => (p /\ v = v) /\ QN n p v
theorem Qj {p : Prop} {v : SV} (h : p) : ∀ {n : Nat}, QN n p v
 | 0 => trivial
 | _ + 1 => ⟨⟨h, rfl⟩, Qj h⟩
def c83z (svs : List SV) (b : Option SB) : QR := match svs, b with
 | [x, y], none => match toI x, toI y with
  | some a, some b => some ([-100000000000000000 <= a /\ a <= 100000000000000000, -100000000000000000 <= b /\ b <= 100000000000000000], .str (QF a b))
  | _, _ => none
 | _, _ => none
theorem QqL : Sat 83 (QC c83z) := by
 refine Sat.wk QpN fun svs b K h => ?_
 obtain ⟨ps, v, e, hp, hk⟩ := Qo h
 unfold c83z at e
 split at e
 rename_i x y
 split at e
 rename_i a b hx hy
 cases e
 exact ⟨[.int .i64 a, .int .i64 b], ⟨fun ω v => YG hx, fun ω v => YG hy, trivial⟩, hp.1, hp.2.1, hk⟩
 cases e
 cases e
def Jr (y : Bs) (x : SelD) (n : Nat) : Bs × Nat :=
 let c := Ql y ([110, 116, 104, 45] ++ Q3.getD x.flag.toNat []) n; let g := Qh y c.2; let w := chc y g.2 3
 let t := Zb y x.a x.b w.1 w.2; let h := Qh y t.2
 (58 :: (c.1 ++ (40 :: (g.1 ++ (t.1 ++ (h.1 ++ [41]))))), h.2)
theorem QhF {y : Bs} {x : SelD} {n : Nat} (h : ¬ (x.a = 0 /\ x.b = 1)) : Vr y x n = Jr y x n := by
 unfold Vr Jr
 simp only
 rw [if_neg (fun q => h ⟨q.1, q.2.1⟩), if_neg h]
theorem QeV {y : Bs} {x : SelD} {n : Nat} (h : x.a = 0 /\ x.b = 1) (h1 : ¬ (chc y n 2).1 = 1) : Vr y x n = Jr y x (chc y n 2).2 := by
 unfold Vr Jr
 simp only [if_pos h]
 rw [if_neg (fun q => h1 q.2.2)]
theorem QeU {y : Bs} {x : SelD} {n : Nat} (h : x.a = 0 /\ x.b = 1) (h1 : (chc y n 2).1 = 1) : Vr y x n = (58 :: (Ql y (ZL.getD x.flag.toNat []) (chc y n 2).2).1, (Ql y (ZL.getD x.flag.toNat []) (chc y n 2).2).2) := by
 unfold Vr
 simp only [if_pos h]
 rw [if_pos ⟨h.1, h.2, h1⟩]
def QdE (y : Bs) (x : SelD) (u : Bs) (w n : Nat) : Bs × Nat := ((((u ++ (Zb y x.a x.b w n).1) ++ (Qh y (Zb y x.a x.b w n).2).1) ++ [41]), (Qh y (Zb y x.a x.b w n).2).2)
theorem Qpx {y : Bs} {x : SelD} {n : Nat} : Jr y x n = QdE y x ((([58] ++ (Ql y ([110, 116, 104, 45] ++ Q3.getD x.flag.toNat []) n).1) ++ [40]) ++ (Qh y (Ql y ([110, 116, 104, 45] ++ Q3.getD x.flag.toNat []) n).2).1)
 (chc y (Qh y (Ql y ([110, 116, 104, 45] ++ Q3.getD x.flag.toNat []) n).2).2 3).1 (chc y (Qh y (Ql y ([110, 116, 104, 45] ++ Q3.getD x.flag.toNat []) n).2).2 3).2 := by
 unfold Jr QdE
 simp
theorem Jq {y : Bs} {x : SelD} {u t : Bs} {w n m : Nat} (e : Zb y x.a x.b w n = (t, m)) : QdE y x u w n = (((u ++ t) ++ (Qh y m).1) ++ [41], (Qh y m).2) := by
 unfold QdE
 rw [e]
def c87i (svs : List SV) (b : Option SB) : FR := match svs, b with
 | [.ptr 0 0, .agg [.int .i64 k, .int .i64 o, .str ke, .str va, .int .i64 a, .int .i64 bb, .int .i64 fl, .int .i64 sz]], some (.blk 62 [.sl (.sels l), .sl (.bytes y), .nat n]) => some ([-9999 <= (SelD.mk k o ke va a bb fl sz).a /\ (SelD.mk k o ke va a bb fl sz).a <= 9999 /\ -9999 <= (SelD.mk k o ke va a bb fl sz).b /\ (SelD.mk k o ke va a bb fl sz).b <= 9999, 0 <= (SelD.mk k o ke va a bb fl sz).flag /\ (SelD.mk k o ke va a bb fl sz).flag <= 3, n <= 800000000000], .val (.str (Vr y (SelD.mk k o ke va a bb fl sz) n).1), some (.blk 62 [.sl (.sels l), .sl (.bytes y), .nat (Vr y (SelD.mk k o ke va a bb fl sz) n).2]))
 | _, _ => none
noncomputable def W87 : Wk := ⟨[(34, .fn c34), (58, .fn c58), (60, .fn c60), (83, .pure c83z), (101, .pure QhI), (102, .pure c102)], Qm Tryz.f87, true, false, [.tmp 4], [9], [(4, 9), (9, 201), (21, 65)], [4, 9, 21]⟩
theorem has87 : Has 87 := hsf Tryz.f87
theorem Yo {p q : Prop} (k : q) (h : p := by first | omega | (unfold inI; omega) | exact Way.QiQ (by decide) | (simp; done) | (simp only [List.length_append, List.length_cons, List.length_nil, List.length_take, List.length_drop, Qb]; omega)) : p /\ q := ⟨h, k⟩
theorem QqK : Sat 87 (fnS c87i) := by
 have hD : Qe W87.D := (Qe.cons Qj2 Qjj (Qe.cons QeI Qei (Qe.cons Qj1 Qji (Qe.cons Qqg QqL (Qe.cons QfU Qfh (Qe.cons Qnn Qmb Qe.nil))))))
 refine W87.sa hD Tryz.f87 fun svs b K hP => ?_
 obtain ⟨ps, o, b', e, hp, hk⟩ := Yp hP
 unfold c87i at e
 split at e
 rename_i k o ke va a bb fl sz l y n
 cases e
 obtain ⟨⟨h01, h02, h03, h04⟩, ⟨h05, h06⟩, h07, _⟩ := hp
 simp only at h01 h02 h03 h04 h05 h06
 have s0 := QY (l := ZL) (n := 13) (by decide) fl.toNat
 unfold ZL at s0
 have c0 := YI y n 2
 have L21 : ∀ (mm : Nat) (m : Nat) (u : List UInt8), 0 = mm -> (Vr y (SelD.mk k o ke va a bb fl sz) n = ((u ++ (Qh y m).1) ++ [41], (Qh y m).2) /\ u.length <= 1000 /\ m <= n + 10) -> W87.C K 21 (mkS 211 [(0, (.ptr 0 0)), (6, (.str u))] [(0, .blk 62 [(.sl (.sels l)), (.sl (.bytes y)), (.nat m)])] 1) := by
  intro mm
  induction mm using Nat.strongRecOn with
  | _ mm ih =>
   intro m u hm hI
   obtain ⟨k0, k1, k2⟩ := hI
   have g2 := VG y m
   have gL := Vx y m
   refine W87.aC hD ((m <= 900000000000) /\ (u.length + ((Qh y m).1).length <= 2305843009213693952) /\ ((u ++ ((Qh y m).1)).length + 1 <= 2305843009213693952) /\ K (.val (.str (u ++ ((Qh y m).1) ++ [41]))) (some (.blk 62 [(.sl (.sels l)), (.sl (.bytes y)), (.nat ((Qh y m).2))]))) ?_
   refine Yo (Yo (Yo ?_))
   exact Zy hk k0
 have L9 : ∀ (mm : Nat) (w m : Nat) (u : List UInt8), 0 = mm -> (Vr y (SelD.mk k o ke va a bb fl sz) n = QdE y (SelD.mk k o ke va a bb fl sz) u w m /\ u.length <= 100 /\ m <= n + 4) -> W87.C K 9 (mkS 211 [(0, (.ptr 0 0)), (3, (.ptr 1 0)), (6, (.str u)), (7, (.nat w))] [(0, .blk 62 [(.sl (.sels l)), (.sl (.bytes y)), (.nat m)]), (1, .blk 33 [(.int .i64 k), (.int .i64 o), (.str ke), (.str va), (.int .i64 a), (.int .i64 bb), (.int .i64 fl), (.int .i64 sz)])] 2) := by
  intro mm
  induction mm using Nat.strongRecOn with
  | _ mm ih =>
   intro w m u hm hI
   obtain ⟨k0, k1, k2⟩ := hI
   have d1 := YD (n := bb.toNat) (by omega)
   have d2 := YD (n := (0 - bb).toNat) (by omega)
   have d3 := ZK (n := bb) (by omega)
   have d4 := YR (a := a) (b := bb) (by omega) (by omega)
   have d5 := YR (a := a) (b := 0) (by omega) (by omega)
   have d6 : (QP bb).length + 1 <= (QF a bb).length := by unfold QF; simp
   have d7 : 1 <= (QP bb).length := by unfold QP; split <;> simp
   have d8 : 2 <= (QF a 0).length := by unfold QF QP; simp; omega
   have e1 := VS y [111, 100, 100] m
   have e2 := VS y [101, 118, 101, 110] m
   have c2 := YI y m 2
   have g1 := Vx y m
   have g2 := VG y m
   have g3 := Vx y (Qh y m).2
   have g4 := VG y (Qh y m).2
   have g5 := Vx y (chc y m 2).2
   have g6 := VG y (chc y m 2).2
   have g7 := Vx y (Qh y (chc y m 2).2).2
   have g8 := VG y (Qh y (chc y m 2).2).2
   have s1 := QY (l := [[], [43]]) (n := 1) (by decide) (chc y m 2).1
   have s2 := QY (l := [[45], [], []]) (n := 1) (by decide) (a + 1).toNat
   have s3 := QY (l := [[110], [78]]) (n := 1) (by decide) (chc y m 2).1
   refine W87.aC hD (have a1 := ([[], [43]] : List (List UInt8)).getD ((chc y m 2).1) [] ++ (Vs (bb).toNat); have a4 := ([[110], [78]] : List (List UInt8)).getD ((chc y m 2).1) []; have a5 := ([[], [43]] : List (List UInt8)).getD ((chc y m 2).1) []; have a6 := QF a bb; have a8 := Qh y ((chc y m 2).2); have a9 := ((a + (1 : Int))).toNat; have a2 := ([[45], [], []] : List (List UInt8)).getD a9 [] ++ a4 ++ (a8.1) ++ ((QP bb).take 1) ++ ((Qh y (a8.2)).1) ++ ((QP bb).drop 1); have a11 : SV := .int .i64 bb; have a12 := ((True /\ True) /\ SV.lts 0 [a11] = true /\ (0 <= bb /\ bb <= 1000000000000000000) /\ True) /\ ((.str (Vs (bb).toNat)) : SV) = (.str (Vs (bb).toNat)); have a13 := QN 4 ((True /\ True) /\ SV.lts 0 [a11] = true /\ (-100000000000000000 <= bb /\ bb <= 100000000000000000) /\ True) (.str (QP bb)); have a14 := QF a (0 : Int); have a15 : SV := .sl (.bytes y); have a16 : SV := .sl (.sels l); have a17 := ([[45], [], []] : List (List UInt8)).getD a9 [] ++ a4 ++ (a8.1) ++ ((QP bb).take 1) ++ ((Qh y (a8.2)).1); have a18 := (QP bb).length; have a3 := a6.length - a18; have a7 := a6.length - a18 + 1; have a19 := ((a5.length + (Vs (bb).toNat).length <= 2305843009213693952) /\ True) /\ ((.str a1) : SV) = (.str a1); have a20 : SV := .str (u ++ a1); have a21 := (a6.take a7).drop a3; have a22 := ([[45], [], []] : List (List UInt8)).getD a9 []; have a23 := ([[45], [], []] : List (List UInt8)).getD a9 [] ++ a4 ++ (a8.1) ++ ((QP bb).take 1); have a24 := (((chc y m 2).1 < 2) /\ True) /\ ((.cp [(.str a5)]) : SV) = (.cp [(.str a5)]); have a25 := ((u.length + a1.length <= 2305843009213693952) /\ True) /\ (a20 : SV) = a20; have a26 := (true = true) /\ ((.sl (.strs [[], [43]])) : SV) = (.sl (.strs [[], [43]])); have a27 := QN 3 ((a6.length - a18 + 1 <= 9223372036854775807) /\ True) (.nat a7); have a28 : SV := .int .i64 fl; have a29 : SV := .int .i64 sz; have a30 := QN 3 (True) (.nat a3); have a31 := (Qh y m).1; have a32 := ([[45], [], []] : List (List UInt8)).getD a9 [] ++ a4 ++ (a8.1); have a33 := Ql y [101, 118, 101, 110] m; have a34 := Qh y ((Qh y m).2); have a0 := a6.take a3 ++ a31 ++ a21 ++ (a34.1) ++ (a6.drop a7); have a35 := true = true -> True; have a10 := (True /\ True /\ True) /\ (SV.lts 0 [(.nat 2)] = true /\ SV.lts 0 [a16, a15, (.nat m)] = true /\ (0 < 2) /\ (m <= 1000000000000) /\ True) /\ True /\ a35; have a36 := ([[45], [], []] : List (List UInt8)).getD a9 [] ++ a4; have a37 := Ql y [111, 100, 100] m; have a38 := QN 4 (True) (.ptr 0 0); have a39 := QN 3 (True) (.str a6); cond (((decide (a = (2 : Int))) && (decide (bb = (1 : Int)))) && (decide (w = 1))) ((m <= 900000000000) /\ (3 <= 1000000000) /\ (u.length + (a37.1).length <= 2305843009213693952) /\ (W87).C K 21 (mkS 211 [(0, (.ptr 0 0)), (6, (.str (u ++ (a37.1))))] [(0, .blk 62 [a16, a15, (.nat (a37.2))]), (1, .blk 33 [(.int .i64 k), (.int .i64 o), (.str ke), (.str va), (.int .i64 a), a11, a28, a29])] 2)) (cond (((decide (a = (2 : Int))) && (decide (bb = (0 : Int)))) && (decide (w = 1))) ((m <= 900000000000) /\ (4 <= 1000000000) /\ (u.length + (a33.1).length <= 2305843009213693952) /\ (W87).C K 21 (mkS 211 [(0, (.ptr 0 0)), (6, (.str (u ++ (a33.1))))] [(0, .blk 62 [a16, a15, (.nat (a33.2))]), (1, .blk 33 [(.int .i64 k), (.int .i64 o), (.str ke), (.str va), (.int .i64 a), a11, a28, a29])] 2)) (cond ((decide (a = (0 : Int))) && (decide (w = 1))) (cond (decide (bb < (0 : Int))) ((inI (0 - bb)) /\ (0 <= (0 - bb) /\ (0 - bb) <= 1000000000000000000) /\ (1 + (Vs ((0 - bb)).toNat).length <= 2305843009213693952) /\ (u.length + ([45] ++ (Vs ((0 - bb)).toNat)).length <= 2305843009213693952) /\ (W87).C K 21 (mkS 211 [(0, (.ptr 0 0)), (6, (.str (u ++ ([45] ++ (Vs ((0 - bb)).toNat)))))] [(0, .blk 62 [a16, a15, (.nat m)]), (1, .blk 33 [(.int .i64 k), (.int .i64 o), (.str ke), (.str va), (.int .i64 a), a11, a28, a29])] 2)) ((((True) /\ ((.str u) : SV) = (.str u)) /\ ((True) /\ ((.str u) : SV) = (.str u)) /\ True) /\ (a26 /\ a26 /\ True) /\ (((True) /\ ((.ptr 0 0) : SV) = (.ptr 0 0)) /\ ((True) /\ ((.ptr 0 0) : SV) = (.ptr 0 0)) /\ True) /\ a10 /\ (a24 /\ a24 /\ True) /\ (((True) /\ ((.str a5) : SV) = (.str a5)) /\ ((True) /\ ((.str a5) : SV) = (.str a5)) /\ True) /\ (((True) /\ ((.ptr 1 5) : SV) = (.ptr 1 5)) /\ ((True) /\ ((.ptr 1 5) : SV) = (.ptr 1 5)) /\ True) /\ (((True) /\ (a11 : SV) = a11) /\ ((True) /\ (a11 : SV) = a11) /\ True) /\ (a12 /\ a12 /\ True) /\ (a19 /\ a19 /\ True) /\ (a25 /\ a25 /\ True) /\ (((True) /\ (a20 : SV) = a20) /\ ((True) /\ (a20 : SV) = a20) /\ True) /\ (W87).C K 21 (mkS 211 [(0, (.ptr 0 0)), (6, a20)] [(0, .blk 62 [a16, a15, (.nat ((chc y m 2).2))]), (1, .blk 33 [(.int .i64 k), (.int .i64 o), (.str ke), (.str va), (.int .i64 a), a11, a28, a29])] 2))) (cond ((decide (bb = (0 : Int))) && (decide (w = 1))) ((-100000000000000000 <= a /\ a <= 100000000000000000) /\ (-100000000000000000 <= (0 : Int) /\ (0 : Int) <= 100000000000000000) /\ (-100000000000000000 <= a /\ a <= 100000000000000000) /\ (-100000000000000000 <= (0 : Int) /\ (0 : Int) <= 100000000000000000) /\ (2 <= a14.length /\ a14.length <= 9223372036854775807) /\ (a14.length - 2 <= a14.length) /\ (u.length + (a14.take (a14.length - 2)).length <= 2305843009213693952) /\ (W87).C K 21 (mkS 211 [(0, (.ptr 0 0)), (6, (.str (u ++ (a14.take (a14.length - 2)))))] [(0, .blk 62 [a16, a15, (.nat m)]), (1, .blk 33 [(.int .i64 k), (.int .i64 o), (.str ke), (.str va), (.int .i64 a), a11, a28, a29])] 2)) (cond (((decide (a = (1 : Int))) || (decide (a = (-1)))) && (decide (w = 2))) ((QN 4 (True) (.str u)) /\ (QN 4 (true = true) (.sl (.strs [[45], [], []]))) /\ (QN 4 (True) (.ptr 1 4)) /\ (QN 4 (True) (.int .i64 a)) /\ (QN 4 ((inI (a + (1 : Int))) /\ True) (.int .i64 (a + (1 : Int)))) /\ (QN 4 ((0 <= (a + (1 : Int)) /\ (a + (1 : Int)) < (3 : Nat)) /\ True) (.cp [(.str a22)])) /\ (QN 4 (True) (.str a22)) /\ (QN 4 (true = true) (.sl (.strs [[110], [78]]))) /\ a38 /\ a10 /\ (QN 4 (((chc y m 2).1 < 2) /\ True) (.cp [(.str a4)])) /\ (QN 4 (True) (.str a4)) /\ (QN 4 ((a22.length + a4.length <= 2305843009213693952) /\ True) (.str a36)) /\ a38 /\ ((True /\ True) /\ (SV.lts 0 [] = true /\ SV.lts 0 [a16, a15, (.nat ((chc y m 2).2))] = true /\ ((chc y m 2).2 <= 900000000000) /\ True) /\ True /\ a35) /\ (QN 4 ((a36.length + (a8.1).length <= 2305843009213693952) /\ True) (.str a32)) /\ (QN 4 (True) (.ptr 1 5)) /\ (QN 4 (True) a11) /\ a13 /\ (QN 4 ((1 <= (QP bb).length) /\ True) (.str ((QP bb).take 1))) /\ (QN 4 ((a32.length + ((QP bb).take 1).length <= 2305843009213693952) /\ True) (.str a23)) /\ a38 /\ ((True /\ True) /\ (SV.lts 0 [] = true /\ SV.lts 0 [a16, a15, (.nat (a8.2))] = true /\ (a8.2 <= 900000000000) /\ True) /\ True /\ a35) /\ (QN 4 ((a23.length + ((Qh y (a8.2)).1).length <= 2305843009213693952) /\ True) (.str a17)) /\ (QN 4 (True) (.ptr 1 5)) /\ (QN 4 (True) a11) /\ a13 /\ (QN 4 ((1 <= (QP bb).length) /\ True) (.str ((QP bb).drop 1))) /\ (QN 4 ((a17.length + ((QP bb).drop 1).length <= 2305843009213693952) /\ True) (.str a2)) /\ (QN 4 ((u.length + a2.length <= 2305843009213693952) /\ True) (.str (u ++ a2))) /\ (QN 4 (True) (.str (u ++ a2))) /\ (W87).C K 21 (mkS 211 [(0, (.ptr 0 0)), (6, (.str (u ++ a2)))] [(0, .blk 62 [a16, a15, (.nat ((Qh y (a8.2)).2))]), (1, .blk 33 [(.int .i64 k), (.int .i64 o), (.str ke), (.str va), (.int .i64 a), a11, a28, a29])] 2)) ((-100000000000000000 <= a /\ a <= 100000000000000000) /\ (-100000000000000000 <= bb /\ bb <= 100000000000000000) /\ (-100000000000000000 <= bb /\ bb <= 100000000000000000) /\ ((QP bb).length <= a6.length /\ a6.length <= 9223372036854775807) /\ (QN 3 (True) (.str u)) /\ a39 /\ a30 /\ (QN 3 ((a6.length - a18 <= a6.length) /\ True) (.str (a6.take a3))) /\ (QN 3 (True) (.ptr 0 0)) /\ ((True /\ True) /\ (SV.lts 0 [] = true /\ SV.lts 0 [a16, a15, (.nat m)] = true /\ (m <= 900000000000) /\ True) /\ True /\ a35) /\ (QN 3 (((a6.take a3).length + a31.length <= 2305843009213693952) /\ True) (.str (a6.take a3 ++ a31))) /\ a39 /\ a30 /\ a30 /\ a27 /\ (QN 3 ((a6.length - a18 <= a6.length - a18 + 1 /\ a6.length - a18 + 1 <= a6.length) /\ True) (.str a21)) /\ (QN 3 (((a6.take a3 ++ a31).length + a21.length <= 2305843009213693952) /\ True) (.str (a6.take a3 ++ a31 ++ a21))) /\ (QN 3 (True) (.ptr 0 0)) /\ ((True /\ True) /\ (SV.lts 0 [] = true /\ SV.lts 0 [a16, a15, (.nat ((Qh y m).2))] = true /\ ((Qh y m).2 <= 900000000000) /\ True) /\ True /\ a35) /\ (QN 3 (((a6.take a3 ++ a31 ++ a21).length + (a34.1).length <= 2305843009213693952) /\ True) (.str (a6.take a3 ++ a31 ++ a21 ++ (a34.1)))) /\ a39 /\ a30 /\ a27 /\ (QN 3 ((a6.length - a18 + 1 <= a6.length) /\ True) (.str (a6.drop a7))) /\ (QN 3 (((a6.take a3 ++ a31 ++ a21 ++ (a34.1)).length + (a6.drop a7).length <= 2305843009213693952) /\ True) (.str a0)) /\ (QN 3 ((u.length + a0.length <= 2305843009213693952) /\ True) (.str (u ++ a0))) /\ (QN 3 (True) (.str (u ++ a0))) /\ (W87).C K 21 (mkS 211 [(0, (.ptr 0 0)), (6, (.str (u ++ a0)))] [(0, .blk 62 [a16, a15, (.nat (a34.2))]), (1, .blk 33 [(.int .i64 k), (.int .i64 o), (.str ke), (.str va), (.int .i64 a), a11, a28, a29])] 2))))))) ?_
   refine Qd ?_ ?_ <;> intro h1 <;> simp -failIfUnchanged [-List.getD_eq_getElem?_getD, -UInt8.toNat_or] at h1
   refine Yo (Yo (Yo ?_))
   exact Wk.C.rn [0] (L21 _ _ _ rfl ⟨k0.trans (Jq (by show Zb y a bb w m = _; unfold Zb; rw [if_pos (by omega)])), by simp only [List.length_append, List.length_cons, List.length_nil, List.length_take, List.length_drop, Qb]; omega, by omega⟩)
   refine Qd (fun h2 => ?_) (fun h2 => ?_)
   simp -failIfUnchanged [-List.getD_eq_getElem?_getD, -UInt8.toNat_or] at h2
   refine Yo (Yo (Yo ?_))
   exact Wk.C.rn [0] (L21 _ _ _ rfl ⟨k0.trans (Jq (by show Zb y a bb w m = _; unfold Zb; rw [if_neg (by omega), if_pos (by omega)])), by simp only [List.length_append, List.length_cons, List.length_nil, List.length_take, List.length_drop, Qb]; omega, by omega⟩)
   simp -failIfUnchanged [-List.getD_eq_getElem?_getD, -UInt8.toNat_or] at h2
   refine Qd ?_ ?_ <;> intro h3 <;> simp -failIfUnchanged [-List.getD_eq_getElem?_getD, -UInt8.toNat_or] at h3
   refine Qd (fun h4 => ?_) (fun h4 => ?_)
   simp -failIfUnchanged [-List.getD_eq_getElem?_getD, -UInt8.toNat_or] at h4
   refine Yo (Yo (Yo (Yo ?_)))
   exact Wk.C.rn [0] (L21 _ _ _ rfl ⟨k0.trans (Jq (by show Zb y a bb w m = _; unfold Zb; rw [if_neg (by omega), if_neg (by omega), if_pos (by omega), if_pos h4])), by simp only [List.length_append, List.length_cons, List.length_nil, List.length_take, List.length_drop, Qb]; omega, by omega⟩)
   simp -failIfUnchanged [-List.getD_eq_getElem?_getD, -UInt8.toNat_or] at h4
   refine ⟨⟨⟨trivial, rfl⟩, ⟨trivial, rfl⟩, trivial⟩, ?_⟩
   refine ⟨⟨⟨rfl, rfl⟩, ⟨rfl, rfl⟩, trivial⟩, ?_⟩
   refine ⟨⟨⟨trivial, rfl⟩, ⟨trivial, rfl⟩, trivial⟩, ?_⟩
   refine ⟨⟨⟨trivial, trivial, trivial⟩, ⟨rfl, rfl, ⟨(by first | omega | (unfold inI; omega) | exact Way.QiQ (by decide) | (simp; done) | (simp only [List.length_append, List.length_cons, List.length_nil, List.length_take, List.length_drop, Qb]; omega)), (by first | omega | (unfold inI; omega) | exact Way.QiQ (by decide) | (simp; done) | (simp only [List.length_append, List.length_cons, List.length_nil, List.length_take, List.length_drop, Qb]; omega)), trivial⟩⟩, trivial, fun _ => trivial⟩, ?_⟩
   refine ⟨⟨⟨⟨(by first | omega | (unfold inI; omega) | exact Way.QiQ (by decide) | (simp; done) | (simp only [List.length_append, List.length_cons, List.length_nil, List.length_take, List.length_drop, Qb]; omega)), trivial⟩, rfl⟩, ⟨⟨(by first | omega | (unfold inI; omega) | exact Way.QiQ (by decide) | (simp; done) | (simp only [List.length_append, List.length_cons, List.length_nil, List.length_take, List.length_drop, Qb]; omega)), trivial⟩, rfl⟩, trivial⟩, ?_⟩
   refine ⟨⟨⟨trivial, rfl⟩, ⟨trivial, rfl⟩, trivial⟩, ?_⟩
   refine ⟨⟨⟨trivial, rfl⟩, ⟨trivial, rfl⟩, trivial⟩, ?_⟩
   refine ⟨⟨⟨trivial, rfl⟩, ⟨trivial, rfl⟩, trivial⟩, ?_⟩
   refine ⟨⟨⟨⟨⟨trivial, trivial⟩, rfl, ⟨(by first | omega | (unfold inI; omega) | exact Way.QiQ (by decide) | (simp; done) | (simp only [List.length_append, List.length_cons, List.length_nil, List.length_take, List.length_drop, Qb]; omega)), trivial⟩⟩, rfl⟩, ⟨⟨⟨trivial, trivial⟩, rfl, ⟨(by first | omega | (unfold inI; omega) | exact Way.QiQ (by decide) | (simp; done) | (simp only [List.length_append, List.length_cons, List.length_nil, List.length_take, List.length_drop, Qb]; omega)), trivial⟩⟩, rfl⟩, trivial⟩, ?_⟩
   refine ⟨⟨⟨⟨(by first | omega | (unfold inI; omega) | exact Way.QiQ (by decide) | (simp; done) | (simp only [List.length_append, List.length_cons, List.length_nil, List.length_take, List.length_drop, Qb]; omega)), trivial⟩, rfl⟩, ⟨⟨(by first | omega | (unfold inI; omega) | exact Way.QiQ (by decide) | (simp; done) | (simp only [List.length_append, List.length_cons, List.length_nil, List.length_take, List.length_drop, Qb]; omega)), trivial⟩, rfl⟩, trivial⟩, ?_⟩
   refine ⟨⟨⟨⟨(by first | omega | (unfold inI; omega) | exact Way.QiQ (by decide) | (simp; done) | (simp only [List.length_append, List.length_cons, List.length_nil, List.length_take, List.length_drop, Qb]; omega)), trivial⟩, rfl⟩, ⟨⟨(by first | omega | (unfold inI; omega) | exact Way.QiQ (by decide) | (simp; done) | (simp only [List.length_append, List.length_cons, List.length_nil, List.length_take, List.length_drop, Qb]; omega)), trivial⟩, rfl⟩, trivial⟩, ?_⟩
   refine ⟨⟨⟨trivial, rfl⟩, ⟨trivial, rfl⟩, trivial⟩, ?_⟩
   exact Wk.C.rn [0] (L21 _ _ _ rfl ⟨k0.trans (Jq (by show Zb y a bb w m = _; unfold Zb; rw [if_neg (by omega), if_neg (by omega), if_pos (by omega), if_neg (by omega)])), by simp only [List.length_append, List.length_cons, List.length_nil, List.length_take, List.length_drop, Qb]; omega, by omega⟩)
   refine Qd (fun h4 => ?_) (fun h4 => ?_)
   simp -failIfUnchanged [-List.getD_eq_getElem?_getD, -UInt8.toNat_or] at h4
   refine Yo (Yo (Yo (Yo (Yo (Yo (Yo ?_))))))
   exact Wk.C.rn [0] (L21 _ _ _ rfl ⟨k0.trans (Jq (by show Zb y a bb w m = _; unfold Zb; rw [if_neg (by omega), if_neg (by omega), if_neg (by omega), if_pos (by omega)])), by simp only [List.length_append, List.length_cons, List.length_nil, List.length_take, List.length_drop, Qb]; omega, by omega⟩)
   simp -failIfUnchanged [-List.getD_eq_getElem?_getD, -UInt8.toNat_or] at h4
   refine Qd ?_ ?_ <;> intro h5 <;> simp -failIfUnchanged [-List.getD_eq_getElem?_getD, -UInt8.toNat_or] at h5
   refine ⟨Qj trivial, ?_⟩
   refine ⟨Qj rfl, ?_⟩
   refine ⟨Qj trivial, ?_⟩
   refine ⟨Qj trivial, ?_⟩
   refine ⟨Qj ⟨(by first | omega | (unfold inI; omega) | exact Way.QiQ (by decide) | (simp; done) | (simp only [List.length_append, List.length_cons, List.length_nil, List.length_take, List.length_drop, Qb]; omega)), trivial⟩, ?_⟩
   refine ⟨Qj ⟨(by first | omega | (unfold inI; omega) | exact Way.QiQ (by decide) | (simp; done) | (simp only [List.length_append, List.length_cons, List.length_nil, List.length_take, List.length_drop, Qb]; omega)), trivial⟩, ?_⟩
   refine ⟨Qj trivial, ?_⟩
   refine ⟨Qj rfl, ?_⟩
   refine ⟨Qj trivial, ?_⟩
   refine ⟨⟨⟨trivial, trivial, trivial⟩, ⟨rfl, rfl, ⟨(by first | omega | (unfold inI; omega) | exact Way.QiQ (by decide) | (simp; done) | (simp only [List.length_append, List.length_cons, List.length_nil, List.length_take, List.length_drop, Qb]; omega)), (by first | omega | (unfold inI; omega) | exact Way.QiQ (by decide) | (simp; done) | (simp only [List.length_append, List.length_cons, List.length_nil, List.length_take, List.length_drop, Qb]; omega)), trivial⟩⟩, trivial, fun _ => trivial⟩, ?_⟩
   refine ⟨Qj ⟨(by first | omega | (unfold inI; omega) | exact Way.QiQ (by decide) | (simp; done) | (simp only [List.length_append, List.length_cons, List.length_nil, List.length_take, List.length_drop, Qb]; omega)), trivial⟩, ?_⟩
   refine ⟨Qj trivial, ?_⟩
   refine ⟨Qj ⟨(by first | omega | (unfold inI; omega) | exact Way.QiQ (by decide) | (simp; done) | (simp only [List.length_append, List.length_cons, List.length_nil, List.length_take, List.length_drop, Qb]; omega)), trivial⟩, ?_⟩
   refine ⟨Qj trivial, ?_⟩
   refine ⟨⟨⟨trivial, trivial⟩, ⟨rfl, rfl, ⟨(by first | omega | (unfold inI; omega) | exact Way.QiQ (by decide) | (simp; done) | (simp only [List.length_append, List.length_cons, List.length_nil, List.length_take, List.length_drop, Qb]; omega)), trivial⟩⟩, trivial, fun _ => trivial⟩, ?_⟩
   refine ⟨Qj ⟨(by first | omega | (unfold inI; omega) | exact Way.QiQ (by decide) | (simp; done) | (simp only [List.length_append, List.length_cons, List.length_nil, List.length_take, List.length_drop, Qb]; omega)), trivial⟩, ?_⟩
   refine ⟨Qj trivial, ?_⟩
   refine ⟨Qj trivial, ?_⟩
   refine ⟨Qj ⟨⟨trivial, trivial⟩, rfl, ⟨(by first | omega | (unfold inI; omega) | exact Way.QiQ (by decide) | (simp; done) | (simp only [List.length_append, List.length_cons, List.length_nil, List.length_take, List.length_drop, Qb]; omega)), trivial⟩⟩, ?_⟩
   refine ⟨Qj ⟨(by first | omega | (unfold inI; omega) | exact Way.QiQ (by decide) | (simp; done) | (simp only [List.length_append, List.length_cons, List.length_nil, List.length_take, List.length_drop, Qb]; omega)), trivial⟩, ?_⟩
   refine ⟨Qj ⟨(by first | omega | (unfold inI; omega) | exact Way.QiQ (by decide) | (simp; done) | (simp only [List.length_append, List.length_cons, List.length_nil, List.length_take, List.length_drop, Qb]; omega)), trivial⟩, ?_⟩
   refine ⟨Qj trivial, ?_⟩
   refine ⟨⟨⟨trivial, trivial⟩, ⟨rfl, rfl, ⟨(by first | omega | (unfold inI; omega) | exact Way.QiQ (by decide) | (simp; done) | (simp only [List.length_append, List.length_cons, List.length_nil, List.length_take, List.length_drop, Qb]; omega)), trivial⟩⟩, trivial, fun _ => trivial⟩, ?_⟩
   refine ⟨Qj ⟨(by first | omega | (unfold inI; omega) | exact Way.QiQ (by decide) | (simp; done) | (simp only [List.length_append, List.length_cons, List.length_nil, List.length_take, List.length_drop, Qb]; omega)), trivial⟩, ?_⟩
   refine ⟨Qj trivial, ?_⟩
   refine ⟨Qj trivial, ?_⟩
   refine ⟨Qj ⟨⟨trivial, trivial⟩, rfl, ⟨(by first | omega | (unfold inI; omega) | exact Way.QiQ (by decide) | (simp; done) | (simp only [List.length_append, List.length_cons, List.length_nil, List.length_take, List.length_drop, Qb]; omega)), trivial⟩⟩, ?_⟩
   refine ⟨Qj ⟨(by first | omega | (unfold inI; omega) | exact Way.QiQ (by decide) | (simp; done) | (simp only [List.length_append, List.length_cons, List.length_nil, List.length_take, List.length_drop, Qb]; omega)), trivial⟩, ?_⟩
   refine ⟨Qj ⟨(by first | omega | (unfold inI; omega) | exact Way.QiQ (by decide) | (simp; done) | (simp only [List.length_append, List.length_cons, List.length_nil, List.length_take, List.length_drop, Qb]; omega)), trivial⟩, ?_⟩
   refine ⟨Qj ⟨(by first | omega | (unfold inI; omega) | exact Way.QiQ (by decide) | (simp; done) | (simp only [List.length_append, List.length_cons, List.length_nil, List.length_take, List.length_drop, Qb]; omega)), trivial⟩, ?_⟩
   refine ⟨Qj trivial, ?_⟩
   exact Wk.C.rn [0] (L21 _ _ _ rfl ⟨k0.trans (Jq (by show Zb y a bb w m = _; unfold Zb; rw [if_neg (by omega), if_neg (by omega), if_neg (by omega), if_neg (by omega), if_pos (by omega)])), by simp only [List.length_append, List.length_cons, List.length_nil, List.length_take, List.length_drop, Qb]; omega, by omega⟩)
   refine Yo (Yo (Yo (Yo ?_)))
   refine ⟨Qj trivial, ?_⟩
   refine ⟨Qj trivial, ?_⟩
   refine ⟨Qj trivial, ?_⟩
   refine ⟨Qj ⟨(by first | omega | (unfold inI; omega) | exact Way.QiQ (by decide) | (simp; done) | (simp only [List.length_append, List.length_cons, List.length_nil, List.length_take, List.length_drop, Qb]; omega)), trivial⟩, ?_⟩
   refine ⟨Qj trivial, ?_⟩
   refine ⟨⟨⟨trivial, trivial⟩, ⟨rfl, rfl, ⟨(by first | omega | (unfold inI; omega) | exact Way.QiQ (by decide) | (simp; done) | (simp only [List.length_append, List.length_cons, List.length_nil, List.length_take, List.length_drop, Qb]; omega)), trivial⟩⟩, trivial, fun _ => trivial⟩, ?_⟩
   refine ⟨Qj ⟨(by first | omega | (unfold inI; omega) | exact Way.QiQ (by decide) | (simp; done) | (simp only [List.length_append, List.length_cons, List.length_nil, List.length_take, List.length_drop, Qb]; omega)), trivial⟩, ?_⟩
   refine ⟨Qj trivial, ?_⟩
   refine ⟨Qj trivial, ?_⟩
   refine ⟨Qj trivial, ?_⟩
   refine ⟨Qj ⟨(by first | omega | (unfold inI; omega) | exact Way.QiQ (by decide) | (simp; done) | (simp only [List.length_append, List.length_cons, List.length_nil, List.length_take, List.length_drop, Qb]; omega)), trivial⟩, ?_⟩
   refine ⟨Qj ⟨(by first | omega | (unfold inI; omega) | exact Way.QiQ (by decide) | (simp; done) | (simp only [List.length_append, List.length_cons, List.length_nil, List.length_take, List.length_drop, Qb]; omega)), trivial⟩, ?_⟩
   refine ⟨Qj ⟨(by first | omega | (unfold inI; omega) | exact Way.QiQ (by decide) | (simp; done) | (simp only [List.length_append, List.length_cons, List.length_nil, List.length_take, List.length_drop, Qb]; omega)), trivial⟩, ?_⟩
   refine ⟨Qj trivial, ?_⟩
   refine ⟨⟨⟨trivial, trivial⟩, ⟨rfl, rfl, ⟨(by first | omega | (unfold inI; omega) | exact Way.QiQ (by decide) | (simp; done) | (simp only [List.length_append, List.length_cons, List.length_nil, List.length_take, List.length_drop, Qb]; omega)), trivial⟩⟩, trivial, fun _ => trivial⟩, ?_⟩
   refine ⟨Qj ⟨(by first | omega | (unfold inI; omega) | exact Way.QiQ (by decide) | (simp; done) | (simp only [List.length_append, List.length_cons, List.length_nil, List.length_take, List.length_drop, Qb]; omega)), trivial⟩, ?_⟩
   refine ⟨Qj trivial, ?_⟩
   refine ⟨Qj trivial, ?_⟩
   refine ⟨Qj ⟨(by first | omega | (unfold inI; omega) | exact Way.QiQ (by decide) | (simp; done) | (simp only [List.length_append, List.length_cons, List.length_nil, List.length_take, List.length_drop, Qb]; omega)), trivial⟩, ?_⟩
   refine ⟨Qj ⟨(by first | omega | (unfold inI; omega) | exact Way.QiQ (by decide) | (simp; done) | (simp only [List.length_append, List.length_cons, List.length_nil, List.length_take, List.length_drop, Qb]; omega)), trivial⟩, ?_⟩
   refine ⟨Qj ⟨(by first | omega | (unfold inI; omega) | exact Way.QiQ (by decide) | (simp; done) | (simp only [List.length_append, List.length_cons, List.length_nil, List.length_take, List.length_drop, Qb]; omega)), trivial⟩, ?_⟩
   refine ⟨Qj ⟨(by first | omega | (unfold inI; omega) | exact Way.QiQ (by decide) | (simp; done) | (simp only [List.length_append, List.length_cons, List.length_nil, List.length_take, List.length_drop, Qb]; omega)), trivial⟩, ?_⟩
   refine ⟨Qj trivial, ?_⟩
   exact Wk.C.rn [0] (L21 _ _ _ rfl ⟨k0.trans (Jq (by show Zb y a bb w m = _; unfold Zb; rw [if_neg (by omega), if_neg (by omega), if_neg (by omega), if_neg (by omega), if_neg (by omega)])), by simp only [List.length_append, List.length_cons, List.length_nil, List.length_take, List.length_drop, Qb]; omega, by omega⟩)
 have L4 : ∀ (mm : Nat) (m : Nat), 0 = mm -> (Vr y (SelD.mk k o ke va a bb fl sz) n = Jr y (SelD.mk k o ke va a bb fl sz) m /\ m <= n + 1) -> W87.C K 4 (mkS 211 [(0, (.ptr 0 0)), (3, (.ptr 1 0))] [(0, .blk 62 [(.sl (.sels l)), (.sl (.bytes y)), (.nat m)]), (1, .blk 33 [(.int .i64 k), (.int .i64 o), (.str ke), (.str va), (.int .i64 a), (.int .i64 bb), (.int .i64 fl), (.int .i64 sz)])] 2) := by
  intro mm
  induction mm using Nat.strongRecOn with
  | _ mm ih =>
   intro m hm hI
   obtain ⟨k0, k1⟩ := hI
   have s1 := QY (l := Q3) (n := 12) (by decide) fl.toNat
   have e1 := VS y ([110, 116, 104, 45] ++ Q3.getD fl.toNat []) m
   have e2 := VG y (Ql y ([110, 116, 104, 45] ++ Q3.getD fl.toNat []) m).2
   have e3 := Vx y (Ql y ([110, 116, 104, 45] ++ Q3.getD fl.toNat []) m).2
   have e4 := YI y (Qh y (Ql y ([110, 116, 104, 45] ++ Q3.getD fl.toNat []) m).2).2 3
   have f0 := s1
   have f1 := e1
   have f2 := e2
   have f3 := e3
   have f4 := e4
   unfold Q3 at f0 f1 f2 f3 f4
   refine W87.aC hD (have a0 := ([[99, 104, 105, 108, 100], [108, 97, 115, 116, 45, 99, 104, 105, 108, 100], [111, 102, 45, 116, 121, 112, 101], [108, 97, 115, 116, 45, 111, 102, 45, 116, 121, 112, 101]] : List (List UInt8)).getD ((fl).toNat) []; have a1 := Ql y ([110, 116, 104, 45] ++ a0) m; have a2 := Qh y (a1.2); (0 <= fl /\ fl < (4 : Nat)) /\ ((fl).toNat < 4) /\ (4 + a0.length <= 2305843009213693952) /\ (m <= 900000000000) /\ (([110, 116, 104, 45] ++ a0).length <= 1000000000) /\ (1 + (a1.1).length <= 2305843009213693952) /\ (([58] ++ (a1.1)).length + 1 <= 2305843009213693952) /\ (a1.2 <= 900000000000) /\ (([58] ++ (a1.1) ++ [40]).length + (a2.1).length <= 2305843009213693952) /\ (0 < 3) /\ (a2.2 <= 1000000000000) /\ (W87).C K 9 (mkS 211 [(0, (.ptr 0 0)), (3, (.ptr 1 0)), (6, (.str ([58] ++ (a1.1) ++ [40] ++ (a2.1)))), (7, (.nat ((chc y (a2.2) 3).1)))] [(2, .row (.strs [[99, 104, 105, 108, 100], [108, 97, 115, 116, 45, 99, 104, 105, 108, 100], [111, 102, 45, 116, 121, 112, 101], [108, 97, 115, 116, 45, 111, 102, 45, 116, 121, 112, 101]]) true), (0, .blk 62 [(.sl (.sels l)), (.sl (.bytes y)), (.nat ((chc y (a2.2) 3).2))]), (1, .blk 33 [(.int .i64 k), (.int .i64 o), (.str ke), (.str va), (.int .i64 a), (.int .i64 bb), (.int .i64 fl), (.int .i64 sz)])] 3)) ?_
   refine Yo (Yo (Yo (Yo (Yo (Yo (Yo (Yo (Yo (Yo (Yo ?_))))))))))
   exact Wk.C.rn [0, 1] (L9 _ _ _ _ rfl ⟨k0.trans Qpx, by simp only [List.length_append, List.length_cons, List.length_nil, List.length_take, List.length_drop, Qb]; omega, by simp only; omega⟩)
 refine W87.en (have a0 := ([[102, 105, 114, 115, 116, 45, 99, 104, 105, 108, 100], [108, 97, 115, 116, 45, 99, 104, 105, 108, 100], [102, 105, 114, 115, 116, 45, 111, 102, 45, 116, 121, 112, 101], [108, 97, 115, 116, 45, 111, 102, 45, 116, 121, 112, 101]] : List (List UInt8)).getD ((fl).toNat) []; have a1 : RV := .strs [[102, 105, 114, 115, 116, 45, 99, 104, 105, 108, 100], [108, 97, 115, 116, 45, 99, 104, 105, 108, 100], [102, 105, 114, 115, 116, 45, 111, 102, 45, 116, 121, 112, 101], [108, 97, 115, 116, 45, 111, 102, 45, 116, 121, 112, 101]]; have a2 := (decide (a = (0 : Int))) && (decide (bb = (1 : Int))); have a3 := Ql y a0 ((chc y n 2).2); (0 <= fl /\ fl < (4 : Nat)) /\ ((fl).toNat < 4) /\ (a2 = true -> (0 < 2) /\ (n <= 1000000000000) /\ cond (decide ((chc y n 2).1 = 1)) (((chc y n 2).2 <= 900000000000) /\ (a0.length <= 1000000000) /\ (1 + (a3.1).length <= 2305843009213693952) /\ K (.val (.str ([58] ++ (a3.1)))) (some (.blk 62 [(.sl (.sels l)), (.sl (.bytes y)), (.nat (a3.2))]))) ((W87).C K 4 (mkS 211 [(0, (.ptr 0 0)), (3, (.ptr 1 0))] [(2, .row a1 true), (1, .blk 33 [(.int .i64 k), (.int .i64 o), (.str ke), (.str va), (.int .i64 a), (.int .i64 bb), (.int .i64 fl), (.int .i64 sz)]), (0, .blk 62 [(.sl (.sels l)), (.sl (.bytes y)), (.nat ((chc y n 2).2))])] 3))) /\ (a2 = false -> (W87).C K 4 (mkS 211 [(0, (.ptr 0 0)), (3, (.ptr 1 0))] [(2, .row a1 true), (1, .blk 33 [(.int .i64 k), (.int .i64 o), (.str ke), (.str va), (.int .i64 a), (.int .i64 bb), (.int .i64 fl), (.int .i64 sz)]), (0, .blk 62 [(.sl (.sels l)), (.sl (.bytes y)), (.nat n)])] 3))) ?_
 refine Yo (Yo ?_)
 refine ⟨fun h1 => ?_, fun h1 => ?_⟩
 simp -failIfUnchanged [-List.getD_eq_getElem?_getD, -UInt8.toNat_or] at h1
 refine Yo (Yo ?_)
 refine Qd ?_ ?_ <;> intro h2 <;> simp -failIfUnchanged [-List.getD_eq_getElem?_getD, -UInt8.toNat_or] at h2
 refine Yo (Yo (Yo ?_))
 exact Zy hk (QeU (x := (SelD.mk k o ke va a bb fl sz)) h1 h2)
 exact Wk.C.rn [0, 1] (L4 _ _ rfl ⟨QeV (x := (SelD.mk k o ke va a bb fl sz)) h1 h2, by omega⟩)
 simp -failIfUnchanged [-List.getD_eq_getElem?_getD, -UInt8.toNat_or] at h1
 exact Wk.C.rn [0, 1] (L4 _ _ rfl ⟨QhF (x := (SelD.mk k o ke va a bb fl sz)) (fun c => by simp only at c; omega), by omega⟩)
 cases e
def c87 (svs : List SV) (b : Option SB) : FR := match svs, b with
 | [.ptr 0 0, x], some (.blk 62 [.sl (.sels l), .sl (.bytes y), .nat n]) => match QaX x with
  | some x => some ([-9999 <= x.a /\ x.a <= 9999 /\ -9999 <= x.b /\ x.b <= 9999, 0 <= x.flag /\ x.flag <= 3, n <= 800000000000], .val (.str (Vr y x n).1), some (.blk 62 [.sl (.sels l), .sl (.bytes y), .nat (Vr y x n).2]))
  | _ => none
 | _, _ => none
theorem sat87 : Sat 87 (fnS c87) := by
 refine Sat.wk QqK fun svs b K h => ?_
 obtain ⟨ps, v, b', e, hp, hk⟩ := Yp h
 unfold c87 at e
 split at e
 rename_i x l y n
 split at e
 rename_i x' hx
 cases e
 exact ⟨[.ptr 0 0, .agg (Vl x')], ⟨fun ω v h => h, fun ω v => Zu hx, trivial⟩, hp.1, hp.2.1, hp.2.2.1, hk⟩
 cases e
 cases e
end
end Go.Proofs.YtengepcafdnalaaGreatDoor
