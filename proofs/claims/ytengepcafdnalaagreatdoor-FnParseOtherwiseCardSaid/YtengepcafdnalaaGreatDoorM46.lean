/-
  Parts of the proof that the law FnParseOtherwise holds for every input (texts Od). Conditions: none.
-/
import Derived.Test.YtengepcafdnalaaGreatDoorM45
namespace Go.Proofs.YtengepcafdnalaaGreatDoor
section
open Go Go.RowKit
set_option maxRecDepth 20000
def QeZ (y : Bs) (x : SelD) (u : Bs) (m : Nat) : Bs × Nat :=
 if x.op = 1 then ((u ++ (Qh y m).1) ++ [93], (Qh y m).2)
 else
  let t := VK y x.val (Qh y m).2; let w := (u ++ (Vz.getD x.op.toNat [] ++ (Qh y m).1)) ++ t.1
  if x.flag = 1 then
   let i := chc y t.2 2; let e := Qh y i.2
   (((w ++ ([32] ++ ([[105], [73]] : List Bs).getD i.1 [])) ++ e.1) ++ [93], e.2)
  else ((w ++ (Qh y t.2).1) ++ [93], (Qh y t.2).2)
theorem QnQ (y : Bs) (x : SelD) (n : Nat) : ZF y x n = QeZ y x (((([91] : Bs) ++ (Qh y n).1) ++ (Ql y (Qs x.key) (Qh y n).2).1) ++ (Qh y (Ql y (Qs x.key) (Qh y n).2).2).1) (Qh y (Ql y (Qs x.key) (Qh y n).2).2).2 := by
 unfold ZF QeZ
 by_cases h1 : x.op = 1
 simp [h1]
 by_cases h2 : x.flag = 1 <;> simp [h1, h2]
theorem QgG {y : Bs} {x : SelD} {n : Nat} (h : x.kind = 5) : Qv y x n = ZF y x n := by
 unfold Qv
 rw [if_neg (by omega), if_neg (by omega), if_neg (by omega), if_neg (by omega), if_pos h]
def c61i (svs : List SV) (b : Option SB) : FR := match svs, b with
 | [.ptr 0 0, .agg [.int .i64 k, .int .i64 o, .str ke, .str va, .int .i64 a, .int .i64 bb, .int .i64 fl, .int .i64 sz]], some (.blk 62 [.sl (.sels l), .sl (.bytes y), .nat n]) => some ([Way.Fld (SelD.mk k o ke va a bb fl sz), Qp (SelD.mk k o ke va a bb fl sz).kind = true /\ ¬ ((SelD.mk k o ke va a bb fl sz).kind = 18 \/ (SelD.mk k o ke va a bb fl sz).kind = 19 \/ (SelD.mk k o ke va a bb fl sz).kind = 20), (SelD.mk k o ke va a bb fl sz).key.length + (SelD.mk k o ke va a bb fl sz).val.length <= 20000, QG (SelD.mk k o ke va a bb fl sz).val 0 = true, n <= 600000000000], .val (.str (Qv y (SelD.mk k o ke va a bb fl sz) n).1), some (.blk 62 [.sl (.sels l), .sl (.bytes y), .nat (Qv y (SelD.mk k o ke va a bb fl sz) n).2]))
 | _, _ => none
noncomputable def W61 : Wk := ⟨[(34, .fn c34), (57, .pure c57), (58, .fn c58), (60, .fn c60), (62, .pure c62), (81, .pure c81), (82, .pure c82), (85, .fn c85), (86, .fn c86), (87, .fn c87)], Qm Tryz.f61, true, false, [.tmp 4], [9], [(12, 41), (17, 33)], [12, 17]⟩
theorem has61 : Has 61 := hsf Tryz.f61
theorem YK {p q : Prop} (k : q) (h : p := by first | omega | (unfold inI; omega) | exact Way.QiQ (by decide) | exact h01 | exact h05 | (simp; done) | (simp only [List.length_append, List.length_cons, List.length_nil, Qb]; omega) | (simp only; omega) | (refine ⟨?_, ?_⟩ <;> (first | omega | (simp only [Qp, Bool.and_eq_true, decide_eq_true_eq]; omega)))) : p /\ q := ⟨h, k⟩
theorem QqM : Sat 61 (fnS c61i) := by
 have hD : Qe W61.D := (Qe.cons Qj2 Qjj (Qe.cons has57 sat57 (Qe.cons QeI Qei (Qe.cons Qj1 Qji (Qe.cons Qj0 Qjh (Qe.cons Qqh QpO (Qe.cons Qng Ql2 (Qe.cons Qqf QpM (Qe.cons has86 sat86 (Qe.cons has87 sat87 Qe.nil))))))))))
 refine W61.sa hD Tryz.f61 fun svs b K hP => ?_
 obtain ⟨ps, o, b', e, hp, hk⟩ := Yp hP
 unfold c61i at e
 split at e
 rename_i k o ke va a bb fl sz l y n
 cases e
 obtain ⟨h01, ⟨h02, h03⟩, h04, h05, h06, _⟩ := hp
 simp only [Qp, Bool.and_eq_true, decide_eq_true_eq] at h02 h03 h04 h05
 obtain ⟨r1, r2, r3, r4⟩ := h01.rng
 have f5 := h01.attr
 have f6 := h01.nth
 have f7 := h01.only
 simp only at r1 r2 r3 r4 f5 f6 f7
 have l1 := VL ke
 have l2 := VL va
 have l3 := Jw va
 have l4 := J3 (x := (SelD.mk k o ke va a bb fl sz)) (by simp only; omega) (by simp only; omega)
 simp only at l4
 have a1 := VG y n
 have a2 := Vx y n
 have a3 := VS y (Qs ke) (Qh y n).2
 have a4 := VG y (Ql y (Qs ke) (Qh y n).2).2
 have a5 := Vx y (Ql y (Qs ke) (Qh y n).2).2
 have b1 := Qis y n h05
 have b2 := VS y [108, 97, 110, 103] n
 have b3 := VG y (Ql y [108, 97, 110, 103] n).2
 have b4 := Vx y (Ql y [108, 97, 110, 103] n).2
 have b5 := VG y (Qh y (Ql y [108, 97, 110, 103] n).2).2
 have b6 := Vx y (Qh y (Ql y [108, 97, 110, 103] n).2).2
 have c2 := VS y [99, 111, 110, 116, 97, 105, 110, 115] n
 have c3 := VG y (Ql y [99, 111, 110, 116, 97, 105, 110, 115] n).2
 have c4 := Vx y (Ql y [99, 111, 110, 116, 97, 105, 110, 115] n).2
 have c5 := VG y (Qh y (Ql y [99, 111, 110, 116, 97, 105, 110, 115] n).2).2
 have c6 := Vx y (Qh y (Ql y [99, 111, 110, 116, 97, 105, 110, 115] n).2).2
 have d2 := VS y [99, 111, 110, 116, 97, 105, 110, 115, 111, 119, 110] n
 have d3 := VG y (Ql y [99, 111, 110, 116, 97, 105, 110, 115, 111, 119, 110] n).2
 have d4 := Vx y (Ql y [99, 111, 110, 116, 97, 105, 110, 115, 111, 119, 110] n).2
 have d5 := VG y (Qh y (Ql y [99, 111, 110, 116, 97, 105, 110, 115, 111, 119, 110] n).2).2
 have d6 := Vx y (Qh y (Ql y [99, 111, 110, 116, 97, 105, 110, 115, 111, 119, 110] n).2).2
 have L17 : ∀ (mm : Nat) (m : Nat) (u : List UInt8), 0 = mm -> (Qv y (SelD.mk k o ke va a bb fl sz) n = ((u ++ (Qh y m).1) ++ [93], (Qh y m).2) /\ u.length <= 1000000 /\ m <= n + 100000) -> W61.C K 17 (mkS 138 [(0, (.ptr 0 0)), (5, (.str u))] [(0, .blk 62 [(.sl (.sels l)), (.sl (.bytes y)), (.nat m)])] 1) := by
  intro mm
  induction mm using Nat.strongRecOn with
  | _ mm ih =>
   intro m u hm hI
   obtain ⟨k0, k1, k2⟩ := hI
   have g2 := VG y m
   have gL := Vx y m
   refine W61.aC hD ((m <= 900000000000) /\ (u.length + ((Qh y m).1).length <= 2305843009213693952) /\ ((u ++ ((Qh y m).1)).length + 1 <= 2305843009213693952) /\ K (.val (.str (u ++ ((Qh y m).1) ++ [93]))) (some (.blk 62 [(.sl (.sels l)), (.sl (.bytes y)), (.nat ((Qh y m).2))]))) ?_
   refine YK (YK (YK ?_))
   exact Zy hk k0
 have L12 : ∀ (mm : Nat) (m : Nat) (u : List UInt8), 0 = mm -> (k = 5 /\ Qv y (SelD.mk k o ke va a bb fl sz) n = QeZ y (SelD.mk k o ke va a bb fl sz) u m /\ u.length <= 200000 /\ m <= n + 3) -> W61.C K 12 (mkS 138 [(0, (.ptr 0 0)), (3, (.ptr 1 0)), (5, (.str u))] [(0, .blk 62 [(.sl (.sels l)), (.sl (.bytes y)), (.nat m)]), (1, .blk 33 [(.int .i64 k), (.int .i64 o), (.str ke), (.str va), (.int .i64 a), (.int .i64 bb), (.int .i64 fl), (.int .i64 sz)])] 2) := by
  intro mm
  induction mm using Nat.strongRecOn with
  | _ mm ih =>
   intro m u hm hI
   obtain ⟨k5, k0, k1, k2⟩ := hI
   have f8 := f5 k5
   have g2 := VG y m
   have gL := Vx y m
   have t2 := QlE y (Qh y m).2 h05
   have i2 := YI y (VK y va (Qh y m).2).2 2
   have s1 := QY (l := Vz) (n := 2) (by decide) o.toNat
   have s2 := QY (l := ([[105], [73]] : List Bs)) (n := 1) (by decide) (chc y (VK y va (Qh y m).2).2 2).1
   refine W61.aC hD (have a0 := VK y va ((Qh y m).2); have a1 := Vz.getD (o).toNat [] ++ ((Qh y m).1); have a2 := ([[105], [73]] : List (List UInt8)).getD ((chc y (a0.2) 2).1) []; cond (!(decide (o = (1 : Int)))) ((0 <= o /\ o < 9) /\ (m <= 900000000000) /\ ((Vz.getD (o).toNat []).length + ((Qh y m).1).length <= 2305843009213693952) /\ (u.length + a1.length <= 2305843009213693952) /\ ((Qh y m).2 <= 700000000000) /\ (va.length <= 90000) /\ (QG va 0 = true) /\ ((u ++ a1).length + (a0.1).length <= 2305843009213693952) /\ cond (decide (fl = (1 : Int))) ((0 < 2) /\ (a0.2 <= 1000000000000) /\ ((chc y (a0.2) 2).1 < 2) /\ ((chc y (a0.2) 2).1 < 2) /\ (1 + a2.length <= 2305843009213693952) /\ ((u ++ a1 ++ (a0.1)).length + ([32] ++ a2).length <= 2305843009213693952) /\ (W61).C K 17 (mkS 138 [(0, (.ptr 0 0)), (5, (.str (u ++ a1 ++ (a0.1) ++ ([32] ++ a2))))] [(2, .row (.strs [[105], [73]]) true), (0, .blk 62 [(.sl (.sels l)), (.sl (.bytes y)), (.nat ((chc y (a0.2) 2).2))]), (1, .blk 33 [(.int .i64 k), (.int .i64 o), (.str ke), (.str va), (.int .i64 a), (.int .i64 bb), (.int .i64 fl), (.int .i64 sz)])] 3)) ((W61).C K 17 (mkS 138 [(0, (.ptr 0 0)), (5, (.str (u ++ a1 ++ (a0.1))))] [(0, .blk 62 [(.sl (.sels l)), (.sl (.bytes y)), (.nat (a0.2))]), (1, .blk 33 [(.int .i64 k), (.int .i64 o), (.str ke), (.str va), (.int .i64 a), (.int .i64 bb), (.int .i64 fl), (.int .i64 sz)])] 2))) ((W61).C K 17 (mkS 138 [(0, (.ptr 0 0)), (5, (.str u))] [(0, .blk 62 [(.sl (.sels l)), (.sl (.bytes y)), (.nat m)]), (1, .blk 33 [(.int .i64 k), (.int .i64 o), (.str ke), (.str va), (.int .i64 a), (.int .i64 bb), (.int .i64 fl), (.int .i64 sz)])] 2))) ?_
   refine Qd ?_ ?_ <;> intro h1 <;> simp -failIfUnchanged [-List.getD_eq_getElem?_getD, -UInt8.toNat_or] at h1
   refine YK (YK (YK (YK (YK (YK (YK (YK ?_)))))))
   refine Qd ?_ ?_ <;> intro h2 <;> simp -failIfUnchanged [-List.getD_eq_getElem?_getD, -UInt8.toNat_or] at h2
   refine YK (YK (YK (YK (YK (YK ?_)))))
   exact Wk.C.rn [0] (L17 _ _ _ rfl ⟨k0.trans (by unfold QeZ; simp only; rw [if_neg (by omega), if_pos (by omega)]), by first | omega | (simp only [List.length_append, List.length_cons, List.length_nil, Qb]; omega), by first | omega | (simp only; omega)⟩)
   exact Wk.C.rn [0] (L17 _ _ _ rfl ⟨k0.trans (by unfold QeZ; simp only; rw [if_neg (by omega), if_neg (by omega)]), by first | omega | (simp only [List.length_append, List.length_cons, List.length_nil, Qb]; omega), by first | omega | (simp only; omega)⟩)
   exact Wk.C.rn [0] (L17 _ _ _ rfl ⟨k0.trans (by unfold QeZ; simp only; rw [if_pos (by omega)]), by first | omega | (simp only [List.length_append, List.length_cons, List.length_nil, Qb]; omega), by first | omega | (simp only; omega)⟩)
 refine W61.en (have a0 := Ql y [99, 111, 110, 116, 97, 105, 110, 115, 111, 119, 110] n; have a1 := Ql y [99, 111, 110, 116, 97, 105, 110, 115] n; have a2 := Ql y [108, 97, 110, 103] n; have a3 := SelD.mk k o ke va a bb fl sz; have a4 := Ql y (Qs ke) ((Qh y n).2); have a5 : SV := .sl (.bytes y); have a6 := QN 4 (True) (.ptr 0 0); have a7 : SV := .sl (.sels l); have a11 := true = true -> True; have a12 := (True /\ True) /\ SV.lts 0 [(.str va)] = true /\ (va.length <= 100000) /\ True; have a13 := Qh y (a2.2); have a10 : SV := .str ([58] ++ (a2.1) ++ [40] ++ (a13.1) ++ (Qs va) ++ ((Qh y (a13.2)).1) ++ [41]); have a14 := Qh y (a1.2); have a8 : SV := .str ([58] ++ (a1.1) ++ [40] ++ (a14.1) ++ (QQ va) ++ ((Qh y (a14.2)).1) ++ [41]); have a15 := Qh y (a0.2); have a9 : SV := .str ([58] ++ (a0.1) ++ [40] ++ (a15.1) ++ (QQ va) ++ ((Qh y (a15.2)).1) ++ [41]); have a17 := n <= 900000000000; have a18 := V4 y va n; have a19 := True /\ True /\ True; have a20 := QN 4 (True) (.ptr 1 3); have a21 := (Qh y n).1; have a16 : SV := .str ([91] ++ a21 ++ (a4.1) ++ ((Qh y (a4.2)).1)); have a22 := QN 4 (True) (.str va); cond (decide (k = (1 : Int))) (K (.val (.str [42])) (some (.blk 62 [a7, a5, (.nat n)]))) (cond (decide (k = (2 : Int))) ((ke.length <= 100000) /\ a17 /\ ((Qs ke).length <= 1000000000) /\ K (.val (.str ((Ql y (Qs ke) n).1))) (some (.blk 62 [a7, a5, (.nat ((Ql y (Qs ke) n).2))]))) (cond (decide (k = (3 : Int))) ((n <= 800000000000) /\ (va.length <= 90000) /\ (QG va 0 = true) /\ (1 + (a18.1).length <= 2305843009213693952) /\ K (.val (.str ([46] ++ (a18.1)))) (some (.blk 62 [a7, a5, (.nat (a18.2))]))) (cond (decide (k = (4 : Int))) ((n <= 800000000000) /\ (va.length <= 90000) /\ (QG va 0 = true) /\ (1 + (a18.1).length <= 2305843009213693952) /\ K (.val (.str ([35] ++ (a18.1)))) (some (.blk 62 [a7, a5, (.nat (a18.2))]))) (cond (decide (k = (5 : Int))) (a6 /\ ((True /\ True) /\ (SV.lts 0 [] = true /\ SV.lts 0 [a7, a5, (.nat n)] = true /\ a17 /\ True) /\ True /\ a11) /\ (QN 4 ((1 + a21.length <= 2305843009213693952) /\ True) (.str ([91] ++ a21))) /\ a6 /\ (QN 4 (True) (.ptr 1 2)) /\ (QN 4 (True) (.str ke)) /\ (QN 4 ((True /\ True) /\ SV.lts 0 [(.str ke)] = true /\ (ke.length <= 100000) /\ True) (.str (Qs ke))) /\ (a19 /\ (SV.lts 0 [(.str (Qs ke))] = true /\ SV.lts 0 [a7, a5, (.nat ((Qh y n).2))] = true /\ ((Qh y n).2 <= 900000000000) /\ ((Qs ke).length <= 1000000000) /\ True) /\ True /\ a11) /\ (QN 4 ((([91] ++ a21).length + (a4.1).length <= 2305843009213693952) /\ True) (.str ([91] ++ a21 ++ (a4.1)))) /\ a6 /\ ((True /\ True) /\ (SV.lts 0 [] = true /\ SV.lts 0 [a7, a5, (.nat (a4.2))] = true /\ (a4.2 <= 900000000000) /\ True) /\ True /\ a11) /\ (QN 4 ((([91] ++ a21 ++ (a4.1)).length + ((Qh y (a4.2)).1).length <= 2305843009213693952) /\ True) a16) /\ (QN 4 (True) a16) /\ (W61).C K 12 (mkS 138 [(0, (.ptr 0 0)), (3, (.ptr 1 0)), (5, a16)] [(1, .blk 33 [(.int .i64 k), (.int .i64 o), (.str ke), (.str va), (.int .i64 a), (.int .i64 bb), (.int .i64 fl), (.int .i64 sz)]), (0, .blk 62 [a7, a5, (.nat ((Qh y (a4.2)).2))])] 2)) (cond (decide (k = (6 : Int))) ((-9999 <= a3.a /\ a3.a <= 9999 /\ -9999 <= a3.b /\ a3.b <= 9999) /\ (0 <= a3.flag /\ a3.flag <= 3) /\ (n <= 800000000000) /\ K (.val (.str ((Vr y a3 n).1))) (some (.blk 62 [a7, a5, (.nat ((Vr y a3 n).2))]))) (cond (decide (k = (15 : Int))) (a6 /\ (a19 /\ (SV.lts 0 [(.str [108, 97, 110, 103])] = true /\ SV.lts 0 [a7, a5, (.nat n)] = true /\ a17 /\ (4 <= 1000000000) /\ True) /\ True /\ a11) /\ (QN 4 ((1 + (a2.1).length <= 2305843009213693952) /\ True) (.str ([58] ++ (a2.1)))) /\ (QN 4 ((([58] ++ (a2.1)).length + 1 <= 2305843009213693952) /\ True) (.str ([58] ++ (a2.1) ++ [40]))) /\ a6 /\ ((True /\ True) /\ (SV.lts 0 [] = true /\ SV.lts 0 [a7, a5, (.nat (a2.2))] = true /\ (a2.2 <= 900000000000) /\ True) /\ True /\ a11) /\ (QN 4 ((([58] ++ (a2.1) ++ [40]).length + (a13.1).length <= 2305843009213693952) /\ True) (.str ([58] ++ (a2.1) ++ [40] ++ (a13.1)))) /\ a20 /\ a22 /\ (QN 4 a12 (.str (Qs va))) /\ (QN 4 ((([58] ++ (a2.1) ++ [40] ++ (a13.1)).length + (Qs va).length <= 2305843009213693952) /\ True) (.str ([58] ++ (a2.1) ++ [40] ++ (a13.1) ++ (Qs va)))) /\ a6 /\ ((True /\ True) /\ (SV.lts 0 [] = true /\ SV.lts 0 [a7, a5, (.nat (a13.2))] = true /\ (a13.2 <= 900000000000) /\ True) /\ True /\ a11) /\ (QN 4 ((([58] ++ (a2.1) ++ [40] ++ (a13.1) ++ (Qs va)).length + ((Qh y (a13.2)).1).length <= 2305843009213693952) /\ True) (.str ([58] ++ (a2.1) ++ [40] ++ (a13.1) ++ (Qs va) ++ ((Qh y (a13.2)).1)))) /\ (QN 4 ((([58] ++ (a2.1) ++ [40] ++ (a13.1) ++ (Qs va) ++ ((Qh y (a13.2)).1)).length + 1 <= 2305843009213693952) /\ True) a10) /\ (QN 4 (True) a10) /\ K (.val a10) (some (.blk 62 [a7, a5, (.nat ((Qh y (a13.2)).2))]))) (cond (decide (k = (16 : Int))) (a6 /\ (a19 /\ (SV.lts 0 [(.str [99, 111, 110, 116, 97, 105, 110, 115])] = true /\ SV.lts 0 [a7, a5, (.nat n)] = true /\ a17 /\ (8 <= 1000000000) /\ True) /\ True /\ a11) /\ (QN 4 ((1 + (a1.1).length <= 2305843009213693952) /\ True) (.str ([58] ++ (a1.1)))) /\ (QN 4 ((([58] ++ (a1.1)).length + 1 <= 2305843009213693952) /\ True) (.str ([58] ++ (a1.1) ++ [40]))) /\ a6 /\ ((True /\ True) /\ (SV.lts 0 [] = true /\ SV.lts 0 [a7, a5, (.nat (a1.2))] = true /\ (a1.2 <= 900000000000) /\ True) /\ True /\ a11) /\ (QN 4 ((([58] ++ (a1.1) ++ [40]).length + (a14.1).length <= 2305843009213693952) /\ True) (.str ([58] ++ (a1.1) ++ [40] ++ (a14.1)))) /\ a20 /\ a22 /\ (QN 4 a12 (.str (QQ va))) /\ (QN 4 ((([58] ++ (a1.1) ++ [40] ++ (a14.1)).length + (QQ va).length <= 2305843009213693952) /\ True) (.str ([58] ++ (a1.1) ++ [40] ++ (a14.1) ++ (QQ va)))) /\ a6 /\ ((True /\ True) /\ (SV.lts 0 [] = true /\ SV.lts 0 [a7, a5, (.nat (a14.2))] = true /\ (a14.2 <= 900000000000) /\ True) /\ True /\ a11) /\ (QN 4 ((([58] ++ (a1.1) ++ [40] ++ (a14.1) ++ (QQ va)).length + ((Qh y (a14.2)).1).length <= 2305843009213693952) /\ True) (.str ([58] ++ (a1.1) ++ [40] ++ (a14.1) ++ (QQ va) ++ ((Qh y (a14.2)).1)))) /\ (QN 4 ((([58] ++ (a1.1) ++ [40] ++ (a14.1) ++ (QQ va) ++ ((Qh y (a14.2)).1)).length + 1 <= 2305843009213693952) /\ True) a8) /\ (QN 4 (True) a8) /\ K (.val a8) (some (.blk 62 [a7, a5, (.nat ((Qh y (a14.2)).2))]))) (cond (decide (k = (17 : Int))) (a6 /\ (a19 /\ (SV.lts 0 [(.str [99, 111, 110, 116, 97, 105, 110, 115, 111, 119, 110])] = true /\ SV.lts 0 [a7, a5, (.nat n)] = true /\ a17 /\ (11 <= 1000000000) /\ True) /\ True /\ a11) /\ (QN 4 ((1 + (a0.1).length <= 2305843009213693952) /\ True) (.str ([58] ++ (a0.1)))) /\ (QN 4 ((([58] ++ (a0.1)).length + 1 <= 2305843009213693952) /\ True) (.str ([58] ++ (a0.1) ++ [40]))) /\ a6 /\ ((True /\ True) /\ (SV.lts 0 [] = true /\ SV.lts 0 [a7, a5, (.nat (a0.2))] = true /\ (a0.2 <= 900000000000) /\ True) /\ True /\ a11) /\ (QN 4 ((([58] ++ (a0.1) ++ [40]).length + (a15.1).length <= 2305843009213693952) /\ True) (.str ([58] ++ (a0.1) ++ [40] ++ (a15.1)))) /\ a20 /\ a22 /\ (QN 4 a12 (.str (QQ va))) /\ (QN 4 ((([58] ++ (a0.1) ++ [40] ++ (a15.1)).length + (QQ va).length <= 2305843009213693952) /\ True) (.str ([58] ++ (a0.1) ++ [40] ++ (a15.1) ++ (QQ va)))) /\ a6 /\ ((True /\ True) /\ (SV.lts 0 [] = true /\ SV.lts 0 [a7, a5, (.nat (a15.2))] = true /\ (a15.2 <= 900000000000) /\ True) /\ True /\ a11) /\ (QN 4 ((([58] ++ (a0.1) ++ [40] ++ (a15.1) ++ (QQ va)).length + ((Qh y (a15.2)).1).length <= 2305843009213693952) /\ True) (.str ([58] ++ (a0.1) ++ [40] ++ (a15.1) ++ (QQ va) ++ ((Qh y (a15.2)).1)))) /\ (QN 4 ((([58] ++ (a0.1) ++ [40] ++ (a15.1) ++ (QQ va) ++ ((Qh y (a15.2)).1)).length + 1 <= 2305843009213693952) /\ True) a9) /\ (QN 4 (True) a9) /\ K (.val a9) (some (.blk 62 [a7, a5, (.nat ((Qh y (a15.2)).2))]))) ((Way.Fld a3) /\ (Qp a3.kind = true /\ ¬ (a3.kind = 18 \/ a3.kind = 19 \/ a3.kind = 20)) /\ (a3.key.length + a3.val.length <= 100000) /\ a17 /\ ((Qq a3).length <= 1000000000) /\ K (.val (.str ((Ql y (Qq a3) n).1))) (some (.blk 62 [a7, a5, (.nat ((Ql y (Qq a3) n).2))])))))))))))) ?_
 refine Qd ?_ ?_ <;> intro h1 <;> simp -failIfUnchanged [-List.getD_eq_getElem?_getD, -UInt8.toNat_or] at h1
 refine Zy hk ?_
 unfold Qv
 simp [h1, Yx, Y6, Q7, QI, -List.getD_eq_getElem?_getD]
 refine Qd (fun h2 => ?_) (fun h2 => ?_)
 simp -failIfUnchanged [-List.getD_eq_getElem?_getD, -UInt8.toNat_or] at h2
 refine YK (YK (YK ?_))
 refine Zy hk ?_
 unfold Qv
 simp [h1, h2, Yx, Y6, Q7, QI, -List.getD_eq_getElem?_getD]
 simp -failIfUnchanged [-List.getD_eq_getElem?_getD, -UInt8.toNat_or] at h2
 refine Qd ?_ ?_ <;> intro h3 <;> simp -failIfUnchanged [-List.getD_eq_getElem?_getD, -UInt8.toNat_or] at h3
 refine YK (YK (YK (YK ?_)))
 refine Zy hk ?_
 unfold Qv
 simp [h1, h2, h3, Yx, Y6, Q7, QI, -List.getD_eq_getElem?_getD]
 refine Qd (fun h4 => ?_) (fun h4 => ?_)
 simp -failIfUnchanged [-List.getD_eq_getElem?_getD, -UInt8.toNat_or] at h4
 refine YK (YK (YK (YK ?_)))
 refine Zy hk ?_
 unfold Qv
 simp [h1, h2, h3, h4, Yx, Y6, Q7, QI, -List.getD_eq_getElem?_getD]
 simp -failIfUnchanged [-List.getD_eq_getElem?_getD, -UInt8.toNat_or] at h4
 refine Qd ?_ ?_ <;> intro h5 <;> simp -failIfUnchanged [-List.getD_eq_getElem?_getD, -UInt8.toNat_or] at h5
 refine ⟨Qj trivial, ?_⟩
 refine ⟨⟨⟨trivial, trivial⟩, ⟨rfl, rfl, ⟨(by first | omega | (unfold inI; omega) | exact Way.QiQ (by decide) | exact h01 | exact h05 | (simp; done) | (simp only [List.length_append, List.length_cons, List.length_nil, Qb]; omega) | (simp only; omega) | (refine ⟨?_, ?_⟩ <;> (first | omega | (simp only [Qp, Bool.and_eq_true, decide_eq_true_eq]; omega)))), trivial⟩⟩, trivial, fun _ => trivial⟩, ?_⟩
 refine ⟨Qj ⟨(by first | omega | (unfold inI; omega) | exact Way.QiQ (by decide) | exact h01 | exact h05 | (simp; done) | (simp only [List.length_append, List.length_cons, List.length_nil, Qb]; omega) | (simp only; omega) | (refine ⟨?_, ?_⟩ <;> (first | omega | (simp only [Qp, Bool.and_eq_true, decide_eq_true_eq]; omega)))), trivial⟩, ?_⟩
 refine ⟨Qj trivial, ?_⟩
 refine ⟨Qj trivial, ?_⟩
 refine ⟨Qj trivial, ?_⟩
 refine ⟨Qj ⟨⟨trivial, trivial⟩, rfl, ⟨(by first | omega | (unfold inI; omega) | exact Way.QiQ (by decide) | exact h01 | exact h05 | (simp; done) | (simp only [List.length_append, List.length_cons, List.length_nil, Qb]; omega) | (simp only; omega) | (refine ⟨?_, ?_⟩ <;> (first | omega | (simp only [Qp, Bool.and_eq_true, decide_eq_true_eq]; omega)))), trivial⟩⟩, ?_⟩
 refine ⟨⟨⟨trivial, trivial, trivial⟩, ⟨rfl, rfl, ⟨(by first | omega | (unfold inI; omega) | exact Way.QiQ (by decide) | exact h01 | exact h05 | (simp; done) | (simp only [List.length_append, List.length_cons, List.length_nil, Qb]; omega) | (simp only; omega) | (refine ⟨?_, ?_⟩ <;> (first | omega | (simp only [Qp, Bool.and_eq_true, decide_eq_true_eq]; omega)))), (by first | omega | (unfold inI; omega) | exact Way.QiQ (by decide) | exact h01 | exact h05 | (simp; done) | (simp only [List.length_append, List.length_cons, List.length_nil, Qb]; omega) | (simp only; omega) | (refine ⟨?_, ?_⟩ <;> (first | omega | (simp only [Qp, Bool.and_eq_true, decide_eq_true_eq]; omega)))), trivial⟩⟩, trivial, fun _ => trivial⟩, ?_⟩
 refine ⟨Qj ⟨(by first | omega | (unfold inI; omega) | exact Way.QiQ (by decide) | exact h01 | exact h05 | (simp; done) | (simp only [List.length_append, List.length_cons, List.length_nil, Qb]; omega) | (simp only; omega) | (refine ⟨?_, ?_⟩ <;> (first | omega | (simp only [Qp, Bool.and_eq_true, decide_eq_true_eq]; omega)))), trivial⟩, ?_⟩
 refine ⟨Qj trivial, ?_⟩
 refine ⟨⟨⟨trivial, trivial⟩, ⟨rfl, rfl, ⟨(by first | omega | (unfold inI; omega) | exact Way.QiQ (by decide) | exact h01 | exact h05 | (simp; done) | (simp only [List.length_append, List.length_cons, List.length_nil, Qb]; omega) | (simp only; omega) | (refine ⟨?_, ?_⟩ <;> (first | omega | (simp only [Qp, Bool.and_eq_true, decide_eq_true_eq]; omega)))), trivial⟩⟩, trivial, fun _ => trivial⟩, ?_⟩
 refine ⟨Qj ⟨(by first | omega | (unfold inI; omega) | exact Way.QiQ (by decide) | exact h01 | exact h05 | (simp; done) | (simp only [List.length_append, List.length_cons, List.length_nil, Qb]; omega) | (simp only; omega) | (refine ⟨?_, ?_⟩ <;> (first | omega | (simp only [Qp, Bool.and_eq_true, decide_eq_true_eq]; omega)))), trivial⟩, ?_⟩
 refine ⟨Qj trivial, ?_⟩
 exact Wk.C.rn [0, 1] (L12 _ _ _ rfl ⟨h5, (QgG (x := (SelD.mk k o ke va a bb fl sz)) h5).trans (QnQ y (SelD.mk k o ke va a bb fl sz) n), by first | omega | (simp only [List.length_append, List.length_cons, List.length_nil, Qb]; omega), by first | omega | (simp only; omega)⟩)
 refine Qd (fun h6 => ?_) (fun h6 => ?_)
 simp -failIfUnchanged [-List.getD_eq_getElem?_getD, -UInt8.toNat_or] at h6
 refine YK (YK (YK ?_))
 refine Zy hk ?_
 unfold Qv
 simp [h1, h2, h3, h4, h5, h6, Yx, Y6, Q7, QI, -List.getD_eq_getElem?_getD]
 simp -failIfUnchanged [-List.getD_eq_getElem?_getD, -UInt8.toNat_or] at h6
 refine Qd ?_ ?_ <;> intro h7 <;> simp -failIfUnchanged [-List.getD_eq_getElem?_getD, -UInt8.toNat_or] at h7
 refine ⟨Qj trivial, ?_⟩
 refine ⟨⟨⟨trivial, trivial, trivial⟩, ⟨rfl, rfl, ⟨(by first | omega | (unfold inI; omega) | exact Way.QiQ (by decide) | exact h01 | exact h05 | (simp; done) | (simp only [List.length_append, List.length_cons, List.length_nil, Qb]; omega) | (simp only; omega) | (refine ⟨?_, ?_⟩ <;> (first | omega | (simp only [Qp, Bool.and_eq_true, decide_eq_true_eq]; omega)))), (by first | omega | (unfold inI; omega) | exact Way.QiQ (by decide) | exact h01 | exact h05 | (simp; done) | (simp only [List.length_append, List.length_cons, List.length_nil, Qb]; omega) | (simp only; omega) | (refine ⟨?_, ?_⟩ <;> (first | omega | (simp only [Qp, Bool.and_eq_true, decide_eq_true_eq]; omega)))), trivial⟩⟩, trivial, fun _ => trivial⟩, ?_⟩
 refine ⟨Qj ⟨(by first | omega | (unfold inI; omega) | exact Way.QiQ (by decide) | exact h01 | exact h05 | (simp; done) | (simp only [List.length_append, List.length_cons, List.length_nil, Qb]; omega) | (simp only; omega) | (refine ⟨?_, ?_⟩ <;> (first | omega | (simp only [Qp, Bool.and_eq_true, decide_eq_true_eq]; omega)))), trivial⟩, ?_⟩
 refine ⟨Qj ⟨(by first | omega | (unfold inI; omega) | exact Way.QiQ (by decide) | exact h01 | exact h05 | (simp; done) | (simp only [List.length_append, List.length_cons, List.length_nil, Qb]; omega) | (simp only; omega) | (refine ⟨?_, ?_⟩ <;> (first | omega | (simp only [Qp, Bool.and_eq_true, decide_eq_true_eq]; omega)))), trivial⟩, ?_⟩
 refine ⟨Qj trivial, ?_⟩
 refine ⟨⟨⟨trivial, trivial⟩, ⟨rfl, rfl, ⟨(by first | omega | (unfold inI; omega) | exact Way.QiQ (by decide) | exact h01 | exact h05 | (simp; done) | (simp only [List.length_append, List.length_cons, List.length_nil, Qb]; omega) | (simp only; omega) | (refine ⟨?_, ?_⟩ <;> (first | omega | (simp only [Qp, Bool.and_eq_true, decide_eq_true_eq]; omega)))), trivial⟩⟩, trivial, fun _ => trivial⟩, ?_⟩
 refine ⟨Qj ⟨(by first | omega | (unfold inI; omega) | exact Way.QiQ (by decide) | exact h01 | exact h05 | (simp; done) | (simp only [List.length_append, List.length_cons, List.length_nil, Qb]; omega) | (simp only; omega) | (refine ⟨?_, ?_⟩ <;> (first | omega | (simp only [Qp, Bool.and_eq_true, decide_eq_true_eq]; omega)))), trivial⟩, ?_⟩
 refine ⟨Qj trivial, ?_⟩
 refine ⟨Qj trivial, ?_⟩
 refine ⟨Qj ⟨⟨trivial, trivial⟩, rfl, ⟨(by first | omega | (unfold inI; omega) | exact Way.QiQ (by decide) | exact h01 | exact h05 | (simp; done) | (simp only [List.length_append, List.length_cons, List.length_nil, Qb]; omega) | (simp only; omega) | (refine ⟨?_, ?_⟩ <;> (first | omega | (simp only [Qp, Bool.and_eq_true, decide_eq_true_eq]; omega)))), trivial⟩⟩, ?_⟩
 refine ⟨Qj ⟨(by first | omega | (unfold inI; omega) | exact Way.QiQ (by decide) | exact h01 | exact h05 | (simp; done) | (simp only [List.length_append, List.length_cons, List.length_nil, Qb]; omega) | (simp only; omega) | (refine ⟨?_, ?_⟩ <;> (first | omega | (simp only [Qp, Bool.and_eq_true, decide_eq_true_eq]; omega)))), trivial⟩, ?_⟩
 refine ⟨Qj trivial, ?_⟩
 refine ⟨⟨⟨trivial, trivial⟩, ⟨rfl, rfl, ⟨(by first | omega | (unfold inI; omega) | exact Way.QiQ (by decide) | exact h01 | exact h05 | (simp; done) | (simp only [List.length_append, List.length_cons, List.length_nil, Qb]; omega) | (simp only; omega) | (refine ⟨?_, ?_⟩ <;> (first | omega | (simp only [Qp, Bool.and_eq_true, decide_eq_true_eq]; omega)))), trivial⟩⟩, trivial, fun _ => trivial⟩, ?_⟩
 refine ⟨Qj ⟨(by first | omega | (unfold inI; omega) | exact Way.QiQ (by decide) | exact h01 | exact h05 | (simp; done) | (simp only [List.length_append, List.length_cons, List.length_nil, Qb]; omega) | (simp only; omega) | (refine ⟨?_, ?_⟩ <;> (first | omega | (simp only [Qp, Bool.and_eq_true, decide_eq_true_eq]; omega)))), trivial⟩, ?_⟩
 refine ⟨Qj ⟨(by first | omega | (unfold inI; omega) | exact Way.QiQ (by decide) | exact h01 | exact h05 | (simp; done) | (simp only [List.length_append, List.length_cons, List.length_nil, Qb]; omega) | (simp only; omega) | (refine ⟨?_, ?_⟩ <;> (first | omega | (simp only [Qp, Bool.and_eq_true, decide_eq_true_eq]; omega)))), trivial⟩, ?_⟩
 refine ⟨Qj trivial, ?_⟩
 refine Zy hk ?_
 unfold Qv
 simp [h1, h2, h3, h4, h5, h6, h7, Yx, Y6, Q7, QI, -List.getD_eq_getElem?_getD]
 refine Qd (fun h8 => ?_) (fun h8 => ?_)
 simp -failIfUnchanged [-List.getD_eq_getElem?_getD, -UInt8.toNat_or] at h8
 refine ⟨Qj trivial, ?_⟩
 refine ⟨⟨⟨trivial, trivial, trivial⟩, ⟨rfl, rfl, ⟨(by first | omega | (unfold inI; omega) | exact Way.QiQ (by decide) | exact h01 | exact h05 | (simp; done) | (simp only [List.length_append, List.length_cons, List.length_nil, Qb]; omega) | (simp only; omega) | (refine ⟨?_, ?_⟩ <;> (first | omega | (simp only [Qp, Bool.and_eq_true, decide_eq_true_eq]; omega)))), (by first | omega | (unfold inI; omega) | exact Way.QiQ (by decide) | exact h01 | exact h05 | (simp; done) | (simp only [List.length_append, List.length_cons, List.length_nil, Qb]; omega) | (simp only; omega) | (refine ⟨?_, ?_⟩ <;> (first | omega | (simp only [Qp, Bool.and_eq_true, decide_eq_true_eq]; omega)))), trivial⟩⟩, trivial, fun _ => trivial⟩, ?_⟩
 refine ⟨Qj ⟨(by first | omega | (unfold inI; omega) | exact Way.QiQ (by decide) | exact h01 | exact h05 | (simp; done) | (simp only [List.length_append, List.length_cons, List.length_nil, Qb]; omega) | (simp only; omega) | (refine ⟨?_, ?_⟩ <;> (first | omega | (simp only [Qp, Bool.and_eq_true, decide_eq_true_eq]; omega)))), trivial⟩, ?_⟩
 refine ⟨Qj ⟨(by first | omega | (unfold inI; omega) | exact Way.QiQ (by decide) | exact h01 | exact h05 | (simp; done) | (simp only [List.length_append, List.length_cons, List.length_nil, Qb]; omega) | (simp only; omega) | (refine ⟨?_, ?_⟩ <;> (first | omega | (simp only [Qp, Bool.and_eq_true, decide_eq_true_eq]; omega)))), trivial⟩, ?_⟩
 refine ⟨Qj trivial, ?_⟩
 refine ⟨⟨⟨trivial, trivial⟩, ⟨rfl, rfl, ⟨(by first | omega | (unfold inI; omega) | exact Way.QiQ (by decide) | exact h01 | exact h05 | (simp; done) | (simp only [List.length_append, List.length_cons, List.length_nil, Qb]; omega) | (simp only; omega) | (refine ⟨?_, ?_⟩ <;> (first | omega | (simp only [Qp, Bool.and_eq_true, decide_eq_true_eq]; omega)))), trivial⟩⟩, trivial, fun _ => trivial⟩, ?_⟩
 refine ⟨Qj ⟨(by first | omega | (unfold inI; omega) | exact Way.QiQ (by decide) | exact h01 | exact h05 | (simp; done) | (simp only [List.length_append, List.length_cons, List.length_nil, Qb]; omega) | (simp only; omega) | (refine ⟨?_, ?_⟩ <;> (first | omega | (simp only [Qp, Bool.and_eq_true, decide_eq_true_eq]; omega)))), trivial⟩, ?_⟩
 refine ⟨Qj trivial, ?_⟩
 refine ⟨Qj trivial, ?_⟩
 refine ⟨Qj ⟨⟨trivial, trivial⟩, rfl, ⟨(by first | omega | (unfold inI; omega) | exact Way.QiQ (by decide) | exact h01 | exact h05 | (simp; done) | (simp only [List.length_append, List.length_cons, List.length_nil, Qb]; omega) | (simp only; omega) | (refine ⟨?_, ?_⟩ <;> (first | omega | (simp only [Qp, Bool.and_eq_true, decide_eq_true_eq]; omega)))), trivial⟩⟩, ?_⟩
 refine ⟨Qj ⟨(by first | omega | (unfold inI; omega) | exact Way.QiQ (by decide) | exact h01 | exact h05 | (simp; done) | (simp only [List.length_append, List.length_cons, List.length_nil, Qb]; omega) | (simp only; omega) | (refine ⟨?_, ?_⟩ <;> (first | omega | (simp only [Qp, Bool.and_eq_true, decide_eq_true_eq]; omega)))), trivial⟩, ?_⟩
 refine ⟨Qj trivial, ?_⟩
 refine ⟨⟨⟨trivial, trivial⟩, ⟨rfl, rfl, ⟨(by first | omega | (unfold inI; omega) | exact Way.QiQ (by decide) | exact h01 | exact h05 | (simp; done) | (simp only [List.length_append, List.length_cons, List.length_nil, Qb]; omega) | (simp only; omega) | (refine ⟨?_, ?_⟩ <;> (first | omega | (simp only [Qp, Bool.and_eq_true, decide_eq_true_eq]; omega)))), trivial⟩⟩, trivial, fun _ => trivial⟩, ?_⟩
 refine ⟨Qj ⟨(by first | omega | (unfold inI; omega) | exact Way.QiQ (by decide) | exact h01 | exact h05 | (simp; done) | (simp only [List.length_append, List.length_cons, List.length_nil, Qb]; omega) | (simp only; omega) | (refine ⟨?_, ?_⟩ <;> (first | omega | (simp only [Qp, Bool.and_eq_true, decide_eq_true_eq]; omega)))), trivial⟩, ?_⟩
 refine ⟨Qj ⟨(by first | omega | (unfold inI; omega) | exact Way.QiQ (by decide) | exact h01 | exact h05 | (simp; done) | (simp only [List.length_append, List.length_cons, List.length_nil, Qb]; omega) | (simp only; omega) | (refine ⟨?_, ?_⟩ <;> (first | omega | (simp only [Qp, Bool.and_eq_true, decide_eq_true_eq]; omega)))), trivial⟩, ?_⟩
 refine ⟨Qj trivial, ?_⟩
 refine Zy hk ?_
 unfold Qv
 simp [h1, h2, h3, h4, h5, h6, h7, h8, Yx, Y6, Q7, QI, -List.getD_eq_getElem?_getD]
 simp -failIfUnchanged [-List.getD_eq_getElem?_getD, -UInt8.toNat_or] at h8
 refine Qd ?_ ?_ <;> intro h9 <;> simp -failIfUnchanged [-List.getD_eq_getElem?_getD, -UInt8.toNat_or] at h9
 refine ⟨Qj trivial, ?_⟩
 refine ⟨⟨⟨trivial, trivial, trivial⟩, ⟨rfl, rfl, ⟨(by first | omega | (unfold inI; omega) | exact Way.QiQ (by decide) | exact h01 | exact h05 | (simp; done) | (simp only [List.length_append, List.length_cons, List.length_nil, Qb]; omega) | (simp only; omega) | (refine ⟨?_, ?_⟩ <;> (first | omega | (simp only [Qp, Bool.and_eq_true, decide_eq_true_eq]; omega)))), (by first | omega | (unfold inI; omega) | exact Way.QiQ (by decide) | exact h01 | exact h05 | (simp; done) | (simp only [List.length_append, List.length_cons, List.length_nil, Qb]; omega) | (simp only; omega) | (refine ⟨?_, ?_⟩ <;> (first | omega | (simp only [Qp, Bool.and_eq_true, decide_eq_true_eq]; omega)))), trivial⟩⟩, trivial, fun _ => trivial⟩, ?_⟩
 refine ⟨Qj ⟨(by first | omega | (unfold inI; omega) | exact Way.QiQ (by decide) | exact h01 | exact h05 | (simp; done) | (simp only [List.length_append, List.length_cons, List.length_nil, Qb]; omega) | (simp only; omega) | (refine ⟨?_, ?_⟩ <;> (first | omega | (simp only [Qp, Bool.and_eq_true, decide_eq_true_eq]; omega)))), trivial⟩, ?_⟩
 refine ⟨Qj ⟨(by first | omega | (unfold inI; omega) | exact Way.QiQ (by decide) | exact h01 | exact h05 | (simp; done) | (simp only [List.length_append, List.length_cons, List.length_nil, Qb]; omega) | (simp only; omega) | (refine ⟨?_, ?_⟩ <;> (first | omega | (simp only [Qp, Bool.and_eq_true, decide_eq_true_eq]; omega)))), trivial⟩, ?_⟩
 refine ⟨Qj trivial, ?_⟩
 refine ⟨⟨⟨trivial, trivial⟩, ⟨rfl, rfl, ⟨(by first | omega | (unfold inI; omega) | exact Way.QiQ (by decide) | exact h01 | exact h05 | (simp; done) | (simp only [List.length_append, List.length_cons, List.length_nil, Qb]; omega) | (simp only; omega) | (refine ⟨?_, ?_⟩ <;> (first | omega | (simp only [Qp, Bool.and_eq_true, decide_eq_true_eq]; omega)))), trivial⟩⟩, trivial, fun _ => trivial⟩, ?_⟩
 refine ⟨Qj ⟨(by first | omega | (unfold inI; omega) | exact Way.QiQ (by decide) | exact h01 | exact h05 | (simp; done) | (simp only [List.length_append, List.length_cons, List.length_nil, Qb]; omega) | (simp only; omega) | (refine ⟨?_, ?_⟩ <;> (first | omega | (simp only [Qp, Bool.and_eq_true, decide_eq_true_eq]; omega)))), trivial⟩, ?_⟩
 refine ⟨Qj trivial, ?_⟩
 refine ⟨Qj trivial, ?_⟩
 refine ⟨Qj ⟨⟨trivial, trivial⟩, rfl, ⟨(by first | omega | (unfold inI; omega) | exact Way.QiQ (by decide) | exact h01 | exact h05 | (simp; done) | (simp only [List.length_append, List.length_cons, List.length_nil, Qb]; omega) | (simp only; omega) | (refine ⟨?_, ?_⟩ <;> (first | omega | (simp only [Qp, Bool.and_eq_true, decide_eq_true_eq]; omega)))), trivial⟩⟩, ?_⟩
 refine ⟨Qj ⟨(by first | omega | (unfold inI; omega) | exact Way.QiQ (by decide) | exact h01 | exact h05 | (simp; done) | (simp only [List.length_append, List.length_cons, List.length_nil, Qb]; omega) | (simp only; omega) | (refine ⟨?_, ?_⟩ <;> (first | omega | (simp only [Qp, Bool.and_eq_true, decide_eq_true_eq]; omega)))), trivial⟩, ?_⟩
 refine ⟨Qj trivial, ?_⟩
 refine ⟨⟨⟨trivial, trivial⟩, ⟨rfl, rfl, ⟨(by first | omega | (unfold inI; omega) | exact Way.QiQ (by decide) | exact h01 | exact h05 | (simp; done) | (simp only [List.length_append, List.length_cons, List.length_nil, Qb]; omega) | (simp only; omega) | (refine ⟨?_, ?_⟩ <;> (first | omega | (simp only [Qp, Bool.and_eq_true, decide_eq_true_eq]; omega)))), trivial⟩⟩, trivial, fun _ => trivial⟩, ?_⟩
 refine ⟨Qj ⟨(by first | omega | (unfold inI; omega) | exact Way.QiQ (by decide) | exact h01 | exact h05 | (simp; done) | (simp only [List.length_append, List.length_cons, List.length_nil, Qb]; omega) | (simp only; omega) | (refine ⟨?_, ?_⟩ <;> (first | omega | (simp only [Qp, Bool.and_eq_true, decide_eq_true_eq]; omega)))), trivial⟩, ?_⟩
 refine ⟨Qj ⟨(by first | omega | (unfold inI; omega) | exact Way.QiQ (by decide) | exact h01 | exact h05 | (simp; done) | (simp only [List.length_append, List.length_cons, List.length_nil, Qb]; omega) | (simp only; omega) | (refine ⟨?_, ?_⟩ <;> (first | omega | (simp only [Qp, Bool.and_eq_true, decide_eq_true_eq]; omega)))), trivial⟩, ?_⟩
 refine ⟨Qj trivial, ?_⟩
 refine Zy hk ?_
 unfold Qv
 simp [h1, h2, h3, h4, h5, h6, h7, h8, h9, Yx, Y6, Q7, QI, -List.getD_eq_getElem?_getD]
 refine YK (YK (YK (YK (YK ?_))))
 refine Zy hk ?_
 unfold Qv
 simp [h1, h2, h3, h4, h5, h6, h7, h8, h9, Yx, Y6, Q7, QI, -List.getD_eq_getElem?_getD]
 cases e
def c61 (svs : List SV) (b : Option SB) : FR := match svs, b with
 | [.ptr 0 0, x], some (.blk 62 [.sl (.sels l), .sl (.bytes y), .nat n]) => match QaX x with
  | some x => some ([Way.Fld x, Qp x.kind = true /\ ¬ (x.kind = 18 \/ x.kind = 19 \/ x.kind = 20), x.key.length + x.val.length <= 20000, QG x.val 0 = true, n <= 600000000000], .val (.str (Qv y x n).1), some (.blk 62 [.sl (.sels l), .sl (.bytes y), .nat (Qv y x n).2]))
  | _ => none
 | _, _ => none
theorem sat61 : Sat 61 (fnS c61) := by
 refine Sat.wk QqM fun svs b K h => ?_
 obtain ⟨ps, v, b', e, hp, hk⟩ := Yp h
 unfold c61 at e
 split at e
 rename_i x l y n
 split at e
 rename_i x' hx
 cases e
 exact ⟨[.ptr 0 0, .agg (Vl x')], ⟨fun ω v h => h, fun ω v => Zu hx, trivial⟩, hp.1, hp.2.1, hp.2.2.1, hp.2.2.2.1, hp.2.2.2.2.1, hk⟩
 cases e
 cases e
end
end Go.Proofs.YtengepcafdnalaaGreatDoor
