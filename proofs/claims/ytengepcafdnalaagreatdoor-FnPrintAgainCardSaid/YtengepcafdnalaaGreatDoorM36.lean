/-
  Parts of the proof that the law FnPrintAgain holds for every input (texts Oj, Ok, Ol, Lx). Conditions: none.
-/
import Derived.Test.YtengepcafdnalaaGreatDoorM35
import Derived.Test.YtengepcafdnalaaGreatDoorCards
import Derived.Test.YtengepcafdnalaaGreatDoorTie
import Derived.ProofKit
import Derived.LaidMore
import Derived.OpenShut
import Derived.Stop.Joined
import Derived.JoinedOf
import Derived.MakeChecks
import Derived.ChangeMaps5
import Derived.SevenTiedAt
import Derived.Deep.Slices
import Derived.WideKeyArgs
import Derived.ChangeOld
import Derived.Lib.LaidTab
namespace Go.Proofs.YtengepcafdnalaaGreatDoor
open _root_.Array renaming getElem?_eq_some_iff → zA
open _root_.Bool renaming and_eq_true → zh
open _root_.List renaming length_append → zd, length_cons → ze, length_nil → zf, mem_cons → zz, flatten_cons → xm, getD_eq_getElem?_getD → za, getElem?_eq_getElem → zi, replicate → zG, append_nil → zC, mem_singleton → zQ, exists_cons_of_ne_nil → zB, mem_of_getElem? → xh, range → zH, getElem?_map → zD, getElem?_eq_some_iff → zy
open _root_.Nat renaming strongRecOn → zl, le_refl → zq
open _root_.Option renaming bind_some → zM, map_eq_some_iff → zm
open Go.Proofs.Tryz renaming prog → zg
open _root_.UInt8 renaming toNat_or → zb, ofNat → zx
section
open Go Go.RowKit
set_option maxRecDepth 20000
theorem QpI : ∀ l : List CSel, l.length <= (prG l).length + 1 /\ ∀ y ∈ l, (pr y).length <= (prG l).length := by
 have key : ∀ l : List CSel, 2 * l.length <= ((prs l).flatMap fun u => [44, 32] ++ u).length /\ ∀ y ∈ l, (pr y).length <= ((prs l).flatMap fun u => [44, 32] ++ u).length := by
  intro l
  induction l with
  | nil => exact ⟨by simp [prs], fun y hy => by cases hy⟩
  | cons x l ih =>
   obtain ⟨i1, i2⟩ := ih
   rw [prs, List.flatMap_cons, zd]
   simp only [zd, ze, zf]
   refine ⟨by omega, fun y hy => ?_⟩
   rcases zz.1 hy with e | e
   subst e; omega
   have := i2 y e; omega
 intro l
 cases l with
 | nil => exact ⟨by simp, fun y hy => by cases hy⟩
 | cons x l =>
  obtain ⟨i1, i2⟩ := key l
  unfold prG
  rw [prs, Zn, zd, ze]
  refine ⟨by omega, fun y hy => ?_⟩
  rcases zz.1 hy with e | e
  subst e; omega
  have := i2 y e; omega
theorem Qp2 (l : List CSel) : ∀ y ∈ l, (pr y).length <= (prs l).flatten.length := by
 induction l with
 | nil => intro y hy; cases hy
 | cons x l ih =>
  intro y hy
  rw [prs, xm, zd]
  rcases zz.1 hy with e | e
  subst e; omega
  have := ih y e; omega
def gS (m : Nat) (x : CSel) : Option (List Prop × List UInt8) := some ([okM m x], pr x)
theorem Qhs {l : List CSel} {i : Nat} (h : i < l.length) : l.getD i default ∈ l := by
 rw [za, zi h]
 exact List.getElem_mem h
def c40 (m : Nat) (svs : List SV) (b : Option SB) : QR := match svs, b with
 | [.sl (.csels l)], none => some ([l.length <= 1000000 /\ ∀ y ∈ l, okM m y, (prG l).length <= 1000000], .str (prG l))
 | _, _ => none
noncomputable def W40 (m : Nat) : Wk := ⟨[(63, .pure c63), (199, .meth (gS m))], Qp Tryz.f40, false, false, [.tmp 2], [9], [(3, 3592)], []⟩
theorem Qq8 : Has 40 := hsf Tryz.f40
theorem Qhi {p q : Prop} (k : q) (h : p := by first | omega | exact h02 _ (Qhs (by omega)) | (rw [QjS l i (by omega)]; omega) | (rw [Qah (by omega), QhC, Qct]; exact ⟨by omega, by have := h03; unfold prG at this; omega⟩) | (simp; done)) : p /\ q := ⟨h, k⟩
theorem QqF (m : Nat) (hM : Uy (gS m)) : Sat 40 (Qv (c40 m)) := by
 have hD : Qe (W40 m).D := (Qe.cons Qq4 QqB (Qe.cons Qdz hM Qe.nil))
 refine (W40 m).sa hD Tryz.f40 fun svs b K hP => ?_
 obtain ⟨ps, v, e, hp, hk⟩ := Qk hP
 unfold c40 at e
 split at e
 rename_i l
 cases e
 obtain ⟨⟨h01, h02⟩, h03, _⟩ := hp
 have L3 : ∀ (mm : Nat) (i : Nat), l.length - i = mm -> (i <= l.length) -> (W40 m).L K 3 (mkS 24 [(3, (.own 1)), (9, (.sl (.csels l))), (10, (.nat l.length)), (11, (.nat i))] [(1, .row (.strs (prR l i)) true)] 2) := by
  intro mm
  induction mm using zl with
  | _ mm ih =>
   intro i hm hI
   refine (W40 m).aL hD (cond (decide (i < l.length)) ((i < l.length) /\ (okM m (l.getD i default)) /\ (i < (prR l i).length) /\ (i < (prR l i).length) /\ (i + 1 <= 9223372036854775807) /\ (W40 m).L K 3 (mkS 24 [(3, (.own 1)), (9, (.sl (.csels l))), (10, (.nat l.length)), (11, (.nat (i + 1)))] [(1, .row (.strs ((prR l i).set i (pr (l.getD i default)))) true)] 2)) (((prR l i).length <= 1000000000 /\ (Lib.join (prR l i) [44, 32]).length <= 1000000000) /\ K (.val (.str (Lib.join (prR l i) [44, 32]))) none)) ?_
   refine Qc ?_ ?_ <;> intro h1 <;> try simp [-za, -zb] at h1
   refine Qhi (Qhi (Qhi (Qhi (Qhi ?_))))
   rw [QqR h1]
   exact ih _ (by omega) (i + 1) rfl (by omega)
   refine Qhi ?_
   refine Vf hk ?_
   rw [Qah (by omega), QhC]
   rfl
 refine (W40 m).en ((l.length = l.length) /\ (l.length <= 1099511627776) /\ (W40 m).L K 3 (mkS 24 [(3, (.own 1)), (9, (.sl (.csels l))), (10, (.nat l.length)), (11, (.nat 0))] [(1, .row (.strs (zG l.length ([] : List UInt8))) true)] 2)) ?_
 refine Qhi (Qhi ?_)
 exact L3 _ 0 rfl (by omega)
 cases e
def c244 (m : Nat) (svs : List SV) (b : Option SB) : QR := match svs, b with
 | [.agg [.str n, .sl (.csels l)]], none => some ([l.length <= 1000000 /\ ∀ y ∈ l, okM m y, (prG l).length <= 1000000, n.length <= 1000000], .str (pr (.rel n l)))
 | _, _ => none
noncomputable def W244 (m : Nat) : Wk := ⟨[(40, .pure (c40 m))], Qp Tryz.f244, false, false, [.tmp 2], [9], [], []⟩
theorem Qs7 : Has 244 := hsf Tryz.f244
theorem Qli {p q : Prop} (k : q) (h : p := by first | omega | exact ⟨h01, h02⟩ | (simp; done) | (simp only [zd, ze, zf]; omega)) : p /\ q := ⟨h, k⟩
theorem QrF (m : Nat) (hM : Uy (gS m)) : Sat 244 (Qv (c244 m)) := by
 have hD : Qe (W244 m).D := (Qe.cons Qq8 (QqF m hM) Qe.nil)
 refine (W244 m).sa hD Tryz.f244 fun svs b K hP => ?_
 obtain ⟨ps, v, e, hp, hk⟩ := Qk hP
 unfold c244 at e
 split at e
 rename_i n l
 cases e
 obtain ⟨⟨h01, h02⟩, h03, h04, _⟩ := hp
 refine (W244 m).en ((1 + n.length <= 2305843009213693952) /\ (([58] ++ n).length + 1 <= 2305843009213693952) /\ (l.length <= 1000000 /\ ∀ y ∈ l, okM m y) /\ ((prG l).length <= 1000000) /\ (([58] ++ n ++ [40]).length + (prG l).length <= 2305843009213693952) /\ (([58] ++ n ++ [40] ++ (prG l)).length + 1 <= 2305843009213693952) /\ K (.val (.str ([58] ++ n ++ [40] ++ (prG l) ++ [41]))) none) ?_
 refine Qli (Qli (Qli (Qli (Qli (Qli ?_)))))
 refine Vf hk ?_
 rw [pr]
 unfold prG
 simp
 cases e
def c248 (m : Nat) (svs : List SV) (b : Option SB) : QR := match svs, b with
 | [.agg [.sl (.csels l), .str pe]], none => some ([l.length <= 1000000 /\ ∀ y ∈ l, okM m y, (prs l).flatten.length <= 1000000, pe.length <= 1000000], .str (pr (.compound l pe)))
 | _, _ => none
noncomputable def Qjq (m : Nat) : Wk := ⟨[(63, .pure c63), (199, .meth (gS m))], Qp Tryz.f248, false, false, [.tmp 2], [9], [(5, 14680074)], []⟩
theorem QnN : Has 248 := hsf Tryz.f248
theorem Qd7 {p q : Prop} (k : q) (h : p := by first | omega | exact h02 _ (Qhs (by omega)) | (rw [QjS l i (by omega)]; omega) | (rw [Qah (by omega), Qai, Qct]; exact ⟨by omega, by omega⟩) | (rw [Qah (by omega), Qai]; first | omega | (simp only [zd, ze, zf]; omega)) | (simp; done) | (simp only [zd, ze, zf]; omega)) : p /\ q := ⟨h, k⟩
theorem Qmu (m : Nat) (hM : Uy (gS m)) : Sat 248 (Qv (c248 m)) := by
 have hD : Qe (Qjq m).D := (Qe.cons Qq4 QqB (Qe.cons Qdz hM Qe.nil))
 refine (Qjq m).sa hD Tryz.f248 fun svs b K hP => ?_
 obtain ⟨ps, v, e, hp, hk⟩ := Qk hP
 unfold c248 at e
 split at e
 rename_i l pe
 cases e
 obtain ⟨⟨h01, h02⟩, h03, h04, _⟩ := hp
 have L5 : ∀ (mm : Nat) (i : Nat), l.length - i = mm -> (i <= l.length /\ ¬ (l = [] /\ pe = [])) -> (Qjq m).L K 5 (mkS 45 [(1, (.ptr 1 0)), (3, (.own 2)), (21, (.sl (.csels l))), (22, (.nat l.length)), (23, (.nat i))] [(1, .blk 129 [(.sl (.csels l)), (.str pe)]), (2, .row (.strs (prR l i)) true)] 3) := by
  intro mm
  induction mm using zl with
  | _ mm ih =>
   intro i hm hI
   obtain ⟨k1, k2⟩ := hI
   refine (Qjq m).aL hD (cond (decide (i < l.length)) ((i < l.length) /\ (okM m (l.getD i default)) /\ (i < (prR l i).length) /\ (i < (prR l i).length) /\ (i + 1 <= 9223372036854775807) /\ (Qjq m).L K 5 (mkS 45 [(1, (.ptr 1 0)), (3, (.own 2)), (21, (.sl (.csels l))), (22, (.nat l.length)), (23, (.nat (i + 1)))] [(1, .blk 129 [(.sl (.csels l)), (.str pe)]), (2, .row (.strs ((prR l i).set i (pr (l.getD i default)))) true)] 3)) (((prR l i).length <= 1000000000 /\ (Lib.join (prR l i) []).length <= 1000000000) /\ cond (!(decide (pe = []))) ((2 + pe.length <= 2305843009213693952) /\ ((Lib.join (prR l i) []).length + ([58, 58] ++ pe).length <= 2305843009213693952) /\ K (.val (.str (Lib.join (prR l i) [] ++ ([58, 58] ++ pe)))) none) (K (.val (.str (Lib.join (prR l i) []))) none))) ?_
   refine Qc ?_ ?_ <;> intro h1 <;> try simp [-za, -zb] at h1
   refine Qd7 (Qd7 (Qd7 (Qd7 (Qd7 ?_))))
   rw [QqR h1]
   exact ih _ (by omega) (i + 1) rfl ⟨by omega, k2⟩
   refine Qd7 ?_
   refine Qc ?_ ?_ <;> intro h2 <;> try simp [-za, -zb] at h2
   refine Qd7 (Qd7 ?_)
   refine Vf hk ?_
   rw [Qah (by omega), Qai, pr, if_neg k2, if_neg h2]
   rfl
   refine Vf hk ?_
   rw [Qah (by omega), Qai, pr, if_neg k2, if_pos h2, zC]
 refine (Qjq m).en (cond ((decide (l.length = 0)) && (decide (pe = []))) (K (.val (.str [42])) none) ((l.length = l.length) /\ (l.length <= 1099511627776) /\ (Qjq m).L K 5 (mkS 45 [(1, (.ptr 1 0)), (3, (.own 2)), (21, (.sl (.csels l))), (22, (.nat l.length)), (23, (.nat 0))] [(2, .row (.strs (zG l.length ([] : List UInt8))) true), (1, .blk 129 [(.sl (.csels l)), (.str pe)])] 3))) ?_
 refine Qc ?_ ?_ <;> intro h1 <;> try simp [-za, -zb] at h1
 refine Vf hk ?_
 rw [pr, if_pos h1]
 refine Qd7 (Qd7 ?_)
 exact Wk.L.rn [0, 1, 2] (L5 _ 0 rfl ⟨by omega, fun q => h1 q.1 q.2⟩)
 cases e
def c252 (m : Nat) (svs : List SV) (b : Option SB) : QR := match svs, b with
 | [.agg [.cs f, .byt c, .cs s]], none => some ([okM m f, okM m s, (YL c.toNat).length <= 1000000], .str (pr (.combined f c s)))
 | _, _ => none
noncomputable def W252 (m : Nat) : Wk := ⟨[(199, .meth (gS m))], Qp Tryz.f252, false, false, [.tmp 2], [9], [], []⟩
theorem Qs6 : Has 252 := hsf Tryz.f252
theorem Qlh {p q : Prop} (k : q) (h : p := by first | omega | exact h01 | exact h02 | (simp; done) | (simp only [zd, ze, zf]; omega)) : p /\ q := ⟨h, k⟩
theorem QrE (m : Nat) (hM : Uy (gS m)) : Sat 252 (Qv (c252 m)) := by
 have hD : Qe (W252 m).D := (Qe.cons Qdz hM Qe.nil)
 refine (W252 m).sa hD Tryz.f252 fun svs b K hP => ?_
 obtain ⟨ps, v, e, hp, hk⟩ := Qk hP
 unfold c252 at e
 split at e
 rename_i f c s
 cases e
 obtain ⟨h01, h02, h03, _⟩ := hp
 have e1 := h01.2.2.1
 have e2 := h02.2.2.1
 refine (W252 m).en (have a0 := YL ((c.toNat : Nat) : Int); (okM m f) /\ (1 + a0.length <= 2305843009213693952) /\ (([32] ++ a0).length + 1 <= 2305843009213693952) /\ (okM m s) /\ (([32] ++ a0 ++ [32]).length + (pr s).length <= 2305843009213693952) /\ ((pr f).length + ([32] ++ a0 ++ [32] ++ (pr s)).length <= 2305843009213693952) /\ K (.val (.str (pr f ++ ([32] ++ a0 ++ [32] ++ (pr s))))) none) ?_
 refine Qlh (Qlh (Qlh (Qlh (Qlh (Qlh ?_)))))
 refine Vf hk ?_
 rw [pr]
 simp
 cases e
theorem QsU (m : Nat) (hM : Uy (gS m)) : Uy (gS (m + 1)) := by
 intro x ps s e hp
 cases e
 obtain ⟨⟨h1, h2, h3, h4⟩, _⟩ := hp
 have kids : ∀ {l : List CSel}, Qf7 l <= m -> Qlg l -> (∀ y ∈ l, (pr y).length <= 1000000) -> (Ve l).length <= 1000000 -> ∀ y ∈ l, okM m y := fun a b c d y hy => ⟨QnG a y hy, Qm7 b y hy, c y hy, Nat.le_trans (QhZ y hy) d⟩
 cases x
 case tag k => exact ⟨199, c199, _, Qdz, QrV, rfl, trivial, fun u w => by kernel_rfl⟩
 case cls k =>
  have := ZO k
  rw [pr, ze] at h3
  exact ⟨203, c203, _, Qtm, QrU, rfl, ⟨by omega, trivial⟩, fun u w => by kernel_rfl⟩
 case idn k =>
  have := ZO k
  rw [pr, ze] at h3
  exact ⟨208, c208, _, Qtl, QrT, rfl, ⟨by omega, trivial⟩, fun u w => by kernel_rfl⟩
 case attr k v o i =>
  rw [pr] at h3
  simp only [zd, ze, zf] at h3
  have hv : v.length <= 1000000 := by
   split at h3
   omega
   simp only [zd, ze, zf] at h3
   omega
  exact ⟨212, c212, _, Qtk, QrS, rfl, ⟨⟨by omega, hv, by omega⟩, trivial⟩, fun u w => by kernel_rfl⟩
 case nth a b l t =>
  simp only [okC] at h2
  exact ⟨216, c216, _, Qtj, QrR, rfl, ⟨h2, trivial⟩, fun u w => by kernel_rfl⟩
 case only t => exact ⟨218, c218, _, Qti, QrQ, rfl, trivial, fun u w => by kernel_rfl⟩
 case empty => exact ⟨220, c220, _, Qth, QrP, rfl, trivial, fun u w => by kernel_rfl⟩
 case root => exact ⟨222, c222, _, Qtg, QrO, rfl, trivial, fun u w => by kernel_rfl⟩
 case input => exact ⟨224, c224, _, Qtf, QrN, rfl, trivial, fun u w => by kernel_rfl⟩
 case link => exact ⟨226, c226, _, Qte, QrM, rfl, trivial, fun u w => by kernel_rfl⟩
 case enabled => exact ⟨228, c228, _, Qtd, QrL, rfl, trivial, fun u w => by kernel_rfl⟩
 case disabled => exact ⟨230, c230, _, Qtc, QrK, rfl, trivial, fun u w => by kernel_rfl⟩
 case checked => exact ⟨232, c232, _, Qtb, QrJ, rfl, trivial, fun u w => by kernel_rfl⟩
 case lang v =>
  rw [pr] at h3
  simp only [zd, ze, zf] at h3
  exact ⟨234, c234, _, Qta, QrI, rfl, ⟨by omega, trivial⟩, fun u w => by kernel_rfl⟩
 case contains v o =>
  rw [pr] at h3
  simp only [zd, ze, zf] at h3
  exact ⟨236, c236, _, Qs9, QrH, rfl, ⟨by omega, trivial⟩, fun u w => by kernel_rfl⟩
 case never v => exact ⟨240, c240, _, Qs8, QrG, rfl, trivial, fun u w => by kernel_rfl⟩
 case rel n l =>
  rw [hgt] at h1
  rw [okC] at h2
  rw [pr] at h3
  simp only [zd, ze, zf] at h3
  obtain ⟨j1, j2⟩ := QpI l
  have j3 : (Zn (prs l)).length = (prG l).length := rfl
  exact ⟨244, c244 m, _, Qs7, QrF m hM, rfl, ⟨⟨by omega, kids (by omega) h2 (fun y hy => by have := j2 y hy; omega) (by simp [QJ, QT] at h4; omega)⟩, by omega, by omega, trivial⟩, fun u w => by kernel_rfl⟩
 case compound l pe =>
  rw [hgt] at h1
  rw [okC] at h2
  rw [pr] at h3
  by_cases e : l = [] /\ pe = []
  obtain ⟨rfl, rfl⟩ := e
  exact ⟨248, c248 m, _, QnN, Qmu m hM, rfl, ⟨⟨by simp, fun y hy => by cases hy⟩, by simp [prs], by simp, trivial⟩, fun u w => by kernel_rfl⟩
  rw [if_neg e, zd] at h3
  have hpe : pe.length <= 1000000 := by
   split at h3
   rename_i q; rw [q]; simp
   simp only [ze] at h3; omega
  have hd : (Ve l).length <= 1000000 := by simp [QJ, QT] at h4; omega
  have hn := Qh0 l
  exact ⟨248, c248 m, _, QnN, Qmu m hM, rfl, ⟨⟨by omega, kids (by omega) h2 (fun y hy => by have := Qp2 l y hy; omega) hd⟩, by omega, hpe, trivial⟩, fun u w => by kernel_rfl⟩
 case combined f c s =>
  rw [hgt] at h1
  rw [okC] at h2
  rw [pr] at h3
  simp only [zd, ze, zf] at h3
  exact ⟨252, c252 m, _, Qs6, QrE m hM, rfl, ⟨⟨by omega, h2.1, by omega, by simp [QJ, QT] at h4; omega⟩, ⟨by omega, h2.2, by omega, by simp [QJ, QT] at h4; omega⟩, by omega, trivial⟩, fun u w => by kernel_rfl⟩
theorem meth : ∀ m, Uy (gS m)
 | 0 => by
  intro x ps s e hp
  cases e
  have := QpS x
  have := hp.1.1
  omega
 | m + 1 => QsU m (meth m)
end
section
open Go Go.RowKit
set_option maxRecDepth 20000
def prO (s : Bs) (m p : Bool) : Bs × Bool :=
 match Q2 s m p with
 | some v => (if m = true then prG v else pr (v.headD default), true)
 | none => ([], false)
def QoF (v : List CSel) : Prop := v.length <= 1000000 /\ (∀ y ∈ v, okM 3000 y) /\ (prG v).length <= 1000000 /\ okM 3000 (v.headD default)
def Qcm (s : Bs) (m p : Bool) : Prop := ∀ v, Q2 s m p = some v -> QoF v
def c21 (svs : List SV) (b : Option SB) : QR := match svs, b with
 | [.str s, .bool m, .bool p], none => some ([s.length <= 1000000, Qcm s m p], .tup [.str (prO s m p).1, .bool (prO s m p).2])
 | _, _ => none
noncomputable def W21 : Wk := ⟨[(25, .plain c25), (40, .pure (c40 3000)), (199, .meth (gS 3000))], Qp Tryz.f21, false, false, [.tmp 6, .tmp 7], [9, 4], [], []⟩
theorem has21 : Has 21 := hsf Tryz.f21
theorem QfK {p q : Prop} (k : q) (h : p := by first | omega | (simp; done) | exact ⟨(h02 _ (by rw [h1]; exact h2)).1, (h02 _ (by rw [h1]; exact h2)).2.1⟩ | exact (h02 _ (by rw [h1]; exact h2)).2.2.1 | exact (h02 _ (by rw [h1]; exact h2)).2.2.2 | (exfalso; rw [h1] at h3; exact absurd h3 (by decide))) : p /\ q := ⟨h, k⟩
theorem sat21 : Sat 21 (Qv c21) := by
 have hD : Qe W21.D := (Qe.cons has25 sat25 (Qe.cons Qq8 (QqF 3000 (meth 3000)) (Qe.cons Qdz (meth 3000) Qe.nil)))
 refine W21.sa hD Tryz.f21 fun svs b K hP => ?_
 obtain ⟨ps, v, e, hp, hk⟩ := Qk hP
 unfold c21 at e
 split at e
 rename_i s m p
 cases e
 obtain ⟨h01, h02, _⟩ := hp
 refine W21.en ((s.length <= 1000000) /\ cond m (Qy (Q2 s true p) (fun v1 => cond m ((v1.length <= 1000000 /\ ∀ y ∈ v1, okM 3000 y) /\ ((prG v1).length <= 1000000) /\ K (.val (.tup [(.str (prG v1)), (.bool true)])) none) ((0 < v1.length) /\ (okM 3000 (v1.getD 0 default)) /\ K (.val (.tup [(.str (pr (v1.getD 0 default))), (.bool true)])) none)) (K (.val (.tup [(.str []), (.bool false)])) none)) (Qy (Q2 s false p) (fun v2 => cond m (([v2.headD default].length <= 1000000 /\ ∀ y ∈ [v2.headD default], okM 3000 y) /\ ((prG [v2.headD default]).length <= 1000000) /\ K (.val (.tup [(.str (prG [v2.headD default])), (.bool true)])) none) ((0 < 1) /\ (okM 3000 (([v2.headD default] : List CSel).getD 0 default)) /\ K (.val (.tup [(.str (pr (([v2.headD default] : List CSel).getD 0 default))), (.bool true)])) none)) (K (.val (.tup [(.str []), (.bool false)])) none))) ?_
 refine QfK ?_
 refine Qc ?_ ?_ <;> intro h1 <;> try simp [-za, -zb] at h1
 refine QK (fun v1 h2 => ?_) (fun h2 => ?_)
 refine Qc ?_ ?_ <;> intro h3 <;> try simp [-za, -zb] at h3
 refine QfK (QfK ?_)
 subst h1
 have e : prO s true p = (prG v1, true) := by unfold prO; rw [h2]; try rfl
 rw [e] at hk
 exact hk
 refine QfK (QfK ?_)
 exfalso
 rw [h1] at h3
 exact absurd h3 (by decide)
 subst h1
 have e : prO s true p = ([], false) := by unfold prO; rw [h2]; try rfl
 rw [e] at hk
 exact hk
 refine QK (fun v2 h2 => ?_) (fun h2 => ?_)
 refine Qc ?_ ?_ <;> intro h3 <;> try simp [-za, -zb] at h3
 refine QfK (QfK ?_)
 exfalso
 rw [h1] at h3
 exact absurd h3 (by decide)
 refine QfK (QfK ?_)
 subst h1
 have e : prO s false p = (pr (v2.headD default), true) := by unfold prO; rw [h2]; try rfl
 rw [e] at hk
 exact hk
 subst h1
 have e : prO s false p = ([], false) := by unfold prO; rw [h2]; try rfl
 rw [e] at hk
 exact hk
 cases e
end
section
open Go Go.RowKit
set_option maxRecDepth 20000
theorem UT {s : Bs} {p : Bool} {v : List CSel} (h : Q2 s true p = some v) : prO s true p = (prG v, true) := by unfold prO; rw [h]; rfl
theorem Qcm.of {s : Bs} {m p : Bool} {v : List CSel} (h : Q2 s m p = some v) (k : QoF v) : Qcm s m p := fun u hu => by
 rw [h] at hu; cases hu; exact k
structure Again (l : List SelD) (T : ST) : Prop where
 look : Look l T
 len : (Yz l).length <= 1000000
 w : Q2 (Yz l) true true = some (cs T)
 ok : QoF (cs T)
 g : Q2 (prG (cs T)) true true = some (cs T)
theorem QaM {l : List SelD} {T : ST} (q : Look l T) (hp : Qlc l = true) : Again l T := by
 have hx : ∀ x ∈ T.flat, Y5 x = true := by
  rw [<- q.e]
  unfold Qlc at hp
  rw [List.all_eq_true] at hp
  exact hp
 have ht := Qbj T
 have hl : l.length = T.flat.length := congrArg List.length q.e
 have hn := q.n
 have hw : Q2 (Yz l) true true = some (cs T) := by
  obtain ⟨x, L, e, _, h⟩ := q.read
  rw [q.text, (h true).1, if_neg (by simp), e]
 have hlen := q.len
 have gd : ∀ y ∈ cs T, Way.Gd (Way.ST.ht' T) (Way.ST.ht' T) 2 y := by
  have g := Way.QgX _ T (zq _) q.r q.s hx
  rcases q.k with k | k
  exact (g.grp k).2.1
  have n23 : T.node.kind ≠ 23 := by simp [QI, Qo] at k; omega
  rw [VG n23]
  intro y hy
  rw [zQ.1 hy]
  exact g.sel k
 have hS := Qg6 T q.r
 have hw5 : wtL T.flat <= 8000 := by rw [<- q.e]; exact q.w
 have hd := QeE hw
 have hdl : (Ve (cs T)).length <= 100000 := by
  have : (Yl true (cs T)).length = (Ve (cs T)).length + 1 := by simp [Yl, QT]
  omega
 have all : ∀ y ∈ cs T, okM 3000 y := fun y hy => by
  have a := Qrb _ _ _ _ (gd y hy)
  have b := Qpa y hy
  have c := QhZ y hy
  exact ⟨by omega, a.2, by omega, by omega⟩
 have hk : cs T ≠ [] := by
  obtain ⟨x, L, e, _⟩ := q.read
  rw [e]; simp
 refine ⟨q, by omega, hw, ⟨by have := Qh0 (cs T); omega, all, by have := Qg7 (cs T); omega, ?_⟩, Way.QqQ (by omega) q.r q.s hx q.k⟩
 obtain ⟨x, L, e⟩ := zB hk
 rw [e] at all ⊢
 exact all x (by simp)
theorem QdW {l : List SelD} {T : ST} (q : Look l T) (y : Bs) (h : pwL l <= 200000) : (VK y l).length <= 1000000 /\ Q2 (VK y l) true true = some (cs T) := by
 have hn := q.n
 have ht := Qbj T
 have hl : l.length = T.flat.length := congrArg List.length q.e
 refine ⟨?_, Way.Qrk q.e (by omega) q.r q.s q.k⟩
 unfold VK
 rw [if_neg (by omega)]
 have p1 := Vs y 0
 have p2 := q.wat.pen y (Qh y 0).2
 have p3 := Vs y (Qg y 2000 l 0 (Qh y 0).2).2
 simp only [zd]
 omega
theorem QcN {l : List SelD} (h : Uz l = true) : l.length <= 1000000000 /\ ∀ j, j < l.length -> (l.getD j default).key.length <= 80000 /\ (l.getD j default).val.length <= 80000 := by
 obtain ⟨T, q⟩ := Qei h
 have hn := q.n
 have hm : mbL l <= 500 := by
  unfold Uz at h
  split at h
  cases h
  simp only [zh, decide_eq_true_eq] at h
  exact h.2.1
 refine ⟨by omega, fun j hj => ?_⟩
 have := Qbb hm (l.getD j default) (by rw [za, zi hj]; exact List.getElem_mem hj)
 omega
def c7 (svs : List SV) (b : Option SB) : QR := match svs, b with
 | [.sl (.sels l), .sl (.bytes y)], none => some ([l.length <= 9223372036854775807, y.length <= 9223372036854775807], .bool true)
 | _, _ => none
noncomputable def W7 : Wk := ⟨[(14, .pure c14), (15, .pure c15), (16, .pure c16), (19, .pure c19), (20, .pure c20), (21, .pure c21)], Qp Tryz.f7, false, false, [.tmp 4], [4], [], []⟩
theorem olz1 {c0 p0 q : Prop} (k : q) (h : c0 -> p0 /\ True := by intro g0; (try simp at g0); exact ⟨(by first | omega | assumption | exact h1.1 | exact QcN g0 | (obtain ⟨T, q1, q2, q3⟩ := QfQ (y := y) h2.1.1; have A := QaM q1 h2.1.2; have B := QdW q1 y q2.2; first | with_reducible exact q2 | with_reducible exact fun _ => q1.wat | with_reducible exact A.len | with_reducible exact B.1 | with_reducible exact Qcm.of A.w A.ok | with_reducible exact Qcm.of B.2 A.ok | (rw [UT A.w]; simp only; first | exact A.ok.2.2.1 | with_reducible exact Qcm.of A.g A.ok) | (have := q1.n; have := q1.w; constructor <;> omega))), trivial⟩) : (c0 -> p0 /\ True) /\ q := ⟨h, k⟩
theorem Qcc {p q : Prop} (k : q) (h : p := by first | omega | assumption | exact h1.1 | exact QcN g0 | (obtain ⟨T, q1, q2, q3⟩ := QfQ (y := y) h2.1.1; have A := QaM q1 h2.1.2; have B := QdW q1 y q2.2; first | with_reducible exact q2 | with_reducible exact fun _ => q1.wat | with_reducible exact A.len | with_reducible exact B.1 | with_reducible exact Qcm.of A.w A.ok | with_reducible exact Qcm.of B.2 A.ok | (rw [UT A.w]; simp only; first | exact A.ok.2.2.1 | with_reducible exact Qcm.of A.g A.ok) | (have := q1.n; have := q1.w; constructor <;> omega))) : p /\ q := ⟨h, k⟩
theorem sat7 : Sat 7 (Qv c7) := by
 have hD : Qe W7.D := (Qe.cons has14 sat14 (Qe.cons has15 sat15 (Qe.cons has16 sat16 (Qe.cons has19 sat19 (Qe.cons has20 sat20 (Qe.cons has21 sat21 Qe.nil))))))
 refine W7.sa hD Tryz.f7 fun svs b K hP => ?_
 obtain ⟨ps, v, e, hp, hk⟩ := Qk hP
 unfold c7 at e
 split at e
 rename_i l y
 cases e
 obtain ⟨h01, h02, _⟩ := hp
 refine W7.en (have a0 := prO (Yz l) true true; (l.length <= 9223372036854775807) /\ cond ((!(Qbp l)) || (decide (2147483647 < y.length))) (K (.val (.bool true)) none) ((Qbp l = true) /\ ((!(Uz l)) = false -> (l.length <= 1000000000 /\ ∀ j, j < l.length -> (l.getD j default).key.length <= 80000 /\ (l.getD j default).val.length <= 80000) /\ True) /\ cond (((!(Uz l)) || (!(Qlc l))) || (decide (100 < y.length))) (K (.val (.bool true)) none) ((l.length <= 2000 /\ wtL l <= 100000) /\ (l.length ≠ 0 -> WAt l 2000 0) /\ ((Yz l).length <= 1000000) /\ (Qcm (Yz l) true true) /\ (l.length <= 60 /\ pwL l <= 200000) /\ (l.length ≠ 0 -> WAt l 2000 0) /\ ((VK y l).length <= 1000000) /\ (Qcm (VK y l) true true) /\ ((a0.1).length <= 1000000) /\ (Qcm (a0.1) true true) /\ K (.val (.bool ((((a0.2 && (prO (VK y l) true true).2) && (prO (a0.1) true true).2) && (decide (a0.1 = (prO (VK y l) true true).1))) && (decide (a0.1 = (prO (a0.1) true true).1))))) none))) ?_
 refine Qcc ?_
 refine Qc ?_ ?_ <;> intro h1 <;> try simp [-za, -zb] at h1
 exact hk
 refine Qcc (olz1 ?_)
 refine Qc ?_ ?_ <;> intro h2 <;> try simp [-za, -zb] at h2
 exact hk
 refine Qcc (Qcc (Qcc (Qcc (Qcc (Qcc (Qcc (Qcc (Qcc (Qcc ?_)))))))))
 obtain ⟨T, q1, q2, q3⟩ := QfQ (y := y) h2.1.1
 have A := QaM q1 h2.1.2
 have B := QdW q1 y q2.2
 refine Vb hk ?_
 rw [UT A.w, UT B.2]
 simp only
 rw [UT A.g]
 simp
 cases e
end
section
open Go Go.ChangeShapes Go.WideShapes Go.RowKit Go.Deep
set_option maxRecDepth 100000
theorem own : ownKnob zg.godebug = Option.none := by kernel_rfl
theorem Qhx : laidOutB zg = true := by kernel_rfl
theorem QfX {P : Program} {W : World} : ∀ {l : List (String × DataW Unit)} {ps : List MemPlace}, DataW.LaidVars P W l ps -> ∀ {n : String} {d : DataW Unit}, (n, d) ∈ l ->
 ∃ g t cs fuel p, P.globalNamed n = some g /\ (P.globals[g]?).map (·.type) = some t /\ W.var? P n = some cs /\ DataW.trod (fun _ => ()) P W 0 (fun _ => true) false fuel t cs.toList = some (d, p)
 | [], _, _, _, _, h => by cases h
 | (_, _) :: _, _, ⟨g, t, cs, f, p, _, h1, h2, h3, h4, h5, _⟩, _, _, h => by
  rcases zz.1 h with e | e
  cases e; exact ⟨g, t, cs, f, p, h1, h2, h3, h4⟩
  exact QfX h5 e
theorem Qnw {fuel : Nat} {W : World} {cs : List Value} {n : String} {x : DataW Unit} {p : List MemPlace}
 (h : DataW.trod (fun _ => ()) zg W 0 (fun _ => true) false fuel 71 cs = some (.iface n x, p)) : ∃ u v, cs = [.iface u v] := by
 cases fuel with
 | zero => simp [DataW.trod] at h
 | succ f =>
  unfold DataW.trod at h
  rw [Tryz.underlying71] at h
  match cs, h with
  | [], h => simp at h
  | [v], h => cases v <;> simp at h <;> exact ⟨_, _, rfl⟩
  | _ :: _ :: _, h => simp at h
theorem Qp6 {W : World} (h : laidMetH zg Rows.fnParseWrittenRow.laid W) (g : Nat) (hg : QhV g = true) : ∃ u v T fr, W.heap[g]? = some (.cells #[.iface u v] T fr) := by
 rw [MakeChecks.laidMetH_plain _ _ _ (by kernel_rfl)] at h
 obtain ⟨ps, h, _⟩ := h
 have one : ∀ (n : String) (a : String) (d : DataW Unit), (n, DataW.iface a d) ∈ Rows.fnParseWrittenRow.laid -> zg.globalNamed n = some g -> (zg.globals[g]?).map (·.type) = some 71 -> ∃ u v T fr, W.heap[g]? = some (.cells #[.iface u v] T fr) := by
  intro n a d hm hn ht
  obtain ⟨g', t, cs, fuel, p, h1, h2, h3, h4⟩ := QfX h hm
  obtain rfl := Option.some.inj (hn.symm.trans h1)
  obtain rfl := Option.some.inj (ht.symm.trans h2)
  obtain ⟨u, v, e⟩ := Qnw h4
  simp only [World.var?, hn, zM] at h3
  split at h3
  rename_i c T fr hh
  cases h3
  refine ⟨u, v, T, fr, ?_⟩
  rw [hh]
  obtain ⟨l⟩ := cs
  simp only at e
  rw [e]
  cases h3
 have hc : g = 0 \/ g = 1 \/ g = 2 \/ g = 4 \/ g = 5 := by
  simp [QhV] at hg
  omega
 rcases hc with rfl | rfl | rfl | rfl | rfl
 exact one "given.example/pub-bosquet/pub/cascadia.errExpectedParenthesis" _ _ (xh (i := 5) rfl) (by kernel_rfl) (by kernel_rfl)
 exact one "given.example/pub-bosquet/pub/cascadia.errExpectedClosingParenthesis" _ _ (xh (i := 6) rfl) (by kernel_rfl) (by kernel_rfl)
 exact one "given.example/pub-bosquet/pub/cascadia.errUnmatchedParenthesis" _ _ (xh (i := 7) rfl) (by kernel_rfl) (by kernel_rfl)
 exact one "strconv.ErrSyntax" _ _ (xh (i := 4) rfl) (by kernel_rfl) (by kernel_rfl)
 exact one "strconv.ErrRange" _ _ (xh (i := 3) rfl) (by kernel_rfl) (by kernel_rfl)
def Zh (W : World) (b : Nat) : Option (Array Value × TypeId) := match W.heap[b]? with
 | some (.cells c T _) => some (c, T)
 | _ => Option.none
theorem QoO {W : World} (h : laidMetH zg Rows.fnParseWrittenRow.laid W) : ∃ T fr, W.heap[6]? = some (.cells ((zH 20).map fun i => Value.int .u64 ((10 ^ i : Nat) : Int)).toArray T fr) := by
 rw [MakeChecks.laidMetH_plain _ _ _ (by kernel_rfl)] at h
 obtain ⟨ps, h, _⟩ := h
 obtain ⟨g', t, cs, fuel, p, h1, h2, h3, h4⟩ := QfX h (xh (i := 2) rfl)
 obtain rfl := Option.some.inj ((show zg.globalNamed "internal/strconv.uint64pow10" = some 6 by kernel_rfl).symm.trans h1)
 obtain rfl := Option.some.inj ((show (zg.globals[6]?).map (·.type) = some 207 by kernel_rfl).symm.trans h2)
 have hz := Lib.cells_of_tab (zs := (zH 20).map fun i => ((10 ^ i : Nat) : Int)) (k := .u64) (show zg.underlying 207 = some (.array 20 182) by kernel_rfl) (by kernel_rfl) (by kernel_rfl) (by kernel_rfl) h4
 simp only [World.var?, h1, zM] at h3
 split at h3
 rename_i c T fr hh
 cases h3
 refine ⟨T, fr, ?_⟩
 rw [hh]
 obtain ⟨l⟩ := cs
 simp only at hz
 rw [hz, List.map_map]
 rfl
 cases h3
theorem ZE {W : World} {b : Nat} {c : Array Value} {T : TypeId} {fr : Nat × Nat} (h : W.heap[b]? = some (.cells c T fr)) : Zh W b = some (c, T) := by
 unfold Zh; rw [h]
theorem QdZ {W : World} {b : Nat} {c : Array Value} {T : TypeId} (e : Zh W b = some (c, T)) : ∃ fr, W.heap[b]? = some (.cells c T fr) := by
 unfold Zh at e
 split at e
 rename_i h; cases e; exact ⟨_, h⟩
 cases e
theorem Sat.calls {f : FuncId} {P : Spec} (hf : Sat f P) {W : World} (he : ∀ g, QhV g = true -> ∃ u v T fr, W.heap[g]? = some (.cells #[.iface u v] T fr)) (ht : ∃ T fr, W.heap[6]? = some (.cells ((zH 20).map fun i => Value.int .u64 ((10 ^ i : Nat) : Int)).toArray T fr)) {svs : List SV} {args : Array Value} (hn : args.size = svs.length)
 (hr : ∀ (ω : Wit), ω.Γ = Zh W -> ∀ (i : Nat) (s : SV) (v : Value), svs[i]? = some s -> args[i]? = some v -> Rel ω s v) {s : SV} (hk : P svs Option.none fun o _ => o = .val s) :
 Calls zg f args W fun e W' => ∃ v, e = .returned v /\ (∃ ω, Rel ω s v) /\ Frame W (fun _ => False) W' := by
 let g0 : Glob := ⟨Zh W, fun g hg => by
  obtain ⟨u, v, T, fr, h⟩ := he g hg
  exact ⟨u, v, T, ZE h⟩, [], by obtain ⟨T, fr, h⟩ := ht; exact ⟨T, ZE h⟩⟩
 have hS : Sim g0 W (fun _ => False) ⟨Zh W, fun _ => 0, fun _ => undef, 1⟩ (loc Option.none) a0 W := {
  env := fun i s e => by simp [loc, elk, lk2] at e
  heap := fun r b e => by simp [loc, hlk] at e
  sep := fun r r' b b' k e => by simp [loc, hlk] at e
  ng := fun r b k e => by simp [loc, hlk] at e
  mine := fun r b k e => by simp [loc, hlk] at e
  nx := fun r b e => by simp [loc, hlk] at e
  wn := rfl
  gam := fun b c T e => QdZ e
  fr := Frame.refl W _
  df := rfl
  gl := fun b x e => e
  gn := fun b x e => .inl e
  pin := fun k hk => hk.elim
  n0 := Nat.zero_lt_one }
 refine (hf g0 W _ _ svs args Option.none _ hS hn (fun i s v e1 e2 => hr _ rfl i s v e1 e2) hk).mono ?_
 rintro e W' ⟨v, o, b', he, rfl, ω', S', h1, _, h3⟩
 exact ⟨v, he, ⟨ω', h3.2⟩, h1.fr⟩
theorem Frame.kept {W W' : World} (h : Frame W (fun _ => False) W') (may : MemPlace -> Prop) : W.keptBut W' may := by
 refine ⟨h.os, h.output, fun i hi => ?_⟩
 rw [h.block i hi (fun q => q)]
 exact (World.keptBut_refl W may).2.2 i hi
theorem Frame.sameAt {W W' : World} (h : Frame W (fun _ => False) W') {p : MemPlace} (hp : p.block < W.heap.size) : W.sameAt W' p := by
 cases p with
 | cell b o => exact World.cell?_of_block (w := W) (h.block b hp (fun q => q))
 | map b => exact h.block b hp (fun q => q)
section
variable {H : Type} {enc : TypeId × Value -> H}
theorem Qek {W W' : World} {sp sp' : Nat -> Bool} : ∀ {ns : List String} {gs : List (DataW H)} {q : List MemPlace}, DataW.TrodVars enc zg W sp ns gs q ->
 (∀ n ∈ ns, ∃ g u v T fr, zg.globalNamed n = some g /\ (zg.globals[g]?).map (·.type) = some 71 /\ W.heap[g]? = some (.cells #[.iface u v] T fr) /\ W'.heap[g]? = W.heap[g]?) ->
 DataW.TrodVars enc zg W' sp' ns gs q
 | [], [], _, h, _ => h
 | [], _ :: _, _, h, _ => h.elim
 | _ :: _, [], _, h, _ => h.elim
 | n :: ns, d :: gs, _, ⟨g, t, cs, fuel, p, q, h1, h2, h3, h4, h5, h6⟩, hall => by
  obtain ⟨g', u, v, T, fr, k1, k2, k3, k4⟩ := hall n (List.mem_cons_self ..)
  obtain rfl := Option.some.inj (k1.symm.trans h1)
  obtain rfl := Option.some.inj (k2.symm.trans h2)
  have e : cs = #[.iface u v] := by
   simp only [World.var?, h1, zM, k3, Option.some.injEq] at h3
   exact h3.symm
  subst e
  refine ⟨g', 71, #[.iface u v], fuel, p, q, h1, h2, ?_, ?_, Qek h5 fun m hm => hall m (List.mem_cons_of_mem _ hm), h6⟩
  simp only [World.var?, h1, zM, k4, k3]
  cases fuel with
  | zero => simp [DataW.trod] at h4
  | succ f =>
   unfold DataW.trod at h4 ⊢
   rw [Tryz.underlying71] at h4 ⊢
   simpa using h4
theorem Qil {W : World} {sp : Nat -> Bool} {a b c : String} {gs : List (DataW H)} {q : List MemPlace} (h : DataW.TrodVars enc zg W sp [a, b, c] gs q) : ∃ x y z, gs = [x, y, z] := by
 match gs, h with
 | [], h => exact h.elim
 | [x], ⟨_, _, _, _, _, _, _, _, _, _, h, _⟩ => exact h.elim
 | [x, y], ⟨_, _, _, _, _, _, _, _, _, _, ⟨_, _, _, _, _, _, _, _, _, _, h, _⟩, _⟩ => exact h.elim
 | [x, y, z], _ => exact ⟨x, y, z, rfl⟩
 | x :: y :: z :: t :: l, ⟨_, _, _, _, _, _, _, _, _, _, ⟨_, _, _, _, _, _, _, _, _, _, ⟨_, _, _, _, _, _, _, _, _, _, h, _⟩, _⟩, _⟩ => exact h.elim
theorem Qim {W W' : World} {sp sp' : Nat -> Bool} {gs : List (DataW H)} {q : List MemPlace} (hc : ∀ g, QhV g = true -> ∃ u v T fr, W.heap[g]? = some (.cells #[.iface u v] T fr)) (hf : Frame W (fun _ => False) W')
 (hV : DataW.TrodVars enc zg W sp ["given.example/pub-bosquet/pub/cascadia.errExpectedParenthesis", "given.example/pub-bosquet/pub/cascadia.errExpectedClosingParenthesis", "given.example/pub-bosquet/pub/cascadia.errUnmatchedParenthesis"] gs q) :
 DataW.TrodVars enc zg W' sp' ["given.example/pub-bosquet/pub/cascadia.errExpectedParenthesis", "given.example/pub-bosquet/pub/cascadia.errExpectedClosingParenthesis", "given.example/pub-bosquet/pub/cascadia.errUnmatchedParenthesis"] gs q := by
 refine Qek hV fun n hn => ?_
 have fin : ∀ g, QhV g = true -> zg.globalNamed n = some g -> (zg.globals[g]?).map (·.type) = some 71 ->
  ∃ g u v T fr, zg.globalNamed n = some g /\ (zg.globals[g]?).map (·.type) = some 71 /\ W.heap[g]? = some (.cells #[.iface u v] T fr) /\ W'.heap[g]? = W.heap[g]? := by
  intro g hg k1 k2
  obtain ⟨u, v, T, fr, k3⟩ := hc g hg
  exact ⟨g, u, v, T, fr, k1, k2, k3, hf.block g (zA.1 k3).1 (fun q => q)⟩
 simp only [zz, List.not_mem_nil, or_false] at hn
 rcases hn with rfl | rfl | rfl
 exact fin 0 rfl (by kernel_rfl) (by kernel_rfl)
 exact fin 1 rfl (by kernel_rfl) (by kernel_rfl)
 exact fin 2 rfl (by kernel_rfl) (by kernel_rfl)
theorem JZ {W : World} {sp : Nat -> Bool} {held : Bool} {n : Nat} {v : Value} {x : DataW H × List MemPlace} (h : DataW.trod enc zg W 0 sp held n 3 [v] = some x) : ∃ k : Int, v = .int .i64 k := by
 obtain ⟨k, e, _⟩ := DataW.trod_int (k := .i64) (by kernel_rfl) h
 cases e; exact ⟨k, rfl⟩
theorem QgH {W : World} {sp : Nat -> Bool} {held : Bool} {n : Nat} {v : Value} {x : DataW H × List MemPlace} (h : DataW.trod enc zg W 0 sp held n 9 [v] = some x) : ∃ l : List UInt8, v = .string ⟨l.toArray⟩ := by
 obtain ⟨k, e, _⟩ := DataW.trod_string Tryz.underlying9 h
 cases e
 obtain ⟨⟨l⟩⟩ := k
 exact ⟨l, rfl⟩
def Qqw (P : Program) : Option (List (Nat × Nat)) := match P.underlying 33 with
 | some (.struct fs) => some (fs.toList.map fun f => (f.offset, f.type))
 | _ => Option.none
theorem Qk0 : ∃ fs : Array Field, zg.underlying 33 = some (.struct fs) /\ fs.toList.map (fun f => (f.offset, f.type)) = [(0, 3), (1, 3), (2, 9), (3, 9), (4, 3), (5, 3), (6, 3), (7, 3)] := by
 have h : Qqw zg = some [(0, 3), (1, 3), (2, 9), (3, 9), (4, 3), (5, 3), (6, 3), (7, 3)] := by kernel_rfl
 unfold Qqw at h
 split at h
 rename_i fs hu
 exact ⟨fs, hu, Option.some.inj h⟩
 cases h
theorem QiR {W : World} {sp : Nat -> Bool} {held : Bool} {n : Nat} {cs : List Value} {x : DataW H × List MemPlace} (h : DataW.trod enc zg W 0 sp held n 33 cs = some x) :
 ∃ y : SelD, ∀ (ω : Wit) (j : Nat) (s : SV) (v : Value), (Vq y)[j]? = some s -> cs[j]? = some v -> Rel ω s v := by
 obtain ⟨fs, hu, hfs⟩ := Qk0
 obtain ⟨xs, m, _, _, hl, _, hf⟩ := DataW.trod_struct hu h
 have hl : cs.length = 8 := hl
 have one : ∀ (i o t : Nat), (fs.toList.map fun f => (f.offset, f.type))[i]? = some (o, t) -> zg.cellsOf t = 1 -> ∃ y, DataW.trod enc zg W 0 sp held m t ((cs.drop o).take 1) = some y := by
  intro i o t e hc
  rw [zD, Array.getElem?_toList] at e
  obtain ⟨f, e1, e2⟩ := zm.1 e
  cases e2
  have q := hf i f e1
  rw [hc] at q
  have : i < xs.length := by
   have h1 : i < fs.size := (zA.1 e1).1
   omega
  exact ⟨_, q.trans (zi this)⟩
 rw [hfs] at one
 have c3 : zg.cellsOf 3 = 1 := by kernel_rfl
 have c9 : zg.cellsOf 9 = 1 := by kernel_rfl
 match cs, hl with
 | [v0, v1, v2, v3, v4, v5, v6, v7], _ =>
  obtain ⟨_, y0⟩ := one 0 0 3 rfl c3
  obtain ⟨_, y1⟩ := one 1 1 3 rfl c3
  obtain ⟨_, y2⟩ := one 2 2 9 rfl c9
  obtain ⟨_, y3⟩ := one 3 3 9 rfl c9
  obtain ⟨_, y4⟩ := one 4 4 3 rfl c3
  obtain ⟨_, y5⟩ := one 5 5 3 rfl c3
  obtain ⟨_, y6⟩ := one 6 6 3 rfl c3
  obtain ⟨_, y7⟩ := one 7 7 3 rfl c3
  obtain ⟨k, rfl⟩ := JZ y0
  obtain ⟨o, rfl⟩ := JZ y1
  obtain ⟨ke, rfl⟩ := QgH y2
  obtain ⟨va, rfl⟩ := QgH y3
  obtain ⟨a, rfl⟩ := JZ y4
  obtain ⟨b, rfl⟩ := JZ y5
  obtain ⟨fl, rfl⟩ := JZ y6
  obtain ⟨sz, rfl⟩ := JZ y7
  refine ⟨⟨k, o, ke, va, a, b, fl, sz⟩, fun ω j s v e1 e2 => ?_⟩
  match j, e1, e2 with
  | 0, e1, e2 => cases e1; cases e2; exact .int _ _
  | 1, e1, e2 => cases e1; cases e2; exact .int _ _
  | 2, e1, e2 => cases e1; cases e2; exact .str _
  | 3, e1, e2 => cases e1; cases e2; exact .str _
  | 4, e1, e2 => cases e1; cases e2; exact .int _ _
  | 5, e1, e2 => cases e1; cases e2; exact .int _ _
  | 6, e1, e2 => cases e1; cases e2; exact .int _ _
  | 7, e1, e2 => cases e1; cases e2; exact .int _ _
  | j + 8, e1, e2 => cases e1
theorem Qmo {W : World} {sp : Nat -> Bool} {held : Bool} {v : Value} {d : DataW H} {p : List MemPlace} {base : Nat} (hval : Value.okWide zg W .any base 22 v) (h : DataW.Trod enc zg W 0 sp held 22 v d p) :
 ∃ l : List SelD, l.length <= 9223372036854775807 /\ ∀ ω : Wit, ω.Γ = Zh W -> Rel ω (.sl (.sels l)) v := by
 obtain ⟨n, h⟩ := h
 have hc8 : zg.cellsOf 33 = 8 := by kernel_rfl
 have hv : ∀ (a : Option Addr) (len cap : Nat), v.cells.toList = [.slice a len cap] -> v = .slice a len cap := by
  intro a len cap e
  obtain ⟨a', l', c', rfl⟩ := okWide_slice Tryz.underlying22 hval
  simpa [Value.cells] using e
 rcases open_slice (e := 33) Tryz.underlying22 h with ⟨e, _⟩ | ⟨a, len, cap, m, n', D, Pl, e, _, hl, hm, hmm, _, hi⟩
 obtain rfl := hv _ _ _ e
 exact ⟨[], by simp, fun ω _ => .slz _ _ _ rfl⟩
 obtain rfl := hv _ _ _ e
 rcases Nat.eq_zero_or_pos len with h0 | h0
 subst h0
 exact ⟨[], by simp, fun ω _ => .slz _ _ _ rfl⟩
 rw [hc8] at hi
 have hlm : len <= m := by rw [hmm]; split <;> omega
 have hY : ∀ i, i < len -> ∃ y : SelD, ∀ (ω : Wit) (j : Nat) (s : SV) (u : Value), (Vq y)[j]? = some s -> W.cell? (a.add (i * 8 + j)) = some u -> Rel ω s u := by
  intro i hil
  obtain ⟨cs', h1, h2⟩ := hi i (by omega)
  obtain ⟨y, hy⟩ := QiR h2
  obtain ⟨_, hcl, hat⟩ := World.cells?_some h1
  refine ⟨y, fun ω j s u e1 e2 => hy ω j s u e1 ?_⟩
  have hj : j < 8 := by
   have : j < (Vq y).length := (zy.1 e1).1
   exact this
  rw [<- hat j hj, add_add]
  exact e2
 obtain ⟨Y, hY⟩ := choose_lt (α := SelD) hY
 have hcell : ∀ i j, i < len -> j < 8 -> ∃ u, W.cell? (a.add (i * 8 + j)) = some u := by
  intro i j hil hj
  obtain ⟨cs', h1, h2⟩ := hi i (by omega)
  obtain ⟨_, hcl, hat⟩ := World.cells?_some h1
  have := hat j hj
  rw [add_add, zi (by omega)] at this
  exact ⟨_, this⟩
 obtain ⟨b, o, spot⟩ := a
 have hspot : spot = Option.none := by
  obtain ⟨u, hu⟩ := hcell 0 0 h0 (by omega)
  have := World.cell?_spot hu
  simpa [Addr.add] using this
 subst hspot
 have hblk : ∃ c T fr, W.heap[b]? = some (.cells c T fr) := by
  obtain ⟨u, hu⟩ := hcell 0 0 h0 (by omega)
  simp only [Nat.zero_mul, Nat.add_zero, Addr.add, if_true, World.cell?] at hu
  split at hu
  rename_i c T fr hh; exact ⟨c, T, fr, hh⟩
  cases hu
 obtain ⟨c, T, fr, hb⟩ := hblk
 have hat : ∀ k, W.cell? ((⟨b, o, Option.none⟩ : Addr).add k) = c[o + k]? := by
  intro k
  rw [ZR]
  unfold World.cell?
  simp only [hb]
  rfl
 refine ⟨(zH len).map Y, by simp only [List.length_map, List.length_range, maxLen] at hm ⊢; omega, fun ω hω => ?_⟩
 have hlen : (RV.sels ((zH len).map Y)).len = len := by simp [RV.len]
 have q := Rel.sl (ω := ω) (.sels ((zH len).map Y)) b o cap c T (by rw [hω]; exact ZE hb) (by
  rw [hlen]
  show o + len * 8 <= c.size
  obtain ⟨u, hu⟩ := hcell (len - 1) 7 (by omega) (by omega)
  rw [hat] at hu
  have := (zA.1 hu).1
  omega) (by rw [hlen]; exact hl) (by
  intro i j s u e0 e1 e2
  rw [hlen] at e0
  refine hY i e0 ω j s u ?_ (by rw [hat]; exact e2)
  rw [<- e1]
  show (Vq (Y i))[j]? = (Vq (((zH len).map Y).getD i default))[j]?
  rw [za, zD, List.getElem?_range e0]
  rfl)
 rw [hlen] at q
 exact q
theorem QlR {W : World} {sp : Nat -> Bool} {held : Bool} {n : Nat} {v : Value} {x : DataW H × List MemPlace} (h : DataW.trod enc zg W 0 sp held n 5 [v] = some x) : ∃ c : UInt8, v = .int .u8 c.toNat := by
 obtain ⟨k, e, _, hw⟩ := DataW.trod_int (k := .u8) (by kernel_rfl) h
 cases e
 have hk : 0 <= k /\ k < 256 := by
  simp [Lit.wf, IntKind.min, IntKind.max, IntKind.signed, IntKind.bits] at hw
  omega
 refine ⟨zx k.toNat, ?_⟩
 have : (zx k.toNat).toNat = k.toNat := by simp; omega
 rw [this, Int.toNat_of_nonneg hk.1]
theorem QlQ {W : World} {sp : Nat -> Bool} {held : Bool} {v : Value} {d : DataW H} {p : List MemPlace} {base : Nat} (hval : Value.okWide zg W .any base 37 v) (h : DataW.Trod enc zg W 0 sp held 37 v d p) :
 ∃ l : List UInt8, l.length <= 9223372036854775807 /\ ∀ ω : Wit, ω.Γ = Zh W -> Rel ω (.sl (.bytes l)) v := by
 obtain ⟨n, h⟩ := h
 have hc1 : zg.cellsOf 5 = 1 := by kernel_rfl
 have hv : ∀ (a : Option Addr) (len cap : Nat), v.cells.toList = [.slice a len cap] -> v = .slice a len cap := by
  intro a len cap e
  obtain ⟨a', l', c', rfl⟩ := okWide_slice Tryz.underlying37 hval
  simpa [Value.cells] using e
 rcases open_slice (e := 5) Tryz.underlying37 h with ⟨e, _⟩ | ⟨a, len, cap, m, n', D, Pl, e, _, hl, hm, hmm, _, hi⟩
 obtain rfl := hv _ _ _ e
 exact ⟨[], by simp, fun ω _ => .slz _ _ _ rfl⟩
 obtain rfl := hv _ _ _ e
 rcases Nat.eq_zero_or_pos len with h0 | h0
 subst h0
 exact ⟨[], by simp, fun ω _ => .slz _ _ _ rfl⟩
 rw [hc1] at hi
 have hlm : len <= m := by rw [hmm]; split <;> omega
 have hY : ∀ i, i < len -> ∃ y : UInt8, W.cell? (a.add i) = some (.int .u8 y.toNat) := by
  intro i hil
  obtain ⟨cs', h1, h2⟩ := hi i (by omega)
  obtain ⟨_, hcl, hat⟩ := World.cells?_some h1
  match cs', hcl, hat, h2 with
  | [u], _, hat, h2 =>
   obtain ⟨y, rfl⟩ := QlR h2
   have := hat 0 (by omega)
   rw [add_add] at this
   exact ⟨y, by simpa using this⟩
 obtain ⟨Y, hY⟩ := choose_lt (α := UInt8) hY
 obtain ⟨b, o, spot⟩ := a
 have hspot : spot = Option.none := by
  have := World.cell?_spot (hY 0 h0)
  simpa [Addr.add] using this
 subst hspot
 have hblk : ∃ c T fr, W.heap[b]? = some (.cells c T fr) := by
  have hu := hY 0 h0
  simp only [Addr.add, if_true, World.cell?] at hu
  split at hu
  rename_i c T fr hh; exact ⟨c, T, fr, hh⟩
  cases hu
 obtain ⟨c, T, fr, hb⟩ := hblk
 have hat : ∀ k, W.cell? ((⟨b, o, Option.none⟩ : Addr).add k) = c[o + k]? := by
  intro k
  rw [ZR]
  unfold World.cell?
  simp only [hb]
  rfl
 refine ⟨(zH len).map Y, by simp only [List.length_map, List.length_range, maxLen] at hm ⊢; omega, fun ω hω => ?_⟩
 have hlen : (RV.bytes ((zH len).map Y)).len = len := by simp [RV.len]
 have q := Rel.sl (ω := ω) (.bytes ((zH len).map Y)) b o cap c T (by rw [hω]; exact ZE hb) (by
  rw [hlen]
  show o + len * 1 <= c.size
  have hu := hY (len - 1) (by omega)
  rw [hat] at hu
  have := (zA.1 hu).1
  omega) (by rw [hlen]; exact hl) (by
  intro i j s u e0 e1 e2
  rw [hlen] at e0
  have hj : j = 0 := by
   have : j < [SV.byt (((zH len).map Y).getD i 0)].length := (zy.1 e1).1
   simpa using this
  subst hj
  cases e1
  have hu := hY i e0
  rw [hat] at hu
  have e2' : c[o + i]? = some u := by simpa [RV.z] using e2
  rw [hu] at e2'
  cases e2'
  have hy : ((zH len).map Y).getD i 0 = Y i := by
   rw [za, zD, List.getElem?_range e0]
   rfl
  rw [hy]
  exact .byt _)
 rw [hlen] at q
 exact q
theorem Qh9 {W W' : World} {v : Value} {d : DataW H} {p : List MemPlace} (h : DataW.Trod enc zg W 0 (fun _ => true) true 37 v d p) (hf : Frame W (fun _ => False) W') :
 DataW.Trod enc zg W' 0 (fun b => decide (b < W.heap.size)) true 37 v d p := by
 have hlt : ∀ q ∈ p, q.block < W.heap.size := by
  obtain ⟨n, hn⟩ := h
  exact DataW.trod_lt n _ _ _ hn
 exact WideElems.Trod_stays Qhx (by kernel_rfl) (of_decide_eq_true (by kernel_rfl)) h (fun q hq => hf.sameAt (hlt q hq)) (fun q hq => by simpa using hlt q hq)
theorem Qiw {W W' : World} {v : Value} {d : DataW H} {p : List MemPlace} (h : DataW.Trod enc zg W 0 (fun _ => true) true 22 v d p) (hf : Frame W (fun _ => False) W') :
 DataW.Trod enc zg W' 0 (fun b => decide (b < W.heap.size)) true 22 v d p := by
 have hlt : ∀ q ∈ p, q.block < W.heap.size := by
  obtain ⟨n, hn⟩ := h
  exact DataW.trod_lt n _ _ _ hn
 exact WideElems.Trod_stays Qhx (by kernel_rfl) (of_decide_eq_true (by kernel_rfl)) h (fun q hq => hf.sameAt (hlt q hq)) (fun q hq => by simpa using hlt q hq)
end
theorem Qof (os : Os) (args : Array Value) : laidMetH zg Rows.fnParseWrittenRow.laid ((World.doorLaid zg 124 os).forCall (fun _ _ => 0) ⟨#[], args, []⟩).memory := by
 rw [MakeChecks.laidMetH_plain _ _ _ (by kernel_rfl)]
 exact laidMet_of_run' 8 (by kernel_rfl) (by kernel_rfl)
end
end Go.Proofs.YtengepcafdnalaaGreatDoor
