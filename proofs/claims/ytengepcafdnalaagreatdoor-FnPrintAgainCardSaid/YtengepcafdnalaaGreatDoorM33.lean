/-
  Parts of the proof that the law FnPrintAgain holds for every input (texts Oe, Of). Conditions: none.
-/
import Derived.Test.YtengepcafdnalaaGreatDoorM32
namespace Go.Proofs.YtengepcafdnalaaGreatDoor
open _root_.Bool renaming and_eq_true → zh
open _root_.List renaming length_append → zd, length_cons → ze, length_nil → zf, getD_eq_getElem?_getD → za, length_eq_zero_iff → zK
open _root_.Nat renaming strongRecOn → zl
open _root_.UInt8 renaming toNat_or → zb
section
open Go Go.RowKit
set_option maxRecDepth 20000
def c35 (m : Nat) (svs : List SV) (b : Option SB) : FR := match svs, b with
 | [.ptr 0 0, .nat i], some (.blk 62 [.sl (.sels l), .sl (.bytes y), .nat n]) => some ([l.length <= 60 /\ pwL l <= 200000, WAt l m i, n + 20000000 * m <= 500000000000], .val (.str (Qg y m l i n).1), some (.blk 62 [.sl (.sels l), .sl (.bytes y), .nat (Qg y m l i n).2]))
 | _, _ => none
theorem QnL : Has 35 := hsf Tryz.f35
def c59 (m : Nat) (svs : List SV) (b : Option SB) : FR := match svs, b with
 | [.ptr 0 0, .nat i], some (.blk 62 [.sl (.sels l), .sl (.bytes y), .nat n]) => some ([l.length <= 60 /\ pwL l <= 200000, WAt l (m + 1) i, n + 20000000 * (m + 1) <= 500000000000], .val (.str (Qdh y m l i n).1), some (.blk 62 [.sl (.sels l), .sl (.bytes y), .nat (Qdh y m l i n).2]))
 | _, _ => none
noncomputable def W59 (m : Nat) : Wk := ⟨[(17, .fn c17), (35, .fn (c35 m)), (60, .fn c60)], Qp Tryz.f59, true, false, [.tmp 4], [9], [(4, 483)], []⟩
theorem has59 : Has 59 := hsf Tryz.f59
theorem YY {p q : Prop} (k : q) (h : p := by first | omega | (unfold inI; omega) | exact n5 _ (by omega) | exact w2 _ (QZ (by omega)) | exact fun k hk => by (have := (n3 k hk).2.1; omega) | exact h03 | exact w4 | exact w10 | (refine ⟨w8 (by omega) (by omega) (by omega) (by omega), ?_⟩; show ¬ ((l.getD i default).kind = 18 \/ (l.getD i default).kind = 19 \/ (l.getD i default).kind = 20); omega) | exact Way.Qjk (by decide) | (simp; done) | (have p1 := w9 j (by omega) q; first | omega | (simp only [zd, ze, zf, Qd]; omega)) | (have p1 := w12 q; first | omega | (simp only [zd, ze, zf, Qd]; omega))) : p /\ q := ⟨h, k⟩
theorem sat59 (m : Nat) (hG : Sat 35 (fnS (c35 m))) : Sat 59 (fnS (c59 m)) := by
 have hD : Qe (W59 m).D := (Qe.cons QhO QgV (Qe.cons QnL hG (Qe.cons Qkl QjH Qe.nil)))
 refine (W59 m).sa hD Tryz.f59 fun svs b K hP => ?_
 obtain ⟨ps, o, b', e, hp, hk⟩ := YG hP
 unfold c59 at e
 split at e
 rename_i i l y n
 cases e
 obtain ⟨⟨h01, h02⟩, h03, h04, _⟩ := hp
 obtain ⟨wn, w2, w3, w4, w5, w6, w7, w8⟩ := h03.kids
 obtain ⟨n1, n2, n3, n4⟩ := wn.kids
 have kk : knd l i = (l.getD i default).kind := rfl
 have n5 : ∀ j, j < (Qa l i).length -> (Qa l i).getD j 0 < l.length := fun j hj => (n3 _ (QZ hj)).1
 have w9 : ∀ j, j < (Qa l i).length -> ∀ q, (Qg y m l ((Qa l i).getD j 0) q).1.length <= 200000 /\ q <= (Qg y m l ((Qa l i).getD j 0) q).2 /\ (Qg y m l ((Qa l i).getD j 0) q).2 <= q + 200000 := fun j hj q => by have := (w2 _ (QZ hj)).pen y q; omega
 obtain ⟨w10, w11⟩ := h03.read
 have w12 := VS y (l.getD i default).val
 have w13 := VF y
 have w14 := Vs y
 have L4 : ∀ (mm : Nat) (j : Nat) (f r : List UInt8) (q : Nat), (Qa l i).length - j = mm -> (j <= (Qa l i).length /\ ((f, r), q) = pcJ y m l i n j /\ f.length + r.length <= 200010 * j /\ q <= n + 200010 * j) -> (W59 m).L K 4 (mkS 81 [(0, (.ptr 0 0)), (1, (.nat i)), (5, (.own 1)), (6, (.str f)), (7, (.str r)), (8, (.nat j))] [(0, .blk 62 [(.sl (.sels l)), (.sl (.bytes y)), (.nat q)]), (1, .row (.ints (Qa l i)) true)] 2) := by
  intro mm
  induction mm using zl with
  | _ mm ih =>
   intro j f r q hm hI
   obtain ⟨k1, k2, k3, k4⟩ := hI
   refine (W59 m).aL hD (have a0 := Qm y ((l.getD i default).val) q; have a1 := (Qa l i).getD j 0; have a2 : SV := .sl (.bytes y); have a3 := j + 1 <= 9223372036854775807; have a4 : SV := .sl (.sels l); have a5 := r ++ ([58, 58] ++ (a0.1)); have a6 := Qg y m l a1 q; have a7 : RV := .ints (Qa l i); have a8 := f.length + a5.length <= 2305843009213693952; cond (decide (j < (Qa l i).length)) ((j < (Qa l i).length) /\ (j < (Qa l i).length) /\ ((Qa l i).getD j 0 < l.length) /\ cond (decide ((l.getD a1 default).kind = (2 : Int))) ((j < (Qa l i).length) /\ (j < (Qa l i).length) /\ (l.length <= 60 /\ pwL l <= 200000) /\ (WAt l m a1) /\ (q + 20000000 * m <= 500000000000) /\ a3 /\ (W59 m).L K 4 (mkS 81 [(0, (.ptr 0 0)), (1, (.nat i)), (5, (.own 1)), (6, (.str (a6.1))), (7, (.str r)), (8, (.nat (j + 1)))] [(0, .blk 62 [a4, a2, (.nat (a6.2))]), (1, .row a7 true)] 2)) (cond (decide ((l.getD a1 default).kind = (1 : Int))) (cond (decide (f = [])) (a3 /\ (W59 m).L K 4 (mkS 81 [(0, (.ptr 0 0)), (1, (.nat i)), (5, (.own 1)), (6, (.str [42])), (7, (.str r)), (8, (.nat (j + 1)))] [(0, .blk 62 [a4, a2, (.nat q)]), (1, .row a7 true)] 2)) (a3 /\ (W59 m).L K 4 (mkS 81 [(0, (.ptr 0 0)), (1, (.nat i)), (5, (.own 1)), (6, (.str f)), (7, (.str r)), (8, (.nat (j + 1)))] [(0, .blk 62 [a4, a2, (.nat q)]), (1, .row a7 true)] 2))) ((j < (Qa l i).length) /\ (j < (Qa l i).length) /\ (l.length <= 60 /\ pwL l <= 200000) /\ (WAt l m a1) /\ (q + 20000000 * m <= 500000000000) /\ (r.length + (a6.1).length <= 2305843009213693952) /\ a3 /\ (W59 m).L K 4 (mkS 81 [(0, (.ptr 0 0)), (1, (.nat i)), (5, (.own 1)), (6, (.str f)), (7, (.str (r ++ (a6.1)))), (8, (.nat (j + 1)))] [(0, .blk 62 [a4, a2, (.nat (a6.2))]), (1, .row a7 true)] 2)))) ((i < l.length) /\ cond (!(decide ((l.getD i default).val = []))) ((i < l.length) /\ (q <= 900000000000) /\ (((l.getD i default).val).length <= 1000000000) /\ (2 + (a0.1).length <= 2305843009213693952) /\ (r.length + ([58, 58] ++ (a0.1)).length <= 2305843009213693952) /\ a8 /\ cond (decide (f ++ a5 = [])) (K (.val (.str [42])) (some (.blk 62 [a4, a2, (.nat (a0.2))]))) (a8 /\ K (.val (.str (f ++ a5))) (some (.blk 62 [a4, a2, (.nat (a0.2))])))) ((f.length + r.length <= 2305843009213693952) /\ cond (decide (f ++ r = [])) (K (.val (.str [42])) (some (.blk 62 [a4, a2, (.nat q)]))) ((f.length + r.length <= 2305843009213693952) /\ K (.val (.str (f ++ r))) (some (.blk 62 [a4, a2, (.nat q)])))))) ?_
   refine Qc ?_ ?_ <;> intro h1 <;> try simp [-za, -zb] at h1
   refine YY (YY (YY ?_))
   refine Qc ?_ ?_ <;> intro h2 <;> try simp [-za, -zb] at h2
   refine YY (YY (YY (YY (YY (YY ?_)))))
   exact ih _ (by omega) (j + 1) _ _ _ rfl ⟨by omega, by rw [QjV h1, <- k2]; exact (Qm1 (k := (Qa l i).getD j 0) h2).symm, by (have p1 := w9 j (by omega) q; first | omega | (simp only [zd, ze, zf, Qd]; omega)), by (have p1 := w9 j (by omega) q; first | omega | (simp only; omega))⟩
   refine Qc (fun h3 => ?_) (fun h3 => ?_)
   try simp [-za, -zb] at h3
   refine Qc ?_ ?_ <;> intro h4 <;> try simp [-za, -zb] at h4
   refine YY ?_
   exact ih _ (by omega) (j + 1) _ _ _ rfl ⟨by omega, by rw [QjV h1, <- k2]; exact (Qle (k := (Qa l i).getD j 0) h2 h3 h4).symm, by (have p1 := w9 j (by omega) q; first | omega | (simp only [zd, ze, zf, Qd]; omega)), by (have p1 := w9 j (by omega) q; first | omega | (simp only; omega))⟩
   refine YY ?_
   exact ih _ (by omega) (j + 1) _ _ _ rfl ⟨by omega, by rw [QjV h1, <- k2]; exact (Qm2 (k := (Qa l i).getD j 0) h2 h3 h4).symm, by (have p1 := w9 j (by omega) q; first | omega | (simp only [zd, ze, zf, Qd]; omega)), by (have p1 := w9 j (by omega) q; first | omega | (simp only; omega))⟩
   try simp [-za, -zb] at h3
   refine YY (YY (YY (YY (YY (YY (YY ?_))))))
   exact ih _ (by omega) (j + 1) _ _ _ rfl ⟨by omega, by rw [QjV h1, <- k2]; exact (Qm3 (k := (Qa l i).getD j 0) h2 h3).symm, by (have p1 := w9 j (by omega) q; first | omega | (simp only [zd, ze, zf, Qd]; omega)), by (have p1 := w9 j (by omega) q; first | omega | (simp only; omega))⟩
   refine YY ?_
   refine Qc ?_ ?_ <;> intro h2 <;> try simp [-za, -zb] at h2
   refine YY (YY (YY (YY (YY (YY ?_)))))
   refine Qc (fun h3 => ?_) (fun h3 => ?_)
   try simp [-za, -zb] at h3
   try simp [-za, -zb] at h3
   refine YY ?_
   have e : Qdh y m l i n = YX y (l.getD i default).val ((f, r), q) := by unfold Qdh; rw [<- QfI (show j = _ by omega), <- k2]
   refine Zt hk ?_
   rw [e]
   simp [YX, QaA, h2, h3, -za]
   refine YY ?_
   refine Qc ?_ ?_ <;> intro h3 <;> try simp [-za, -zb] at h3
   have e : Qdh y m l i n = YX y (l.getD i default).val ((f, r), q) := by unfold Qdh; rw [<- QfI (show j = _ by omega), <- k2]
   refine Zt hk ?_
   rw [e]
   simp [YX, QaA, h2, h3, -za]
   refine YY ?_
   have e : Qdh y m l i n = YX y (l.getD i default).val ((f, r), q) := by unfold Qdh; rw [<- QfI (show j = _ by omega), <- k2]
   refine Zt hk ?_
   rw [e]
   simp [YX, QaA, h2, h3, -za]
   exact fun a b => absurd b (h3 a)
 refine (W59 m).en ((i < l.length /\ l.length <= 1000000000000) /\ (0 <= (l.getD i default).size /\ ((i : Nat) : Int) + (l.getD i default).size <= l.length) /\ (∀ k, k ∈ Qa l i -> (l.getD k default).size <= 1000000000000) /\ (W59 m).L K 4 (mkS 81 [(0, (.ptr 0 0)), (1, (.nat i)), (5, (.own 1)), (6, (.str [])), (7, (.str [])), (8, (.nat 0))] [(1, .row (.ints (Qa l i)) true), (0, .blk 62 [(.sl (.sels l)), (.sl (.bytes y)), (.nat n)])] 2)) ?_
 refine YY (YY (YY ?_))
 exact Wk.L.rn [0, 1] (L4 _ 0 [] [] _ rfl ⟨by omega, rfl, by simp, by omega⟩)
 cases e
def c35s (m : Nat) (svs : List SV) (b : Option SB) : FR := match svs, b with
 | [.ptr 0 0, .nat i], some (.blk 62 [.sl (.sels l), .sl (.bytes y), .nat n]) => some ([l.length <= 60 /\ pwL l <= 200000, WAt l (m + 1) i, n + 20000000 * (m + 1) <= 500000000000], .val (.str (Qg y (m + 1) l i n).1), some (.blk 62 [.sl (.sels l), .sl (.bytes y), .nat (Qg y (m + 1) l i n).2]))
 | _, _ => none
def relF (y : Bs) (m : Nat) (l : List SelD) (i : Nat) (o : Bs) (q : Nat) : Bs × Nat :=
 let r := Qg y m l ((Qa l i).getD 0 0) q
 (((o ++ r.1) ++ (Qh y r.2).1) ++ [41], (Qh y r.2).2)
theorem Qdg {y : Bs} {m : Nat} {l : List SelD} {i n : Nat} (h : knd l i = 18 \/ knd l i = 19 \/ knd l i = 20) : Qg y (m + 1) l i n =
 relF y m l i ((([58] ++ (Qm y (QU.getD ((l.getD i default).kind - 18).toNat []) n).1) ++ [40]) ++ (Qh y (Qm y (QU.getD ((l.getD i default).kind - 18).toNat []) n).2).1) (Qh y (Qm y (QU.getD ((l.getD i default).kind - 18).toNat []) n).2).2 := by
 rw [Qph h]; rfl
noncomputable def W35 (m : Nat) : Wk := ⟨[(17, .fn c17), (34, .fn c34), (35, .fn (c35 m)), (59, .fn (c59 m)), (60, .fn c60), (61, .fn c61)], Qp Tryz.f35, true, false, [.tmp 4], [9], [(7, 417), (17, 609), (25, 1057)], [17, 25]⟩
theorem Va {p q : Prop} (k : q) (h : p := by first | omega | (unfold inI; omega) | exact n5 _ (by omega) | exact w2 _ (QZ (by omega)) | exact fun k hk => by (have := (n3 k hk).2.1; omega) | exact h03 | exact w4 | exact w10 | (refine ⟨w8 (by omega) (by omega) (by omega) (by omega), ?_⟩; show ¬ ((l.getD i default).kind = 18 \/ (l.getD i default).kind = 19 \/ (l.getD i default).kind = 20); omega) | exact Way.Qjk (by decide) | (simp; done) | (have kl := w6 (by omega); have p1 := w9 0 (by omega) n; have p2 := w13 (Qg y m l ((Qa l i).getD 0 0) n).2; have p3 := w14 (Qg y m l ((Qa l i).getD 0 0) n).2; have p4 := w9 1 (by omega) (Qh y (Qg y m l ((Qa l i).getD 0 0) n).2).2; first | omega | (simp only [zd, ze, zf, Qd]; omega)) | (first | omega | (simp only [zd, ze, zf, Qd]; omega)) | (have p1 := w9 j (by omega) q; first | omega | (simp only [zd, ze, zf, Qd]; omega)) | (have p1 := w9 j (by omega) (Qh y (Qh y q).2).2; first | omega | (simp only [zd, ze, zf, Qd]; omega))) : p /\ q := ⟨h, k⟩
theorem QrB (m : Nat) (hG : Sat 35 (fnS (c35 m))) : Sat 35 (fnS (c35s m)) := by
 have hD : Qe (W35 m).D := (Qe.cons QhO QgV (Qe.cons Qkm QjI (Qe.cons QnL hG (Qe.cons has59 (sat59 m hG) (Qe.cons Qkl QjH (Qe.cons has61 sat61 Qe.nil))))))
 refine (W35 m).sa hD Tryz.f35 fun svs b K hP => ?_
 obtain ⟨ps, o, b', e, hp, hk⟩ := YG hP
 unfold c35s at e
 split at e
 rename_i i l y n
 cases e
 obtain ⟨⟨h01, h02⟩, h03, h04, _⟩ := hp
 obtain ⟨wn, w2, w3, w4, w5, w6, w7, w8⟩ := h03.kids
 obtain ⟨n1, n2, n3, n4⟩ := wn.kids
 have kk : knd l i = (l.getD i default).kind := rfl
 have n5 : ∀ j, j < (Qa l i).length -> (Qa l i).getD j 0 < l.length := fun j hj => (n3 _ (QZ hj)).1
 have w9 : ∀ j, j < (Qa l i).length -> ∀ q, (Qg y m l ((Qa l i).getD j 0) q).1.length <= 200000 /\ q <= (Qg y m l ((Qa l i).getD j 0) q).2 /\ (Qg y m l ((Qa l i).getD j 0) q).2 <= q + 200000 := fun j hj q => by have := (w2 _ (QZ hj)).pen y q; omega
 obtain ⟨w10, w11⟩ := h03.read
 have w12 := VS y (l.getD i default).val
 have w13 := VF y
 have w14 := Vs y
 have f5 : knd l i = 22 -> 1 <= (l.getD i default).op /\ (l.getD i default).op <= 4 /\ (l.getD i default).flag = 0 := w4.comb
 have s1 := QL (l := Qh3) (n := 1) (by decide) ((l.getD i default).op - 2).toNat
 unfold Qh3 at s1
 have s2 := QL (l := QU) (n := 8) (by decide) ((l.getD i default).kind - 18).toNat
 have w15 := w13 n
 have w16 := VS y (QU.getD ((l.getD i default).kind - 18).toNat []) n
 have w17 := w13 (Qm y (QU.getD ((l.getD i default).kind - 18).toNat []) n).2
 have w18 := w14 (Qm y (QU.getD ((l.getD i default).kind - 18).toNat []) n).2
 have s3 := s2
 have w26 := w16
 have w27 := w17
 have w28 := w18
 unfold QU Jv Jw nHasChild at s3 w26 w27 w28
 have L7 : ∀ (mm : Nat) (j : Nat) (o : List UInt8) (q : Nat), (Qa l i).length - j = mm -> (knd l i = 23 /\ j <= (Qa l i).length /\ (decide (0 < j), o, q) = pgJ y m l i n j /\ o.length <= 200010 * j /\ q <= n + 200010 * j) -> (W35 m).L K 7 (mkS 138 [(0, (.ptr 0 0)), (5, (.own 1)), (7, (.str o)), (8, (.nat j))] [(0, .blk 62 [(.sl (.sels l)), (.sl (.bytes y)), (.nat q)]), (1, .row (.ints (Qa l i)) true)] 2) := by
  intro mm
  induction mm using zl with
  | _ mm ih =>
   intro j o q hm hI
   obtain ⟨k0, k1, k2, k3, k4⟩ := hI
   have q1 := w13 q
   have q2 := w14 q
   have q3 := w13 (Qh y q).2
   have q4 := w14 (Qh y q).2
   refine (W35 m).aL hD (have a0 := Qh y ((Qh y q).2); have a1 := (Qa l i).getD j 0; have a2 := (Qh y q).1 ++ [44] ++ (a0.1); have a3 := Qg y m l a1 (a0.2); cond (decide (j < (Qa l i).length)) (cond (decide (0 < j)) ((q <= 900000000000) /\ (((Qh y q).1).length + 1 <= 2305843009213693952) /\ ((Qh y q).2 <= 900000000000) /\ (((Qh y q).1 ++ [44]).length + (a0.1).length <= 2305843009213693952) /\ (o.length + a2.length <= 2305843009213693952) /\ (j < (Qa l i).length) /\ (j < (Qa l i).length) /\ (l.length <= 60 /\ pwL l <= 200000) /\ (WAt l m a1) /\ (a0.2 + 20000000 * m <= 500000000000) /\ ((o ++ a2).length + (a3.1).length <= 2305843009213693952) /\ (j + 1 <= 9223372036854775807) /\ (W35 m).L K 7 (mkS 138 [(0, (.ptr 0 0)), (5, (.own 1)), (7, (.str (o ++ a2 ++ (a3.1)))), (8, (.nat (j + 1)))] [(0, .blk 62 [(.sl (.sels l)), (.sl (.bytes y)), (.nat (a3.2))]), (1, .row (.ints (Qa l i)) true)] 2)) ((j < (Qa l i).length) /\ (j < (Qa l i).length) /\ (l.length <= 60 /\ pwL l <= 200000) /\ (WAt l m a1) /\ (q + 20000000 * m <= 500000000000) /\ (o.length + ((Qg y m l a1 q).1).length <= 2305843009213693952) /\ (j + 1 <= 9223372036854775807) /\ (W35 m).L K 7 (mkS 138 [(0, (.ptr 0 0)), (5, (.own 1)), (7, (.str (o ++ ((Qg y m l a1 q).1)))), (8, (.nat (j + 1)))] [(0, .blk 62 [(.sl (.sels l)), (.sl (.bytes y)), (.nat ((Qg y m l a1 q).2))]), (1, .row (.ints (Qa l i)) true)] 2))) (K (.val (.str o)) (some (.blk 62 [(.sl (.sels l)), (.sl (.bytes y)), (.nat q)])))) ?_
   refine Qc ?_ ?_ <;> intro h1 <;> try simp [-za, -zb] at h1
   refine Qc (fun h2 => ?_) (fun h2 => ?_)
   try simp [-za, -zb] at h2
   refine Va (Va (Va (Va (Va (Va (Va (Va (Va (Va (Va (Va ?_)))))))))))
   exact ih _ (by omega) (j + 1) _ _ rfl ⟨k0, by omega, by rw [QqS h1, <- k2]; exact (QmW (k := (Qa l i).getD j 0) h2).symm, by (have p1 := w9 j (by omega) (Qh y (Qh y q).2).2; first | omega | (simp only [zd, ze, zf, Qd]; omega)), by (have p1 := w9 j (by omega) (Qh y (Qh y q).2).2; first | omega | (simp only; omega))⟩
   try simp [-za, -zb] at h2
   refine Va (Va (Va (Va (Va (Va (Va ?_))))))
   exact ih _ (by omega) (j + 1) _ _ rfl ⟨k0, by omega, by rw [QqS h1, <- k2]; exact (QmX (k := (Qa l i).getD j 0) (by omega)).symm, by (have p1 := w9 j (by omega) q; first | omega | (simp only [zd, ze, zf, Qd]; omega)), by (have p1 := w9 j (by omega) q; first | omega | (simp only; omega))⟩
   refine Zt hk ?_
   rw [Qpi k0, <- Qpf (show j = _ by omega), <- k2]
 have L17 : ∀ (mm : Nat) (o : List UInt8) (q : Nat), 0 = mm -> (knd l i = 22 /\ ¬ (l.getD i default).op = 1 /\ Qg y (m + 1) l i n = Qrh y m l i (l.getD i default).op o q /\ o.length <= 200000 /\ q <= n + 200000) -> (W35 m).C K 17 (mkS 138 [(0, (.ptr 0 0)), (5, (.own 1)), (6, (.ptr 2 0)), (9, (.str o))] [(0, .blk 62 [(.sl (.sels l)), (.sl (.bytes y)), (.nat q)]), (1, .row (.ints (Qa l i)) true), (2, .blk 33 [(.int .i64 ((l.getD i default).kind)), (.int .i64 ((l.getD i default).op)), (.str ((l.getD i default).key)), (.str ((l.getD i default).val)), (.int .i64 ((l.getD i default).a)), (.int .i64 ((l.getD i default).b)), (.int .i64 ((l.getD i default).flag)), (.int .i64 ((l.getD i default).size))])] 3) := by
  intro mm
  induction mm using zl with
  | _ mm ih =>
   intro o q hm hI
   obtain ⟨k0, k1, k2, k3, k4⟩ := hI
   have kl := w6 k0
   have kf := f5 k0
   have q1 := w13 q
   have q2 := w14 q
   have q3 := w13 (Qh y q).2
   have q4 := w14 (Qh y q).2
   have q5 := w9 1 (by omega) (Qh y (Qh y q).2).2
   refine (W35 m).aC hD (have a2 := Qg y m l ((Qa l i).getD 1 0) ((Qh y ((Qh y q).2)).2); have a3 := (l.getD i default).op - (2 : Int); have a0 := ([[62], [43], [126]] : List (List UInt8)).getD ((a3).toNat) []; have a1 := (Qh y q).1 ++ a0 ++ ((Qh y ((Qh y q).2)).1); (QO 3 (True) (.str o)) /\ (QO 3 (True) (.ptr 0 0)) /\ ((True /\ True) /\ (SV.lts 0 [] = true /\ SV.lts 0 [(.sl (.sels l)), (.sl (.bytes y)), (.nat q)] = true /\ (q <= 900000000000) /\ True) /\ True /\ (true = true -> True)) /\ (QO 3 (true = true) (.sl (.strs [[62], [43], [126]]))) /\ (QO 3 (True) (.ptr 2 1)) /\ (QO 3 (True) (.int .i64 ((l.getD i default).op))) /\ (QO 3 ((inI a3) /\ True) (.int .i64 a3)) /\ (QO 3 ((0 <= a3 /\ a3 < (3 : Nat)) /\ True) (.cp [(.str a0)])) /\ (QO 3 (True) (.str a0)) /\ (QO 3 ((((Qh y q).1).length + a0.length <= 2305843009213693952) /\ True) (.str ((Qh y q).1 ++ a0))) /\ (QO 3 (True) (.ptr 0 0)) /\ ((True /\ True) /\ (SV.lts 0 [] = true /\ SV.lts 0 [(.sl (.sels l)), (.sl (.bytes y)), (.nat ((Qh y q).2))] = true /\ ((Qh y q).2 <= 900000000000) /\ True) /\ True /\ (true = true -> True)) /\ (QO 3 ((((Qh y q).1 ++ a0).length + ((Qh y ((Qh y q).2)).1).length <= 2305843009213693952) /\ True) (.str a1)) /\ (QO 3 ((o.length + a1.length <= 2305843009213693952) /\ True) (.str (o ++ a1))) /\ (QO 3 (True) (.str (o ++ a1))) /\ (1 < (Qa l i).length) /\ (1 < (Qa l i).length) /\ (l.length <= 60 /\ pwL l <= 200000) /\ (WAt l m ((Qa l i).getD 1 0)) /\ ((Qh y ((Qh y q).2)).2 + 20000000 * m <= 500000000000) /\ ((o ++ a1).length + (a2.1).length <= 2305843009213693952) /\ K (.val (.str (o ++ a1 ++ (a2.1)))) (some (.blk 62 [(.sl (.sels l)), (.sl (.bytes y)), (.nat (a2.2))]))) ?_
   refine ⟨Qi trivial, ?_⟩
   refine ⟨Qi trivial, ?_⟩
   refine ⟨⟨⟨trivial, trivial⟩, ⟨rfl, rfl, ⟨(by first | omega | (unfold inI; omega) | exact n5 _ (by omega) | exact w2 _ (QZ (by omega)) | exact fun k hk => by (have := (n3 k hk).2.1; omega) | exact h03 | exact w4 | exact w10 | (refine ⟨w8 (by omega) (by omega) (by omega) (by omega), ?_⟩; show ¬ ((l.getD i default).kind = 18 \/ (l.getD i default).kind = 19 \/ (l.getD i default).kind = 20); omega) | exact Way.Qjk (by decide) | (simp; done) | (have kl := w6 (by omega); have p1 := w9 0 (by omega) n; have p2 := w13 (Qg y m l ((Qa l i).getD 0 0) n).2; have p3 := w14 (Qg y m l ((Qa l i).getD 0 0) n).2; have p4 := w9 1 (by omega) (Qh y (Qg y m l ((Qa l i).getD 0 0) n).2).2; first | omega | (simp only [zd, ze, zf, Qd]; omega)) | (first | omega | (simp only [zd, ze, zf, Qd]; omega)) | (have p1 := w9 j (by omega) q; first | omega | (simp only [zd, ze, zf, Qd]; omega)) | (have p1 := w9 j (by omega) (Qh y (Qh y q).2).2; first | omega | (simp only [zd, ze, zf, Qd]; omega))), trivial⟩⟩, trivial, fun _ => trivial⟩, ?_⟩
   refine ⟨Qi rfl, ?_⟩
   refine ⟨Qi trivial, ?_⟩
   refine ⟨Qi trivial, ?_⟩
   refine ⟨Qi ⟨(by first | omega | (unfold inI; omega) | exact n5 _ (by omega) | exact w2 _ (QZ (by omega)) | exact fun k hk => by (have := (n3 k hk).2.1; omega) | exact h03 | exact w4 | exact w10 | (refine ⟨w8 (by omega) (by omega) (by omega) (by omega), ?_⟩; show ¬ ((l.getD i default).kind = 18 \/ (l.getD i default).kind = 19 \/ (l.getD i default).kind = 20); omega) | exact Way.Qjk (by decide) | (simp; done) | (have kl := w6 (by omega); have p1 := w9 0 (by omega) n; have p2 := w13 (Qg y m l ((Qa l i).getD 0 0) n).2; have p3 := w14 (Qg y m l ((Qa l i).getD 0 0) n).2; have p4 := w9 1 (by omega) (Qh y (Qg y m l ((Qa l i).getD 0 0) n).2).2; first | omega | (simp only [zd, ze, zf, Qd]; omega)) | (first | omega | (simp only [zd, ze, zf, Qd]; omega)) | (have p1 := w9 j (by omega) q; first | omega | (simp only [zd, ze, zf, Qd]; omega)) | (have p1 := w9 j (by omega) (Qh y (Qh y q).2).2; first | omega | (simp only [zd, ze, zf, Qd]; omega))), trivial⟩, ?_⟩
   refine ⟨Qi ⟨(by first | omega | (unfold inI; omega) | exact n5 _ (by omega) | exact w2 _ (QZ (by omega)) | exact fun k hk => by (have := (n3 k hk).2.1; omega) | exact h03 | exact w4 | exact w10 | (refine ⟨w8 (by omega) (by omega) (by omega) (by omega), ?_⟩; show ¬ ((l.getD i default).kind = 18 \/ (l.getD i default).kind = 19 \/ (l.getD i default).kind = 20); omega) | exact Way.Qjk (by decide) | (simp; done) | (have kl := w6 (by omega); have p1 := w9 0 (by omega) n; have p2 := w13 (Qg y m l ((Qa l i).getD 0 0) n).2; have p3 := w14 (Qg y m l ((Qa l i).getD 0 0) n).2; have p4 := w9 1 (by omega) (Qh y (Qg y m l ((Qa l i).getD 0 0) n).2).2; first | omega | (simp only [zd, ze, zf, Qd]; omega)) | (first | omega | (simp only [zd, ze, zf, Qd]; omega)) | (have p1 := w9 j (by omega) q; first | omega | (simp only [zd, ze, zf, Qd]; omega)) | (have p1 := w9 j (by omega) (Qh y (Qh y q).2).2; first | omega | (simp only [zd, ze, zf, Qd]; omega))), trivial⟩, ?_⟩
   refine ⟨Qi trivial, ?_⟩
   refine ⟨Qi ⟨(by first | omega | (unfold inI; omega) | exact n5 _ (by omega) | exact w2 _ (QZ (by omega)) | exact fun k hk => by (have := (n3 k hk).2.1; omega) | exact h03 | exact w4 | exact w10 | (refine ⟨w8 (by omega) (by omega) (by omega) (by omega), ?_⟩; show ¬ ((l.getD i default).kind = 18 \/ (l.getD i default).kind = 19 \/ (l.getD i default).kind = 20); omega) | exact Way.Qjk (by decide) | (simp; done) | (have kl := w6 (by omega); have p1 := w9 0 (by omega) n; have p2 := w13 (Qg y m l ((Qa l i).getD 0 0) n).2; have p3 := w14 (Qg y m l ((Qa l i).getD 0 0) n).2; have p4 := w9 1 (by omega) (Qh y (Qg y m l ((Qa l i).getD 0 0) n).2).2; first | omega | (simp only [zd, ze, zf, Qd]; omega)) | (first | omega | (simp only [zd, ze, zf, Qd]; omega)) | (have p1 := w9 j (by omega) q; first | omega | (simp only [zd, ze, zf, Qd]; omega)) | (have p1 := w9 j (by omega) (Qh y (Qh y q).2).2; first | omega | (simp only [zd, ze, zf, Qd]; omega))), trivial⟩, ?_⟩
   refine ⟨Qi trivial, ?_⟩
   refine ⟨⟨⟨trivial, trivial⟩, ⟨rfl, rfl, ⟨(by first | omega | (unfold inI; omega) | exact n5 _ (by omega) | exact w2 _ (QZ (by omega)) | exact fun k hk => by (have := (n3 k hk).2.1; omega) | exact h03 | exact w4 | exact w10 | (refine ⟨w8 (by omega) (by omega) (by omega) (by omega), ?_⟩; show ¬ ((l.getD i default).kind = 18 \/ (l.getD i default).kind = 19 \/ (l.getD i default).kind = 20); omega) | exact Way.Qjk (by decide) | (simp; done) | (have kl := w6 (by omega); have p1 := w9 0 (by omega) n; have p2 := w13 (Qg y m l ((Qa l i).getD 0 0) n).2; have p3 := w14 (Qg y m l ((Qa l i).getD 0 0) n).2; have p4 := w9 1 (by omega) (Qh y (Qg y m l ((Qa l i).getD 0 0) n).2).2; first | omega | (simp only [zd, ze, zf, Qd]; omega)) | (first | omega | (simp only [zd, ze, zf, Qd]; omega)) | (have p1 := w9 j (by omega) q; first | omega | (simp only [zd, ze, zf, Qd]; omega)) | (have p1 := w9 j (by omega) (Qh y (Qh y q).2).2; first | omega | (simp only [zd, ze, zf, Qd]; omega))), trivial⟩⟩, trivial, fun _ => trivial⟩, ?_⟩
   refine ⟨Qi ⟨(by first | omega | (unfold inI; omega) | exact n5 _ (by omega) | exact w2 _ (QZ (by omega)) | exact fun k hk => by (have := (n3 k hk).2.1; omega) | exact h03 | exact w4 | exact w10 | (refine ⟨w8 (by omega) (by omega) (by omega) (by omega), ?_⟩; show ¬ ((l.getD i default).kind = 18 \/ (l.getD i default).kind = 19 \/ (l.getD i default).kind = 20); omega) | exact Way.Qjk (by decide) | (simp; done) | (have kl := w6 (by omega); have p1 := w9 0 (by omega) n; have p2 := w13 (Qg y m l ((Qa l i).getD 0 0) n).2; have p3 := w14 (Qg y m l ((Qa l i).getD 0 0) n).2; have p4 := w9 1 (by omega) (Qh y (Qg y m l ((Qa l i).getD 0 0) n).2).2; first | omega | (simp only [zd, ze, zf, Qd]; omega)) | (first | omega | (simp only [zd, ze, zf, Qd]; omega)) | (have p1 := w9 j (by omega) q; first | omega | (simp only [zd, ze, zf, Qd]; omega)) | (have p1 := w9 j (by omega) (Qh y (Qh y q).2).2; first | omega | (simp only [zd, ze, zf, Qd]; omega))), trivial⟩, ?_⟩
   refine ⟨Qi ⟨(by first | omega | (unfold inI; omega) | exact n5 _ (by omega) | exact w2 _ (QZ (by omega)) | exact fun k hk => by (have := (n3 k hk).2.1; omega) | exact h03 | exact w4 | exact w10 | (refine ⟨w8 (by omega) (by omega) (by omega) (by omega), ?_⟩; show ¬ ((l.getD i default).kind = 18 \/ (l.getD i default).kind = 19 \/ (l.getD i default).kind = 20); omega) | exact Way.Qjk (by decide) | (simp; done) | (have kl := w6 (by omega); have p1 := w9 0 (by omega) n; have p2 := w13 (Qg y m l ((Qa l i).getD 0 0) n).2; have p3 := w14 (Qg y m l ((Qa l i).getD 0 0) n).2; have p4 := w9 1 (by omega) (Qh y (Qg y m l ((Qa l i).getD 0 0) n).2).2; first | omega | (simp only [zd, ze, zf, Qd]; omega)) | (first | omega | (simp only [zd, ze, zf, Qd]; omega)) | (have p1 := w9 j (by omega) q; first | omega | (simp only [zd, ze, zf, Qd]; omega)) | (have p1 := w9 j (by omega) (Qh y (Qh y q).2).2; first | omega | (simp only [zd, ze, zf, Qd]; omega))), trivial⟩, ?_⟩
   refine ⟨Qi trivial, ?_⟩
   refine Va (Va (Va (Va (Va (Va ?_)))))
   exact Zt hk (k2.trans rfl)
 have L25 : ∀ (mm : Nat) (o : List UInt8) (q : Nat), 0 = mm -> ((knd l i = 18 \/ knd l i = 19 \/ knd l i = 20) /\ Qg y (m + 1) l i n = relF y m l i o q /\ o.length <= 100 /\ q <= n + 2) -> (W35 m).C K 25 (mkS 138 [(0, (.ptr 0 0)), (5, (.own 1)), (10, (.str o))] [(0, .blk 62 [(.sl (.sels l)), (.sl (.bytes y)), (.nat q)]), (1, .row (.ints (Qa l i)) true)] 2) := by
  intro mm
  induction mm using zl with
  | _ mm ih =>
   intro o q hm hI
   obtain ⟨k0, k1, k2, k3⟩ := hI
   have kl := w7 k0
   have q1 := w9 0 (by omega) q
   have q2 := w13 (Qg y m l ((Qa l i).getD 0 0) q).2
   have q3 := w14 (Qg y m l ((Qa l i).getD 0 0) q).2
   refine (W35 m).aC hD (have a0 := Qg y m l ((Qa l i).getD 0 0) q; (0 < (Qa l i).length) /\ (0 < (Qa l i).length) /\ (l.length <= 60 /\ pwL l <= 200000) /\ (WAt l m ((Qa l i).getD 0 0)) /\ (q + 20000000 * m <= 500000000000) /\ (o.length + (a0.1).length <= 2305843009213693952) /\ (a0.2 <= 900000000000) /\ ((o ++ (a0.1)).length + ((Qh y (a0.2)).1).length <= 2305843009213693952) /\ ((o ++ (a0.1) ++ ((Qh y (a0.2)).1)).length + 1 <= 2305843009213693952) /\ K (.val (.str (o ++ (a0.1) ++ ((Qh y (a0.2)).1) ++ [41]))) (some (.blk 62 [(.sl (.sels l)), (.sl (.bytes y)), (.nat ((Qh y (a0.2)).2))]))) ?_
   refine Va (Va (Va (Va (Va (Va (Va (Va (Va ?_))))))))
   exact Zt hk (k1.trans rfl)
 refine (W35 m).en (have a1 := l.getD i default; have a3 := Qg y m l ((Qa l i).getD 0 0) n; have a4 := SelD.mk (a1.kind) (a1.op) (a1.key) (a1.val) (a1.a) (a1.b) (a1.flag) (a1.size); have a7 := a1.kind - (18 : Int); have a0 := ([[110, 111, 116], [104, 97, 115], [104, 97, 115, 99, 104, 105, 108, 100]] : List (List UInt8)).getD ((a7).toNat) []; have a6 := ([58] ++ ((Qm y a0 n).1) ++ [40]).length + ((Qh y ((Qm y a0 n).2)).1).length <= 2305843009213693952; have a8 := ([58] ++ ((Qm y a0 n).1)).length + 1 <= 2305843009213693952; have a10 : SV := .sl (.bytes y); have a11 : SV := .sl (.sels l); have a2 := mkS 138 [(0, (.ptr 0 0)), (5, (.own 1)), (10, (.str ([58] ++ ((Qm y a0 n).1) ++ [40] ++ ((Qh y ((Qm y a0 n).2)).1))))] [(3, .row (.strs [[110, 111, 116], [104, 97, 115], [104, 97, 115, 99, 104, 105, 108, 100]]) true), (2, .blk 33 [(.int .i64 (a1.kind)), (.int .i64 (a1.op)), (.str (a1.key)), (.str (a1.val)), (.int .i64 (a1.a)), (.int .i64 (a1.b)), (.int .i64 (a1.flag)), (.int .i64 (a1.size))]), (1, .row (.ints (Qa l i)) true), (0, .blk 62 [a11, a10, (.nat ((Qh y ((Qm y a0 n).2)).2))])] 4; have a12 := l.length <= 60 /\ pwL l <= 200000; have a13 := (Qm y a0 n).2 <= 900000000000; have a14 := Qh y (a3.2); have a5 := Qg y m l ((Qa l i).getD 1 0) (a14.2); have a9 : SV := .str (a3.1 ++ [32] ++ (a14.1) ++ (a5.1)); have a15 := a0.length <= 1000000000; (i < l.length /\ l.length <= 1000000000000) /\ (0 <= a1.size /\ ((i : Nat) : Int) + a1.size <= l.length) /\ (∀ k, k ∈ Qa l i -> (l.getD k default).size <= 1000000000000) /\ (i < l.length) /\ cond (decide (a1.kind = (23 : Int))) ((W35 m).L K 7 (mkS 138 [(0, (.ptr 0 0)), (5, (.own 1)), (7, (.str [])), (8, (.nat 0))] [(2, .blk 33 [(.int .i64 (a1.kind)), (.int .i64 (a1.op)), (.str (a1.key)), (.str (a1.val)), (.int .i64 (a1.a)), (.int .i64 (a1.b)), (.int .i64 (a1.flag)), (.int .i64 (a1.size))]), (1, .row (.ints (Qa l i)) true), (0, .blk 62 [a11, a10, (.nat n)])] 3)) (cond (decide (a1.kind = (22 : Int))) ((0 < (Qa l i).length) /\ (0 < (Qa l i).length) /\ a12 /\ (WAt l m ((Qa l i).getD 0 0)) /\ (n + 20000000 * m <= 500000000000) /\ cond (decide (a1.op = (1 : Int))) ((QO 3 (True) (.str (a3.1))) /\ (QO 3 (((a3.1).length + 1 <= 2305843009213693952) /\ True) (.str (a3.1 ++ [32]))) /\ (QO 3 (True) (.ptr 0 0)) /\ ((True /\ True) /\ (SV.lts 0 [] = true /\ SV.lts 0 [a11, a10, (.nat (a3.2))] = true /\ (a3.2 <= 900000000000) /\ True) /\ True /\ (true = true -> True)) /\ (QO 3 (((a3.1 ++ [32]).length + (a14.1).length <= 2305843009213693952) /\ True) (.str (a3.1 ++ [32] ++ (a14.1)))) /\ (QO 3 (True) (.ptr 0 0)) /\ (QO 3 (True) (.own 1)) /\ (QO 3 ((1 < (Qa l i).length) /\ True) (.rp 1 1 1 0)) /\ (QO 3 ((1 < (Qa l i).length) /\ True) (.nat ((Qa l i).getD 1 0))) /\ ((True /\ True /\ True) /\ (SV.lts 0 [(.nat ((Qa l i).getD 1 0))] = true /\ SV.lts 0 [a11, a10, (.nat (a14.2))] = true /\ a12 /\ (WAt l m ((Qa l i).getD 1 0)) /\ (a14.2 + 20000000 * m <= 500000000000) /\ True) /\ True /\ (true = true -> True)) /\ (QO 3 (((a3.1 ++ [32] ++ (a14.1)).length + (a5.1).length <= 2305843009213693952) /\ True) a9) /\ (QO 3 (True) a9) /\ K (.val a9) (some (.blk 62 [a11, a10, (.nat (a5.2))]))) ((W35 m).C K 17 (mkS 138 [(0, (.ptr 0 0)), (5, (.own 1)), (6, (.ptr 2 0)), (9, (.str (a3.1)))] [(2, .blk 33 [(.int .i64 (a1.kind)), (.int .i64 (a1.op)), (.str (a1.key)), (.str (a1.val)), (.int .i64 (a1.a)), (.int .i64 (a1.b)), (.int .i64 (a1.flag)), (.int .i64 (a1.size))]), (1, .row (.ints (Qa l i)) true), (0, .blk 62 [a11, a10, (.nat (a3.2))])] 3))) (cond (decide (a1.kind = (21 : Int))) (a12 /\ (WAt l (m + 1) i) /\ (n + 20000000 * (m + 1) <= 500000000000) /\ K (.val (.str ((Qdh y m l i n).1))) (some (.blk 62 [a11, a10, (.nat ((Qdh y m l i n).2))]))) (cond (decide (a1.kind = (18 : Int))) ((inI a7) /\ (0 <= a7 /\ a7 < (3 : Nat)) /\ ((a7).toNat < 3) /\ (n <= 900000000000) /\ a15 /\ (1 + ((Qm y a0 n).1).length <= 2305843009213693952) /\ a8 /\ a13 /\ a6 /\ (W35 m).C K 25 a2) (cond (decide (a1.kind = (19 : Int))) ((inI a7) /\ (0 <= a7 /\ a7 < (3 : Nat)) /\ ((a7).toNat < 3) /\ (n <= 900000000000) /\ a15 /\ (1 + ((Qm y a0 n).1).length <= 2305843009213693952) /\ a8 /\ a13 /\ a6 /\ (W35 m).C K 25 a2) (cond (decide (a1.kind = (20 : Int))) ((inI a7) /\ (0 <= a7 /\ a7 < (3 : Nat)) /\ ((a7).toNat < 3) /\ (n <= 900000000000) /\ a15 /\ (1 + ((Qm y a0 n).1).length <= 2305843009213693952) /\ a8 /\ a13 /\ a6 /\ (W35 m).C K 25 a2) ((i < l.length) /\ (Way.Fld a4) /\ (Qo a4.kind = true /\ ¬ (a4.kind = 18 \/ a4.kind = 19 \/ a4.kind = 20)) /\ (a4.key.length + a4.val.length <= 20000) /\ (QE a4.val 0 = true) /\ (n <= 600000000000) /\ K (.val (.str ((Qu y a4 n).1))) (some (.blk 62 [a11, a10, (.nat ((Qu y a4 n).2))]))))))))) ?_
 refine Va (Va (Va (Va ?_)))
 refine Qc ?_ ?_ <;> intro h1 <;> try simp [-za, -zb] at h1
 exact Wk.L.rn [0, 1] (L7 _ 0 [] _ rfl ⟨h1, by omega, rfl, by simp, by omega⟩)
 refine Qc (fun h2 => ?_) (fun h2 => ?_)
 try simp [-za, -zb] at h2
 refine Va (Va (Va (Va (Va ?_))))
 refine Qc ?_ ?_ <;> intro h3 <;> try simp [-za, -zb] at h3
 refine ⟨Qi trivial, ?_⟩
 refine ⟨Qi ⟨(by first | omega | (unfold inI; omega) | exact n5 _ (by omega) | exact w2 _ (QZ (by omega)) | exact fun k hk => by (have := (n3 k hk).2.1; omega) | exact h03 | exact w4 | exact w10 | (refine ⟨w8 (by omega) (by omega) (by omega) (by omega), ?_⟩; show ¬ ((l.getD i default).kind = 18 \/ (l.getD i default).kind = 19 \/ (l.getD i default).kind = 20); omega) | exact Way.Qjk (by decide) | (simp; done) | (have kl := w6 (by omega); have p1 := w9 0 (by omega) n; have p2 := w13 (Qg y m l ((Qa l i).getD 0 0) n).2; have p3 := w14 (Qg y m l ((Qa l i).getD 0 0) n).2; have p4 := w9 1 (by omega) (Qh y (Qg y m l ((Qa l i).getD 0 0) n).2).2; first | omega | (simp only [zd, ze, zf, Qd]; omega)) | (first | omega | (simp only [zd, ze, zf, Qd]; omega)) | (have p1 := w9 j (by omega) q; first | omega | (simp only [zd, ze, zf, Qd]; omega)) | (have p1 := w9 j (by omega) (Qh y (Qh y q).2).2; first | omega | (simp only [zd, ze, zf, Qd]; omega))), trivial⟩, ?_⟩
 refine ⟨Qi trivial, ?_⟩
 refine ⟨⟨⟨trivial, trivial⟩, ⟨rfl, rfl, ⟨(by first | omega | (unfold inI; omega) | exact n5 _ (by omega) | exact w2 _ (QZ (by omega)) | exact fun k hk => by (have := (n3 k hk).2.1; omega) | exact h03 | exact w4 | exact w10 | (refine ⟨w8 (by omega) (by omega) (by omega) (by omega), ?_⟩; show ¬ ((l.getD i default).kind = 18 \/ (l.getD i default).kind = 19 \/ (l.getD i default).kind = 20); omega) | exact Way.Qjk (by decide) | (simp; done) | (have kl := w6 (by omega); have p1 := w9 0 (by omega) n; have p2 := w13 (Qg y m l ((Qa l i).getD 0 0) n).2; have p3 := w14 (Qg y m l ((Qa l i).getD 0 0) n).2; have p4 := w9 1 (by omega) (Qh y (Qg y m l ((Qa l i).getD 0 0) n).2).2; first | omega | (simp only [zd, ze, zf, Qd]; omega)) | (first | omega | (simp only [zd, ze, zf, Qd]; omega)) | (have p1 := w9 j (by omega) q; first | omega | (simp only [zd, ze, zf, Qd]; omega)) | (have p1 := w9 j (by omega) (Qh y (Qh y q).2).2; first | omega | (simp only [zd, ze, zf, Qd]; omega))), trivial⟩⟩, trivial, fun _ => trivial⟩, ?_⟩
 refine ⟨Qi ⟨(by first | omega | (unfold inI; omega) | exact n5 _ (by omega) | exact w2 _ (QZ (by omega)) | exact fun k hk => by (have := (n3 k hk).2.1; omega) | exact h03 | exact w4 | exact w10 | (refine ⟨w8 (by omega) (by omega) (by omega) (by omega), ?_⟩; show ¬ ((l.getD i default).kind = 18 \/ (l.getD i default).kind = 19 \/ (l.getD i default).kind = 20); omega) | exact Way.Qjk (by decide) | (simp; done) | (have kl := w6 (by omega); have p1 := w9 0 (by omega) n; have p2 := w13 (Qg y m l ((Qa l i).getD 0 0) n).2; have p3 := w14 (Qg y m l ((Qa l i).getD 0 0) n).2; have p4 := w9 1 (by omega) (Qh y (Qg y m l ((Qa l i).getD 0 0) n).2).2; first | omega | (simp only [zd, ze, zf, Qd]; omega)) | (first | omega | (simp only [zd, ze, zf, Qd]; omega)) | (have p1 := w9 j (by omega) q; first | omega | (simp only [zd, ze, zf, Qd]; omega)) | (have p1 := w9 j (by omega) (Qh y (Qh y q).2).2; first | omega | (simp only [zd, ze, zf, Qd]; omega))), trivial⟩, ?_⟩
 refine ⟨Qi trivial, ?_⟩
 refine ⟨Qi trivial, ?_⟩
 refine ⟨Qi ⟨(by first | omega | (unfold inI; omega) | exact n5 _ (by omega) | exact w2 _ (QZ (by omega)) | exact fun k hk => by (have := (n3 k hk).2.1; omega) | exact h03 | exact w4 | exact w10 | (refine ⟨w8 (by omega) (by omega) (by omega) (by omega), ?_⟩; show ¬ ((l.getD i default).kind = 18 \/ (l.getD i default).kind = 19 \/ (l.getD i default).kind = 20); omega) | exact Way.Qjk (by decide) | (simp; done) | (have kl := w6 (by omega); have p1 := w9 0 (by omega) n; have p2 := w13 (Qg y m l ((Qa l i).getD 0 0) n).2; have p3 := w14 (Qg y m l ((Qa l i).getD 0 0) n).2; have p4 := w9 1 (by omega) (Qh y (Qg y m l ((Qa l i).getD 0 0) n).2).2; first | omega | (simp only [zd, ze, zf, Qd]; omega)) | (first | omega | (simp only [zd, ze, zf, Qd]; omega)) | (have p1 := w9 j (by omega) q; first | omega | (simp only [zd, ze, zf, Qd]; omega)) | (have p1 := w9 j (by omega) (Qh y (Qh y q).2).2; first | omega | (simp only [zd, ze, zf, Qd]; omega))), trivial⟩, ?_⟩
 refine ⟨Qi ⟨(by first | omega | (unfold inI; omega) | exact n5 _ (by omega) | exact w2 _ (QZ (by omega)) | exact fun k hk => by (have := (n3 k hk).2.1; omega) | exact h03 | exact w4 | exact w10 | (refine ⟨w8 (by omega) (by omega) (by omega) (by omega), ?_⟩; show ¬ ((l.getD i default).kind = 18 \/ (l.getD i default).kind = 19 \/ (l.getD i default).kind = 20); omega) | exact Way.Qjk (by decide) | (simp; done) | (have kl := w6 (by omega); have p1 := w9 0 (by omega) n; have p2 := w13 (Qg y m l ((Qa l i).getD 0 0) n).2; have p3 := w14 (Qg y m l ((Qa l i).getD 0 0) n).2; have p4 := w9 1 (by omega) (Qh y (Qg y m l ((Qa l i).getD 0 0) n).2).2; first | omega | (simp only [zd, ze, zf, Qd]; omega)) | (first | omega | (simp only [zd, ze, zf, Qd]; omega)) | (have p1 := w9 j (by omega) q; first | omega | (simp only [zd, ze, zf, Qd]; omega)) | (have p1 := w9 j (by omega) (Qh y (Qh y q).2).2; first | omega | (simp only [zd, ze, zf, Qd]; omega))), trivial⟩, ?_⟩
 refine ⟨⟨⟨trivial, trivial, trivial⟩, ⟨rfl, rfl, ⟨(by first | omega | (unfold inI; omega) | exact n5 _ (by omega) | exact w2 _ (QZ (by omega)) | exact fun k hk => by (have := (n3 k hk).2.1; omega) | exact h03 | exact w4 | exact w10 | (refine ⟨w8 (by omega) (by omega) (by omega) (by omega), ?_⟩; show ¬ ((l.getD i default).kind = 18 \/ (l.getD i default).kind = 19 \/ (l.getD i default).kind = 20); omega) | exact Way.Qjk (by decide) | (simp; done) | (have kl := w6 (by omega); have p1 := w9 0 (by omega) n; have p2 := w13 (Qg y m l ((Qa l i).getD 0 0) n).2; have p3 := w14 (Qg y m l ((Qa l i).getD 0 0) n).2; have p4 := w9 1 (by omega) (Qh y (Qg y m l ((Qa l i).getD 0 0) n).2).2; first | omega | (simp only [zd, ze, zf, Qd]; omega)) | (first | omega | (simp only [zd, ze, zf, Qd]; omega)) | (have p1 := w9 j (by omega) q; first | omega | (simp only [zd, ze, zf, Qd]; omega)) | (have p1 := w9 j (by omega) (Qh y (Qh y q).2).2; first | omega | (simp only [zd, ze, zf, Qd]; omega))), (by first | omega | (unfold inI; omega) | exact n5 _ (by omega) | exact w2 _ (QZ (by omega)) | exact fun k hk => by (have := (n3 k hk).2.1; omega) | exact h03 | exact w4 | exact w10 | (refine ⟨w8 (by omega) (by omega) (by omega) (by omega), ?_⟩; show ¬ ((l.getD i default).kind = 18 \/ (l.getD i default).kind = 19 \/ (l.getD i default).kind = 20); omega) | exact Way.Qjk (by decide) | (simp; done) | (have kl := w6 (by omega); have p1 := w9 0 (by omega) n; have p2 := w13 (Qg y m l ((Qa l i).getD 0 0) n).2; have p3 := w14 (Qg y m l ((Qa l i).getD 0 0) n).2; have p4 := w9 1 (by omega) (Qh y (Qg y m l ((Qa l i).getD 0 0) n).2).2; first | omega | (simp only [zd, ze, zf, Qd]; omega)) | (first | omega | (simp only [zd, ze, zf, Qd]; omega)) | (have p1 := w9 j (by omega) q; first | omega | (simp only [zd, ze, zf, Qd]; omega)) | (have p1 := w9 j (by omega) (Qh y (Qh y q).2).2; first | omega | (simp only [zd, ze, zf, Qd]; omega))), (by first | omega | (unfold inI; omega) | exact n5 _ (by omega) | exact w2 _ (QZ (by omega)) | exact fun k hk => by (have := (n3 k hk).2.1; omega) | exact h03 | exact w4 | exact w10 | (refine ⟨w8 (by omega) (by omega) (by omega) (by omega), ?_⟩; show ¬ ((l.getD i default).kind = 18 \/ (l.getD i default).kind = 19 \/ (l.getD i default).kind = 20); omega) | exact Way.Qjk (by decide) | (simp; done) | (have kl := w6 (by omega); have p1 := w9 0 (by omega) n; have p2 := w13 (Qg y m l ((Qa l i).getD 0 0) n).2; have p3 := w14 (Qg y m l ((Qa l i).getD 0 0) n).2; have p4 := w9 1 (by omega) (Qh y (Qg y m l ((Qa l i).getD 0 0) n).2).2; first | omega | (simp only [zd, ze, zf, Qd]; omega)) | (first | omega | (simp only [zd, ze, zf, Qd]; omega)) | (have p1 := w9 j (by omega) q; first | omega | (simp only [zd, ze, zf, Qd]; omega)) | (have p1 := w9 j (by omega) (Qh y (Qh y q).2).2; first | omega | (simp only [zd, ze, zf, Qd]; omega))), trivial⟩⟩, trivial, fun _ => trivial⟩, ?_⟩
 refine ⟨Qi ⟨(by first | omega | (unfold inI; omega) | exact n5 _ (by omega) | exact w2 _ (QZ (by omega)) | exact fun k hk => by (have := (n3 k hk).2.1; omega) | exact h03 | exact w4 | exact w10 | (refine ⟨w8 (by omega) (by omega) (by omega) (by omega), ?_⟩; show ¬ ((l.getD i default).kind = 18 \/ (l.getD i default).kind = 19 \/ (l.getD i default).kind = 20); omega) | exact Way.Qjk (by decide) | (simp; done) | (have kl := w6 (by omega); have p1 := w9 0 (by omega) n; have p2 := w13 (Qg y m l ((Qa l i).getD 0 0) n).2; have p3 := w14 (Qg y m l ((Qa l i).getD 0 0) n).2; have p4 := w9 1 (by omega) (Qh y (Qg y m l ((Qa l i).getD 0 0) n).2).2; first | omega | (simp only [zd, ze, zf, Qd]; omega)) | (first | omega | (simp only [zd, ze, zf, Qd]; omega)) | (have p1 := w9 j (by omega) q; first | omega | (simp only [zd, ze, zf, Qd]; omega)) | (have p1 := w9 j (by omega) (Qh y (Qh y q).2).2; first | omega | (simp only [zd, ze, zf, Qd]; omega))), trivial⟩, ?_⟩
 refine ⟨Qi trivial, ?_⟩
 exact Zt hk (QsL (by omega) (by omega))
 exact Wk.C.rn [0, 1, 2] (L17 _ _ _ rfl ⟨by omega, by omega, QsK (by omega) (by omega), by (have kl := w6 (by omega); have p1 := w9 0 (by omega) n; omega), by (have kl := w6 (by omega); have p1 := w9 0 (by omega) n; omega)⟩)
 try simp [-za, -zb] at h2
 refine Qc ?_ ?_ <;> intro h3 <;> try simp [-za, -zb] at h3
 refine Va (Va (Va ?_))
 exact Zt hk (Qpj (by omega))
 refine Qc (fun h4 => ?_) (fun h4 => ?_)
 try simp [-za, -zb] at h4
 refine Va (Va (Va (Va (Va (Va (Va (Va (Va ?_))))))))
 exact Wk.C.rn [0, 1] (L25 _ _ _ rfl ⟨by omega, Qdg (by omega), by simp only [zd, ze, zf, Qd]; omega, by omega⟩)
 try simp [-za, -zb] at h4
 refine Qc ?_ ?_ <;> intro h5 <;> try simp [-za, -zb] at h5
 refine Va (Va (Va (Va (Va (Va (Va (Va (Va ?_))))))))
 exact Wk.C.rn [0, 1] (L25 _ _ _ rfl ⟨by omega, Qdg (by omega), by simp only [zd, ze, zf, Qd]; omega, by omega⟩)
 refine Qc (fun h6 => ?_) (fun h6 => ?_)
 try simp [-za, -zb] at h6
 refine Va (Va (Va (Va (Va (Va (Va (Va (Va ?_))))))))
 exact Wk.C.rn [0, 1] (L25 _ _ _ rfl ⟨by omega, Qdg (by omega), by simp only [zd, ze, zf, Qd]; omega, by omega⟩)
 try simp [-za, -zb] at h6
 refine Va (Va (Va (Va (Va (Va ?_)))))
 exact Zt hk (Qpg (by omega) (by omega) (by omega) (by omega))
 cases e
theorem QqG : ∀ m, Sat 35 (fnS (c35 m))
 | 0 => by
  intro g0 w M ω svs args b K hS hn hr hP
  exfalso
  obtain ⟨ps, o, b', e, hp, hk⟩ := YG hP
  unfold c35 at e
  split at e
  cases e
  obtain ⟨⟨x, ks⟩, rest, _, h2, _⟩ := hp.2.1
  rw [ST.ht] at h2
  omega
  cases e
 | m + 1 => QrB m (QqG m)
def c19 (svs : List SV) (b : Option SB) : QR := match svs, b with
 | [.sl (.sels l), .sl (.bytes y)], none => some ([l.length <= 60 /\ pwL l <= 200000, l.length ≠ 0 -> WAt l 2000 0], .str (VK y l))
 | _, _ => none
noncomputable def W19 : Wk := ⟨[(34, .fn c34), (35, .fn (c35 2000))], Qp Tryz.f19, false, false, [.tmp 4], [9], [], []⟩
theorem has19 : Has 19 := hsf Tryz.f19
theorem QiP {p q : Prop} (k : q) (h : p := by first | omega | (constructor <;> omega) | exact h03 (fun q => h1 (zK.1 q)) | exact h03 (by omega) | (have q := p3 (fun q => h1 (zK.1 q)); first | omega | (simp only [zd, ze, zf]; omega)) | (simp only [zd, ze, zf]; omega)) : p /\ q := ⟨h, k⟩
theorem sat19 : Sat 19 (Qv c19) := by
 have hD : Qe W19.D := (Qe.cons Qkm QjI (Qe.cons QnL (QqG 2000) Qe.nil))
 refine W19.sa hD Tryz.f19 fun svs b K hP => ?_
 obtain ⟨ps, v, e, hp, hk⟩ := Qk hP
 unfold c19 at e
 split at e
 rename_i l y
 cases e
 obtain ⟨⟨h01, h02⟩, h03, _⟩ := hp
 have p1 := VF y 0
 have p2 := Vs y 0
 have p3 : l.length ≠ 0 -> (Qg y 2000 l 0 (Qh y 0).2).1.length <= 200000 /\ (Qg y 2000 l 0 (Qh y 0).2).2 <= 200001 := fun h => by have := (h03 h).pen y (Qh y 0).2; omega
 have p4 := VF y (Qg y 2000 l 0 (Qh y 0).2).2
 have p5 := Vs y (Qg y 2000 l 0 (Qh y 0).2).2
 refine W19.en (have a0 := Qg y 2000 l 0 ((Qh y 0).2); cond (decide (l.length = 0)) (K (.val (.str [])) none) ((0 <= 900000000000) /\ (l.length <= 60 /\ pwL l <= 200000) /\ (WAt l 2000 0) /\ ((Qh y 0).2 + 20000000 * 2000 <= 500000000000) /\ (((Qh y 0).1).length + (a0.1).length <= 2305843009213693952) /\ (a0.2 <= 900000000000) /\ (((Qh y 0).1 ++ (a0.1)).length + ((Qh y (a0.2)).1).length <= 2305843009213693952) /\ K (.val (.str ((Qh y 0).1 ++ (a0.1) ++ ((Qh y (a0.2)).1)))) none)) ?_
 refine Qc ?_ ?_ <;> intro h1 <;> try simp [-za, -zb] at h1
 refine Vf hk ?_
 unfold VK
 rw [if_pos (zK.2 h1)]
 refine QiP (QiP (QiP (QiP (QiP (QiP (QiP ?_))))))
 refine Vf hk ?_
 unfold VK
 rw [if_neg (fun q => h1 (zK.1 q))]
 cases e
end
section
open Go Go.RowKit
set_option maxRecDepth 20000
theorem QmP : ∀ {l : List SelD}, mbL l <= 500 -> pwL l <= 2000 * l.length + 20 * mbL l
 | [], _ => by simp [pwL]
 | x :: l, h => by
  rw [mbL] at h ⊢
  have ih := QmP (l := l) (by omega)
  rw [pwL, ze]
  unfold pwN
  omega
theorem QfQ {l : List SelD} (h : Uz l = true) (y : Bs) : ∃ T, Look l T /\ (l.length <= 60 /\ pwL l <= 200000) /\ QoE (VK y l) l := by
 obtain ⟨T, q⟩ := Qei h
 have hm : mbL l <= 500 := by
  unfold Uz at h
  split at h
  cases h
  simp only [zh, decide_eq_true_eq] at h
  exact h.2.1
 have hw := QmP hm
 have hn := q.n
 have hl : (VK y l).length <= 1000000 := by
  unfold VK
  rw [if_neg (by omega)]
  have p1 := Vs y 0
  have p2 := q.wat.pen y (Qh y 0).2
  have p3 := Vs y (Qg y 2000 l 0 (Qh y 0).2).2
  simp only [zd]
  omega
 refine ⟨T, q, by omega, q.same hl (Way.Qrk q.e ?_ q.r q.s q.k)⟩
 have := Qbj T
 have := congrArg List.length q.e
 omega
def c5 (svs : List SV) (b : Option SB) : QR := match svs, b with
 | [.sl (.sels l), .sl (.bytes y)], none => some ([l.length <= 9223372036854775807, y.length <= 9223372036854775807], .bool true)
 | _, _ => none
end
end Go.Proofs.YtengepcafdnalaaGreatDoor
