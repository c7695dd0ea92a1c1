/-
  Parts of the proof that the law FnParseOtherwise holds for every input (texts Oe). Conditions: none.
-/
import Derived.Test.YtengepcafdnalaaGreatDoorM46
namespace Go.Proofs.YtengepcafdnalaaGreatDoor
section
open Go Go.RowKit
set_option maxRecDepth 20000
def c35 (m : Nat) (svs : List SV) (b : Option SB) : FR := match svs, b with
 | [.ptr 0 0, .nat i], some (.blk 62 [.sl (.sels l), .sl (.bytes y), .nat n]) => some ([l.length <= 60 /\ pwL l <= 200000, WAt l m i, n + 20000000 * m <= 500000000000], .val (.str (Qg y m l i n).1), some (.blk 62 [.sl (.sels l), .sl (.bytes y), .nat (Qg y m l i n).2]))
 | _, _ => none
theorem Qnj : Has 35 := hsf Tryz.f35
def c59 (m : Nat) (svs : List SV) (b : Option SB) : FR := match svs, b with
 | [.ptr 0 0, .nat i], some (.blk 62 [.sl (.sels l), .sl (.bytes y), .nat n]) => some ([l.length <= 60 /\ pwL l <= 200000, WAt l (m + 1) i, n + 20000000 * (m + 1) <= 500000000000], .val (.str (Qc6 y m l i n).1), some (.blk 62 [.sl (.sels l), .sl (.bytes y), .nat (Qc6 y m l i n).2]))
 | _, _ => none
noncomputable def W59 (m : Nat) : Wk := ⟨[(17, .fn c17), (35, .fn (c35 m)), (60, .fn c60)], Qm Tryz.f59, true, false, [.tmp 4], [9], [(4, 483)], []⟩
theorem has59 : Has 59 := hsf Tryz.f59
theorem Y2 {p q : Prop} (k : q) (h : p := by first | omega | (unfold inI; omega) | exact n5 _ (by omega) | exact w2 _ (Q6 (by omega)) | exact fun k hk => by (have := (n3 k hk).2.1; omega) | exact h03 | exact w4 | exact w10 | (refine ⟨w8 (by omega) (by omega) (by omega) (by omega), ?_⟩; show ¬ ((l.getD i default).kind = 18 \/ (l.getD i default).kind = 19 \/ (l.getD i default).kind = 20); omega) | exact Way.QiQ (by decide) | (simp; done) | (have p1 := w9 j (by omega) q; first | omega | (simp only [List.length_append, List.length_cons, List.length_nil, Qb]; omega)) | (have p1 := w12 q; first | omega | (simp only [List.length_append, List.length_cons, List.length_nil, Qb]; omega))) : p /\ q := ⟨h, k⟩
theorem sat59 (m : Nat) (hG : Sat 35 (fnS (c35 m))) : Sat 59 (fnS (c59 m)) := by
 have hD : Qe (W59 m).D := (Qe.cons Qj3 Qjk (Qe.cons Qnj hG (Qe.cons Qj1 Qji Qe.nil)))
 refine (W59 m).sa hD Tryz.f59 fun svs b K hP => ?_
 obtain ⟨ps, o, b', e, hp, hk⟩ := Yp hP
 unfold c59 at e
 split at e
 rename_i i l y n
 cases e
 obtain ⟨⟨h01, h02⟩, h03, h04, _⟩ := hp
 obtain ⟨wn, w2, w3, w4, w5, w6, w7, w8⟩ := h03.kids
 obtain ⟨n1, n2, n3, n4⟩ := wn.kids
 have kk : knd l i = (l.getD i default).kind := rfl
 have n5 : ∀ j, j < (Qc l i).length -> (Qc l i).getD j 0 < l.length := fun j hj => (n3 _ (Q6 hj)).1
 have w9 : ∀ j, j < (Qc l i).length -> ∀ q, (Qg y m l ((Qc l i).getD j 0) q).1.length <= 200000 /\ q <= (Qg y m l ((Qc l i).getD j 0) q).2 /\ (Qg y m l ((Qc l i).getD j 0) q).2 <= q + 200000 := fun j hj q => by have := (w2 _ (Q6 hj)).pen y q; omega
 obtain ⟨w10, w11⟩ := h03.read
 have w12 := VS y (l.getD i default).val
 have w13 := VG y
 have w14 := Vx y
 have L4 : ∀ (mm : Nat) (j : Nat) (f r : List UInt8) (q : Nat), (Qc l i).length - j = mm -> (j <= (Qc l i).length /\ ((f, r), q) = pcJ y m l i n j /\ f.length + r.length <= 200010 * j /\ q <= n + 200010 * j) -> (W59 m).L K 4 (mkS 81 [(0, (.ptr 0 0)), (1, (.nat i)), (5, (.own 1)), (6, (.str f)), (7, (.str r)), (8, (.nat j))] [(0, .blk 62 [(.sl (.sels l)), (.sl (.bytes y)), (.nat q)]), (1, .row (.ints (Qc l i)) true)] 2) := by
  intro mm
  induction mm using Nat.strongRecOn with
  | _ mm ih =>
   intro j f r q hm hI
   obtain ⟨k1, k2, k3, k4⟩ := hI
   refine (W59 m).aL hD (have a0 := Ql y ((l.getD i default).val) q; have a1 := (Qc l i).getD j 0; have a2 : SV := .sl (.bytes y); have a3 := j + 1 <= 9223372036854775807; have a4 : SV := .sl (.sels l); have a5 := r ++ ([58, 58] ++ (a0.1)); have a6 := Qg y m l a1 q; have a7 : RV := .ints (Qc l i); have a8 := f.length + a5.length <= 2305843009213693952; cond (decide (j < (Qc l i).length)) ((j < (Qc l i).length) /\ (j < (Qc l i).length) /\ ((Qc l i).getD j 0 < l.length) /\ cond (decide ((l.getD a1 default).kind = (2 : Int))) ((j < (Qc l i).length) /\ (j < (Qc l i).length) /\ (l.length <= 60 /\ pwL l <= 200000) /\ (WAt l m a1) /\ (q + 20000000 * m <= 500000000000) /\ a3 /\ (W59 m).L K 4 (mkS 81 [(0, (.ptr 0 0)), (1, (.nat i)), (5, (.own 1)), (6, (.str (a6.1))), (7, (.str r)), (8, (.nat (j + 1)))] [(0, .blk 62 [a4, a2, (.nat (a6.2))]), (1, .row a7 true)] 2)) (cond (decide ((l.getD a1 default).kind = (1 : Int))) (cond (decide (f = [])) (a3 /\ (W59 m).L K 4 (mkS 81 [(0, (.ptr 0 0)), (1, (.nat i)), (5, (.own 1)), (6, (.str [42])), (7, (.str r)), (8, (.nat (j + 1)))] [(0, .blk 62 [a4, a2, (.nat q)]), (1, .row a7 true)] 2)) (a3 /\ (W59 m).L K 4 (mkS 81 [(0, (.ptr 0 0)), (1, (.nat i)), (5, (.own 1)), (6, (.str f)), (7, (.str r)), (8, (.nat (j + 1)))] [(0, .blk 62 [a4, a2, (.nat q)]), (1, .row a7 true)] 2))) ((j < (Qc l i).length) /\ (j < (Qc l i).length) /\ (l.length <= 60 /\ pwL l <= 200000) /\ (WAt l m a1) /\ (q + 20000000 * m <= 500000000000) /\ (r.length + (a6.1).length <= 2305843009213693952) /\ a3 /\ (W59 m).L K 4 (mkS 81 [(0, (.ptr 0 0)), (1, (.nat i)), (5, (.own 1)), (6, (.str f)), (7, (.str (r ++ (a6.1)))), (8, (.nat (j + 1)))] [(0, .blk 62 [a4, a2, (.nat (a6.2))]), (1, .row a7 true)] 2)))) ((i < l.length) /\ cond (!(decide ((l.getD i default).val = []))) ((i < l.length) /\ (q <= 900000000000) /\ (((l.getD i default).val).length <= 1000000000) /\ (2 + (a0.1).length <= 2305843009213693952) /\ (r.length + ([58, 58] ++ (a0.1)).length <= 2305843009213693952) /\ a8 /\ cond (decide (f ++ a5 = [])) (K (.val (.str [42])) (some (.blk 62 [a4, a2, (.nat (a0.2))]))) (a8 /\ K (.val (.str (f ++ a5))) (some (.blk 62 [a4, a2, (.nat (a0.2))])))) ((f.length + r.length <= 2305843009213693952) /\ cond (decide (f ++ r = [])) (K (.val (.str [42])) (some (.blk 62 [a4, a2, (.nat q)]))) ((f.length + r.length <= 2305843009213693952) /\ K (.val (.str (f ++ r))) (some (.blk 62 [a4, a2, (.nat q)])))))) ?_
   refine Qd ?_ ?_ <;> intro h1 <;> simp -failIfUnchanged [-List.getD_eq_getElem?_getD, -UInt8.toNat_or] at h1
   refine Y2 (Y2 (Y2 ?_))
   refine Qd ?_ ?_ <;> intro h2 <;> simp -failIfUnchanged [-List.getD_eq_getElem?_getD, -UInt8.toNat_or] at h2
   refine Y2 (Y2 (Y2 (Y2 (Y2 (Y2 ?_)))))
   exact ih _ (by omega) (j + 1) _ _ _ rfl ⟨by omega, by rw [Qjw h1, <- k2]; exact (QmC (k := (Qc l i).getD j 0) h2).symm, by (have p1 := w9 j (by omega) q; first | omega | (simp only [List.length_append, List.length_cons, List.length_nil, Qb]; omega)), by (have p1 := w9 j (by omega) q; first | omega | (simp only; omega))⟩
   refine Qd (fun h3 => ?_) (fun h3 => ?_)
   simp -failIfUnchanged [-List.getD_eq_getElem?_getD, -UInt8.toNat_or] at h3
   refine Qd ?_ ?_ <;> intro h4 <;> simp -failIfUnchanged [-List.getD_eq_getElem?_getD, -UInt8.toNat_or] at h4
   refine Y2 ?_
   exact ih _ (by omega) (j + 1) _ _ _ rfl ⟨by omega, by rw [Qjw h1, <- k2]; exact (QkY (k := (Qc l i).getD j 0) h2 h3 h4).symm, by (have p1 := w9 j (by omega) q; first | omega | (simp only [List.length_append, List.length_cons, List.length_nil, Qb]; omega)), by (have p1 := w9 j (by omega) q; first | omega | (simp only; omega))⟩
   refine Y2 ?_
   exact ih _ (by omega) (j + 1) _ _ _ rfl ⟨by omega, by rw [Qjw h1, <- k2]; exact (QmD (k := (Qc l i).getD j 0) h2 h3 h4).symm, by (have p1 := w9 j (by omega) q; first | omega | (simp only [List.length_append, List.length_cons, List.length_nil, Qb]; omega)), by (have p1 := w9 j (by omega) q; first | omega | (simp only; omega))⟩
   simp -failIfUnchanged [-List.getD_eq_getElem?_getD, -UInt8.toNat_or] at h3
   refine Y2 (Y2 (Y2 (Y2 (Y2 (Y2 (Y2 ?_))))))
   exact ih _ (by omega) (j + 1) _ _ _ rfl ⟨by omega, by rw [Qjw h1, <- k2]; exact (QmE (k := (Qc l i).getD j 0) h2 h3).symm, by (have p1 := w9 j (by omega) q; first | omega | (simp only [List.length_append, List.length_cons, List.length_nil, Qb]; omega)), by (have p1 := w9 j (by omega) q; first | omega | (simp only; omega))⟩
   refine Y2 ?_
   refine Qd ?_ ?_ <;> intro h2 <;> simp -failIfUnchanged [-List.getD_eq_getElem?_getD, -UInt8.toNat_or] at h2
   refine Y2 (Y2 (Y2 (Y2 (Y2 (Y2 ?_)))))
   refine Qd (fun h3 => ?_) (fun h3 => ?_)
   simp -failIfUnchanged [-List.getD_eq_getElem?_getD, -UInt8.toNat_or] at h3
   simp -failIfUnchanged [-List.getD_eq_getElem?_getD, -UInt8.toNat_or] at h3
   refine Y2 ?_
   have e : Qc6 y m l i n = Y1 y (l.getD i default).val ((f, r), q) := by unfold Qc6; rw [<- Qfv (show j = _ by omega), <- k2]
   refine Zy hk ?_
   rw [e]
   simp [Y1, Qaw, h2, h3, -List.getD_eq_getElem?_getD]
   refine Y2 ?_
   refine Qd ?_ ?_ <;> intro h3 <;> simp -failIfUnchanged [-List.getD_eq_getElem?_getD, -UInt8.toNat_or] at h3
   have e : Qc6 y m l i n = Y1 y (l.getD i default).val ((f, r), q) := by unfold Qc6; rw [<- Qfv (show j = _ by omega), <- k2]
   refine Zy hk ?_
   rw [e]
   simp [Y1, Qaw, h2, h3, -List.getD_eq_getElem?_getD]
   refine Y2 ?_
   have e : Qc6 y m l i n = Y1 y (l.getD i default).val ((f, r), q) := by unfold Qc6; rw [<- Qfv (show j = _ by omega), <- k2]
   refine Zy hk ?_
   rw [e]
   simp [Y1, Qaw, h2, h3, -List.getD_eq_getElem?_getD]
   exact fun a b => absurd b (h3 a)
 refine (W59 m).en ((i < l.length /\ l.length <= 1000000000000) /\ (0 <= (l.getD i default).size /\ ((i : Nat) : Int) + (l.getD i default).size <= l.length) /\ (∀ k, k ∈ Qc l i -> (l.getD k default).size <= 1000000000000) /\ (W59 m).L K 4 (mkS 81 [(0, (.ptr 0 0)), (1, (.nat i)), (5, (.own 1)), (6, (.str [])), (7, (.str [])), (8, (.nat 0))] [(1, .row (.ints (Qc l i)) true), (0, .blk 62 [(.sl (.sels l)), (.sl (.bytes y)), (.nat n)])] 2)) ?_
 refine Y2 (Y2 (Y2 ?_))
 exact Wk.L.rn [0, 1] (L4 _ 0 [] [] _ rfl ⟨by omega, rfl, by simp, by omega⟩)
 cases e
def c35s (m : Nat) (svs : List SV) (b : Option SB) : FR := match svs, b with
 | [.ptr 0 0, .nat i], some (.blk 62 [.sl (.sels l), .sl (.bytes y), .nat n]) => some ([l.length <= 60 /\ pwL l <= 200000, WAt l (m + 1) i, n + 20000000 * (m + 1) <= 500000000000], .val (.str (Qg y (m + 1) l i n).1), some (.blk 62 [.sl (.sels l), .sl (.bytes y), .nat (Qg y (m + 1) l i n).2]))
 | _, _ => none
def relF (y : Bs) (m : Nat) (l : List SelD) (i : Nat) (o : Bs) (q : Nat) : Bs × Nat :=
 let r := Qg y m l ((Qc l i).getD 0 0) q
 (((o ++ r.1) ++ (Qh y r.2).1) ++ [41], (Qh y r.2).2)
theorem Qc5 {y : Bs} {m : Nat} {l : List SelD} {i n : Nat} (h : knd l i = 18 \/ knd l i = 19 \/ knd l i = 20) : Qg y (m + 1) l i n =
 relF y m l i ((([58] ++ (Ql y (Vc.getD ((l.getD i default).kind - 18).toNat []) n).1) ++ [40]) ++ (Qh y (Ql y (Vc.getD ((l.getD i default).kind - 18).toNat []) n).2).1) (Qh y (Ql y (Vc.getD ((l.getD i default).kind - 18).toNat []) n).2).2 := by
 rw [QoG h]; rfl
noncomputable def W35 (m : Nat) : Wk := ⟨[(17, .fn c17), (34, .fn c34), (35, .fn (c35 m)), (59, .fn (c59 m)), (60, .fn c60), (61, .fn c61)], Qm Tryz.f35, true, false, [.tmp 4], [9], [(7, 417), (17, 609), (25, 1057)], [17, 25]⟩
theorem Q8 {p q : Prop} (k : q) (h : p := by first | omega | (unfold inI; omega) | exact n5 _ (by omega) | exact w2 _ (Q6 (by omega)) | exact fun k hk => by (have := (n3 k hk).2.1; omega) | exact h03 | exact w4 | exact w10 | (refine ⟨w8 (by omega) (by omega) (by omega) (by omega), ?_⟩; show ¬ ((l.getD i default).kind = 18 \/ (l.getD i default).kind = 19 \/ (l.getD i default).kind = 20); omega) | exact Way.QiQ (by decide) | (simp; done) | (have kl := w6 (by omega); have p1 := w9 0 (by omega) n; have p2 := w13 (Qg y m l ((Qc l i).getD 0 0) n).2; have p3 := w14 (Qg y m l ((Qc l i).getD 0 0) n).2; have p4 := w9 1 (by omega) (Qh y (Qg y m l ((Qc l i).getD 0 0) n).2).2; first | omega | (simp only [List.length_append, List.length_cons, List.length_nil, Qb]; omega)) | (first | omega | (simp only [List.length_append, List.length_cons, List.length_nil, Qb]; omega)) | (have p1 := w9 j (by omega) q; first | omega | (simp only [List.length_append, List.length_cons, List.length_nil, Qb]; omega)) | (have p1 := w9 j (by omega) (Qh y (Qh y q).2).2; first | omega | (simp only [List.length_append, List.length_cons, List.length_nil, Qb]; omega))) : p /\ q := ⟨h, k⟩
theorem QqS (m : Nat) (hG : Sat 35 (fnS (c35 m))) : Sat 35 (fnS (c35s m)) := by
 have hD : Qe (W35 m).D := (Qe.cons Qj3 Qjk (Qe.cons Qj2 Qjj (Qe.cons Qnj hG (Qe.cons has59 (sat59 m hG) (Qe.cons Qj1 Qji (Qe.cons has61 sat61 Qe.nil))))))
 refine (W35 m).sa hD Tryz.f35 fun svs b K hP => ?_
 obtain ⟨ps, o, b', e, hp, hk⟩ := Yp hP
 unfold c35s at e
 split at e
 rename_i i l y n
 cases e
 obtain ⟨⟨h01, h02⟩, h03, h04, _⟩ := hp
 obtain ⟨wn, w2, w3, w4, w5, w6, w7, w8⟩ := h03.kids
 obtain ⟨n1, n2, n3, n4⟩ := wn.kids
 have kk : knd l i = (l.getD i default).kind := rfl
 have n5 : ∀ j, j < (Qc l i).length -> (Qc l i).getD j 0 < l.length := fun j hj => (n3 _ (Q6 hj)).1
 have w9 : ∀ j, j < (Qc l i).length -> ∀ q, (Qg y m l ((Qc l i).getD j 0) q).1.length <= 200000 /\ q <= (Qg y m l ((Qc l i).getD j 0) q).2 /\ (Qg y m l ((Qc l i).getD j 0) q).2 <= q + 200000 := fun j hj q => by have := (w2 _ (Q6 hj)).pen y q; omega
 obtain ⟨w10, w11⟩ := h03.read
 have w12 := VS y (l.getD i default).val
 have w13 := VG y
 have w14 := Vx y
 have f5 : knd l i = 22 -> 1 <= (l.getD i default).op /\ (l.getD i default).op <= 4 /\ (l.getD i default).flag = 0 := w4.comb
 have s1 := QY (l := QhD) (n := 1) (by decide) ((l.getD i default).op - 2).toNat
 unfold QhD at s1
 have s2 := QY (l := Vc) (n := 8) (by decide) ((l.getD i default).kind - 18).toNat
 have w15 := w13 n
 have w16 := VS y (Vc.getD ((l.getD i default).kind - 18).toNat []) n
 have w17 := w13 (Ql y (Vc.getD ((l.getD i default).kind - 18).toNat []) n).2
 have w18 := w14 (Ql y (Vc.getD ((l.getD i default).kind - 18).toNat []) n).2
 have s3 := s2
 have w26 := w16
 have w27 := w17
 have w28 := w18
 unfold Vc UQ UR Vv at s3 w26 w27 w28
 have L7 : ∀ (mm : Nat) (j : Nat) (o : List UInt8) (q : Nat), (Qc l i).length - j = mm -> (knd l i = 23 /\ j <= (Qc l i).length /\ (decide (0 < j), o, q) = pgJ y m l i n j /\ o.length <= 200010 * j /\ q <= n + 200010 * j) -> (W35 m).L K 7 (mkS 138 [(0, (.ptr 0 0)), (5, (.own 1)), (7, (.str o)), (8, (.nat j))] [(0, .blk 62 [(.sl (.sels l)), (.sl (.bytes y)), (.nat q)]), (1, .row (.ints (Qc l i)) true)] 2) := by
  intro mm
  induction mm using Nat.strongRecOn with
  | _ mm ih =>
   intro j o q hm hI
   obtain ⟨k0, k1, k2, k3, k4⟩ := hI
   have q1 := w13 q
   have q2 := w14 q
   have q3 := w13 (Qh y q).2
   have q4 := w14 (Qh y q).2
   refine (W35 m).aL hD (have a0 := Qh y ((Qh y q).2); have a1 := (Qc l i).getD j 0; have a2 := (Qh y q).1 ++ [44] ++ (a0.1); have a3 := Qg y m l a1 (a0.2); cond (decide (j < (Qc l i).length)) (cond (decide (0 < j)) ((q <= 900000000000) /\ (((Qh y q).1).length + 1 <= 2305843009213693952) /\ ((Qh y q).2 <= 900000000000) /\ (((Qh y q).1 ++ [44]).length + (a0.1).length <= 2305843009213693952) /\ (o.length + a2.length <= 2305843009213693952) /\ (j < (Qc l i).length) /\ (j < (Qc l i).length) /\ (l.length <= 60 /\ pwL l <= 200000) /\ (WAt l m a1) /\ (a0.2 + 20000000 * m <= 500000000000) /\ ((o ++ a2).length + (a3.1).length <= 2305843009213693952) /\ (j + 1 <= 9223372036854775807) /\ (W35 m).L K 7 (mkS 138 [(0, (.ptr 0 0)), (5, (.own 1)), (7, (.str (o ++ a2 ++ (a3.1)))), (8, (.nat (j + 1)))] [(0, .blk 62 [(.sl (.sels l)), (.sl (.bytes y)), (.nat (a3.2))]), (1, .row (.ints (Qc l i)) true)] 2)) ((j < (Qc l i).length) /\ (j < (Qc l i).length) /\ (l.length <= 60 /\ pwL l <= 200000) /\ (WAt l m a1) /\ (q + 20000000 * m <= 500000000000) /\ (o.length + ((Qg y m l a1 q).1).length <= 2305843009213693952) /\ (j + 1 <= 9223372036854775807) /\ (W35 m).L K 7 (mkS 138 [(0, (.ptr 0 0)), (5, (.own 1)), (7, (.str (o ++ ((Qg y m l a1 q).1)))), (8, (.nat (j + 1)))] [(0, .blk 62 [(.sl (.sels l)), (.sl (.bytes y)), (.nat ((Qg y m l a1 q).2))]), (1, .row (.ints (Qc l i)) true)] 2))) (K (.val (.str o)) (some (.blk 62 [(.sl (.sels l)), (.sl (.bytes y)), (.nat q)])))) ?_
   refine Qd ?_ ?_ <;> intro h1 <;> simp -failIfUnchanged [-List.getD_eq_getElem?_getD, -UInt8.toNat_or] at h1
   refine Qd (fun h2 => ?_) (fun h2 => ?_)
   simp -failIfUnchanged [-List.getD_eq_getElem?_getD, -UInt8.toNat_or] at h2
   refine Q8 (Q8 (Q8 (Q8 (Q8 (Q8 (Q8 (Q8 (Q8 (Q8 (Q8 (Q8 ?_)))))))))))
   exact ih _ (by omega) (j + 1) _ _ rfl ⟨k0, by omega, by rw [Qp4 h1, <- k2]; exact (Qmx (k := (Qc l i).getD j 0) h2).symm, by (have p1 := w9 j (by omega) (Qh y (Qh y q).2).2; first | omega | (simp only [List.length_append, List.length_cons, List.length_nil, Qb]; omega)), by (have p1 := w9 j (by omega) (Qh y (Qh y q).2).2; first | omega | (simp only; omega))⟩
   simp -failIfUnchanged [-List.getD_eq_getElem?_getD, -UInt8.toNat_or] at h2
   refine Q8 (Q8 (Q8 (Q8 (Q8 (Q8 (Q8 ?_))))))
   exact ih _ (by omega) (j + 1) _ _ rfl ⟨k0, by omega, by rw [Qp4 h1, <- k2]; exact (Qmy (k := (Qc l i).getD j 0) (by omega)).symm, by (have p1 := w9 j (by omega) q; first | omega | (simp only [List.length_append, List.length_cons, List.length_nil, Qb]; omega)), by (have p1 := w9 j (by omega) q; first | omega | (simp only; omega))⟩
   refine Zy hk ?_
   rw [QoH k0, <- QoE (show j = _ by omega), <- k2]
 have L17 : ∀ (mm : Nat) (o : List UInt8) (q : Nat), 0 = mm -> (knd l i = 22 /\ ¬ (l.getD i default).op = 1 /\ Qg y (m + 1) l i n = Qqw y m l i (l.getD i default).op o q /\ o.length <= 200000 /\ q <= n + 200000) -> (W35 m).C K 17 (mkS 138 [(0, (.ptr 0 0)), (5, (.own 1)), (6, (.ptr 2 0)), (9, (.str o))] [(0, .blk 62 [(.sl (.sels l)), (.sl (.bytes y)), (.nat q)]), (1, .row (.ints (Qc l i)) true), (2, .blk 33 [(.int .i64 ((l.getD i default).kind)), (.int .i64 ((l.getD i default).op)), (.str ((l.getD i default).key)), (.str ((l.getD i default).val)), (.int .i64 ((l.getD i default).a)), (.int .i64 ((l.getD i default).b)), (.int .i64 ((l.getD i default).flag)), (.int .i64 ((l.getD i default).size))])] 3) := by
  intro mm
  induction mm using Nat.strongRecOn with
  | _ mm ih =>
   intro o q hm hI
   obtain ⟨k0, k1, k2, k3, k4⟩ := hI
   have kl := w6 k0
   have kf := f5 k0
   have q1 := w13 q
   have q2 := w14 q
   have q3 := w13 (Qh y q).2
   have q4 := w14 (Qh y q).2
   have q5 := w9 1 (by omega) (Qh y (Qh y q).2).2
   refine (W35 m).aC hD (have a2 := Qg y m l ((Qc l i).getD 1 0) ((Qh y ((Qh y q).2)).2); have a3 := (l.getD i default).op - (2 : Int); have a0 := ([[62], [43], [126]] : List (List UInt8)).getD ((a3).toNat) []; have a1 := (Qh y q).1 ++ a0 ++ ((Qh y ((Qh y q).2)).1); (QN 3 (True) (.str o)) /\ (QN 3 (True) (.ptr 0 0)) /\ ((True /\ True) /\ (SV.lts 0 [] = true /\ SV.lts 0 [(.sl (.sels l)), (.sl (.bytes y)), (.nat q)] = true /\ (q <= 900000000000) /\ True) /\ True /\ (true = true -> True)) /\ (QN 3 (true = true) (.sl (.strs [[62], [43], [126]]))) /\ (QN 3 (True) (.ptr 2 1)) /\ (QN 3 (True) (.int .i64 ((l.getD i default).op))) /\ (QN 3 ((inI a3) /\ True) (.int .i64 a3)) /\ (QN 3 ((0 <= a3 /\ a3 < (3 : Nat)) /\ True) (.cp [(.str a0)])) /\ (QN 3 (True) (.str a0)) /\ (QN 3 ((((Qh y q).1).length + a0.length <= 2305843009213693952) /\ True) (.str ((Qh y q).1 ++ a0))) /\ (QN 3 (True) (.ptr 0 0)) /\ ((True /\ True) /\ (SV.lts 0 [] = true /\ SV.lts 0 [(.sl (.sels l)), (.sl (.bytes y)), (.nat ((Qh y q).2))] = true /\ ((Qh y q).2 <= 900000000000) /\ True) /\ True /\ (true = true -> True)) /\ (QN 3 ((((Qh y q).1 ++ a0).length + ((Qh y ((Qh y q).2)).1).length <= 2305843009213693952) /\ True) (.str a1)) /\ (QN 3 ((o.length + a1.length <= 2305843009213693952) /\ True) (.str (o ++ a1))) /\ (QN 3 (True) (.str (o ++ a1))) /\ (1 < (Qc l i).length) /\ (1 < (Qc l i).length) /\ (l.length <= 60 /\ pwL l <= 200000) /\ (WAt l m ((Qc l i).getD 1 0)) /\ ((Qh y ((Qh y q).2)).2 + 20000000 * m <= 500000000000) /\ ((o ++ a1).length + (a2.1).length <= 2305843009213693952) /\ K (.val (.str (o ++ a1 ++ (a2.1)))) (some (.blk 62 [(.sl (.sels l)), (.sl (.bytes y)), (.nat (a2.2))]))) ?_
   refine ⟨Qj trivial, ?_⟩
   refine ⟨Qj trivial, ?_⟩
   refine ⟨⟨⟨trivial, trivial⟩, ⟨rfl, rfl, ⟨(by first | omega | (unfold inI; omega) | exact n5 _ (by omega) | exact w2 _ (Q6 (by omega)) | exact fun k hk => by (have := (n3 k hk).2.1; omega) | exact h03 | exact w4 | exact w10 | (refine ⟨w8 (by omega) (by omega) (by omega) (by omega), ?_⟩; show ¬ ((l.getD i default).kind = 18 \/ (l.getD i default).kind = 19 \/ (l.getD i default).kind = 20); omega) | exact Way.QiQ (by decide) | (simp; done) | (have kl := w6 (by omega); have p1 := w9 0 (by omega) n; have p2 := w13 (Qg y m l ((Qc l i).getD 0 0) n).2; have p3 := w14 (Qg y m l ((Qc l i).getD 0 0) n).2; have p4 := w9 1 (by omega) (Qh y (Qg y m l ((Qc l i).getD 0 0) n).2).2; first | omega | (simp only [List.length_append, List.length_cons, List.length_nil, Qb]; omega)) | (first | omega | (simp only [List.length_append, List.length_cons, List.length_nil, Qb]; omega)) | (have p1 := w9 j (by omega) q; first | omega | (simp only [List.length_append, List.length_cons, List.length_nil, Qb]; omega)) | (have p1 := w9 j (by omega) (Qh y (Qh y q).2).2; first | omega | (simp only [List.length_append, List.length_cons, List.length_nil, Qb]; omega))), trivial⟩⟩, trivial, fun _ => trivial⟩, ?_⟩
   refine ⟨Qj rfl, ?_⟩
   refine ⟨Qj trivial, ?_⟩
   refine ⟨Qj trivial, ?_⟩
   refine ⟨Qj ⟨(by first | omega | (unfold inI; omega) | exact n5 _ (by omega) | exact w2 _ (Q6 (by omega)) | exact fun k hk => by (have := (n3 k hk).2.1; omega) | exact h03 | exact w4 | exact w10 | (refine ⟨w8 (by omega) (by omega) (by omega) (by omega), ?_⟩; show ¬ ((l.getD i default).kind = 18 \/ (l.getD i default).kind = 19 \/ (l.getD i default).kind = 20); omega) | exact Way.QiQ (by decide) | (simp; done) | (have kl := w6 (by omega); have p1 := w9 0 (by omega) n; have p2 := w13 (Qg y m l ((Qc l i).getD 0 0) n).2; have p3 := w14 (Qg y m l ((Qc l i).getD 0 0) n).2; have p4 := w9 1 (by omega) (Qh y (Qg y m l ((Qc l i).getD 0 0) n).2).2; first | omega | (simp only [List.length_append, List.length_cons, List.length_nil, Qb]; omega)) | (first | omega | (simp only [List.length_append, List.length_cons, List.length_nil, Qb]; omega)) | (have p1 := w9 j (by omega) q; first | omega | (simp only [List.length_append, List.length_cons, List.length_nil, Qb]; omega)) | (have p1 := w9 j (by omega) (Qh y (Qh y q).2).2; first | omega | (simp only [List.length_append, List.length_cons, List.length_nil, Qb]; omega))), trivial⟩, ?_⟩
   refine ⟨Qj ⟨(by first | omega | (unfold inI; omega) | exact n5 _ (by omega) | exact w2 _ (Q6 (by omega)) | exact fun k hk => by (have := (n3 k hk).2.1; omega) | exact h03 | exact w4 | exact w10 | (refine ⟨w8 (by omega) (by omega) (by omega) (by omega), ?_⟩; show ¬ ((l.getD i default).kind = 18 \/ (l.getD i default).kind = 19 \/ (l.getD i default).kind = 20); omega) | exact Way.QiQ (by decide) | (simp; done) | (have kl := w6 (by omega); have p1 := w9 0 (by omega) n; have p2 := w13 (Qg y m l ((Qc l i).getD 0 0) n).2; have p3 := w14 (Qg y m l ((Qc l i).getD 0 0) n).2; have p4 := w9 1 (by omega) (Qh y (Qg y m l ((Qc l i).getD 0 0) n).2).2; first | omega | (simp only [List.length_append, List.length_cons, List.length_nil, Qb]; omega)) | (first | omega | (simp only [List.length_append, List.length_cons, List.length_nil, Qb]; omega)) | (have p1 := w9 j (by omega) q; first | omega | (simp only [List.length_append, List.length_cons, List.length_nil, Qb]; omega)) | (have p1 := w9 j (by omega) (Qh y (Qh y q).2).2; first | omega | (simp only [List.length_append, List.length_cons, List.length_nil, Qb]; omega))), trivial⟩, ?_⟩
   refine ⟨Qj trivial, ?_⟩
   refine ⟨Qj ⟨(by first | omega | (unfold inI; omega) | exact n5 _ (by omega) | exact w2 _ (Q6 (by omega)) | exact fun k hk => by (have := (n3 k hk).2.1; omega) | exact h03 | exact w4 | exact w10 | (refine ⟨w8 (by omega) (by omega) (by omega) (by omega), ?_⟩; show ¬ ((l.getD i default).kind = 18 \/ (l.getD i default).kind = 19 \/ (l.getD i default).kind = 20); omega) | exact Way.QiQ (by decide) | (simp; done) | (have kl := w6 (by omega); have p1 := w9 0 (by omega) n; have p2 := w13 (Qg y m l ((Qc l i).getD 0 0) n).2; have p3 := w14 (Qg y m l ((Qc l i).getD 0 0) n).2; have p4 := w9 1 (by omega) (Qh y (Qg y m l ((Qc l i).getD 0 0) n).2).2; first | omega | (simp only [List.length_append, List.length_cons, List.length_nil, Qb]; omega)) | (first | omega | (simp only [List.length_append, List.length_cons, List.length_nil, Qb]; omega)) | (have p1 := w9 j (by omega) q; first | omega | (simp only [List.length_append, List.length_cons, List.length_nil, Qb]; omega)) | (have p1 := w9 j (by omega) (Qh y (Qh y q).2).2; first | omega | (simp only [List.length_append, List.length_cons, List.length_nil, Qb]; omega))), trivial⟩, ?_⟩
   refine ⟨Qj trivial, ?_⟩
   refine ⟨⟨⟨trivial, trivial⟩, ⟨rfl, rfl, ⟨(by first | omega | (unfold inI; omega) | exact n5 _ (by omega) | exact w2 _ (Q6 (by omega)) | exact fun k hk => by (have := (n3 k hk).2.1; omega) | exact h03 | exact w4 | exact w10 | (refine ⟨w8 (by omega) (by omega) (by omega) (by omega), ?_⟩; show ¬ ((l.getD i default).kind = 18 \/ (l.getD i default).kind = 19 \/ (l.getD i default).kind = 20); omega) | exact Way.QiQ (by decide) | (simp; done) | (have kl := w6 (by omega); have p1 := w9 0 (by omega) n; have p2 := w13 (Qg y m l ((Qc l i).getD 0 0) n).2; have p3 := w14 (Qg y m l ((Qc l i).getD 0 0) n).2; have p4 := w9 1 (by omega) (Qh y (Qg y m l ((Qc l i).getD 0 0) n).2).2; first | omega | (simp only [List.length_append, List.length_cons, List.length_nil, Qb]; omega)) | (first | omega | (simp only [List.length_append, List.length_cons, List.length_nil, Qb]; omega)) | (have p1 := w9 j (by omega) q; first | omega | (simp only [List.length_append, List.length_cons, List.length_nil, Qb]; omega)) | (have p1 := w9 j (by omega) (Qh y (Qh y q).2).2; first | omega | (simp only [List.length_append, List.length_cons, List.length_nil, Qb]; omega))), trivial⟩⟩, trivial, fun _ => trivial⟩, ?_⟩
   refine ⟨Qj ⟨(by first | omega | (unfold inI; omega) | exact n5 _ (by omega) | exact w2 _ (Q6 (by omega)) | exact fun k hk => by (have := (n3 k hk).2.1; omega) | exact h03 | exact w4 | exact w10 | (refine ⟨w8 (by omega) (by omega) (by omega) (by omega), ?_⟩; show ¬ ((l.getD i default).kind = 18 \/ (l.getD i default).kind = 19 \/ (l.getD i default).kind = 20); omega) | exact Way.QiQ (by decide) | (simp; done) | (have kl := w6 (by omega); have p1 := w9 0 (by omega) n; have p2 := w13 (Qg y m l ((Qc l i).getD 0 0) n).2; have p3 := w14 (Qg y m l ((Qc l i).getD 0 0) n).2; have p4 := w9 1 (by omega) (Qh y (Qg y m l ((Qc l i).getD 0 0) n).2).2; first | omega | (simp only [List.length_append, List.length_cons, List.length_nil, Qb]; omega)) | (first | omega | (simp only [List.length_append, List.length_cons, List.length_nil, Qb]; omega)) | (have p1 := w9 j (by omega) q; first | omega | (simp only [List.length_append, List.length_cons, List.length_nil, Qb]; omega)) | (have p1 := w9 j (by omega) (Qh y (Qh y q).2).2; first | omega | (simp only [List.length_append, List.length_cons, List.length_nil, Qb]; omega))), trivial⟩, ?_⟩
   refine ⟨Qj ⟨(by first | omega | (unfold inI; omega) | exact n5 _ (by omega) | exact w2 _ (Q6 (by omega)) | exact fun k hk => by (have := (n3 k hk).2.1; omega) | exact h03 | exact w4 | exact w10 | (refine ⟨w8 (by omega) (by omega) (by omega) (by omega), ?_⟩; show ¬ ((l.getD i default).kind = 18 \/ (l.getD i default).kind = 19 \/ (l.getD i default).kind = 20); omega) | exact Way.QiQ (by decide) | (simp; done) | (have kl := w6 (by omega); have p1 := w9 0 (by omega) n; have p2 := w13 (Qg y m l ((Qc l i).getD 0 0) n).2; have p3 := w14 (Qg y m l ((Qc l i).getD 0 0) n).2; have p4 := w9 1 (by omega) (Qh y (Qg y m l ((Qc l i).getD 0 0) n).2).2; first | omega | (simp only [List.length_append, List.length_cons, List.length_nil, Qb]; omega)) | (first | omega | (simp only [List.length_append, List.length_cons, List.length_nil, Qb]; omega)) | (have p1 := w9 j (by omega) q; first | omega | (simp only [List.length_append, List.length_cons, List.length_nil, Qb]; omega)) | (have p1 := w9 j (by omega) (Qh y (Qh y q).2).2; first | omega | (simp only [List.length_append, List.length_cons, List.length_nil, Qb]; omega))), trivial⟩, ?_⟩
   refine ⟨Qj trivial, ?_⟩
   refine Q8 (Q8 (Q8 (Q8 (Q8 (Q8 ?_)))))
   exact Zy hk (k2.trans rfl)
 have L25 : ∀ (mm : Nat) (o : List UInt8) (q : Nat), 0 = mm -> ((knd l i = 18 \/ knd l i = 19 \/ knd l i = 20) /\ Qg y (m + 1) l i n = relF y m l i o q /\ o.length <= 100 /\ q <= n + 2) -> (W35 m).C K 25 (mkS 138 [(0, (.ptr 0 0)), (5, (.own 1)), (10, (.str o))] [(0, .blk 62 [(.sl (.sels l)), (.sl (.bytes y)), (.nat q)]), (1, .row (.ints (Qc l i)) true)] 2) := by
  intro mm
  induction mm using Nat.strongRecOn with
  | _ mm ih =>
   intro o q hm hI
   obtain ⟨k0, k1, k2, k3⟩ := hI
   have kl := w7 k0
   have q1 := w9 0 (by omega) q
   have q2 := w13 (Qg y m l ((Qc l i).getD 0 0) q).2
   have q3 := w14 (Qg y m l ((Qc l i).getD 0 0) q).2
   refine (W35 m).aC hD (have a0 := Qg y m l ((Qc l i).getD 0 0) q; (0 < (Qc l i).length) /\ (0 < (Qc l i).length) /\ (l.length <= 60 /\ pwL l <= 200000) /\ (WAt l m ((Qc l i).getD 0 0)) /\ (q + 20000000 * m <= 500000000000) /\ (o.length + (a0.1).length <= 2305843009213693952) /\ (a0.2 <= 900000000000) /\ ((o ++ (a0.1)).length + ((Qh y (a0.2)).1).length <= 2305843009213693952) /\ ((o ++ (a0.1) ++ ((Qh y (a0.2)).1)).length + 1 <= 2305843009213693952) /\ K (.val (.str (o ++ (a0.1) ++ ((Qh y (a0.2)).1) ++ [41]))) (some (.blk 62 [(.sl (.sels l)), (.sl (.bytes y)), (.nat ((Qh y (a0.2)).2))]))) ?_
   refine Q8 (Q8 (Q8 (Q8 (Q8 (Q8 (Q8 (Q8 (Q8 ?_))))))))
   exact Zy hk (k1.trans rfl)
 refine (W35 m).en (have a1 := l.getD i default; have a3 := Qg y m l ((Qc l i).getD 0 0) n; have a4 := SelD.mk (a1.kind) (a1.op) (a1.key) (a1.val) (a1.a) (a1.b) (a1.flag) (a1.size); have a7 := a1.kind - (18 : Int); have a0 := ([[110, 111, 116], [104, 97, 115], [104, 97, 115, 99, 104, 105, 108, 100]] : List (List UInt8)).getD ((a7).toNat) []; have a6 := ([58] ++ ((Ql y a0 n).1) ++ [40]).length + ((Qh y ((Ql y a0 n).2)).1).length <= 2305843009213693952; have a8 := ([58] ++ ((Ql y a0 n).1)).length + 1 <= 2305843009213693952; have a10 : SV := .sl (.bytes y); have a11 : SV := .sl (.sels l); have a2 := mkS 138 [(0, (.ptr 0 0)), (5, (.own 1)), (10, (.str ([58] ++ ((Ql y a0 n).1) ++ [40] ++ ((Qh y ((Ql y a0 n).2)).1))))] [(3, .row (.strs [[110, 111, 116], [104, 97, 115], [104, 97, 115, 99, 104, 105, 108, 100]]) true), (2, .blk 33 [(.int .i64 (a1.kind)), (.int .i64 (a1.op)), (.str (a1.key)), (.str (a1.val)), (.int .i64 (a1.a)), (.int .i64 (a1.b)), (.int .i64 (a1.flag)), (.int .i64 (a1.size))]), (1, .row (.ints (Qc l i)) true), (0, .blk 62 [a11, a10, (.nat ((Qh y ((Ql y a0 n).2)).2))])] 4; have a12 := l.length <= 60 /\ pwL l <= 200000; have a13 := (Ql y a0 n).2 <= 900000000000; have a14 := Qh y (a3.2); have a5 := Qg y m l ((Qc l i).getD 1 0) (a14.2); have a9 : SV := .str (a3.1 ++ [32] ++ (a14.1) ++ (a5.1)); have a15 := a0.length <= 1000000000; (i < l.length /\ l.length <= 1000000000000) /\ (0 <= a1.size /\ ((i : Nat) : Int) + a1.size <= l.length) /\ (∀ k, k ∈ Qc l i -> (l.getD k default).size <= 1000000000000) /\ (i < l.length) /\ cond (decide (a1.kind = (23 : Int))) ((W35 m).L K 7 (mkS 138 [(0, (.ptr 0 0)), (5, (.own 1)), (7, (.str [])), (8, (.nat 0))] [(2, .blk 33 [(.int .i64 (a1.kind)), (.int .i64 (a1.op)), (.str (a1.key)), (.str (a1.val)), (.int .i64 (a1.a)), (.int .i64 (a1.b)), (.int .i64 (a1.flag)), (.int .i64 (a1.size))]), (1, .row (.ints (Qc l i)) true), (0, .blk 62 [a11, a10, (.nat n)])] 3)) (cond (decide (a1.kind = (22 : Int))) ((0 < (Qc l i).length) /\ (0 < (Qc l i).length) /\ a12 /\ (WAt l m ((Qc l i).getD 0 0)) /\ (n + 20000000 * m <= 500000000000) /\ cond (decide (a1.op = (1 : Int))) ((QN 3 (True) (.str (a3.1))) /\ (QN 3 (((a3.1).length + 1 <= 2305843009213693952) /\ True) (.str (a3.1 ++ [32]))) /\ (QN 3 (True) (.ptr 0 0)) /\ ((True /\ True) /\ (SV.lts 0 [] = true /\ SV.lts 0 [a11, a10, (.nat (a3.2))] = true /\ (a3.2 <= 900000000000) /\ True) /\ True /\ (true = true -> True)) /\ (QN 3 (((a3.1 ++ [32]).length + (a14.1).length <= 2305843009213693952) /\ True) (.str (a3.1 ++ [32] ++ (a14.1)))) /\ (QN 3 (True) (.ptr 0 0)) /\ (QN 3 (True) (.own 1)) /\ (QN 3 ((1 < (Qc l i).length) /\ True) (.rp 1 1 1 0)) /\ (QN 3 ((1 < (Qc l i).length) /\ True) (.nat ((Qc l i).getD 1 0))) /\ ((True /\ True /\ True) /\ (SV.lts 0 [(.nat ((Qc l i).getD 1 0))] = true /\ SV.lts 0 [a11, a10, (.nat (a14.2))] = true /\ a12 /\ (WAt l m ((Qc l i).getD 1 0)) /\ (a14.2 + 20000000 * m <= 500000000000) /\ True) /\ True /\ (true = true -> True)) /\ (QN 3 (((a3.1 ++ [32] ++ (a14.1)).length + (a5.1).length <= 2305843009213693952) /\ True) a9) /\ (QN 3 (True) a9) /\ K (.val a9) (some (.blk 62 [a11, a10, (.nat (a5.2))]))) ((W35 m).C K 17 (mkS 138 [(0, (.ptr 0 0)), (5, (.own 1)), (6, (.ptr 2 0)), (9, (.str (a3.1)))] [(2, .blk 33 [(.int .i64 (a1.kind)), (.int .i64 (a1.op)), (.str (a1.key)), (.str (a1.val)), (.int .i64 (a1.a)), (.int .i64 (a1.b)), (.int .i64 (a1.flag)), (.int .i64 (a1.size))]), (1, .row (.ints (Qc l i)) true), (0, .blk 62 [a11, a10, (.nat (a3.2))])] 3))) (cond (decide (a1.kind = (21 : Int))) (a12 /\ (WAt l (m + 1) i) /\ (n + 20000000 * (m + 1) <= 500000000000) /\ K (.val (.str ((Qc6 y m l i n).1))) (some (.blk 62 [a11, a10, (.nat ((Qc6 y m l i n).2))]))) (cond (decide (a1.kind = (18 : Int))) ((inI a7) /\ (0 <= a7 /\ a7 < (3 : Nat)) /\ ((a7).toNat < 3) /\ (n <= 900000000000) /\ a15 /\ (1 + ((Ql y a0 n).1).length <= 2305843009213693952) /\ a8 /\ a13 /\ a6 /\ (W35 m).C K 25 a2) (cond (decide (a1.kind = (19 : Int))) ((inI a7) /\ (0 <= a7 /\ a7 < (3 : Nat)) /\ ((a7).toNat < 3) /\ (n <= 900000000000) /\ a15 /\ (1 + ((Ql y a0 n).1).length <= 2305843009213693952) /\ a8 /\ a13 /\ a6 /\ (W35 m).C K 25 a2) (cond (decide (a1.kind = (20 : Int))) ((inI a7) /\ (0 <= a7 /\ a7 < (3 : Nat)) /\ ((a7).toNat < 3) /\ (n <= 900000000000) /\ a15 /\ (1 + ((Ql y a0 n).1).length <= 2305843009213693952) /\ a8 /\ a13 /\ a6 /\ (W35 m).C K 25 a2) ((i < l.length) /\ (Way.Fld a4) /\ (Qp a4.kind = true /\ ¬ (a4.kind = 18 \/ a4.kind = 19 \/ a4.kind = 20)) /\ (a4.key.length + a4.val.length <= 20000) /\ (QG a4.val 0 = true) /\ (n <= 600000000000) /\ K (.val (.str ((Qv y a4 n).1))) (some (.blk 62 [a11, a10, (.nat ((Qv y a4 n).2))]))))))))) ?_
 refine Q8 (Q8 (Q8 (Q8 ?_)))
 refine Qd ?_ ?_ <;> intro h1 <;> simp -failIfUnchanged [-List.getD_eq_getElem?_getD, -UInt8.toNat_or] at h1
 exact Wk.L.rn [0, 1] (L7 _ 0 [] _ rfl ⟨h1, by omega, rfl, by simp, by omega⟩)
 refine Qd (fun h2 => ?_) (fun h2 => ?_)
 simp -failIfUnchanged [-List.getD_eq_getElem?_getD, -UInt8.toNat_or] at h2
 refine Q8 (Q8 (Q8 (Q8 (Q8 ?_))))
 refine Qd ?_ ?_ <;> intro h3 <;> simp -failIfUnchanged [-List.getD_eq_getElem?_getD, -UInt8.toNat_or] at h3
 refine ⟨Qj trivial, ?_⟩
 refine ⟨Qj ⟨(by first | omega | (unfold inI; omega) | exact n5 _ (by omega) | exact w2 _ (Q6 (by omega)) | exact fun k hk => by (have := (n3 k hk).2.1; omega) | exact h03 | exact w4 | exact w10 | (refine ⟨w8 (by omega) (by omega) (by omega) (by omega), ?_⟩; show ¬ ((l.getD i default).kind = 18 \/ (l.getD i default).kind = 19 \/ (l.getD i default).kind = 20); omega) | exact Way.QiQ (by decide) | (simp; done) | (have kl := w6 (by omega); have p1 := w9 0 (by omega) n; have p2 := w13 (Qg y m l ((Qc l i).getD 0 0) n).2; have p3 := w14 (Qg y m l ((Qc l i).getD 0 0) n).2; have p4 := w9 1 (by omega) (Qh y (Qg y m l ((Qc l i).getD 0 0) n).2).2; first | omega | (simp only [List.length_append, List.length_cons, List.length_nil, Qb]; omega)) | (first | omega | (simp only [List.length_append, List.length_cons, List.length_nil, Qb]; omega)) | (have p1 := w9 j (by omega) q; first | omega | (simp only [List.length_append, List.length_cons, List.length_nil, Qb]; omega)) | (have p1 := w9 j (by omega) (Qh y (Qh y q).2).2; first | omega | (simp only [List.length_append, List.length_cons, List.length_nil, Qb]; omega))), trivial⟩, ?_⟩
 refine ⟨Qj trivial, ?_⟩
 refine ⟨⟨⟨trivial, trivial⟩, ⟨rfl, rfl, ⟨(by first | omega | (unfold inI; omega) | exact n5 _ (by omega) | exact w2 _ (Q6 (by omega)) | exact fun k hk => by (have := (n3 k hk).2.1; omega) | exact h03 | exact w4 | exact w10 | (refine ⟨w8 (by omega) (by omega) (by omega) (by omega), ?_⟩; show ¬ ((l.getD i default).kind = 18 \/ (l.getD i default).kind = 19 \/ (l.getD i default).kind = 20); omega) | exact Way.QiQ (by decide) | (simp; done) | (have kl := w6 (by omega); have p1 := w9 0 (by omega) n; have p2 := w13 (Qg y m l ((Qc l i).getD 0 0) n).2; have p3 := w14 (Qg y m l ((Qc l i).getD 0 0) n).2; have p4 := w9 1 (by omega) (Qh y (Qg y m l ((Qc l i).getD 0 0) n).2).2; first | omega | (simp only [List.length_append, List.length_cons, List.length_nil, Qb]; omega)) | (first | omega | (simp only [List.length_append, List.length_cons, List.length_nil, Qb]; omega)) | (have p1 := w9 j (by omega) q; first | omega | (simp only [List.length_append, List.length_cons, List.length_nil, Qb]; omega)) | (have p1 := w9 j (by omega) (Qh y (Qh y q).2).2; first | omega | (simp only [List.length_append, List.length_cons, List.length_nil, Qb]; omega))), trivial⟩⟩, trivial, fun _ => trivial⟩, ?_⟩
 refine ⟨Qj ⟨(by first | omega | (unfold inI; omega) | exact n5 _ (by omega) | exact w2 _ (Q6 (by omega)) | exact fun k hk => by (have := (n3 k hk).2.1; omega) | exact h03 | exact w4 | exact w10 | (refine ⟨w8 (by omega) (by omega) (by omega) (by omega), ?_⟩; show ¬ ((l.getD i default).kind = 18 \/ (l.getD i default).kind = 19 \/ (l.getD i default).kind = 20); omega) | exact Way.QiQ (by decide) | (simp; done) | (have kl := w6 (by omega); have p1 := w9 0 (by omega) n; have p2 := w13 (Qg y m l ((Qc l i).getD 0 0) n).2; have p3 := w14 (Qg y m l ((Qc l i).getD 0 0) n).2; have p4 := w9 1 (by omega) (Qh y (Qg y m l ((Qc l i).getD 0 0) n).2).2; first | omega | (simp only [List.length_append, List.length_cons, List.length_nil, Qb]; omega)) | (first | omega | (simp only [List.length_append, List.length_cons, List.length_nil, Qb]; omega)) | (have p1 := w9 j (by omega) q; first | omega | (simp only [List.length_append, List.length_cons, List.length_nil, Qb]; omega)) | (have p1 := w9 j (by omega) (Qh y (Qh y q).2).2; first | omega | (simp only [List.length_append, List.length_cons, List.length_nil, Qb]; omega))), trivial⟩, ?_⟩
 refine ⟨Qj trivial, ?_⟩
 refine ⟨Qj trivial, ?_⟩
 refine ⟨Qj ⟨(by first | omega | (unfold inI; omega) | exact n5 _ (by omega) | exact w2 _ (Q6 (by omega)) | exact fun k hk => by (have := (n3 k hk).2.1; omega) | exact h03 | exact w4 | exact w10 | (refine ⟨w8 (by omega) (by omega) (by omega) (by omega), ?_⟩; show ¬ ((l.getD i default).kind = 18 \/ (l.getD i default).kind = 19 \/ (l.getD i default).kind = 20); omega) | exact Way.QiQ (by decide) | (simp; done) | (have kl := w6 (by omega); have p1 := w9 0 (by omega) n; have p2 := w13 (Qg y m l ((Qc l i).getD 0 0) n).2; have p3 := w14 (Qg y m l ((Qc l i).getD 0 0) n).2; have p4 := w9 1 (by omega) (Qh y (Qg y m l ((Qc l i).getD 0 0) n).2).2; first | omega | (simp only [List.length_append, List.length_cons, List.length_nil, Qb]; omega)) | (first | omega | (simp only [List.length_append, List.length_cons, List.length_nil, Qb]; omega)) | (have p1 := w9 j (by omega) q; first | omega | (simp only [List.length_append, List.length_cons, List.length_nil, Qb]; omega)) | (have p1 := w9 j (by omega) (Qh y (Qh y q).2).2; first | omega | (simp only [List.length_append, List.length_cons, List.length_nil, Qb]; omega))), trivial⟩, ?_⟩
 refine ⟨Qj ⟨(by first | omega | (unfold inI; omega) | exact n5 _ (by omega) | exact w2 _ (Q6 (by omega)) | exact fun k hk => by (have := (n3 k hk).2.1; omega) | exact h03 | exact w4 | exact w10 | (refine ⟨w8 (by omega) (by omega) (by omega) (by omega), ?_⟩; show ¬ ((l.getD i default).kind = 18 \/ (l.getD i default).kind = 19 \/ (l.getD i default).kind = 20); omega) | exact Way.QiQ (by decide) | (simp; done) | (have kl := w6 (by omega); have p1 := w9 0 (by omega) n; have p2 := w13 (Qg y m l ((Qc l i).getD 0 0) n).2; have p3 := w14 (Qg y m l ((Qc l i).getD 0 0) n).2; have p4 := w9 1 (by omega) (Qh y (Qg y m l ((Qc l i).getD 0 0) n).2).2; first | omega | (simp only [List.length_append, List.length_cons, List.length_nil, Qb]; omega)) | (first | omega | (simp only [List.length_append, List.length_cons, List.length_nil, Qb]; omega)) | (have p1 := w9 j (by omega) q; first | omega | (simp only [List.length_append, List.length_cons, List.length_nil, Qb]; omega)) | (have p1 := w9 j (by omega) (Qh y (Qh y q).2).2; first | omega | (simp only [List.length_append, List.length_cons, List.length_nil, Qb]; omega))), trivial⟩, ?_⟩
 refine ⟨⟨⟨trivial, trivial, trivial⟩, ⟨rfl, rfl, ⟨(by first | omega | (unfold inI; omega) | exact n5 _ (by omega) | exact w2 _ (Q6 (by omega)) | exact fun k hk => by (have := (n3 k hk).2.1; omega) | exact h03 | exact w4 | exact w10 | (refine ⟨w8 (by omega) (by omega) (by omega) (by omega), ?_⟩; show ¬ ((l.getD i default).kind = 18 \/ (l.getD i default).kind = 19 \/ (l.getD i default).kind = 20); omega) | exact Way.QiQ (by decide) | (simp; done) | (have kl := w6 (by omega); have p1 := w9 0 (by omega) n; have p2 := w13 (Qg y m l ((Qc l i).getD 0 0) n).2; have p3 := w14 (Qg y m l ((Qc l i).getD 0 0) n).2; have p4 := w9 1 (by omega) (Qh y (Qg y m l ((Qc l i).getD 0 0) n).2).2; first | omega | (simp only [List.length_append, List.length_cons, List.length_nil, Qb]; omega)) | (first | omega | (simp only [List.length_append, List.length_cons, List.length_nil, Qb]; omega)) | (have p1 := w9 j (by omega) q; first | omega | (simp only [List.length_append, List.length_cons, List.length_nil, Qb]; omega)) | (have p1 := w9 j (by omega) (Qh y (Qh y q).2).2; first | omega | (simp only [List.length_append, List.length_cons, List.length_nil, Qb]; omega))), (by first | omega | (unfold inI; omega) | exact n5 _ (by omega) | exact w2 _ (Q6 (by omega)) | exact fun k hk => by (have := (n3 k hk).2.1; omega) | exact h03 | exact w4 | exact w10 | (refine ⟨w8 (by omega) (by omega) (by omega) (by omega), ?_⟩; show ¬ ((l.getD i default).kind = 18 \/ (l.getD i default).kind = 19 \/ (l.getD i default).kind = 20); omega) | exact Way.QiQ (by decide) | (simp; done) | (have kl := w6 (by omega); have p1 := w9 0 (by omega) n; have p2 := w13 (Qg y m l ((Qc l i).getD 0 0) n).2; have p3 := w14 (Qg y m l ((Qc l i).getD 0 0) n).2; have p4 := w9 1 (by omega) (Qh y (Qg y m l ((Qc l i).getD 0 0) n).2).2; first | omega | (simp only [List.length_append, List.length_cons, List.length_nil, Qb]; omega)) | (first | omega | (simp only [List.length_append, List.length_cons, List.length_nil, Qb]; omega)) | (have p1 := w9 j (by omega) q; first | omega | (simp only [List.length_append, List.length_cons, List.length_nil, Qb]; omega)) | (have p1 := w9 j (by omega) (Qh y (Qh y q).2).2; first | omega | (simp only [List.length_append, List.length_cons, List.length_nil, Qb]; omega))), (by first | omega | (unfold inI; omega) | exact n5 _ (by omega) | exact w2 _ (Q6 (by omega)) | exact fun k hk => by (have := (n3 k hk).2.1; omega) | exact h03 | exact w4 | exact w10 | (refine ⟨w8 (by omega) (by omega) (by omega) (by omega), ?_⟩; show ¬ ((l.getD i default).kind = 18 \/ (l.getD i default).kind = 19 \/ (l.getD i default).kind = 20); omega) | exact Way.QiQ (by decide) | (simp; done) | (have kl := w6 (by omega); have p1 := w9 0 (by omega) n; have p2 := w13 (Qg y m l ((Qc l i).getD 0 0) n).2; have p3 := w14 (Qg y m l ((Qc l i).getD 0 0) n).2; have p4 := w9 1 (by omega) (Qh y (Qg y m l ((Qc l i).getD 0 0) n).2).2; first | omega | (simp only [List.length_append, List.length_cons, List.length_nil, Qb]; omega)) | (first | omega | (simp only [List.length_append, List.length_cons, List.length_nil, Qb]; omega)) | (have p1 := w9 j (by omega) q; first | omega | (simp only [List.length_append, List.length_cons, List.length_nil, Qb]; omega)) | (have p1 := w9 j (by omega) (Qh y (Qh y q).2).2; first | omega | (simp only [List.length_append, List.length_cons, List.length_nil, Qb]; omega))), trivial⟩⟩, trivial, fun _ => trivial⟩, ?_⟩
 refine ⟨Qj ⟨(by first | omega | (unfold inI; omega) | exact n5 _ (by omega) | exact w2 _ (Q6 (by omega)) | exact fun k hk => by (have := (n3 k hk).2.1; omega) | exact h03 | exact w4 | exact w10 | (refine ⟨w8 (by omega) (by omega) (by omega) (by omega), ?_⟩; show ¬ ((l.getD i default).kind = 18 \/ (l.getD i default).kind = 19 \/ (l.getD i default).kind = 20); omega) | exact Way.QiQ (by decide) | (simp; done) | (have kl := w6 (by omega); have p1 := w9 0 (by omega) n; have p2 := w13 (Qg y m l ((Qc l i).getD 0 0) n).2; have p3 := w14 (Qg y m l ((Qc l i).getD 0 0) n).2; have p4 := w9 1 (by omega) (Qh y (Qg y m l ((Qc l i).getD 0 0) n).2).2; first | omega | (simp only [List.length_append, List.length_cons, List.length_nil, Qb]; omega)) | (first | omega | (simp only [List.length_append, List.length_cons, List.length_nil, Qb]; omega)) | (have p1 := w9 j (by omega) q; first | omega | (simp only [List.length_append, List.length_cons, List.length_nil, Qb]; omega)) | (have p1 := w9 j (by omega) (Qh y (Qh y q).2).2; first | omega | (simp only [List.length_append, List.length_cons, List.length_nil, Qb]; omega))), trivial⟩, ?_⟩
 refine ⟨Qj trivial, ?_⟩
 exact Zy hk (QrM (by omega) (by omega))
 exact Wk.C.rn [0, 1, 2] (L17 _ _ _ rfl ⟨by omega, by omega, QrL (by omega) (by omega), by (have kl := w6 (by omega); have p1 := w9 0 (by omega) n; omega), by (have kl := w6 (by omega); have p1 := w9 0 (by omega) n; omega)⟩)
 simp -failIfUnchanged [-List.getD_eq_getElem?_getD, -UInt8.toNat_or] at h2
 refine Qd ?_ ?_ <;> intro h3 <;> simp -failIfUnchanged [-List.getD_eq_getElem?_getD, -UInt8.toNat_or] at h3
 refine Q8 (Q8 (Q8 ?_))
 exact Zy hk (QoI (by omega))
 refine Qd (fun h4 => ?_) (fun h4 => ?_)
 simp -failIfUnchanged [-List.getD_eq_getElem?_getD, -UInt8.toNat_or] at h4
 refine Q8 (Q8 (Q8 (Q8 (Q8 (Q8 (Q8 (Q8 (Q8 ?_))))))))
 exact Wk.C.rn [0, 1] (L25 _ _ _ rfl ⟨by omega, Qc5 (by omega), by simp only [List.length_append, List.length_cons, List.length_nil, Qb]; omega, by omega⟩)
 simp -failIfUnchanged [-List.getD_eq_getElem?_getD, -UInt8.toNat_or] at h4
 refine Qd ?_ ?_ <;> intro h5 <;> simp -failIfUnchanged [-List.getD_eq_getElem?_getD, -UInt8.toNat_or] at h5
 refine Q8 (Q8 (Q8 (Q8 (Q8 (Q8 (Q8 (Q8 (Q8 ?_))))))))
 exact Wk.C.rn [0, 1] (L25 _ _ _ rfl ⟨by omega, Qc5 (by omega), by simp only [List.length_append, List.length_cons, List.length_nil, Qb]; omega, by omega⟩)
 refine Qd (fun h6 => ?_) (fun h6 => ?_)
 simp -failIfUnchanged [-List.getD_eq_getElem?_getD, -UInt8.toNat_or] at h6
 refine Q8 (Q8 (Q8 (Q8 (Q8 (Q8 (Q8 (Q8 (Q8 ?_))))))))
 exact Wk.C.rn [0, 1] (L25 _ _ _ rfl ⟨by omega, Qc5 (by omega), by simp only [List.length_append, List.length_cons, List.length_nil, Qb]; omega, by omega⟩)
 simp -failIfUnchanged [-List.getD_eq_getElem?_getD, -UInt8.toNat_or] at h6
 refine Q8 (Q8 (Q8 (Q8 (Q8 (Q8 ?_)))))
 exact Zy hk (QoF (by omega) (by omega) (by omega) (by omega))
 cases e
theorem QpU : ∀ m, Sat 35 (fnS (c35 m))
 | 0 => by
  intro g0 w M ω svs args b K hS hn hr hP
  exfalso
  obtain ⟨ps, o, b', e, hp, hk⟩ := Yp hP
  unfold c35 at e
  split at e
  cases e
  obtain ⟨⟨x, ks⟩, rest, _, h2, _⟩ := hp.2.1
  rw [ST.ht] at h2
  omega
  cases e
 | m + 1 => QqS m (QpU m)
def c19 (svs : List SV) (b : Option SB) : QR := match svs, b with
 | [.sl (.sels l), .sl (.bytes y)], none => some ([l.length <= 60 /\ pwL l <= 200000, l.length ≠ 0 -> WAt l 2000 0], .str (YP y l))
 | _, _ => none
noncomputable def W19 : Wk := ⟨[(34, .fn c34), (35, .fn (c35 2000))], Qm Tryz.f19, false, false, [.tmp 4], [9], [], []⟩
theorem has19 : Has 19 := hsf Tryz.f19
theorem Qin {p q : Prop} (k : q) (h : p := by first | omega | (constructor <;> omega) | exact h03 (fun q => h1 (List.length_eq_zero_iff.1 q)) | exact h03 (by omega) | (have q := p3 (fun q => h1 (List.length_eq_zero_iff.1 q)); first | omega | (simp only [List.length_append, List.length_cons, List.length_nil]; omega)) | (simp only [List.length_append, List.length_cons, List.length_nil]; omega)) : p /\ q := ⟨h, k⟩
theorem sat19 : Sat 19 (QC c19) := by
 have hD : Qe W19.D := (Qe.cons Qj2 Qjj (Qe.cons Qnj (QpU 2000) Qe.nil))
 refine W19.sa hD Tryz.f19 fun svs b K hP => ?_
 obtain ⟨ps, v, e, hp, hk⟩ := Qo hP
 unfold c19 at e
 split at e
 rename_i l y
 cases e
 obtain ⟨⟨h01, h02⟩, h03, _⟩ := hp
 have p1 := VG y 0
 have p2 := Vx y 0
 have p3 : l.length ≠ 0 -> (Qg y 2000 l 0 (Qh y 0).2).1.length <= 200000 /\ (Qg y 2000 l 0 (Qh y 0).2).2 <= 200001 := fun h => by have := (h03 h).pen y (Qh y 0).2; omega
 have p4 := VG y (Qg y 2000 l 0 (Qh y 0).2).2
 have p5 := Vx y (Qg y 2000 l 0 (Qh y 0).2).2
 refine W19.en (have a0 := Qg y 2000 l 0 ((Qh y 0).2); cond (decide (l.length = 0)) (K (.val (.str [])) none) ((0 <= 900000000000) /\ (l.length <= 60 /\ pwL l <= 200000) /\ (WAt l 2000 0) /\ ((Qh y 0).2 + 20000000 * 2000 <= 500000000000) /\ (((Qh y 0).1).length + (a0.1).length <= 2305843009213693952) /\ (a0.2 <= 900000000000) /\ (((Qh y 0).1 ++ (a0.1)).length + ((Qh y (a0.2)).1).length <= 2305843009213693952) /\ K (.val (.str ((Qh y 0).1 ++ (a0.1) ++ ((Qh y (a0.2)).1)))) none)) ?_
 refine Qd ?_ ?_ <;> intro h1 <;> simp -failIfUnchanged [-List.getD_eq_getElem?_getD, -UInt8.toNat_or] at h1
 refine ZP hk ?_
 unfold YP
 rw [if_pos (List.length_eq_zero_iff.2 h1)]
 refine Qin (Qin (Qin (Qin (Qin (Qin (Qin ?_))))))
 refine ZP hk ?_
 unfold YP
 rw [if_neg (fun q => h1 (List.length_eq_zero_iff.1 q))]
 cases e
end
end Go.Proofs.YtengepcafdnalaaGreatDoor
