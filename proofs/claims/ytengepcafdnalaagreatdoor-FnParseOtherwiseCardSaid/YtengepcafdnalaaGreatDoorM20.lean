/-
  Parts of the proof that the law FnParseOtherwise holds for every input (texts Kw, Ks). Conditions: none.
-/
import Derived.Test.YtengepcafdnalaaGreatDoorM19
import Derived.Shelf.Strconv.AtoiAll
import Derived.Shelf.Strings.Repeat
import Derived.Lib.AtoiErrMem
namespace Go.Proofs.YtengepcafdnalaaGreatDoor
section
open Go Go.RowKit
set_option maxRecDepth 20000
theorem Uz.sz {l : List SelD} {n k : Nat} (h : Uz l n k) : k < l.length /\ 0 < (l.getD k default).size /\ (l.getD k default).size <= l.length /\ ((k : Nat) : Int) + (l.getD k default).size <= l.length /\ 0 < (Ym n l k).length /\ (Ym n l k).length <= l.length := by
 obtain ⟨T, rest, h, hn⟩ := h
 rw [Qa1 l n k T rest h hn]
 have h1 := JY T.norm
 have h2 := Qc7 T
 obtain ⟨x, ks⟩ := T
 obtain ⟨_, _, q3, q4, q5⟩ := Vd h
 have h3 : (ST.mk x ks).flat.length = (ST.flats ks).length + 1 := by simp [ST.flat, QB]
 rw [q4]
 exact ⟨q3, by simp only; omega, by simp only; omega, by simp only; omega, h1, by omega⟩
def Jy (n : Nat) (l : List SelD) (i : Nat) : List (List SelD) := ((Qc l i).map (Ym n l)).filter (Jz (l.getD i default))
theorem Uz.kids {l : List SelD} {n i : Nat} (h : Uz l (n + 1) i) : (∀ k ∈ Qc l i, Uz l n k) /\ (Qc l i).length <= l.length /\ (Jy n l i).flatten.length <= l.length /\ (Jy n l i).length <= l.length := by
 obtain ⟨⟨x, ks⟩, rest, h, hn⟩ := h
 obtain ⟨q1, q2, q3, q4, q5⟩ := Vd h
 rw [ST.ht] at hn
 have h6 := J6 (l := l) (n := n) (fun i T rest => Qa1 l n i T rest) ks (i + 1) rest q2 (by omega)
 have q6 : (Qc l i).length <= l.length := by
  have := Qdh l (i + (l.getD i default).size) (i + 1)
  unfold Qc; omega
 refine ⟨fun k hk => Qbv ks (i + 1) rest q2 (by omega) k (by rw [<- q1]; exact hk), q6, ?_, ?_⟩
 unfold Jy
 rw [q1, q4, h6, Qhi, <- Qai]
 have := Qbx ks
 have : (ST.flats (Ze x (ST.norms ks))).length <= (ST.flats (ST.norms ks)).length := by
  unfold Ze; split
  exact Uj _ _
  exact Nat.le_refl _
 omega
 unfold Jy
 exact Nat.le_trans (List.length_filter_le _ _) (by simpa using q6)
theorem QgO (p : List SelD -> Bool) (f : Nat -> List SelD) (K : List Nat) (j : Nat) (h : j < K.length) : ((K.take (j + 1)).map f).filter p = ((K.take j).map f).filter p ++ (if p (f (K.getD j 0)) = true then [f (K.getD j 0)] else []) := by
 rw [List.take_add_one, List.getElem?_eq_getElem h]
 have e : K.getD j 0 = K[j] := by simp [List.getD_eq_getElem?_getD, List.getElem?_eq_getElem h]
 rw [e, Option.toList_some, List.map_append, List.filter_append]
 simp [List.filter_cons]
theorem Qou (p : List SelD -> Bool) (f : Nat -> List SelD) (K : List Nat) (j : Nat) : (((K.take j).map f).filter p).length <= j := by
 refine Nat.le_trans (List.length_filter_le _ _) ?_
 simp; omega
theorem Q6 {K : List Nat} {j : Nat} (h : j < K.length) : K.getD j 0 ∈ K := by
 simp [List.getD_eq_getElem?_getD, List.getElem?_eq_getElem h]
def c51 (m : Nat) (svs : List SV) (b : Option SB) : QR := match svs, b with
 | [.sl (.sels l), .nat i], none => some ([l.length <= 1000000000, Uz l m i], .sl (.sels (Ym m l i)))
 | _, _ => none
theorem Qdg {K : Out -> Option SB -> Prop} {a c : List SelD} (hk : K (.val (.sl (.sels a))) none) (e : a = c) : K (.val (.sl (.sels c))) none := by rw [e] at hk; exact hk
def c51s (m : Nat) (svs : List SV) (b : Option SB) : QR := match svs, b with
 | [.sl (.sels l), .nat i], none => some ([l.length <= 1000000000, Uz l (m + 1) i], .sl (.sels (Ym (m + 1) l i)))
 | _, _ => none
noncomputable def W51 (m : Nat) : Wk := ⟨[(17, .fn c17), (29, .fn c29), (51, .pure (c51 m))], Qm Tryz.f51, false, false, [.tmp 4], [22], [(4, 227)], []⟩
theorem Qql : Has 51 := hsf Tryz.f51
theorem kwz1 {c0 p0 q : Prop} (k : q) (h : c0 -> p0 /\ True := by intro g0; (try simp at g0); exact ⟨(by first | omega | (have := k5 h1; omega) | exact k4 h1 | (have := k6 h1; omega) | exact fun k hk => by have := (q1 k hk).sz; omega | (simp; done) | (simp; omega)), trivial⟩) : (c0 -> p0 /\ True) /\ q := ⟨h, k⟩
theorem Ju {p q : Prop} (k : q) (h : p := by first | omega | (have := k5 h1; omega) | exact k4 h1 | (have := k6 h1; omega) | exact fun k hk => by have := (q1 k hk).sz; omega | (simp; done) | (simp; omega)) : p /\ q := ⟨h, k⟩
theorem QqQ (m : Nat) (hG : Sat 51 (QC (c51 m))) : Sat 51 (QC (c51s m)) := by
 have hD : Qe (W51 m).D := (Qe.cons Qj3 Qjk (Qe.cons Qqn QpV (Qe.cons Qql hG Qe.nil)))
 refine (W51 m).sa hD Tryz.f51 fun svs b K hP => ?_
 obtain ⟨ps, v, e, hp, hk⟩ := Qo hP
 unfold c51s at e
 split at e
 rename_i l i
 cases e
 obtain ⟨h01, h02, _⟩ := hp
 obtain ⟨q1, q2, q3, q4⟩ := h02.kids
 have q5 := h02.sz
 have L4 : ∀ (mm : Nat) (j : Nat) (r : List (List SelD)), (Qc l i).length - j = mm -> (j <= (Qc l i).length /\ r = (((Qc l i).take j).map (Ym m l)).filter (Jz (l.getD i default))) -> (W51 m).L K 4 (mkS 72 [(0, (.sl (.sels l))), (1, (.nat i)), (5, (.own 2)), (6, (.own 1)), (7, (.nat j))] [(2, .row (.selss r) true), (1, .row (.ints (Qc l i)) true)] 3) := by
  intro mm
  induction mm using Nat.strongRecOn with
  | _ mm ih =>
   intro j r hm hI
   obtain ⟨k1, k2⟩ := hI
   have k3 : r.length <= j := by rw [k2]; exact Qou _ _ _ _
   have k4 : j < (Qc l i).length -> Uz l m ((Qc l i).getD j 0) := fun h => q1 _ (Q6 h)
   have k5 := fun h => (k4 h).sz
   have k6 : ¬ j < (Qc l i).length -> r.flatten.length <= l.length := fun h => by rw [k2, show j = (Qc l i).length from by omega, List.take_length]; exact q3
   refine (W51 m).aL hD (have a0 := l.getD i default; have a1 : Out := .val (.sl (.sels (VO (SelD.mk (a0.kind) (a0.op) (a0.key) (a0.val) (a0.a) (a0.b) (a0.flag) (a0.size)) (r : List (List SelD)).flatten))); have a2 := decide (a0.kind = (21 : Int)); have a3 := (Qc l i).getD j 0; have a4 := i < l.length; cond (decide (j < (Qc l i).length)) ((j < (Qc l i).length) /\ (j < (Qc l i).length) /\ (l.length <= 1000000000) /\ (Uz l m a3) /\ a4 /\ ((!a2) = false -> (0 < (Ym m l a3).length) /\ True) /\ cond ((!a2) || (!(decide (((Ym m l a3).getD 0 default).kind = (1 : Int))))) ((r.length + 1 <= 1099511627776) /\ (j + 1 <= 9223372036854775807) /\ (W51 m).L K 4 (mkS 72 [(0, (.sl (.sels l))), (1, (.nat i)), (5, (.own 4)), (6, (.own 1)), (7, (.nat (j + 1)))] [(4, .row (.selss (r ++ [Ym m l a3])) true), (1, .row (.ints (Qc l i)) true)] 5)) ((j + 1 <= 9223372036854775807) /\ (W51 m).L K 4 (mkS 72 [(0, (.sl (.sels l))), (1, (.nat i)), (5, (.own 2)), (6, (.own 1)), (7, (.nat (j + 1)))] [(2, .row (.selss r) true), (1, .row (.ints (Qc l i)) true)] 3))) (a4 /\ (a2 = true -> a4 /\ True) /\ cond (a2 && (decide (a0.val = []))) (cond (decide (r.length = 0)) ((([] : List (List SelD)).length <= 1000000000) /\ (([] : List (List SelD)).flatten.length <= 1000000000000) /\ K (.val (.sl (.sels (VO (SelD.mk (1 : Int) (0 : Int) [] [] (0 : Int) (0 : Int) (0 : Int) (0 : Int)) ([] : List (List SelD)).flatten)))) none) (cond (decide (r.length = 1)) ((0 < r.length) /\ (0 < r.length) /\ K (.val (.sl (.sels (r.getD 0 [])))) none) (a4 /\ ((r : List (List SelD)).length <= 1000000000) /\ ((r : List (List SelD)).flatten.length <= 1000000000000) /\ K a1 none))) (a4 /\ ((r : List (List SelD)).length <= 1000000000) /\ ((r : List (List SelD)).flatten.length <= 1000000000000) /\ K a1 none))) ?_
   refine Qd ?_ ?_ <;> intro h1 <;> simp -failIfUnchanged [-List.getD_eq_getElem?_getD] at h1
   refine Ju (Ju (Ju (Ju (Ju (kwz1 ?_)))))
   refine Qd ?_ ?_ <;> intro h2 <;> simp -failIfUnchanged [-List.getD_eq_getElem?_getD] at h2
   refine Ju (Ju ?_)
   have e : (((Qc l i).take (j + 1)).map (Ym m l)).filter (Jz (l.getD i default)) = r ++ [Ym m l ((Qc l i).getD j 0)] := by
    rw [QgO _ _ _ _ h1, <- k2, if_pos (by unfold Jz; simp [-List.getD_eq_getElem?_getD]; exact h2)]
   exact Wk.L.rn [0, 1, 4] (ih _ (by omega) (j + 1) (r ++ [Ym m l ((Qc l i).getD j 0)]) rfl ⟨by omega, e.symm⟩)
   refine Ju ?_
   have e : (((Qc l i).take (j + 1)).map (Ym m l)).filter (Jz (l.getD i default)) = r := by
    rw [QgO _ _ _ _ h1, <- k2, if_neg (by unfold Jz; simp [-List.getD_eq_getElem?_getD]; exact h2), List.append_nil]
   exact ih _ (by omega) (j + 1) r rfl ⟨by omega, e.symm⟩
   refine Ju (kwz1 ?_)
   refine Qd ?_ ?_ <;> intro h2 <;> simp -failIfUnchanged [-List.getD_eq_getElem?_getD] at h2
   refine Qd (fun h3 => ?_) (fun h3 => ?_)
   simp -failIfUnchanged [-List.getD_eq_getElem?_getD] at h3
   refine Ju (Ju ?_)
   have er : r = Jy m l i := by rw [k2, show j = (Qc l i).length from by omega, List.take_length]; rfl
   refine Qdg hk ?_
   rw [Ym]
   rw [show List.filter (Jz (l.getD i default)) (List.map (Ym m l) (Qc l i)) = r from er.symm]
   rw [if_pos h2, if_pos (by rw [h3]; rfl)]
   rfl
   simp -failIfUnchanged [-List.getD_eq_getElem?_getD] at h3
   refine Qd ?_ ?_ <;> intro h4 <;> simp -failIfUnchanged [-List.getD_eq_getElem?_getD] at h4
   refine Ju (Ju ?_)
   have er : r = Jy m l i := by rw [k2, show j = (Qc l i).length from by omega, List.take_length]; rfl
   refine Qdg hk ?_
   rw [Ym]
   rw [show List.filter (Jz (l.getD i default)) (List.map (Ym m l) (Qc l i)) = r from er.symm]
   rw [if_pos h2, if_neg (by omega), if_pos h4]
   refine Ju (Ju (Ju ?_))
   have er : r = Jy m l i := by rw [k2, show j = (Qc l i).length from by omega, List.take_length]; rfl
   refine Qdg hk ?_
   rw [Ym]
   rw [show List.filter (Jz (l.getD i default)) (List.map (Ym m l) (Qc l i)) = r from er.symm]
   rw [if_pos h2, if_neg (by intro q; exact h3 (List.length_eq_zero_iff.1 q)), if_neg h4]
   refine Ju (Ju (Ju ?_))
   have er : r = Jy m l i := by rw [k2, show j = (Qc l i).length from by omega, List.take_length]; rfl
   refine Qdg hk ?_
   rw [Ym]
   rw [show List.filter (Jz (l.getD i default)) (List.map (Ym m l) (Qc l i)) = r from er.symm]
   rw [if_neg (fun q => h2 q.1 q.2)]
 refine (W51 m).en ((i < l.length /\ l.length <= 1000000000000) /\ (0 <= (l.getD i default).size /\ ((i : Nat) : Int) + (l.getD i default).size <= l.length) /\ (∀ k, k ∈ Qc l i -> (l.getD k default).size <= 1000000000000) /\ (W51 m).L K 4 (mkS 72 [(0, (.sl (.sels l))), (1, (.nat i)), (5, .nilsl), (6, (.own 1)), (7, (.nat 0))] [(1, .row (.ints (Qc l i)) true)] 2)) ?_
 refine Ju (Ju (Ju ?_))
 exact Wk.L.le (Yg.adopt 5 (T := 79) (x := .selss []) (by kernel_rfl) (by kernel_rfl)) (Wk.L.rn [0, 1, 2] (L4 _ 0 [] rfl ⟨by omega, by simp⟩))
 cases e
theorem QpS : ∀ m, Sat 51 (QC (c51 m))
 | 0 => by
  intro g0 w M ω svs args b K _ _ _ hP
  exfalso
  obtain ⟨ps, v, e, hp, hk⟩ := Qo hP
  unfold c51 at e
  split at e
  cases e
  obtain ⟨T, rest, h1, h2⟩ := hp.2.1
  obtain ⟨x, ks⟩ := T
  rw [ST.ht] at h2
  omega
  cases e
 | m + 1 => QqQ m (QpS m)
def Vp (l : List SelD) : List SelD := Ym l.length l 0
def Yt (l : List SelD) : Prop := ∃ T : ST, l = T.flat
theorem Yt.kid {l : List SelD} (h : Yt l) : Uz l l.length 0 := by
 obtain ⟨T, h⟩ := h
 exact ⟨T, [], by rw [<- h]; simp, by rw [h]; exact Qdo T⟩
theorem Yt.normed {T : ST} : Vp T.flat = T.norm.flat := Qa1 _ _ _ T [] (by simp) (Qdo T)
theorem Yt.len {l : List SelD} (h : Yt l) : 0 < l.length /\ 0 < (Vp l).length /\ (Vp l).length <= l.length := by
 obtain ⟨T, h⟩ := h
 rw [h, Yt.normed]
 exact ⟨JY T, JY _, Qc7 T⟩
def QaC : List SelD -> List SelD -> Bool
 | [], [] => true
 | x :: a, y :: b => QbR x y && QaC a b
 | _, _ => false
def QgN (l r : List SelD) : Bool := QaC (Vp l) (Vp r)
theorem Qe1 : ∀ {a b : List SelD}, a.length ≠ b.length -> QaC a b = false
 | [], [], h => absurd rfl h
 | x :: a, y :: b, h => by rw [QaC, Qe1 (by simpa using h), Bool.and_false]
 | [], y :: b, h => rfl
 | x :: a, [], h => rfl
theorem QdR : ∀ a : List SelD, QaC a a = true
 | [] => rfl
 | x :: a => by rw [QaC, QdR a]; simp [QbR]
theorem QdS {a b : List SelD} {i : Nat} (h : i < a.length) (h' : i < b.length) : QaC (a.drop i) (b.drop i) = (QbR (a.getD i default) (b.getD i default) && QaC (a.drop (i + 1)) (b.drop (i + 1))) := by
 rw [List.drop_eq_getElem_cons h, List.drop_eq_getElem_cons h', QaC]
 simp [List.getD_eq_getElem?_getD, List.getElem?_eq_getElem h, List.getElem?_eq_getElem h']
def VJ (l : List SelD) : List SelD := if (l.getD 0 default).kind = 23 then l else VO Vg l
theorem VE {K : Out -> Option SB -> Prop} {a c : Bool} (hk : K (.val (.bool a)) none) (e : a = c) : K (.val (.bool c)) none := by rw [e] at hk; exact hk
def c28i (m : Nat) (svs : List SV) (b : Option SB) : QR := match svs, b with
 | [.sl (.sels l)], none => some ([l.length <= 1000000000, Yt l, m = l.length], .sl (.sels (Vp l)))
 | _, _ => none
noncomputable def W28 (m : Nat) : Wk := ⟨[(51, .pure (c51 m))], Qm Tryz.f28, false, false, [.tmp 2], [22], [], []⟩
theorem has28 : Has 28 := hsf Tryz.f28
theorem kwz2 {p q : Prop} (k : q) (h : p := by first | omega | (rw [h03]; exact h02.kid)) : p /\ q := ⟨h, k⟩
theorem QqV (m : Nat) : Sat 28 (QC (c28i m)) := by
 have hD : Qe (W28 m).D := (Qe.cons Qql (QpS m) Qe.nil)
 refine (W28 m).sa hD Tryz.f28 fun svs b K hP => ?_
 obtain ⟨ps, v, e, hp, hk⟩ := Qo hP
 unfold c28i at e
 split at e
 rename_i l
 cases e
 obtain ⟨h01, h02, h03, _⟩ := hp
 have q := h02.len
 refine (W28 m).en (cond (decide (l.length = 0)) (K (.val (.sl (.sels []))) none) ((l.length <= 1000000000) /\ (Uz l m 0) /\ K (.val (.sl (.sels (Ym m l 0)))) none)) ?_
 refine Qd ?_ ?_ <;> intro h1 <;> simp -failIfUnchanged [-List.getD_eq_getElem?_getD] at h1
 simp [h1] at q
 refine kwz2 (kwz2 ?_)
 exact Qdg hk (by rw [h03]; rfl)
 cases e
def c28 (svs : List SV) (b : Option SB) : QR := match svs, b with
 | [.sl (.sels l)], none => some ([l.length <= 1000000000, Yt l], .sl (.sels (Vp l)))
 | _, _ => none
theorem sat28 : Sat 28 (QC c28) := by
 refine Sat.imp (Sat.ex QqV) fun svs b K h => ?_
 obtain ⟨ps, v, e, hp, hk⟩ := Qo h
 unfold c28 at e
 split at e
 cases e
 rename_i l
 exact ⟨l.length, hp.1, hp.2.1, rfl, hk⟩
 cases e
def c12 (svs : List SV) (b : Option SB) : QR := match svs, b with
 | [.sl (.sels l), .sl (.sels r)], none => some ([l.length <= 1000000000 /\ r.length <= 1000000000, Yt l, Yt r], .bool (QgN l r))
 | _, _ => none
noncomputable def W12 : Wk := ⟨[(28, .pure c28)], Qm Tryz.f12, false, false, [.tmp 4], [4], [(5, 35)], []⟩
theorem has12 : Has 12 := hsf Tryz.f12
theorem QiE {p q : Prop} (k : q) (h : p := by first | omega | assumption) : p /\ q := ⟨h, k⟩
theorem sat12 : Sat 12 (QC c12) := by
 have hD : Qe W12.D := (Qe.cons has28 sat28 Qe.nil)
 refine W12.sa hD Tryz.f12 fun svs b K hP => ?_
 obtain ⟨ps, v, e, hp, hk⟩ := Qo hP
 unfold c12 at e
 split at e
 rename_i l r
 cases e
 obtain ⟨h01, h02, h03, _⟩ := hp
 have q1 := h02.len
 have q2 := h03.len
 have L5 : ∀ (mm : Nat) (i : Nat), (Vp l).length - i = mm -> ((Vp l).length = (Vp r).length /\ i <= (Vp l).length /\ QgN l r = QaC ((Vp l).drop i) ((Vp r).drop i)) -> W12.L K 5 (mkS 30 [(0, (.sl (.sels (Vp l)))), (1, (.sl (.sels (Vp r)))), (5, (.nat i))] [] 1) := by
  intro mm
  induction mm using Nat.strongRecOn with
  | _ mm ih =>
   intro i hm hI
   obtain ⟨k1, k2, k3⟩ := hI
   refine W12.aL hD (cond (decide (i < (Vp l).length)) ((i < (Vp l).length) /\ (i < (Vp r).length) /\ cond (!(QbR ((Vp l).getD i default) ((Vp r).getD i default))) (K (.val (.bool false)) none) ((i + 1 <= 9223372036854775807) /\ (W12).L K 5 (mkS 30 [(0, (.sl (.sels (Vp l)))), (1, (.sl (.sels (Vp r)))), (5, (.nat (i + 1)))] [] 1))) (K (.val (.bool true)) none)) ?_
   refine Qd ?_ ?_ <;> intro h1 <;> simp -failIfUnchanged [-List.getD_eq_getElem?_getD] at h1
   refine QiE (QiE ?_)
   refine Qd ?_ ?_ <;> intro h2 <;> simp -failIfUnchanged [-List.getD_eq_getElem?_getD] at h2
   refine VE hk ?_
   rw [k3, QdS h1 (by omega), h2]; rfl
   refine QiE ?_
   exact ih _ (by omega) (i + 1) rfl ⟨k1, by omega, by rw [k3, QdS h1 (by omega), h2]; rfl⟩
   refine VE hk ?_
   rw [k3, List.drop_eq_nil_iff.2 h1, List.drop_eq_nil_iff.2 (by omega)]; rfl
 refine W12.en ((l.length <= 1000000000) /\ (Yt l) /\ (r.length <= 1000000000) /\ (Yt r) /\ cond (!(decide ((Vp l).length = (Vp r).length))) (K (.val (.bool false)) none) ((W12).L K 5 (mkS 30 [(0, (.sl (.sels (Vp l)))), (1, (.sl (.sels (Vp r)))), (5, (.nat 0))] [] 1))) ?_
 refine QiE (QiE (QiE (QiE ?_)))
 refine Qd ?_ ?_ <;> intro h1 <;> simp -failIfUnchanged [-List.getD_eq_getElem?_getD] at h1
 refine VE hk ?_
 exact Qe1 h1
 exact L5 _ 0 rfl ⟨h1, by omega, rfl⟩
 cases e
def c13 (svs : List SV) (b : Option SB) : QR := match svs, b with
 | [.sl (.sels l)], none => some ([0 < l.length /\ l.length <= 1000000000], .sl (.sels (VJ l)))
 | _, _ => none
noncomputable def W13 : Wk := ⟨[(29, .fn c29)], Qm Tryz.f13, false, false, [.tmp 2], [22], [], []⟩
theorem has13 : Has 13 := hsf Tryz.f13
theorem kwz4 {p q : Prop} (k : q) (h : p := by first | omega | (simp; done) | (simp; omega)) : p /\ q := ⟨h, k⟩
theorem sat13 : Sat 13 (QC c13) := by
 have hD : Qe W13.D := (Qe.cons Qqn QpV Qe.nil)
 refine W13.sa hD Tryz.f13 fun svs b K hP => ?_
 obtain ⟨ps, v, e, hp, hk⟩ := Qo hP
 unfold c13 at e
 split at e
 rename_i l
 cases e
 obtain ⟨h01, _⟩ := hp
 refine W13.en ((0 < l.length) /\ cond (decide ((l.getD 0 default).kind = (23 : Int))) (K (.val (.sl (.sels l))) none) ((([l] : List (List SelD)).length <= 1000000000) /\ (([l] : List (List SelD)).flatten.length <= 1000000000000) /\ K (.val (.sl (.sels (VO (SelD.mk (23 : Int) (0 : Int) [] [] (0 : Int) (0 : Int) (0 : Int) (0 : Int)) ([l] : List (List SelD)).flatten)))) none)) ?_
 refine kwz4 ?_
 refine Qd ?_ ?_ <;> intro h1 <;> simp -failIfUnchanged [-List.getD_eq_getElem?_getD] at h1
 exact Qdg hk (by unfold VJ; rw [if_pos h1])
 refine kwz4 (kwz4 ?_)
 exact Qdg hk (by unfold VJ; rw [if_neg h1]; simp [Vg])
 cases e
end
section
open Go Go.RowKit Go.Shelf
def lays172_ren : Go.Shelf.Ren := ⟨fun | 172 => 153 | 244 => 158 | 245 => 157 | 247 => 165 | 279 => 161 | 280 => 162 | 281 => 163 | 282 => 164 | 287 => 156 | 316 => 166 | 171 => 167 | 205 => 71 | 321 => 159 | 322 => 160 | 243 => 168 | 246 => 169 | 283 => 170 | 284 => 171 | 285 => 172 | 286 => 173 | 129 => 175 | 317 => 174 | 318 => 176 | 319 => 177 | 320 => 178 | 337 => 179 | 338 => 180 | n => n, fun | 9 => 9 | 3 => 3 | 75 => 71 | 76 => 141 | 4 => 4 | 5 => 5 | 167 => 191 | 37 => 37 | 0 => 0 | 85 => 196 | 2 => 2 | 168 => 193 | 53 => 182 | 175 => 183 | 46 => 88 | 210 => 199 | 127 => 149 | 145 => 147 | 143 => 145 | 21 => 21 | 171 => 201 | 173 => 204 | 212 => 207 | 51 => 185 | 20 => 20 | 213 => 208 | 232 => 211 | 233 => 212 | 80 => 63 | n => n, fun | 15 => 4 | 16 => 5 | 17 => 6 | 18 => 7 | 19 => 8 | n => n⟩
theorem QjO : Go.Proofs.LaysC.n172 Tryz.prog lays172_ren := {
 mixed := by kernel_rfl,
 f129 := Tryz.func175.trans (congrArg some (by kernel_rfl)),
 f171 := Tryz.func167.trans (congrArg some (by kernel_rfl)),
 f172 := Tryz.func153.trans (congrArg some (by kernel_rfl)),
 f205 := Tryz.func71.trans (congrArg some (by kernel_rfl)),
 f243 := Tryz.func168.trans (congrArg some (by kernel_rfl)),
 f244 := Tryz.func158.trans (congrArg some (by kernel_rfl)),
 f245 := Tryz.func157.trans (congrArg some (by kernel_rfl)),
 f246 := Tryz.func169.trans (congrArg some (by kernel_rfl)),
 f247 := Tryz.func165.trans (congrArg some (by kernel_rfl)),
 f279 := Tryz.func161.trans (congrArg some (by kernel_rfl)),
 f280 := Tryz.func162.trans (congrArg some (by kernel_rfl)),
 f281 := Tryz.func163.trans (congrArg some (by kernel_rfl)),
 f282 := Tryz.func164.trans (congrArg some (by kernel_rfl)),
 f283 := Tryz.func170.trans (congrArg some (by kernel_rfl)),
 f284 := Tryz.func171.trans (congrArg some (by kernel_rfl)),
 f285 := Tryz.func172.trans (congrArg some (by kernel_rfl)),
 f286 := Tryz.func173.trans (congrArg some (by kernel_rfl)),
 f287 := Tryz.func156.trans (congrArg some (by kernel_rfl)),
 f316 := Tryz.func166.trans (congrArg some (by kernel_rfl)),
 f317 := Tryz.func174.trans (congrArg some (by kernel_rfl)),
 f318 := Tryz.func176.trans (congrArg some (by kernel_rfl)),
 f319 := Tryz.func177.trans (congrArg some (by kernel_rfl)),
 f320 := Tryz.func178.trans (congrArg some (by kernel_rfl)),
 f321 := Tryz.func159.trans (congrArg some (by kernel_rfl)),
 f322 := Tryz.func160.trans (congrArg some (by kernel_rfl)),
 f337 := Tryz.func179.trans (congrArg some (by kernel_rfl)),
 f338 := Tryz.func180.trans (congrArg some (by kernel_rfl)),
 t0 := Tryz.underlying0,
 a0 := Tryz.isAgg0,
 z0 := Tryz.sizeOf0,
 v0 := Tryz.zeroValue0,
 t2 := Tryz.underlying2,
 a2 := Tryz.isAgg2,
 z2 := Tryz.sizeOf2,
 v2 := Tryz.zeroValue2,
 t3 := Tryz.underlying3,
 a3 := Tryz.isAgg3,
 z3 := Tryz.sizeOf3,
 v3 := Tryz.zeroValue3,
 t4 := Tryz.underlying4,
 a4 := Tryz.isAgg4,
 z4 := Tryz.sizeOf4,
 v4 := Tryz.zeroValue4,
 t5 := Tryz.underlying5,
 a5 := Tryz.isAgg5,
 z5 := Tryz.sizeOf5,
 v5 := Tryz.zeroValue5,
 t9 := Tryz.underlying9,
 a9 := Tryz.isAgg9,
 z9 := Tryz.sizeOf9,
 v9 := Tryz.zeroValue9,
 t20 := Tryz.underlying20,
 a20 := Tryz.isAgg20,
 z20 := Tryz.sizeOf20,
 v20 := Tryz.zeroValue20,
 t21 := Tryz.underlying21,
 a21 := Tryz.isAgg21,
 z21 := Tryz.sizeOf21,
 v21 := Tryz.zeroValue21,
 t37 := Tryz.underlying37,
 a37 := Tryz.isAgg37,
 z37 := Tryz.sizeOf37,
 v37 := Tryz.zeroValue37,
 t46 := Tryz.underlying88,
 a46 := Tryz.isAgg88,
 z46 := Tryz.sizeOf88,
 v46 := Tryz.zeroValue88,
 t51 := Tryz.underlying185,
 a51 := Tryz.isAgg185,
 z51 := Tryz.sizeOf185,
 v51 := Tryz.zeroValue185,
 t53 := Tryz.underlying182,
 a53 := Tryz.isAgg182,
 z53 := Tryz.sizeOf182,
 v53 := Tryz.zeroValue182,
 t75 := Tryz.underlying71,
 a75 := Tryz.isAgg71,
 z75 := Tryz.sizeOf71,
 v75 := Tryz.zeroValue71,
 t76 := Tryz.underlying141,
 a76 := Tryz.isAgg141,
 z76 := Tryz.sizeOf141,
 v76 := Tryz.zeroValue141,
 t85 := Tryz.underlying196,
 a85 := Tryz.isAgg196,
 z85 := Tryz.sizeOf196,
 v85 := Tryz.zeroValue196,
 t127 := Tryz.underlying149,
 a127 := Tryz.isAgg149,
 z127 := Tryz.sizeOf149,
 v127 := Tryz.zeroValue149,
 t143 := Tryz.underlying145,
 a143 := Tryz.isAgg145,
 z143 := Tryz.sizeOf145,
 v143 := Tryz.zeroValue145,
 t145 := Tryz.underlying147,
 a145 := Tryz.isAgg147,
 z145 := Tryz.sizeOf147,
 v145 := Tryz.zeroValue147,
 t167 := Tryz.underlying191,
 a167 := Tryz.isAgg191,
 z167 := Tryz.sizeOf191,
 v167 := Tryz.zeroValue191,
 t168 := Tryz.underlying193,
 a168 := Tryz.isAgg193,
 z168 := Tryz.sizeOf193,
 v168 := Tryz.zeroValue193,
 t171 := Tryz.underlying201,
 a171 := Tryz.isAgg201,
 z171 := Tryz.sizeOf201,
 v171 := Tryz.zeroValue201,
 t173 := Tryz.underlying204,
 a173 := Tryz.isAgg204,
 z173 := Tryz.sizeOf204,
 v173 := Tryz.zeroValue204,
 t175 := Tryz.underlying183,
 a175 := Tryz.isAgg183,
 z175 := Tryz.sizeOf183,
 v175 := Tryz.zeroValue183,
 t210 := Tryz.underlying199,
 a210 := Tryz.isAgg199,
 z210 := Tryz.sizeOf199,
 v210 := Tryz.zeroValue199,
 t212 := Tryz.underlying207,
 a212 := Tryz.isAgg207,
 z212 := Tryz.sizeOf207,
 v212 := Tryz.zeroValue207,
 t213 := Tryz.underlying208,
 a213 := Tryz.isAgg208,
 z213 := Tryz.sizeOf208,
 t232 := Tryz.underlying211,
 a232 := Tryz.isAgg211,
 z232 := Tryz.sizeOf211,
 v232 := Tryz.zeroValue211,
 t233 := Tryz.underlying212,
 a233 := Tryz.isAgg212,
 z233 := Tryz.sizeOf212,
 v233 := Tryz.zeroValue212,
 g15 := by kernel_rfl,
 g16 := by kernel_rfl,
 g17 := by kernel_rfl,
 g18 := by kernel_rfl,
 g19 := by kernel_rfl,
 t80 := Tryz.underlying63,
 a80 := Tryz.isAgg63,
 z80 := Tryz.sizeOf63,
 v80 := Tryz.zeroValue63,
 i0 := by kernel_rfl,
 i2 := by kernel_rfl,
 i3 := by kernel_rfl,
 i4 := by kernel_rfl,
 i5 := by kernel_rfl,
 i9 := by kernel_rfl,
 i20 := by kernel_rfl,
 i21 := by kernel_rfl,
 i37 := by kernel_rfl,
 i46 := by kernel_rfl,
 i51 := by kernel_rfl,
 i53 := by kernel_rfl,
 i75 := by kernel_rfl,
 i76 := by kernel_rfl,
 i80 := by kernel_rfl,
 i85 := by kernel_rfl,
 i127 := by kernel_rfl,
 i143 := by kernel_rfl,
 i145 := by kernel_rfl,
 i167 := by kernel_rfl,
 i168 := by kernel_rfl,
 i171 := by kernel_rfl,
 i173 := by kernel_rfl,
 i175 := by kernel_rfl,
 i210 := by kernel_rfl,
 i212 := by kernel_rfl,
 i232 := by kernel_rfl,
 i233 := by kernel_rfl,
 m15 := by kernel_rfl,
 m16 := by kernel_rfl,
 m17 := by kernel_rfl,
 m18 := by kernel_rfl,
 m19 := by kernel_rfl,
 c0 := by kernel_rfl,
 c2 := by kernel_rfl,
 c3 := by kernel_rfl,
 c4 := by kernel_rfl,
 c5 := by kernel_rfl,
 c9 := by kernel_rfl,
 c20 := by kernel_rfl,
 c21 := by kernel_rfl,
 c37 := by kernel_rfl,
 c46 := by kernel_rfl,
 c51 := by kernel_rfl,
 c53 := by kernel_rfl,
 c75 := by kernel_rfl,
 c76 := by kernel_rfl,
 c80 := by kernel_rfl,
 c85 := by kernel_rfl,
 c127 := by kernel_rfl,
 c143 := by kernel_rfl,
 c145 := by kernel_rfl,
 c167 := by kernel_rfl,
 c168 := by kernel_rfl,
 c171 := by kernel_rfl,
 c173 := by kernel_rfl,
 c175 := by kernel_rfl,
 c210 := by kernel_rfl,
 c212 := by kernel_rfl,
 c213 := by kernel_rfl,
 c232 := by kernel_rfl,
 c233 := by kernel_rfl }
def lays105_ren : Go.Shelf.Ren := ⟨fun | 105 => 143 | 212 => 149 | 99 => 113 | 165 => 90 | 166 => 91 | 170 => 150 | 169 => 92 | 263 => 154 | 264 => 155 | 206 => 128 | 240 => 105 | 241 => 106 | 276 => 120 | 277 => 121 | n => n, fun | 9 => 9 | 3 => 3 | 4 => 4 | 20 => 20 | 0 => 0 | 46 => 88 | 109 => 179 | 5 => 5 | 72 => 139 | 76 => 141 | 51 => 185 | 146 => 186 | 53 => 182 | 148 => 188 | 70 => 137 | 37 => 37 | 75 => 71 | 127 => 149 | 164 => 161 | 80 => 63 | n => n, fun | n => n⟩
theorem Qba : Go.Proofs.Lays.n105 Tryz.prog lays105_ren := {
 mixed := by kernel_rfl,
 f99 := Tryz.func113.trans (congrArg some (by kernel_rfl)),
 f105 := Tryz.func143.trans (congrArg some (by kernel_rfl)),
 f165 := Tryz.func90.trans (congrArg some (by kernel_rfl)),
 f166 := Tryz.func91.trans (congrArg some (by kernel_rfl)),
 f169 := Tryz.func92.trans (congrArg some (by kernel_rfl)),
 f170 := Tryz.func150.trans (congrArg some (by kernel_rfl)),
 f206 := Tryz.func128.trans (congrArg some (by kernel_rfl)),
 f212 := Tryz.func149.trans (congrArg some (by kernel_rfl)),
 f240 := Tryz.func105.trans (congrArg some (by kernel_rfl)),
 f241 := Tryz.func106.trans (congrArg some (by kernel_rfl)),
 f263 := Tryz.func154.trans (congrArg some (by kernel_rfl)),
 f264 := Tryz.func155.trans (congrArg some (by kernel_rfl)),
 f276 := Tryz.func120.trans (congrArg some (by kernel_rfl)),
 f277 := Tryz.func121.trans (congrArg some (by kernel_rfl)),
 t0 := Tryz.underlying0,
 a0 := Tryz.isAgg0,
 z0 := Tryz.sizeOf0,
 v0 := Tryz.zeroValue0,
 t3 := Tryz.underlying3,
 a3 := Tryz.isAgg3,
 z3 := Tryz.sizeOf3,
 v3 := Tryz.zeroValue3,
 t4 := Tryz.underlying4,
 a4 := Tryz.isAgg4,
 z4 := Tryz.sizeOf4,
 v4 := Tryz.zeroValue4,
 t5 := Tryz.underlying5,
 a5 := Tryz.isAgg5,
 z5 := Tryz.sizeOf5,
 v5 := Tryz.zeroValue5,
 t9 := Tryz.underlying9,
 a9 := Tryz.isAgg9,
 z9 := Tryz.sizeOf9,
 v9 := Tryz.zeroValue9,
 t20 := Tryz.underlying20,
 a20 := Tryz.isAgg20,
 z20 := Tryz.sizeOf20,
 v20 := Tryz.zeroValue20,
 t37 := Tryz.underlying37,
 a37 := Tryz.isAgg37,
 z37 := Tryz.sizeOf37,
 v37 := Tryz.zeroValue37,
 t46 := Tryz.underlying88,
 a46 := Tryz.isAgg88,
 z46 := Tryz.sizeOf88,
 v46 := Tryz.zeroValue88,
 t51 := Tryz.underlying185,
 a51 := Tryz.isAgg185,
 z51 := Tryz.sizeOf185,
 v51 := Tryz.zeroValue185,
 t53 := Tryz.underlying182,
 a53 := Tryz.isAgg182,
 z53 := Tryz.sizeOf182,
 v53 := Tryz.zeroValue182,
 t70 := Tryz.underlying137,
 a70 := Tryz.isAgg137,
 z70 := Tryz.sizeOf137,
 v70 := Tryz.zeroValue137,
 t72 := Tryz.underlying139,
 a72 := Tryz.isAgg139,
 z72 := Tryz.sizeOf139,
 v72 := Tryz.zeroValue139,
 t75 := Tryz.underlying71,
 a75 := Tryz.isAgg71,
 z75 := Tryz.sizeOf71,
 v75 := Tryz.zeroValue71,
 t76 := Tryz.underlying141,
 a76 := Tryz.isAgg141,
 z76 := Tryz.sizeOf141,
 v76 := Tryz.zeroValue141,
 t109 := Tryz.underlying179,
 a109 := Tryz.isAgg179,
 z109 := Tryz.sizeOf179,
 v109 := Tryz.zeroValue179,
 t127 := Tryz.underlying149,
 a127 := Tryz.isAgg149,
 z127 := Tryz.sizeOf149,
 v127 := Tryz.zeroValue149,
 t146 := Tryz.underlying186,
 a146 := Tryz.isAgg186,
 z146 := Tryz.sizeOf186,
 v146 := Tryz.zeroValue186,
 t148 := Tryz.underlying188,
 a148 := Tryz.isAgg188,
 z148 := Tryz.sizeOf188,
 v148 := Tryz.zeroValue188,
 t164 := Tryz.underlying161,
 a164 := Tryz.isAgg161,
 z164 := Tryz.sizeOf161,
 v164 := Tryz.zeroValue161 }
theorem Qnz : Builder.Extra Tryz.prog lays105_ren := {
 sizeBuilder := by kernel_rfl,
 liesBuilder := by kernel_rfl,
 t5 := Qba.t5,
 a5 := Qba.a5,
 z5 := Qba.z5,
 v5 := Qba.v5,
 infoByte := by kernel_rfl,
 cellsByte := by kernel_rfl,
 sizeByte := by kernel_rfl,
 neB5 := by decide }
theorem Sat.lib {f : FuncId} {P : Spec} (h : ∀ (w : World) (ω : Wit) (svs : List SV) (args : Array Value) (b : Option SB) (K : Out -> Option SB -> Prop),
 (∀ g, Qhx g = true -> ∃ t v, w.cell? ⟨g, 0, none⟩ = some (.iface t v)) -> args.size = svs.length -> (∀ (i : Nat) (s : SV) (v : Value), svs[i]? = some s -> args[i]? = some v -> Rel ω s v) -> P svs b K ->
 b = none /\ Calls Tryz.prog f args w fun e w' => ∃ v s, e = .returned v /\ K (.val s) none /\ s.lt 0 = true /\ Rel ω s v /\ Below w.heap.size w w') : Sat f P := by
 intro g0 w M ω svs args b K hS hn hr hP
 obtain ⟨rfl, hc⟩ := h w ω svs args b K (fun g hg => by
  obtain ⟨t, v, T, hG⟩ := g0.err g hg
  obtain ⟨fr, hh⟩ := hS.gam g _ _ (hS.gl _ _ hG)
  exact ⟨t, v, by rw [Z9 hh]; rfl⟩) hn hr hP
 refine hc.mono ?_
 rintro e w' ⟨v, s, he, hk, hl, hv, hb⟩
 refine ⟨v, .val s, none, he, hk, ω, loc none, ?_, (fun c e => by cases e), hl, hv⟩
 have := hS.grow (Wit.le.refl ω) hb.os hb.tape hb.output hb.size hb.block (fun b c T e => .inl e)
 rw [hS.wn] at this
 exact this
theorem QgR {ω : Wit} {a b : SV} {u v : Value} (h : Rel ω a u) (k : Rel ω b v) : Rel ω (.tup [a, b]) (.tuple #[u, v]) := by
 refine .tup _ _ rfl fun i s x h1 h2 => ?_
 match i with
 | 0 => simp at h1 h2; rw [<- h1, <- h2]; exact h
 | 1 => simp at h1 h2; rw [<- h1, <- h2]; exact k
 | i + 2 => simp at h1
theorem Qpk (l : Bs) : ∀ n : Nat, n <= l.foldl (fun n c => 10 * n + (c.toNat - 48)) n := by
 induction l with
 | nil => intro n; exact Nat.le_refl _
 | cons c l ih => intro n; have := ih (10 * n + (c.toNat - 48)); simp only [List.foldl_cons]; omega
theorem QjA : ∀ (l : Bs) (acc : Nat), acc < 18446744073709551616 -> (∀ c ∈ l, Qy c.toNat = true) ->
 Lib.parseUint10 acc l = if l.foldl (fun n c => 10 * n + (c.toNat - 48)) acc < 18446744073709551616 then .ok (l.foldl (fun n c => 10 * n + (c.toNat - 48)) acc) else .range
 | [], acc, h, hd => by rw [Lib.parseUint10, List.foldl_nil, if_pos h]
 | c :: r, acc, h, hd => by
  have hc := hd c (by simp)
  simp only [Qy, Bool.and_eq_true, decide_eq_true_eq] at hc
  have hf := Qpk r (10 * acc + (c.toNat - 48))
  rw [Lib.parseUint10, if_pos hc, List.foldl_cons]
  split
  rw [if_neg (by omega)]
  split
  rw [if_neg (by omega)]
  rw [show acc * 10 + (c.toNat - 48) = 10 * acc + (c.toNat - 48) from by omega]
  exact QjA r _ (by omega) fun x hx => hd x (by simp [hx])
theorem QhL {l : Bs} (h0 : 0 < l.length) (hd : ∀ c ∈ l, Qy c.toNat = true) : Lib.atoiAll l = if YA l <= 9223372036854775807 then .ok (YA l : Int) else .range := by
 match l, h0 with
 | c :: r, _ =>
  have hc := hd c (by simp)
  simp only [Qy, Bool.and_eq_true, decide_eq_true_eq] at hc
  have hp := QjA (c :: r) 0 (by omega) hd
  have e : (c :: r).foldl (fun n c => 10 * n + (c.toNat - 48)) 0 = YA (c :: r) := rfl
  rw [e] at hp
  unfold Lib.atoiAll
  simp only
  rw [if_neg (by omega), Lib.parseMag, if_neg (by simp), hp]
  by_cases h1 : YA (c :: r) < 18446744073709551616
  rw [if_pos h1]
  simp only
  by_cases h2 : YA (c :: r) <= 9223372036854775807
  rw [if_neg (by omega), if_neg (by omega), if_pos h2, if_neg (by omega)]
  rw [if_pos (by omega), if_neg h2]
  rw [if_neg h1, if_neg (by omega)]
def c153 (svs : List SV) (b : Option SB) (K : Out -> Option SB -> Prop) : Prop := match svs, b with
 | [.str l], none => l.length <= 1000000 /\ 0 < l.length /\ (∀ c ∈ l, Qy c.toNat = true) /\
  cond (decide (YA l <= 9223372036854775807)) (K (.val (.tup [.nat (YA l), .nilif])) none) (∀ n : Int, K (.val (.tup [.int .i64 n, .ifx])) none)
 | _, _ => False
theorem Qr7 : Has 153 := hsf Tryz.f153
theorem Qq0 : Sat 153 c153 := by
 refine Sat.lib fun w ω svs args b K hg hn hr hP => ?_
 unfold c153 at hP
 split at hP
 rename_i l
 obtain ⟨h1, h2, h3, h4⟩ := hP
 refine ⟨rfl, ?_⟩
 obtain ⟨xs⟩ := args
 match xs, hn with
 | [x], _ =>
  have hx := (hr 0 _ x rfl rfl).str_inv
  subst hx
  have hs : (⟨l.toArray⟩ : ByteArray).data.toList = l := rfl
  have hz : (⟨l.toArray⟩ : ByteArray).size = l.length := rfl
  have ha := QhL h2 h3
  by_cases hv : YA l <= 9223372036854775807
  rw [if_pos hv] at ha
  rw [decide_eq_true hv] at h4
  have hA := Any.strconv_Atoi_ok QjO ⟨l.toArray⟩ (by rw [hz]; omega) _ (by rw [hs]; exact ha) w
  refine hA.mono ?_
  rintro e w' ⟨he, hw⟩
  refine ⟨_, _, he, h4, rfl, QgR (.nat _) .nilif, ?_⟩
  rcases hw with rfl | ⟨t, rfl⟩
  exact Below.refl _ _
  exact Lib.bytesWorld_below w _ t
  rw [if_neg hv] at ha
  rw [decide_eq_false hv] at h4
  obtain ⟨t, v, hc⟩ := hg 5 rfl
  have hA := Any.strconv_Atoi_range QjO ⟨l.toArray⟩ (by rw [hz]; omega) (by rw [hs]; exact ha) _ w hc (.inr ⟨t, v, rfl⟩)
  refine hA.mono ?_
  rintro e w' ⟨N, he, _, _, hb⟩
  exact ⟨_, _, he, h4 _, rfl, QgR (.int _ _) (.ifx _ _), hb⟩
 exact hP.elim
def c143 (svs : List SV) (b : Option SB) : QR := match svs, b with
 | [.str l, .nat c], none => some ([l.length * c <= 140737488355328 /\ c <= 9223372036854775807], .str (Lib.repeatL l c))
 | _, _ => none
theorem Qsc : Has 143 := hsf Tryz.f143
theorem Qq5 : Sat 143 (QC c143) := by
 refine Sat.lib fun w ω svs args b K hg hn hr hP => ?_
 obtain ⟨ps, v, e, hp, hk⟩ := Qo hP
 unfold c143 at e
 split at e
 rename_i l c
 cases e
 refine ⟨rfl, ?_⟩
 obtain ⟨xs⟩ := args
 match xs, hn with
 | [x, y], _ =>
  have hx := (hr 0 _ x rfl rfl).str_inv
  have hy := (hr 1 _ y rfl rfl).nat_inv
  subst hx
  subst hy
  have hz : (⟨l.toArray⟩ : ByteArray).size = l.length := rfl
  have hA := Any.strings_Repeat Qba Qnz ⟨l.toArray⟩ c w hp.1.2 (by rw [hz]; exact hp.1.1)
  refine hA.mono ?_
  rintro e w' ⟨he, hb⟩
  exact ⟨_, _, he, hk, rfl, .str _, hb⟩
 cases e
end
end Go.Proofs.YtengepcafdnalaaGreatDoor
