/-
  Parts of the proof that the law FnParseOtherwise holds for every input (texts Nc). Conditions: none.
-/
import Derived.Test.YtengepcafdnalaaGreatDoorM40
namespace Go.Proofs.YtengepcafdnalaaGreatDoor
section
open Go Go.RowKit
set_option maxRecDepth 20000
theorem Qns {l : List SelD} {j : Nat} (h : j < l.length) : l.getD j default ∈ l := by
 simp [List.getD_eq_getElem?_getD, List.getElem?_eq_getElem h]
def c52 (m : Nat) (svs : List SV) (b : Option SB) : QR := match svs, b with
 | [.sl (.sels l), .nat i, x], none => match toI x with
  | some e => some ([l.length <= 1000000, i < l.length, e <= l.length, e <= ((m : Nat) : Int) + ((i : Nat) : Int), ((i : Nat) : Int) < e], .bool (szB m l i e))
  | _ => none
 | _, _ => none
theorem Qqk : Has 52 := hsf Tryz.f52
def c52s (m : Nat) (svs : List SV) (b : Option SB) : QR := match svs, b with
 | [.sl (.sels l), .nat i, .int .i64 e], none => some ([l.length <= 1000000, i < l.length, e <= l.length, e <= ((m + 1 : Nat) : Int) + ((i : Nat) : Int), ((i : Nat) : Int) < e], .bool (szB (m + 1) l i e))
 | _, _ => none
noncomputable def W52 (m : Nat) : Wk := ⟨[(52, .pure (c52 m))], Qm Tryz.f52, false, false, [.tmp 6], [4], [(5, 387)], []⟩
theorem ncz1 {c0 p0 q : Prop} (k : q) (h : c0 -> p0 /\ True := by intro g0; (try simp at g0); exact ⟨(by first | omega | (unfold inI; omega) | (have q1 := UF h2; first | omega | (unfold inI; omega))), trivial⟩) : (c0 -> p0 /\ True) /\ q := ⟨h, k⟩
theorem Qc9 {p q : Prop} (k : q) (h : p := by first | omega | (unfold inI; omega) | (have q1 := UF h2; first | omega | (unfold inI; omega))) : p /\ q := ⟨h, k⟩
theorem QqP (m : Nat) (hG : Sat 52 (QC (c52 m))) : Sat 52 (QC (c52s m)) := by
 have hD : Qe (W52 m).D := (Qe.cons Qqk hG Qe.nil)
 refine (W52 m).sa hD Tryz.f52 fun svs b K hP => ?_
 obtain ⟨ps, v, e, hp, hk⟩ := Qo hP
 unfold c52s at e
 split at e
 rename_i l i e
 cases e
 obtain ⟨h01, h02, h03, h04, h05, _⟩ := hp
 have L5 : ∀ (mm : Nat) (k : Nat), (i + (l.getD i default).size - k).toNat = mm -> ((k : Int) <= i + (l.getD i default).size /\ szB (m + 1) l i e = Qgx (szB m l) l (i + (l.getD i default).size) k /\ 1 <= (l.getD i default).size /\ (i : Int) + (l.getD i default).size <= e /\ i + 1 <= k) -> (W52 m).L K 5 (mkS 44 [(0, (.sl (.sels l))), (1, (.nat i)), (7, (.int .i64 ((l.getD i default).size))), (8, (.nat k))] [] 1) := by
  intro mm
  induction mm using Nat.strongRecOn with
  | _ mm ih =>
   intro k hm hI
   obtain ⟨k1, k2, k3, k4, k5⟩ := hI
   refine (W52 m).aL hD (have a0 := ((i : Nat) : Int) + (l.getD i default).size; (inI a0) /\ cond (decide (((k : Nat) : Int) < a0)) ((inI a0) /\ (l.length <= 1000000) /\ (k < l.length) /\ (a0 <= l.length) /\ (a0 <= ((m : Nat) : Int) + ((k : Nat) : Int)) /\ (((k : Nat) : Int) < a0) /\ cond (!(szB m l k a0)) (K (.val (.bool false)) none) ((k < l.length) /\ (inI (((k : Nat) : Int) + (l.getD k default).size)) /\ (W52 m).L K 5 (mkS 44 [(0, (.sl (.sels l))), (1, (.nat i)), (7, (.int .i64 ((l.getD i default).size))), (8, (.int .i64 (((k : Nat) : Int) + (l.getD k default).size)))] [] 1))) (K (.val (.bool true)) none)) ?_
   refine Qc9 ?_
   refine Qd ?_ ?_ <;> intro h1 <;> simp -failIfUnchanged [-List.getD_eq_getElem?_getD, -UInt8.toNat_or] at h1
   refine Qc9 (Qc9 (Qc9 (Qc9 (Qc9 (Qc9 ?_)))))
   refine Qd ?_ ?_ <;> intro h2 <;> simp -failIfUnchanged [-List.getD_eq_getElem?_getD, -UInt8.toNat_or] at h2
   refine VE hk ?_
   rw [k2, Qgx, if_pos h1, if_neg (by rw [h2]; exact Bool.false_ne_true)]
   refine Qc9 (Qc9 ?_)
   obtain ⟨q1, q2⟩ := UF h2
   have e0 : ((k : Int) + (l.getD k default).size) = ((k + (l.getD k default).size.toNat : Nat) : Int) := by omega
   rw [e0]
   exact Wk.L.rn [0] (ih _ (by omega) (k + (l.getD k default).size.toNat) rfl ⟨by omega, by rw [k2, Qgx, if_pos h1, if_pos h2, if_pos q1], k3, k4, by omega⟩)
   refine VE hk ?_
   rw [k2, Qgx, if_neg (by omega)]
 refine (W52 m).en (have a0 := l.getD i default; (i < l.length) /\ ((decide (a0.size < (1 : Int))) = false -> (inI (e - ((i : Nat) : Int))) /\ True) /\ cond ((decide (a0.size < (1 : Int))) || (decide ((e - ((i : Nat) : Int)) < a0.size))) (K (.val (.bool false)) none) ((i + 1 <= 9223372036854775807) /\ (W52 m).L K 5 (mkS 44 [(0, (.sl (.sels l))), (1, (.nat i)), (7, (.int .i64 (a0.size))), (8, (.nat (i + 1)))] [] 1))) ?_
 refine Qc9 (ncz1 ?_)
 refine Qd ?_ ?_ <;> intro h1 <;> simp -failIfUnchanged [-List.getD_eq_getElem?_getD, -UInt8.toNat_or] at h1
 refine VE hk ?_
 rw [szB, if_pos (by omega)]
 refine Qc9 ?_
 exact L5 _ (i + 1) rfl ⟨by omega, by rw [szB, if_neg (by omega)], by omega, by omega, Nat.le_refl _⟩
 cases e
theorem QpR : ∀ m, Sat 52 (QC (c52 m))
 | 0 => by
  intro g0 w M ω svs args b K hS hn hr hP
  exfalso
  obtain ⟨ps, v, e, hp, hk⟩ := Qo hP
  unfold c52 at e
  split at e
  split at e
  cases e
  have := hp.2.2.2.1
  have := hp.2.2.2.2.1
  omega
  cases e
  cases e
 | m + 1 => by
  refine Sat.wk (QqP m (QpR m)) fun svs b K h => ?_
  obtain ⟨ps, v, e, hp, hk⟩ := Qo h
  unfold c52 at e
  split at e
  rename_i l i x
  split at e
  rename_i e' hx
  cases e
  exact ⟨[.sl (.sels l), .nat i, .int .i64 e'], ⟨fun ω v hr => hr, fun ω v hr => hr, fun ω v => YG hx, trivial⟩, hp.1, hp.2.1, hp.2.2.1, hp.2.2.2.1, hp.2.2.2.2.1, hk⟩
  cases e
  cases e
theorem QiR (l : List SelD) (i : Nat) : (Ys l i).length <= l.length := by
 unfold Ys
 split
 simp
 rw [List.length_drop, List.length_take]; omega
def c54 (svs : List SV) (b : Option SB) : QR := match svs, b with
 | [.sl (.sels l), .nat i], none => some ([l.length <= 1000000, JH l i], .bool (shB l i))
 | _, _ => none
noncomputable def W54 : Wk := ⟨[(17, .fn c17), (24, .pure c24), (55, .pure c55), (79, .pure c79), (80, .pure c80)], Qm Tryz.f54, false, false, [.tmp 4], [4], [(6, 161), (17, 289)], []⟩
theorem has54 : Has 54 := hsf Tryz.f54
theorem ncz4 {c0 p0 p1 q : Prop} (k : q) (h : c0 -> p0 /\ p1 /\ True := by intro g0; (try simp at g0); exact ⟨(by first | omega | exact (n5 _ (by omega)).1 | exact fun k hk => by (have := (n3 k hk).2.1; omega) | exact fun _ => n2 | exact fun _ => (n5 _ (by omega)).2 | (have := n6 i; omega) | (have := n6 ((Qc l i).getD 0 0); omega) | (have := (n5 0 (by omega)).1; omega) | (simp; done)), (by first | omega | exact (n5 _ (by omega)).1 | exact fun k hk => by (have := (n3 k hk).2.1; omega) | exact fun _ => n2 | exact fun _ => (n5 _ (by omega)).2 | (have := n6 i; omega) | (have := n6 ((Qc l i).getD 0 0); omega) | (have := (n5 0 (by omega)).1; omega) | (simp; done)), trivial⟩) : (c0 -> p0 /\ p1 /\ True) /\ q := ⟨h, k⟩
theorem Z5 {c0 p0 q : Prop} (k : q) (h : c0 -> p0 /\ True := by intro g0; (try simp at g0); exact ⟨(by first | omega | exact (n5 _ (by omega)).1 | exact fun k hk => by (have := (n3 k hk).2.1; omega) | exact fun _ => n2 | exact fun _ => (n5 _ (by omega)).2 | (have := n6 i; omega) | (have := n6 ((Qc l i).getD 0 0); omega) | (have := (n5 0 (by omega)).1; omega) | (simp; done)), trivial⟩) : (c0 -> p0 /\ True) /\ q := ⟨h, k⟩
theorem Qat {p q : Prop} (k : q) (h : p := by first | omega | exact (n5 _ (by omega)).1 | exact fun k hk => by (have := (n3 k hk).2.1; omega) | exact fun _ => n2 | exact fun _ => (n5 _ (by omega)).2 | (have := n6 i; omega) | (have := n6 ((Qc l i).getD 0 0); omega) | (have := (n5 0 (by omega)).1; omega) | (simp; done)) : p /\ q := ⟨h, k⟩
theorem sat54 : Sat 54 (QC c54) := by
 have hD : Qe W54.D := (Qe.cons Qj3 Qjk (Qe.cons has24 sat24 (Qe.cons Qqj QpQ (Qe.cons has79 sat79 (Qe.cons Qqi QpP Qe.nil)))))
 refine W54.sa hD Tryz.f54 fun svs b K hP => ?_
 obtain ⟨ps, v, e, hp, hk⟩ := Qo hP
 unfold c54 at e
 split at e
 rename_i l i
 cases e
 obtain ⟨h01, h02, _⟩ := hp
 obtain ⟨n1, n2, n3, n4⟩ := h02.kids
 have n5 : ∀ j, j < (Qc l i).length -> (Qc l i).getD j 0 < l.length /\ 0 <= (l.getD ((Qc l i).getD j 0) default).size /\ (((Qc l i).getD j 0 : Nat) : Int) + (l.getD ((Qc l i).getD j 0) default).size <= l.length := fun j hj => ⟨(n3 _ (Q6 hj)).1, (n3 _ (Q6 hj)).2.2.1, (n3 _ (Q6 hj)).2.2.2.1⟩
 have n6 := QiR l
 have L6 : ∀ (mm : Nat) (j : Nat), (Qc l i).length - j = mm -> ((l.getD i default).kind = 23 /\ j <= (Qc l i).length /\ ∀ q, q < j -> Q9 (knd l ((Qc l i).getD q 0)) = true) -> W54.L K 6 (mkS 149 [(0, (.sl (.sels l))), (5, (.own 1)), (7, (.nat j))] [(1, .row (.ints (Qc l i)) true)] 2) := by
  intro mm
  induction mm using Nat.strongRecOn with
  | _ mm ih =>
   intro j hm hI
   obtain ⟨k0, k1, k2⟩ := hI
   refine W54.aL hD (cond (decide (j < (Qc l i).length)) ((j < (Qc l i).length) /\ (j < (Qc l i).length) /\ ((Qc l i).getD j 0 < l.length) /\ cond (!(Q9 ((l.getD ((Qc l i).getD j 0) default).kind))) (K (.val (.bool false)) none) ((j + 1 <= 9223372036854775807) /\ (W54).L K 6 (mkS 149 [(0, (.sl (.sels l))), (5, (.own 1)), (7, (.nat (j + 1)))] [(1, .row (.ints (Qc l i)) true)] 2))) (K (.val (.bool (decide (0 < (Qc l i).length)))) none)) ?_
   refine Qd ?_ ?_ <;> intro h1 <;> simp -failIfUnchanged [-List.getD_eq_getElem?_getD, -UInt8.toNat_or] at h1
   refine Qat (Qat (Qat ?_))
   refine Qd ?_ ?_ <;> intro h2 <;> simp -failIfUnchanged [-List.getD_eq_getElem?_getD, -UInt8.toNat_or] at h2
   refine VE hk ?_
   unfold shB
   have kk : knd l i = (l.getD i default).kind := rfl
   rw [if_pos (by omega), Ur (p := fun j => Q9 (knd l ((Qc l i).getD j 0))) h1 h2]
   rfl
   refine Qat ?_
   exact ih _ (by omega) (j + 1) rfl ⟨k0, by omega, fun q hq => by
    rcases (by omega : q < j \/ q = j) with w | w
    exact k2 q w
    subst w; exact h2⟩
   refine VE hk ?_
   unfold shB
   have kk : knd l i = (l.getD i default).kind := rfl
   rw [if_pos (by omega), J1 (p := fun j => Q9 (knd l ((Qc l i).getD j 0))) (fun j hj => k2 j (by omega))]
   rfl
 have L17 : ∀ (mm : Nat) (j : Nat), (Qc l i).length - j = mm -> ((l.getD i default).kind = 21 /\ j <= (Qc l i).length /\ ∀ q, q < j -> (Qp (knd l ((Qc l i).getD q 0)) && !(decide (knd l ((Qc l i).getD q 0) = 2) && decide (0 < q))) = true) -> W54.L K 17 (mkS 149 [(0, (.sl (.sels l))), (5, (.own 1)), (8, (.nat j))] [(1, .row (.ints (Qc l i)) true)] 2) := by
  intro mm
  induction mm using Nat.strongRecOn with
  | _ mm ih =>
   intro j hm hI
   obtain ⟨k0, k1, k2⟩ := hI
   refine W54.aL hD (cond (decide (j < (Qc l i).length)) ((j < (Qc l i).length) /\ (j < (Qc l i).length) /\ ((Qc l i).getD j 0 < l.length) /\ cond (!(Qp ((l.getD ((Qc l i).getD j 0) default).kind))) (K (.val (.bool false)) none) ((j < (Qc l i).length) /\ (j < (Qc l i).length) /\ ((Qc l i).getD j 0 < l.length) /\ cond ((decide ((l.getD ((Qc l i).getD j 0) default).kind = (2 : Int))) && (decide (0 < j))) (K (.val (.bool false)) none) ((j + 1 <= 9223372036854775807) /\ (W54).L K 17 (mkS 149 [(0, (.sl (.sels l))), (5, (.own 1)), (8, (.nat (j + 1)))] [(1, .row (.ints (Qc l i)) true)] 2)))) (K (.val (.bool true)) none)) ?_
   refine Qd ?_ ?_ <;> intro h1 <;> simp -failIfUnchanged [-List.getD_eq_getElem?_getD, -UInt8.toNat_or] at h1
   refine Qat (Qat (Qat ?_))
   refine Qd ?_ ?_ <;> intro h2 <;> simp -failIfUnchanged [-List.getD_eq_getElem?_getD, -UInt8.toNat_or] at h2
   refine VE hk ?_
   unfold shB
   have kk : knd l i = (l.getD i default).kind := rfl
   rw [if_neg (by omega), if_neg (by omega), if_pos (by omega), Ur (p := fun j => Qp (knd l ((Qc l i).getD j 0)) && !(decide (knd l ((Qc l i).getD j 0) = 2) && decide (0 < j))) h1 (show (Qp (l.getD ((Qc l i).getD j 0) default).kind && !(decide ((l.getD ((Qc l i).getD j 0) default).kind = 2) && decide (0 < j))) = false by rw [h2]; rfl)]
   refine Qat (Qat (Qat ?_))
   refine Qd ?_ ?_ <;> intro h3 <;> simp -failIfUnchanged [-List.getD_eq_getElem?_getD, -UInt8.toNat_or] at h3
   refine VE hk ?_
   unfold shB
   have kk : knd l i = (l.getD i default).kind := rfl
   rw [if_neg (by omega), if_neg (by omega), if_pos (by omega), Ur (p := fun j => Qp (knd l ((Qc l i).getD j 0)) && !(decide (knd l ((Qc l i).getD j 0) = 2) && decide (0 < j))) h1 (show (Qp (l.getD ((Qc l i).getD j 0) default).kind && !(decide ((l.getD ((Qc l i).getD j 0) default).kind = 2) && decide (0 < j))) = false by rw [decide_eq_true h3.1, decide_eq_true h3.2]; simp)]
   refine Qat ?_
   exact ih _ (by omega) (j + 1) rfl ⟨k0, by omega, fun q hq => by
    rcases (by omega : q < j \/ q = j) with w | w
    exact k2 q w
    subst w; show (Qp (l.getD ((Qc l i).getD q 0) default).kind && !(decide ((l.getD ((Qc l i).getD q 0) default).kind = 2) && decide (0 < q))) = true; rw [h2]; simp only [Bool.true_and, Bool.not_eq_true', Bool.and_eq_false_imp, decide_eq_true_eq, decide_eq_false_iff_not]; omega⟩
   refine VE hk ?_
   unfold shB
   have kk : knd l i = (l.getD i default).kind := rfl
   rw [if_neg (by omega), if_neg (by omega), if_pos (by omega), J1 (p := fun j => Qp (knd l ((Qc l i).getD j 0)) && !(decide (knd l ((Qc l i).getD j 0) = 2) && decide (0 < j))) (fun j hj => k2 j (by omega))]
 refine W54.en (have a2 := l.getD i default; have a3 := (decide ((Qc l i).length = 1)) = true -> (0 < (Qc l i).length) /\ True; have a7 := (decide ((Qc l i).length = 1)) = true -> ((Qc l i).getD 0 0 < l.length) /\ True; have a10 := (decide ((Qc l i).length = 2)) = true -> (0 < (Qc l i).length) /\ True; have a11 := (Qc l i).getD 0 0; have a1 := (decide ((Qc l i).length = 1)) && (decide ((l.getD a11 default).kind = (23 : Int))); have a4 := a1 = true -> (i <= 1000000000000 /\ l.length <= 1000000000000) /\ (i < l.length -> 0 <= a2.size /\ ((i : Nat) : Int) + a2.size <= l.length) /\ True; have a6 := (decide ((Qc l i).length = 2)) && (Q9 ((l.getD a11 default).kind)); have a0 := a6 && (Q9 ((l.getD ((Qc l i).getD 1 0) default).kind)); have a5 := a0 && (!(decide ((l.getD ((Qc l i).getD 1 0) default).kind = (22 : Int)))); have a8 := a1 = true -> ((Ys l i).length <= 1000000000) /\ True; have a9 : Out := .val (.bool (a1 && (!((Ys l i).any Yi)))); have a12 := a6 = true -> (1 < (Qc l i).length) /\ True; have a13 := a0 = true -> (1 < (Qc l i).length) /\ True; have a14 := a5 = true -> (0 < (Qc l i).length) /\ True; (i < l.length /\ l.length <= 1000000000000) /\ (0 <= a2.size /\ ((i : Nat) : Int) + a2.size <= l.length) /\ (∀ k, k ∈ Qc l i -> (l.getD k default).size <= 1000000000000) /\ (i < l.length) /\ cond (decide (a2.kind = (23 : Int))) ((W54).L K 6 (mkS 149 [(0, (.sl (.sels l))), (5, (.own 1)), (7, (.nat 0))] [(2, .blk 33 [(.int .i64 (a2.kind)), (.int .i64 (a2.op)), (.str (a2.key)), (.str (a2.val)), (.int .i64 (a2.a)), (.int .i64 (a2.b)), (.int .i64 (a2.flag)), (.int .i64 (a2.size))]), (1, .row (.ints (Qc l i)) true)] 3)) (cond (decide (a2.kind = (18 : Int))) (a3 /\ a3 /\ a7 /\ a4 /\ a8 /\ K a9 none) (cond (decide (a2.kind = (19 : Int))) (a3 /\ a3 /\ a7 /\ a4 /\ a8 /\ K a9 none) (cond (decide (a2.kind = (20 : Int))) (a3 /\ a3 /\ a7 /\ a4 /\ a8 /\ K a9 none) (cond (decide (a2.kind = (21 : Int))) ((W54).L K 17 (mkS 149 [(0, (.sl (.sels l))), (5, (.own 1)), (8, (.nat 0))] [(2, .blk 33 [(.int .i64 (a2.kind)), (.int .i64 (a2.op)), (.str (a2.key)), (.str (a2.val)), (.int .i64 (a2.a)), (.int .i64 (a2.b)), (.int .i64 (a2.flag)), (.int .i64 (a2.size))]), (1, .row (.ints (Qc l i)) true)] 3)) (cond (decide (a2.kind = (22 : Int))) (a10 /\ a10 /\ ((decide ((Qc l i).length = 2)) = true -> ((Qc l i).getD 0 0 < l.length) /\ True) /\ a12 /\ a12 /\ (a6 = true -> ((Qc l i).getD 1 0 < l.length) /\ True) /\ a13 /\ a13 /\ (a0 = true -> ((Qc l i).getD 1 0 < l.length) /\ True) /\ a14 /\ a14 /\ (a5 = true -> ((Qc l i).getD 0 0 <= 1000000000000 /\ l.length <= 1000000000000) /\ ((Qc l i).getD 0 0 < l.length -> 0 <= (l.getD a11 default).size /\ (((Qc l i).getD 0 0 : Nat) : Int) + (l.getD a11 default).size <= l.length) /\ True) /\ (a5 = true -> ((Ys l a11).length <= 1000000000) /\ True) /\ K (.val (.bool (a5 && (!((Ys l a11).any Yi))))) none) ((i < l.length) /\ K (.val (.bool ((Qp (a2.kind)) && (decide ((Qc l i).length = 0))))) none))))))) ?_
 refine Qat (Qat (Qat (Qat ?_)))
 refine Qd ?_ ?_ <;> intro h1 <;> simp -failIfUnchanged [-List.getD_eq_getElem?_getD, -UInt8.toNat_or] at h1
 exact Wk.L.rn [0, 1] (L6 _ 0 rfl ⟨h1, by omega, fun j hj => by omega⟩)
 refine Qd (fun h2 => ?_) (fun h2 => ?_)
 simp -failIfUnchanged [-List.getD_eq_getElem?_getD, -UInt8.toNat_or] at h2
 refine Z5 (Z5 (Z5 (ncz4 (Z5 ?_))))
 refine VE hk ?_
 unfold shB
 have kk : knd l i = (l.getD i default).kind := rfl
 rw [if_neg (by omega), if_pos (by omega)]
 rfl
 simp -failIfUnchanged [-List.getD_eq_getElem?_getD, -UInt8.toNat_or] at h2
 refine Qd ?_ ?_ <;> intro h3 <;> simp -failIfUnchanged [-List.getD_eq_getElem?_getD, -UInt8.toNat_or] at h3
 refine Z5 (Z5 (Z5 (ncz4 (Z5 ?_))))
 refine VE hk ?_
 unfold shB
 have kk : knd l i = (l.getD i default).kind := rfl
 rw [if_neg (by omega), if_pos (by omega)]
 rfl
 refine Qd (fun h4 => ?_) (fun h4 => ?_)
 simp -failIfUnchanged [-List.getD_eq_getElem?_getD, -UInt8.toNat_or] at h4
 refine Z5 (Z5 (Z5 (ncz4 (Z5 ?_))))
 refine VE hk ?_
 unfold shB
 have kk : knd l i = (l.getD i default).kind := rfl
 rw [if_neg (by omega), if_pos (by omega)]
 rfl
 simp -failIfUnchanged [-List.getD_eq_getElem?_getD, -UInt8.toNat_or] at h4
 refine Qd ?_ ?_ <;> intro h5 <;> simp -failIfUnchanged [-List.getD_eq_getElem?_getD, -UInt8.toNat_or] at h5
 exact Wk.L.rn [0, 1] (L17 _ 0 rfl ⟨h5, by omega, fun j hj => by omega⟩)
 refine Qd (fun h6 => ?_) (fun h6 => ?_)
 simp -failIfUnchanged [-List.getD_eq_getElem?_getD, -UInt8.toNat_or] at h6
 refine Z5 (Z5 (Z5 (Z5 (Z5 (Z5 (Z5 (Z5 (Z5 (Z5 (Z5 (ncz4 (Z5 ?_))))))))))))
 refine VE hk ?_
 unfold shB
 have kk : knd l i = (l.getD i default).kind := rfl
 rw [if_neg (by omega), if_neg (by omega), if_neg (by omega), if_pos (by omega)]
 rfl
 simp -failIfUnchanged [-List.getD_eq_getElem?_getD, -UInt8.toNat_or] at h6
 refine Qat ?_
 refine VE hk ?_
 unfold shB
 have kk : knd l i = (l.getD i default).kind := rfl
 rw [if_neg (by omega), if_neg (by omega), if_neg (by omega), if_neg (by omega)]
 rfl
 cases e
def c32 (svs : List SV) (b : Option SB) : QR := match svs, b with
 | [.sl (.sels l)], none => some ([l.length <= 1000, ∀ x ∈ l, x.key.length <= 1000 /\ x.val.length <= 1000], .bool (UM l))
 | _, _ => none
noncomputable def W32 : Wk := ⟨[(52, .pure (c52 2000)), (53, .pure c53), (54, .pure c54), (55, .pure c55)], Qm Tryz.f32, false, false, [.tmp 2], [4], [(4, 9)], []⟩
theorem has32 : Has 32 := hsf Tryz.f32
theorem ncz8 {c0 p0 p1 p2 p3 p4 q : Prop} (k : q) (h : c0 -> p0 /\ p1 /\ p2 /\ p3 /\ p4 /\ True := by intro g0; (try simp at g0); exact ⟨(by first | omega | exact k7 _ h1 | (have := k8 i h1; refine ⟨?_, ?_⟩ <;> (simp only; omega)) | (have := List.length_pos_iff.2 g0; omega) | (have := List.length_pos_iff.2 g0.1; omega) | (simp; done) | assumption), (by first | omega | exact k7 _ h1 | (have := k8 i h1; refine ⟨?_, ?_⟩ <;> (simp only; omega)) | (have := List.length_pos_iff.2 g0; omega) | (have := List.length_pos_iff.2 g0.1; omega) | (simp; done) | assumption), (by first | omega | exact k7 _ h1 | (have := k8 i h1; refine ⟨?_, ?_⟩ <;> (simp only; omega)) | (have := List.length_pos_iff.2 g0; omega) | (have := List.length_pos_iff.2 g0.1; omega) | (simp; done) | assumption), (by first | omega | exact k7 _ h1 | (have := k8 i h1; refine ⟨?_, ?_⟩ <;> (simp only; omega)) | (have := List.length_pos_iff.2 g0; omega) | (have := List.length_pos_iff.2 g0.1; omega) | (simp; done) | assumption), (by first | omega | exact k7 _ h1 | (have := k8 i h1; refine ⟨?_, ?_⟩ <;> (simp only; omega)) | (have := List.length_pos_iff.2 g0; omega) | (have := List.length_pos_iff.2 g0.1; omega) | (simp; done) | assumption), trivial⟩) : (c0 -> p0 /\ p1 /\ p2 /\ p3 /\ p4 /\ True) /\ q := ⟨h, k⟩
theorem ncz7 {c0 p0 q : Prop} (k : q) (h : c0 -> p0 /\ True := by intro g0; (try simp at g0); exact ⟨(by first | omega | exact k7 _ h1 | (have := k8 i h1; refine ⟨?_, ?_⟩ <;> (simp only; omega)) | (have := List.length_pos_iff.2 g0; omega) | (have := List.length_pos_iff.2 g0.1; omega) | (simp; done) | assumption), trivial⟩) : (c0 -> p0 /\ True) /\ q := ⟨h, k⟩
theorem ncz6 {c0 p0 p1 q : Prop} (k : q) (h : c0 -> p0 /\ p1 /\ True := by intro g0; (try simp at g0); exact ⟨(by first | omega | exact k7 _ h1 | (have := k8 i h1; refine ⟨?_, ?_⟩ <;> (simp only; omega)) | (have := List.length_pos_iff.2 g0; omega) | (have := List.length_pos_iff.2 g0.1; omega) | (simp; done) | assumption), (by first | omega | exact k7 _ h1 | (have := k8 i h1; refine ⟨?_, ?_⟩ <;> (simp only; omega)) | (have := List.length_pos_iff.2 g0; omega) | (have := List.length_pos_iff.2 g0.1; omega) | (simp; done) | assumption), trivial⟩) : (c0 -> p0 /\ p1 /\ True) /\ q := ⟨h, k⟩
theorem ncz5 {p q : Prop} (k : q) (h : p := by first | omega | exact k7 _ h1 | (have := k8 i h1; refine ⟨?_, ?_⟩ <;> (simp only; omega)) | (have := List.length_pos_iff.2 g0; omega) | (have := List.length_pos_iff.2 g0.1; omega) | (simp; done) | assumption) : p /\ q := ⟨h, k⟩
theorem sat32 : Sat 32 (QC c32) := by
 have hD : Qe W32.D := (Qe.cons Qqk (QpR 2000) (Qe.cons has53 sat53 (Qe.cons has54 sat54 (Qe.cons Qqj QpQ Qe.nil))))
 refine W32.sa hD Tryz.f32 fun svs b K hP => ?_
 obtain ⟨ps, v, e, hp, hk⟩ := Qo hP
 unfold c32 at e
 split at e
 rename_i l
 cases e
 obtain ⟨h01, h02, _⟩ := hp
 have L4 : ∀ (mm : Nat) (i : Nat), l.length - i = mm -> ((l.length ≠ 0 /\ (l.getD 0 default).size = (l.length : Nat) /\ szB 2000 l 0 (l.length : Nat) = true) /\ i <= l.length /\ ∀ j, j < i -> (Z7 (l.getD j default) && shB l j) = true) -> W32.L K 4 (mkS 53 [(0, (.sl (.sels l))), (3, (.nat i))] [] 1) := by
  intro mm
  induction mm using Nat.strongRecOn with
  | _ mm ih =>
   intro i hm hI
   obtain ⟨⟨k4, k5, k6⟩, k1, k2⟩ := hI
   have k7 := QkB k5 k6
   have k8 : ∀ j, j < l.length -> (l.getD j default).key.length <= 1000 /\ (l.getD j default).val.length <= 1000 := fun j hj => h02 _ (Qns hj)
   refine W32.aL hD (have a0 := SelD.mk ((l.getD i default).kind) ((l.getD i default).op) ((l.getD i default).key) ((l.getD i default).val) ((l.getD i default).a) ((l.getD i default).b) ((l.getD i default).flag) ((l.getD i default).size); have a1 := decide ((l.getD 0 default).kind = (23 : Int)); cond (decide (i < l.length)) ((i < l.length) /\ (a0.key.length <= 1000000 /\ a0.val.length <= 1000000) /\ ((!(Z7 a0)) = false -> (l.length <= 1000000) /\ (JH l i) /\ True) /\ cond ((!(Z7 a0)) || (!(shB l i))) (K (.val (.bool false)) none) ((i + 1 <= 9223372036854775807) /\ (W32).L K 4 (mkS 53 [(0, (.sl (.sels l))), (3, (.nat (i + 1)))] [] 1))) ((0 < l.length) /\ (a1 = false -> (0 < l.length) /\ True) /\ K (.val (.bool (a1 || (Q9 ((l.getD 0 default).kind))))) none)) ?_
   refine Qd ?_ ?_ <;> intro h1 <;> simp -failIfUnchanged [-List.getD_eq_getElem?_getD, -UInt8.toNat_or] at h1
   refine ncz5 (ncz5 (ncz6 ?_))
   refine Qd ?_ ?_ <;> intro h2 <;> simp -failIfUnchanged [-List.getD_eq_getElem?_getD, -UInt8.toNat_or] at h2
   refine VE hk ?_
   unfold UM
   rw [if_neg (by rintro (q | q | q); exact k4 q; exact q k5; rw [k6] at q; cases q), Ur (p := fun i => Z7 (l.getD i default) && shB l i) h1 (by rcases h2 with h2 | h2; exact (Bool.and_eq_false_iff.2 (.inl h2)); exact (Bool.and_eq_false_iff.2 (.inr h2)))]
   rfl
   refine ncz5 ?_
   exact ih _ (by omega) (i + 1) rfl ⟨⟨k4, k5, k6⟩, by omega, fun j hj => by
    rcases (by omega : j < i \/ j = i) with q | q
    exact k2 j q
    subst q; exact Bool.and_eq_true_iff.2 h2⟩
   refine ncz5 (ncz7 ?_)
   refine VE hk ?_
   unfold UM
   rw [if_neg (by rintro (q | q | q); exact k4 q; exact q k5; rw [k6] at q; cases q), J1 (p := fun i => Z7 (l.getD i default) && shB l i) (fun j hj => k2 j (by omega))]
   rfl
 refine W32.en (have a0 := ((l.length : Nat) : Int); have a1 := (decide (l.length = 0)) || (!(decide ((l.getD 0 default).size = a0))); ((decide (l.length = 0)) = false -> (0 < l.length) /\ True) /\ (a1 = false -> (l.length <= 1000000) /\ (0 < l.length) /\ (a0 <= l.length) /\ (a0 <= ((2000 : Nat) : Int) + ((0 : Nat) : Int)) /\ (((0 : Nat) : Int) < a0) /\ True) /\ cond (a1 || (!(szB 2000 l 0 a0))) (K (.val (.bool false)) none) ((W32).L K 4 (mkS 53 [(0, (.sl (.sels l))), (3, (.nat 0))] [] 1))) ?_
 refine ncz7 (ncz8 ?_)
 refine Qd ?_ ?_ <;> intro h1 <;> simp -failIfUnchanged [-List.getD_eq_getElem?_getD, -UInt8.toNat_or] at h1
 refine VE hk ?_
 unfold UM
 rw [if_pos]
 rcases h1 with (h1 | h1) | h1
 exact .inl (by rw [h1]; rfl)
 exact .inr (.inl h1)
 exact .inr (.inr h1)
 exact L4 _ 0 rfl ⟨⟨fun q => h1.1.1 (List.length_eq_zero_iff.1 q), h1.1.2, h1.2⟩, by omega, fun j hj => by omega⟩
 cases e
end
end Go.Proofs.YtengepcafdnalaaGreatDoor
