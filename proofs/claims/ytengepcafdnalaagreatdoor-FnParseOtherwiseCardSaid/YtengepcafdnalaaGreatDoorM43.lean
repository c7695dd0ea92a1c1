/-
  Parts of the proof that the law FnParseOtherwise holds for every input (texts Oa, Ob). Conditions: none.
-/
import Derived.Test.YtengepcafdnalaaGreatDoorM42
namespace Go.Proofs.YtengepcafdnalaaGreatDoor
section
open Go Go.RowKit
set_option maxRecDepth 20000
theorem YI (y : Bs) (n k : Nat) : n <= (chc y n k).2 /\ (chc y n k).2 <= n + 1 := by
 unfold chc; split <;> exact ⟨by simp, by simp⟩
theorem VG (y : Bs) (n : Nat) : n <= (Qh y n).2 /\ (Qh y n).2 <= n + 1 := YI y n 9
theorem Vx (y : Bs) (n : Nat) : (Qh y n).1.length <= 2 := by
 unfold Qh
 simp only
 rw [List.getD_eq_getElem?_getD]
 by_cases h : (chc y n 9).1 < 9
 have : ∀ m : Fin 9, (Qds[m.val]?.getD []).length <= 2 := by decide
 exact this ⟨_, h⟩
 rw [List.getElem?_eq_none (by simp [Qds]; omega)]; simp
theorem VS (y s : Bs) (n : Nat) : n <= (Ql y s n).2 /\ (Ql y s n).2 <= n + 1 := YI y n 4
theorem Qb (y s : Bs) (n : Nat) : (Ql y s n).1.length = s.length := by
 unfold Ql
 by_cases h : (chc y n 4).1 = 1
 simp [h, upp]
 simp [h]
theorem Zy {K : Out -> Option SB -> Prop} {l : List SelD} {y a : Bs} {m : Nat} {p : Bs × Nat} (hk : K (.val (.str p.1)) (some (.blk 62 [.sl (.sels l), .sl (.bytes y), .nat p.2]))) (e : p = (a, m)) :
 K (.val (.str a)) (some (.blk 62 [.sl (.sels l), .sl (.bytes y), .nat m])) := by rw [e] at hk; exact hk
theorem Qqd {K : Out -> Option SB -> Prop} {l : List SelD} {y : Bs} {a m : Nat} {p : Nat × Nat} (hk : K (.val (.nat p.1)) (some (.blk 62 [.sl (.sels l), .sl (.bytes y), .nat p.2]))) (e : p = (a, m)) :
 K (.val (.nat a)) (some (.blk 62 [.sl (.sels l), .sl (.bytes y), .nat m])) := by rw [e] at hk; exact hk
def c58 (svs : List SV) (b : Option SB) : FR := match svs, b with
 | [.ptr 0 0, .nat k], some (.blk 62 [.sl (.sels l), .sl (.bytes y), .nat n]) => some ([0 < k, n <= 1000000000000], .val (.nat (chc y n k).1), some (.blk 62 [.sl (.sels l), .sl (.bytes y), .nat (chc y n k).2]))
 | _, _ => none
noncomputable def W58 : Wk := ⟨[], Qm Tryz.f58, true, false, [.tmp 4], [3], [], []⟩
theorem QeI : Has 58 := hsf Tryz.f58
theorem QmJ {p q : Prop} (k : q) (h : p := by first | omega | exact Nat.mod_lt _ (by have := h1; simp [<- List.length_eq_zero_iff] at this; omega) | (have := h1; simp [<- List.length_eq_zero_iff] at this; omega)) : p /\ q := ⟨h, k⟩
theorem Qei : Sat 58 (fnS c58) := by
 have hD : Qe W58.D := Qe.nil
 refine W58.sa hD Tryz.f58 fun svs b K hP => ?_
 obtain ⟨ps, o, b', e, hp, hk⟩ := Yp hP
 unfold c58 at e
 split at e
 rename_i k l y n
 cases e
 obtain ⟨h01, h02, _⟩ := hp
 refine W58.en (cond (decide (y.length = 0)) (K (.val (.nat 0)) (some (.blk 62 [(.sl (.sels l)), (.sl (.bytes y)), (.nat n)]))) ((n + 1 <= 9223372036854775807) /\ (0 < y.length) /\ ((n + 1) % y.length < y.length) /\ (n + 1 <= 9223372036854775807 /\ 0 < y.length) /\ (0 < k) /\ K (.val (.nat (((y.getD ((n + 1) % y.length) 0 + UInt8.ofNat ((n + 1) / y.length)).toNat) % k))) (some (.blk 62 [(.sl (.sels l)), (.sl (.bytes y)), (.nat (n + 1))])))) ?_
 refine Qd ?_ ?_ <;> intro h1 <;> simp -failIfUnchanged [-List.getD_eq_getElem?_getD, -UInt8.toNat_or] at h1
 refine Qqd hk ?_
 unfold chc
 rw [if_pos (List.length_eq_zero_iff.1 (by simpa using h1))]
 refine QmJ (QmJ (QmJ (QmJ (QmJ ?_))))
 refine Qqd hk ?_
 unfold chc
 rw [if_neg (fun q => h1 (by simp [q]))]
 cases e
def c34 (svs : List SV) (b : Option SB) : FR := match svs, b with
 | [.ptr 0 0], some (.blk 62 [.sl (.sels l), .sl (.bytes y), .nat n]) => some ([n <= 900000000000], .val (.str (Qh y n).1), some (.blk 62 [.sl (.sels l), .sl (.bytes y), .nat (Qh y n).2]))
 | _, _ => none
noncomputable def W34 : Wk := ⟨[(58, .fn c58)], Qm Tryz.f34, true, false, [.tmp 2], [9], [], []⟩
theorem Qj2 : Has 34 := hsf Tryz.f34
theorem oaz1 {p q : Prop} (k : q) (h : p := by first | omega | exact Way.QiQ (by decide) | (simp; done)) : p /\ q := ⟨h, k⟩
theorem Qjj : Sat 34 (fnS c34) := by
 have hD : Qe W34.D := (Qe.cons QeI Qei Qe.nil)
 refine W34.sa hD Tryz.f34 fun svs b K hP => ?_
 obtain ⟨ps, o, b', e, hp, hk⟩ := Yp hP
 unfold c34 at e
 split at e
 rename_i l y n
 cases e
 obtain ⟨h01, _⟩ := hp
 refine W34.en ((0 < 9) /\ (n <= 1000000000000) /\ ((chc y n 9).1 < 9) /\ ((chc y n 9).1 < 9) /\ K (.val (.str (([[], [], [], [32], [32, 32], [10], [9], [13, 10], [12]] : List (List UInt8)).getD ((chc y n 9).1) []))) (some (.blk 62 [(.sl (.sels l)), (.sl (.bytes y)), (.nat ((chc y n 9).2))]))) ?_
 refine oaz1 (oaz1 (oaz1 (oaz1 ?_)))
 exact hk
 cases e
theorem QlB (l : Bs) (i : Nat) (h : i < l.length) : (upp (l.take i) ++ l.drop i).getD i 0 = l.getD i 0 := by
 have e : (upp (l.take i)).length = i := by simp [upp]; omega
 rw [List.getD_eq_getElem?_getD, List.getElem?_append_right (by omega), e, Nat.sub_self, List.getElem?_drop, Nat.add_zero, List.getD_eq_getElem?_getD]
theorem Qoa (l : Bs) (i : Nat) (h : i < l.length) : (upp (l.take i) ++ l.drop i).set i (upB (l.getD i 0)) = upp (l.take (i + 1)) ++ l.drop (i + 1) := by
 have e : (upp (l.take i)).length = i := by simp [upp]; omega
 rw [List.set_append_right _ _ (by omega), e, Nat.sub_self, List.take_add_one, List.drop_eq_getElem_cons h, List.set_cons_zero, List.getElem?_eq_getElem h]
 simp only [upp, List.map_append, List.getD_eq_getElem?_getD, List.getElem?_eq_getElem h, Option.getD_some, Option.toList_some, List.map_cons, List.map_nil, List.append_assoc, List.singleton_append]
theorem QlA (l : Bs) (i : Nat) (h : i < l.length) (hc : upB (l.getD i 0) = l.getD i 0) : upp (l.take i) ++ l.drop i = upp (l.take (i + 1)) ++ l.drop (i + 1) := by
 have e : (upp (l.take i)).length = i := by simp [upp]; omega
 rw [List.take_add_one, List.drop_eq_getElem_cons h, List.getElem?_eq_getElem h]
 simp only [List.getD_eq_getElem?_getD, List.getElem?_eq_getElem h, Option.getD_some] at hc
 simp only [upp, List.map_append, Option.toList_some, List.map_cons, List.map_nil, List.append_assoc, List.singleton_append, hc]
def c84 (svs : List SV) (b : Option SB) : QR := match svs, b with
 | [.str l], none => some ([l.length <= 1000000000], .str (upp l))
 | _, _ => none
noncomputable def W84 : Wk := ⟨[], Qm Tryz.f84, false, false, [.tmp 2], [9], [(3, 24)], []⟩
theorem has84 : Has 84 := hsf Tryz.f84
theorem oaz3 {c0 p0 q : Prop} (k : q) (h : c0 -> p0 /\ True := by intro g0; (try simp at g0); exact ⟨(by first | omega | (simp; done) | (simp; omega) | (simp; assumption)), trivial⟩) : (c0 -> p0 /\ True) /\ q := ⟨h, k⟩
theorem Qb7 {p q : Prop} (k : q) (h : p := by first | omega | (simp; done) | (simp; omega) | (simp; assumption)) : p /\ q := ⟨h, k⟩
theorem sat84 : Sat 84 (QC c84) := by
 have hD : Qe W84.D := Qe.nil
 refine W84.sa hD Tryz.f84 fun svs b K hP => ?_
 obtain ⟨ps, v, e, hp, hk⟩ := Qo hP
 unfold c84 at e
 split at e
 rename_i l
 cases e
 obtain ⟨h01, _⟩ := hp
 have L3 : ∀ (mm : Nat) (i : Nat), l.length - i = mm -> (i <= l.length) -> W84.L K 3 (mkS 33 [(3, (.own 1)), (4, (.nat i))] [(1, .row (.bytes (upp (l.take i) ++ l.drop i)) false)] 2) := by
  intro mm
  induction mm using Nat.strongRecOn with
  | _ mm ih =>
   intro i hm hI
   have q : (upp (l.take i) ++ l.drop i).length = l.length := by simp [upp]; omega
   refine W84.aL hD (have a0 := upp (l.take i) ++ l.drop i; have a1 := (decide (97 <= bat a0 i)) = true -> (i < a0.length) /\ True; cond (decide (i < a0.length)) ((i < a0.length) /\ (i < a0.length) /\ a1 /\ a1 /\ cond ((decide (97 <= bat a0 i)) && (decide (bat a0 i <= 122))) ((i < a0.length) /\ (i < a0.length) /\ (i < a0.length) /\ (i < a0.length) /\ (i + 1 <= 9223372036854775807) /\ (W84).L K 3 (mkS 33 [(3, (.own 1)), (4, (.nat (i + 1)))] [(1, .row (.bytes (a0.set i (a0.getD i 0 - 32))) false)] 2)) ((i + 1 <= 9223372036854775807) /\ (W84).L K 3 (mkS 33 [(3, (.own 1)), (4, (.nat (i + 1)))] [(1, .row (.bytes a0) false)] 2))) (K (.val (.str a0)) none)) ?_
   refine Qd ?_ ?_ <;> intro h1 <;> simp -failIfUnchanged [-List.getD_eq_getElem?_getD, -UInt8.toNat_or] at h1
   refine Qb7 (Qb7 (oaz3 (oaz3 ?_)))
   refine Qd ?_ ?_ <;> intro h2 <;> simp -failIfUnchanged [-List.getD_eq_getElem?_getD, -UInt8.toNat_or] at h2
   refine Qb7 (Qb7 (Qb7 (Qb7 (Qb7 ?_))))
   have h0 : i < l.length := by simp [upp] at h1; omega
   have ea := QlB l i h0
   have h2' : 97 <= (l.getD i 0).toNat /\ (l.getD i 0).toNat <= 122 := by rw [<- ea]; exact h2
   have e : ((upp (l.take i) ++ l.drop i).set i ((upp (l.take i) ++ l.drop i).getD i 0 - 32)) = upp (l.take (i + 1)) ++ l.drop (i + 1) := by
    rw [<- Qoa l i h0, ea]; unfold upB; rw [if_pos h2']
   rw [e]
   exact ih _ (by omega) (i + 1) rfl (by omega)
   refine Qb7 ?_
   have h0 : i < l.length := by simp [upp] at h1; omega
   have ea := QlB l i h0
   have h2' : ¬ (97 <= (l.getD i 0).toNat /\ (l.getD i 0).toNat <= 122) := by rw [<- ea]; intro c; have := h2 c.1; have q2 : ((upp (l.take i) ++ l.drop i).getD i 0).toNat <= 122 := c.2; simp only [bat] at this; omega
   rw [QlA l i h0 (by unfold upB; rw [if_neg h2'])]
   exact ih _ (by omega) (i + 1) rfl (by omega)
   have h0 : i = l.length := by simp [upp] at h1; omega
   rw [h0, List.take_length, List.drop_length, List.append_nil]
   exact hk
 refine W84.en ((l.length <= 1099511627776) /\ (W84).L K 3 (mkS 33 [(3, (.own 1)), (4, (.nat 0))] [(1, .row (.bytes l) false)] 2)) ?_
 refine Qb7 ?_
 exact L3 _ 0 rfl (by omega)
 cases e
def c60 (svs : List SV) (b : Option SB) : FR := match svs, b with
 | [.ptr 0 0, .str s], some (.blk 62 [.sl (.sels l), .sl (.bytes y), .nat n]) => some ([n <= 900000000000, s.length <= 1000000000], .val (.str (Ql y s n).1), some (.blk 62 [.sl (.sels l), .sl (.bytes y), .nat (Ql y s n).2]))
 | _, _ => none
noncomputable def W60 : Wk := ⟨[(58, .fn c58), (84, .pure c84)], Qm Tryz.f60, true, false, [.tmp 4], [9], [], []⟩
theorem Qj1 : Has 60 := hsf Tryz.f60
theorem Qji : Sat 60 (fnS c60) := by
 have hD : Qe W60.D := (Qe.cons QeI Qei (Qe.cons has84 sat84 Qe.nil))
 refine W60.sa hD Tryz.f60 fun svs b K hP => ?_
 obtain ⟨ps, o, b', e, hp, hk⟩ := Yp hP
 unfold c60 at e
 split at e
 rename_i s l y n
 cases e
 obtain ⟨h01, h02, _⟩ := hp
 refine W60.en (have a0 : Option SB := some (.blk 62 [(.sl (.sels l)), (.sl (.bytes y)), (.nat ((chc y n 4).2))]); (0 < 4) /\ (n <= 1000000000000) /\ cond (!(decide ((chc y n 4).1 = 1))) (K (.val (.str s)) a0) ((s.length <= 1000000000) /\ K (.val (.str (upp s))) a0)) ?_
 refine Qb7 (Qb7 ?_)
 refine Qd ?_ ?_ <;> intro h1 <;> simp -failIfUnchanged [-List.getD_eq_getElem?_getD, -UInt8.toNat_or] at h1
 refine Zy hk ?_
 unfold Ql
 rw [if_neg h1]
 refine Qb7 ?_
 refine Zy hk ?_
 unfold Ql
 rw [if_pos h1]
 cases e
theorem QbB {s : Bs} (h : s ≠ []) : 1 <= (Qs s).length := by
 obtain ⟨c, u, rfl⟩ := List.exists_cons_of_ne_nil h
 unfold Qs
 split
 simp
 rw [nmF]
 have : nmP (bat (c :: u) 0) 0 c ≠ [] := by
  unfold nmP
  split
  simp [VR]
  split <;> simp
 have := List.length_pos_iff.2 this
 simp only [List.length_append]; omega
def c103 (svs : List SV) (b : Option SB) : QR := match svs, b with
 | [.str s, .nat i, .nat k], none => some ([s.length <= 90000 /\ i + k <= s.length /\ 0 < k], .str (Zi s i k))
 | _, _ => none
noncomputable def W103 : Wk := ⟨[(62, .pure c62), (88, .pure c88)], Qm Tryz.f103, false, false, [.tmp 6], [9], [], []⟩
theorem Qsr : Has 103 := hsf Tryz.f103
theorem oaz6 {c0 c1 p0 q : Prop} (k : q) (h : c0 -> c1 -> p0 /\ True := by intro g0 g1; (try simp at g0); (try simp at g1); exact ⟨(by first | omega | (simp; omega) | (simp at *; omega)), trivial⟩) : (c0 -> c1 -> p0 /\ True) /\ q := ⟨h, k⟩
theorem oaz5 {c0 p0 q : Prop} (k : q) (h : c0 -> p0 /\ True := by intro g0; (try simp at g0); exact ⟨(by first | omega | (simp; omega) | (simp at *; omega)), trivial⟩) : (c0 -> p0 /\ True) /\ q := ⟨h, k⟩
theorem Qas {p q : Prop} (k : q) (h : p := by first | omega | (simp; omega) | (simp at *; omega)) : p /\ q := ⟨h, k⟩
theorem Qrk : Sat 103 (QC c103) := by
 have hD : Qe W103.D := (Qe.cons Qj0 Qjh (Qe.cons Qhr QgK Qe.nil))
 refine W103.sa hD Tryz.f103 fun svs b K hP => ?_
 obtain ⟨ps, v, e, hp, hk⟩ := Qo hP
 unfold c103 at e
 split at e
 rename_i s i k
 cases e
 obtain ⟨⟨h01, h02, h03⟩, _⟩ := hp
 have n1 := VL (s.take k ++ [120])
 have n2 := QbB (s := s.take k ++ [120]) (by simp)
 have n3 := VL (120 :: (s.take (i + k)).drop i)
 have n4 := QbB (s := 120 :: (s.take (i + k)).drop i) (by simp)
 have n5 := Uo s i
 refine W103.en (have a0 := Qs (s.take k ++ [120]); have a1 := (s.take (i + k)).drop i; have a2 := (s.take k).length + 1 <= 2305843009213693952; cond (decide (i = 0)) (cond (decide (s = [45])) (K (.val (.str [92, 45])) none) ((k <= s.length) /\ a2 /\ ((s.take k ++ [120]).length <= 100000) /\ (k <= s.length) /\ a2 /\ ((s.take k ++ [120]).length <= 100000) /\ (1 <= a0.length /\ a0.length <= 9223372036854775807) /\ (a0.length - 1 <= a0.length) /\ K (.val (.str (a0.take (a0.length - 1)))) none)) ((i < s.length) /\ ((decide (bat s i = 45)) = false -> (i < s.length) /\ True) /\ ((decide (bat s i = 45)) = false -> (decide (48 <= bat s i)) = true -> (i < s.length) /\ True) /\ cond ((decide (bat s i = 45)) || ((decide (48 <= bat s i)) && (decide (bat s i <= 57)))) ((i < s.length) /\ (bat s i <= 2147483647) /\ K (.val (.str (VR (bat s i)))) none) ((i + k <= 9223372036854775807) /\ (i <= i + k /\ i + k <= s.length) /\ (1 + a1.length <= 2305843009213693952) /\ (([120] ++ a1).length <= 100000) /\ (1 <= (Qs ([120] ++ a1)).length) /\ K (.val (.str ((Qs ([120] ++ a1)).drop 1))) none))) ?_
 refine Qd ?_ ?_ <;> intro h1 <;> simp -failIfUnchanged [-List.getD_eq_getElem?_getD, -UInt8.toNat_or] at h1
 refine Qd (fun h2 => ?_) (fun h2 => ?_)
 simp -failIfUnchanged [-List.getD_eq_getElem?_getD, -UInt8.toNat_or] at h2
 refine ZP hk ?_
 unfold Zi
 rw [if_pos h1, if_pos h2]
 simp -failIfUnchanged [-List.getD_eq_getElem?_getD, -UInt8.toNat_or] at h2
 refine Qas (Qas (Qas (Qas (Qas (Qas (Qas (Qas ?_)))))))
 refine ZP hk ?_
 unfold Zi
 rw [if_pos h1, if_neg h2]
 refine Qas (oaz5 (oaz6 ?_))
 refine Qd ?_ ?_ <;> intro h2 <;> simp -failIfUnchanged [-List.getD_eq_getElem?_getD, -UInt8.toNat_or] at h2
 refine Qas (Qas ?_)
 refine ZP hk ?_
 unfold Zi
 rw [if_neg h1, if_pos (by simp only [Qy, Bool.and_eq_true, decide_eq_true_eq]; exact h2)]
 refine Qas (Qas (Qas (Qas (Qas ?_))))
 refine ZP hk ?_
 unfold Zi
 rw [if_neg h1, if_neg (by simp only [Qy, Bool.and_eq_true, decide_eq_true_eq]; omega)]
 rfl
 cases e
end
section
open Go Go.RowKit
set_option maxRecDepth 20000
theorem Uk {c : Nat} (h : c <= 1114111) : (VR c).length <= 8 := by
 obtain ⟨ds, e1, _, _, _, e5⟩ := Way.Qlg c 6 [] (by omega)
 unfold VR
 rw [e1]; simp; omega
theorem QeO {s : Bs} {i k : Nat} (hk : 0 < k) : (Zi s i k).length <= 8 * k := by
 unfold Zi
 split
 split
 simp; omega
 have := VL (s.take k ++ [120])
 have := List.length_take_le k s
 simp at *; omega
 split
 have := Y9 (Uo s i); omega
 have := VL (120 :: (s.take (i + k)).drop i)
 have e : ((s.take (i + k)).drop i).length <= k := by rw [List.length_drop, List.length_take]; omega
 rw [List.length_cons] at this
 rw [List.length_drop]; omega
theorem Qep {s : Bs} {i k : Nat} (hk : 0 < k) : (Qs (120 :: (s.take (i + k)).drop i)).length <= 8 * k /\ 1 <= (Qs (120 :: (s.take (i + k)).drop i)).length := by
 have := VL (120 :: (s.take (i + k)).drop i)
 have e : ((s.take (i + k)).drop i).length <= k := by rw [List.length_drop, List.length_take]; omega
 rw [List.length_cons] at this
 exact ⟨by omega, QbB (by simp)⟩
theorem ZM {s : Bs} {i : Nat} (hr : QG s i = true) (hi : i < s.length) : (Qk s i).2 ≠ 0 /\ QG s (i + (Qk s i).2) = true /\ i + (Qk s i).2 <= s.length /\ (Qk s i).1 <= 1114111 := by
 obtain ⟨r1, r2⟩ := Law.readGo_step hr hi
 obtain ⟨_, h2, h3⟩ := Way.Zv hi r1
 exact ⟨r1, r2, h2, h3⟩
theorem QoB {s : Bs} {i c k : Nat} {e : Bool} (hk : 0 < k) (hc : c <= 1114111) : (pnP s i c k e).length <= 8 * k := by
 unfold pnP
 split
 have := Uk hc; omega
 split
 exact QeO hk
 have := (Qep (s := s) (i := i) hk).1
 rw [List.length_drop]; omega
theorem QrJ (y : Bs) {s : Bs} : ∀ (d i n : Nat) (o : Bs), s.length - i = d -> i <= s.length -> QG s i = true -> (UO y s i n o).1.length <= o.length + 8 * d /\ n <= (UO y s i n o).2 /\ (UO y s i n o).2 <= n + d := by
 intro d
 induction d using Nat.strongRecOn with
 | _ d ih =>
  intro i n o hd hi hr
  rw [UO]
  by_cases h : i < s.length
  obtain ⟨f1, f2, f3, f4⟩ := ZM hr h
  rw [if_pos ⟨h, f1⟩]
  obtain ⟨q1, q2, q3⟩ := ih (s.length - (i + (Qk s i).2)) (by omega) (i + (Qk s i).2) (chc y n 6).2 (o ++ pnP s i (Qk s i).1 (Qk s i).2 (decide ((chc y n 6).1 = 1))) rfl f3 f2
  have c2 := YI y n 6
  have pl := QoB (s := s) (i := i) (e := decide ((chc y n 6).1 = 1)) (Nat.pos_of_ne_zero f1) f4
  rw [List.length_append] at q1
  exact ⟨by omega, by omega, by omega⟩
  rw [if_neg (fun q => h q.1)]
  exact ⟨by simp, by simp, by simp⟩
theorem Qis (y : Bs) {s : Bs} (n : Nat) (hr : QG s 0 = true) : (V4 y s n).1.length <= 8 * s.length /\ n <= (V4 y s n).2 /\ (V4 y s n).2 <= n + s.length := by
 obtain ⟨q1, q2, q3⟩ := QrJ y s.length 0 n [] (by simp) (Nat.zero_le _) hr
 unfold V4
 refine ⟨?_, q2, q3⟩
 simp only
 split
 rename_i h; rw [h]; simp
 simpa using q1
theorem Qfs {y s : Bs} {i n : Nat} {o P : Bs} {X : Bs × Nat} (hi : i < s.length) (h : (Qk s i).2 ≠ 0) (k : UO y s i n o = X) (e : pnP s i (Qk s i).1 (Qk s i).2 (decide ((chc y n 6).1 = 1)) = P) :
 UO y s (i + (Qk s i).2) (chc y n 6).2 (o ++ P) = X := by
 rw [UO, if_pos ⟨hi, h⟩, e] at k
 exact k
theorem Qmu {y s : Bs} {i n : Nat} {o : Bs} {X : Bs × Nat} (hi : ¬ i < s.length) (k : UO y s i n o = X) : X = (o, n) := by
 rw [UO, if_neg (fun q => hi q.1)] at k
 exact k.symm
def c85 (svs : List SV) (b : Option SB) : FR := match svs, b with
 | [.ptr 0 0, .str s], some (.blk 62 [.sl (.sels l), .sl (.bytes y), .nat n]) => some ([n <= 800000000000, s.length <= 90000, QG s 0 = true], .val (.str (V4 y s n).1), some (.blk 62 [.sl (.sels l), .sl (.bytes y), .nat (V4 y s n).2]))
 | _, _ => none
noncomputable def W85 : Wk := ⟨[(41, .pure c41), (58, .fn c58), (62, .pure c62), (88, .pure c88), (103, .pure c103)], Qm Tryz.f85, true, false, [.tmp 4], [9], [(3, 99)], []⟩
theorem Qqf : Has 85 := hsf Tryz.f85
theorem obz1 {c0 c1 p0 q : Prop} (k : q) (h : c0 -> c1 -> p0 /\ True := by intro g0 g1; (try simp at g0); (try simp at g1); exact ⟨(by first | omega | exact h03 | (have := q (by omega); omega) | (have := q (by omega); simp only [List.length_append, List.length_drop, List.length_cons, List.length_nil, List.length_take]; omega) | (have := q h1; have := YI y m 6; omega)), trivial⟩) : (c0 -> c1 -> p0 /\ True) /\ q := ⟨h, k⟩
theorem UC {p q : Prop} (k : q) (h : p := by first | omega | exact h03 | (have := q (by omega); omega) | (have := q (by omega); simp only [List.length_append, List.length_drop, List.length_cons, List.length_nil, List.length_take]; omega) | (have := q h1; have := YI y m 6; omega)) : p /\ q := ⟨h, k⟩
theorem QpM : Sat 85 (fnS c85) := by
 have hD : Qe W85.D := (Qe.cons Qni Ql8 (Qe.cons QeI Qei (Qe.cons Qj0 Qjh (Qe.cons Qhr QgK (Qe.cons Qsr Qrk Qe.nil)))))
 refine W85.sa hD Tryz.f85 fun svs b K hP => ?_
 obtain ⟨ps, o, b', e, hp, hk⟩ := Yp hP
 unfold c85 at e
 split at e
 rename_i s l y n
 cases e
 obtain ⟨h01, h02, h03, _⟩ := hp
 have L3 : ∀ (mm : Nat) (i m : Nat) (o : List UInt8), s.length - i = mm -> (UO y s i m o = UO y s 0 n [] /\ QG s i = true /\ i <= s.length /\ o.length <= 8 * i /\ m <= n + i) -> W85.L K 3 (mkS 64 [(0, (.ptr 0 0)), (1, (.str s)), (5, (.str o)), (6, (.nat i))] [(0, .blk 62 [(.sl (.sels l)), (.sl (.bytes y)), (.nat m)])] 1) := by
  intro mm
  induction mm using Nat.strongRecOn with
  | _ mm ih =>
   intro i m o hm hI
   obtain ⟨k1, k2, k3, k4, k5⟩ := hI
   have q : i < s.length -> (Qk s i).2 ≠ 0 /\ QG s (i + (Qk s i).2) = true /\ i + (Qk s i).2 <= s.length /\ (Qk s i).1 <= 1114111 /\ (VR (Qk s i).1).length <= 8 /\ (Zi s i (Qk s i).2).length <= 8 * (Qk s i).2 /\ (Qs ([120] ++ (s.take (i + (Qk s i).2)).drop i)).length <= 8 * (Qk s i).2 /\ 1 <= (Qs ([120] ++ (s.take (i + (Qk s i).2)).drop i)).length := fun h => by
    obtain ⟨f1, f2, f3, f4⟩ := ZM k2 h
    have p1 := Qep (s := s) (i := i) (Nat.pos_of_ne_zero f1)
    exact ⟨f1, f2, f3, f4, Uk f4, QeO (Nat.pos_of_ne_zero f1), p1.1, p1.2⟩
   refine W85.aL hD (have a1 := i + (Qk s i).2 <= 9223372036854775807; have a2 : Option SB := some (.blk 62 [(.sl (.sels l)), (.sl (.bytes y)), (.nat m)]); have a3 := i + (Qk s i).2; have a0 := (s.take a3).drop i; cond (decide (i < s.length)) ((s.length <= 1000000) /\ (i < s.length) /\ cond (decide ((Qk s i).2 = 0)) ((s.length <= 100000) /\ K (.val (.str (Qs s))) a2) ((0 < 6) /\ (m <= 1000000000000) /\ cond (decide ((chc y m 6).1 = 1)) (((Qk s i).1 <= 2147483647) /\ (o.length + (VR ((Qk s i).1)).length <= 2305843009213693952) /\ a1 /\ (W85).L K 3 (mkS 64 [(0, (.ptr 0 0)), (1, (.str s)), (5, (.str (o ++ (VR ((Qk s i).1))))), (6, (.nat a3))] [(0, .blk 62 [(.sl (.sels l)), (.sl (.bytes y)), (.nat ((chc y m 6).2))])] 1)) (((decide (i = 0)) = false -> (decide (i = 1)) = true -> (0 < s.length) /\ True) /\ cond ((decide (i = 0)) || ((decide (i = 1)) && (decide (bat s 0 = 45)))) ((s.length <= 90000 /\ a3 <= s.length /\ 0 < (Qk s i).2) /\ (o.length + (Zi s i ((Qk s i).2)).length <= 2305843009213693952) /\ a1 /\ (W85).L K 3 (mkS 64 [(0, (.ptr 0 0)), (1, (.str s)), (5, (.str (o ++ (Zi s i ((Qk s i).2))))), (6, (.nat a3))] [(0, .blk 62 [(.sl (.sels l)), (.sl (.bytes y)), (.nat ((chc y m 6).2))])] 1)) (a1 /\ (i <= i + (Qk s i).2 /\ i + (Qk s i).2 <= s.length) /\ (1 + a0.length <= 2305843009213693952) /\ (([120] ++ a0).length <= 100000) /\ (1 <= (Qs ([120] ++ a0)).length) /\ (o.length + ((Qs ([120] ++ a0)).drop 1).length <= 2305843009213693952) /\ a1 /\ (W85).L K 3 (mkS 64 [(0, (.ptr 0 0)), (1, (.str s)), (5, (.str (o ++ ((Qs ([120] ++ a0)).drop 1)))), (6, (.nat a3))] [(0, .blk 62 [(.sl (.sels l)), (.sl (.bytes y)), (.nat ((chc y m 6).2))])] 1))))) (cond (decide (s = [45])) (K (.val (.str [92, 45])) a2) (K (.val (.str o)) a2))) ?_
   refine Qd ?_ ?_ <;> intro h1 <;> simp -failIfUnchanged [-List.getD_eq_getElem?_getD, -UInt8.toNat_or] at h1
   refine UC (UC ?_)
   refine Qd ?_ ?_ <;> intro h2 <;> simp -failIfUnchanged [-List.getD_eq_getElem?_getD, -UInt8.toNat_or] at h2
   refine UC ?_
   exact absurd h2 (q h1).1
   refine UC (UC ?_)
   refine Qd ?_ ?_ <;> intro h3 <;> simp -failIfUnchanged [-List.getD_eq_getElem?_getD, -UInt8.toNat_or] at h3
   refine UC (UC (UC ?_))
   exact ih _ (by have := q h1; omega) (i + (Qk s i).2) _ _ rfl ⟨Qfs h1 (q h1).1 k1 (by unfold pnP; rw [if_pos (by simpa using h3)]), (q h1).2.1, (q h1).2.2.1, by have := q h1; simp only [List.length_append, List.length_drop]; omega, by have := YI y m 6; have := q h1; omega⟩
   refine obz1 ?_
   refine Qd ?_ ?_ <;> intro h4 <;> simp -failIfUnchanged [-List.getD_eq_getElem?_getD, -UInt8.toNat_or] at h4
   refine UC (UC (UC ?_))
   exact ih _ (by have := q h1; omega) (i + (Qk s i).2) _ _ rfl ⟨Qfs h1 (q h1).1 k1 (by unfold pnP; rw [if_neg (by simpa using h3), if_pos h4]), (q h1).2.1, (q h1).2.2.1, by have := q h1; simp only [List.length_append, List.length_drop]; omega, by have := YI y m 6; have := q h1; omega⟩
   refine UC (UC (UC (UC (UC (UC (UC ?_))))))
   exact ih _ (by have := q h1; omega) (i + (Qk s i).2) _ _ rfl ⟨Qfs h1 (q h1).1 k1 (by unfold pnP; rw [if_neg (by simpa using h3), if_neg (by omega)]; rfl), (q h1).2.1, (q h1).2.2.1, by have := q h1; simp only [List.length_append, List.length_drop]; omega, by have := YI y m 6; have := q h1; omega⟩
   refine Qd (fun h2 => ?_) (fun h2 => ?_)
   simp -failIfUnchanged [-List.getD_eq_getElem?_getD, -UInt8.toNat_or] at h2
   refine Zy hk ?_
   have e := Qmu (by omega) k1
   unfold V4
   rw [if_pos h2, e]
   simp -failIfUnchanged [-List.getD_eq_getElem?_getD, -UInt8.toNat_or] at h2
   refine Zy hk ?_
   have e := Qmu (by omega) k1
   unfold V4
   rw [if_neg h2, e]
 refine W85.en ((W85).L K 3 (mkS 64 [(0, (.ptr 0 0)), (1, (.str s)), (5, (.str [])), (6, (.nat 0))] [(0, .blk 62 [(.sl (.sels l)), (.sl (.bytes y)), (.nat n)])] 1)) ?_
 exact L3 _ 0 n [] rfl ⟨rfl, h03, by omega, by simp, by omega⟩
 cases e
theorem QoA {y s : Bs} {q : UInt8} {i n : Nat} (hr : QG s i = true) (h : i < s.length) : (ptP y s q i n).1.length <= 8 * (Qk s i).2 /\ n <= (ptP y s q i n).2 /\ (ptP y s q i n).2 <= n + 1 := by
 obtain ⟨f1, f2, f3, f4⟩ := ZM hr h
 have e8 := Uk f4
 have c2 := YI y n 8
 have e : ((s.take (i + (Qk s i).2)).drop i).length <= (Qk s i).2 := by rw [List.length_drop, List.length_take]; omega
 unfold ptP
 split
 exact ⟨by simp only; omega, by simp, by simp⟩
 split
 exact ⟨by simp only; omega, c2.1, c2.2⟩
 split
 exact ⟨by simp; omega, c2.1, c2.2⟩
 exact ⟨by simp only; omega, c2.1, c2.2⟩
theorem QrF (y : Bs) {s : Bs} (q : UInt8) : ∀ (d i n : Nat) (o : Bs), s.length - i = d -> i <= s.length -> QG s i = true -> (Qar y s q i n o).1.length <= o.length + 8 * d /\ n <= (Qar y s q i n o).2 /\ (Qar y s q i n o).2 <= n + d := by
 intro d
 induction d using Nat.strongRecOn with
 | _ d ih =>
  intro i n o hd hi hr
  rw [Qar]
  by_cases h : i < s.length
  obtain ⟨f1, f2, f3, f4⟩ := ZM hr h
  rw [if_pos ⟨h, f1⟩]
  obtain ⟨q1, q2, q3⟩ := ih (s.length - (i + (Qk s i).2)) (by omega) (i + (Qk s i).2) (ptP y s q i n).2 (o ++ (ptP y s q i n).1) rfl f3 f2
  obtain ⟨p1, p2, p3⟩ := QoA (y := y) (q := q) (n := n) hr h
  rw [List.length_append] at q1
  exact ⟨by omega, by omega, by omega⟩
  rw [if_neg (fun q => h q.1)]
  exact ⟨by simp, by simp, by simp⟩
theorem Qjp (y : Bs) {s : Bs} (q : UInt8) (n : Nat) (hr : QG s 0 = true) : (YV y s q n).1.length <= 8 * s.length + 2 /\ n <= (YV y s q n).2 /\ (YV y s q n).2 <= n + s.length := by
 obtain ⟨q1, q2, q3⟩ := QrF y q s.length 0 n [q] (by simp) (Nat.zero_le _) hr
 unfold YV
 refine ⟨?_, q2, q3⟩
 simp only [List.length_append, List.length_cons, List.length_nil] at q1 ⊢
 omega
theorem QlE (y : Bs) {s : Bs} (n : Nat) (hr : QG s 0 = true) : (VK y s n).1.length <= 8 * s.length + 2 /\ n <= (VK y s n).2 /\ (VK y s n).2 <= n + s.length + 1 := by
 have c := YI y n 3
 unfold VK
 split
 have := Qjp y 39 (chc y n 3).2 hr; exact ⟨by omega, by omega, by omega⟩
 split
 have := Qis y (chc y n 3).2 hr; exact ⟨by omega, by omega, by omega⟩
 have := Qjp y 34 (chc y n 3).2 hr; exact ⟨by omega, by omega, by omega⟩
theorem Qck {y s : Bs} {q : UInt8} {i n m : Nat} {o P : Bs} {X : Bs × Nat} (hi : i < s.length) (h : (Qk s i).2 ≠ 0) (k : Qar y s q i n o = X) (e : ptP y s q i n = (P, m)) :
 Qar y s q (i + (Qk s i).2) m (o ++ P) = X := by
 rw [Qar, if_pos ⟨hi, h⟩, e] at k
 exact k
theorem QrH {y s : Bs} {q : UInt8} {i n : Nat} {o : Bs} {X : Bs × Nat} (hi : ¬ i < s.length) (k : Qar y s q i n o = X) : X = (o, n) := by
 rw [Qar, if_neg (fun q => hi q.1)] at k
 exact k.symm
def c86 (svs : List SV) (b : Option SB) : FR := match svs, b with
 | [.ptr 0 0, .str s], some (.blk 62 [.sl (.sels l), .sl (.bytes y), .nat n]) => some ([n <= 700000000000, s.length <= 90000, QG s 0 = true], .val (.str (VK y s n).1), some (.blk 62 [.sl (.sels l), .sl (.bytes y), .nat (VK y s n).2]))
 | _, _ => none
noncomputable def W86 : Wk := ⟨[(41, .pure c41), (58, .fn c58), (82, .pure c82), (85, .fn c85), (88, .pure c88)], Qm Tryz.f86, true, false, [.tmp 4], [9], [(10, 227)], []⟩
theorem has86 : Has 86 := hsf Tryz.f86
theorem Ji {p q : Prop} (k : q) (h : p := by first | omega | exact h03 | (have := q (by omega); omega) | (have := q (by omega); simp only [List.length_append, List.length_drop, List.length_cons, List.length_nil, List.length_take]; omega) | (have := q h1; have := YI y m 8; omega)) : p /\ q := ⟨h, k⟩
theorem sat86 : Sat 86 (fnS c86) := by
 have hD : Qe W86.D := (Qe.cons Qni Ql8 (Qe.cons QeI Qei (Qe.cons Qng Ql2 (Qe.cons Qqf QpM (Qe.cons Qhr QgK Qe.nil)))))
 refine W86.sa hD Tryz.f86 fun svs b K hP => ?_
 obtain ⟨ps, o, b', e, hp, hk⟩ := Yp hP
 unfold c86 at e
 split at e
 rename_i s l y n
 cases e
 obtain ⟨h01, h02, h03, _⟩ := hp
 have c3 := YI y n 3
 have L10 : ∀ (mm : Nat) (i m : Nat) (qq : UInt8) (o : List UInt8), s.length - i = mm -> (VK y s n = YV y s qq (chc y n 3).2 /\ Qar y s qq i m o = Qar y s qq 0 (chc y n 3).2 [qq] /\ QG s i = true /\ i <= s.length /\ o.length <= 1 + 8 * i /\ m <= n + 1 + i) -> W86.L K 10 (mkS 84 [(0, (.ptr 0 0)), (1, (.str s)), (5, (.byt qq)), (6, (.own 1)), (7, (.nat i))] [(0, .blk 62 [(.sl (.sels l)), (.sl (.bytes y)), (.nat m)]), (1, .row (.bytes o) true)] 2) := by
  intro mm
  induction mm using Nat.strongRecOn with
  | _ mm ih =>
   intro i m qq o hm hI
   obtain ⟨k0, k1, k2, k3, k4, k5⟩ := hI
   have q : i < s.length -> (Qk s i).2 ≠ 0 /\ QG s (i + (Qk s i).2) = true /\ i + (Qk s i).2 <= s.length /\ (Qk s i).1 <= 1114111 /\ (VR (Qk s i).1).length <= 8 := fun h => by
    obtain ⟨f1, f2, f3, f4⟩ := ZM k2 h
    exact ⟨f1, f2, f3, f4, Uk f4⟩
   refine W86.aL hD (have a0 := i + (Qk s i).2 <= 9223372036854775807; have a1 := i + (Qk s i).2; have a2 : SV := .sl (.bytes y); have a3 := (decide ((Qk s i).1 < 32)) || (decide ((Qk s i).1 = 127)); have a4 : SV := .sl (.sels l); have a5 := VR ((Qk s i).1); cond (decide (i < s.length)) ((s.length <= 1000000) /\ (i < s.length) /\ cond (decide ((Qk s i).2 = 0)) ((s.length <= 100000) /\ K (.val (.str (QQ s))) (some (.blk 62 [a4, a2, (.nat m)]))) ((a3 = false -> (0 < 8) /\ (m <= 1000000000000) /\ cond (decide ((chc y m 8).1 = 1)) (((Qk s i).1 <= 2147483647) /\ (o.length + a5.length <= 1099511627776) /\ a0 /\ (W86).L K 10 (mkS 84 [(0, (.ptr 0 0)), (1, (.str s)), (5, (.byt qq)), (6, (.own 2)), (7, (.nat a1))] [(2, .row (.bytes (o ++ a5)) true), (0, .blk 62 [a4, a2, (.nat ((chc y m 8).2))])] 3)) (cond ((decide ((Qk s i).1 = qq.toNat)) || (decide ((Qk s i).1 = 92))) ((o.length + 2 <= 1099511627776) /\ a0 /\ (W86).L K 10 (mkS 84 [(0, (.ptr 0 0)), (1, (.str s)), (5, (.byt qq)), (6, (.own 3)), (7, (.nat a1))] [(3, .row (.bytes (o ++ [92, UInt8.ofNat ((Qk s i).1)])) true), (0, .blk 62 [a4, a2, (.nat ((chc y m 8).2))])] 4)) (a0 /\ (i <= i + (Qk s i).2 /\ i + (Qk s i).2 <= s.length) /\ (o.length + ((s.take a1).drop i).length <= 1099511627776) /\ a0 /\ (W86).L K 10 (mkS 84 [(0, (.ptr 0 0)), (1, (.str s)), (5, (.byt qq)), (6, (.own 2)), (7, (.nat a1))] [(2, .row (.bytes (o ++ ((s.take a1).drop i))) true), (0, .blk 62 [a4, a2, (.nat ((chc y m 8).2))])] 3)))) /\ (a3 = true -> ((Qk s i).1 <= 2147483647) /\ (o.length + a5.length <= 1099511627776) /\ a0 /\ (W86).L K 10 (mkS 84 [(0, (.ptr 0 0)), (1, (.str s)), (5, (.byt qq)), (6, (.own 2)), (7, (.nat a1))] [(2, .row (.bytes (o ++ a5)) true), (0, .blk 62 [a4, a2, (.nat m)])] 3)))) ((o.length + 1 <= 1099511627776) /\ K (.val (.str (o ++ [qq]))) (some (.blk 62 [a4, a2, (.nat m)])))) ?_
   refine Qd ?_ ?_ <;> intro h1 <;> simp -failIfUnchanged [-List.getD_eq_getElem?_getD, -UInt8.toNat_or] at h1
   refine Ji (Ji ?_)
   refine Qd ?_ ?_ <;> intro h2 <;> simp -failIfUnchanged [-List.getD_eq_getElem?_getD, -UInt8.toNat_or] at h2
   refine Ji ?_
   exact absurd h2 (q h1).1
   refine ⟨fun h3 => ?_, fun h3 => ?_⟩
   simp -failIfUnchanged [-List.getD_eq_getElem?_getD, -UInt8.toNat_or] at h3
   refine Ji (Ji ?_)
   refine Qd ?_ ?_ <;> intro h4 <;> simp -failIfUnchanged [-List.getD_eq_getElem?_getD, -UInt8.toNat_or] at h4
   refine Ji (Ji (Ji ?_))
   exact Wk.L.rn [0, 2] (ih _ (by have := q (by omega); omega) (i + (Qk s i).2) _ qq _ rfl ⟨k0, Qck (by omega) (q (by omega)).1 k1 (by unfold ptP; rw [if_neg (by omega), if_pos h4]), (q (by omega)).2.1, (q (by omega)).2.2.1, by have := q (by omega); simp only [List.length_append, List.length_drop, List.length_take, List.length_cons, List.length_nil]; omega, by have := YI y m 8; have := q (by omega); omega⟩)
   refine Qd (fun h5 => ?_) (fun h5 => ?_)
   simp -failIfUnchanged [-List.getD_eq_getElem?_getD, -UInt8.toNat_or] at h5
   refine Ji (Ji ?_)
   exact Wk.L.rn [0, 3] (ih _ (by have := q (by omega); omega) (i + (Qk s i).2) _ qq _ rfl ⟨k0, Qck (by omega) (q (by omega)).1 k1 (by unfold ptP; rw [if_neg (by omega), if_neg h4, if_pos h5]), (q (by omega)).2.1, (q (by omega)).2.2.1, by have := q (by omega); simp only [List.length_append, List.length_drop, List.length_take, List.length_cons, List.length_nil]; omega, by have := YI y m 8; have := q (by omega); omega⟩)
   simp -failIfUnchanged [-List.getD_eq_getElem?_getD, -UInt8.toNat_or] at h5
   refine Ji (Ji (Ji (Ji ?_)))
   exact Wk.L.rn [0, 2] (ih _ (by have := q (by omega); omega) (i + (Qk s i).2) _ qq _ rfl ⟨k0, Qck (by omega) (q (by omega)).1 k1 (by unfold ptP; rw [if_neg (by omega), if_neg h4, if_neg (by omega)]), (q (by omega)).2.1, (q (by omega)).2.2.1, by have := q (by omega); simp only [List.length_append, List.length_drop, List.length_take, List.length_cons, List.length_nil]; omega, by have := YI y m 8; have := q (by omega); omega⟩)
   simp -failIfUnchanged [-List.getD_eq_getElem?_getD, -UInt8.toNat_or] at h3
   refine Ji (Ji (Ji ?_))
   exact Wk.L.rn [0, 2] (ih _ (by have := q (by omega); omega) (i + (Qk s i).2) _ qq _ rfl ⟨k0, Qck (by omega) (q (by omega)).1 k1 (by unfold ptP; rw [if_pos h3]), (q (by omega)).2.1, (q (by omega)).2.2.1, by have := q (by omega); simp only [List.length_append, List.length_drop, List.length_take, List.length_cons, List.length_nil]; omega, by have := YI y m 8; have := q (by omega); omega⟩)
   refine Ji ?_
   refine Zy hk ?_
   have e := QrH (by omega) k1
   rw [k0]
   unfold YV
   rw [e]
 refine W86.en (have a0 := mkS 84 [(0, (.ptr 0 0)), (1, (.str s)), (5, (.byt 34)), (6, (.own 1)), (7, (.nat 0))] [(1, .row (.bytes [34]) true), (0, .blk 62 [(.sl (.sels l)), (.sl (.bytes y)), (.nat ((chc y n 3).2))])] 2; (0 < 3) /\ (n <= 1000000000000) /\ cond (decide ((chc y n 3).1 = 1)) ((W86).L K 10 (mkS 84 [(0, (.ptr 0 0)), (1, (.str s)), (5, (.byt 39)), (6, (.own 1)), (7, (.nat 0))] [(1, .row (.bytes [39]) true), (0, .blk 62 [(.sl (.sels l)), (.sl (.bytes y)), (.nat ((chc y n 3).2))])] 2)) (cond (decide ((chc y n 3).1 = 2)) (cond (!(decide (s = []))) (((chc y n 3).2 <= 800000000000) /\ (s.length <= 90000) /\ (QG s 0 = true) /\ K (.val (.str ((V4 y s ((chc y n 3).2)).1))) (some (.blk 62 [(.sl (.sels l)), (.sl (.bytes y)), (.nat ((V4 y s ((chc y n 3).2)).2))]))) ((W86).L K 10 a0)) ((W86).L K 10 a0))) ?_
 refine Ji (Ji ?_)
 refine Qd ?_ ?_ <;> intro h1 <;> simp -failIfUnchanged [-List.getD_eq_getElem?_getD, -UInt8.toNat_or] at h1
 exact Wk.L.rn [0, 1] (L10 _ 0 _ 39 [39] rfl ⟨by unfold VK; rw [if_pos h1], rfl, h03, by omega, by simp, by omega⟩)
 refine Qd (fun h2 => ?_) (fun h2 => ?_)
 simp -failIfUnchanged [-List.getD_eq_getElem?_getD, -UInt8.toNat_or] at h2
 refine Qd ?_ ?_ <;> intro h3 <;> simp -failIfUnchanged [-List.getD_eq_getElem?_getD, -UInt8.toNat_or] at h3
 refine Ji (Ji (Ji ?_))
 refine Zy hk ?_
 unfold VK
 rw [if_neg h1, if_pos ⟨h2, h3⟩]
 exact Wk.L.rn [0, 1] (L10 _ 0 _ 34 [34] rfl ⟨by unfold VK; rw [if_neg h1, if_neg (fun c => c.2 h3)], rfl, h03, by omega, by simp, by omega⟩)
 simp -failIfUnchanged [-List.getD_eq_getElem?_getD, -UInt8.toNat_or] at h2
 exact Wk.L.rn [0, 1] (L10 _ 0 _ 34 [34] rfl ⟨by unfold VK; rw [if_neg h1, if_neg (fun c => h2 c.1)], rfl, h03, by omega, by simp, by omega⟩)
 cases e
end
end Go.Proofs.YtengepcafdnalaaGreatDoor
