/-
  Parts of the proof that the law FnParseOtherwise holds for every input (texts Kx, Ky). Conditions: none.
-/
import Derived.Test.YtengepcafdnalaaGreatDoorM20
namespace Go.Proofs.YtengepcafdnalaaGreatDoor
section
open Go Go.RowKit
set_option maxRecDepth 20000
theorem Qiw {l : Bs} {i : Nat} (h : low (l.take i) = l.take i) : low (l.take i) ++ l.drop i = l := by rw [h, List.take_append_drop]
theorem QfB (l : Bs) (i : Nat) (h : l.length <= i) : low (l.take i) ++ l.drop i = low l := by rw [List.take_of_length_le h, List.drop_eq_nil_iff.2 h, List.append_nil]
theorem byt32 (c : UInt8) : c + 97 - 65 = c + 32 := by
 apply UInt8.toNat_inj.1
 rw [UInt8.toNat_sub, UInt8.toNat_add, UInt8.toNat_add]
 have h1 : (97 : UInt8).toNat = 97 := rfl
 have h2 : (65 : UInt8).toNat = 65 := rfl
 have h3 : (32 : UInt8).toNat = 32 := rfl
 omega
def c133 (svs : List SV) (b : Option SB) (K : Out -> Option SB -> Prop) : Prop := match svs, b with
 | [.ptr 0 0], some (.blk 94 [.str s, .nat i, .nat d, .bool a]) => s.length <= 1000000 /\ i <= s.length /\ Qx (Vw s i) (fun j => i < j /\ j <= s.length -> K (.val (.bool true)) (some (.blk 94 [.str s, .nat j, .nat d, .bool a]))) (K (.val (.bool false)) (some (.blk 94 [.str s, .nat i, .nat d, .bool a])))
 | _, _ => False
noncomputable def W133 : Wk := ⟨[(99, .fn c99)], Qm Tryz.f133, true, false, [.tmp 2], [4], [], []⟩
theorem Qsh : Has 133 := hsf Tryz.f133
theorem Qhh {p q : Prop} (k : q) (h : p := by first | omega | (have := Vn s i h02; omega) | (simp; done) | (simp; omega) | (simp; have := Vn s i h02; omega)) : p /\ q := ⟨h, k⟩
theorem kxz1 {c0 p0 p1 p2 q : Prop} (k : q) (h : c0 -> p0 /\ p1 /\ p2 /\ True := by intro g0; (try simp at g0); exact ⟨(by first | omega | (have := Vn s i h02; omega) | (simp; done) | (simp; omega) | (simp; have := Vn s i h02; omega)), (by first | omega | (have := Vn s i h02; omega) | (simp; done) | (simp; omega) | (simp; have := Vn s i h02; omega)), (by first | omega | (have := Vn s i h02; omega) | (simp; done) | (simp; omega) | (simp; have := Vn s i h02; omega)), trivial⟩) : (c0 -> p0 /\ p1 /\ p2 /\ True) /\ q := ⟨h, k⟩
theorem Qbb {c0 p0 q : Prop} (k : q) (h : c0 -> p0 /\ True := by intro g0; (try simp at g0); exact ⟨(by first | omega | (have := Vn s i h02; omega) | (simp; done) | (simp; omega) | (simp; have := Vn s i h02; omega)), trivial⟩) : (c0 -> p0 /\ True) /\ q := ⟨h, k⟩
theorem Qra : Sat 133 c133 := by
 have hD : Qe W133.D := (Qe.cons QeH Qeh Qe.nil)
 refine W133.sa hD Tryz.f133 fun svs b K hP => ?_
 unfold c133 at hP
 split at hP
 rename_i s i d a
 obtain ⟨h01, h02, hk⟩ := hP
 refine W133.en (have a1 := decide (i < s.length); have a0 := a1 = true -> ((a1 == true) = true) /\ True; a0 /\ a0 /\ a0 /\ a0 /\ a0 /\ a0 /\ (a1 = true -> ((a1 == true) = true) /\ ((a1 == true) = true) /\ (i < s.length) /\ True) /\ a0 /\ (a1 = true -> (a1 == true) = true) /\ cond (a1 && (decide (bat s i = 40))) ((i + 1 <= 9223372036854775807) /\ (s.length <= 1000000) /\ (i + 1 <= s.length) /\ K (.val (.bool true)) (some (.blk 94 [(.str s), (.nat (iWs s (i + 1))), (.nat d), (.bool a)]))) (K (.val (.bool false)) (some (.blk 94 [(.str s), (.nat i), (.nat d), (.bool a)])))) ?_
 refine Qbb (Qbb (Qbb (Qbb (Qbb (Qbb (kxz1 (Qbb (Qhh ?_))))))))
 refine Qd ?_ ?_ <;> intro h1 <;> simp -failIfUnchanged [-List.getD_eq_getElem?_getD] at h1
 refine Qhh (Qhh (Qhh ?_))
 have e : Vw s i = some (iWs s (i + 1)) := by unfold Vw; rw [if_pos h1]
 rw [e] at hk
 exact hk ⟨by have := VB s (i + 1); omega, Vn s (i + 1) (by omega)⟩
 have e : Vw s i = none := by unfold Vw; rw [if_neg (by intro q; exact h1 q.1 q.2)]
 rw [e] at hk
 exact hk
 exact hP.elim
def c134 (svs : List SV) (b : Option SB) (K : Out -> Option SB -> Prop) : Prop := match svs, b with
 | [.ptr 0 0], some (.blk 94 [.str s, .nat i, .nat d, .bool a]) => s.length <= 1000000 /\ i <= s.length /\ Qx (QT s i) (fun j => i < j /\ j <= s.length -> K (.val (.bool true)) (some (.blk 94 [.str s, .nat j, .nat d, .bool a]))) (K (.val (.bool false)) (some (.blk 94 [.str s, .nat i, .nat d, .bool a])))
 | _, _ => False
noncomputable def W134 : Wk := ⟨[(99, .fn c99)], Qm Tryz.f134, true, false, [.tmp 2], [4], [], []⟩
theorem Qsg : Has 134 := hsf Tryz.f134
theorem Qq9 : Sat 134 c134 := by
 have hD : Qe W134.D := (Qe.cons QeH Qeh Qe.nil)
 refine W134.sa hD Tryz.f134 fun svs b K hP => ?_
 unfold c134 at hP
 split at hP
 rename_i s i d a
 obtain ⟨h01, h02, hk⟩ := hP
 refine W134.en (have a1 := decide (iWs s i < s.length); have a0 := a1 = true -> ((a1 == true) = true) /\ True; (s.length <= 1000000) /\ (i <= s.length) /\ a0 /\ a0 /\ a0 /\ a0 /\ a0 /\ a0 /\ (a1 = true -> ((a1 == true) = true) /\ ((a1 == true) = true) /\ (iWs s i < s.length) /\ True) /\ a0 /\ (a1 = true -> (a1 == true) = true) /\ cond (a1 && (decide (bat s (iWs s i) = 41))) ((iWs s i + 1 <= 9223372036854775807) /\ K (.val (.bool true)) (some (.blk 94 [(.str s), (.nat (iWs s i + 1)), (.nat d), (.bool a)]))) (K (.val (.bool false)) (some (.blk 94 [(.str s), (.nat i), (.nat d), (.bool a)])))) ?_
 refine Qhh (Qhh (Qbb (Qbb (Qbb (Qbb (Qbb (Qbb (kxz1 (Qbb (Qhh ?_))))))))))
 refine Qd ?_ ?_ <;> intro h1 <;> simp -failIfUnchanged [-List.getD_eq_getElem?_getD] at h1
 refine Qhh ?_
 have e : QT s i = some (iWs s i + 1) := by unfold QT; rw [if_pos h1]
 rw [e] at hk
 exact hk ⟨by have := VB s i; omega, by omega⟩
 have e : QT s i = none := by unfold QT; rw [if_neg (by intro q; exact h1 q.1 q.2)]
 rw [e] at hk
 exact hk
 exact hP.elim
def Qlp (svs : List SV) (b : Option SB) : QR := match svs, b with
 | [.str l], none => some ([l.length <= 1000000000], .str (low l))
 | _, _ => none
noncomputable def Qcd : Wk := ⟨[], Qm Tryz.f130, false, false, [.tmp 2], [9], [(3, 25)], []⟩
theorem QfS : Has 130 := hsf Tryz.f130
theorem Z6 {p q : Prop} (k : q) (h : p := by first | omega | (simp [low]; omega) | (simp; done) | (simp; omega)) : p /\ q := ⟨h, k⟩
theorem Qff : Sat 130 (QC Qlp) := by
 have hD : Qe Qcd.D := Qe.nil
 refine Qcd.sa hD Tryz.f130 fun svs b K hP => ?_
 obtain ⟨ps, v, e, hp, hk⟩ := Qo hP
 unfold Qlp at e
 split at e
 rename_i l
 cases e
 obtain ⟨h01, _⟩ := hp
 have L3b : ∀ (mm : Nat) (i : Nat), l.length - i = mm -> (i <= l.length /\ 0 < l.length) -> Qcd.L K 3 (mkS 41 [(0, (.str l)), (3, (.own 1)), (4, (.nat i))] [(1, .row (.bytes (low (l.take i) ++ l.drop i)) true)] 2) := by
  intro mm
  induction mm using Nat.strongRecOn with
  | _ mm ih =>
   intro i hm hI
   refine Qcd.aL hD (have a0 := low (l.take i) ++ l.drop i; cond (decide (i < l.length)) ((i < l.length) /\ cond ((decide (65 <= bat l i)) && (decide (bat l i <= 90))) ((0 < a0.length) /\ (i < l.length) /\ (i < a0.length) /\ (i < a0.length) /\ (i + 1 <= 9223372036854775807) /\ (Qcd).L K 3 (mkS 41 [(0, (.str l)), (3, (.own 1)), (4, (.nat (i + 1)))] [(1, .row (.bytes (a0.set i (l.getD i 0 + 32))) true)] 2)) ((i + 1 <= 9223372036854775807) /\ (Qcd).L K 3 (mkS 41 [(0, (.str l)), (3, (.own 1)), (4, (.nat (i + 1)))] [(1, .row (.bytes a0) true)] 2))) ((0 < a0.length) /\ K (.val (.str a0)) none)) ?_
   refine Qd ?_ ?_ <;> intro h1 <;> simp -failIfUnchanged [-List.getD_eq_getElem?_getD] at h1
   refine Z6 ?_
   refine Qd ?_ ?_ <;> intro h2 <;> simp -failIfUnchanged [-List.getD_eq_getElem?_getD] at h2
   refine Z6 (Z6 (Z6 (Z6 (Z6 ?_))))
   have e : (low (l.take i) ++ l.drop i).set i (l.getD i 0 + 32) = low (l.take (i + 1)) ++ l.drop (i + 1) := by
    rw [<- Qcq l i h1]; unfold UT; rw [if_pos (show 65 <= (l.getD i 0).toNat /\ (l.getD i 0).toNat <= 90 from h2)]
   rw [e]
   exact ih _ (by omega) (i + 1) rfl ⟨by omega, by omega⟩
   refine Z6 ?_
   rw [Qa9 l i h1 (by unfold UT; rw [if_neg (fun h => by have := h2 h.1; have h3 : bat l i <= 90 := h.2; omega)])]
   exact ih _ (by omega) (i + 1) rfl ⟨by omega, by omega⟩
   refine Z6 ?_
   rw [QfB l i (by omega)]
   exact hk
 have L3 : ∀ (mm : Nat) (i : Nat), l.length - i = mm -> (i <= l.length /\ low (l.take i) = l.take i) -> Qcd.L K 3 (mkS 41 [(0, (.str l)), (3, .nilsl), (4, (.nat i))] [] 1) := by
  intro mm
  induction mm using Nat.strongRecOn with
  | _ mm ih =>
   intro i hm hI
   obtain ⟨k1, k2⟩ := hI
   refine Qcd.aL hD (cond (decide (i < l.length)) ((i < l.length) /\ cond ((decide (65 <= bat l i)) && (decide (bat l i <= 90))) ((l.length = l.length) /\ (l.length <= 1099511627776) /\ ((List.replicate l.length (0 : UInt8)).length = l.length) /\ (i < l.length) /\ (i < l.length) /\ (i < l.length) /\ (i + 1 <= 9223372036854775807) /\ (Qcd).L K 3 (mkS 41 [(0, (.str l)), (3, (.own 1)), (4, (.nat (i + 1)))] [(1, .row (.bytes (l.set i (l.getD i 0 + 32))) true)] 2)) ((i + 1 <= 9223372036854775807) /\ (Qcd).L K 3 (mkS 41 [(0, (.str l)), (3, .nilsl), (4, (.nat (i + 1)))] [] 1))) (K (.val (.str l)) none)) ?_
   refine Qd ?_ ?_ <;> intro h1 <;> simp -failIfUnchanged [-List.getD_eq_getElem?_getD] at h1
   refine Z6 ?_
   refine Qd ?_ ?_ <;> intro h2 <;> simp -failIfUnchanged [-List.getD_eq_getElem?_getD] at h2
   refine Z6 (Z6 (Z6 (Z6 (Z6 (Z6 (Z6 ?_))))))
   have e : l.set i (l.getD i 0 + 32) = low (l.take (i + 1)) ++ l.drop (i + 1) := by
    rw [<- Qcq l i h1, Qiw k2]; unfold UT; rw [if_pos (show 65 <= (l.getD i 0).toNat /\ (l.getD i 0).toNat <= 90 from h2)]
   rw [e]
   exact L3b _ (i + 1) rfl ⟨by omega, by omega⟩
   refine Z6 ?_
   have e := Qa9 l i h1 (by unfold UT; rw [if_neg (fun h => by have := h2 h.1; have h3 : bat l i <= 90 := h.2; omega)])
   rw [Qiw k2] at e
   exact ih _ (by omega) (i + 1) rfl ⟨by omega, List.append_cancel_right (bs := l.drop (i + 1)) (by rw [List.take_append_drop]; exact e.symm)⟩
   have e := QfB l i (by omega)
   rw [Qiw k2] at e
   rw [<- e] at hk
   exact hk
 refine Qcd.en ((Qcd).L K 3 (mkS 41 [(0, (.str l)), (3, .nilsl), (4, (.nat 0))] [] 1)) ?_
 exact L3 _ 0 rfl ⟨by omega, by simp [low]⟩
 cases e
def c135 (svs : List SV) (b : Option SB) : QR := match svs, b with
 | [.str l], none => some ([l.length <= 1000000000], .str (low l))
 | _, _ => none
noncomputable def QhO : Wk := ⟨[], Qm Tryz.f135, false, false, [.tmp 2], [9], [(3, 1800)], []⟩
theorem Qsf : Has 135 := hsf Tryz.f135
theorem Qq8 : Sat 135 (QC c135) := by
 have hD : Qe QhO.D := Qe.nil
 refine QhO.sa hD Tryz.f135 fun svs b K hP => ?_
 obtain ⟨ps, v, e, hp, hk⟩ := Qo hP
 unfold c135 at e
 split at e
 rename_i l
 cases e
 obtain ⟨h01, _⟩ := hp
 have L3 : ∀ (mm : Nat) (i : Nat), l.length - i = mm -> (i <= l.length) -> QhO.L K 3 (mkS 30 [(3, (.own 1)), (8, (.own 1)), (9, (.nat l.length)), (10, (.nat i))] [(1, .row (.bytes (low (l.take i) ++ l.drop i)) false)] 2) := by
  intro mm
  induction mm using Nat.strongRecOn with
  | _ mm ih =>
   intro i hm hI
   refine QhO.aL hD (have a0 := low (l.take i) ++ l.drop i; cond (decide (i < l.length)) ((i < a0.length) /\ (i < a0.length) /\ cond ((decide (65 <= bat a0 i)) && (decide (bat a0 i <= 90))) ((i < a0.length) /\ (i < a0.length) /\ (i + 1 <= 9223372036854775807) /\ (QhO).L K 3 (mkS 30 [(3, (.own 1)), (8, (.own 1)), (9, (.nat l.length)), (10, (.nat (i + 1)))] [(1, .row (.bytes (a0.set i (a0.getD i 0 + 97 - 65))) false)] 2)) ((i + 1 <= 9223372036854775807) /\ (QhO).L K 3 (mkS 30 [(3, (.own 1)), (8, (.own 1)), (9, (.nat l.length)), (10, (.nat (i + 1)))] [(1, .row (.bytes a0) false)] 2))) (K (.val (.str a0)) none)) ?_
   refine Qd ?_ ?_ <;> intro h1 <;> simp -failIfUnchanged [-List.getD_eq_getElem?_getD] at h1
   refine Z6 (Z6 ?_)
   refine Qd ?_ ?_ <;> intro h2 <;> simp -failIfUnchanged [-List.getD_eq_getElem?_getD] at h2
   refine Z6 (Z6 (Z6 ?_))
   rw [Qcy l i h1] at h2
   have e : (low (l.take i) ++ l.drop i).set i ((low (l.take i) ++ l.drop i).getD i 0 + 97 - 65) = low (l.take (i + 1)) ++ l.drop (i + 1) := by
    rw [<- Qcq l i h1, Qix l i h1, byt32]; unfold UT; rw [if_pos (show 65 <= (l.getD i 0).toNat /\ (l.getD i 0).toNat <= 90 from h2)]
   rw [e]
   exact ih _ (by omega) (i + 1) rfl (by omega)
   refine Z6 ?_
   rw [Qcy l i h1] at h2
   rw [Qa9 l i h1 (by unfold UT; rw [if_neg (fun h => by have := h2 h.1; have h3 : bat l i <= 90 := h.2; omega)])]
   exact ih _ (by omega) (i + 1) rfl (by omega)
   rw [QfB l i (by omega)]
   exact hk
 refine QhO.en ((l.length <= 1099511627776) /\ (QhO).L K 3 (mkS 30 [(3, (.own 1)), (8, (.own 1)), (9, (.nat l.length)), (10, (.nat 0))] [(1, .row (.bytes l) false)] 2)) ?_
 refine Z6 ?_
 exact L3 _ 0 rfl (by omega)
 cases e
end
section
open Go Go.RowKit
set_option maxRecDepth 20000
theorem Qho (l : Bs) (i : Nat) (h : i < l.length) : VD (l.take (i + 1)) = 16 * VD (l.take i) + Yv (bat l i) := by
 rw [List.take_add_one, List.getElem?_eq_getElem h, Option.toList_some, Qhp]
 simp [bat, List.getD_eq_getElem?_getD, List.getElem?_eq_getElem h]
theorem QiI (l : Bs) (hd : ∀ i, i < l.length -> Q2 (bat l i) = true) : ∀ i, i <= l.length -> VD (l.take i) < 16 ^ i
 | 0, _ => by simp [VD]
 | i + 1, h => by
  have h1 := QiI l hd i (by omega)
  have h2 := Qhq (hd i (by omega))
  rw [Qho l i (by omega), Nat.pow_succ]
  omega
theorem or32 : ∀ n : Nat, n < 256 -> (65 <= n /\ n <= 70 -> ((UInt8.ofNat n) ||| 32).toNat = n + 32) /\ (97 <= n /\ n <= 102 -> ((UInt8.ofNat n) ||| 32).toNat = n) := by decide
theorem or32c (c : UInt8) : (65 <= c.toNat /\ c.toNat <= 70 -> (c ||| 32).toNat = c.toNat + 32) /\ (97 <= c.toNat /\ c.toNat <= 102 -> (c ||| 32).toNat = c.toNat) := by
 have := or32 c.toNat (UInt8.toNat_lt c)
 simpa using this
theorem Qah {c : UInt8} (h : Qy c.toNat = true) : (c - 48).toNat = Yv c.toNat := by
 simp only [Qy, Bool.and_eq_true, decide_eq_true_eq] at h
 rw [UInt8.toNat_sub, Yv, if_pos h.2]
 have h2 : (48 : UInt8).toNat = 48 := rfl
 omega
theorem Qbi {c : UInt8} (h : Q2 c.toNat = true) (hn : ¬ Qy c.toNat = true) : 97 <= (c ||| 32).toNat /\ (c ||| 32).toNat <= 122 /\ ((c ||| 32) - 97 + 10).toNat = Yv c.toNat := by
 simp only [Q2, Qy, Bool.or_eq_true, Bool.and_eq_true, decide_eq_true_eq] at h hn
 have ho := or32c c
 have h2 : (97 : UInt8).toNat = 97 := rfl
 have h3 : (10 : UInt8).toNat = 10 := rfl
 rw [UInt8.toNat_add, UInt8.toNat_sub, Yv, if_neg (by omega)]
 by_cases h70 : c.toNat <= 70
 rw [ho.1 (by omega), if_pos h70]; omega
 rw [ho.2 (by omega), if_neg h70]; omega
def c160 (svs : List SV) (b : Option SB) : QR := match svs, b with
 | [.str _], none => some ([False], .bool false)
 | _, _ => none
theorem Qr4 : Has 160 := hsf Tryz.f160
theorem QqX : Sat 160 (QC c160) := by
 intro g0 w M ω svs args b K _ _ _ hP
 exfalso
 obtain ⟨ps, v, e, hp, hk⟩ := Qo hP
 unfold c160 at e
 split at e
 cases e; exact hp.1
 cases e
theorem ku64 {K : Out -> Option SB -> Prop} {n m : Int} (hk : K (.val (.tup [.int .u64 n, .nilif])) none) (e : n = m) : K (.val (.tup [.int .u64 m, .nilif])) none := by rw [<- e]; exact hk
def c159 (svs : List SV) (b : Option SB) : QR := match svs, b with
 | [.byt c], none => some ([], .byt (c ||| 32))
 | _, _ => none
noncomputable def W159 : Wk := ⟨[], Qm Tryz.f159, false, false, [.tmp 2], [5], [], []⟩
theorem Qr5 : Has 159 := hsf Tryz.f159
theorem QqY : Sat 159 (QC c159) := by
 have hD : Qe W159.D := Qe.nil
 refine W159.sa hD Tryz.f159 fun svs b K hP => ?_
 obtain ⟨ps, v, e, hp, hk⟩ := Qo hP
 unfold c159 at e
 split at e
 rename_i c
 cases e
 skip
 refine W159.en (K (.val (.byt (c ||| 32))) none) ?_
 exact hk
 cases e
def c156 (svs : List SV) (b : Option SB) : QR := match svs, b with
 | [.str l, .nat 16, .nat 64], none => some ([0 < l.length /\ l.length <= 6, ∀ i, i < l.length -> Q2 (bat l i) = true], .tup [.int .u64 (VD l : Nat), .nilif])
 | _, _ => none
noncomputable def Qgj : Wk := ⟨[(159, .pure c159), (160, .pure c160)], Qm Tryz.f156, false, false, [.tmp 6, .tmp 7], [182, 71], [(36, 4436777100798802905238461234946)], []⟩
theorem Qr6 : Has 156 := hsf Tryz.f156
theorem QfJ {p q : Prop} (k : q) (h : p := by first | omega | (simp; done) | (simp; omega) | (exact absurd g0 (by decide)) | assumption) : p /\ q := ⟨h, k⟩
theorem QqZ : Sat 156 (QC c156) := by
 have hD : Qe Qgj.D := (Qe.cons Qr5 QqY (Qe.cons Qr4 QqX Qe.nil))
 refine Qgj.sa hD Tryz.f156 fun svs b K hP => ?_
 obtain ⟨ps, v, e, hp, hk⟩ := Qo hP
 unfold c156 at e
 split at e
 rename_i l
 cases e
 obtain ⟨h01, h02, _⟩ := hp
 have hl := QiI l h02
 have L36 : ∀ (mm : Nat) (i : Nat) (mx n : Int), l.length - i = mm -> (i <= l.length /\ mx = 18446744073709551615 /\ n = (VD (l.take i) : Nat)) -> Qgj.L K 36 (mkS 172 [(1, (.nat 16)), (8, (.bool false)), (9, (.str l)), (10, (.int .u64 1152921504606846976)), (11, (.int .u64 mx)), (12, (.bool false)), (13, (.int .u64 n)), (99, (.own 1)), (100, (.nat l.length)), (101, (.nat i))] [(1, .row (.bytes l) false)] 2) := by
  intro mm
  induction mm using Nat.strongRecOn with
  | _ mm ih =>
   intro i mx n hm hI
   obtain ⟨k1, k2, k3⟩ := hI
   have p1 : i < l.length -> VD (l.take (i + 1)) = 16 * VD (l.take i) + Yv (bat l i) := Qho l i
   have p2 : i < l.length -> VD (l.take (i + 1)) < 16 ^ 6 := fun h => Nat.lt_of_lt_of_le (hl (i + 1) (by omega)) (Nat.pow_le_pow_right (by omega) (by omega))
   have p3 : VD (l.take i) < 16 ^ 6 := Nat.lt_of_lt_of_le (hl i k1) (Nat.pow_le_pow_right (by omega) (by omega))
   have p4 : i < l.length -> Yv (bat l i) < 16 := fun h => Qhq (h02 i h)
   simp only [show (16 : Nat) ^ 6 = 16777216 from rfl] at p2 p3
   refine Qgj.aL hD (have a0 := (n * (16 : Int)) % 18446744073709551616; have a1 := (a0 + (((((l.getD i 0 ||| 32) - 97) + 10).toNat : Nat) : Int)) % 18446744073709551616; have a2 := (a0 + (((l.getD i 0 - 48).toNat : Nat) : Int)) % 18446744073709551616; have a3 : Out := .val (.tup [(.int .u64 mx), .ifx]); have a4 : Out := .val (.tup [(.int .u64 0), .ifx]); have a5 := i + 1 <= 9223372036854775807; have a6 : SV := .int .u64 1152921504606846976; cond (decide (i < l.length)) ((i < l.length) /\ (i < l.length) /\ cond ((decide (bat l i = 95)) && false) (a5 /\ (Qgj).L K 36 (mkS 172 [(1, (.nat 16)), (8, (.bool false)), (9, (.str l)), (10, a6), (11, (.int .u64 mx)), (12, (.bool true)), (13, (.int .u64 n)), (99, (.own 1)), (100, (.nat l.length)), (101, (.nat (i + 1)))] [(1, .row (.bytes l) false)] 2)) (cond ((decide (48 <= bat l i)) && (decide (bat l i <= 57))) (cond (decide ((UInt8.ofNat 16).toNat <= (l.getD i 0 - 48).toNat)) (K a4 none) (cond (decide ((1152921504606846976 : Int) <= n)) (K a3 none) ((16 <= 9223372036854775807) /\ cond ((decide (a2 < a0)) || (decide (mx < a2))) (K a3 none) (a5 /\ (Qgj).L K 36 (mkS 172 [(1, (.nat 16)), (8, (.bool false)), (9, (.str l)), (10, a6), (11, (.int .u64 mx)), (12, (.bool false)), (13, (.int .u64 a2)), (99, (.own 1)), (100, (.nat l.length)), (101, (.nat (i + 1)))] [(1, .row (.bytes l) false)] 2))))) (cond ((decide (97 <= (l.getD i 0 ||| 32).toNat)) && (decide ((l.getD i 0 ||| 32).toNat <= 122))) (cond (decide ((UInt8.ofNat 16).toNat <= (((l.getD i 0 ||| 32) - 97) + 10).toNat)) (K a4 none) (cond (decide ((1152921504606846976 : Int) <= n)) (K a3 none) ((16 <= 9223372036854775807) /\ cond ((decide (a1 < a0)) || (decide (mx < a1))) (K a3 none) (a5 /\ (Qgj).L K 36 (mkS 172 [(1, (.nat 16)), (8, (.bool false)), (9, (.str l)), (10, a6), (11, (.int .u64 mx)), (12, (.bool false)), (13, (.int .u64 a1)), (99, (.own 1)), (100, (.nat l.length)), (101, (.nat (i + 1)))] [(1, .row (.bytes l) false)] 2))))) (K a4 none)))) ((false = true -> (False) /\ True) /\ K (.val (.tup [(.int .u64 n), .nilif])) none)) ?_
   refine Qd ?_ ?_ <;> intro h1 <;> simp -failIfUnchanged [-List.getD_eq_getElem?_getD, -UInt8.toNat_or] at h1
   refine QfJ (QfJ ?_)
   refine Qd (fun h2 => ?_) (fun h2 => ?_)
   simp -failIfUnchanged [-List.getD_eq_getElem?_getD, -UInt8.toNat_or] at h2
   simp -failIfUnchanged [-List.getD_eq_getElem?_getD, -UInt8.toNat_or] at h2
   refine Qd ?_ ?_ <;> intro h3 <;> simp -failIfUnchanged [-List.getD_eq_getElem?_getD, -UInt8.toNat_or] at h3
   refine Qd (fun h4 => ?_) (fun h4 => ?_)
   simp -failIfUnchanged [-List.getD_eq_getElem?_getD, -UInt8.toNat_or] at h4
   exfalso
   have q := p4 h1
   have q2 : (l.getD i 0 - 48).toNat = Yv (bat l i) := Qah (by unfold Qy; simp only [Bool.and_eq_true, decide_eq_true_eq]; exact h3)
   omega
   simp -failIfUnchanged [-List.getD_eq_getElem?_getD, -UInt8.toNat_or] at h4
   refine Qd ?_ ?_ <;> intro h5 <;> simp -failIfUnchanged [-List.getD_eq_getElem?_getD, -UInt8.toNat_or] at h5
   exfalso
   have q := p4 h1
   have q2 : (l.getD i 0 - 48).toNat = Yv (bat l i) := Qah (by unfold Qy; simp only [Bool.and_eq_true, decide_eq_true_eq]; exact h3)
   omega
   refine QfJ ?_
   refine Qd ?_ ?_ <;> intro h6 <;> simp -failIfUnchanged [-List.getD_eq_getElem?_getD, -UInt8.toNat_or] at h6
   exfalso
   have q := p4 h1
   have q2 : (l.getD i 0 - 48).toNat = Yv (bat l i) := Qah (by unfold Qy; simp only [Bool.and_eq_true, decide_eq_true_eq]; exact h3)
   omega
   refine QfJ ?_
   have q2 : (l.getD i 0 - 48).toNat = Yv (bat l i) := Qah (by unfold Qy; simp only [Bool.and_eq_true, decide_eq_true_eq]; exact h3)
   have q := p4 h1
   have q5 := p1 h1
   rw [q2]
   exact ih _ (by omega) (i + 1) mx _ rfl ⟨by omega, k2, by rw [q5, k3]; omega⟩
   refine Qd (fun h4 => ?_) (fun h4 => ?_)
   simp -failIfUnchanged [-List.getD_eq_getElem?_getD, -UInt8.toNat_or] at h4
   refine Qd ?_ ?_ <;> intro h5 <;> simp -failIfUnchanged [-List.getD_eq_getElem?_getD, -UInt8.toNat_or] at h5
   exfalso
   have q := p4 h1
   have q3 := Qbi (c := l.getD i 0) (h02 i h1) (by intro q; simp only [Qy, Bool.and_eq_true, decide_eq_true_eq] at q; have q4 : 48 <= bat l i /\ bat l i <= 57 := q; have := h3 q4.1; omega)
   have q2 : ((l.getD i 0 ||| 32) - 97 + 10).toNat = Yv (bat l i) := q3.2.2
   have q6 := UInt8.toNat_add ((l.getD i 0 ||| 32) - 97) 10
   have q7 : (10 : UInt8).toNat = 10 := rfl
   omega
   refine Qd (fun h6 => ?_) (fun h6 => ?_)
   simp -failIfUnchanged [-List.getD_eq_getElem?_getD, -UInt8.toNat_or] at h6
   exfalso
   have q := p4 h1
   have q3 := Qbi (c := l.getD i 0) (h02 i h1) (by intro q; simp only [Qy, Bool.and_eq_true, decide_eq_true_eq] at q; have q4 : 48 <= bat l i /\ bat l i <= 57 := q; have := h3 q4.1; omega)
   have q2 : ((l.getD i 0 ||| 32) - 97 + 10).toNat = Yv (bat l i) := q3.2.2
   have q6 := UInt8.toNat_add ((l.getD i 0 ||| 32) - 97) 10
   have q7 : (10 : UInt8).toNat = 10 := rfl
   omega
   simp -failIfUnchanged [-List.getD_eq_getElem?_getD, -UInt8.toNat_or] at h6
   refine QfJ ?_
   refine Qd ?_ ?_ <;> intro h7 <;> simp -failIfUnchanged [-List.getD_eq_getElem?_getD, -UInt8.toNat_or] at h7
   exfalso
   have q := p4 h1
   have q3 := Qbi (c := l.getD i 0) (h02 i h1) (by intro q; simp only [Qy, Bool.and_eq_true, decide_eq_true_eq] at q; have q4 : 48 <= bat l i /\ bat l i <= 57 := q; have := h3 q4.1; omega)
   have q2 : ((l.getD i 0 ||| 32) - 97 + 10).toNat = Yv (bat l i) := q3.2.2
   have q6 := UInt8.toNat_add ((l.getD i 0 ||| 32) - 97) 10
   have q7 : (10 : UInt8).toNat = 10 := rfl
   omega
   refine QfJ ?_
   have q3 := Qbi (c := l.getD i 0) (h02 i h1) (by intro q; simp only [Qy, Bool.and_eq_true, decide_eq_true_eq] at q; have q4 : 48 <= bat l i /\ bat l i <= 57 := q; have := h3 q4.1; omega)
   have q2 : ((l.getD i 0 ||| 32) - 97 + 10).toNat = Yv (bat l i) := q3.2.2
   have q6 := UInt8.toNat_add ((l.getD i 0 ||| 32) - 97) 10
   have q7 : (10 : UInt8).toNat = 10 := rfl
   have q := p4 h1
   have q5 := p1 h1
   rw [q2]
   exact ih _ (by omega) (i + 1) mx _ rfl ⟨by omega, k2, by rw [q5, k3]; omega⟩
   simp -failIfUnchanged [-List.getD_eq_getElem?_getD, -UInt8.toNat_or] at h4
   exfalso
   have q := p4 h1
   have q3 := Qbi (c := l.getD i 0) (h02 i h1) (by intro q; simp only [Qy, Bool.and_eq_true, decide_eq_true_eq] at q; have q4 : 48 <= bat l i /\ bat l i <= 57 := q; have := h3 q4.1; omega)
   have q2 : ((l.getD i 0 ||| 32) - 97 + 10).toNat = Yv (bat l i) := q3.2.2
   have q6 := UInt8.toNat_add ((l.getD i 0 ||| 32) - 97) 10
   have q7 : (10 : UInt8).toNat = 10 := rfl
   omega
   refine ⟨fun g0 => (by cases g0), ?_⟩
   exact ku64 hk (by rw [k3, List.take_of_length_le (by omega)])
 refine Qgj.en (cond (decide (l = [])) (K (.val (.tup [(.int .u64 0), .ifx])) none) ((64 <= 9223372036854775807) /\ (0 <= (64 : Int) /\ (64 : Int) <= 64) /\ (l.length <= 1099511627776) /\ (Qgj).L K 36 (mkS 172 [(1, (.nat 16)), (8, (.bool false)), (9, (.str l)), (10, (.int .u64 1152921504606846976)), (11, (.int .u64 (((((1 : Int) * 2 ^ ((64 : Int)).toNat) % 18446744073709551616) - (1 : Int)) % 18446744073709551616))), (12, (.bool false)), (13, (.int .u64 0)), (99, (.own 1)), (100, (.nat l.length)), (101, (.nat 0))] [(1, .row (.bytes l) false)] 2))) ?_
 refine Qd ?_ ?_ <;> intro h1 <;> simp -failIfUnchanged [-List.getD_eq_getElem?_getD, -UInt8.toNat_or] at h1
 simp [h1] at h01
 refine QfJ (QfJ (QfJ ?_))
 exact L36 _ 0 _ 0 rfl ⟨by omega, by decide, by simp [VD]⟩
 cases e
def c152 (svs : List SV) (b : Option SB) : QR := match svs, b with
 | [.str l, .nat 16, .nat 64], none => some ([0 < l.length /\ l.length <= 6, ∀ i, i < l.length -> Q2 (bat l i) = true], .tup [.int .u64 (VD l : Nat), .nilif])
 | _, _ => none
noncomputable def W152 : Wk := ⟨[(156, .pure c156)], Qm Tryz.f152, false, false, [.tmp 6, .tmp 7], [182, 71], [], []⟩
theorem Qr8 : Has 152 := hsf Tryz.f152
theorem kyz1 {p q : Prop} (k : q) (h : p := by first | omega | assumption) : p /\ q := ⟨h, k⟩
theorem Qq1 : Sat 152 (QC c152) := by
 have hD : Qe W152.D := (Qe.cons Qr6 QqZ Qe.nil)
 refine W152.sa hD Tryz.f152 fun svs b K hP => ?_
 obtain ⟨ps, v, e, hp, hk⟩ := Qo hP
 unfold c152 at e
 split at e
 rename_i l
 cases e
 obtain ⟨h01, h02, _⟩ := hp
 refine W152.en ((0 < l.length /\ l.length <= 6) /\ (∀ i, i < l.length -> Q2 (bat l i) = true) /\ K (.val (.tup [(.int .u64 ((VD l : Nat) : Int)), .nilif])) none) ?_
 refine kyz1 (kyz1 ?_)
 exact hk
 cases e
end
end Go.Proofs.YtengepcafdnalaaGreatDoor
