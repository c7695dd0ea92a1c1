/-
  Parts of the proof that the law FnParseExact holds for every input (texts Ki, Kj). Conditions: none.
-/
import Derived.Test.YtengepcafdnalaaGreatDoorM27
namespace Go.Proofs.YtengepcafdnalaaGreatDoor
section
open Go Go.RowKit
set_option maxRecDepth 20000
def c147 : Spec := fun svs b K => match svs, b with
 | [.ptr 0 0, .str w], some (.blk 46 [.str s, .nat p, .bool bad, .bool un, .bool ps]) => s.length ≤ 1000000 ∧ p ≤ s.length + 1 ∧ w.length ≤ 1000 ∧ cond (wordS s w p) (K (.val (.bool true)) (some (.blk 46 [.str s, .nat (p + w.length), .bool bad, .bool un, .bool ps])))
  (K (.val (.bool false)) (some (.blk 46 [.str s, .nat p, .bool bad, .bool un, .bool ps])))
 | _, _ => False
noncomputable def W147 : Wk := ⟨[(77, .pure c77), (89, .pure c89)], bodyOf Tryz.f147, true, false, [.tmp 4], [4], [], []⟩
theorem has147 : Has 147 := Has.of (fn := Tryz.f147) (by kernel_rfl) (by kernel_rfl) (by kernel_rfl)
theorem kiz6 {c0 c1 p0 p1 q : Prop} (k : q) (h : c0 → c1 → p0 ∧ p1 ∧ True := by intro g0 g1; (try simp at g0); (try simp at g1); exact ⟨(by first | omega | (simp; omega) | simp_all), (by first | omega | (simp; omega) | simp_all), trivial⟩) : (c0 → c1 → p0 ∧ p1 ∧ True) ∧ q := ⟨h, k⟩
theorem kiz5 {c0 c1 p0 p1 p2 q : Prop} (k : q) (h : c0 → c1 → p0 ∧ p1 ∧ p2 ∧ True := by intro g0 g1; (try simp at g0); (try simp at g1); exact ⟨(by first | omega | (simp; omega) | simp_all), (by first | omega | (simp; omega) | simp_all), (by first | omega | (simp; omega) | simp_all), trivial⟩) : (c0 → c1 → p0 ∧ p1 ∧ p2 ∧ True) ∧ q := ⟨h, k⟩
theorem kiz4 {c0 c1 p0 q : Prop} (k : q) (h : c0 → c1 → p0 ∧ True := by intro g0 g1; (try simp at g0); (try simp at g1); exact ⟨(by first | omega | (simp; omega) | simp_all), trivial⟩) : (c0 → c1 → p0 ∧ True) ∧ q := ⟨h, k⟩
theorem kiz3 {c0 p0 p1 q : Prop} (k : q) (h : c0 → p0 ∧ p1 ∧ True := by intro g0; (try simp at g0); exact ⟨(by first | omega | (simp; omega) | simp_all), (by first | omega | (simp; omega) | simp_all), trivial⟩) : (c0 → p0 ∧ p1 ∧ True) ∧ q := ⟨h, k⟩
theorem kiz2 {c0 p0 p1 p2 p3 q : Prop} (k : q) (h : c0 → p0 ∧ p1 ∧ p2 ∧ p3 ∧ True := by intro g0; (try simp at g0); exact ⟨(by first | omega | (simp; omega) | simp_all), (by first | omega | (simp; omega) | simp_all), (by first | omega | (simp; omega) | simp_all), (by first | omega | (simp; omega) | simp_all), trivial⟩) : (c0 → p0 ∧ p1 ∧ p2 ∧ p3 ∧ True) ∧ q := ⟨h, k⟩
theorem kiz1 {c0 p0 q : Prop} (k : q) (h : c0 → p0 ∧ True := by intro g0; (try simp at g0); exact ⟨(by first | omega | (simp; omega) | simp_all), trivial⟩) : (c0 → p0 ∧ True) ∧ q := ⟨h, k⟩
theorem kiz0 {p q : Prop} (k : q) (h : p := by first | omega | (simp; omega) | simp_all) : p ∧ q := ⟨h, k⟩
theorem sat147 : Sat 147 c147 := by
 have hD : CxOk W147.D := (CxOk.cons has77 sat77 (CxOk.cons has89 sat89 CxOk.nil))
 refine W147.sat hD (fn := Tryz.f147) (by kernel_rfl) (by kernel_rfl) (by kernel_rfl) (by decide) fun svs b K hP => ?_
 unfold c147 at hP
 split at hP
 · rename_i w s p bad un ps
   obtain ⟨h01, h02, h03, hk⟩ := hP
   refine W147.entry rfl (X := have a2 := decide (s.length < p + w.length); have a0 := a2 || (!(decide (low ((s.take (p + w.length)).drop p) = w))); have a6 := a0 = false → ((a0 == false) = true) ∧ True; have a7 := nmChar (bat s (p + w.length)); have a8 := (a2 == false) = true; have a5 := a2 = false → a8 ∧ True; have a9 := decide (p + w.length < s.length); have a1 := (a0 == false) && (a9 == true); have a3 := a1 = true → a7 = false → ((a1 && (a7 == false)) = true) ∧ True; have a4 := (a0 == false) = true → a9 = true → (a1 = true) ∧ True; (p + w.length ≤ 9223372036854775807) ∧ a5 ∧ a5 ∧ a5 ∧ a5 ∧ a5 ∧ a5 ∧ (a2 = false → a8 ∧ a8 ∧ a8 ∧ (p ≤ p + w.length ∧ p + w.length ≤ s.length) ∧ True) ∧ (a2 = false → a8 ∧ (((s.take (p + w.length)).drop p).length ≤ 1000000000) ∧ True) ∧ (a2 = false → a8 ∧ a8 ∧ True) ∧ (a2 = false → (a2 == false) = true) ∧ a6 ∧ a6 ∧ a6 ∧ a6 ∧ (a0 = false → ((a0 == false) = true) ∧ ((a0 == false) = true) ∧ True) ∧ a6 ∧ a4 ∧ a4 ∧ a4 ∧ ((a0 == false) = true → a9 = true → (a1 = true) ∧ (a1 = true) ∧ (p + w.length < s.length) ∧ True) ∧ a4 ∧ a4 ∧ a3 ∧ a3 ∧ a3 ∧ (a1 = true → a7 = false → ((a1 && (a7 == false)) = true) ∧ ((a1 && (a7 == false)) = true) ∧ (p + w.length < s.length) ∧ True) ∧ a3 ∧ ((a0 == false) = true → a9 = true → (a1 = true) ∧ (a7 = false → (a1 && (a7 == false)) = true) ∧ True) ∧ (a0 = false → ((a0 == false) = true) ∧ (a9 = true → a1 = true) ∧ True) ∧ (a0 = false → (a0 == false) = true) ∧ cond (a0 || (a9 && (a7 || (decide (bat s (p + w.length) = 92))))) (K (.val (.bool false)) (some (.blk 46 [(.str s), (.nat p), (.bool bad), (.bool un), (.bool ps)]))) (K (.val (.bool true)) (some (.blk 46 [(.str s), (.nat (p + w.length)), (.bool bad), (.bool un), (.bool ps)])))) (by kernel_rfl) ?_
   refine kiz0 ?_
   refine kiz1 ?_
   refine kiz1 ?_
   refine kiz1 ?_
   refine kiz1 ?_
   refine kiz1 ?_
   refine kiz1 ?_
   refine kiz2 ?_
   refine kiz3 ?_
   refine kiz3 ?_
   refine kiz0 ?_
   refine kiz1 ?_
   refine kiz1 ?_
   refine kiz1 ?_
   refine kiz1 ?_
   refine kiz3 ?_
   refine kiz1 ?_
   refine kiz4 ?_
   refine kiz4 ?_
   refine kiz4 ?_
   refine kiz5 ?_
   refine kiz4 ?_
   refine kiz4 ?_
   refine kiz4 ?_
   refine kiz4 ?_
   refine kiz4 ?_
   refine kiz5 ?_
   refine kiz4 ?_
   refine kiz6 ?_
   refine kiz3 ?_
   refine kiz0 ?_
   refine cndI (fun h1 => ?_) (fun h1 => ?_)
   · skip
     have e : wordS s w p = false := by
      rw [← Bool.not_eq_true]
      intro hh
      have h2 : (!wordS s w p) = true := by
       rw [← h1]; unfold wordS
       rw [show decide (s.length < p + w.length) = !decide (p + w.length ≤ s.length) from by rw [Bool.eq_iff_iff]; simp]
       generalize decide (p + w.length ≤ s.length) = b1
       generalize decide (low ((s.take (p + w.length)).drop p) = w) = b2
       generalize decide (p + w.length < s.length) = b3
       generalize nmChar (bat s (p + w.length)) = b4
       generalize decide (bat s (p + w.length) = 92) = b5
       cases b1 <;> cases b2 <;> cases b3 <;> cases b4 <;> cases b5 <;> rfl
      rw [hh] at h2
      cases h2
     rw [e] at hk
     exact hk
   skip
   have e : wordS s w p = true := by
    have h2 : (!wordS s w p) = false := by
     rw [← h1]; unfold wordS
     rw [show decide (s.length < p + w.length) = !decide (p + w.length ≤ s.length) from by rw [Bool.eq_iff_iff]; simp]
     generalize decide (p + w.length ≤ s.length) = b1
     generalize decide (low ((s.take (p + w.length)).drop p) = w) = b2
     generalize decide (p + w.length < s.length) = b3
     generalize nmChar (bat s (p + w.length)) = b4
     generalize decide (bat s (p + w.length) = 92) = b5
     cases b1 <;> cases b2 <;> cases b3 <;> cases b4 <;> cases b5 <;> rfl
    simpa using h2
   rw [e] at hk
   exact hk
 exact hP.elim
theorem sub48 {c : UInt8} (h : 48 ≤ c.toNat) : (c - 48).toNat = c.toNat - 48 := by
 rw [UInt8.toNat_sub]; have := UInt8.toNat_lt c; simp; omega
theorem bat_pos {s : Bs} {p : Nat} (h : bat s p ≠ 0) : p < s.length := bat_lt rfl h
theorem digS_go {s : Bs} {t : RS} {n : Nat} {b : Bool} (h : digB (bat s t.p) = true) (hl : t.p < s.length) : digS s t n b = digS s (t.go (t.p + 1)) (min (10 * n + (bat s t.p - 48)) 100000) true := by
 conv => lhs; unfold digS
 rw [if_pos ⟨h, hl⟩]
theorem digS_st {s : Bs} {t : RS} {n : Nat} {b : Bool} (h : digB (bat s t.p) = false) : digS s t n b = (n, b, t.unI (decide (n = 100000))) := by
 unfold digS
 rw [if_neg (by rw [h]; simp)]
theorem hiB_snoc (l : Bs) (i : Nat) (h : i < l.length) : hiB (l.take (i + 1)) = (hiB (l.take i) || decide (128 ≤ bat l i)) := by
 unfold hiB
 rw [List.take_add_one, List.getElem?_eq_getElem h, List.any_append]
 simp [bat, List.getD_eq_getElem?_getD, List.getElem?_eq_getElem h]
theorem digS_le (s : Bs) (t : RS) (n : Nat) (b : Bool) (h : t.p ≤ s.length + 1) : (digS s t n b).2.2.p ≤ s.length + 1 := by
 fun_induction digS s t n b with
 | case1 t n b h1 ih => exact ih (by simp only [RS.go_p]; omega)
 | case2 => exact h
theorem digS_n (s : Bs) (t : RS) (n : Nat) (b : Bool) (h : n ≤ 100000) : (digS s t n b).1 ≤ 100000 := by
 fun_induction digS s t n b with
 | case1 t n b h1 ih => exact ih (by omega)
 | case2 => exact h
def c148 (svs : List SV) (b : Option SB) : FR := match svs, b with
 | [.ptr 0 0], some (.blk 46 [.str s, .nat p, .bool bad, .bool un, .bool ps]) => some ([s.length ≤ 1000000, p ≤ s.length + 1], .val (.tup [.nat (digS s ⟨p, bad, un⟩ 0 false).1, .bool (digS s ⟨p, bad, un⟩ 0 false).2.1]),
  some (.blk 46 [.str s, .nat (digS s ⟨p, bad, un⟩ 0 false).2.2.p, .bool (digS s ⟨p, bad, un⟩ 0 false).2.2.bad, .bool (digS s ⟨p, bad, un⟩ 0 false).2.2.un, .bool ps]))
 | _, _ => none
noncomputable def W148 : Wk := ⟨[(66, .pure c66)], bodyOf Tryz.f148, true, false, [.tmp 2, .tmp 3], [3, 4], [(1, 13)], []⟩
theorem has148 : Has 148 := Has.of (fn := Tryz.f148) (by kernel_rfl) (by kernel_rfl) (by kernel_rfl)
theorem kiz8 {c0 p0 p1 q : Prop} (k : q) (h : c0 → p0 ∧ p1 ∧ True := by intro g0; (try simp at g0); exact ⟨(by first | omega | (have := q48 h1.1; omega) | (have := qp h1.1; omega)), (by first | omega | (have := q48 h1.1; omega) | (have := qp h1.1; omega)), trivial⟩) : (c0 → p0 ∧ p1 ∧ True) ∧ q := ⟨h, k⟩
theorem kiz7 {p q : Prop} (k : q) (h : p := by first | omega | (have := q48 h1.1; omega) | (have := qp h1.1; omega)) : p ∧ q := ⟨h, k⟩
theorem sat148 : Sat 148 (fnS c148) := by
 have hD : CxOk W148.D := (CxOk.cons has66 sat66 CxOk.nil)
 refine W148.sat hD (fn := Tryz.f148) (by kernel_rfl) (by kernel_rfl) (by kernel_rfl) (by decide) fun svs b K hP => ?_
 obtain ⟨ps, o, b', e, hp, hk⟩ := fnS_inv hP
 unfold c148 at e
 split at e
 · rename_i s p bad un ps
   cases e
   obtain ⟨h01, h02, _⟩ := hp
   have L1 : ∀ (mm : Nat) (n : Nat) (q : Bool) (t : RS), s.length - t.p = mm → t.p ≤ s.length + 1 ∧ n ≤ 100000 ∧ digS s t n q = digS s ⟨p, bad, un⟩ 0 false → W148.L K 1 (mkS 40 [(0, (.ptr 0 0)), (2, (.nat n)), (3, (.bool q))] [(0, .blk 46 [(.str s), (.nat t.p), (.bool t.bad), (.bool t.un), (.bool ps)])] 1) := by
    intro mm
    induction mm using Nat.strongRecOn with
    | _ mm ih =>
     intro n q t hm hI
     obtain ⟨k1, k2, k3⟩ := hI
     have q48 : 48 ≤ bat s t.p → (s.getD t.p 0 - 48).toNat = bat s t.p - 48 := fun h => sub48 h
     have qp : 48 ≤ bat s t.p → t.p < s.length := fun h => bat_pos (by omega)
     refine W148.atL hD (X := (s.length ≤ 1000000) ∧ (t.p ≤ s.length + 1) ∧ ((decide (48 ≤ bat s t.p)) = true → (s.length ≤ 1000000) ∧ (t.p ≤ s.length + 1) ∧ True) ∧ cond ((decide (48 ≤ bat s t.p)) && (decide (bat s t.p ≤ 57))) ((10 * n ≤ 9223372036854775807) ∧ (s.length ≤ 1000000) ∧ (t.p ≤ s.length + 1) ∧ ((10 * n) + ((s.getD t.p 0 - 48).toNat) ≤ 9223372036854775807) ∧ (t.p + 1 ≤ 9223372036854775807) ∧ (W148).L K 1 (mkS 40 [(0, (.ptr 0 0)), (2, (.nat (min ((10 * n) + ((s.getD t.p 0 - 48).toNat)) 100000))), (3, (.bool true))] [(0, .blk 46 [(.str s), (.nat (t.p + 1)), (.bool t.bad), (.bool t.un), (.bool ps)])] 1)) (K (.val (.tup [(.nat n), (.bool q)])) (some (.blk 46 [(.str s), (.nat t.p), (.bool t.bad), (.bool (t.un || (decide (n = 100000)))), (.bool ps)])))) (by kernel_rfl) ?_
     refine kiz7 (kiz7 ?_)
     refine kiz8 ?_
     refine cndI ?_ ?_ <;> intro h1 <;> simp -failIfUnchanged [-List.getD_eq_getElem?_getD] at h1
     · refine kiz7 ?_
       refine kiz7 (kiz7 ?_)
       refine kiz7 ?_
       refine kiz7 ?_
       have q := qp h1.1
       rw [q48 h1.1]
       exact ih _ (by simp only [RS.go_p]; omega) _ true (t.go (t.p + 1)) rfl ⟨by simp only [RS.go_p]; omega, by omega, by rw [← k3]; exact (digS_go (by simp [digB]; omega) q).symm⟩
     rw [digS_st (by simp [digB]; omega)] at k3
     rw [← k3] at hk
     exact hk
   refine W148.entry rfl (X := (W148).L K 1 (mkS 40 [(0, (.ptr 0 0)), (2, (.nat 0)), (3, (.bool false))] [(0, .blk 46 [(.str s), (.nat p), (.bool bad), (.bool un), (.bool ps)])] 1)) (by kernel_rfl) ?_
   exact L1 _ 0 false ⟨p, bad, un⟩ rfl ⟨h02, by omega, rfl⟩
 cases e
def c141 (svs : List SV) (b : Option SB) : FR := match svs, b with
 | [.ptr 0 0, .str l], some (.blk 46 [.str s, .nat p, .bool bad, .bool un, .bool ps]) => some ([l.length ≤ 1000000000], .val (.str (low l)), some (.blk 46 [.str s, .nat p, .bool bad, .bool (un || hiB l), .bool ps]))
 | _, _ => none
noncomputable def W141 : Wk := ⟨[(77, .pure c77)], bodyOf Tryz.f141, true, false, [.tmp 4], [9], [(2, 35)], []⟩
theorem has141 : Has 141 := Has.of (fn := Tryz.f141) (by kernel_rfl) (by kernel_rfl) (by kernel_rfl)
theorem kiz10 {p q : Prop} (k : q) (h : p := by first | omega | (simp; done) | (simp; omega)) : p ∧ q := ⟨h, k⟩
theorem kiz9 {c0 p0 q : Prop} (k : q) (h : c0 → p0 ∧ True := by intro g0; (try simp at g0); exact ⟨(by first | omega | (simp; done) | (simp; omega)), trivial⟩) : (c0 → p0 ∧ True) ∧ q := ⟨h, k⟩
theorem sat141 : Sat 141 (fnS c141) := by
 have hD : CxOk W141.D := (CxOk.cons has77 sat77 CxOk.nil)
 refine W141.sat hD (fn := Tryz.f141) (by kernel_rfl) (by kernel_rfl) (by kernel_rfl) (by decide) fun svs b K hP => ?_
 obtain ⟨ps, o, b', e, hp, hk⟩ := fnS_inv hP
 unfold c141 at e
 split at e
 · rename_i l s p bad un ps
   cases e
   obtain ⟨h01, _⟩ := hp
   have L2 : ∀ (mm : Nat) (i : Nat) (u : Bool), l.length - i = mm → i ≤ l.length ∧ u = (un || hiB (l.take i)) → W141.L K 2 (mkS 27 [(0, (.ptr 0 0)), (1, (.str l)), (5, (.nat i))] [(0, .blk 46 [(.str s), (.nat p), (.bool bad), (.bool u), (.bool ps)])] 1) := by
    intro mm
    induction mm using Nat.strongRecOn with
    | _ mm ih =>
     intro i u hm hI
     obtain ⟨k1, k2⟩ := hI
     refine W141.atL hD (X := cond (decide (i < l.length)) ((u = false → (i < l.length) ∧ True) ∧ (i + 1 ≤ 9223372036854775807) ∧ (W141).L K 2 (mkS 27 [(0, (.ptr 0 0)), (1, (.str l)), (5, (.nat (i + 1)))] [(0, .blk 46 [(.str s), (.nat p), (.bool bad), (.bool (u || (decide (128 ≤ bat l i)))), (.bool ps)])] 1)) ((l.length ≤ 1000000000) ∧ K (.val (.str (low l))) (some (.blk 46 [(.str s), (.nat p), (.bool bad), (.bool u), (.bool ps)])))) (by kernel_rfl) ?_
     refine cndI ?_ ?_ <;> intro h1 <;> simp -failIfUnchanged [-List.getD_eq_getElem?_getD] at h1
     · refine kiz9 ?_
       refine kiz10 ?_
       refine ih _ (by omega) (i + 1) (u || decide (128 ≤ bat l i)) rfl ⟨by omega, ?_⟩
       rw [k2, hiB_snoc l i h1, Bool.or_assoc]
     refine kiz10 ?_
     rw [k2, show i = l.length from by omega, List.take_length]
     exact hk
   refine W141.entry rfl (X := (W141).L K 2 (mkS 27 [(0, (.ptr 0 0)), (1, (.str l)), (5, (.nat 0))] [(0, .blk 46 [(.str s), (.nat p), (.bool bad), (.bool un), (.bool ps)])] 1)) (by kernel_rfl) ?_
   exact L2 _ 0 un rfl ⟨by omega, by simp [hiB]⟩
 cases e
end
section
open Go Go.RowKit
set_option maxRecDepth 20000
theorem h45t {s : Bs} {p : Nat} (h : hereB s [45] p = true) : bat s p = 45 := by
 rw [here1 s p 45 (by decide)] at h; exact of_decide_eq_true h
theorem h45f {s : Bs} {p : Nat} (h : hereB s [45] p = false) : ¬ bat s p = 45 := by
 rw [here1 s p 45 (by decide)] at h; exact of_decide_eq_false h
theorem h43t {s : Bs} {p : Nat} (h : hereB s [43] p = true) : bat s p = 43 := by
 rw [here1 s p 43 (by decide)] at h; exact of_decide_eq_true h
theorem h43f {s : Bs} {p : Nat} (h : hereB s [43] p = false) : ¬ bat s p = 43 := by
 rw [here1 s p 43 (by decide)] at h; exact of_decide_eq_false h
def bsUp (s : Bs) (p : Nat) : Nat → Bool
 | 0 => false
 | k + 1 => bsUp s p k || decide (bat s (p + k) = 92)
theorem bsUp_near (s : Bs) (p : Nat) : bsUp s p 4 = bsNear s p := by simp [bsUp, bsNear]
theorem bsUp_out {s : Bs} {p k : Nat} (h : s.length ≤ p + k) : ∀ j, bsUp s p (k + j) = bsUp s p k
 | 0 => rfl
 | j + 1 => by
  show (bsUp s p (k + j) || decide (bat s (p + (k + j)) = 92)) = _
  rw [bsUp_out h j, bat_out (by omega)]
  simp
theorem kcnt {K : Out → Option SB → Prop} {s : Bs} {ps : Bool} {r : (Int × Int) × RS} {x y : SV} {a c : Int} {p : Nat} {b u : Bool}
 (hk : ∀ x y, toI x = some r.1.1 → toI y = some r.1.2 → K (.val (.tup [x, y])) (some (.blk 46 [.str s, .nat r.2.p, .bool r.2.bad, .bool r.2.un, .bool ps]))) (e : r = ((a, c), ⟨p, b, u⟩)) (hx : toI x = some a) (hy : toI y = some c) :
 K (.val (.tup [x, y])) (some (.blk 46 [.str s, .nat p, .bool b, .bool u, .bool ps])) := by subst e; exact hk x y hx hy
theorem sCountN_no {s : Bs} {a : Int} {t : RS} (h : ¬ (bat s (sSp s t).p = 43 ∨ bat s (sSp s t).p = 45)) :
 sCountN s a t = ((a, 0), (sSp s t).unI ((decide ((sSp s t).p = t.p) && (nmChar (bat s (sSp s t).p) || decide (bat s (sSp s t).p = 92))) || decide (bat s (sSp s t).p = 111) || decide (bat s (sSp s t).p = 79) || digB (bat s (sSp s t).p))) := by
 unfold sCountN; simp only; rw [if_neg h]
theorem sCountN_sg {s : Bs} {a : Int} {t : RS} (h : bat s (sSp s t).p = 43 ∨ bat s (sSp s t).p = 45) :
 sCountN s a t = ((a, if bat s (sSp s t).p = 45 then 0 - ((digS s (sSp s ((sSp s t).go ((sSp s t).p + 1))) 0 false).1 : Int) else ((digS s (sSp s ((sSp s t).go ((sSp s t).p + 1))) 0 false).1 : Int)),
  if (digS s (sSp s ((sSp s t).go ((sSp s t).p + 1))) 0 false).2.1 = true then (digS s (sSp s ((sSp s t).go ((sSp s t).p + 1))) 0 false).2.2 else (digS s (sSp s ((sSp s t).go ((sSp s t).p + 1))) 0 false).2.2.no) := by
 unfold sCountN; simp only; rw [if_pos h]
theorem mul_sg {sg : Int} {n : Nat} (h : sg = 1 ∨ sg = -1) (hn : n ≤ 100000) : inI (sg * n) := by
 rcases h with rfl | rfl
 · unfold inI; omega
 unfold inI; omega
def c140i : Spec := fun svs b K => match svs, b with
 | [.ptr 0 0], some (.blk 46 [.str s, .nat p, .bool bad, .bool un, .bool ps]) => s.length ≤ 1000000 ∧ p ≤ s.length + 1 ∧ ∀ x y, toI x = some (sCount s ⟨p, bad, un⟩).1.1 → toI y = some (sCount s ⟨p, bad, un⟩).1.2 → K (.val (.tup [x, y]))
  (some (.blk 46 [.str s, .nat (sCount s ⟨p, bad, un⟩).2.p, .bool (sCount s ⟨p, bad, un⟩).2.bad, .bool (sCount s ⟨p, bad, un⟩).2.un, .bool ps]))
 | _, _ => False
noncomputable def W140 : Wk := ⟨[(43, .plain c43), (64, .fn c64), (66, .pure c66), (69, .pure c69), (89, .pure c89), (147, .plain c147), (148, .fn c148)], bodyOf Tryz.f140, true, false, [.tmp 2, .tmp 3], [3, 3], [(9, 17), (14, 305), (22, 49)], [9, 22]⟩
theorem has140 : Has 140 := Has.of (fn := Tryz.f140) (by kernel_rfl) (by kernel_rfl) (by kernel_rfl)
theorem kjz2 {c0 p0 p1 p2 q : Prop} (k : q) (h : c0 → p0 ∧ p1 ∧ p2 ∧ True := by intro g0; (try simp at g0); exact ⟨(by first | omega | (simp; done) | (have := sSp_le s t k1; omega) | exact mul_sg ‹_› ‹_› | (have := digS_le s t 0 false k1; omega) | (have := digS_le s t 0 false k1; have := bat_pos (s := s) (p := (digS s t 0 false).2.2.p) (by omega); omega)   | (have := sSp_le s t k1; have := bat_pos (s := s) (p := (sSp s t).p) (by omega); omega)   | (have b1 := bat_pos (s := s) (p := (sSp s t).p) (by omega); have b2 := sSp_le s ⟨(sSp s t).p + 1, (sSp s t).bad, (sSp s t).un⟩ (by show _ + 1 ≤ _; omega); first | exact b2 | omega)   | (have b3 := digS_n s (sSp s ⟨(sSp s t).p + 1, (sSp s t).bad, (sSp s t).un⟩) 0 false (by omega); unfold inI; omega)), (by first | omega | (simp; done) | (have := sSp_le s t k1; omega) | exact mul_sg ‹_› ‹_› | (have := digS_le s t 0 false k1; omega) | (have := digS_le s t 0 false k1; have := bat_pos (s := s) (p := (digS s t 0 false).2.2.p) (by omega); omega)   | (have := sSp_le s t k1; have := bat_pos (s := s) (p := (sSp s t).p) (by omega); omega)   | (have b1 := bat_pos (s := s) (p := (sSp s t).p) (by omega); have b2 := sSp_le s ⟨(sSp s t).p + 1, (sSp s t).bad, (sSp s t).un⟩ (by show _ + 1 ≤ _; omega); first | exact b2 | omega)   | (have b3 := digS_n s (sSp s ⟨(sSp s t).p + 1, (sSp s t).bad, (sSp s t).un⟩) 0 false (by omega); unfold inI; omega)), (by first | omega | (simp; done) | (have := sSp_le s t k1; omega) | exact mul_sg ‹_› ‹_› | (have := digS_le s t 0 false k1; omega) | (have := digS_le s t 0 false k1; have := bat_pos (s := s) (p := (digS s t 0 false).2.2.p) (by omega); omega)   | (have := sSp_le s t k1; have := bat_pos (s := s) (p := (sSp s t).p) (by omega); omega)   | (have b1 := bat_pos (s := s) (p := (sSp s t).p) (by omega); have b2 := sSp_le s ⟨(sSp s t).p + 1, (sSp s t).bad, (sSp s t).un⟩ (by show _ + 1 ≤ _; omega); first | exact b2 | omega)   | (have b3 := digS_n s (sSp s ⟨(sSp s t).p + 1, (sSp s t).bad, (sSp s t).un⟩) 0 false (by omega); unfold inI; omega)), trivial⟩) : (c0 → p0 ∧ p1 ∧ p2 ∧ True) ∧ q := ⟨h, k⟩
theorem kjz1 {p q : Prop} (k : q) (h : p := by first | omega | (simp; done) | (have := sSp_le s t k1; omega) | exact mul_sg ‹_› ‹_› | (have := digS_le s t 0 false k1; omega) | (have := digS_le s t 0 false k1; have := bat_pos (s := s) (p := (digS s t 0 false).2.2.p) (by omega); omega)   | (have := sSp_le s t k1; have := bat_pos (s := s) (p := (sSp s t).p) (by omega); omega)   | (have b1 := bat_pos (s := s) (p := (sSp s t).p) (by omega); have b2 := sSp_le s ⟨(sSp s t).p + 1, (sSp s t).bad, (sSp s t).un⟩ (by show _ + 1 ≤ _; omega); first | exact b2 | omega)   | (have b3 := digS_n s (sSp s ⟨(sSp s t).p + 1, (sSp s t).bad, (sSp s t).un⟩) 0 false (by omega); unfold inI; omega)) : p ∧ q := ⟨h, k⟩
theorem kjz0 {c0 p0 q : Prop} (k : q) (h : c0 → p0 ∧ True := by intro g0; (try simp at g0); exact ⟨(by first | omega | (simp; done) | (have := sSp_le s t k1; omega) | exact mul_sg ‹_› ‹_› | (have := digS_le s t 0 false k1; omega) | (have := digS_le s t 0 false k1; have := bat_pos (s := s) (p := (digS s t 0 false).2.2.p) (by omega); omega)   | (have := sSp_le s t k1; have := bat_pos (s := s) (p := (sSp s t).p) (by omega); omega)   | (have b1 := bat_pos (s := s) (p := (sSp s t).p) (by omega); have b2 := sSp_le s ⟨(sSp s t).p + 1, (sSp s t).bad, (sSp s t).un⟩ (by show _ + 1 ≤ _; omega); first | exact b2 | omega)   | (have b3 := digS_n s (sSp s ⟨(sSp s t).p + 1, (sSp s t).bad, (sSp s t).un⟩) 0 false (by omega); unfold inI; omega)), trivial⟩) : (c0 → p0 ∧ True) ∧ q := ⟨h, k⟩
theorem sat140i : Sat 140 c140i := by
 have hD : CxOk W140.D := (CxOk.cons has43 sat43 (CxOk.cons has64 sat64 (CxOk.cons has66 sat66 (CxOk.cons has69 sat69 (CxOk.cons has89 sat89 (CxOk.cons has147 sat147 (CxOk.cons has148 sat148 CxOk.nil)))))))
 refine W140.sat hD (fn := Tryz.f140) (by kernel_rfl) (by kernel_rfl) (by kernel_rfl) (by decide) fun svs b K hP => ?_
 unfold c140i at hP
 split at hP
 · rename_i s p bad un ps
   obtain ⟨h01, h02, hk⟩ := hP
   have L14 : ∀ (mm : Nat) (sg : Int) (n k : Nat) (u : Bool) (t : RS), 4 - k = mm → t.p ≤ s.length + 1 ∧ k ≤ 4 ∧ n ≤ 100000 ∧ (sg = 1 ∨ sg = -1) ∧ u = (t.un || bsUp s t.p k) ∧ sCount s ⟨p, bad, un⟩ = ((0, sg * n), t.unI (bsNear s t.p || (decide (bat s t.p = 111) && decide (bat s (t.p + 1) = 102)))) → W140.L K 14 (mkS 195 [(0, (.ptr 0 0)), (4, (.int .i64 sg)), (5, (.nat n)), (8, (.nat (t.p + k)))] [(0, .blk 46 [(.str s), (.nat t.p), (.bool t.bad), (.bool u), (.bool ps)])] 1) := by
    intro mm
    induction mm using Nat.strongRecOn with
    | _ mm ih =>
     intro sg n k u t hm hI
     obtain ⟨k1, k2, k3, k4, k5, k6⟩ := hI
     refine W140.atL hD (X := ((decide (t.p + k < s.length)) = true → (t.p + 4 ≤ 9223372036854775807) ∧ True) ∧ cond ((decide (t.p + k < s.length)) && (decide (t.p + k < t.p + 4))) ((u = false → (t.p + k < s.length) ∧ True) ∧ (t.p + k + 1 ≤ 9223372036854775807) ∧ (W140).L K 14 (mkS 195 [(0, (.ptr 0 0)), (4, (.int .i64 sg)), (5, (.nat n)), (8, (.nat (t.p + k + 1)))] [(0, .blk 46 [(.str s), (.nat t.p), (.bool t.bad), (.bool (u || (decide (bat s (t.p + k) = 92)))), (.bool ps)])] 1)) ((u = false → (s.length ≤ 1000000) ∧ (t.p ≤ s.length + 1) ∧ (2 ≤ 1000) ∧ True) ∧ (inI (sg * ((n : Nat) : Int))) ∧ K (.val (.tup [(.nat 0), (.int .i64 (sg * ((n : Nat) : Int)))])) (some (.blk 46 [(.str s), (.nat t.p), (.bool t.bad), (.bool (u || (hereB s [111, 102] t.p))), (.bool ps)])))) (by kernel_rfl) ?_
     refine kjz0 ?_
     refine cndI ?_ ?_ <;> intro h1 <;> simp -failIfUnchanged [-List.getD_eq_getElem?_getD] at h1
     · refine kjz0 ?_
       refine kjz1 ?_
       exact ih _ (by omega) sg n (k + 1) (u || decide (bat s (t.p + k) = 92)) t rfl ⟨k1, by omega, k3, k4, by rw [k5, Bool.or_assoc]; rfl, k6⟩
     refine kjz2 ?_
     refine kjz1 ?_
     have q : bsUp s t.p k = bsNear s t.p := by
      rw [← bsUp_near]
      by_cases h4 : k = 4
      · rw [h4]
      have := bsUp_out (s := s) (p := t.p) (k := k) (by omega) (4 - k)
      rw [← this, show k + (4 - k) = 4 from by omega]
     refine kcnt hk ?_ rfl rfl
     rw [k6, k5, q, show hereB s [111, 102] t.p = (decide (bat s t.p = 111) && decide (bat s (t.p + 1) = 102)) from by rw [here2 s t.p 111 102 (by decide), Bool.decide_and]; rfl]
     simp [RS.unI, Bool.or_assoc]
   have L22 : ∀ (mm : Nat) (sg : Int) (n : Nat) (t : RS), 0 = mm → t.p ≤ s.length + 1 ∧ n ≤ 100000 ∧ (sg = 1 ∨ sg = -1) ∧ sCount s ⟨p, bad, un⟩ = sCountN s (sg * n) t → W140.C K 22 (mkS 195 [(0, (.ptr 0 0)), (4, (.int .i64 sg)), (5, (.nat n))] [(0, .blk 46 [(.str s), (.nat t.p), (.bool t.bad), (.bool t.un), (.bool ps)])] 1) := by
    intro mm
    induction mm using Nat.strongRecOn with
    | _ mm ih =>
     intro sg n t hm hI
     obtain ⟨k1, k2, k3, k4⟩ := hI
     refine W140.atC hD (X := have a0 := digS s (sSp s (RS.mk ((sSp s t).p + 1) ((sSp s t).bad) ((sSp s t).un))) 0 false; have a1 : Option SB := some (.blk 46 [(.str s), (.nat (a0.2.2.p)), (.bool (a0.2.2.bad || (!a0.2.1))), (.bool (a0.2.2.un)), (.bool ps)]); have a2 := sg * ((n : Nat) : Int); have a3 := s.length ≤ 1000000; a3 ∧ (t.p ≤ s.length + 1) ∧ a3 ∧ ((sSp s t).p ≤ s.length + 1) ∧ cond ((!(decide (bat s ((sSp s t).p) = 43))) && (!(decide (bat s ((sSp s t).p) = 45)))) ((inI a2) ∧ K (.val (.tup [(.int .i64 a2), (.nat 0)])) (some (.blk 46 [(.str s), (.nat ((sSp s t).p)), (.bool ((sSp s t).bad)), (.bool (((((sSp s t).un || ((decide ((sSp s t).p = t.p)) && ((nmChar (bat s ((sSp s t).p))) || (decide (bat s ((sSp s t).p) = 92))))) || (decide (bat s ((sSp s t).p) = 111))) || (decide (bat s ((sSp s t).p) = 79))) || ((decide (48 ≤ bat s ((sSp s t).p))) && (decide (bat s ((sSp s t).p) ≤ 57))))), (.bool ps)]))) (((sSp s t).p + 1 ≤ 9223372036854775807) ∧ a3 ∧ ((sSp s t).p + 1 ≤ s.length + 1) ∧ a3 ∧ ((sSp s (RS.mk ((sSp s t).p + 1) ((sSp s t).bad) ((sSp s t).un))).p ≤ s.length + 1) ∧ cond (decide (bat s ((sSp s t).p) = 45)) ((inI (0 - ((a0.1 : Nat) : Int))) ∧ (inI a2) ∧ K (.val (.tup [(.int .i64 a2), (.int .i64 (0 - ((a0.1 : Nat) : Int)))])) a1) ((inI a2) ∧ K (.val (.tup [(.int .i64 a2), (.nat (a0.1))])) a1))) (by kernel_rfl) ?_
     refine kjz1 (kjz1 ?_)
     refine kjz1 (kjz1 ?_)
     refine cndI ?_ ?_ <;> intro h1 <;> simp -failIfUnchanged [-List.getD_eq_getElem?_getD] at h1
     · refine kjz1 ?_
       refine kcnt hk ?_ rfl rfl
       rw [k4, sCountN_no (by omega)]
       simp [RS.unI, Bool.or_assoc, digB]
     refine kjz1 ?_
     refine kjz1 (kjz1 ?_)
     refine kjz1 (kjz1 ?_)
     refine cndI ?_ ?_ <;> intro h2 <;> simp -failIfUnchanged [-List.getD_eq_getElem?_getD] at h2
     · refine kjz1 ?_
       refine kjz1 ?_
       refine kcnt hk ?_ rfl rfl
       rw [k4, sCountN_sg (by omega), if_pos h2]
       cases hd : (digS s (sSp s ⟨(sSp s t).p + 1, (sSp s t).bad, (sSp s t).un⟩) 0 false).2.1 <;> simp [RS.go, RS.no, hd]
     refine kjz1 ?_
     refine kcnt hk ?_ rfl rfl
     rw [k4, sCountN_sg (by omega), if_neg h2]
     cases hd : (digS s (sSp s ⟨(sSp s t).p + 1, (sSp s t).bad, (sSp s t).un⟩) 0 false).2.1 <;> simp [RS.go, RS.no, hd]
   have L9 : ∀ (mm : Nat) (sg : Int) (t : RS), 0 = mm → t.p ≤ s.length + 1 ∧ (sg = 1 ∨ sg = -1) ∧ sCount s ⟨p, bad, un⟩ = sCountA s sg t → W140.C K 9 (mkS 195 [(0, (.ptr 0 0)), (4, (.int .i64 sg))] [(0, .blk 46 [(.str s), (.nat t.p), (.bool t.bad), (.bool t.un), (.bool ps)])] 1) := by
    intro mm
    induction mm using Nat.strongRecOn with
    | _ mm ih =>
     intro sg t hm hI
     obtain ⟨k1, k2, k3⟩ := hI
     refine W140.atC hD (X := have a0 := digS s t 0 false; (s.length ≤ 1000000) ∧ (t.p ≤ s.length + 1) ∧ (s.length ≤ 1000000) ∧ (a0.2.2.p ≤ s.length + 1) ∧ cond ((!(decide (bat s (a0.2.2.p) = 110))) && (!(decide (bat s (a0.2.2.p) = 78)))) ((W140).L K 14 (mkS 195 [(0, (.ptr 0 0)), (4, (.int .i64 sg)), (5, (.nat (a0.1))), (8, (.nat (a0.2.2.p)))] [(0, .blk 46 [(.str s), (.nat (a0.2.2.p)), (.bool (a0.2.2.bad || (!a0.2.1))), (.bool (a0.2.2.un)), (.bool ps)])] 1)) ((a0.2.2.p + 1 ≤ 9223372036854775807) ∧ cond (!a0.2.1) ((W140).C K 22 (mkS 195 [(0, (.ptr 0 0)), (4, (.int .i64 sg)), (5, (.nat 1))] [(0, .blk 46 [(.str s), (.nat (a0.2.2.p + 1)), (.bool (a0.2.2.bad)), (.bool (a0.2.2.un)), (.bool ps)])] 1)) ((W140).C K 22 (mkS 195 [(0, (.ptr 0 0)), (4, (.int .i64 sg)), (5, (.nat (a0.1)))] [(0, .blk 46 [(.str s), (.nat (a0.2.2.p + 1)), (.bool (a0.2.2.bad)), (.bool (a0.2.2.un)), (.bool ps)])] 1)))) (by kernel_rfl) ?_
     refine kjz1 (kjz1 ?_)
     refine kjz1 (kjz1 ?_)
     refine cndI ?_ ?_ <;> intro h1 <;> simp -failIfUnchanged [-List.getD_eq_getElem?_getD] at h1
     · exact L14 _ sg (digS s t 0 false).1 0 (digS s t 0 false).2.2.un ⟨(digS s t 0 false).2.2.p, (digS s t 0 false).2.2.bad || !(digS s t 0 false).2.1, (digS s t 0 false).2.2.un⟩ rfl ⟨digS_le s t 0 false k1, by omega, digS_n s t 0 false (by omega), k2, by simp [bsUp], by
        rw [k3]
        unfold sCountA
        simp only
        rw [if_neg (by simp [isN]; omega)]
        cases hd : (digS s t 0 false).2.1 <;> simp [RS.no, RS.unI]⟩
     refine kjz1 ?_
     refine cndI ?_ ?_ <;> intro h2 <;> simp -failIfUnchanged [-List.getD_eq_getElem?_getD] at h2
     · exact L22 _ sg 1 ((digS s t 0 false).2.2.go ((digS s t 0 false).2.2.p + 1)) rfl ⟨by have := bat_pos (s := s) (p := (digS s t 0 false).2.2.p) (by omega); simp only [RS.go_p]; omega, by omega, k2, by
        rw [k3]
        unfold sCountA
        simp only
        rw [if_pos (by simp [isN]; omega), h2, if_neg (by simp), show ((1 : Nat) : Int) = 1 from rfl, Int.mul_one]⟩
     exact L22 _ sg (digS s t 0 false).1 ((digS s t 0 false).2.2.go ((digS s t 0 false).2.2.p + 1)) rfl ⟨by have := bat_pos (s := s) (p := (digS s t 0 false).2.2.p) (by omega); simp only [RS.go_p]; omega, digS_n s t 0 false (by omega), k2, by
      rw [k3]
      unfold sCountA
      simp only
      rw [if_pos (by simp [isN]; omega), h2, if_pos rfl]⟩
   refine W140.entry rfl (X := have a0 := s.length ≤ 1000000; have a1 := p ≤ s.length + 1; a0 ∧ a1 ∧ (3 ≤ 1000) ∧ cond (wordS s [111, 100, 100] p) (K (.val (.tup [(.nat 2), (.nat 1)])) (some (.blk 46 [(.str s), (.nat (p + 3)), (.bool bad), (.bool un), (.bool ps)]))) (a0 ∧ a1 ∧ (4 ≤ 1000) ∧ cond (wordS s [101, 118, 101, 110] p) (K (.val (.tup [(.nat 2), (.nat 0)])) (some (.blk 46 [(.str s), (.nat (p + 4)), (.bool bad), (.bool un), (.bool ps)]))) (a0 ∧ a1 ∧ (1 ≤ 1000) ∧ cond (hereB s [45] p) ((W140).C K 9 (mkS 195 [(0, (.ptr 0 0)), (4, (.int .i64 (-1)))] [(0, .blk 46 [(.str s), (.nat (p + 1)), (.bool bad), (.bool un), (.bool ps)])] 1)) (a0 ∧ a1 ∧ (1 ≤ 1000) ∧ cond (hereB s [43] p) ((W140).C K 9 (mkS 195 [(0, (.ptr 0 0)), (4, (.nat 1))] [(0, .blk 46 [(.str s), (.nat (p + 1)), (.bool bad), (.bool un), (.bool ps)])] 1)) ((W140).C K 9 (mkS 195 [(0, (.ptr 0 0)), (4, (.nat 1))] [(0, .blk 46 [(.str s), (.nat p), (.bool bad), (.bool un), (.bool ps)])] 1)))))) (by kernel_rfl) ?_
   refine kjz1 (kjz1 (kjz1 ?_))
   refine cndI ?_ ?_ <;> intro h1 <;> simp -failIfUnchanged [-List.getD_eq_getElem?_getD] at h1
   · exact kcnt hk (by unfold sCount; rw [if_pos h1]; rfl) rfl rfl
   refine kjz1 (kjz1 (kjz1 ?_))
   refine cndI ?_ ?_ <;> intro h2 <;> simp -failIfUnchanged [-List.getD_eq_getElem?_getD] at h2
   · exact kcnt hk (by unfold sCount; rw [if_neg (by rw [h1]; simp), if_pos h2]; rfl) rfl rfl
   refine kjz1 (kjz1 (kjz1 ?_))
   refine cndI ?_ ?_ <;> intro h3 <;> simp -failIfUnchanged [-List.getD_eq_getElem?_getD] at h3
   · exact L9 _ (-1) (RS.go ⟨p, bad, un⟩ (p + 1)) rfl ⟨by have := bat_lt (h45t h3) (by decide); simp only [RS.go_p]; omega, .inr rfl, by unfold sCount; rw [if_neg (by rw [h1]; simp), if_neg (by rw [h2]; simp), if_pos (h45t h3)]⟩
   refine kjz1 (kjz1 (kjz1 ?_))
   refine cndI ?_ ?_ <;> intro h4 <;> simp -failIfUnchanged [-List.getD_eq_getElem?_getD] at h4
   · exact Wk.C.ren [0] (by kernel_rfl) (by kernel_rfl) (by kernel_rfl) (L9 _ 1 (RS.go ⟨p, bad, un⟩ (p + 1)) rfl ⟨by have := bat_lt (h43t h4) (by decide); simp only [RS.go_p]; omega, .inl rfl, by unfold sCount; rw [if_neg (by rw [h1]; simp), if_neg (by rw [h2]; simp), if_neg (h45f h3), if_pos (h43t h4)]⟩)
   exact Wk.C.ren [0] (by kernel_rfl) (by kernel_rfl) (by kernel_rfl) (L9 _ 1 ⟨p, bad, un⟩ rfl ⟨h02, .inl rfl, by unfold sCount; rw [if_neg (by rw [h1]; simp), if_neg (by rw [h2]; simp), if_neg (h45f h3), if_neg (h43f h4)]⟩)
 exact hP.elim
def c140 (svs : List SV) (b : Option SB) : FR := match svs, b with
 | [.ptr 0 0], some (.blk 46 [.str s, .nat p, .bool bad, .bool un, .bool ps]) => some ([s.length ≤ 1000000, p ≤ s.length + 1], .val (.tup [.int .i64 (sCount s ⟨p, bad, un⟩).1.1, .int .i64 (sCount s ⟨p, bad, un⟩).1.2]),
  some (.blk 46 [.str s, .nat (sCount s ⟨p, bad, un⟩).2.p, .bool (sCount s ⟨p, bad, un⟩).2.bad, .bool (sCount s ⟨p, bad, un⟩).2.un, .bool ps]))
 | _, _ => none
theorem sat140 : Sat 140 (fnS c140) := by
 refine Sat.outW sat140i fun svs b K h => ?_
 obtain ⟨ps, o, b', e, hp, hk⟩ := fnS_inv h
 unfold c140 at e
 split at e
 · cases e
   exact ⟨hp.1, hp.2.1, fun x y hx hy => ⟨_, _, rfl, rfl, toI2_rel hx hy, hk⟩⟩
 cases e
end
end Go.Proofs.YtengepcafdnalaaGreatDoor
