/-
  Parts of the proof that the law FnParseOne holds for every input (texts Nc). Conditions: none.
-/
import Derived.Test.YtengepcafdnalaaGreatDoorM39
namespace Go.Proofs.YtengepcafdnalaaGreatDoor
section
open Go Go.RowKit
set_option maxRecDepth 20000
theorem getD_mem {l : List SelD} {j : Nat} (h : j < l.length) : l.getD j default ∈ l := by
 simp [List.getD_eq_getElem?_getD, List.getElem?_eq_getElem h]
def c52 (m : Nat) (svs : List SV) (b : Option SB) : QR := match svs, b with
 | [.sl (.sels l), .nat i, x], none => match toI x with
  | some e => some ([l.length ≤ 1000000, i < l.length, e ≤ l.length, e ≤ ((m : Nat) : Int) + ((i : Nat) : Int), ((i : Nat) : Int) < e], .bool (szB m l i e))
  | _ => none
 | _, _ => none
theorem has52 : Has 52 := Has.of (fn := Tryz.f52) (by kernel_rfl) (by kernel_rfl) (by kernel_rfl)
def c52s (m : Nat) (svs : List SV) (b : Option SB) : QR := match svs, b with
 | [.sl (.sels l), .nat i, .int .i64 e], none => some ([l.length ≤ 1000000, i < l.length, e ≤ l.length, e ≤ ((m + 1 : Nat) : Int) + ((i : Nat) : Int), ((i : Nat) : Int) < e], .bool (szB (m + 1) l i e))
 | _, _ => none
noncomputable def W52 (m : Nat) : Wk := ⟨[(52, .pure (c52 m))], bodyOf Tryz.f52, false, false, [.tmp 6], [4], [(5, 387)], []⟩
theorem ncz1 {c0 p0 q : Prop} (k : q) (h : c0 → p0 ∧ True := by intro g0; (try simp at g0); exact ⟨(by first | omega | (unfold inI; omega) | (have q1 := szB_size h2; first | omega | (unfold inI; omega))), trivial⟩) : (c0 → p0 ∧ True) ∧ q := ⟨h, k⟩
theorem ncz0 {p q : Prop} (k : q) (h : p := by first | omega | (unfold inI; omega) | (have q1 := szB_size h2; first | omega | (unfold inI; omega))) : p ∧ q := ⟨h, k⟩
theorem sat52s (m : Nat) (hG : Sat 52 (pureS (c52 m))) : Sat 52 (pureS (c52s m)) := by
 have hD : CxOk (W52 m).D := (CxOk.cons has52 hG CxOk.nil)
 refine (W52 m).sat hD (fn := Tryz.f52) (by kernel_rfl) (by kernel_rfl) (by kernel_rfl) (Nat.le_of_ble_eq_true (by kernel_rfl)) fun svs b K hP => ?_
 obtain ⟨ps, v, e, hp, hk⟩ := pureS_inv hP
 unfold c52s at e
 split at e
 · rename_i l i e
   cases e
   obtain ⟨h01, h02, h03, h04, h05, _⟩ := hp
   have L5 : ∀ (mm : Nat) (k : Nat), (i + (l.getD i default).size - k).toNat = mm → ((k : Int) ≤ i + (l.getD i default).size ∧ szB (m + 1) l i e = szGo (szB m l) l (i + (l.getD i default).size) k ∧ 1 ≤ (l.getD i default).size ∧ (i : Int) + (l.getD i default).size ≤ e ∧ i + 1 ≤ k) → (W52 m).L K 5 (mkS 44 [(0, (.sl (.sels l))), (1, (.nat i)), (7, (.int .i64 ((l.getD i default).size))), (8, (.nat k))] [] 1) := by
    intro mm
    induction mm using Nat.strongRecOn with
    | _ mm ih =>
     intro k hm hI
     obtain ⟨k1, k2, k3, k4, k5⟩ := hI
     refine (W52 m).atL hD (X := have a0 := ((i : Nat) : Int) + (l.getD i default).size; (inI a0) ∧ cond (decide (((k : Nat) : Int) < a0)) ((inI a0) ∧ (l.length ≤ 1000000) ∧ (k < l.length) ∧ (a0 ≤ l.length) ∧ (a0 ≤ ((m : Nat) : Int) + ((k : Nat) : Int)) ∧ (((k : Nat) : Int) < a0) ∧ cond (!(szB m l k a0)) (K (.val (.bool false)) none) ((k < l.length) ∧ (inI (((k : Nat) : Int) + (l.getD k default).size)) ∧ (W52 m).L K 5 (mkS 44 [(0, (.sl (.sels l))), (1, (.nat i)), (7, (.int .i64 ((l.getD i default).size))), (8, (.int .i64 (((k : Nat) : Int) + (l.getD k default).size)))] [] 1))) (K (.val (.bool true)) none)) (by kernel_rfl) ?_
     refine ncz0 ?_
     refine cndI ?_ ?_ <;> intro h1 <;> simp -failIfUnchanged [-List.getD_eq_getElem?_getD, -UInt8.toNat_or] at h1
     · refine ncz0 ?_
       refine ncz0 (ncz0 (ncz0 (ncz0 (ncz0 ?_))))
       refine cndI ?_ ?_ <;> intro h2 <;> simp -failIfUnchanged [-List.getD_eq_getElem?_getD, -UInt8.toNat_or] at h2
       · refine kbool hk ?_
         rw [k2, szGo, if_pos h1, if_neg (by rw [h2]; exact Bool.false_ne_true)]
       refine ncz0 ?_
       refine ncz0 ?_
       obtain ⟨q1, q2⟩ := szB_size h2
       have e0 : ((k : Int) + (l.getD k default).size) = ((k + (l.getD k default).size.toNat : Nat) : Int) := by omega
       rw [e0]
       exact Wk.L.ren [0] (by kernel_rfl) (by kernel_rfl) (by kernel_rfl) (ih _ (by omega) (k + (l.getD k default).size.toNat) rfl ⟨by omega, by rw [k2, szGo, if_pos h1, if_pos h2, if_pos q1], k3, k4, by omega⟩)
     refine kbool hk ?_
     rw [k2, szGo, if_neg (by omega)]
   refine (W52 m).entry rfl (X := have a0 := l.getD i default; (i < l.length) ∧ ((decide (a0.size < (1 : Int))) = false → (inI (e - ((i : Nat) : Int))) ∧ True) ∧ cond ((decide (a0.size < (1 : Int))) || (decide ((e - ((i : Nat) : Int)) < a0.size))) (K (.val (.bool false)) none) ((i + 1 ≤ 9223372036854775807) ∧ (W52 m).L K 5 (mkS 44 [(0, (.sl (.sels l))), (1, (.nat i)), (7, (.int .i64 (a0.size))), (8, (.nat (i + 1)))] [] 1))) (by kernel_rfl) ?_
   refine ncz0 ?_
   refine ncz1 ?_
   refine cndI ?_ ?_ <;> intro h1 <;> simp -failIfUnchanged [-List.getD_eq_getElem?_getD, -UInt8.toNat_or] at h1
   · refine kbool hk ?_
     rw [szB, if_pos (by omega)]
   refine ncz0 ?_
   exact L5 _ (i + 1) rfl ⟨by omega, by rw [szB, if_neg (by omega)], by omega, by omega, Nat.le_refl _⟩
 cases e
theorem sat52 : ∀ m, Sat 52 (pureS (c52 m))
 | 0 => by
  intro g0 w M ω svs args b K hS hn hr hP
  exfalso
  obtain ⟨ps, v, e, hp, hk⟩ := pureS_inv hP
  unfold c52 at e
  split at e
  · split at e
    · cases e
      have := hp.2.2.2.1
      have := hp.2.2.2.2.1
      omega
    cases e
  cases e
 | m + 1 => by
  refine Sat.wk (sat52s m (sat52 m)) fun svs b K h => ?_
  obtain ⟨ps, v, e, hp, hk⟩ := pureS_inv h
  unfold c52 at e
  split at e
  · rename_i l i x
    split at e
    · rename_i e' hx
      cases e
      exact ⟨[.sl (.sels l), .nat i, .int .i64 e'], ⟨fun ω v hr => hr, fun ω v hr => hr, fun ω v => toI_rel hx, trivial⟩, hp.1, hp.2.1, hp.2.2.1, hp.2.2.2.1, hp.2.2.2.2.1, hk⟩
    cases e
  cases e
theorem beneath_le (l : List SelD) (i : Nat) : (beneathD l i).length ≤ l.length := by
 unfold beneathD
 split
 · simp
 rw [List.length_drop, List.length_take]; omega
def c54 (svs : List SV) (b : Option SB) : QR := match svs, b with
 | [.sl (.sels l), .nat i], none => some ([l.length ≤ 1000000, NodeAt l i], .bool (shB l i))
 | _, _ => none
noncomputable def W54 : Wk := ⟨[(17, .fn c17), (24, .pure c24), (55, .pure c55), (79, .pure c79), (80, .pure c80)], bodyOf Tryz.f54, false, false, [.tmp 4], [4], [(6, 161), (17, 289)], []⟩
theorem has54 : Has 54 := Has.of (fn := Tryz.f54) (by kernel_rfl) (by kernel_rfl) (by kernel_rfl)
theorem ncz4 {c0 p0 p1 q : Prop} (k : q) (h : c0 → p0 ∧ p1 ∧ True := by intro g0; (try simp at g0); exact ⟨(by first | omega | exact (n5 _ (by omega)).1 | exact fun k hk => by (have := (n3 k hk).2.1; omega) | exact fun _ => n2 | exact fun _ => (n5 _ (by omega)).2 | (have := n6 i; omega) | (have := n6 ((kidsD l i).getD 0 0); omega) | (have := (n5 0 (by omega)).1; omega) | (simp; done)), (by first | omega | exact (n5 _ (by omega)).1 | exact fun k hk => by (have := (n3 k hk).2.1; omega) | exact fun _ => n2 | exact fun _ => (n5 _ (by omega)).2 | (have := n6 i; omega) | (have := n6 ((kidsD l i).getD 0 0); omega) | (have := (n5 0 (by omega)).1; omega) | (simp; done)), trivial⟩) : (c0 → p0 ∧ p1 ∧ True) ∧ q := ⟨h, k⟩
theorem ncz3 {c0 p0 q : Prop} (k : q) (h : c0 → p0 ∧ True := by intro g0; (try simp at g0); exact ⟨(by first | omega | exact (n5 _ (by omega)).1 | exact fun k hk => by (have := (n3 k hk).2.1; omega) | exact fun _ => n2 | exact fun _ => (n5 _ (by omega)).2 | (have := n6 i; omega) | (have := n6 ((kidsD l i).getD 0 0); omega) | (have := (n5 0 (by omega)).1; omega) | (simp; done)), trivial⟩) : (c0 → p0 ∧ True) ∧ q := ⟨h, k⟩
theorem ncz2 {p q : Prop} (k : q) (h : p := by first | omega | exact (n5 _ (by omega)).1 | exact fun k hk => by (have := (n3 k hk).2.1; omega) | exact fun _ => n2 | exact fun _ => (n5 _ (by omega)).2 | (have := n6 i; omega) | (have := n6 ((kidsD l i).getD 0 0); omega) | (have := (n5 0 (by omega)).1; omega) | (simp; done)) : p ∧ q := ⟨h, k⟩
theorem sat54 : Sat 54 (pureS c54) := by
 have hD : CxOk W54.D := (CxOk.cons has17 sat17 (CxOk.cons has24 sat24 (CxOk.cons has55 sat55 (CxOk.cons has79 sat79 (CxOk.cons has80 sat80 CxOk.nil)))))
 refine W54.sat hD (fn := Tryz.f54) (by kernel_rfl) (by kernel_rfl) (by kernel_rfl) (Nat.le_of_ble_eq_true (by kernel_rfl)) fun svs b K hP => ?_
 obtain ⟨ps, v, e, hp, hk⟩ := pureS_inv hP
 unfold c54 at e
 split at e
 · rename_i l i
   cases e
   obtain ⟨h01, h02, _⟩ := hp
   obtain ⟨n1, n2, n3, n4⟩ := h02.kids
   have n5 : ∀ j, j < (kidsD l i).length → (kidsD l i).getD j 0 < l.length ∧ 0 ≤ (l.getD ((kidsD l i).getD j 0) default).size ∧ (((kidsD l i).getD j 0 : Nat) : Int) + (l.getD ((kidsD l i).getD j 0) default).size ≤ l.length := fun j hj => ⟨(n3 _ (mem_getD hj)).1, (n3 _ (mem_getD hj)).2.2.1, (n3 _ (mem_getD hj)).2.2.2.1⟩
   have n6 := beneath_le l
   have L6 : ∀ (mm : Nat) (j : Nat), (kidsD l i).length - j = mm → ((l.getD i default).kind = 23 ∧ j ≤ (kidsD l i).length ∧ ∀ q, q < j → isCpxB (knd l ((kidsD l i).getD q 0)) = true) → W54.L K 6 (mkS 149 [(0, (.sl (.sels l))), (5, (.own 1)), (7, (.nat j))] [(1, .row (.ints (kidsD l i)) true)] 2) := by
    intro mm
    induction mm using Nat.strongRecOn with
    | _ mm ih =>
     intro j hm hI
     obtain ⟨k0, k1, k2⟩ := hI
     refine W54.atL hD (X := cond (decide (j < (kidsD l i).length)) ((j < (kidsD l i).length) ∧ (j < (kidsD l i).length) ∧ ((kidsD l i).getD j 0 < l.length) ∧ cond (!(isCpxB ((l.getD ((kidsD l i).getD j 0) default).kind))) (K (.val (.bool false)) none) ((j + 1 ≤ 9223372036854775807) ∧ (W54).L K 6 (mkS 149 [(0, (.sl (.sels l))), (5, (.own 1)), (7, (.nat (j + 1)))] [(1, .row (.ints (kidsD l i)) true)] 2))) (K (.val (.bool (decide (0 < (kidsD l i).length)))) none)) (by kernel_rfl) ?_
     refine cndI ?_ ?_ <;> intro h1 <;> simp -failIfUnchanged [-List.getD_eq_getElem?_getD, -UInt8.toNat_or] at h1
     · refine ncz2 ?_
       refine ncz2 ?_
       refine ncz2 ?_
       refine cndI ?_ ?_ <;> intro h2 <;> simp -failIfUnchanged [-List.getD_eq_getElem?_getD, -UInt8.toNat_or] at h2
       · refine kbool hk ?_
         unfold shB
         have kk : knd l i = (l.getD i default).kind := rfl
         rw [if_pos (by omega), allR_no (p := fun j => isCpxB (knd l ((kidsD l i).getD j 0))) h1 h2]
         rfl
       refine ncz2 ?_
       exact ih _ (by omega) (j + 1) rfl ⟨k0, by omega, fun q hq => by
        rcases (by omega : q < j ∨ q = j) with w | w
        · exact k2 q w
        subst w; exact h2⟩
     refine kbool hk ?_
     unfold shB
     have kk : knd l i = (l.getD i default).kind := rfl
     rw [if_pos (by omega), allR_yes (p := fun j => isCpxB (knd l ((kidsD l i).getD j 0))) (fun j hj => k2 j (by omega))]
     rfl
   have L17 : ∀ (mm : Nat) (j : Nat), (kidsD l i).length - j = mm → ((l.getD i default).kind = 21 ∧ j ≤ (kidsD l i).length ∧ ∀ q, q < j → (isSimB (knd l ((kidsD l i).getD q 0)) && !(decide (knd l ((kidsD l i).getD q 0) = 2) && decide (0 < q))) = true) → W54.L K 17 (mkS 149 [(0, (.sl (.sels l))), (5, (.own 1)), (8, (.nat j))] [(1, .row (.ints (kidsD l i)) true)] 2) := by
    intro mm
    induction mm using Nat.strongRecOn with
    | _ mm ih =>
     intro j hm hI
     obtain ⟨k0, k1, k2⟩ := hI
     refine W54.atL hD (X := cond (decide (j < (kidsD l i).length)) ((j < (kidsD l i).length) ∧ (j < (kidsD l i).length) ∧ ((kidsD l i).getD j 0 < l.length) ∧ cond (!(isSimB ((l.getD ((kidsD l i).getD j 0) default).kind))) (K (.val (.bool false)) none) ((j < (kidsD l i).length) ∧ (j < (kidsD l i).length) ∧ ((kidsD l i).getD j 0 < l.length) ∧ cond ((decide ((l.getD ((kidsD l i).getD j 0) default).kind = (2 : Int))) && (decide (0 < j))) (K (.val (.bool false)) none) ((j + 1 ≤ 9223372036854775807) ∧ (W54).L K 17 (mkS 149 [(0, (.sl (.sels l))), (5, (.own 1)), (8, (.nat (j + 1)))] [(1, .row (.ints (kidsD l i)) true)] 2)))) (K (.val (.bool true)) none)) (by kernel_rfl) ?_
     refine cndI ?_ ?_ <;> intro h1 <;> simp -failIfUnchanged [-List.getD_eq_getElem?_getD, -UInt8.toNat_or] at h1
     · refine ncz2 ?_
       refine ncz2 ?_
       refine ncz2 ?_
       refine cndI ?_ ?_ <;> intro h2 <;> simp -failIfUnchanged [-List.getD_eq_getElem?_getD, -UInt8.toNat_or] at h2
       · refine kbool hk ?_
         unfold shB
         have kk : knd l i = (l.getD i default).kind := rfl
         rw [if_neg (by omega), if_neg (by omega), if_pos (by omega), allR_no (p := fun j => isSimB (knd l ((kidsD l i).getD j 0)) && !(decide (knd l ((kidsD l i).getD j 0) = 2) && decide (0 < j))) h1 (show (isSimB (l.getD ((kidsD l i).getD j 0) default).kind && !(decide ((l.getD ((kidsD l i).getD j 0) default).kind = 2) && decide (0 < j))) = false by rw [h2]; rfl)]
       refine ncz2 ?_
       refine ncz2 ?_
       refine ncz2 ?_
       refine cndI ?_ ?_ <;> intro h3 <;> simp -failIfUnchanged [-List.getD_eq_getElem?_getD, -UInt8.toNat_or] at h3
       · refine kbool hk ?_
         unfold shB
         have kk : knd l i = (l.getD i default).kind := rfl
         rw [if_neg (by omega), if_neg (by omega), if_pos (by omega), allR_no (p := fun j => isSimB (knd l ((kidsD l i).getD j 0)) && !(decide (knd l ((kidsD l i).getD j 0) = 2) && decide (0 < j))) h1 (show (isSimB (l.getD ((kidsD l i).getD j 0) default).kind && !(decide ((l.getD ((kidsD l i).getD j 0) default).kind = 2) && decide (0 < j))) = false by rw [decide_eq_true h3.1, decide_eq_true h3.2]; simp)]
       refine ncz2 ?_
       exact ih _ (by omega) (j + 1) rfl ⟨k0, by omega, fun q hq => by
        rcases (by omega : q < j ∨ q = j) with w | w
        · exact k2 q w
        subst w; show (isSimB (l.getD ((kidsD l i).getD q 0) default).kind && !(decide ((l.getD ((kidsD l i).getD q 0) default).kind = 2) && decide (0 < q))) = true; rw [h2]; simp only [Bool.true_and, Bool.not_eq_true', Bool.and_eq_false_imp, decide_eq_true_eq, decide_eq_false_iff_not]; omega⟩
     refine kbool hk ?_
     unfold shB
     have kk : knd l i = (l.getD i default).kind := rfl
     rw [if_neg (by omega), if_neg (by omega), if_pos (by omega), allR_yes (p := fun j => isSimB (knd l ((kidsD l i).getD j 0)) && !(decide (knd l ((kidsD l i).getD j 0) = 2) && decide (0 < j))) (fun j hj => k2 j (by omega))]
   refine W54.entry rfl (X := have a2 := l.getD i default; have a3 := (decide ((kidsD l i).length = 1)) = true → (0 < (kidsD l i).length) ∧ True; have a7 := (decide ((kidsD l i).length = 1)) = true → ((kidsD l i).getD 0 0 < l.length) ∧ True; have a10 := (decide ((kidsD l i).length = 2)) = true → (0 < (kidsD l i).length) ∧ True; have a11 := (kidsD l i).getD 0 0; have a1 := (decide ((kidsD l i).length = 1)) && (decide ((l.getD a11 default).kind = (23 : Int))); have a4 := a1 = true → (i ≤ 1000000000000 ∧ l.length ≤ 1000000000000) ∧ (i < l.length → 0 ≤ a2.size ∧ ((i : Nat) : Int) + a2.size ≤ l.length) ∧ True; have a6 := (decide ((kidsD l i).length = 2)) && (isCpxB ((l.getD a11 default).kind)); have a0 := a6 && (isCpxB ((l.getD ((kidsD l i).getD 1 0) default).kind)); have a5 := a0 && (!(decide ((l.getD ((kidsD l i).getD 1 0) default).kind = (22 : Int)))); have a8 := a1 = true → ((beneathD l i).length ≤ 1000000000) ∧ True; have a9 : Out := .val (.bool (a1 && (!((beneathD l i).any psNode)))); have a12 := a6 = true → (1 < (kidsD l i).length) ∧ True; have a13 := a0 = true → (1 < (kidsD l i).length) ∧ True; have a14 := a5 = true → (0 < (kidsD l i).length) ∧ True; (i < l.length ∧ l.length ≤ 1000000000000) ∧ (0 ≤ a2.size ∧ ((i : Nat) : Int) + a2.size ≤ l.length) ∧ (∀ k, k ∈ kidsD l i → (l.getD k default).size ≤ 1000000000000) ∧ (i < l.length) ∧ cond (decide (a2.kind = (23 : Int))) ((W54).L K 6 (mkS 149 [(0, (.sl (.sels l))), (5, (.own 1)), (7, (.nat 0))] [(2, .blk 33 [(.int .i64 (a2.kind)), (.int .i64 (a2.op)), (.str (a2.key)), (.str (a2.val)), (.int .i64 (a2.a)), (.int .i64 (a2.b)), (.int .i64 (a2.flag)), (.int .i64 (a2.size))]), (1, .row (.ints (kidsD l i)) true)] 3)) (cond (decide (a2.kind = (18 : Int))) (a3 ∧ a3 ∧ a7 ∧ a4 ∧ a8 ∧ K a9 none) (cond (decide (a2.kind = (19 : Int))) (a3 ∧ a3 ∧ a7 ∧ a4 ∧ a8 ∧ K a9 none) (cond (decide (a2.kind = (20 : Int))) (a3 ∧ a3 ∧ a7 ∧ a4 ∧ a8 ∧ K a9 none) (cond (decide (a2.kind = (21 : Int))) ((W54).L K 17 (mkS 149 [(0, (.sl (.sels l))), (5, (.own 1)), (8, (.nat 0))] [(2, .blk 33 [(.int .i64 (a2.kind)), (.int .i64 (a2.op)), (.str (a2.key)), (.str (a2.val)), (.int .i64 (a2.a)), (.int .i64 (a2.b)), (.int .i64 (a2.flag)), (.int .i64 (a2.size))]), (1, .row (.ints (kidsD l i)) true)] 3)) (cond (decide (a2.kind = (22 : Int))) (a10 ∧ a10 ∧ ((decide ((kidsD l i).length = 2)) = true → ((kidsD l i).getD 0 0 < l.length) ∧ True) ∧ a12 ∧ a12 ∧ (a6 = true → ((kidsD l i).getD 1 0 < l.length) ∧ True) ∧ a13 ∧ a13 ∧ (a0 = true → ((kidsD l i).getD 1 0 < l.length) ∧ True) ∧ a14 ∧ a14 ∧ (a5 = true → ((kidsD l i).getD 0 0 ≤ 1000000000000 ∧ l.length ≤ 1000000000000) ∧ ((kidsD l i).getD 0 0 < l.length → 0 ≤ (l.getD a11 default).size ∧ (((kidsD l i).getD 0 0 : Nat) : Int) + (l.getD a11 default).size ≤ l.length) ∧ True) ∧ (a5 = true → ((beneathD l a11).length ≤ 1000000000) ∧ True) ∧ K (.val (.bool (a5 && (!((beneathD l a11).any psNode))))) none) ((i < l.length) ∧ K (.val (.bool ((isSimB (a2.kind)) && (decide ((kidsD l i).length = 0))))) none))))))) (by kernel_rfl) ?_
   refine ncz2 (ncz2 (ncz2 ?_))
   refine ncz2 ?_
   refine cndI ?_ ?_ <;> intro h1 <;> simp -failIfUnchanged [-List.getD_eq_getElem?_getD, -UInt8.toNat_or] at h1
   · exact Wk.L.ren [0, 1] (by kernel_rfl) (by kernel_rfl) (by kernel_rfl) (L6 _ 0 rfl ⟨h1, by omega, fun j hj => by omega⟩)
   refine cndI (fun h2 => ?_) (fun h2 => ?_)
   · simp -failIfUnchanged [-List.getD_eq_getElem?_getD, -UInt8.toNat_or] at h2
     refine ncz3 ?_
     refine ncz3 ?_
     refine ncz3 ?_
     refine ncz4 ?_
     refine ncz3 ?_
     refine kbool hk ?_
     unfold shB
     have kk : knd l i = (l.getD i default).kind := rfl
     rw [if_neg (by omega), if_pos (by omega)]
     rfl
   simp -failIfUnchanged [-List.getD_eq_getElem?_getD, -UInt8.toNat_or] at h2
   refine cndI ?_ ?_ <;> intro h3 <;> simp -failIfUnchanged [-List.getD_eq_getElem?_getD, -UInt8.toNat_or] at h3
   · refine ncz3 ?_
     refine ncz3 ?_
     refine ncz3 ?_
     refine ncz4 ?_
     refine ncz3 ?_
     refine kbool hk ?_
     unfold shB
     have kk : knd l i = (l.getD i default).kind := rfl
     rw [if_neg (by omega), if_pos (by omega)]
     rfl
   refine cndI (fun h4 => ?_) (fun h4 => ?_)
   · simp -failIfUnchanged [-List.getD_eq_getElem?_getD, -UInt8.toNat_or] at h4
     refine ncz3 ?_
     refine ncz3 ?_
     refine ncz3 ?_
     refine ncz4 ?_
     refine ncz3 ?_
     refine kbool hk ?_
     unfold shB
     have kk : knd l i = (l.getD i default).kind := rfl
     rw [if_neg (by omega), if_pos (by omega)]
     rfl
   simp -failIfUnchanged [-List.getD_eq_getElem?_getD, -UInt8.toNat_or] at h4
   refine cndI ?_ ?_ <;> intro h5 <;> simp -failIfUnchanged [-List.getD_eq_getElem?_getD, -UInt8.toNat_or] at h5
   · exact Wk.L.ren [0, 1] (by kernel_rfl) (by kernel_rfl) (by kernel_rfl) (L17 _ 0 rfl ⟨h5, by omega, fun j hj => by omega⟩)
   refine cndI (fun h6 => ?_) (fun h6 => ?_)
   · simp -failIfUnchanged [-List.getD_eq_getElem?_getD, -UInt8.toNat_or] at h6
     refine ncz3 ?_
     refine ncz3 ?_
     refine ncz3 ?_
     refine ncz3 ?_
     refine ncz3 ?_
     refine ncz3 ?_
     refine ncz3 ?_
     refine ncz3 ?_
     refine ncz3 ?_
     refine ncz3 ?_
     refine ncz3 ?_
     refine ncz4 ?_
     refine ncz3 ?_
     refine kbool hk ?_
     unfold shB
     have kk : knd l i = (l.getD i default).kind := rfl
     rw [if_neg (by omega), if_neg (by omega), if_neg (by omega), if_pos (by omega)]
     rfl
   simp -failIfUnchanged [-List.getD_eq_getElem?_getD, -UInt8.toNat_or] at h6
   refine ncz2 ?_
   refine kbool hk ?_
   unfold shB
   have kk : knd l i = (l.getD i default).kind := rfl
   rw [if_neg (by omega), if_neg (by omega), if_neg (by omega), if_neg (by omega)]
   rfl
 cases e
def c32 (svs : List SV) (b : Option SB) : QR := match svs, b with
 | [.sl (.sels l)], none => some ([l.length ≤ 1000, ∀ x ∈ l, x.key.length ≤ 1000 ∧ x.val.length ≤ 1000], .bool (rightB l))
 | _, _ => none
noncomputable def W32 : Wk := ⟨[(52, .pure (c52 2000)), (53, .pure c53), (54, .pure c54), (55, .pure c55)], bodyOf Tryz.f32, false, false, [.tmp 2], [4], [(4, 9)], []⟩
theorem has32 : Has 32 := Has.of (fn := Tryz.f32) (by kernel_rfl) (by kernel_rfl) (by kernel_rfl)
theorem ncz8 {c0 p0 p1 p2 p3 p4 q : Prop} (k : q) (h : c0 → p0 ∧ p1 ∧ p2 ∧ p3 ∧ p4 ∧ True := by intro g0; (try simp at g0); exact ⟨(by first | omega | exact k7 _ h1 | (have := k8 i h1; refine ⟨?_, ?_⟩ <;> (simp only; omega)) | (have := List.length_pos_iff.2 g0; omega) | (have := List.length_pos_iff.2 g0.1; omega) | (simp; done) | assumption), (by first | omega | exact k7 _ h1 | (have := k8 i h1; refine ⟨?_, ?_⟩ <;> (simp only; omega)) | (have := List.length_pos_iff.2 g0; omega) | (have := List.length_pos_iff.2 g0.1; omega) | (simp; done) | assumption), (by first | omega | exact k7 _ h1 | (have := k8 i h1; refine ⟨?_, ?_⟩ <;> (simp only; omega)) | (have := List.length_pos_iff.2 g0; omega) | (have := List.length_pos_iff.2 g0.1; omega) | (simp; done) | assumption), (by first | omega | exact k7 _ h1 | (have := k8 i h1; refine ⟨?_, ?_⟩ <;> (simp only; omega)) | (have := List.length_pos_iff.2 g0; omega) | (have := List.length_pos_iff.2 g0.1; omega) | (simp; done) | assumption), (by first | omega | exact k7 _ h1 | (have := k8 i h1; refine ⟨?_, ?_⟩ <;> (simp only; omega)) | (have := List.length_pos_iff.2 g0; omega) | (have := List.length_pos_iff.2 g0.1; omega) | (simp; done) | assumption), trivial⟩) : (c0 → p0 ∧ p1 ∧ p2 ∧ p3 ∧ p4 ∧ True) ∧ q := ⟨h, k⟩
theorem ncz7 {c0 p0 q : Prop} (k : q) (h : c0 → p0 ∧ True := by intro g0; (try simp at g0); exact ⟨(by first | omega | exact k7 _ h1 | (have := k8 i h1; refine ⟨?_, ?_⟩ <;> (simp only; omega)) | (have := List.length_pos_iff.2 g0; omega) | (have := List.length_pos_iff.2 g0.1; omega) | (simp; done) | assumption), trivial⟩) : (c0 → p0 ∧ True) ∧ q := ⟨h, k⟩
theorem ncz6 {c0 p0 p1 q : Prop} (k : q) (h : c0 → p0 ∧ p1 ∧ True := by intro g0; (try simp at g0); exact ⟨(by first | omega | exact k7 _ h1 | (have := k8 i h1; refine ⟨?_, ?_⟩ <;> (simp only; omega)) | (have := List.length_pos_iff.2 g0; omega) | (have := List.length_pos_iff.2 g0.1; omega) | (simp; done) | assumption), (by first | omega | exact k7 _ h1 | (have := k8 i h1; refine ⟨?_, ?_⟩ <;> (simp only; omega)) | (have := List.length_pos_iff.2 g0; omega) | (have := List.length_pos_iff.2 g0.1; omega) | (simp; done) | assumption), trivial⟩) : (c0 → p0 ∧ p1 ∧ True) ∧ q := ⟨h, k⟩
theorem ncz5 {p q : Prop} (k : q) (h : p := by first | omega | exact k7 _ h1 | (have := k8 i h1; refine ⟨?_, ?_⟩ <;> (simp only; omega)) | (have := List.length_pos_iff.2 g0; omega) | (have := List.length_pos_iff.2 g0.1; omega) | (simp; done) | assumption) : p ∧ q := ⟨h, k⟩
theorem sat32 : Sat 32 (pureS c32) := by
 have hD : CxOk W32.D := (CxOk.cons has52 (sat52 2000) (CxOk.cons has53 sat53 (CxOk.cons has54 sat54 (CxOk.cons has55 sat55 CxOk.nil))))
 refine W32.sat hD (fn := Tryz.f32) (by kernel_rfl) (by kernel_rfl) (by kernel_rfl) (Nat.le_of_ble_eq_true (by kernel_rfl)) fun svs b K hP => ?_
 obtain ⟨ps, v, e, hp, hk⟩ := pureS_inv hP
 unfold c32 at e
 split at e
 · rename_i l
   cases e
   obtain ⟨h01, h02, _⟩ := hp
   have L4 : ∀ (mm : Nat) (i : Nat), l.length - i = mm → ((l.length ≠ 0 ∧ (l.getD 0 default).size = (l.length : Nat) ∧ szB 2000 l 0 (l.length : Nat) = true) ∧ i ≤ l.length ∧ ∀ j, j < i → (fldB (l.getD j default) && shB l j) = true) → W32.L K 4 (mkS 53 [(0, (.sl (.sels l))), (3, (.nat i))] [] 1) := by
    intro mm
    induction mm using Nat.strongRecOn with
    | _ mm ih =>
     intro i hm hI
     obtain ⟨⟨k4, k5, k6⟩, k1, k2⟩ := hI
     have k7 := szB_nodes k5 k6
     have k8 : ∀ j, j < l.length → (l.getD j default).key.length ≤ 1000 ∧ (l.getD j default).val.length ≤ 1000 := fun j hj => h02 _ (getD_mem hj)
     refine W32.atL hD (X := have a0 := SelD.mk ((l.getD i default).kind) ((l.getD i default).op) ((l.getD i default).key) ((l.getD i default).val) ((l.getD i default).a) ((l.getD i default).b) ((l.getD i default).flag) ((l.getD i default).size); have a1 := decide ((l.getD 0 default).kind = (23 : Int)); cond (decide (i < l.length)) ((i < l.length) ∧ (a0.key.length ≤ 1000000 ∧ a0.val.length ≤ 1000000) ∧ ((!(fldB a0)) = false → (l.length ≤ 1000000) ∧ (NodeAt l i) ∧ True) ∧ cond ((!(fldB a0)) || (!(shB l i))) (K (.val (.bool false)) none) ((i + 1 ≤ 9223372036854775807) ∧ (W32).L K 4 (mkS 53 [(0, (.sl (.sels l))), (3, (.nat (i + 1)))] [] 1))) ((0 < l.length) ∧ (a1 = false → (0 < l.length) ∧ True) ∧ K (.val (.bool (a1 || (isCpxB ((l.getD 0 default).kind))))) none)) (by kernel_rfl) ?_
     refine cndI ?_ ?_ <;> intro h1 <;> simp -failIfUnchanged [-List.getD_eq_getElem?_getD, -UInt8.toNat_or] at h1
     · refine ncz5 ?_
       refine ncz5 ?_
       refine ncz6 ?_
       refine cndI ?_ ?_ <;> intro h2 <;> simp -failIfUnchanged [-List.getD_eq_getElem?_getD, -UInt8.toNat_or] at h2
       · refine kbool hk ?_
         unfold rightB
         rw [if_neg (by rintro (q | q | q); exact k4 q; exact q k5; rw [k6] at q; cases q), allR_no (p := fun i => fldB (l.getD i default) && shB l i) h1 (by rcases h2 with h2 | h2; exact (Bool.and_eq_false_iff.2 (.inl h2)); exact (Bool.and_eq_false_iff.2 (.inr h2)))]
         rfl
       refine ncz5 ?_
       exact ih _ (by omega) (i + 1) rfl ⟨⟨k4, k5, k6⟩, by omega, fun j hj => by
        rcases (by omega : j < i ∨ j = i) with q | q
        · exact k2 j q
        subst q; exact Bool.and_eq_true_iff.2 h2⟩
     refine ncz5 ?_
     refine ncz7 ?_
     refine kbool hk ?_
     unfold rightB
     rw [if_neg (by rintro (q | q | q); exact k4 q; exact q k5; rw [k6] at q; cases q), allR_yes (p := fun i => fldB (l.getD i default) && shB l i) (fun j hj => k2 j (by omega))]
     rfl
   refine W32.entry rfl (X := have a0 := ((l.length : Nat) : Int); have a1 := (decide (l.length = 0)) || (!(decide ((l.getD 0 default).size = a0))); ((decide (l.length = 0)) = false → (0 < l.length) ∧ True) ∧ (a1 = false → (l.length ≤ 1000000) ∧ (0 < l.length) ∧ (a0 ≤ l.length) ∧ (a0 ≤ ((2000 : Nat) : Int) + ((0 : Nat) : Int)) ∧ (((0 : Nat) : Int) < a0) ∧ True) ∧ cond (a1 || (!(szB 2000 l 0 a0))) (K (.val (.bool false)) none) ((W32).L K 4 (mkS 53 [(0, (.sl (.sels l))), (3, (.nat 0))] [] 1))) (by kernel_rfl) ?_
   refine ncz7 ?_
   refine ncz8 ?_
   refine cndI ?_ ?_ <;> intro h1 <;> simp -failIfUnchanged [-List.getD_eq_getElem?_getD, -UInt8.toNat_or] at h1
   · refine kbool hk ?_
     unfold rightB
     rw [if_pos]
     rcases h1 with (h1 | h1) | h1
     · exact .inl (by rw [h1]; rfl)
     · exact .inr (.inl h1)
     exact .inr (.inr h1)
   exact L4 _ 0 rfl ⟨⟨fun q => h1.1.1 (List.length_eq_zero_iff.1 q), h1.1.2, h1.2⟩, by omega, fun j hj => by omega⟩
 cases e
end
end Go.Proofs.YtengepcafdnalaaGreatDoor
