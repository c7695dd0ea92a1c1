/-
  Parts of the proof that the law FnParseOne holds for every input (texts Ne, Wk). Conditions: none.
-/
import Derived.Test.YtengepcafdnalaaGreatDoorM41
namespace Go.Proofs.YtengepcafdnalaaGreatDoor
section
open Go Go.RowKit
set_option maxRecDepth 20000
def c33 (m : Nat) (svs : List SV) (b : Option SB) : QR := match svs, b with
 | [.sl (.sels l), .nat i], none => some ([l.length ≤ 1000000 ∧ wtL l ≤ 100000, WAt l m i], .str (sWr m l i))
 | _, _ => none
theorem has33 : Has 33 := Has.of (fn := Tryz.f33) (by kernel_rfl) (by kernel_rfl) (by kernel_rfl)
theorem cmpStep_2 {f r t : Bs} {k : Int} (h : k = 2) : cmpStep (f, r) (k, t) = (t, r) := by unfold cmpStep; simp [h]
theorem cmpStep_1e {f r t : Bs} {k : Int} (h2 : ¬ k = 2) (h : k = 1) (e : f = []) : cmpStep (f, r) (k, t) = ([42], r) := by unfold cmpStep; simp [h, e]
theorem cmpStep_1 {f r t : Bs} {k : Int} (h2 : ¬ k = 2) (h : k = 1) (e : ¬ f = []) : cmpStep (f, r) (k, t) = (f, r) := by unfold cmpStep; simp [h, e]
theorem cmpStep_0 {f r t : Bs} {k : Int} (h2 : ¬ k = 2) (h : ¬ k = 1) : cmpStep (f, r) (k, t) = (f, r ++ t) := by unfold cmpStep; simp [h2, h]
def c56 (m : Nat) (svs : List SV) (b : Option SB) : QR := match svs, b with
 | [.sl (.sels l), .nat i], none => some ([l.length ≤ 1000000 ∧ wtL l ≤ 100000, WAt l (m + 1) i], .str (sWrC m l i))
 | _, _ => none
noncomputable def W56 (m : Nat) : Wk := ⟨[(17, .fn c17), (33, .pure (c33 m)), (62, .pure c62)], bodyOf Tryz.f56, false, false, [.tmp 4], [9], [(4, 483)], []⟩
theorem has56 : Has 56 := Has.of (fn := Tryz.f56) (by kernel_rfl) (by kernel_rfl) (by kernel_rfl)
theorem nez0 {p q : Prop} (k : q) (h : p := by first | omega | (unfold inI; omega) | exact n5 _ (by omega) | exact w2 _ (mem_getD (by omega)) | exact fun k hk => by (have := (n3 k hk).2.1; omega) | exact h03 | exact w4 | (have := w9 j (by omega); omega) | (have := w9 0 (by omega); have := w9 1 (by omega); omega) | (refine ⟨w8 (by omega) (by omega) (by omega) (by omega), ?_⟩; show ¬ ((l.getD i default).kind = 18 ∨ (l.getD i default).kind = 19 ∨ (l.getD i default).kind = 20); omega) | (have := w9 j (by omega); simp only [List.length_append, List.length_cons, List.length_nil]; omega) | (have := w9 0 (by omega); have := w9 1 (by omega); simp only [List.length_append, List.length_cons, List.length_nil]; omega) | (have := w9 0 (by omega); simp only [List.length_append, List.length_cons, List.length_nil]; omega) | (simp only [List.length_append, List.length_cons, List.length_nil]; omega) | (simp; done)) : p ∧ q := ⟨h, k⟩
theorem sat56 (m : Nat) (hG : Sat 33 (pureS (c33 m))) : Sat 56 (pureS (c56 m)) := by
 have hD : CxOk (W56 m).D := (CxOk.cons has17 sat17 (CxOk.cons has33 hG (CxOk.cons has62 sat62 CxOk.nil)))
 refine (W56 m).sat hD (fn := Tryz.f56) (by kernel_rfl) (by kernel_rfl) (by kernel_rfl) (Nat.le_of_ble_eq_true (by kernel_rfl)) fun svs b K hP => ?_
 obtain ⟨ps, v, e, hp, hk⟩ := pureS_inv hP
 unfold c56 at e
 split at e
 · rename_i l i
   cases e
   obtain ⟨⟨h01, h02⟩, h03, _⟩ := hp
   obtain ⟨wn, w2, w3, w4, w5, w6, w7, w8⟩ := h03.kids
   obtain ⟨n1, n2, n3, n4⟩ := wn.kids
   have kk : knd l i = (l.getD i default).kind := rfl
   have n5 : ∀ j, j < (kidsD l i).length → (kidsD l i).getD j 0 < l.length := fun j hj => (n3 _ (mem_getD hj)).1
   have w9 : ∀ j, j < (kidsD l i).length → (sWr m l ((kidsD l i).getD j 0)).length ≤ 100000 := fun j hj => Nat.le_trans (w2 _ (mem_getD hj)).len h02
   have w10 := named_len (l.getD i default).val
   have L4 : ∀ (mm : Nat) (j : Nat) (f r : List UInt8), (kidsD l i).length - j = mm → (j ≤ (kidsD l i).length ∧ (f, r) = cmpJ m l i j) → (W56 m).L K 4 (mkS 68 [(0, (.sl (.sels l))), (1, (.nat i)), (5, (.own 1)), (6, (.str f)), (7, (.str r)), (8, (.nat j))] [(1, .row (.ints (kidsD l i)) true)] 2) := by
    intro mm
    induction mm using Nat.strongRecOn with
    | _ mm ih =>
     intro j f r hm hI
     obtain ⟨k1, k2⟩ := hI
     have k3 := cmpJ_len (n := m) (l := l) (i := i) (j := j)
     rw [← k2] at k3
     simp only at k3
     refine (W56 m).atL hD (X := have a1 := (kidsD l i).getD j 0; have a2 := j + 1 ≤ 9223372036854775807; have a3 : RV := .ints (kidsD l i); have a4 := l.getD i default; have a0 := r ++ ([58, 58] ++ (named (a4.val))); have a5 := f.length + a0.length ≤ 2305843009213693952; cond (decide (j < (kidsD l i).length)) ((j < (kidsD l i).length) ∧ (j < (kidsD l i).length) ∧ ((kidsD l i).getD j 0 < l.length) ∧ cond (decide ((l.getD a1 default).kind = (2 : Int))) ((j < (kidsD l i).length) ∧ (j < (kidsD l i).length) ∧ (l.length ≤ 1000000 ∧ wtL l ≤ 100000) ∧ (WAt l m a1) ∧ a2 ∧ (W56 m).L K 4 (mkS 68 [(0, (.sl (.sels l))), (1, (.nat i)), (5, (.own 1)), (6, (.str (sWr m l a1))), (7, (.str r)), (8, (.nat (j + 1)))] [(1, .row a3 true)] 2)) (cond (decide ((l.getD a1 default).kind = (1 : Int))) (cond (decide (f = [])) (a2 ∧ (W56 m).L K 4 (mkS 68 [(0, (.sl (.sels l))), (1, (.nat i)), (5, (.own 1)), (6, (.str [42])), (7, (.str r)), (8, (.nat (j + 1)))] [(1, .row a3 true)] 2)) (a2 ∧ (W56 m).L K 4 (mkS 68 [(0, (.sl (.sels l))), (1, (.nat i)), (5, (.own 1)), (6, (.str f)), (7, (.str r)), (8, (.nat (j + 1)))] [(1, .row a3 true)] 2))) ((j < (kidsD l i).length) ∧ (j < (kidsD l i).length) ∧ (l.length ≤ 1000000 ∧ wtL l ≤ 100000) ∧ (WAt l m a1) ∧ (r.length + (sWr m l a1).length ≤ 2305843009213693952) ∧ a2 ∧ (W56 m).L K 4 (mkS 68 [(0, (.sl (.sels l))), (1, (.nat i)), (5, (.own 1)), (6, (.str f)), (7, (.str (r ++ (sWr m l a1)))), (8, (.nat (j + 1)))] [(1, .row a3 true)] 2)))) ((i < l.length) ∧ cond (!(decide (a4.val = []))) ((i < l.length) ∧ ((a4.val).length ≤ 100000) ∧ (2 + (named (a4.val)).length ≤ 2305843009213693952) ∧ (r.length + ([58, 58] ++ (named (a4.val))).length ≤ 2305843009213693952) ∧ a5 ∧ cond (decide (f ++ a0 = [])) (K (.val (.str [42])) none) (a5 ∧ K (.val (.str (f ++ a0))) none)) ((f.length + r.length ≤ 2305843009213693952) ∧ cond (decide (f ++ r = [])) (K (.val (.str [42])) none) ((f.length + r.length ≤ 2305843009213693952) ∧ K (.val (.str (f ++ r))) none)))) (by kernel_rfl) ?_
     refine cndI ?_ ?_ <;> intro h1 <;> simp -failIfUnchanged [-List.getD_eq_getElem?_getD, -UInt8.toNat_or] at h1
     · refine nez0 ?_
       refine nez0 ?_
       refine nez0 ?_
       refine cndI ?_ ?_ <;> intro h2 <;> simp -failIfUnchanged [-List.getD_eq_getElem?_getD, -UInt8.toNat_or] at h2
       · refine nez0 ?_
         refine nez0 ?_
         refine nez0 (nez0 ?_)
         refine nez0 ?_
         exact ih _ (by omega) (j + 1) _ _ rfl ⟨by omega, by rw [cmpJ_s h1, ← k2]; exact (cmpStep_2 h2).symm⟩
       refine cndI (fun h3 => ?_) (fun h3 => ?_)
       · simp -failIfUnchanged [-List.getD_eq_getElem?_getD, -UInt8.toNat_or] at h3
         refine cndI ?_ ?_ <;> intro h4 <;> simp -failIfUnchanged [-List.getD_eq_getElem?_getD, -UInt8.toNat_or] at h4
         · refine nez0 ?_
           exact ih _ (by omega) (j + 1) _ _ rfl ⟨by omega, by rw [cmpJ_s h1, ← k2]; exact (cmpStep_1e h2 h3 h4).symm⟩
         refine nez0 ?_
         exact ih _ (by omega) (j + 1) _ _ rfl ⟨by omega, by rw [cmpJ_s h1, ← k2]; exact (cmpStep_1 h2 h3 h4).symm⟩
       simp -failIfUnchanged [-List.getD_eq_getElem?_getD, -UInt8.toNat_or] at h3
       refine nez0 ?_
       refine nez0 ?_
       refine nez0 (nez0 ?_)
       refine nez0 ?_
       refine nez0 ?_
       exact ih _ (by omega) (j + 1) _ _ rfl ⟨by omega, by rw [cmpJ_s h1, ← k2]; exact (cmpStep_0 h2 h3).symm⟩
     refine nez0 ?_
     refine cndI ?_ ?_ <;> intro h2 <;> simp -failIfUnchanged [-List.getD_eq_getElem?_getD, -UInt8.toNat_or] at h2
     · refine nez0 ?_
       refine nez0 ?_
       refine nez0 ?_
       refine nez0 ?_
       refine nez0 ?_
       refine cndI (fun h3 => ?_) (fun h3 => ?_)
       · simp -failIfUnchanged [-List.getD_eq_getElem?_getD, -UInt8.toNat_or] at h3
       simp -failIfUnchanged [-List.getD_eq_getElem?_getD, -UInt8.toNat_or] at h3
       refine nez0 ?_
       have e : sWrC m l i = cmpEnd (l.getD i default).val (f, r) := by unfold sWrC wrCmp; rw [← cmpJ_end (show j = _ by omega), ← k2]
       refine kstr hk ?_
       rw [e]
       simp [cmpEnd, h2, h3, -List.getD_eq_getElem?_getD]
     refine nez0 ?_
     refine cndI ?_ ?_ <;> intro h3 <;> simp -failIfUnchanged [-List.getD_eq_getElem?_getD, -UInt8.toNat_or] at h3
     · have e : sWrC m l i = cmpEnd (l.getD i default).val (f, r) := by unfold sWrC wrCmp; rw [← cmpJ_end (show j = _ by omega), ← k2]
       refine kstr hk ?_
       rw [e]
       simp [cmpEnd, h2, h3, -List.getD_eq_getElem?_getD]
     refine nez0 ?_
     have e : sWrC m l i = cmpEnd (l.getD i default).val (f, r) := by unfold sWrC wrCmp; rw [← cmpJ_end (show j = _ by omega), ← k2]
     refine kstr hk ?_
     rw [e]
     simp [cmpEnd, h2, h3, -List.getD_eq_getElem?_getD]
     exact fun a b => absurd b (h3 a)
   refine (W56 m).entry rfl (X := (i < l.length ∧ l.length ≤ 1000000000000) ∧ (0 ≤ (l.getD i default).size ∧ ((i : Nat) : Int) + (l.getD i default).size ≤ l.length) ∧ (∀ k, k ∈ kidsD l i → (l.getD k default).size ≤ 1000000000000) ∧ (W56 m).L K 4 (mkS 68 [(0, (.sl (.sels l))), (1, (.nat i)), (5, (.own 1)), (6, (.str [])), (7, (.str [])), (8, (.nat 0))] [(1, .row (.ints (kidsD l i)) true)] 2)) (by kernel_rfl) ?_
   refine nez0 (nez0 (nez0 ?_))
   exact L4 _ 0 [] [] rfl ⟨by omega, rfl⟩
 cases e
def c33s (m : Nat) (svs : List SV) (b : Option SB) : QR := match svs, b with
 | [.sl (.sels l), .nat i], none => some ([l.length ≤ 1000000 ∧ wtL l ≤ 100000, WAt l (m + 1) i], .str (sWr (m + 1) l i))
 | _, _ => none
noncomputable def W33 (m : Nat) : Wk := ⟨[(17, .fn c17), (33, .pure (c33 m)), (56, .pure (c56 m)), (57, .pure c57)], bodyOf Tryz.f33, false, false, [.tmp 4], [9], [(7, 417)], []⟩
theorem sat33s (m : Nat) (hG : Sat 33 (pureS (c33 m))) : Sat 33 (pureS (c33s m)) := by
 have hD : CxOk (W33 m).D := (CxOk.cons has17 sat17 (CxOk.cons has33 hG (CxOk.cons has56 (sat56 m hG) (CxOk.cons has57 sat57 CxOk.nil))))
 refine (W33 m).sat hD (fn := Tryz.f33) (by kernel_rfl) (by kernel_rfl) (by kernel_rfl) (Nat.le_of_ble_eq_true (by kernel_rfl)) fun svs b K hP => ?_
 obtain ⟨ps, v, e, hp, hk⟩ := pureS_inv hP
 unfold c33s at e
 split at e
 · rename_i l i
   cases e
   obtain ⟨⟨h01, h02⟩, h03, _⟩ := hp
   obtain ⟨wn, w2, w3, w4, w5, w6, w7, w8⟩ := h03.kids
   obtain ⟨n1, n2, n3, n4⟩ := wn.kids
   have kk : knd l i = (l.getD i default).kind := rfl
   have n5 : ∀ j, j < (kidsD l i).length → (kidsD l i).getD j 0 < l.length := fun j hj => (n3 _ (mem_getD hj)).1
   have w9 : ∀ j, j < (kidsD l i).length → (sWr m l ((kidsD l i).getD j 0)).length ≤ 100000 := fun j hj => Nat.le_trans (w2 _ (mem_getD hj)).len h02
   have w10 := named_len (l.getD i default).val
   have f5 : knd l i = 22 → 1 ≤ (l.getD i default).op ∧ (l.getD i default).op ≤ 4 ∧ (l.getD i default).flag = 0 := w4.comb
   have s1 := getD_len (l := combTxt) (n := 3) (by decide) (l.getD i default).op.toNat
   unfold combTxt at s1
   have s2 := getD_len (l := relTxt) (n := 8) (by decide) ((l.getD i default).kind - 18).toNat
   unfold relTxt nNot nHas nHasChild at s2
   have L7 : ∀ (mm : Nat) (j : Nat) (o : List UInt8), (kidsD l i).length - j = mm → (knd l i = 23 ∧ j ≤ (kidsD l i).length ∧ o = joinJ m l i j) → (W33 m).L K 7 (mkS 87 [(0, (.sl (.sels l))), (5, (.own 1)), (7, (.str o)), (8, (.nat j))] [(1, .row (.ints (kidsD l i)) true)] 2) := by
    intro mm
    induction mm using Nat.strongRecOn with
    | _ mm ih =>
     intro j o hm hI
     obtain ⟨k0, k1, k2⟩ := hI
     have k3 := joinJ_len (n := m) (l := l) (i := i) (j := j)
     rw [← k2] at k3
     refine (W33 m).atL hD (X := have a0 := (kidsD l i).getD j 0; cond (decide (j < (kidsD l i).length)) (cond (decide (0 < j)) ((o.length + 2 ≤ 2305843009213693952) ∧ (j < (kidsD l i).length) ∧ (j < (kidsD l i).length) ∧ (l.length ≤ 1000000 ∧ wtL l ≤ 100000) ∧ (WAt l m a0) ∧ ((o ++ [44, 32]).length + (sWr m l a0).length ≤ 2305843009213693952) ∧ (j + 1 ≤ 9223372036854775807) ∧ (W33 m).L K 7 (mkS 87 [(0, (.sl (.sels l))), (5, (.own 1)), (7, (.str (o ++ [44, 32] ++ (sWr m l a0)))), (8, (.nat (j + 1)))] [(1, .row (.ints (kidsD l i)) true)] 2)) ((j < (kidsD l i).length) ∧ (j < (kidsD l i).length) ∧ (l.length ≤ 1000000 ∧ wtL l ≤ 100000) ∧ (WAt l m a0) ∧ (o.length + (sWr m l a0).length ≤ 2305843009213693952) ∧ (j + 1 ≤ 9223372036854775807) ∧ (W33 m).L K 7 (mkS 87 [(0, (.sl (.sels l))), (5, (.own 1)), (7, (.str (o ++ (sWr m l a0)))), (8, (.nat (j + 1)))] [(1, .row (.ints (kidsD l i)) true)] 2))) (K (.val (.str o)) none)) (by kernel_rfl) ?_
     refine cndI ?_ ?_ <;> intro h1 <;> simp -failIfUnchanged [-List.getD_eq_getElem?_getD, -UInt8.toNat_or] at h1
     · refine cndI (fun h2 => ?_) (fun h2 => ?_)
       · simp -failIfUnchanged [-List.getD_eq_getElem?_getD, -UInt8.toNat_or] at h2
         refine nez0 ?_
         refine nez0 ?_
         refine nez0 ?_
         refine nez0 (nez0 ?_)
         refine nez0 ?_
         refine nez0 ?_
         exact ih _ (by omega) (j + 1) _ rfl ⟨k0, by omega, by rw [joinJ_s h1, if_pos h2, ← k2]⟩
       simp -failIfUnchanged [-List.getD_eq_getElem?_getD, -UInt8.toNat_or] at h2
       refine nez0 ?_
       refine nez0 ?_
       refine nez0 (nez0 ?_)
       refine nez0 ?_
       refine nez0 ?_
       exact ih _ (by omega) (j + 1) _ rfl ⟨k0, by omega, by rw [joinJ_s h1, if_neg (by omega), ← k2]⟩
     refine kstr hk ?_
     rw [sWr_row]
     unfold wrNode
     rw [if_pos (by omega), k2, joinJ_end (by omega)]
   refine (W33 m).entry rfl (X := have a2 := l.getD i default; have a1 := SelD.mk (a2.kind) (a2.op) (a2.key) (a2.val) (a2.a) (a2.b) (a2.flag) (a2.size); have a3 := (kidsD l i).getD 0 0; have a4 := l.length ≤ 1000000 ∧ wtL l ≤ 100000; have a5 := ([[], [32], [32, 62, 32], [32, 43, 32], [32, 126, 32]] : List (List UInt8)).getD ((a2.op).toNat) []; have a6 := a2.kind - (18 : Int); have a0 := ([[110, 111, 116], [104, 97, 115], [104, 97, 115, 99, 104, 105, 108, 100]] : List (List UInt8)).getD ((a6).toNat) []; have a7 := ([58] ++ a0 ++ [40]).length + (sWr m l a3).length ≤ 2305843009213693952; have a8 := ([58] ++ a0 ++ [40] ++ (sWr m l a3)).length + 1 ≤ 2305843009213693952; have a9 : Out := .val (.str ([58] ++ a0 ++ [40] ++ (sWr m l a3) ++ [41])); have a10 := ([58] ++ a0).length + 1 ≤ 2305843009213693952; (i < l.length ∧ l.length ≤ 1000000000000) ∧ (0 ≤ a2.size ∧ ((i : Nat) : Int) + a2.size ≤ l.length) ∧ (∀ k, k ∈ kidsD l i → (l.getD k default).size ≤ 1000000000000) ∧ (i < l.length) ∧ cond (decide (a2.kind = (23 : Int))) ((W33 m).L K 7 (mkS 87 [(0, (.sl (.sels l))), (5, (.own 1)), (7, (.str [])), (8, (.nat 0))] [(2, .blk 33 [(.int .i64 (a2.kind)), (.int .i64 (a2.op)), (.str (a2.key)), (.str (a2.val)), (.int .i64 (a2.a)), (.int .i64 (a2.b)), (.int .i64 (a2.flag)), (.int .i64 (a2.size))]), (1, .row (.ints (kidsD l i)) true)] 3)) (cond (decide (a2.kind = (22 : Int))) ((0 < (kidsD l i).length) ∧ (0 < (kidsD l i).length) ∧ a4 ∧ (WAt l m a3) ∧ (0 ≤ a2.op ∧ a2.op < (5 : Nat)) ∧ ((sWr m l a3).length + a5.length ≤ 2305843009213693952) ∧ (1 < (kidsD l i).length) ∧ (1 < (kidsD l i).length) ∧ a4 ∧ (WAt l m ((kidsD l i).getD 1 0)) ∧ ((sWr m l a3 ++ a5).length + (sWr m l ((kidsD l i).getD 1 0)).length ≤ 2305843009213693952) ∧ K (.val (.str (sWr m l a3 ++ a5 ++ (sWr m l ((kidsD l i).getD 1 0))))) none) (cond (decide (a2.kind = (21 : Int))) (a4 ∧ (WAt l (m + 1) i) ∧ K (.val (.str (sWrC m l i))) none) (cond (decide (a2.kind = (18 : Int))) ((inI a6) ∧ (0 ≤ a6 ∧ a6 < (3 : Nat)) ∧ (1 + a0.length ≤ 2305843009213693952) ∧ a10 ∧ (0 < (kidsD l i).length) ∧ (0 < (kidsD l i).length) ∧ a4 ∧ (WAt l m a3) ∧ a7 ∧ a8 ∧ K a9 none) (cond (decide (a2.kind = (19 : Int))) ((inI a6) ∧ (0 ≤ a6 ∧ a6 < (3 : Nat)) ∧ (1 + a0.length ≤ 2305843009213693952) ∧ a10 ∧ (0 < (kidsD l i).length) ∧ (0 < (kidsD l i).length) ∧ a4 ∧ (WAt l m a3) ∧ a7 ∧ a8 ∧ K a9 none) (cond (decide (a2.kind = (20 : Int))) ((inI a6) ∧ (0 ≤ a6 ∧ a6 < (3 : Nat)) ∧ (1 + a0.length ≤ 2305843009213693952) ∧ a10 ∧ (0 < (kidsD l i).length) ∧ (0 < (kidsD l i).length) ∧ a4 ∧ (WAt l m a3) ∧ a7 ∧ a8 ∧ K a9 none) ((i < l.length) ∧ (Way.Fld a1) ∧ (isSimB a1.kind = true ∧ ¬ (a1.kind = 18 ∨ a1.kind = 19 ∨ a1.kind = 20)) ∧ (a1.key.length + a1.val.length ≤ 100000) ∧ K (.val (.str (wrSimple a1))) none))))))) (by kernel_rfl) ?_
   refine nez0 (nez0 (nez0 ?_))
   refine nez0 ?_
   refine cndI ?_ ?_ <;> intro h1 <;> simp -failIfUnchanged [-List.getD_eq_getElem?_getD, -UInt8.toNat_or] at h1
   · exact Wk.L.ren [0, 1] (by kernel_rfl) (by kernel_rfl) (by kernel_rfl) (L7 _ 0 [] rfl ⟨h1, by omega, rfl⟩)
   refine cndI (fun h2 => ?_) (fun h2 => ?_)
   · simp -failIfUnchanged [-List.getD_eq_getElem?_getD, -UInt8.toNat_or] at h2
     refine nez0 ?_
     refine nez0 ?_
     refine nez0 (nez0 ?_)
     refine nez0 ?_
     refine nez0 ?_
     refine nez0 ?_
     refine nez0 ?_
     refine nez0 (nez0 ?_)
     refine nez0 ?_
     refine kstr hk ?_
     rw [sWr_row]
     unfold wrNode
     rw [if_neg (by omega), if_pos h2, rowT_get (by omega), rowT_get (by omega)]
     rfl
   simp -failIfUnchanged [-List.getD_eq_getElem?_getD, -UInt8.toNat_or] at h2
   refine cndI ?_ ?_ <;> intro h3 <;> simp -failIfUnchanged [-List.getD_eq_getElem?_getD, -UInt8.toNat_or] at h3
   · refine nez0 (nez0 ?_)
     refine kstr hk ?_
     rw [sWr_row]
     unfold wrNode
     rw [if_neg (by omega), if_neg (by omega), if_pos h3]
     rfl
   refine cndI (fun h4 => ?_) (fun h4 => ?_)
   · simp -failIfUnchanged [-List.getD_eq_getElem?_getD, -UInt8.toNat_or] at h4
     refine nez0 ?_
     refine nez0 ?_
     refine nez0 ?_
     refine nez0 ?_
     refine nez0 ?_
     refine nez0 ?_
     refine nez0 (nez0 ?_)
     refine nez0 ?_
     refine nez0 ?_
     refine kstr hk ?_
     rw [sWr_row]
     unfold wrNode
     rw [if_neg (by omega), if_neg (by omega), if_neg (by omega), if_pos (by omega), rowT_get (by omega)]
     simp [relTxt, nNot, nHas, nHasChild, -List.getD_eq_getElem?_getD]
   simp -failIfUnchanged [-List.getD_eq_getElem?_getD, -UInt8.toNat_or] at h4
   refine cndI ?_ ?_ <;> intro h5 <;> simp -failIfUnchanged [-List.getD_eq_getElem?_getD, -UInt8.toNat_or] at h5
   · refine nez0 ?_
     refine nez0 ?_
     refine nez0 ?_
     refine nez0 ?_
     refine nez0 ?_
     refine nez0 ?_
     refine nez0 (nez0 ?_)
     refine nez0 ?_
     refine nez0 ?_
     refine kstr hk ?_
     rw [sWr_row]
     unfold wrNode
     rw [if_neg (by omega), if_neg (by omega), if_neg (by omega), if_pos (by omega), rowT_get (by omega)]
     simp [relTxt, nNot, nHas, nHasChild, -List.getD_eq_getElem?_getD]
   refine cndI (fun h6 => ?_) (fun h6 => ?_)
   · simp -failIfUnchanged [-List.getD_eq_getElem?_getD, -UInt8.toNat_or] at h6
     refine nez0 ?_
     refine nez0 ?_
     refine nez0 ?_
     refine nez0 ?_
     refine nez0 ?_
     refine nez0 ?_
     refine nez0 (nez0 ?_)
     refine nez0 ?_
     refine nez0 ?_
     refine kstr hk ?_
     rw [sWr_row]
     unfold wrNode
     rw [if_neg (by omega), if_neg (by omega), if_neg (by omega), if_pos (by omega), rowT_get (by omega)]
     simp [relTxt, nNot, nHas, nHasChild, -List.getD_eq_getElem?_getD]
   simp -failIfUnchanged [-List.getD_eq_getElem?_getD, -UInt8.toNat_or] at h6
   refine nez0 ?_
   refine nez0 (nez0 (nez0 ?_))
   refine kstr hk ?_
   rw [sWr_row]
   unfold wrNode
   rw [if_neg (by omega), if_neg (by omega), if_neg (by omega), if_neg (by omega)]
 cases e
theorem sat33 : ∀ m, Sat 33 (pureS (c33 m))
 | 0 => by
  intro g0 w M ω svs args b K hS hn hr hP
  exfalso
  obtain ⟨ps, v, e, hp, hk⟩ := pureS_inv hP
  unfold c33 at e
  split at e
  · cases e
    obtain ⟨⟨x, ks⟩, rest, _, h2, _⟩ := hp.2.1
    rw [ST.ht] at h2
    omega
  cases e
 | m + 1 => sat33s m (sat33 m)
def c16 (svs : List SV) (b : Option SB) : QR := match svs, b with
 | [.sl (.sels l)], none => some ([l.length ≤ 2000 ∧ wtL l ≤ 100000, l.length ≠ 0 → WAt l 2000 0], .str (writtenS l))
 | _, _ => none
noncomputable def W16 : Wk := ⟨[(33, .pure (c33 2000))], bodyOf Tryz.f16, false, false, [.tmp 2], [9], [], []⟩
theorem has16 : Has 16 := Has.of (fn := Tryz.f16) (by kernel_rfl) (by kernel_rfl) (by kernel_rfl)
theorem nez1 {p q : Prop} (k : q) (h : p := by first | omega | (constructor <;> omega) | exact h03 (fun q => h1 (List.length_eq_zero_iff.1 q)) | exact h03 (by omega)) : p ∧ q := ⟨h, k⟩
theorem sat16 : Sat 16 (pureS c16) := by
 have hD : CxOk W16.D := (CxOk.cons has33 (sat33 2000) CxOk.nil)
 refine W16.sat hD (fn := Tryz.f16) (by kernel_rfl) (by kernel_rfl) (by kernel_rfl) (Nat.le_of_ble_eq_true (by kernel_rfl)) fun svs b K hP => ?_
 obtain ⟨ps, v, e, hp, hk⟩ := pureS_inv hP
 unfold c16 at e
 split at e
 · rename_i l
   cases e
   obtain ⟨⟨h01, h02⟩, h03, _⟩ := hp
   refine W16.entry rfl (X := cond (decide (l.length = 0)) (K (.val (.str [])) none) ((l.length ≤ 1000000 ∧ wtL l ≤ 100000) ∧ (WAt l 2000 0) ∧ K (.val (.str (sWr 2000 l 0))) none)) (by kernel_rfl) ?_
   refine cndI ?_ ?_ <;> intro h1 <;> simp -failIfUnchanged [-List.getD_eq_getElem?_getD, -UInt8.toNat_or] at h1
   · refine kstr hk ?_
     unfold writtenS
     rw [if_pos (by rw [h1]; rfl)]
   refine nez1 (nez1 ?_)
   refine kstr hk ?_
   unfold writtenS
   rw [if_neg (fun q => h1 (List.length_eq_zero_iff.1 q))]
 cases e
end
section
set_option maxRecDepth 20000
open Go.Proofs.YtengepcafdnalaaGreatDoor.Way
theorem smallB_low {s : Bs} (h : smallB s = true) : low s = s := by
 unfold smallB at h
 rw [allR_iff] at h
 unfold low
 apply List.ext_getElem
 · simp
 intro j h1 h2
 have q := h j h2
 simp only [Bool.not_eq_true', Bool.or_eq_false_iff, decide_eq_false_iff_not, Bool.and_eq_false_imp, decide_eq_true_eq] at q
 have e : bat s j = (s[j]).toNat := by simp [bat, List.getD_eq_getElem?_getD, List.getElem?_eq_getElem h2]
 rw [List.getElem_map]
 unfold lowB
 rw [if_neg (by rw [← e]; intro c; exact q.2 c.1 c.2)]
theorem lookB_small {x : SelD} (h : (!lookB x) = true) : smallT x := by
 intro hk
 apply smallB_low
 unfold lookB at h
 have e1 : (decide (x.kind = 15) || (decide (x.kind = 16) || decide (x.kind = 17))) = true := by simp; exact hk
 rw [e1] at h
 simpa using h
mutual
theorem small_T : ∀ T : ST, (∀ x ∈ T.flat, smallT x) → SmallT T
 | .mk x ks, h => by
  rw [ST.flat, sizedD] at h
  have h1 : smallT { x with size := ((ST.flats ks).length : Nat) + 1 } := h _ (List.mem_cons_self ..)
  exact ⟨h1, small_Ts ks fun y hy => h y (List.mem_cons_of_mem _ hy)⟩
theorem small_Ts : ∀ ks : List ST, (∀ x ∈ ST.flats ks, smallT x) → SmallTs ks
 | [], _ => trivial
 | t :: ks, h => by
  rw [ST.flats] at h
  exact ⟨small_T t fun y hy => h y (List.mem_append_left _ hy), small_Ts ks fun y hy => h y (List.mem_append_right _ hy)⟩
end
mutual
theorem ht'_len : ∀ T : ST, ST.ht' T ≤ T.flat.length
 | .mk x ks => by have := hts'_len ks; simp only [ST.ht', ST.flat, sizedD, List.length_cons]; omega
theorem hts'_len : ∀ ks : List ST, ST.hts' ks ≤ (ST.flats ks).length
 | [] => by simp [ST.hts']
 | t :: ks => by have := ht'_len t; have := hts'_len ks; simp only [ST.hts', ST.flats, List.length_append]; omega
end
theorem wtL_mb : ∀ {l : List SelD}, mbL l ≤ 500 → wtL l ≤ 100 * l.length + 4 * mbL l
 | [], _ => by simp [wtL]
 | x :: l, h => by
  rw [mbL] at h
  have ih := wtL_mb (l := l) (by omega)
  rw [wtL, mbL, List.length_cons]
  unfold wtN
  omega
structure Look (l : List SelD) (T : ST) : Prop where
 e : l = T.flat
 r : RightT T
 s : SmallT T
 k : T.node.kind = 23 ∨ isCpxB T.node.kind = true
 n : 0 < l.length ∧ l.length ≤ 60
 w : wtL l ≤ 8000
theorem writ_look {l : List SelD} (h : writB l = true) : ∃ T, Look l T := by
 unfold writB at h
 split at h
 · cases h
 rename_i h0
 rw [Bool.and_eq_true, allR_iff, Bool.and_eq_true, decide_eq_true_eq] at h
 obtain ⟨h1, h2, h3⟩ := h
 obtain ⟨T, e, r, k⟩ := rightB_T h3
 have hs : ∀ x ∈ T.flat, smallT x := by
  rw [← e]
  intro x hx
  obtain ⟨i, hi, rfl⟩ := List.getElem_of_mem hx
  have := h1 i hi
  rw [List.getD_eq_getElem?_getD, List.getElem?_eq_getElem hi] at this
  exact lookB_small this
 refine ⟨T, e, r, small_T T hs, k, ⟨?_, by omega⟩, ?_⟩
 · rw [e]; exact flat_pos T
 have := wtL_mb h2; omega
section
variable {l : List SelD} {T : ST}
theorem Look.drop0 (h : Look l T) : l.drop 0 = T.flat ++ [] := by simpa using h.e
theorem Look.wat (h : Look l T) : WAt l 2000 0 := ⟨T, [], h.drop0, by have := ht_len T; have := h.n; have := congrArg List.length h.e; omega, h.r⟩
theorem Look.text (h : Look l T) : writtenS l = wr T := by
 unfold writtenS
 rw [if_neg (by have := h.n; omega)]
 exact sWr_eq l 2000 0 T [] h.drop0 (by have := ht_len T; have := h.n; have := congrArg List.length h.e; omega)
theorem Look.len (h : Look l T) : (writtenS l).length ≤ 8000 := by
 have q := wr_len T h.r
 rw [h.text]
 have := h.w
 rw [h.e] at this
 omega
theorem Look.read (h : Look l T) : ∃ x L, cs T = x :: L ∧ (L = [] ↔ (T.node.kind = 23 → (kidsD l 0).length = 1)) ∧ ∀ acc, iParse (wr T) true acc = (if hasP T = true ∧ acc = false then none else some (x :: L)) ∧
 iParse (wr T) false acc = (if hasP T = true ∧ acc = false then none else if L = [] then some [x] else none) := by
 have hh : ST.ht' T ≤ 1000 := by have := ht'_len T; have := h.n; have := congrArg List.length h.e; omega
 have R := read_all 1000 T hh h.r h.s
 by_cases h23 : T.node.kind = 23
 · obtain ⟨x, p, t, L, q, u, g1, g2, g3, g4, g5, g6⟩ := R.grp h23
   refine ⟨x, L, g4, ?_, fun acc => ⟨?_, ?_⟩⟩
   · have e : (cs T).length = (kidsD l 0).length := by
      obtain ⟨y, ks⟩ := T
      have hr := h.r
      obtain ⟨_, _, hs, _⟩ := hr
      have h23' : y.kind = 23 := h23
      unfold shpT at hs
      rw [if_pos h23'] at hs
      have hk := places_kind ks 1 [] (kidsD_flat h.drop0).2.1
      rw [← (kidsD_flat h.drop0).1] at hk
      have hl : (kidsD l 0).length = ks.length := by simpa using congrArg List.length hk
      rw [cs, nodeW, if_pos h23', css_map (fun k hk' => by have := hs.1 k hk'; simp [isCpxB, isSimB] at this; omega), hl]
      simp
     rw [← e, g4]
     simp [h23]
   · rw [g3, parse_many (GrpS.mk g1 g2) (by omega) acc, g5]
   rw [g3, parse_one g1 g2 (by omega) acc, g5]
 have hc : isCpxB T.node.kind = true := h.k.resolve_left h23
 have S := R.sel hc
 have g1 := SlS.mk (g1 := []) (g2 := []) .nil S .nil
 rw [List.nil_append, List.append_nil] at g1
 have g2 := GrpT.nil 1000
 refine ⟨c1 T, [], cs_one h23, by simp [h23], fun acc => ⟨?_, ?_⟩⟩
 · have q := parse_many (GrpS.mk g1 g2) (by omega) acc
   rw [List.append_nil, Bool.or_false] at q
   exact q
 have q := parse_one g1 g2 (by omega) acc
 rw [List.append_nil, Bool.or_false] at q
 exact q
theorem data_many (v : List CSel) : parseData true v = (ST.mk grpNode (treesOf v)).flat := by
 simp [parseData, ST.flat, flats_treesOf]
theorem grp_grp (ks : List ST) : group9 (ST.mk grpNode ks).flat = (ST.mk grpNode ks).flat := by
 unfold group9
 rw [if_pos]
 simp [ST.flat, sizedD, grpNode]
theorem grpOne {T : ST} (h : T.node.kind ≠ 23) : group9 T.flat = (ST.mk grpNode [T]).flat := by
 unfold group9
 rw [if_neg]
 · simp [selMade, ST.flat, ST.flats]
 obtain ⟨x, ks⟩ := T
 simpa [ST.flat, sizedD, ST.node] using h
theorem Look.grp (h : Look l T) : ∃ G : ST, group9 l = G.flat ∧ (ST.mk grpNode (treesOf (cs T))).norm = G.norm ∧ kidsD (group9 l) 0 = kidsD G.flat 0 ∧ (T.node.kind ≠ 23 → G = ST.mk grpNode [T]) ∧ (T.node.kind = 23 → G = T) := by
 obtain ⟨n1, n2⟩ := norm_all _ T (Nat.le_refl _) h.r
 by_cases h23 : T.node.kind = 23
 · refine ⟨T, ?_, n2 h23, ?_, fun q => absurd h23 q, fun _ => rfl⟩
   · rw [h.e]
     obtain ⟨x, ks⟩ := T
     unfold group9
     rw [if_pos]
     simpa [ST.flat, sizedD, ST.node] using h23
   congr 1
   rw [h.e]
   obtain ⟨x, ks⟩ := T
   unfold group9
   rw [if_pos]
   simpa [ST.flat, sizedD, ST.node] using h23
 have e : group9 l = (ST.mk grpNode [T]).flat := by rw [h.e]; exact grpOne h23
 refine ⟨ST.mk grpNode [T], e, ?_, by rw [e], fun _ => rfl, fun q => absurd q h23⟩
 rw [cs_one h23, norm_plain (by decide), norm_plain (by decide), treesOf, treesOf, ST.norms, ST.norms, ST.norms, ST.norms, n1 h23]
end
def SameOk (t : Bs) (l : List SelD) : Prop := t.length ≤ 1000000 ∧ ∃ v, iParse t true true = some v ∧ (0 < (parseData true v).length ∧ (parseData true v).length ≤ 10000000) ∧ (0 < l.length ∧ l.length ≤ 1000000) ∧
 NormOk (group9 (parseData true v)) ∧ NormOk (group9 l) ∧ sameD (group9 (parseData true v)) (group9 l) = true
theorem Look.same {l : List SelD} {T : ST} (h : Look l T) {t : Bs} (ht : t.length ≤ 1000000) (hp : iParse t true true = some (cs T)) : SameOk t l := by
 obtain ⟨G, e1, e2, _⟩ := h.grp
 refine ⟨ht, cs T, hp, ⟨?_, ?_⟩, ⟨h.n.1, by have := h.n.2; omega⟩, ?_, ⟨G, e1⟩, ?_⟩
 · rw [data_many]; exact flat_pos _
 · have := parse_len hp; omega
 · rw [data_many, grp_grp]; exact ⟨_, rfl⟩
 rw [data_many, grp_grp, e1]
 unfold sameD
 rw [NormOk.normed, NormOk.normed, e2]
 exact allEq_self _
theorem look_written {l : List SelD} (h : writB l = true) : ∃ T, Look l T ∧ SameOk (writtenS l) l := by
 obtain ⟨T, hL⟩ := writ_look h
 obtain ⟨x, L, e, _, hr⟩ := hL.read
 refine ⟨T, hL, hL.same (by have := hL.len; omega) ?_⟩
 rw [hL.text, (hr true).1, if_neg (by simp), e]
def dat (m : Bool) : Option (List CSel) → List SelD
 | some v => parseData m v
 | none => []
def OneOk (l : List SelD) (p : Bool) (g : List SelD) (ok : Bool) (one : List SelD) (is : Bool) : Prop :=
 ok = (p || !(l.any psNode)) ∧ is = (ok && decide ((kidsD (group9 l) 0).length = 1)) ∧
 (is = true → 0 < one.length ∧ one.length ≤ 1000000 ∧ g.length ≤ 1000000 ∧ NormOk (group9 one) ∧ NormOk g ∧ sameD (group9 one) g = true)
theorem look_one {l : List SelD} (h : writB l = true) (p : Bool) : OneOk l p (dat true (iParse (writtenS l) true p)) (iParse (writtenS l) true p).isSome (dat false (iParse (writtenS l) false p)) (iParse (writtenS l) false p).isSome := by
 obtain ⟨T, hL⟩ := writ_look h
 obtain ⟨x, L, e, hk, hr⟩ := hL.read
 obtain ⟨r1, r2⟩ := hr p
 rw [← hL.text] at r1 r2
 obtain ⟨G, e1, _, e3, e4, e5⟩ := hL.grp
 have hm : (kidsD (group9 l) 0).length = 1 ↔ L = [] := by
  rw [hk, e3]
  by_cases h23 : T.node.kind = 23
  · rw [e5 h23, ← hL.e]; simp [h23]
  rw [e4 h23]
  have hd : (ST.mk grpNode [T]).flat.drop 0 = (ST.mk grpNode [T]).flat ++ [] := by simp
  rw [(kidsD_flat hd).1]
  simp [placesT, h23]
 have hp : l.any psNode = hasP T := by rw [hL.e]; rfl
 have hlen := hL.len
 unfold OneOk
 rw [hp]
 by_cases hq : hasP T = true ∧ p = false
 · rw [if_pos hq] at r1 r2
   rw [r1, r2]
   obtain ⟨q1, q2⟩ := hq
   subst q2
   rw [q1]
   exact ⟨rfl, rfl, fun q => by cases q⟩
 rw [if_neg hq] at r1 r2
 have hok : (p || !hasP T) = true := by
  cases p
  · cases hc : hasP T
    · rfl
    exact absurd ⟨hc, rfl⟩ hq
  rfl
 by_cases hl : L = []
 · subst hl
   rw [if_pos rfl] at r2
   have k1 := parse_len r1
   have k2 := parse_len r2
   rw [r1, r2, hok]
   have d1 : parseData false [x] = (treeOf x).flat := by simp [parseData, flat_treeOf]
   have d2 : parseData true [x] = (ST.mk grpNode [treeOf x]).flat := by rw [data_many]; simp [treesOf]
   have nk : (treeOf x).node.kind ≠ 23 := by
    obtain ⟨ks, et⟩ := treeOf_mk x
    rw [et]
    exact (node_kind x).2.2
   refine ⟨rfl, by rw [decide_eq_true (hm.2 rfl)]; rfl, fun _ => ?_⟩
   show 0 < (parseData false [x]).length ∧ (parseData false [x]).length ≤ 1000000 ∧ (parseData true [x]).length ≤ 1000000 ∧ NormOk (group9 (parseData false [x])) ∧ NormOk (parseData true [x]) ∧ sameD (group9 (parseData false [x])) (parseData true [x]) = true
   refine ⟨by rw [d1]; exact flat_pos _, by omega, by omega, ?_, ?_, ?_⟩
   · rw [d1, grpOne nk]; exact ⟨_, rfl⟩
   · rw [d2]; exact ⟨_, rfl⟩
   rw [d1, grpOne nk, d2]; exact allEq_self _
 rw [if_neg hl] at r2
 rw [r1, r2, hok]
 exact ⟨rfl, by rw [decide_eq_false (fun q => hl (hm.1 q))]; rfl, fun q => by cases q⟩
theorem look_kids {l : List SelD} (h : writB l = true) : NodeAt (group9 l) 0 ∧ (group9 l).length ≤ 100 := by
 obtain ⟨T, hL⟩ := writ_look h
 obtain ⟨G, e1, _⟩ := hL.grp
 refine ⟨⟨G, [], by rw [e1]; simp⟩, ?_⟩
 have := group9_le l
 have := hL.n
 omega
end
end Go.Proofs.YtengepcafdnalaaGreatDoor
