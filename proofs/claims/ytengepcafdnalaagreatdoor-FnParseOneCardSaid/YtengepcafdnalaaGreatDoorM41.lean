/-
  Parts of the proof that the law FnParseOne holds for every input (texts Nd). Conditions: none.
-/
import Derived.Test.YtengepcafdnalaaGreatDoorM40
namespace Go.Proofs.YtengepcafdnalaaGreatDoor
section
open Go Go.RowKit
set_option maxRecDepth 20000
def mbL : List SelD → Nat
 | [] => 0
 | x :: l => min (x.key.length + x.val.length) 1000 + mbL l
theorem mbL_app : ∀ a b : List SelD, mbL (a ++ b) = mbL a + mbL b
 | [], b => by simp [mbL]
 | x :: a, b => by simp only [List.cons_append, mbL, mbL_app a b]; omega
theorem mbL_step {l : List SelD} {i : Nat} (h : i < l.length) : mbL (l.take (i + 1)) = mbL (l.take i) + min ((l.getD i default).key.length + (l.getD i default).val.length) 1000 := by
 rw [List.take_add_one, List.getElem?_eq_getElem h, mbL_app]
 simp [mbL, List.getD_eq_getElem?_getD, List.getElem?_eq_getElem h]
theorem mbL_le {l : List SelD} : ∀ {i : Nat}, mbL (l.take i) ≤ 1000 * i := by
 intro i
 induction i with
 | zero => simp [mbL]
 | succ i ih =>
  by_cases h : i < l.length
  · rw [mbL_step h]; omega
  rw [List.take_of_length_le (by omega)] at ih ⊢; omega
theorem mbL_mem {l : List SelD} (h : mbL l ≤ 500) : ∀ x ∈ l, x.key.length + x.val.length ≤ 500 := by
 induction l with
 | nil => intro x hx; cases hx
 | cons y l ih =>
  intro x hx
  rw [mbL] at h
  rcases List.mem_cons.1 hx with e | e
  · subst e; omega
  exact ih (by omega) x e
def lookB (x : SelD) : Bool := (decide (x.kind = 15) || (decide (x.kind = 16) || decide (x.kind = 17))) && !smallB x.val
def writB (l : List SelD) : Bool :=
 if 60 < l.length then false else (List.range l.length).all (fun i => !lookB (l.getD i default)) && (decide (mbL l ≤ 500) && rightB l)
theorem fitsB_ok {l : List SelD} (h : fitsB l = true) : l.length ≤ 2147483647 ∧ ∀ j, j < l.length → (l.getD j default).key.length ≤ 2147483647 ∧ (l.getD j default).val.length ≤ 2147483647 := by
 unfold fitsB at h
 rw [Bool.and_eq_true, allR_iff] at h
 refine ⟨by have := h.1; simp at this; omega, fun j hj => ?_⟩
 have := h.2 j hj
 unfold fitB at this
 rw [Bool.and_eq_true] at this
 obtain ⟨h1, h2⟩ := this
 simp only [Bool.not_eq_true', decide_eq_false_iff_not] at h1 h2
 omega
def c15 (svs : List SV) (b : Option SB) : QR := match svs, b with
 | [.sl (.sels l)], none => some ([fitsB l = true], .bool (writB l))
 | _, _ => none
noncomputable def W15 : Wk := ⟨[(31, .pure c31), (32, .pure c32)], bodyOf Tryz.f15, false, false, [.tmp 2], [4], [(5, 25)], []⟩
theorem has15 : Has 15 := Has.of (fn := Tryz.f15) (by kernel_rfl) (by kernel_rfl) (by kernel_rfl)
theorem ndz2 {c0 p0 p1 q : Prop} (k : q) (h : c0 → p0 ∧ p1 ∧ True := by intro g0; (try simp at g0); exact ⟨(by first | omega | (have := f2 i h1; omega) | (have := mbL_mem (l := l) (by have := k5 (by omega); omega); intro x hx; have := this x hx; omega) | (simp; done) | assumption), (by first | omega | (have := f2 i h1; omega) | (have := mbL_mem (l := l) (by have := k5 (by omega); omega); intro x hx; have := this x hx; omega) | (simp; done) | assumption), trivial⟩) : (c0 → p0 ∧ p1 ∧ True) ∧ q := ⟨h, k⟩
theorem ndz1 {c0 p0 q : Prop} (k : q) (h : c0 → p0 ∧ True := by intro g0; (try simp at g0); exact ⟨(by first | omega | (have := f2 i h1; omega) | (have := mbL_mem (l := l) (by have := k5 (by omega); omega); intro x hx; have := this x hx; omega) | (simp; done) | assumption), trivial⟩) : (c0 → p0 ∧ True) ∧ q := ⟨h, k⟩
theorem ndz0 {p q : Prop} (k : q) (h : p := by first | omega | (have := f2 i h1; omega) | (have := mbL_mem (l := l) (by have := k5 (by omega); omega); intro x hx; have := this x hx; omega) | (simp; done) | assumption) : p ∧ q := ⟨h, k⟩
theorem sat15 : Sat 15 (pureS c15) := by
 have hD : CxOk W15.D := (CxOk.cons has31 sat31 (CxOk.cons has32 sat32 CxOk.nil))
 refine W15.sat hD (fn := Tryz.f15) (by kernel_rfl) (by kernel_rfl) (by kernel_rfl) (Nat.le_of_ble_eq_true (by kernel_rfl)) fun svs b K hP => ?_
 obtain ⟨ps, v, e, hp, hk⟩ := pureS_inv hP
 unfold c15 at e
 split at e
 · rename_i l
   cases e
   obtain ⟨h01, _⟩ := hp
   obtain ⟨f1, f2⟩ := fitsB_ok h01
   have L5 : ∀ (mm : Nat) (b : Nat) (i : Nat), l.length - i = mm → (l.length ≤ 60 ∧ i ≤ l.length ∧ (∀ j, j < i → (!lookB (l.getD j default)) = true) ∧ b = mbL (l.take i)) → W15.L K 5 (mkS 61 [(0, (.sl (.sels l))), (3, (.nat b)), (4, (.nat i))] [] 1) := by
    intro mm
    induction mm using Nat.strongRecOn with
    | _ mm ih =>
     intro b i hm hI
     obtain ⟨k0, k1, k2, k3⟩ := hI
     have k4 := mbL_le (l := l) (i := i)
     have k5 : i = l.length → b = mbL l := fun q => by rw [k3, q, List.take_length]
     refine W15.atL hD (X := have a1 := l.getD i default; have a0 := ((decide (a1.kind = (15 : Int))) || (decide (a1.kind = (16 : Int)))) || (decide (a1.kind = (17 : Int))); have a2 := min ((a1.key).length + (a1.val).length) 1000; cond (decide (i < l.length)) ((i < l.length) ∧ (i < l.length) ∧ ((a1.key).length + (a1.val).length ≤ 9223372036854775807) ∧ (b + a2 ≤ 9223372036854775807) ∧ (i < l.length) ∧ (a0 = true → (i < l.length) ∧ True) ∧ (a0 = true → ((a1.val).length ≤ 1000000000000) ∧ True) ∧ cond (a0 && (!(smallB (a1.val)))) (K (.val (.bool false)) none) ((i + 1 ≤ 9223372036854775807) ∧ (W15).L K 5 (mkS 61 [(0, (.sl (.sels l))), (3, (.nat (b + a2))), (4, (.nat (i + 1)))] [] 1))) (((decide (b ≤ 500)) = true → (l.length ≤ 1000) ∧ (∀ x ∈ l, x.key.length ≤ 1000 ∧ x.val.length ≤ 1000) ∧ True) ∧ K (.val (.bool ((decide (b ≤ 500)) && (rightB l)))) none)) (by kernel_rfl) ?_
     refine cndI ?_ ?_ <;> intro h1 <;> simp -failIfUnchanged [-List.getD_eq_getElem?_getD, -UInt8.toNat_or] at h1
     · refine ndz0 ?_
       refine ndz0 ?_
       refine ndz0 ?_
       refine ndz0 ?_
       refine ndz0 ?_
       refine ndz1 ?_
       refine ndz1 ?_
       refine cndI ?_ ?_ <;> intro h2 <;> simp -failIfUnchanged [-List.getD_eq_getElem?_getD, -UInt8.toNat_or] at h2
       · refine kbool hk ?_
         unfold writB
         rw [if_neg (by omega), allR_no (p := fun i => !lookB (l.getD i default)) h1 (by unfold lookB; simp only [h2.2]; have := h2.1; simp [-List.getD_eq_getElem?_getD]; omega)]
         rfl
       refine ndz0 ?_
       exact ih _ (by omega) _ (i + 1) rfl ⟨k0, by omega, fun j hj => by
        rcases (by omega : j < i ∨ j = i) with q | q
        · exact k2 j q
        subst q
        unfold lookB
        by_cases hc : ((l.getD j default).kind = 15 ∨ (l.getD j default).kind = 16) ∨ (l.getD j default).kind = 17
        · rw [h2 hc]; simp
        have e1 : (decide ((l.getD j default).kind = 15) || (decide ((l.getD j default).kind = 16) || decide ((l.getD j default).kind = 17))) = false := by simp only [Bool.or_eq_false_iff, decide_eq_false_iff_not]; omega
        rw [e1]; rfl, by rw [mbL_step h1, k3]⟩
     refine ndz2 ?_
     refine kbool hk ?_
     unfold writB
     rw [if_neg (by omega), allR_yes (p := fun i => !lookB (l.getD i default)) (fun j hj => k2 j (by omega)), k5 (by omega)]
     rfl
   refine W15.entry rfl (X := cond (decide (60 < l.length)) (K (.val (.bool false)) none) ((W15).L K 5 (mkS 61 [(0, (.sl (.sels l))), (3, (.nat 0)), (4, (.nat 0))] [] 1))) (by kernel_rfl) ?_
   refine cndI ?_ ?_ <;> intro h1 <;> simp -failIfUnchanged [-List.getD_eq_getElem?_getD, -UInt8.toNat_or] at h1
   · refine kbool hk ?_
     unfold writB
     rw [if_pos h1]
   exact L5 _ 0 0 rfl ⟨h1, by omega, fun j hj => by omega, rfl⟩
 cases e
def c57i (svs : List SV) (b : Option SB) : QR := match svs, b with
 | [.agg [.int .i64 k, .int .i64 o, .str ke, .str va, .int .i64 a, .int .i64 bb, .int .i64 fl, .int .i64 sz]], none => some ([Way.Fld (SelD.mk k o ke va a bb fl sz), isSimB (SelD.mk k o ke va a bb fl sz).kind = true ∧ ¬ ((SelD.mk k o ke va a bb fl sz).kind = 18 ∨ (SelD.mk k o ke va a bb fl sz).kind = 19 ∨ (SelD.mk k o ke va a bb fl sz).kind = 20), (SelD.mk k o ke va a bb fl sz).key.length + (SelD.mk k o ke va a bb fl sz).val.length ≤ 100000], .str (wrSimple (SelD.mk k o ke va a bb fl sz)))
 | _, _ => none
noncomputable def W57 : Wk := ⟨[(62, .pure c62), (81, .pure c81), (82, .pure c82), (83, .pure c83)], bodyOf Tryz.f57, false, false, [.tmp 2], [9], [], []⟩
theorem has57 : Has 57 := Has.of (fn := Tryz.f57) (by kernel_rfl) (by kernel_rfl) (by kernel_rfl)
theorem ndz3 {p q : Prop} (k : q) (h : p := by first | omega | (simp only [List.length_append, List.length_cons, List.length_nil]; omega) | (unfold inI; omega) | (simp; done)) : p ∧ q := ⟨h, k⟩
theorem sat57i : Sat 57 (pureS c57i) := by
 have hD : CxOk W57.D := (CxOk.cons has62 sat62 (CxOk.cons has81 sat81 (CxOk.cons has82 sat82 (CxOk.cons has83 sat83 CxOk.nil))))
 refine W57.sat hD (fn := Tryz.f57) (by kernel_rfl) (by kernel_rfl) (by kernel_rfl) (Nat.le_of_ble_eq_true (by kernel_rfl)) fun svs b K hP => ?_
 obtain ⟨ps, v, e, hp, hk⟩ := pureS_inv hP
 unfold c57i at e
 split at e
 · rename_i k o ke va a bb fl sz
   cases e
   obtain ⟨h01, ⟨h02, h03⟩, h04, _⟩ := hp
   simp only [isSimB, Bool.and_eq_true, decide_eq_true_eq] at h02 h03 h04
   obtain ⟨r1, r2, r3, r4⟩ := h01.rng
   have f5 := h01.attr
   have f6 := h01.nth
   have f7 := h01.only
   simp only at r1 r2 r3 r4 f5 f6 f7
   have l1 := named_len ke
   have l2 := named_len va
   have l3 := quotedS_len va
   have l4 := countedS_len (a := a) (b := bb) (by omega) (by omega)
   have s1 := getD_len (l := signTxt) (n := 2) (by decide) o.toNat
   have s2 := getD_len (l := ([[], [32, 105]] : List Bs)) (n := 2) (by decide) fl.toNat
   have s3 := getD_len (l := nthTxt) (n := 12) (by decide) fl.toNat
   have s4 := getD_len (l := onlyTxt) (n := 7) (by decide) fl.toNat
   have s5 := getD_len (l := plainTxt) (n := 8) (by decide) (k - 8).toNat
   unfold nthTxt at s3
   unfold onlyTxt at s4
   unfold plainTxt at s5
   refine W57.entry rfl (X := have a0 := ([[99, 104, 105, 108, 100], [108, 97, 115, 116, 45, 99, 104, 105, 108, 100], [111, 102, 45, 116, 121, 112, 101], [108, 97, 115, 116, 45, 111, 102, 45, 116, 121, 112, 101]] : List (List UInt8)).getD ((fl).toNat) []; have a1 := ([[101, 109, 112, 116, 121], [114, 111, 111, 116], [105, 110, 112, 117, 116], [108, 105, 110, 107], [101, 110, 97, 98, 108, 101, 100], [100, 105, 115, 97, 98, 108, 101, 100], [99, 104, 101, 99, 107, 101, 100]] : List (List UInt8)).getD (((k - (8 : Int))).toNat) []; have a2 := ([[], [32, 105]] : List (List UInt8)).getD ((fl).toNat) []; have a3 := ([[99, 104, 105, 108, 100], [], [111, 102, 45, 116, 121, 112, 101]] : List (List UInt8)).getD ((fl).toNat) []; have a4 := signTxt.getD (o).toNat []; have a5 := va.length ≤ 100000; cond (decide (k = (1 : Int))) (K (.val (.str [42])) none) (cond (decide (k = (2 : Int))) ((ke.length ≤ 100000) ∧ K (.val (.str (named ke))) none) (cond (decide (k = (3 : Int))) (a5 ∧ (1 + (named va).length ≤ 2305843009213693952) ∧ K (.val (.str ([46] ++ (named va)))) none) (cond (decide (k = (4 : Int))) (a5 ∧ (1 + (named va).length ≤ 2305843009213693952) ∧ K (.val (.str ([35] ++ (named va)))) none) (cond (decide (k = (5 : Int))) (cond (decide (o = (1 : Int))) ((ke.length ≤ 100000) ∧ (1 + (named ke).length ≤ 2305843009213693952) ∧ (([91] ++ (named ke)).length + 1 ≤ 2305843009213693952) ∧ K (.val (.str ([91] ++ (named ke) ++ [93]))) none) ((ke.length ≤ 100000) ∧ (1 + (named ke).length ≤ 2305843009213693952) ∧ (0 ≤ o ∧ o < 9) ∧ (([91] ++ (named ke)).length + a4.length ≤ 2305843009213693952) ∧ a5 ∧ (([91] ++ (named ke) ++ a4).length + (quotedS va).length ≤ 2305843009213693952) ∧ (0 ≤ fl ∧ fl < (2 : Nat)) ∧ (([91] ++ (named ke) ++ a4 ++ (quotedS va)).length + a2.length ≤ 2305843009213693952) ∧ (([91] ++ (named ke) ++ a4 ++ (quotedS va) ++ a2).length + 1 ≤ 2305843009213693952) ∧ K (.val (.str ([91] ++ (named ke) ++ a4 ++ (quotedS va) ++ a2 ++ [93]))) none)) (cond (decide (k = (6 : Int))) ((0 ≤ fl ∧ fl < (4 : Nat)) ∧ (5 + a0.length ≤ 2305843009213693952) ∧ (([58, 110, 116, 104, 45] ++ a0).length + 1 ≤ 2305843009213693952) ∧ (-100000000000000000 ≤ a ∧ a ≤ 100000000000000000) ∧ (-100000000000000000 ≤ bb ∧ bb ≤ 100000000000000000) ∧ (([58, 110, 116, 104, 45] ++ a0 ++ [40]).length + (countedS a bb).length ≤ 2305843009213693952) ∧ (([58, 110, 116, 104, 45] ++ a0 ++ [40] ++ (countedS a bb)).length + 1 ≤ 2305843009213693952) ∧ K (.val (.str ([58, 110, 116, 104, 45] ++ a0 ++ [40] ++ (countedS a bb) ++ [41]))) none) (cond (decide (k = (7 : Int))) ((0 ≤ fl ∧ fl < (3 : Nat)) ∧ ((fl).toNat < 3) ∧ (6 + a3.length ≤ 2305843009213693952) ∧ K (.val (.str ([58, 111, 110, 108, 121, 45] ++ a3))) none) (cond (decide (k = (15 : Int))) (a5 ∧ (6 + (named va).length ≤ 2305843009213693952) ∧ (([58, 108, 97, 110, 103, 40] ++ (named va)).length + 1 ≤ 2305843009213693952) ∧ K (.val (.str ([58, 108, 97, 110, 103, 40] ++ (named va) ++ [41]))) none) (cond (decide (k = (16 : Int))) (a5 ∧ (10 + (quotedS va).length ≤ 2305843009213693952) ∧ (([58, 99, 111, 110, 116, 97, 105, 110, 115, 40] ++ (quotedS va)).length + 1 ≤ 2305843009213693952) ∧ K (.val (.str ([58, 99, 111, 110, 116, 97, 105, 110, 115, 40] ++ (quotedS va) ++ [41]))) none) (cond (decide (k = (17 : Int))) (a5 ∧ (13 + (quotedS va).length ≤ 2305843009213693952) ∧ (([58, 99, 111, 110, 116, 97, 105, 110, 115, 79, 119, 110, 40] ++ (quotedS va)).length + 1 ≤ 2305843009213693952) ∧ K (.val (.str ([58, 99, 111, 110, 116, 97, 105, 110, 115, 79, 119, 110, 40] ++ (quotedS va) ++ [41]))) none) ((inI (k - (8 : Int))) ∧ (0 ≤ (k - (8 : Int)) ∧ (k - (8 : Int)) < (7 : Nat)) ∧ (((k - (8 : Int))).toNat < 7) ∧ (1 + a1.length ≤ 2305843009213693952) ∧ K (.val (.str ([58] ++ a1))) none))))))))))) (by kernel_rfl) ?_
   refine cndI ?_ ?_ <;> intro h1 <;> simp -failIfUnchanged [-List.getD_eq_getElem?_getD, -UInt8.toNat_or] at h1
   · refine kstr hk ?_
     simp [wrSimple, h1, nthTxt, onlyTxt, plainTxt, -List.getD_eq_getElem?_getD]
   refine cndI (fun h2 => ?_) (fun h2 => ?_)
   · simp -failIfUnchanged [-List.getD_eq_getElem?_getD, -UInt8.toNat_or] at h2
     refine ndz3 ?_
     refine kstr hk ?_
     simp [wrSimple, h1, h2, nthTxt, onlyTxt, plainTxt, -List.getD_eq_getElem?_getD]
   simp -failIfUnchanged [-List.getD_eq_getElem?_getD, -UInt8.toNat_or] at h2
   refine cndI ?_ ?_ <;> intro h3 <;> simp -failIfUnchanged [-List.getD_eq_getElem?_getD, -UInt8.toNat_or] at h3
   · refine ndz3 ?_
     refine ndz3 ?_
     refine kstr hk ?_
     simp [wrSimple, h1, h2, h3, nthTxt, onlyTxt, plainTxt, -List.getD_eq_getElem?_getD]
   refine cndI (fun h4 => ?_) (fun h4 => ?_)
   · simp -failIfUnchanged [-List.getD_eq_getElem?_getD, -UInt8.toNat_or] at h4
     refine ndz3 ?_
     refine ndz3 ?_
     refine kstr hk ?_
     simp [wrSimple, h1, h2, h3, h4, nthTxt, onlyTxt, plainTxt, -List.getD_eq_getElem?_getD]
   simp -failIfUnchanged [-List.getD_eq_getElem?_getD, -UInt8.toNat_or] at h4
   refine cndI ?_ ?_ <;> intro h5 <;> simp -failIfUnchanged [-List.getD_eq_getElem?_getD, -UInt8.toNat_or] at h5
   · refine cndI (fun h6 => ?_) (fun h6 => ?_)
     · simp -failIfUnchanged [-List.getD_eq_getElem?_getD, -UInt8.toNat_or] at h6
       refine ndz3 ?_
       refine ndz3 ?_
       refine ndz3 ?_
       refine kstr hk ?_
       simp [wrSimple, h1, h2, h3, h4, h5, h6, nthTxt, onlyTxt, plainTxt, -List.getD_eq_getElem?_getD]
     simp -failIfUnchanged [-List.getD_eq_getElem?_getD, -UInt8.toNat_or] at h6
     refine ndz3 ?_
     refine ndz3 ?_
     refine ndz3 ?_
     refine ndz3 ?_
     refine ndz3 ?_
     refine ndz3 ?_
     refine ndz3 ?_
     refine ndz3 ?_
     refine ndz3 ?_
     refine kstr hk ?_
     simp [wrSimple, h1, h2, h3, h4, h5, h6, nthTxt, onlyTxt, plainTxt, -List.getD_eq_getElem?_getD]
   refine cndI (fun h6 => ?_) (fun h6 => ?_)
   · simp -failIfUnchanged [-List.getD_eq_getElem?_getD, -UInt8.toNat_or] at h6
     refine ndz3 ?_
     refine ndz3 ?_
     refine ndz3 ?_
     refine ndz3 (ndz3 ?_)
     refine ndz3 ?_
     refine ndz3 ?_
     refine kstr hk ?_
     simp [wrSimple, h1, h2, h3, h4, h5, h6, nthTxt, onlyTxt, plainTxt, -List.getD_eq_getElem?_getD]
   simp -failIfUnchanged [-List.getD_eq_getElem?_getD, -UInt8.toNat_or] at h6
   refine cndI ?_ ?_ <;> intro h7 <;> simp -failIfUnchanged [-List.getD_eq_getElem?_getD, -UInt8.toNat_or] at h7
   · refine ndz3 ?_
     refine ndz3 ?_
     refine ndz3 ?_
     refine kstr hk ?_
     simp [wrSimple, h1, h2, h3, h4, h5, h6, h7, nthTxt, onlyTxt, plainTxt, -List.getD_eq_getElem?_getD]
   refine cndI (fun h8 => ?_) (fun h8 => ?_)
   · simp -failIfUnchanged [-List.getD_eq_getElem?_getD, -UInt8.toNat_or] at h8
     refine ndz3 ?_
     refine ndz3 ?_
     refine ndz3 ?_
     refine kstr hk ?_
     simp [wrSimple, h1, h2, h3, h4, h5, h6, h7, h8, nthTxt, onlyTxt, plainTxt, -List.getD_eq_getElem?_getD]
   simp -failIfUnchanged [-List.getD_eq_getElem?_getD, -UInt8.toNat_or] at h8
   refine cndI ?_ ?_ <;> intro h9 <;> simp -failIfUnchanged [-List.getD_eq_getElem?_getD, -UInt8.toNat_or] at h9
   · refine ndz3 ?_
     refine ndz3 ?_
     refine ndz3 ?_
     refine kstr hk ?_
     simp [wrSimple, h1, h2, h3, h4, h5, h6, h7, h8, h9, nthTxt, onlyTxt, plainTxt, -List.getD_eq_getElem?_getD]
   refine cndI (fun h10 => ?_) (fun h10 => ?_)
   · simp -failIfUnchanged [-List.getD_eq_getElem?_getD, -UInt8.toNat_or] at h10
     refine ndz3 ?_
     refine ndz3 ?_
     refine ndz3 ?_
     refine kstr hk ?_
     simp [wrSimple, h1, h2, h3, h4, h5, h6, h7, h8, h9, h10, nthTxt, onlyTxt, plainTxt, -List.getD_eq_getElem?_getD]
   simp -failIfUnchanged [-List.getD_eq_getElem?_getD, -UInt8.toNat_or] at h10
   refine ndz3 ?_
   refine ndz3 ?_
   refine ndz3 ?_
   refine ndz3 ?_
   refine kstr hk ?_
   simp [wrSimple, h1, h2, h3, h4, h5, h6, h7, h8, h9, h10, nthTxt, onlyTxt, plainTxt, -List.getD_eq_getElem?_getD]
 cases e
def c57 (svs : List SV) (b : Option SB) : QR := match svs, b with
 | [x], none => match toSel x with
  | some x => some ([Way.Fld x, isSimB x.kind = true ∧ ¬ (x.kind = 18 ∨ x.kind = 19 ∨ x.kind = 20), x.key.length + x.val.length ≤ 100000], .str (wrSimple x))
  | _ => none
 | _, _ => none
theorem sat57 : Sat 57 (pureS c57) := by
 refine Sat.wk sat57i fun svs b K h => ?_
 obtain ⟨ps, v, e, hp, hk⟩ := pureS_inv h
 unfold c57 at e
 split at e
 · rename_i x
   split at e
   · rename_i x' hx
     cases e
     exact ⟨[.agg (selCells x')], ⟨fun ω v => toSel_rel hx, trivial⟩, hp.1, hp.2.1, hp.2.2.1, hk⟩
   cases e
 cases e
end
end Go.Proofs.YtengepcafdnalaaGreatDoor
