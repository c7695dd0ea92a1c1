/-
  Parts of the proof that the law FnParseExact holds for every input (texts Ko, Kp, Kq). Conditions: none.
-/
import Derived.Test.YtengepcafdnalaaGreatDoorM32
namespace Go.Proofs.YtengepcafdnalaaGreatDoor
section
open Go Go.RowKit
set_option maxRecDepth 20000
section
variable {G : RS → List SelD × RS} {s : Bs} {ps pseudo : Bool} {t : RS} {l : List SelD} {pe : Bs} {many : Nat}
theorem sCmpGo_st (h : ¬ (t.bad = false ∧ t.p < s.length ∧ isSim (bat s t.p) = true)) : sCmpGo G s ps pseudo t l pe many =
 if many = 0 then (failL, (t.unI (decide (bat s t.p = 124) || decide (bat s t.p = 42))).no) else (selMade ⟨21, 0, [], pe, 0, 0, 0, 0⟩ l, t.unI (decide (bat s t.p = 124) || decide (bat s t.p = 42))) := by
 unfold sCmpGo; rw [if_neg h]
theorem sCmpGo_np (h : t.bad = false ∧ t.p < s.length ∧ isSim (bat s t.p) = true) (hv : (sSimple G s t).1.2 ≠ []) (hp : pseudo = false) : sCmpGo G s ps pseudo t l pe many = (failL, ((sSimple G s t).2.unI ps).no) := by
 unfold sCmpGo; rw [if_pos h]; simp only; rw [if_pos hv, if_pos hp]
theorem sCmpGo_two (h : t.bad = false ∧ t.p < s.length ∧ isSim (bat s t.p) = true) (hv : (sSimple G s t).1.2 ≠ []) (hp : pseudo = true) (he : pe ≠ []) : sCmpGo G s ps pseudo t l pe many = (failL, ((sSimple G s t).2.unI true).no) := by
 unfold sCmpGo; rw [if_pos h]; simp only; rw [if_pos hv, if_neg (by rw [hp]; simp), if_pos he]
theorem sCmpGo_el (h : t.bad = false ∧ t.p < s.length ∧ isSim (bat s t.p) = true) (hv : (sSimple G s t).1.2 ≠ []) (hp : pseudo = true) (he : pe = []) (hl : t.p < (sSimple G s t).2.p) :
 sCmpGo G s ps pseudo t l pe many = sCmpGo G s ps pseudo (sSimple G s t).2 l (sSimple G s t).1.2 (many + 1) := by
 conv => lhs; unfold sCmpGo
 rw [if_pos h]; simp only; rw [if_pos hv, if_neg (by rw [hp]; simp), if_neg (by rw [he]; simp), if_pos hl]
theorem sCmpGo_ki (h : t.bad = false ∧ t.p < s.length ∧ isSim (bat s t.p) = true) (hv : (sSimple G s t).1.2 = []) (hl : t.p < (sSimple G s t).2.p) :
 sCmpGo G s ps pseudo t l pe many = sCmpGo G s ps pseudo ((sSimple G s t).2.unI (decide (pe ≠ []))) (l ++ (sSimple G s t).1.1) pe (many + 1) := by
 conv => lhs; unfold sCmpGo
 rw [if_pos h]; simp only; rw [if_neg (by rw [hv]; simp), if_pos hl]
end
def c65 (m : Nat) (svs : List SV) (b : Option SB) : FR := match svs, b with
 | [.ptr 0 0, .bool pseudo], some (.blk 46 [.str s, .nat p, .bool bad, .bool un, .bool ps]) => some ([s.length ≤ 100000, p ≤ s.length + 1, s.length ≤ m + p, m ≤ 200000], .row (.sels (sCmp (sGrp s ps (m + 1)) s ps pseudo ⟨p, bad, un⟩).1), some (.blk 46 [.str s, .nat (sCmp (sGrp s ps (m + 1)) s ps pseudo ⟨p, bad, un⟩).2.p, .bool (sCmp (sGrp s ps (m + 1)) s ps pseudo ⟨p, bad, un⟩).2.bad, .bool (sCmp (sGrp s ps (m + 1)) s ps pseudo ⟨p, bad, un⟩).2.un, .bool ps]))
 | _, _ => none
noncomputable def W65 (m : Nat) : Wk := ⟨[(29, .fn c29), (43, .plain c43), (66, .pure c66), (68, .fn c68), (77, .pure c77), (95, .fn c95), (96, .fn c96), (97, .plain (c97 m))], bodyOf Tryz.f65, true, true, [.tmp 4], [22], [(9, 227)], []⟩
theorem has65 : Has 65 := Has.of (fn := Tryz.f65) (by kernel_rfl) (by kernel_rfl) (by kernel_rfl)
theorem koz2 {p q : Prop} (k : q) (h : p := by first | omega | (simp; done) | (simp [g0]; done) | (have n1 := sName_n s ⟨p, bad, un || nmUn s p⟩ h02; have n2 := (sName_up s ⟨p, bad, un || nmUn s p⟩ h02).2; omega) | (have a := kb h1.2; have := a.1.2; omega) | (have a := bat_lt (h42t h1) (by decide); omega)) : p ∧ q := ⟨h, k⟩
theorem koz1 {c0 p0 p1 q : Prop} (k : q) (h : c0 → p0 ∧ p1 ∧ True := by intro g0; (try simp at g0); exact ⟨(by first | omega | (simp; done) | (simp [g0]; done) | (have n1 := sName_n s ⟨p, bad, un || nmUn s p⟩ h02; have n2 := (sName_up s ⟨p, bad, un || nmUn s p⟩ h02).2; omega) | (have a := kb h1.2; have := a.1.2; omega) | (have a := bat_lt (h42t h1) (by decide); omega)), (by first | omega | (simp; done) | (simp [g0]; done) | (have n1 := sName_n s ⟨p, bad, un || nmUn s p⟩ h02; have n2 := (sName_up s ⟨p, bad, un || nmUn s p⟩ h02).2; omega) | (have a := kb h1.2; have := a.1.2; omega) | (have a := bat_lt (h42t h1) (by decide); omega)), trivial⟩) : (c0 → p0 ∧ p1 ∧ True) ∧ q := ⟨h, k⟩
theorem koz0 {c0 p0 q : Prop} (k : q) (h : c0 → p0 ∧ True := by intro g0; (try simp at g0); exact ⟨(by first | omega | (simp; done) | (simp [g0]; done) | (have n1 := sName_n s ⟨p, bad, un || nmUn s p⟩ h02; have n2 := (sName_up s ⟨p, bad, un || nmUn s p⟩ h02).2; omega) | (have a := kb h1.2; have := a.1.2; omega) | (have a := bat_lt (h42t h1) (by decide); omega)), trivial⟩) : (c0 → p0 ∧ True) ∧ q := ⟨h, k⟩
theorem sat65 (m : Nat) (hG : Sat 23 (fnS (c23 m))) : Sat 65 (fnS (c65 m)) := by
 have hD : CxOk (W65 m).D := (CxOk.cons has29 sat29 (CxOk.cons has43 sat43 (CxOk.cons has66 sat66 (CxOk.cons has68 sat68 (CxOk.cons has77 sat77 (CxOk.cons has95 sat95 (CxOk.cons has96 sat96 (CxOk.cons has97 (sat97 m hG) CxOk.nil))))))))
 refine (W65 m).sat hD (fn := Tryz.f65) (by kernel_rfl) (by kernel_rfl) (by kernel_rfl) (Nat.le_of_ble_eq_true (by kernel_rfl)) fun svs b K hP => ?_
 obtain ⟨ps, o, b', e, hp, hk⟩ := fnS_inv hP
 unfold c65 at e
 split at e
 · rename_i pseudo s p bad un ps
   cases e
   obtain ⟨h01, h02, h03, h04, _⟩ := hp
   have L9 : ∀ (mm : Nat) (t : RS) (pe : Bs) (ks : List (List SelD)) (many : Nat), s.length + 1 - t.p = mm → (Up s ⟨p, bad, un⟩ t ∧ ks.length ≤ t.p + 1 ∧ many ≤ t.p + 1 ∧ ks.flatten.length ≤ (3 * (m + 1) + 8) * t.p + 1 ∧ sCmp (sGrp s ps (m + 1)) s ps pseudo ⟨p, bad, un⟩ = sCmpGo (sGrp s ps (m + 1)) s ps pseudo t ks.flatten pe many) → (W65 m).L K 9 (mkS 115 [(0, (.ptr 0 0)), (1, (.bool pseudo)), (5, (.ptr 1 0)), (6, (.own 2)), (7, (.nat many))] [(0, .blk 46 [(.str s), (.nat t.p), (.bool t.bad), (.bool t.un), (.bool ps)]), (1, .blk 33 [(.nat 21), (.nat 0), (.str []), (.str pe), (.nat 0), (.nat 0), (.nat 0), (.nat 0)]), (2, .row (.selss ks) true)] 3) := by
    intro mm
    induction mm using Nat.strongRecOn with
    | _ mm ih =>
     intro t pe ks many hm hI
     obtain ⟨k1, k2, k3, k4, k5⟩ := hI
     have k6 : p ≤ t.p := k1.1
     have k7 : t.p ≤ s.length + 1 := k1.2
     have kb := fun h => sSimple_b (c := 3 * (m + 1) + 8) (by omega) (sGrp_b s ps (m + 1)) t h
     have kc : (3 * (m + 1) + 8) * t.p ≤ 700000 * 100001 := Nat.mul_le_mul (by omega) (by omega)
     refine (W65 m).atL hD (X := have a0 := sSimple (sGrp s ps (m + 1)) s t; have a1 : Out := .row (.sels (selMade (SelD.mk (21 : Int) (0 : Int) [] pe (0 : Int) (0 : Int) (0 : Int) (0 : Int)) (ks : List (List SelD)).flatten)); have a2 := (!t.bad) = true → (((!t.bad) == true) = true) ∧ True; have a3 : Out := .row (.sels failL); have a4 : Option SB := some (.blk 46 [(.str s), (.nat t.p), (.bool t.bad), (.bool true), (.bool ps)]); have a5 : Option SB := some (.blk 46 [(.str s), (.nat t.p), (.bool t.bad), (.bool t.un), (.bool ps)]); have a6 : Option SB := some (.blk 46 [(.str s), (.nat t.p), (.bool true), (.bool true), (.bool ps)]); have a7 : Option SB := some (.blk 46 [(.str s), (.nat t.p), (.bool true), (.bool t.un), (.bool ps)]); have a8 := (decide (bat s t.p = 124)) || (decide (bat s t.p = 42)); have a9 : SV := .nat (a0.2.p); have a10 := decide (many = 0); a2 ∧ a2 ∧ a2 ∧ a2 ∧ a2 ∧ a2 ∧ a2 ∧ ((!t.bad) = true → (((!t.bad) == true) = true) ∧ (((!t.bad) == true) = true) ∧ True) ∧ ((!t.bad) = true → ((!t.bad) == true) = true) ∧ cond ((!t.bad) && (decide (t.p < s.length))) ((s.length ≤ 100000) ∧ (t.p ≤ s.length + 1) ∧ (s.length ≤ m + t.p) ∧ (m ≤ 200000) ∧ cond (isSim (bat s t.p)) ((many + 1 ≤ 9223372036854775807) ∧ cond (!(decide (a0.1.2 = []))) (cond (!pseudo) (K a3 (some (.blk 46 [(.str s), a9, (.bool true), (.bool (a0.2.un || ps)), (.bool ps)]))) (cond (!(decide (pe = []))) (K a3 (some (.blk 46 [(.str s), a9, (.bool true), (.bool true), (.bool ps)]))) ((W65 m).L K 9 (mkS 115 [(0, (.ptr 0 0)), (1, (.bool pseudo)), (5, (.ptr 1 0)), (6, (.own 2)), (7, (.nat (many + 1)))] [(0, .blk 46 [(.str s), a9, (.bool (a0.2.bad)), (.bool (a0.2.un)), (.bool ps)]), (1, .blk 33 [(.nat 21), (.nat 0), (.str []), (.str (a0.1.2)), (.nat 0), (.nat 0), (.nat 0), (.nat 0)]), (2, .row (.selss ks) true)] 3)))) (cond (!(decide (pe = []))) ((ks.length + 1 ≤ 1099511627776) ∧ (W65 m).L K 9 (mkS 115 [(0, (.ptr 0 0)), (1, (.bool pseudo)), (5, (.ptr 1 0)), (6, (.own 4)), (7, (.nat (many + 1)))] [(4, .row (.selss (ks ++ [a0.1.1])) true), (0, .blk 46 [(.str s), a9, (.bool (a0.2.bad)), (.bool true), (.bool ps)]), (1, .blk 33 [(.nat 21), (.nat 0), (.str []), (.str pe), (.nat 0), (.nat 0), (.nat 0), (.nat 0)])] 5)) ((ks.length + 1 ≤ 1099511627776) ∧ (W65 m).L K 9 (mkS 115 [(0, (.ptr 0 0)), (1, (.bool pseudo)), (5, (.ptr 1 0)), (6, (.own 4)), (7, (.nat (many + 1)))] [(4, .row (.selss (ks ++ [a0.1.1])) true), (0, .blk 46 [(.str s), a9, (.bool (a0.2.bad)), (.bool (a0.2.un)), (.bool ps)]), (1, .blk 33 [(.nat 21), (.nat 0), (.str []), (.str pe), (.nat 0), (.nat 0), (.nat 0), (.nat 0)])] 5)))) ((s.length ≤ 1000000) ∧ (t.p ≤ s.length + 1) ∧ cond a8 (cond a10 (K a3 a6) (((ks : List (List SelD)).length ≤ 1000000000) ∧ ((ks : List (List SelD)).flatten.length ≤ 1000000000000) ∧ K a1 a4)) (cond a10 (K a3 a7) (((ks : List (List SelD)).length ≤ 1000000000) ∧ ((ks : List (List SelD)).flatten.length ≤ 1000000000000) ∧ K a1 a5)))) ((s.length ≤ 1000000) ∧ (t.p ≤ s.length + 1) ∧ cond a8 (cond a10 (K a3 a6) (((ks : List (List SelD)).length ≤ 1000000000) ∧ ((ks : List (List SelD)).flatten.length ≤ 1000000000000) ∧ K a1 a4)) (cond a10 (K a3 a7) (((ks : List (List SelD)).length ≤ 1000000000) ∧ ((ks : List (List SelD)).flatten.length ≤ 1000000000000) ∧ K a1 a5)))) (by kernel_rfl) ?_
     refine koz0 ?_
     refine koz0 ?_
     refine koz0 ?_
     refine koz0 ?_
     refine koz0 ?_
     refine koz0 ?_
     refine koz0 ?_
     refine koz1 ?_
     refine koz2 ?_
     refine cndI ?_ ?_ <;> intro h1 <;> simp -failIfUnchanged [-List.getD_eq_getElem?_getD] at h1
     · refine koz2 (koz2 (koz2 (koz2 ?_)))
       refine cndI ?_ ?_ <;> intro h2 <;> simp -failIfUnchanged [-List.getD_eq_getElem?_getD] at h2
       · refine koz2 ?_
         refine cndI ?_ ?_ <;> intro h3 <;> simp -failIfUnchanged [-List.getD_eq_getElem?_getD] at h3
         · refine cndI (fun h4 => ?_) (fun h4 => ?_)
           · simp -failIfUnchanged [-List.getD_eq_getElem?_getD] at h4
             exact krow hk (k5.trans ((sCmpGo_np ⟨h1.1, h1.2, h2⟩ h3 h4).trans rfl))
           simp -failIfUnchanged [-List.getD_eq_getElem?_getD] at h4
           refine cndI ?_ ?_ <;> intro h5 <;> simp -failIfUnchanged [-List.getD_eq_getElem?_getD] at h5
           · refine krow hk (k5.trans ((sCmpGo_two ⟨h1.1, h1.2, h2⟩ h3 h4 h5).trans ?_))
             simp [RS.unI, RS.no]
           obtain ⟨a1, a2, a3⟩ := kb h1.2
           have a4 := a1.2
           have a5 := a1.1
           have a6 := Nat.mul_le_mul_left (3 * (m + 1) + 8) a5
           exact ih _ (by omega) (sSimple (sGrp s ps (m + 1)) s t).2 (sSimple (sGrp s ps (m + 1)) s t).1.2 ks (many + 1) rfl ⟨⟨by show p ≤ (sSimple (sGrp s ps (m + 1)) s t).2.p; omega, a4⟩, by omega, by omega, by omega, by rw [k5, sCmpGo_el ⟨h1.1, h1.2, h2⟩ h3 h4 h5 a2]⟩
         refine cndI (fun h4 => ?_) (fun h4 => ?_)
         · simp -failIfUnchanged [-List.getD_eq_getElem?_getD] at h4
           refine koz2 ?_
           obtain ⟨a1, a2, a3⟩ := kb h1.2
           have a4 := a1.2
           have a5 := a1.1
           have a6 := Nat.mul_le_mul_left (3 * (m + 1) + 8) a5
           exact Wk.L.ren [0, 1, 4] (by kernel_rfl) (by kernel_rfl) (by kernel_rfl) (ih _ (by show s.length + 1 - (sSimple (sGrp s ps (m + 1)) s t).2.p < mm; omega) (RS.mk (sSimple (sGrp s ps (m + 1)) s t).2.p (sSimple (sGrp s ps (m + 1)) s t).2.bad true) pe (ks ++ [(sSimple (sGrp s ps (m + 1)) s t).1.1]) (many + 1) rfl ⟨⟨by show p ≤ (sSimple (sGrp s ps (m + 1)) s t).2.p; omega, a4⟩, by show (ks ++ [(sSimple (sGrp s ps (m + 1)) s t).1.1]).length ≤ (sSimple (sGrp s ps (m + 1)) s t).2.p + 1; simp only [List.length_append, List.length_singleton]; omega, by show many + 1 ≤ (sSimple (sGrp s ps (m + 1)) s t).2.p + 1; omega, by
            show (ks ++ [(sSimple (sGrp s ps (m + 1)) s t).1.1]).flatten.length ≤ (3 * (m + 1) + 8) * (sSimple (sGrp s ps (m + 1)) s t).2.p + 1
            rw [List.flatten_append, List.length_append, show [(sSimple (sGrp s ps (m + 1)) s t).1.1].flatten = (sSimple (sGrp s ps (m + 1)) s t).1.1 from by simp]; omega, by
            rw [k5, sCmpGo_ki ⟨h1.1, h1.2, h2⟩ h3 a2, List.flatten_append, show [(sSimple (sGrp s ps (m + 1)) s t).1.1].flatten = (sSimple (sGrp s ps (m + 1)) s t).1.1 from by simp, show (sSimple (sGrp s ps (m + 1)) s t).2.unI (decide (pe ≠ [])) = (RS.mk (sSimple (sGrp s ps (m + 1)) s t).2.p (sSimple (sGrp s ps (m + 1)) s t).2.bad true) from by simp [RS.unI, h4]]⟩)
         simp -failIfUnchanged [-List.getD_eq_getElem?_getD] at h4
         refine koz2 ?_
         obtain ⟨a1, a2, a3⟩ := kb h1.2
         have a4 := a1.2
         have a5 := a1.1
         have a6 := Nat.mul_le_mul_left (3 * (m + 1) + 8) a5
         exact Wk.L.ren [0, 1, 4] (by kernel_rfl) (by kernel_rfl) (by kernel_rfl) (ih _ (by show s.length + 1 - (sSimple (sGrp s ps (m + 1)) s t).2.p < mm; omega) (sSimple (sGrp s ps (m + 1)) s t).2 pe (ks ++ [(sSimple (sGrp s ps (m + 1)) s t).1.1]) (many + 1) rfl ⟨⟨by show p ≤ (sSimple (sGrp s ps (m + 1)) s t).2.p; omega, a4⟩, by show (ks ++ [(sSimple (sGrp s ps (m + 1)) s t).1.1]).length ≤ (sSimple (sGrp s ps (m + 1)) s t).2.p + 1; simp only [List.length_append, List.length_singleton]; omega, by show many + 1 ≤ (sSimple (sGrp s ps (m + 1)) s t).2.p + 1; omega, by
          show (ks ++ [(sSimple (sGrp s ps (m + 1)) s t).1.1]).flatten.length ≤ (3 * (m + 1) + 8) * (sSimple (sGrp s ps (m + 1)) s t).2.p + 1
          rw [List.flatten_append, List.length_append, show [(sSimple (sGrp s ps (m + 1)) s t).1.1].flatten = (sSimple (sGrp s ps (m + 1)) s t).1.1 from by simp]; omega, by
          rw [k5, sCmpGo_ki ⟨h1.1, h1.2, h2⟩ h3 a2, List.flatten_append, show [(sSimple (sGrp s ps (m + 1)) s t).1.1].flatten = (sSimple (sGrp s ps (m + 1)) s t).1.1 from by simp, show (sSimple (sGrp s ps (m + 1)) s t).2.unI (decide (pe ≠ [])) = (sSimple (sGrp s ps (m + 1)) s t).2 from by simp [RS.unI, h4]]⟩)
       refine koz2 (koz2 ?_)
       refine cndI ?_ ?_ <;> intro h3 <;> simp -failIfUnchanged [-List.getD_eq_getElem?_getD] at h3
       · refine cndI (fun h4 => ?_) (fun h4 => ?_)
         · simp -failIfUnchanged [-List.getD_eq_getElem?_getD] at h4
           refine krow hk (k5.trans ((sCmpGo_st (fun h => by rw [h.2.2] at h2; cases h2)).trans ?_))
           rw [show (decide (bat s t.p = 124) || decide (bat s t.p = 42)) = true from by simp; omega]
           rw [if_pos h4]
           simp [RS.unI, RS.no]
         simp -failIfUnchanged [-List.getD_eq_getElem?_getD] at h4
         refine koz2 (koz2 ?_)
         refine krow hk (k5.trans ((sCmpGo_st (fun h => by rw [h.2.2] at h2; cases h2)).trans ?_))
         rw [show (decide (bat s t.p = 124) || decide (bat s t.p = 42)) = true from by simp; omega]
         rw [if_neg h4]
         simp [RS.unI, RS.no]
       refine cndI (fun h4 => ?_) (fun h4 => ?_)
       · simp -failIfUnchanged [-List.getD_eq_getElem?_getD] at h4
         refine krow hk (k5.trans ((sCmpGo_st (fun h => by rw [h.2.2] at h2; cases h2)).trans ?_))
         rw [show (decide (bat s t.p = 124) || decide (bat s t.p = 42)) = false from by simp; omega]
         rw [if_pos h4]
         simp [RS.unI, RS.no]
       simp -failIfUnchanged [-List.getD_eq_getElem?_getD] at h4
       refine koz2 (koz2 ?_)
       refine krow hk (k5.trans ((sCmpGo_st (fun h => by rw [h.2.2] at h2; cases h2)).trans ?_))
       rw [show (decide (bat s t.p = 124) || decide (bat s t.p = 42)) = false from by simp; omega]
       rw [if_neg h4]
       simp [RS.unI, RS.no]
     refine koz2 (koz2 ?_)
     refine cndI ?_ ?_ <;> intro h2 <;> simp -failIfUnchanged [-List.getD_eq_getElem?_getD] at h2
     · refine cndI (fun h3 => ?_) (fun h3 => ?_)
       · simp -failIfUnchanged [-List.getD_eq_getElem?_getD] at h3
         refine krow hk (k5.trans ((sCmpGo_st (fun h => by have q1 := h1 h.1; have q2 := h.2.1; omega)).trans ?_))
         rw [show (decide (bat s t.p = 124) || decide (bat s t.p = 42)) = true from by simp; omega]
         rw [if_pos h3]
         simp [RS.unI, RS.no]
       simp -failIfUnchanged [-List.getD_eq_getElem?_getD] at h3
       refine koz2 (koz2 ?_)
       refine krow hk (k5.trans ((sCmpGo_st (fun h => by have q1 := h1 h.1; have q2 := h.2.1; omega)).trans ?_))
       rw [show (decide (bat s t.p = 124) || decide (bat s t.p = 42)) = true from by simp; omega]
       rw [if_neg h3]
       simp [RS.unI, RS.no]
     refine cndI (fun h3 => ?_) (fun h3 => ?_)
     · simp -failIfUnchanged [-List.getD_eq_getElem?_getD] at h3
       refine krow hk (k5.trans ((sCmpGo_st (fun h => by have q1 := h1 h.1; have q2 := h.2.1; omega)).trans ?_))
       rw [show (decide (bat s t.p = 124) || decide (bat s t.p = 42)) = false from by simp; omega]
       rw [if_pos h3]
       simp [RS.unI, RS.no]
     simp -failIfUnchanged [-List.getD_eq_getElem?_getD] at h3
     refine koz2 (koz2 ?_)
     refine krow hk (k5.trans ((sCmpGo_st (fun h => by have q1 := h1 h.1; have q2 := h.2.1; omega)).trans ?_))
     rw [show (decide (bat s t.p = 124) || decide (bat s t.p = 42)) = false from by simp; omega]
     rw [if_neg h3]
     simp [RS.unI, RS.no]
   refine (W65 m).entry rfl (X := have a0 := sName s (RS.mk p bad (un || nmUn s p)); (s.length ≤ 1000000) ∧ (p ≤ s.length + 1) ∧ (1 ≤ 1000) ∧ cond (hereB s [42] p) ((1 ≤ 9223372036854775807) ∧ (W65 m).L K 9 (mkS 115 [(0, (.ptr 0 0)), (1, (.bool pseudo)), (5, (.ptr 1 0)), (6, .nilsl), (7, (.nat 1))] [(1, .blk 33 [(.nat 21), (.nat 0), (.str []), (.str []), (.nat 0), (.nat 0), (.nat 0), (.nat 0)]), (0, .blk 46 [(.str s), (.nat (p + 1)), (.bool bad), (.bool un), (.bool ps)])] 2)) ((s.length ≤ 1000000) ∧ (p ≤ s.length + 1) ∧ cond (nmFollow s p) ((s.length ≤ 1000000) ∧ (p ≤ s.length + 1) ∧ ((a0.1).length ≤ 1000000000) ∧ (([] : List (List SelD)).length ≤ 1000000000) ∧ (([] : List (List SelD)).flatten.length ≤ 1000000000000) ∧ (0 + 1 ≤ 1099511627776) ∧ (1 ≤ 9223372036854775807) ∧ (W65 m).L K 9 (mkS 115 [(0, (.ptr 0 0)), (1, (.bool pseudo)), (5, (.ptr 1 0)), (6, (.own 4)), (7, (.nat 1))] [(4, .row (.selss ([] ++ [selMade (SelD.mk (2 : Int) (0 : Int) (low (a0.1)) [] (0 : Int) (0 : Int) (0 : Int) (0 : Int)) ([] : List (List SelD)).flatten])) true), (1, .blk 33 [(.nat 21), (.nat 0), (.str []), (.str []), (.nat 0), (.nat 0), (.nat 0), (.nat 0)]), (0, .blk 46 [(.str s), (.nat (a0.2.p)), (.bool (a0.2.bad)), (.bool (a0.2.un)), (.bool ps)])] 5)) ((W65 m).L K 9 (mkS 115 [(0, (.ptr 0 0)), (1, (.bool pseudo)), (5, (.ptr 1 0)), (6, .nilsl), (7, (.nat 0))] [(1, .blk 33 [(.nat 21), (.nat 0), (.str []), (.str []), (.nat 0), (.nat 0), (.nat 0), (.nat 0)]), (0, .blk 46 [(.str s), (.nat p), (.bool bad), (.bool (un || nmUn s p)), (.bool ps)])] 2)))) (by kernel_rfl) ?_
   refine koz2 (koz2 (koz2 ?_))
   refine cndI ?_ ?_ <;> intro h1 <;> simp -failIfUnchanged [-List.getD_eq_getElem?_getD] at h1
   · refine koz2 ?_
     have a := bat_lt (h42t h1) (by decide)
     exact Wk.L.le (SSle.adopt 6 (T := 79) (x := .selss []) (by kernel_rfl) (by kernel_rfl)) (Wk.L.ren [0, 1, 2] (by kernel_rfl) (by kernel_rfl) (by kernel_rfl) (L9 _ (RS.go ⟨p, bad, un⟩ (p + 1)) [] [] 1 rfl ⟨⟨Nat.le_succ p, by show p + 1 ≤ _; omega⟩, by simp, by simp, by simp, by unfold sCmp; rw [if_pos (h42t h1)]; rfl⟩))
   refine koz2 (koz2 ?_)
   refine cndI ?_ ?_ <;> intro h2 <;> simp -failIfUnchanged [-List.getD_eq_getElem?_getD] at h2
   · refine koz2 (koz2 ?_)
     refine koz2 ?_
     refine koz2 (koz2 ?_)
     refine koz2 ?_
     refine koz2 ?_
     have a := sName_up s ⟨p, bad, un || nmUn s p⟩ h02
     exact Wk.L.ren [0, 1, 4] (by kernel_rfl) (by kernel_rfl) (by kernel_rfl) (L9 _ (sName s ⟨p, bad, un || nmUn s p⟩).2 [] [selMade ⟨2, 0, low (sName s ⟨p, bad, un || nmUn s p⟩).1, [], 0, 0, 0, 0⟩ []] 1 rfl ⟨a, by simp, by omega, by simp [selMade, sizedD], by unfold sCmp; rw [if_neg (h42f h1), if_pos h2]; rfl⟩)
   exact Wk.L.le (SSle.adopt 6 (T := 79) (x := .selss []) (by kernel_rfl) (by kernel_rfl)) (Wk.L.ren [0, 1, 2] (by kernel_rfl) (by kernel_rfl) (by kernel_rfl) (L9 _ ⟨p, bad, un || nmUn s p⟩ [] [] 0 rfl ⟨⟨Nat.le_refl _, h02⟩, by simp, by omega, by simp, by unfold sCmp; rw [if_neg (h42f h1), if_neg (by rw [h2]; simp)]; rfl⟩))
 cases e
end
section
open Go Go.RowKit
set_option maxRecDepth 20000
structure LastOk (l : List SelD) (n : SelD) (a c : List SelD) : Prop where
 e : l = selMade n (a ++ c)
 k : n.kind = 22
 a1 : 1 ≤ a.length
 az : (a.getD 0 default).size = (a.length : Nat)
 c1 : 1 ≤ c.length
 cz : (c.getD 0 default).size = (c.length : Nat)
 ck : (c.getD 0 default).kind ≠ 22
 len : l.length ≤ 1000000000000
section
variable {l : List SelD} {n : SelD} {a c : List SelD}
theorem LastOk.ll (h : LastOk l n a c) : l.length = a.length + c.length + 1 := by rw [h.e]; simp [selMade, sizedD]
theorem LastOk.g0 (h : LastOk l n a c) : l.getD 0 default = { n with size := ((a.length + c.length : Nat) : Int) + 1 } := by rw [h.e]; simp [selMade, sizedD, List.getD_eq_getElem?_getD]
theorem LastOk.g1 (h : LastOk l n a c) : l.getD 1 default = a.getD 0 default := by
 have := h.a1
 rw [h.e]; simp [selMade, sizedD, List.getD_eq_getElem?_getD, List.getElem?_append_left this]
theorem LastOk.g2 (h : LastOk l n a c) : l.getD (1 + a.length) default = c.getD 0 default := by
 rw [h.e, Nat.add_comm]; simp [selMade, sizedD, List.getD_eq_getElem?_getD, List.getElem?_append_right]
theorem LastOk.kids (h : LastOk l n a c) : kidsD l 0 = [1, 1 + a.length] := by
 have a1 := h.a1
 have c1 := h.c1
 have ll := h.ll
 have z0 : (l.getD 0 default).size = ((a.length + c.length : Nat) : Int) + 1 := by rw [h.g0]
 unfold kidsD
 rw [z0, kidsGo, if_pos ⟨by omega, by omega⟩, h.g1, h.az, show 0 + 1 + (max 1 ((a.length : Nat) : Int)).toNat = 1 + a.length from by omega, kidsGo, if_pos ⟨by omega, by omega⟩, h.g2, h.cz,
  kidsGo, if_neg (by omega)]
theorem LastOk.pe (h : LastOk l n a c) : lastPe l (l.length + 1) 0 = if (c.getD 0 default).kind = 21 then (c.getD 0 default).val else [] := by
 have a1 := h.a1
 have c1 := h.c1
 have ll := h.ll
 obtain ⟨m, hm⟩ : ∃ m, l.length = m + 3 := ⟨l.length - 3, by omega⟩
 have z0 : (l.getD 0 default).size.toNat = l.length := by rw [h.g0, ll]; simp only; omega
 have k0 : (l.getD 0 default).kind = 22 := by rw [h.g0]; exact h.k
 have lk : lastPe.lastKid l (0 + l.length) 1 1 l.length = 1 + a.length := by
  conv => lhs; rw [hm]
  unfold lastPe.lastKid
  rw [if_pos (by omega), h.g1, h.az, show 1 + max 1 ((a.length : Nat) : Int).toNat = 1 + a.length from by omega]
  unfold lastPe.lastKid
  rw [if_pos (by omega), h.g2, h.cz]
  unfold lastPe.lastKid
  rw [if_neg (by omega)]
 unfold lastPe
 simp only
 rw [if_pos k0, z0, lk, hm]
 unfold lastPe
 simp only
 rw [h.g2, if_neg h.ck]
end
def c67 (svs : List SV) (b : Option SB) : QR := match svs, b with
 | [.sl (.sels l)], none => some ([∃ n a c, LastOk l n a c], .str (lastPe l (l.length + 1) 0))
 | _, _ => none
noncomputable def W67 : Wk := ⟨[(17, .fn c17)], bodyOf Tryz.f67, false, false, [.tmp 2], [9], [(2, 9)], []⟩
theorem has67 : Has 67 := Has.of (fn := Tryz.f67) (by kernel_rfl) (by kernel_rfl) (by kernel_rfl)
theorem kpz0 {p q : Prop} (k : q) (h : p := by first | omega | (obtain rfl := hi0 h1; first | omega | (rw [z0]; omega) | (rw [fk]; simp; done) | (intro k hk; rw [fk] at hk; simp only [List.mem_cons, List.not_mem_nil, or_false] at hk; rcases hk with rfl | rfl; rw [h01.g1, h01.az]; omega; rw [h01.g2, h01.cz]; omega))) : p ∧ q := ⟨h, k⟩
theorem sat67 : Sat 67 (pureS c67) := by
 have hD : CxOk W67.D := (CxOk.cons has17 sat17 CxOk.nil)
 refine W67.sat hD (fn := Tryz.f67) (by kernel_rfl) (by kernel_rfl) (by kernel_rfl) (Nat.le_of_ble_eq_true (by kernel_rfl)) fun svs b K hP => ?_
 obtain ⟨ps, v, e, hp, hk⟩ := pureS_inv hP
 unfold c67 at e
 split at e
 · rename_i l
   cases e
   obtain ⟨⟨n, a, c, h01⟩, _⟩ := hp
   have ll := h01.ll
   have a1 := h01.a1
   have c1 := h01.c1
   have fk := h01.kids
   have lm := h01.len
   have z0 : (l.getD 0 default).size = ((a.length + c.length : Nat) : Int) + 1 := by rw [h01.g0]
   have k0 : (l.getD 0 default).kind = 22 := by rw [h01.g0]; exact h01.k
   have k2 : (l.getD (1 + a.length) default).kind ≠ 22 := by rw [h01.g2]; exact h01.ck
   have L2 : ∀ (mm : Nat) (i : Nat), 1 - i = mm → (i = 0 ∨ i = 1 + a.length) → W67.L K 2 (mkS 31 [(0, (.sl (.sels l))), (3, (.nat i))] [] 1) := by
    intro mm
    induction mm using Nat.strongRecOn with
    | _ mm ih =>
     intro i hm hI
     have hi0 : (l.getD i default).kind = 22 → i = 0 := by
      intro e
      rcases hI with h | h
      · exact h
      subst h; exact absurd e k2
     have hi1 : (l.getD i default).kind ≠ 22 → i = 1 + a.length := by
      intro e
      rcases hI with h | h
      · subst h; exact absurd k0 e
      exact h
     refine W67.atL hD (X := have a0 := l.getD i default; (i < l.length) ∧ cond (decide (a0.kind = (22 : Int))) ((i < l.length ∧ l.length ≤ 1000000000000) ∧ (0 ≤ a0.size ∧ ((i : Nat) : Int) + a0.size ≤ l.length) ∧ (∀ k, k ∈ kidsD l i → (l.getD k default).size ≤ 1000000000000) ∧ (1 ≤ (kidsD l i).length ∧ (kidsD l i).length ≤ 9223372036854775807) ∧ ((kidsD l i).length - 1 < (kidsD l i).length) ∧ ((kidsD l i).length - 1 < (kidsD l i).length) ∧ (W67).L K 2 (mkS 31 [(0, (.sl (.sels l))), (3, (.nat ((kidsD l i).getD ((kidsD l i).length - 1) 0)))] [(1, .row (.ints (kidsD l i)) true)] 2)) ((i < l.length) ∧ cond (decide (a0.kind = (21 : Int))) ((i < l.length) ∧ K (.val (.str (a0.val))) none) (K (.val (.str [])) none))) (by kernel_rfl) ?_
     refine kpz0 ?_
     refine cndI ?_ ?_ <;> intro h1 <;> simp -failIfUnchanged [-List.getD_eq_getElem?_getD] at h1
     · refine kpz0 (kpz0 (kpz0 ?_))
       refine kpz0 ?_
       refine kpz0 ?_
       refine kpz0 ?_
       obtain rfl := hi0 h1
       rw [fk]
       exact Wk.L.ren [0] (by kernel_rfl) (by kernel_rfl) (by kernel_rfl) (ih _ (by omega) (1 + a.length) rfl (.inr rfl))
     refine kpz0 ?_
     refine cndI ?_ ?_ <;> intro h2 <;> simp -failIfUnchanged [-List.getD_eq_getElem?_getD] at h2
     · refine kpz0 ?_
       obtain rfl := hi1 h1
       rw [h01.pe, if_pos (by rw [← h01.g2]; exact h2), ← h01.g2] at hk
       exact hk
     obtain rfl := hi1 h1
     rw [h01.pe, if_neg (by rw [← h01.g2]; exact h2)] at hk
     exact hk
   refine W67.entry rfl (X := (W67).L K 2 (mkS 31 [(0, (.sl (.sels l))), (3, (.nat 0))] [] 1)) (by kernel_rfl) ?_
   exact L2 _ 0 rfl (.inl rfl)
 cases e
end
section
open Go Go.RowKit
set_option maxRecDepth 20000
theorem sName_prog {s : Bs} {t : RS} (h : nmFollow s t.p = true) : (sName s t).2.bad = true ∨ t.p < (sName s t).2.p := by
 unfold sName
 rw [if_pos h]
 generalize hw : t.unI (nmUn s t.p) = w
 have hp : w.p = t.p := by rw [← hw]; rfl
 rw [← hp] at h ⊢
 cases hb : w.bad with
 | true =>
  left
  unfold sRest
  rw [if_neg (by rw [hb]; simp)]
  exact hb
 | false =>
  right
  by_cases hc : nmChar (bat s w.p) = true
  · rw [sRest_ch (bat_pos (by intro e; rw [e] at hc; cases hc)) hb hc]
    have := sRest_ge s (w.go (w.p + 1)) ([] ++ [s.getD w.p 0])
    simp only [RS.go_p] at this
    omega
  have h45 : ¬ bat s w.p = 45 := by intro e; rw [e] at hc; exact hc rfl
  have hat : nmAt s w.p = w.p := by unfold nmAt; rw [if_neg (fun q => h45 q.2)]
  unfold nmFollow at h
  rw [hat] at h
  have hst : nmStart (bat s w.p) = false := by
   rw [← Bool.not_eq_true]; intro e; exact hc (by unfold nmChar; rw [e]; rfl)
  rw [hst] at h
  simp at h
  rw [sRest_es (by have := escF_lt h; omega) hb (by simpa using hc) h]
  have := sRest_ge s (sEsc s w).2 ([] ++ (sEsc s w).1)
  have := sEsc_p s w
  omega
section
variable {s : Bs} {c : Nat} {G : RS → List SelD × RS} {ps pseudo : Bool}
def Sz (l : List SelD) : Prop := 1 ≤ l.length ∧ (l.getD 0 default).size = (l.length : Nat)
theorem Sz.made (x : SelD) (l : List SelD) : Sz (selMade x l) := by
 unfold Sz selMade sizedD
 simp
theorem Sz.fail : Sz failL := by unfold Sz failL; simp
def CmpOk (l : List SelD) : Prop := Sz l ∧ (l.getD 0 default).kind ≠ 22
theorem CmpOk.fail : CmpOk failL := ⟨Sz.fail, by unfold failL; simp⟩
theorem sCmpGo_ok (t : RS) (l : List SelD) (pe : Bs) (many : Nat) : CmpOk (sCmpGo G s ps pseudo t l pe many).1 := by
 fun_induction sCmpGo G s ps pseudo t l pe many with
 | case1 => exact CmpOk.fail
 | case2 => exact CmpOk.fail
 | case3 t l pe many h1 v hv hps hpe hlt ih => exact ih
 | case4 => exact CmpOk.fail
 | case5 t l pe many h1 v hv hlt ih => exact ih
 | case6 => exact CmpOk.fail
 | case7 => exact CmpOk.fail
 | case8 => exact ⟨Sz.made _ _, by simp [selMade, sizedD]⟩
theorem sCmp_ok (t : RS) : CmpOk (sCmp G s ps pseudo t).1 := by
 unfold sCmp
 repeat' split
 all_goals exact sCmpGo_ok _ _ _ _
theorem sCmpGo_prog (h8 : 8 ≤ c) (hG : GB s c G) (t : RS) (l : List SelD) (pe : Bs) (many : Nat) (h : t.p ≤ s.length + 1) (p0 : Nat) (hp : p0 ≤ t.p) (hm : many = 0 ∨ p0 < t.p ∨ t.bad = true) :
 (sCmpGo G s ps pseudo t l pe many).2.bad = true ∨ p0 < (sCmpGo G s ps pseudo t l pe many).2.p := by
 fun_induction sCmpGo G s ps pseudo t l pe many with
 | case1 => exact .inl rfl
 | case2 => exact .inl rfl
 | case3 t l pe many h1 v hv hps hpe hlt ih =>
  have a : Up s t v.2 := (sSimple_b h8 hG t h1.2.1).1
  exact ih a.2 (by omega) (.inr (.inl (by omega)))
 | case4 => exact .inl rfl
 | case5 t l pe many h1 v hv hlt ih =>
  have a : Up s t v.2 := (sSimple_b h8 hG t h1.2.1).1
  exact ih (by simp only [RS.unI_p]; exact a.2) (by simp only [RS.unI_p]; omega) (.inr (.inl (by simp only [RS.unI_p]; omega)))
 | case6 => exact .inl rfl
 | case7 => exact .inl rfl
 | case8 t l pe many h1 t1 hm0 =>
  rcases hm with hm | hm | hm
  · exact absurd hm hm0
  · exact .inr hm
  exact .inl hm
theorem sCmp_prog (h8 : 8 ≤ c) (hG : GB s c G) (t : RS) (h : t.p ≤ s.length + 1) : (sCmp G s ps pseudo t).2.bad = true ∨ t.p < (sCmp G s ps pseudo t).2.p := by
 unfold sCmp
 split
 · rename_i e
   have := bat_lt e (by decide)
   exact sCmpGo_prog h8 hG (t.go (t.p + 1)) [] [] 1 (by simp only [RS.go_p]; omega) t.p (by simp only [RS.go_p]; omega) (.inr (.inl (by simp only [RS.go_p]; omega)))
 split
 · rename_i e
   have hn := sName_prog (s := s) (t := t.unI (nmUn s t.p)) e
   have hu := sName_up s (t.unI (nmUn s t.p)) h
   refine sCmpGo_prog h8 hG (sName s (t.unI (nmUn s t.p))).2 _ [] 1 hu.2 t.p hu.1 (.inr ?_)
   rcases hn with hn | hn
   · exact .inr hn
   exact .inl hn
 exact sCmpGo_prog h8 hG (t.unI (nmUn s t.p)) [] [] 0 h t.p (Nat.le_refl _) (.inl rfl)
def Lf (l : List SelD) : Prop := Sz l ∧ ((l.getD 0 default).kind = 22 → ∃ n a c, LastOk l n a c)
theorem CmpOk.lf {l : List SelD} (h : CmpOk l) : Lf l := ⟨h.1, fun e => absurd e h.2⟩
theorem Lf.comb {l r : List SelD} {op : Int} (h : Lf l) (k : CmpOk r) (hn : l.length + r.length + 1 ≤ 1000000000000) : Lf (selMade ⟨22, op, [], [], 0, 0, 0, 0⟩ (l ++ r)) :=
 ⟨Sz.made _ _, fun _ => ⟨⟨22, op, [], [], 0, 0, 0, 0⟩, l, r, rfl, rfl, h.1.1, h.1.2, k.1.1, k.1.2, k.2, by simp [selMade, sizedD]; omega⟩⟩
def cpxTo (s : Bs) (t : RS) : RS := if combOp (bat s (sSp s t).p) ≠ 0 then sSp s ((sSp s t).go ((sSp s t).p + 1)) else sSp s t
def cpxOp (s : Bs) (t : RS) : Int := if combOp (bat s (sSp s t).p) ≠ 0 then combOp (bat s (sSp s t).p) else 1
def cpxEnd (s : Bs) (t : RS) : Prop := combOp (bat s (sSp s t).p) = 0 ∧ (s.length ≤ (sSp s t).p ∨ bat s (sSp s t).p = 44 ∨ bat s (sSp s t).p = 41 ∨ (sSp s t).p ≤ t.p)
theorem sCpxGo_bad {t : RS} {left : List SelD} (hb : t.bad = true) : sCpxGo G s ps pseudo t left = (left, t) := by
 unfold sCpxGo; rw [if_pos hb]
theorem sCpxGo_end {t : RS} {left : List SelD} (hb : t.bad = false) (he : cpxEnd s t) : sCpxGo G s ps pseudo t left = (left, sSp s t) := by
 unfold cpxEnd at he
 unfold sCpxGo; rw [if_neg (by rw [hb]; simp)]; simp only; rw [if_pos he]
theorem sCpxGo_pe {t : RS} {left : List SelD} (hb : t.bad = false) (he : ¬ cpxEnd s t) (hp : endsPe left = true) : sCpxGo G s ps pseudo t left = (failL, ((cpxTo s t).unI true).no) := by
 unfold cpxEnd at he
 unfold sCpxGo; rw [if_neg (by rw [hb]; simp)]; simp only; rw [if_neg he, if_pos hp]; rfl
theorem cpxTo_up {t : RS} (h : t.p ≤ s.length + 1) : Up s t (cpxTo s t) := by
 have u := sSp_up s t h
 unfold cpxTo
 split
 · rename_i e
   have hl : (sSp s t).p < s.length := bat_pos (by intro e0; apply e; rw [e0]; rfl)
   have v : Up s t ((sSp s t).go ((sSp s t).p + 1)) := ⟨by have := u.1; simp only [RS.go_p]; omega, by simp only [RS.go_p]; omega⟩
   exact v.trans (sSp_up s _ v.2)
 exact u
theorem sCpxGo_step (h8 : 8 ≤ c) (hG : GB s c G) {t : RS} {left : List SelD} (h : t.p ≤ s.length + 1) (hb : t.bad = false) (he : ¬ cpxEnd s t) (hp : endsPe left = false) :
 sCpxGo G s ps pseudo t left = sCpxGo G s ps pseudo (sCmp G s ps pseudo (cpxTo s t)).2 (selMade ⟨22, cpxOp s t, [], [], 0, 0, 0, 0⟩ (left ++ (sCmp G s ps pseudo (cpxTo s t)).1)) ∧
 ((sCmp G s ps pseudo (cpxTo s t)).2.bad = true ∨ t.p < (sCmp G s ps pseudo (cpxTo s t)).2.p) := by
 have u := cpxTo_up (s := s) h
 have pr := sCmp_prog (ps := ps) (pseudo := pseudo) h8 hG (cpxTo s t) u.2
 have pr' : (sCmp G s ps pseudo (cpxTo s t)).2.bad = true ∨ t.p < (sCmp G s ps pseudo (cpxTo s t)).2.p := by
  rcases pr with pr | pr
  · exact .inl pr
  exact .inr (Nat.lt_of_le_of_lt u.1 pr)
 refine ⟨?_, pr'⟩
 unfold cpxEnd at he
 conv => lhs; unfold sCpxGo
 rw [if_neg (by rw [hb]; simp)]
 simp only
 rw [if_neg he, if_neg (by rw [hp]; simp)]
 show (if t.p < (sCmp G s ps pseudo (cpxTo s t)).2.p ∧ t.p < s.length then sCpxGo G s ps pseudo (sCmp G s ps pseudo (cpxTo s t)).2 (selMade ⟨22, cpxOp s t, [], [], 0, 0, 0, 0⟩ (left ++ (sCmp G s ps pseudo (cpxTo s t)).1))
  else (selMade ⟨22, cpxOp s t, [], [], 0, 0, 0, 0⟩ (left ++ (sCmp G s ps pseudo (cpxTo s t)).1), (sCmp G s ps pseudo (cpxTo s t)).2)) = _
 split
 · rfl
 rename_i hn
 have : (sCmp G s ps pseudo (cpxTo s t)).2.bad = true := by
  rcases pr' with pr | pr
  · exact pr
  refine absurd ⟨pr, ?_⟩ hn
  apply Decidable.byContradiction
  intro hl
  refine he ⟨?_, .inl ?_⟩
  · have := sSp_ge s t
    rw [bat_out (by omega)]; rfl
  have := sSp_ge s t
  omega
 rw [sCpxGo_bad this]
end
end
end Go.Proofs.YtengepcafdnalaaGreatDoor
