/-
  Parts of the proof that the law FnParseExact holds for every input (texts Kr, Kt, Ku). Conditions: none.
-/
import Derived.Test.YtengepcafdnalaaGreatDoorM33
namespace Go.Proofs.YtengepcafdnalaaGreatDoor
section
open Go Go.RowKit
set_option maxRecDepth 20000
theorem flat2 {a b : List SelD} : [a, b].flatten.length = a.length + b.length := by simp
def cpxM (s : Bs) (t : RS) : Nat := if t.bad = true then 0 else s.length + 2 - t.p
structure Cpx3 (s : Bs) (ps pseudo : Bool) (m : Nat) (t0 t : RS) (left : List SelD) : Prop where
 up : Up s t0 t
 n5 : left.length ≤ (3 * (m + 1) + 11) * t.p + 5
 n2 : t.bad = false → left.length ≤ (3 * (m + 1) + 11) * t.p + 2
 lf : Lf left
 e : sCpx (sGrp s ps (m + 1)) s ps pseudo t0 = sCpxGo (sGrp s ps (m + 1)) s ps pseudo t left
def c42 (m : Nat) (svs : List SV) (b : Option SB) : FR := match svs, b with
 | [.ptr 0 0, .bool pseudo], some (.blk 46 [.str s, .nat p, .bool bad, .bool un, .bool ps]) => some ([s.length ≤ 100000, p ≤ s.length + 1, s.length ≤ m + p, m ≤ 200000], .row (.sels (sCpx (sGrp s ps (m + 1)) s ps pseudo ⟨p, bad, un⟩).1), some (.blk 46 [.str s, .nat (sCpx (sGrp s ps (m + 1)) s ps pseudo ⟨p, bad, un⟩).2.p, .bool (sCpx (sGrp s ps (m + 1)) s ps pseudo ⟨p, bad, un⟩).2.bad, .bool (sCpx (sGrp s ps (m + 1)) s ps pseudo ⟨p, bad, un⟩).2.un, .bool ps]))
 | _, _ => none
noncomputable def W42 (m : Nat) : Wk := ⟨[(29, .fn c29), (64, .fn c64), (65, .fn (c65 m)), (66, .pure c66), (67, .pure c67), (68, .fn c68)], bodyOf Tryz.f42, true, true, [.tmp 4], [22], [(3, 35), (21, 163)], [21]⟩
theorem has42 : Has 42 := Has.of (fn := Tryz.f42) (by kernel_rfl) (by kernel_rfl) (by kernel_rfl)
theorem krz3 {c0 p0 p1 p2 q : Prop} (k : q) (h : c0 → p0 ∧ p1 ∧ p2 ∧ True := by intro g0; (try simp at g0); exact ⟨(by first | omega | (simp; done) | exact k1.lf.2 g0 | exact k1.lf.2 g1 | (rw [flat2]; omega) | (simp; omega) | (have := bat_pos (s := s) (p := (sSp s t).p) (by omega); omega) | (have := bat_pos (s := s) (p := (sSp s t).p) (by omega); exact sSp_le s _ (by show _ + 1 ≤ _; omega)) | (simp [h1]; done) | exact (sSp_up s ⟨p, bad, un⟩ h02).2 | (have u0 := sSp_up s ⟨p, bad, un⟩ h02; have u9 := u0.1; have u8 := u0.2; simp only at u9; omega)), (by first | omega | (simp; done) | exact k1.lf.2 g0 | exact k1.lf.2 g1 | (rw [flat2]; omega) | (simp; omega) | (have := bat_pos (s := s) (p := (sSp s t).p) (by omega); omega) | (have := bat_pos (s := s) (p := (sSp s t).p) (by omega); exact sSp_le s _ (by show _ + 1 ≤ _; omega)) | (simp [h1]; done) | exact (sSp_up s ⟨p, bad, un⟩ h02).2 | (have u0 := sSp_up s ⟨p, bad, un⟩ h02; have u9 := u0.1; have u8 := u0.2; simp only at u9; omega)), (by first | omega | (simp; done) | exact k1.lf.2 g0 | exact k1.lf.2 g1 | (rw [flat2]; omega) | (simp; omega) | (have := bat_pos (s := s) (p := (sSp s t).p) (by omega); omega) | (have := bat_pos (s := s) (p := (sSp s t).p) (by omega); exact sSp_le s _ (by show _ + 1 ≤ _; omega)) | (simp [h1]; done) | exact (sSp_up s ⟨p, bad, un⟩ h02).2 | (have u0 := sSp_up s ⟨p, bad, un⟩ h02; have u9 := u0.1; have u8 := u0.2; simp only at u9; omega)), trivial⟩) : (c0 → p0 ∧ p1 ∧ p2 ∧ True) ∧ q := ⟨h, k⟩
theorem krz2 {c0 c1 p0 q : Prop} (k : q) (h : c0 → c1 → p0 ∧ True := by intro g0 g1; (try simp at g0); (try simp at g1); exact ⟨(by first | omega | (simp; done) | exact k1.lf.2 g0 | exact k1.lf.2 g1 | (rw [flat2]; omega) | (simp; omega) | (have := bat_pos (s := s) (p := (sSp s t).p) (by omega); omega) | (have := bat_pos (s := s) (p := (sSp s t).p) (by omega); exact sSp_le s _ (by show _ + 1 ≤ _; omega)) | (simp [h1]; done) | exact (sSp_up s ⟨p, bad, un⟩ h02).2 | (have u0 := sSp_up s ⟨p, bad, un⟩ h02; have u9 := u0.1; have u8 := u0.2; simp only at u9; omega)), trivial⟩) : (c0 → c1 → p0 ∧ True) ∧ q := ⟨h, k⟩
theorem krz1 {c0 p0 q : Prop} (k : q) (h : c0 → p0 ∧ True := by intro g0; (try simp at g0); exact ⟨(by first | omega | (simp; done) | exact k1.lf.2 g0 | exact k1.lf.2 g1 | (rw [flat2]; omega) | (simp; omega) | (have := bat_pos (s := s) (p := (sSp s t).p) (by omega); omega) | (have := bat_pos (s := s) (p := (sSp s t).p) (by omega); exact sSp_le s _ (by show _ + 1 ≤ _; omega)) | (simp [h1]; done) | exact (sSp_up s ⟨p, bad, un⟩ h02).2 | (have u0 := sSp_up s ⟨p, bad, un⟩ h02; have u9 := u0.1; have u8 := u0.2; simp only at u9; omega)), trivial⟩) : (c0 → p0 ∧ True) ∧ q := ⟨h, k⟩
theorem krz0 {p q : Prop} (k : q) (h : p := by first | omega | (simp; done) | exact k1.lf.2 g0 | exact k1.lf.2 g1 | (rw [flat2]; omega) | (simp; omega) | (have := bat_pos (s := s) (p := (sSp s t).p) (by omega); omega) | (have := bat_pos (s := s) (p := (sSp s t).p) (by omega); exact sSp_le s _ (by show _ + 1 ≤ _; omega)) | (simp [h1]; done) | exact (sSp_up s ⟨p, bad, un⟩ h02).2 | (have u0 := sSp_up s ⟨p, bad, un⟩ h02; have u9 := u0.1; have u8 := u0.2; simp only at u9; omega)) : p ∧ q := ⟨h, k⟩
theorem sat42 (m : Nat) (hG : Sat 23 (fnS (c23 m))) : Sat 42 (fnS (c42 m)) := by
 have hD : CxOk (W42 m).D := (CxOk.cons has29 sat29 (CxOk.cons has64 sat64 (CxOk.cons has65 (sat65 m hG) (CxOk.cons has66 sat66 (CxOk.cons has67 sat67 (CxOk.cons has68 sat68 CxOk.nil))))))
 refine (W42 m).sat hD (fn := Tryz.f42) (by kernel_rfl) (by kernel_rfl) (by kernel_rfl) (Nat.le_of_ble_eq_true (by kernel_rfl)) fun svs b K hP => ?_
 obtain ⟨ps, o, b', e, hp, hk⟩ := fnS_inv hP
 unfold c42 at e
 split at e
 · rename_i pseudo s p bad un ps
   cases e
   obtain ⟨h01, h02, h03, h04, _⟩ := hp
   have L21 : ∀ (mm : Nat) (op : Nat) (left : List SelD) (t : RS), 0 = mm → (Cpx3 s ps pseudo m ⟨p, bad, un⟩ t left ∧ t.bad = false ∧ (op : Int) = cpxOp s t ∧ ¬ cpxEnd s t ∧ ∀ t' left', cpxM s t' < cpxM s t → Cpx3 s ps pseudo m ⟨p, bad, un⟩ t' left' → (W42 m).L K 3 (mkS 103 [(0, (.ptr 0 0)), (1, (.bool pseudo)), (5, (.own 1))] [(1, .row (.sels left') true), (0, .blk 46 [(.str s), (.nat t'.p), (.bool t'.bad), (.bool t'.un), (.bool ps)])] 2)) → (W42 m).C K 21 (mkS 103 [(0, (.ptr 0 0)), (1, (.bool pseudo)), (5, (.sl (.sels left))), (7, (.nat op))] [(0, .blk 46 [(.str s), (.nat ((cpxTo s t).p)), (.bool ((cpxTo s t).bad)), (.bool ((cpxTo s t).un)), (.bool ps)])] 1) := by
    intro mm
    induction mm using Nat.strongRecOn with
    | _ mm ih =>
     intro op left t hm hI
     obtain ⟨k1, k2, k3, k4, ih3⟩ := hI
     have u := k1.up
     have u2 := u.trans (cpxTo_up u.2)
     have k6 : p ≤ (cpxTo s t).p := u2.1
     have k7 : (cpxTo s t).p ≤ s.length + 1 := u2.2
     have z1 := k1.lf.1.1
     have kn := k1.n2 k2
     have kc : (3 * (m + 1) + 11) * t.p ≤ 700011 * 100001 := Nat.mul_le_mul (by omega) (by have := u.2; omega)
     have kr := sCmp_b (c := 3 * (m + 1) + 8) (by omega) (sGrp_b s ps (m + 1)) ps pseudo (cpxTo s t) u2.2
     have kr2 : (3 * (m + 1) + 8) * (sCmp (sGrp s ps (m + 1)) s ps pseudo (cpxTo s t)).2.p ≤ 700011 * 100001 := Nat.mul_le_mul (by omega) (by have := kr.1.2; omega)
     have kr3 := kr.2
     refine (W42 m).atC hD (X := have a0 := sCmp (sGrp s ps (m + 1)) s ps pseudo (cpxTo s t); have a1 := (decide ((left.getD 0 default).kind = (21 : Int))) && (!(decide ((left.getD 0 default).val = []))); have a2 := decide ((left.getD 0 default).kind = (22 : Int)); (0 < left.length) ∧ ((decide ((left.getD 0 default).kind = (21 : Int))) = true → (0 < left.length) ∧ True) ∧ (a1 = false → (0 < left.length) ∧ True) ∧ (a1 = false → a2 = true → (∃ n a c, LastOk left n a c) ∧ True) ∧ cond (a1 || (a2 && (!(decide (lastPe left (left.length + 1) 0 = []))))) (K (.row (.sels failL)) (some (.blk 46 [(.str s), (.nat ((cpxTo s t).p)), (.bool true), (.bool true), (.bool ps)]))) ((s.length ≤ 100000) ∧ ((cpxTo s t).p ≤ s.length + 1) ∧ (s.length ≤ m + (cpxTo s t).p) ∧ (m ≤ 200000) ∧ (([left, a0.1] : List (List SelD)).length ≤ 1000000000) ∧ (([left, a0.1] : List (List SelD)).flatten.length ≤ 1000000000000) ∧ (W42 m).L K 3 (mkS 103 [(0, (.ptr 0 0)), (1, (.bool pseudo)), (5, (.own 3))] [(3, .row (.sels (selMade (SelD.mk (22 : Int) ((op : Nat) : Int) [] [] (0 : Int) (0 : Int) (0 : Int) (0 : Int)) ([left, a0.1] : List (List SelD)).flatten)) true), (0, .blk 46 [(.str s), (.nat (a0.2.p)), (.bool (a0.2.bad)), (.bool (a0.2.un)), (.bool ps)])] 4))) (by kernel_rfl) ?_
     refine krz0 ?_
     refine krz1 ?_
     refine krz1 ?_
     refine krz2 ?_
     refine cndI ?_ ?_ <;> intro h1 <;> simp -failIfUnchanged [-List.getD_eq_getElem?_getD] at h1
     · refine krow hk (k1.e.trans ((sCpxGo_pe k2 k4 ?_).trans ?_))
       · unfold endsPe
         simp [-List.getD_eq_getElem?_getD]
         exact h1
       simp [RS.unI, RS.no]
     refine krz0 (krz0 (krz0 (krz0 ?_)))
     refine krz0 (krz0 ?_)
     have hpe : endsPe left = false := by
      unfold endsPe
      simp [-List.getD_eq_getElem?_getD]
      exact h1
     have st := sCpxGo_step (c := (3 * (m + 1) + 8)) (ps := ps) (pseudo := pseudo) (by omega) (sGrp_b s ps (m + 1)) u.2 k2 k4 hpe
     have hC : ∀ x, (3 * (m + 1) + 11) * x = (3 * (m + 1) + 8) * x + 3 * x := fun x => by rw [← Nat.add_mul]
     have q1 := Nat.mul_le_mul_left (3 * (m + 1) + 8) (cpxTo_up (s := s) u.2).1
     have q2 := kr.2
     have q3 := ((cpxTo_up (s := s) u.2).trans kr.1).1
     have q4 := hC t.p
     have q5 := hC (sCmp (sGrp s ps (m + 1)) s ps pseudo (cpxTo s t)).2.p
     have q6 : (selMade ⟨22, cpxOp s t, [], [], 0, 0, 0, 0⟩ (left ++ (sCmp (sGrp s ps (m + 1)) s ps pseudo (cpxTo s t)).1)).length = left.length + (sCmp (sGrp s ps (m + 1)) s ps pseudo (cpxTo s t)).1.length + 1 := by simp [selMade, sizedD]
     rw [show ([left, (sCmp (sGrp s ps (m + 1)) s ps pseudo (cpxTo s t)).1] : List (List SelD)).flatten = left ++ (sCmp (sGrp s ps (m + 1)) s ps pseudo (cpxTo s t)).1 from by simp, k3]
     exact Wk.L.ren [0, 3] (by kernel_rfl) (by kernel_rfl) (by kernel_rfl) (ih3 (sCmp (sGrp s ps (m + 1)) s ps pseudo (cpxTo s t)).2 (selMade ⟨22, cpxOp s t, [], [], 0, 0, 0, 0⟩ (left ++ (sCmp (sGrp s ps (m + 1)) s ps pseudo (cpxTo s t)).1)) (by
      unfold cpxM
      rw [k2]
      rcases st.2 with q | q
      · rw [q]; simp; have := u.2; omega
      · split
        · simp; have := u.2; omega
        simp; have := u.2; omega) ⟨u2.trans kr.1, by rw [q6]; omega, fun q => by
      rcases st.2 with q' | q'
      · rw [q] at q'; cases q'
      rw [q6]; omega, Lf.comb k1.lf (sCmp_ok _) (by omega), k1.e.trans st.1⟩)
   have L3 : ∀ (mm : Nat) (t : RS) (left : List SelD), cpxM s t = mm → (Cpx3 s ps pseudo m ⟨p, bad, un⟩ t left) → (W42 m).L K 3 (mkS 103 [(0, (.ptr 0 0)), (1, (.bool pseudo)), (5, (.own 1))] [(1, .row (.sels left) true), (0, .blk 46 [(.str s), (.nat t.p), (.bool t.bad), (.bool t.un), (.bool ps)])] 2) := by
    intro mm
    induction mm using Nat.strongRecOn with
    | _ mm ih =>
     intro t left hm hI
     have u := hI.up
     have u1 := sSp_up s t u.2
     have k6 : p ≤ t.p := u.1
     have k7 : t.p ≤ s.length + 1 := u.2
     have k8 := u1.1
     have k9 := u1.2
     have z1 := hI.lf.1.1
     refine (W42 m).atL hD (X := have a0 := sSp s (RS.mk ((sSp s t).p + 1) ((sSp s t).bad) ((sSp s t).un)); have a2 := decide (s.length ≤ (sSp s t).p); have a1 := a2 || (decide (bat s ((sSp s t).p) = 44)); have a3 := s.length ≤ 1000000; have a4 : Option SB := some (.blk 46 [(.str s), (.nat ((sSp s t).p)), (.bool ((sSp s t).bad)), (.bool ((sSp s t).un)), (.bool ps)]); have a5 := (sSp s t).p + 1 ≤ 9223372036854775807; have a6 := (sSp s t).p + 1 ≤ s.length + 1; have a7 := (sSp s t).p ≤ s.length + 1; cond (!t.bad) (a3 ∧ (t.p ≤ s.length + 1) ∧ a3 ∧ a7 ∧ cond (decide (bat s ((sSp s t).p) = 62)) (a5 ∧ a3 ∧ a6 ∧ (W42 m).C K 21 (mkS 103 [(0, (.ptr 0 0)), (1, (.bool pseudo)), (5, (.own 1)), (7, (.nat 2))] [(1, .row (.sels left) true), (0, .blk 46 [(.str s), (.nat (a0.p)), (.bool (a0.bad)), (.bool (a0.un)), (.bool ps)])] 2)) (cond (decide (bat s ((sSp s t).p) = 43)) (a5 ∧ a3 ∧ a6 ∧ (W42 m).C K 21 (mkS 103 [(0, (.ptr 0 0)), (1, (.bool pseudo)), (5, (.own 1)), (7, (.nat 3))] [(1, .row (.sels left) true), (0, .blk 46 [(.str s), (.nat (a0.p)), (.bool (a0.bad)), (.bool (a0.un)), (.bool ps)])] 2)) (cond (decide (bat s ((sSp s t).p) = 126)) (a5 ∧ a3 ∧ a6 ∧ (W42 m).C K 21 (mkS 103 [(0, (.ptr 0 0)), (1, (.bool pseudo)), (5, (.own 1)), (7, (.nat 4))] [(1, .row (.sels left) true), (0, .blk 46 [(.str s), (.nat (a0.p)), (.bool (a0.bad)), (.bool (a0.un)), (.bool ps)])] 2)) ((a2 = false → ((a2 == false) = true) ∧ a3 ∧ a7 ∧ True) ∧ (a2 = false → ((a2 == false) = true) ∧ True) ∧ (a2 = false → (a2 == false) = true) ∧ (a1 = false → ((a1 == false) = true) ∧ a3 ∧ a7 ∧ True) ∧ (a1 = false → ((a1 == false) = true) ∧ True) ∧ (a1 = false → (a1 == false) = true) ∧ cond (a1 || (decide (bat s ((sSp s t).p) = 41))) (K (.row (.sels left)) a4) (cond (decide (t.p < (sSp s t).p)) ((W42 m).C K 21 (mkS 103 [(0, (.ptr 0 0)), (1, (.bool pseudo)), (5, (.own 1)), (7, (.nat 1))] [(1, .row (.sels left) true), (0, .blk 46 [(.str s), (.nat ((sSp s t).p)), (.bool ((sSp s t).bad)), (.bool ((sSp s t).un)), (.bool ps)])] 2)) (K (.row (.sels left)) a4)))))) (K (.row (.sels left)) (some (.blk 46 [(.str s), (.nat t.p), (.bool t.bad), (.bool t.un), (.bool ps)])))) (by kernel_rfl) ?_
     refine cndI ?_ ?_ <;> intro h1 <;> simp -failIfUnchanged [-List.getD_eq_getElem?_getD] at h1
     · refine krz0 (krz0 ?_)
       refine krz0 (krz0 ?_)
       refine cndI ?_ ?_ <;> intro h2 <;> simp -failIfUnchanged [-List.getD_eq_getElem?_getD] at h2
       · refine krz0 ?_
         refine krz0 (krz0 ?_)
         have hz : combOp (bat s (sSp s t).p) = 2 := by unfold combOp; rw [if_pos h2]
         have e2 : cpxTo s t = sSp s ((sSp s t).go ((sSp s t).p + 1)) := by unfold cpxTo; rw [hz]; rfl
         have ho : ((2 : Nat) : Int) = cpxOp s t := by unfold cpxOp; rw [hz]; rfl
         have hn : ¬ cpxEnd s t := by
          rintro ⟨q1, q2⟩
          rw [hz] at q1; cases q1
         have ih9 := L21 _ 2 left t rfl ⟨hI, h1, ho, hn, fun t' left' hlt h' => ih _ (by omega) t' left' rfl h'⟩
         rw [e2] at ih9
         exact Wk.C.le (SSle.pub 1 (b := .row (.sels left) true) (by kernel_rfl)) (Wk.C.ren [0] (by kernel_rfl) (by kernel_rfl) (by kernel_rfl) (ih9))
       refine cndI (fun h3 => ?_) (fun h3 => ?_)
       · simp -failIfUnchanged [-List.getD_eq_getElem?_getD] at h3
         refine krz0 ?_
         refine krz0 (krz0 ?_)
         have hz : combOp (bat s (sSp s t).p) = 3 := by unfold combOp; rw [if_neg h2, if_pos h3]
         have e2 : cpxTo s t = sSp s ((sSp s t).go ((sSp s t).p + 1)) := by unfold cpxTo; rw [hz]; rfl
         have ho : ((3 : Nat) : Int) = cpxOp s t := by unfold cpxOp; rw [hz]; rfl
         have hn : ¬ cpxEnd s t := by
          rintro ⟨q1, q2⟩
          rw [hz] at q1; cases q1
         have ih9 := L21 _ 3 left t rfl ⟨hI, h1, ho, hn, fun t' left' hlt h' => ih _ (by omega) t' left' rfl h'⟩
         rw [e2] at ih9
         exact Wk.C.le (SSle.pub 1 (b := .row (.sels left) true) (by kernel_rfl)) (Wk.C.ren [0] (by kernel_rfl) (by kernel_rfl) (by kernel_rfl) (ih9))
       simp -failIfUnchanged [-List.getD_eq_getElem?_getD] at h3
       refine cndI ?_ ?_ <;> intro h4 <;> simp -failIfUnchanged [-List.getD_eq_getElem?_getD] at h4
       · refine krz0 ?_
         refine krz0 (krz0 ?_)
         have hz : combOp (bat s (sSp s t).p) = 4 := by unfold combOp; rw [if_neg h2, if_neg h3, if_pos h4]
         have e2 : cpxTo s t = sSp s ((sSp s t).go ((sSp s t).p + 1)) := by unfold cpxTo; rw [hz]; rfl
         have ho : ((4 : Nat) : Int) = cpxOp s t := by unfold cpxOp; rw [hz]; rfl
         have hn : ¬ cpxEnd s t := by
          rintro ⟨q1, q2⟩
          rw [hz] at q1; cases q1
         have ih9 := L21 _ 4 left t rfl ⟨hI, h1, ho, hn, fun t' left' hlt h' => ih _ (by omega) t' left' rfl h'⟩
         rw [e2] at ih9
         exact Wk.C.le (SSle.pub 1 (b := .row (.sels left) true) (by kernel_rfl)) (Wk.C.ren [0] (by kernel_rfl) (by kernel_rfl) (by kernel_rfl) (ih9))
       refine krz3 ?_
       refine krz1 ?_
       refine krz0 ?_
       refine krz3 ?_
       refine krz1 ?_
       refine krz0 ?_
       refine cndI ?_ ?_ <;> intro h5 <;> simp -failIfUnchanged [-List.getD_eq_getElem?_getD] at h5
       · exact krow hk (hI.e.trans ((sCpxGo_end h1 ⟨by unfold combOp; rw [if_neg h2, if_neg h3, if_neg h4], by omega⟩).trans rfl))
       refine cndI (fun h6 => ?_) (fun h6 => ?_)
       · simp -failIfUnchanged [-List.getD_eq_getElem?_getD] at h6
         have hz : combOp (bat s (sSp s t).p) = 0 := by unfold combOp; rw [if_neg h2, if_neg h3, if_neg h4]
         have e2 : cpxTo s t = sSp s t := by unfold cpxTo; rw [hz]; rfl
         have ho : ((1 : Nat) : Int) = cpxOp s t := by unfold cpxOp; rw [hz]; rfl
         have hn : ¬ cpxEnd s t := by
          rintro ⟨q1, q2⟩
          omega
         have ih9 := L21 _ 1 left t rfl ⟨hI, h1, ho, hn, fun t' left' hlt h' => ih _ (by omega) t' left' rfl h'⟩
         rw [e2] at ih9
         exact Wk.C.le (SSle.pub 1 (b := .row (.sels left) true) (by kernel_rfl)) (Wk.C.ren [0] (by kernel_rfl) (by kernel_rfl) (by kernel_rfl) (ih9))
       simp -failIfUnchanged [-List.getD_eq_getElem?_getD] at h6
       exact krow hk (hI.e.trans ((sCpxGo_end h1 ⟨by unfold combOp; rw [if_neg h2, if_neg h3, if_neg h4], by omega⟩).trans rfl))
     exact krow hk (hI.e.trans ((sCpxGo_bad h1).trans rfl))
   refine (W42 m).entry rfl (X := have a0 := sCmp (sGrp s ps (m + 1)) s ps pseudo (sSp s (RS.mk p bad un)); (s.length ≤ 1000000) ∧ (p ≤ s.length + 1) ∧ (s.length ≤ 100000) ∧ ((sSp s (RS.mk p bad un)).p ≤ s.length + 1) ∧ (s.length ≤ m + (sSp s (RS.mk p bad un)).p) ∧ (m ≤ 200000) ∧ (W42 m).L K 3 (mkS 103 [(0, (.ptr 0 0)), (1, (.bool pseudo)), (5, (.own 1))] [(1, .row (.sels (a0.1)) true), (0, .blk 46 [(.str s), (.nat (a0.2.p)), (.bool (a0.2.bad)), (.bool (a0.2.un)), (.bool ps)])] 2)) (by kernel_rfl) ?_
   refine krz0 (krz0 ?_)
   refine krz0 (krz0 (krz0 (krz0 ?_)))
   have u1 := sSp_up s ⟨p, bad, un⟩ h02
   have a := sCmp_b (c := (3 * (m + 1) + 8)) (by omega) (sGrp_b s ps (m + 1)) ps pseudo (sSp s ⟨p, bad, un⟩) u1.2
   have hC : ∀ x, (3 * (m + 1) + 11) * x = (3 * (m + 1) + 8) * x + 3 * x := fun x => by rw [← Nat.add_mul]
   have q1 := hC (sCmp (sGrp s ps (m + 1)) s ps pseudo (sSp s ⟨p, bad, un⟩)).2.p
   have q2 := a.2
   exact L3 _ (sCmp (sGrp s ps (m + 1)) s ps pseudo (sSp s ⟨p, bad, un⟩)).2 (sCmp (sGrp s ps (m + 1)) s ps pseudo (sSp s ⟨p, bad, un⟩)).1 rfl ⟨u1.trans a.1, by omega, fun _ => by omega, (sCmp_ok _).lf, rfl⟩
 cases e
end
section
open Go Go.RowKit
set_option maxRecDepth 20000
theorem sGrpGo_st {G : RS → List SelD × RS} {s : Bs} {ps pseudo : Bool} {t : RS} {l : List SelD} (h : ¬ (t.bad = false ∧ t.p < s.length ∧ bat s t.p = 44)) : sGrpGo G s ps pseudo t l = (l, t) := by
 unfold sGrpGo; rw [if_neg h]
theorem sGrpGo_go {G : RS → List SelD × RS} {s : Bs} {ps pseudo : Bool} {t : RS} {l : List SelD} (h : t.bad = false ∧ t.p < s.length ∧ bat s t.p = 44) (hl : t.p < (sCpx G s ps pseudo (t.go (t.p + 1))).2.p) :
 sGrpGo G s ps pseudo t l = sGrpGo G s ps pseudo (sCpx G s ps pseudo (t.go (t.p + 1))).2 (l ++ (sCpx G s ps pseudo (t.go (t.p + 1))).1) := by
 conv => lhs; unfold sGrpGo
 rw [if_pos h]; simp only; rw [if_pos hl]
def c23s (m : Nat) (svs : List SV) (b : Option SB) : FR := match svs, b with
 | [.ptr 0 0, .bool many, .bool pseudo], some (.blk 46 [.str s, .nat p, .bool bad, .bool un, .bool ps]) => some ([s.length ≤ 100000, p ≤ s.length + 1, s.length ≤ m + p, m ≤ 200000], .row (.sels (sGrp1 (sGrp s ps (m + 1)) s ps many pseudo ⟨p, bad, un⟩).1), some (.blk 46 [.str s, .nat (sGrp1 (sGrp s ps (m + 1)) s ps many pseudo ⟨p, bad, un⟩).2.p, .bool (sGrp1 (sGrp s ps (m + 1)) s ps many pseudo ⟨p, bad, un⟩).2.bad, .bool (sGrp1 (sGrp s ps (m + 1)) s ps many pseudo ⟨p, bad, un⟩).2.un, .bool ps]))
 | _, _ => none
noncomputable def W23 (m : Nat) : Wk := ⟨[(29, .fn c29), (42, .fn (c42 m)), (43, .plain c43)], bodyOf Tryz.f23, true, true, [.tmp 6], [22], [(2, 135)], []⟩
theorem ktz0 {p q : Prop} (k : q) (h : p := by first | omega | (simp; done) | (simp; omega) | (have hl := bat_lt (h44t h2) (by decide); have := (kx (by omega)).2; have := ky (by omega); omega) | (have := (sCpx_b (c := 3 * (m + 1) + 8) (by omega) (sGrp_b s ps (m + 1)) ps pseudo ⟨p, bad, un⟩ h02).1.2; omega)) : p ∧ q := ⟨h, k⟩
theorem sat23s (m : Nat) (hG : Sat 23 (fnS (c23 m))) : Sat 23 (fnS (c23s m)) := by
 have hD : CxOk (W23 m).D := (CxOk.cons has29 sat29 (CxOk.cons has42 (sat42 m hG) (CxOk.cons has43 sat43 CxOk.nil)))
 refine (W23 m).sat hD (fn := Tryz.f23) (by kernel_rfl) (by kernel_rfl) (by kernel_rfl) (Nat.le_of_ble_eq_true (by kernel_rfl)) fun svs b K hP => ?_
 obtain ⟨ps, o, b', e, hp, hk⟩ := fnS_inv hP
 unfold c23s at e
 split at e
 · rename_i many pseudo s p bad un ps
   cases e
   obtain ⟨h01, h02, h03, h04, _⟩ := hp
   have L2 : ∀ (mm : Nat) (t : RS) (r : List SelD), s.length + 2 - t.p = mm → (Up s ⟨p, bad, un⟩ t ∧ r.length ≤ (3 * (m + 1) + 11) * t.p + 5 ∧ (if many = true then sGrpGo (sGrp s ps (m + 1)) s ps pseudo (sCpx (sGrp s ps (m + 1)) s ps pseudo ⟨p, bad, un⟩).2 (sCpx (sGrp s ps (m + 1)) s ps pseudo ⟨p, bad, un⟩).1 else (sCpx (sGrp s ps (m + 1)) s ps pseudo ⟨p, bad, un⟩)) = (if many = true then sGrpGo (sGrp s ps (m + 1)) s ps pseudo t r else (r, t))) → (W23 m).L K 2 (mkS 32 [(0, (.ptr 0 0)), (1, (.bool many)), (2, (.bool pseudo)), (7, (.own 1))] [(1, .row (.sels r) true), (0, .blk 46 [(.str s), (.nat t.p), (.bool t.bad), (.bool t.un), (.bool ps)])] 2) := by
    intro mm
    induction mm using Nat.strongRecOn with
    | _ mm ih =>
     intro t r hm hI
     obtain ⟨k1, k2, k3⟩ := hI
     have k6 : p ≤ t.p := k1.1
     have k7 : t.p ≤ s.length + 1 := k1.2
     have kc : (3 * (m + 1) + 11) * t.p ≤ 700011 * 100001 := Nat.mul_le_mul (by omega) (by omega)
     have kx : t.p + 1 ≤ s.length + 1 → Up s (t.go (t.p + 1)) (sCpx (sGrp s ps (m + 1)) s ps pseudo (RS.mk (t.p + 1) t.bad t.un)).2 ∧ (sCpx (sGrp s ps (m + 1)) s ps pseudo (RS.mk (t.p + 1) t.bad t.un)).1.length + (3 * (m + 1) + 11) * (t.p + 1) ≤ (3 * (m + 1) + 11) * (sCpx (sGrp s ps (m + 1)) s ps pseudo (RS.mk (t.p + 1) t.bad t.un)).2.p + 5 := fun h => sCpx_b (c := 3 * (m + 1) + 8) (by omega) (sGrp_b s ps (m + 1)) ps pseudo (t.go (t.p + 1)) h
     have ky : t.p + 1 ≤ s.length + 1 → (3 * (m + 1) + 11) * (sCpx (sGrp s ps (m + 1)) s ps pseudo (RS.mk (t.p + 1) t.bad t.un)).2.p ≤ 700011 * 100001 := fun h => Nat.mul_le_mul (by omega) (by have := (kx h).1.2; omega)
     refine (W23 m).atL hD (X := have a0 := sCpx (sGrp s ps (m + 1)) s ps pseudo (RS.mk (t.p + 1) t.bad t.un); have a1 : Out := .row (.sels (selMade (SelD.mk (23 : Int) (0 : Int) [] [] (0 : Int) (0 : Int) (0 : Int) (0 : Int)) ([r] : List (List SelD)).flatten)); have a2 : Option SB := some (.blk 46 [(.str s), (.nat t.p), (.bool t.bad), (.bool t.un), (.bool ps)]); have a3 := ([r] : List (List SelD)).flatten.length ≤ 1000000000000; have a4 := ([r] : List (List SelD)).length ≤ 1000000000; (((!t.bad) && many) = true → (s.length ≤ 1000000) ∧ (t.p ≤ s.length + 1) ∧ (1 ≤ 1000) ∧ cond (hereB s [44] t.p) ((s.length ≤ 100000) ∧ (t.p + 1 ≤ s.length + 1) ∧ (s.length ≤ m + t.p + 1) ∧ (m ≤ 200000) ∧ (r.length + (a0.1).length ≤ 1099511627776) ∧ (W23 m).L K 2 (mkS 32 [(0, (.ptr 0 0)), (1, (.bool many)), (2, (.bool pseudo)), (7, (.own 3))] [(3, .row (.sels (r ++ (a0.1))) true), (0, .blk 46 [(.str s), (.nat (a0.2.p)), (.bool (a0.2.bad)), (.bool (a0.2.un)), (.bool ps)])] 4)) (a4 ∧ a3 ∧ K a1 a2)) ∧ (((!t.bad) && many) = false → a4 ∧ a3 ∧ K a1 a2)) (by kernel_rfl) ?_
     refine ⟨fun h1 => ?_, fun h1 => ?_⟩
     · simp -failIfUnchanged [-List.getD_eq_getElem?_getD] at h1
       refine ktz0 (ktz0 (ktz0 ?_))
       refine cndI ?_ ?_ <;> intro h2 <;> simp -failIfUnchanged [-List.getD_eq_getElem?_getD] at h2
       · refine ktz0 (ktz0 (ktz0 (ktz0 ?_)))
         refine ktz0 ?_
         have hl := bat_lt (h44t h2) (by decide)
         obtain ⟨a1, a2⟩ := kx (by omega)
         have a3 := a1.1
         simp only [RS.go_p] at a3
         rw [show (3 * (m + 1) + 11) * (t.p + 1) = (3 * (m + 1) + 11) * t.p + (3 * (m + 1) + 11) from Nat.mul_succ _ _] at a2
         exact Wk.L.ren [0, 3] (by kernel_rfl) (by kernel_rfl) (by kernel_rfl) (ih _ (by omega) (sCpx (sGrp s ps (m + 1)) s ps pseudo (RS.mk (t.p + 1) t.bad t.un)).2 (r ++ (sCpx (sGrp s ps (m + 1)) s ps pseudo (RS.mk (t.p + 1) t.bad t.un)).1) rfl ⟨⟨by show p ≤ (sCpx (sGrp s ps (m + 1)) s ps pseudo (RS.mk (t.p + 1) t.bad t.un)).2.p; omega, a1.2⟩, by rw [List.length_append]; omega, by
          refine k3.trans ?_
          rw [h1.2, if_pos rfl, if_pos rfl]
          exact sGrpGo_go ⟨h1.1, hl, h44t h2⟩ (show t.p < (sCpx (sGrp s ps (m + 1)) s ps pseudo (RS.mk (t.p + 1) t.bad t.un)).2.p from by omega)⟩)
       refine ktz0 (ktz0 ?_)
       refine krow hk ?_
       unfold sGrp1
       simp only
       have e : (if many = true then sGrpGo (sGrp s ps (m + 1)) s ps pseudo (sCpx (sGrp s ps (m + 1)) s ps pseudo ⟨p, bad, un⟩).2 (sCpx (sGrp s ps (m + 1)) s ps pseudo ⟨p, bad, un⟩).1 else (sCpx (sGrp s ps (m + 1)) s ps pseudo ⟨p, bad, un⟩)) = (r, t) := by
        refine k3.trans ?_
        cases hm : many with
        | true => rw [if_pos rfl, sGrpGo_st (fun h => h44f h2 h.2.2)]
        | false => rfl
       rw [e]
       simp [grpNode]
     simp -failIfUnchanged [-List.getD_eq_getElem?_getD] at h1
     refine ktz0 (ktz0 ?_)
     refine krow hk ?_
     unfold sGrp1
     simp only
     have e : (if many = true then sGrpGo (sGrp s ps (m + 1)) s ps pseudo (sCpx (sGrp s ps (m + 1)) s ps pseudo ⟨p, bad, un⟩).2 (sCpx (sGrp s ps (m + 1)) s ps pseudo ⟨p, bad, un⟩).1 else (sCpx (sGrp s ps (m + 1)) s ps pseudo ⟨p, bad, un⟩)) = (r, t) := by
      refine k3.trans ?_
      cases hm : many with
      | true => rw [if_pos rfl, sGrpGo_st (fun h => by have q := h1 h.1; rw [hm] at q; cases q)]
      | false => rfl
     rw [e]
     simp [grpNode]
   refine (W23 m).entry rfl (X := have a0 := sCpx (sGrp s ps (m + 1)) s ps pseudo (RS.mk p bad un); (s.length ≤ 100000) ∧ (p ≤ s.length + 1) ∧ (s.length ≤ m + p) ∧ (m ≤ 200000) ∧ (W23 m).L K 2 (mkS 32 [(0, (.ptr 0 0)), (1, (.bool many)), (2, (.bool pseudo)), (7, (.own 1))] [(1, .row (.sels (a0.1)) true), (0, .blk 46 [(.str s), (.nat (a0.2.p)), (.bool (a0.2.bad)), (.bool (a0.2.un)), (.bool ps)])] 2)) (by kernel_rfl) ?_
   refine ktz0 (ktz0 (ktz0 (ktz0 ?_)))
   have a := sCpx_b (c := 3 * (m + 1) + 8) (by omega) (sGrp_b s ps (m + 1)) ps pseudo ⟨p, bad, un⟩ h02
   have a2 : (sCpx (sGrp s ps (m + 1)) s ps pseudo ⟨p, bad, un⟩).1.length + (3 * (m + 1) + 11) * p ≤ (3 * (m + 1) + 11) * (sCpx (sGrp s ps (m + 1)) s ps pseudo ⟨p, bad, un⟩).2.p + 5 := a.2
   exact L2 _ (sCpx (sGrp s ps (m + 1)) s ps pseudo ⟨p, bad, un⟩).2 (sCpx (sGrp s ps (m + 1)) s ps pseudo ⟨p, bad, un⟩).1 rfl ⟨a.1, by omega, by cases many <;> rfl⟩
 cases e
theorem sat23 : ∀ m, Sat 23 (fnS (c23 m))
 | 0 => by
  intro g0 w M ω svs args b K _ _ _ hP
  exfalso
  obtain ⟨ps, o, b', e, hp, hk⟩ := fnS_inv hP
  unfold c23 at e
  split at e
  · cases e
    have h1 := hp.2.1
    have h2 := hp.2.2.1
    omega
  cases e
 | m + 1 => by
  refine Sat.wk (sat23s m (sat23 m)) fun svs b K h => ?_
  obtain ⟨ps, o, b', e, hp, hk⟩ := fnS_inv h
  unfold c23 at e
  split at e
  · cases e
    rename_i many pseudo s p bad un ps
    have h1 := hp.1
    have h2 := hp.2.1
    have h3 := hp.2.2.1
    have h4 := hp.2.2.2.1
    exact ⟨[.ptr 0 0, .bool many, .bool pseudo], ⟨fun _ _ h => h, fun _ _ h => h, fun _ _ h => h, trivial⟩, h1, by omega, by omega, by omega, hk⟩
  cases e
end
section
open Go Go.RowKit
set_option maxRecDepth 20000
theorem sCpxGo_sz {G : RS → List SelD × RS} {s : Bs} {ps pseudo : Bool} (t : RS) (left : List SelD) (h : Sz left) : Sz (sCpxGo G s ps pseudo t left).1 := by
 fun_induction sCpxGo G s ps pseudo t left with
 | case1 => exact h
 | case2 => exact h
 | case3 => exact Sz.fail
 | case4 t left hb t1 cc op t2 h1 he r hlt ih => exact ih (Sz.made _ _)
 | case5 => exact Sz.made _ _
theorem sCpx_sz {G : RS → List SelD × RS} {s : Bs} {ps pseudo : Bool} (t : RS) : Sz (sCpx G s ps pseudo t).1 := sCpxGo_sz _ _ (sCmp_ok _).1
theorem kpar {K : Out → Option SB → Prop} {r : List SelD × Bool × Bool} {l : List SelD} {a u : Bool} (hk : K (.val (.tup [.sl (.sels r.1), .bool r.2.1, .bool r.2.2])) none) (e : r = (l, a, u)) : K (.val (.tup [.sl (.sels l), .bool a, .bool u])) none := by
 rw [e] at hk; exact hk
theorem beneath_one {l : List SelD} (h : 0 ≤ (l.getD 1 default).size) : beneathD l 1 = (l.drop 1).take (l.getD 1 default).size.toNat := by
 unfold beneathD
 split
 · rename_i hl; rw [List.drop_eq_nil_iff.2 hl]; simp
 rw [List.drop_take]
 congr 1
 omega
theorem grp_len {s : Bs} {m : Nat} {many pseudo : Bool} (hs : s.length ≤ 100000) (hm : m ≤ 200000) : (sGrp1 (sGrp s pseudo m) s pseudo many pseudo ⟨0, false, false⟩).1.length ≤ 1000000000000 := by
 have a := sGrp1_b (c := 3 * m + 8) (by omega) (sGrp_b s pseudo m) pseudo many pseudo ⟨0, false, false⟩ (Nat.zero_le _)
 have d : (3 * m + 8 + 3) * (sGrp1 (sGrp s pseudo m) s pseudo many pseudo ⟨0, false, false⟩).2.p ≤ 700000 * 100001 := Nat.mul_le_mul (by omega) (by have := a.1.2; omega)
 have := a.2
 omega
theorem grp_one {G : RS → List SelD × RS} {s : Bs} {ps pseudo : Bool} {t : RS} : ((sGrp1 G s ps false pseudo t).1.getD 1 default).size = ((sCpx G s ps pseudo t).1.length : Nat) ∧ (sGrp1 G s ps false pseudo t).1.length = (sCpx G s ps pseudo t).1.length + 1 := by
 have h := sCpx_sz (G := G) (s := s) (ps := ps) (pseudo := pseudo) t
 refine ⟨?_, by simp [sGrp1, selMade, sizedD]⟩
 rw [← h.2]
 simp [sGrp1, selMade, sizedD, List.getD_eq_getElem?_getD]
theorem Sat.ex {f : FuncId} {P : Nat → Spec} (h : ∀ m, Sat f (P m)) : Sat f fun svs b K => ∃ m, P m svs b K := by
 intro g0 w M ω svs args b K hS hn hr ⟨m, hP⟩
 exact h m g0 w M ω svs args b K hS hn hr hP
def c10i (m : Nat) (svs : List SV) (b : Option SB) : QR := match svs, b with
 | [.str s, .bool many, .bool pseudo], none => some ([s.length ≤ 100000, m = s.length + 1], .tup [.sl (.sels (sParsed s many pseudo).1), .bool (sParsed s many pseudo).2.1, .bool (sParsed s many pseudo).2.2])
 | _, _ => none
noncomputable def W10 (m : Nat) : Wk := ⟨[(22, .pure c22), (23, .fn (c23 m)), (24, .pure c24)], bodyOf Tryz.f10, false, false, [.tmp 6, .tmp 7, .tmp 8], [22, 4, 4], [], []⟩
theorem has10 : Has 10 := Has.of (fn := Tryz.f10) (by kernel_rfl) (by kernel_rfl) (by kernel_rfl)
theorem kuz0 {p q : Prop} (k : q) (h : p := by first | omega | (simp; done) | (simp; omega) | (intro _; rw [h4, grp_one.1, grp_one.2]; omega)) : p ∧ q := ⟨h, k⟩
theorem sat10i (m : Nat) : Sat 10 (pureS (c10i m)) := by
 have hD : CxOk (W10 m).D := (CxOk.cons has22 sat22 (CxOk.cons has23 (sat23 m) (CxOk.cons has24 sat24 CxOk.nil)))
 refine (W10 m).sat hD (fn := Tryz.f10) (by kernel_rfl) (by kernel_rfl) (by kernel_rfl) (Nat.le_of_ble_eq_true (by kernel_rfl)) fun svs b K hP => ?_
 obtain ⟨ps, v, e, hp, hk⟩ := pureS_inv hP
 unfold c10i at e
 split at e
 · rename_i s many pseudo
   cases e
   obtain ⟨h01, h02, _⟩ := hp
   have gl := grp_len (s := s) (m := m) (many := many) (pseudo := pseudo) h01 (by omega)
   refine (W10 m).entry rfl (X := have a0 := sGrp1 (sGrp s pseudo m) s pseudo many pseudo (RS.mk 0 false false); have a1 : Out := .val (.tup [(.sl (.sels [])), (.bool false), (.bool (!a0.2.un))]); (s.length ≤ 1000000) ∧ cond (!(readGo s 0)) (K (.val (.tup [(.sl (.sels [])), (.bool false), (.bool false)])) none) ((s.length ≤ 100000) ∧ (0 ≤ s.length) ∧ (s.length + 1 ≤ m + 0) ∧ (m ≤ 200000) ∧ cond ((!a0.2.bad) && (decide (a0.2.p < s.length))) (K a1 none) (cond a0.2.bad (K a1 none) (cond (!many) ((1 ≤ 1000000000000 ∧ (a0.1).length ≤ 1000000000000) ∧ (1 < (a0.1).length → 0 ≤ ((a0.1).getD 1 default).size ∧ ((1 : Nat) : Int) + ((a0.1).getD 1 default).size ≤ (a0.1).length) ∧ K (.val (.tup [(.sl (.sels (beneathD (a0.1) 1))), (.bool true), (.bool (!a0.2.un))])) none) (K (.val (.tup [(.sl (.sels (a0.1))), (.bool true), (.bool (!a0.2.un))])) none))))) (by kernel_rfl) ?_
   refine kuz0 ?_
   refine cndI ?_ ?_ <;> intro h1 <;> simp -failIfUnchanged [-List.getD_eq_getElem?_getD] at h1
   · refine kpar hk ?_
     unfold sParsed
     rw [← h02]
     rw [if_neg (by rw [h1]; simp)]
   refine kuz0 (kuz0 (kuz0 (kuz0 ?_)))
   refine cndI ?_ ?_ <;> intro h2 <;> simp -failIfUnchanged [-List.getD_eq_getElem?_getD] at h2
   · refine kpar hk ?_
     unfold sParsed
     rw [← h02]
     rw [if_pos (by simpa using h1)]
     simp only
     rw [if_pos (.inr h2.2)]
   refine cndI (fun h3 => ?_) (fun h3 => ?_)
   · simp -failIfUnchanged [-List.getD_eq_getElem?_getD] at h3
     refine kpar hk ?_
     unfold sParsed
     rw [← h02]
     rw [if_pos (by simpa using h1)]
     simp only
     rw [if_pos (.inl h3)]
   simp -failIfUnchanged [-List.getD_eq_getElem?_getD] at h3
   refine cndI ?_ ?_ <;> intro h4 <;> simp -failIfUnchanged [-List.getD_eq_getElem?_getD] at h4
   · refine kuz0 (kuz0 ?_)
     refine kpar hk ?_
     unfold sParsed
     rw [← h02]
     rw [if_pos (by simpa using h1)]
     simp only
     have hn : ¬ ((sGrp1 (sGrp s pseudo m) s pseudo many pseudo ⟨0, false, false⟩).2.bad = true ∨ (sGrp1 (sGrp s pseudo m) s pseudo many pseudo ⟨0, false, false⟩).2.p < s.length) := by
      rintro (q | q)
      · rw [h3] at q; cases q
      have := h2 h3; omega
     rw [if_neg hn, if_neg (by rw [h4]; simp), beneath_one (by rw [h4, grp_one.1]; omega)]
   refine kpar hk ?_
   unfold sParsed
   rw [← h02]
   rw [if_pos (by simpa using h1)]
   simp only
   have hn : ¬ ((sGrp1 (sGrp s pseudo m) s pseudo many pseudo ⟨0, false, false⟩).2.bad = true ∨ (sGrp1 (sGrp s pseudo m) s pseudo many pseudo ⟨0, false, false⟩).2.p < s.length) := by
    rintro (q | q)
    · rw [h3] at q; cases q
    have := h2 h3; omega
   rw [if_neg hn, if_pos h4]
 cases e
theorem Sat.imp {f : FuncId} {P P' : Spec} (h : Sat f P) (hw : ∀ svs b K, P' svs b K → P svs b K) : Sat f P' :=
 fun g0 w M ω svs args b K hS hn hr hP => h g0 w M ω svs args b K hS hn hr (hw svs b K hP)
def c10 (svs : List SV) (b : Option SB) : QR := match svs, b with
 | [.str s, .bool many, .bool pseudo], none => some ([s.length ≤ 100000], .tup [.sl (.sels (sParsed s many pseudo).1), .bool (sParsed s many pseudo).2.1, .bool (sParsed s many pseudo).2.2])
 | _, _ => none
theorem sat10 : Sat 10 (pureS c10) := by
 refine Sat.imp (Sat.ex (P := fun m => pureS (c10i m)) sat10i) fun svs b K h => ?_
 obtain ⟨ps, v, e, hp, hk⟩ := pureS_inv h
 unfold c10 at e
 split at e
 · rename_i s many pseudo
   cases e
   exact ⟨s.length + 1, hp.1, rfl, hk⟩
 cases e
end
end Go.Proofs.YtengepcafdnalaaGreatDoor
