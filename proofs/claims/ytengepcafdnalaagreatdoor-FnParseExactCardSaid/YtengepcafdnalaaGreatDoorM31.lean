/-
  Parts of the proof that the law FnParseExact holds for every input (texts Km). Conditions: none.
-/
import Derived.Test.YtengepcafdnalaaGreatDoorM30
namespace Go.Proofs.YtengepcafdnalaaGreatDoor
section
open Go Go.RowKit
set_option maxRecDepth 20000
def c23 (m : Nat) (svs : List SV) (b : Option SB) : FR := match svs, b with
 | [.ptr 0 0, .bool many, .bool pseudo], some (.blk 46 [.str s, .nat p, .bool bad, .bool un, .bool ps]) => some ([s.length ≤ 100000, p ≤ s.length, s.length + 1 ≤ m + p, m ≤ 200000], .row (.sels (sGrp1 (sGrp s ps m) s ps many pseudo ⟨p, bad, un⟩).1),
  some (.blk 46 [.str s, .nat (sGrp1 (sGrp s ps m) s ps many pseudo ⟨p, bad, un⟩).2.p, .bool (sGrp1 (sGrp s ps m) s ps many pseudo ⟨p, bad, un⟩).2.bad, .bool (sGrp1 (sGrp s ps m) s ps many pseudo ⟨p, bad, un⟩).2.un, .bool ps]))
 | _, _ => none
theorem flat1 {l : List SelD} (h : l.length ≤ 100000000000) : [l].flatten.length ≤ 1000000000000 := by simp; omega
theorem has23 : Has 23 := Has.of (fn := Tryz.f23) (by kernel_rfl) (by kernel_rfl) (by kernel_rfl)
def c127i (m : Nat) (svs : List SV) (b : Option SB) : FR := match svs, b with
 | [.ptr 0 0, .int .i64 k, .int .i64 f], some (.blk 46 [.str s, .nat p, .bool bad, .bool un, .bool ps]) => some ([s.length ≤ 100000, p ≤ s.length, s.length + 1 ≤ m + p, m ≤ 200000, k ≤ 20], .row (.sels (sArg (sGrp s ps (m + 1)) s k f ⟨p, bad, un⟩).1), some (.blk 46 [.str s, .nat (sArg (sGrp s ps (m + 1)) s k f ⟨p, bad, un⟩).2.p, .bool (sArg (sGrp s ps (m + 1)) s k f ⟨p, bad, un⟩).2.bad, .bool (sArg (sGrp s ps (m + 1)) s k f ⟨p, bad, un⟩).2.un, .bool ps]))
 | _, _ => none
noncomputable def W127 (m : Nat) : Wk := ⟨[(23, .fn (c23 m)), (29, .fn c29), (43, .plain c43), (64, .fn c64), (66, .pure c66), (68, .fn c68), (96, .fn c96), (123, .fn c123), (140, .fn c140), (141, .fn c141)], bodyOf Tryz.f127, true, true, [.tmp 6], [22], [], []⟩
theorem has127 : Has 127 := Has.of (fn := Tryz.f127) (by kernel_rfl) (by kernel_rfl) (by kernel_rfl)
theorem kmz1 {c0 p0 p1 q : Prop} (k : q) (h : c0 → p0 ∧ p1 ∧ True := by intro g0; (try simp at g0); exact ⟨(by first | omega | (simp; done) | (have := sSp_len (s := s) (t := ⟨p, bad, un⟩) h02; have := sSp_ge s ⟨p, bad, un⟩; simp only at *; omega)   | (have u1 := sSp_up s ⟨p, bad, un⟩ (show p ≤ _ from by omega); have u2 := u1.trans (sCount_up s _ u1.2); have u3 := u2.trans (sSp_up s _ u2.2); first | exact u1.2 | exact u2.2 | exact u3.2 | (have := u1.2; have := u2.2; have := u3.2; omega) | (have := bat_lt (h41t h3) (by decide); omega))   | (refine flat1 (sGrp_small (m := m + 1) h01 (by omega) ?_); first | exact (sSp_up s ⟨p, bad, un⟩ (show p ≤ _ from by omega)).2)   | (have u1 := sSp_up s ⟨p, bad, un⟩ (show p ≤ _ from by omega); have u2 := (sGrp_b s ps (m + 1) ⟨(sSp s ⟨p, bad, un⟩).p, (sSp s ⟨p, bad, un⟩).bad, true⟩ u1.2).1; have u3 := (sGrp_b s ps (m + 1) (sSp s ⟨p, bad, un⟩) u1.2).1; first | exact u2.2 | exact u3.2 | (have := bat_lt (h41t h5) (by decide); omega))   | (have u1 := sSp_up s ⟨p, bad, un⟩ (show p ≤ _ from by omega); have u2 := sName_up s ⟨(sSp s ⟨p, bad, un⟩).p, (sSp s ⟨p, bad, un⟩).bad, true⟩ u1.2; have u3 := sName_up s (sSp s ⟨p, bad, un⟩) u1.2; have n2 := sName_n s ⟨(sSp s ⟨p, bad, un⟩).p, (sSp s ⟨p, bad, un⟩).bad, true⟩ u1.2; have n3 := sName_n s (sSp s ⟨p, bad, un⟩) u1.2; first | exact u2.2 | exact u3.2 | omega)   | (have u1 := sSp_up s ⟨p, bad, un⟩ (show p ≤ _ from by omega); exact sSp_le s _ (sName_up s ⟨(sSp s ⟨p, bad, un⟩).p, (sSp s ⟨p, bad, un⟩).bad, true⟩ u1.2).2)   | (have u1 := sSp_up s ⟨p, bad, un⟩ (show p ≤ _ from by omega); exact sSp_le s _ (sName_up s (sSp s ⟨p, bad, un⟩) u1.2).2)   | (have := bat_lt (h41t h6) (by decide); omega) | (have := bat_lt (h41t h5) (by decide); omega)   | (have u1 := sSp_up s ⟨p, bad, un⟩ (show p ≤ _ from by omega); have u3 := sValue_up s (sSp s ⟨p, bad, un⟩) u1.2; have n3 := sValue_n4 s (sSp s ⟨p, bad, un⟩) u1.2; first | exact u3.2 | exact sSp_le s _ u3.2 | omega)), (by first | omega | (simp; done) | (have := sSp_len (s := s) (t := ⟨p, bad, un⟩) h02; have := sSp_ge s ⟨p, bad, un⟩; simp only at *; omega)   | (have u1 := sSp_up s ⟨p, bad, un⟩ (show p ≤ _ from by omega); have u2 := u1.trans (sCount_up s _ u1.2); have u3 := u2.trans (sSp_up s _ u2.2); first | exact u1.2 | exact u2.2 | exact u3.2 | (have := u1.2; have := u2.2; have := u3.2; omega) | (have := bat_lt (h41t h3) (by decide); omega))   | (refine flat1 (sGrp_small (m := m + 1) h01 (by omega) ?_); first | exact (sSp_up s ⟨p, bad, un⟩ (show p ≤ _ from by omega)).2)   | (have u1 := sSp_up s ⟨p, bad, un⟩ (show p ≤ _ from by omega); have u2 := (sGrp_b s ps (m + 1) ⟨(sSp s ⟨p, bad, un⟩).p, (sSp s ⟨p, bad, un⟩).bad, true⟩ u1.2).1; have u3 := (sGrp_b s ps (m + 1) (sSp s ⟨p, bad, un⟩) u1.2).1; first | exact u2.2 | exact u3.2 | (have := bat_lt (h41t h5) (by decide); omega))   | (have u1 := sSp_up s ⟨p, bad, un⟩ (show p ≤ _ from by omega); have u2 := sName_up s ⟨(sSp s ⟨p, bad, un⟩).p, (sSp s ⟨p, bad, un⟩).bad, true⟩ u1.2; have u3 := sName_up s (sSp s ⟨p, bad, un⟩) u1.2; have n2 := sName_n s ⟨(sSp s ⟨p, bad, un⟩).p, (sSp s ⟨p, bad, un⟩).bad, true⟩ u1.2; have n3 := sName_n s (sSp s ⟨p, bad, un⟩) u1.2; first | exact u2.2 | exact u3.2 | omega)   | (have u1 := sSp_up s ⟨p, bad, un⟩ (show p ≤ _ from by omega); exact sSp_le s _ (sName_up s ⟨(sSp s ⟨p, bad, un⟩).p, (sSp s ⟨p, bad, un⟩).bad, true⟩ u1.2).2)   | (have u1 := sSp_up s ⟨p, bad, un⟩ (show p ≤ _ from by omega); exact sSp_le s _ (sName_up s (sSp s ⟨p, bad, un⟩) u1.2).2)   | (have := bat_lt (h41t h6) (by decide); omega) | (have := bat_lt (h41t h5) (by decide); omega)   | (have u1 := sSp_up s ⟨p, bad, un⟩ (show p ≤ _ from by omega); have u3 := sValue_up s (sSp s ⟨p, bad, un⟩) u1.2; have n3 := sValue_n4 s (sSp s ⟨p, bad, un⟩) u1.2; first | exact u3.2 | exact sSp_le s _ u3.2 | omega)), trivial⟩) : (c0 → p0 ∧ p1 ∧ True) ∧ q := ⟨h, k⟩
theorem kmz0 {p q : Prop} (k : q) (h : p := by first | omega | (simp; done) | (have := sSp_len (s := s) (t := ⟨p, bad, un⟩) h02; have := sSp_ge s ⟨p, bad, un⟩; simp only at *; omega)   | (have u1 := sSp_up s ⟨p, bad, un⟩ (show p ≤ _ from by omega); have u2 := u1.trans (sCount_up s _ u1.2); have u3 := u2.trans (sSp_up s _ u2.2); first | exact u1.2 | exact u2.2 | exact u3.2 | (have := u1.2; have := u2.2; have := u3.2; omega) | (have := bat_lt (h41t h3) (by decide); omega))   | (refine flat1 (sGrp_small (m := m + 1) h01 (by omega) ?_); first | exact (sSp_up s ⟨p, bad, un⟩ (show p ≤ _ from by omega)).2)   | (have u1 := sSp_up s ⟨p, bad, un⟩ (show p ≤ _ from by omega); have u2 := (sGrp_b s ps (m + 1) ⟨(sSp s ⟨p, bad, un⟩).p, (sSp s ⟨p, bad, un⟩).bad, true⟩ u1.2).1; have u3 := (sGrp_b s ps (m + 1) (sSp s ⟨p, bad, un⟩) u1.2).1; first | exact u2.2 | exact u3.2 | (have := bat_lt (h41t h5) (by decide); omega))   | (have u1 := sSp_up s ⟨p, bad, un⟩ (show p ≤ _ from by omega); have u2 := sName_up s ⟨(sSp s ⟨p, bad, un⟩).p, (sSp s ⟨p, bad, un⟩).bad, true⟩ u1.2; have u3 := sName_up s (sSp s ⟨p, bad, un⟩) u1.2; have n2 := sName_n s ⟨(sSp s ⟨p, bad, un⟩).p, (sSp s ⟨p, bad, un⟩).bad, true⟩ u1.2; have n3 := sName_n s (sSp s ⟨p, bad, un⟩) u1.2; first | exact u2.2 | exact u3.2 | omega)   | (have u1 := sSp_up s ⟨p, bad, un⟩ (show p ≤ _ from by omega); exact sSp_le s _ (sName_up s ⟨(sSp s ⟨p, bad, un⟩).p, (sSp s ⟨p, bad, un⟩).bad, true⟩ u1.2).2)   | (have u1 := sSp_up s ⟨p, bad, un⟩ (show p ≤ _ from by omega); exact sSp_le s _ (sName_up s (sSp s ⟨p, bad, un⟩) u1.2).2)   | (have := bat_lt (h41t h6) (by decide); omega) | (have := bat_lt (h41t h5) (by decide); omega)   | (have u1 := sSp_up s ⟨p, bad, un⟩ (show p ≤ _ from by omega); have u3 := sValue_up s (sSp s ⟨p, bad, un⟩) u1.2; have n3 := sValue_n4 s (sSp s ⟨p, bad, un⟩) u1.2; first | exact u3.2 | exact sSp_le s _ u3.2 | omega)) : p ∧ q := ⟨h, k⟩
theorem sat127i (m : Nat) (hG : Sat 23 (fnS (c23 m))) : Sat 127 (fnS (c127i m)) := by
 have hD : CxOk (W127 m).D := (CxOk.cons has23 hG (CxOk.cons has29 sat29 (CxOk.cons has43 sat43 (CxOk.cons has64 sat64 (CxOk.cons has66 sat66 (CxOk.cons has68 sat68 (CxOk.cons has96 sat96 (CxOk.cons has123 sat123 (CxOk.cons has140 sat140 (CxOk.cons has141 sat141 CxOk.nil))))))))))
 refine (W127 m).sat hD (fn := Tryz.f127) (by kernel_rfl) (by kernel_rfl) (by kernel_rfl) (Nat.le_of_ble_eq_true (by kernel_rfl)) fun svs b K hP => ?_
 obtain ⟨ps, o, b', e, hp, hk⟩ := fnS_inv hP
 unfold c127i at e
 split at e
 · rename_i k f s p bad un ps
   cases e
   obtain ⟨h01, h02, h03, h04, h05, _⟩ := hp
   refine (W127 m).entry rfl (X := have a0 := sSp s (RS.mk p bad un); have a2 := sSp s (RS.mk ((sName s a0).2.p) ((sName s a0).2.bad) ((sName s a0).2.un || hiB ((sName s a0).1))); have a3 := sSp s (RS.mk ((sValue s a0).2.p) ((sValue s a0).2.bad) ((sValue s a0).2.un || hiB ((sValue s a0).1))); have a4 := sGrp1 (sGrp s ps m) s ps true false (RS.mk (a0.p) (a0.bad) true); have a5 := sGrp1 (sGrp s ps m) s ps true false a0; have a6 := s.length ≤ 1000000; have a7 := sSp s ((sCount s a0).2); have a8 : Out := .row (.sels failL); have a9 := ([[]] : List (List SelD)).flatten.length ≤ 1000000000000; have a10 := ([[]] : List (List SelD)).length ≤ 1000000000; have a12 : Option SB := some (.blk 46 [(.str s), (.nat (a2.p)), (.bool true), (.bool (a2.un || (decide (bat s (a2.p) = 44)))), (.bool ps)]); have a13 := a0.p ≤ s.length + 1; have a14 : Option SB := some (.blk 46 [(.str s), (.nat (a4.2.p)), (.bool true), (.bool (a4.2.un)), (.bool ps)]); have a15 : Option SB := some (.blk 46 [(.str s), (.nat (a5.2.p)), (.bool true), (.bool (a5.2.un)), (.bool ps)]); have a16 : Option SB := some (.blk 46 [(.str s), (.nat (a7.p)), (.bool true), (.bool (a7.un)), (.bool ps)]); have a17 : Option SB := some (.blk 46 [(.str s), (.nat (a3.p)), (.bool true), (.bool (a3.un)), (.bool ps)]); have a18 := sName s (RS.mk (a0.p) (a0.bad) true); have a1 := sSp s (RS.mk (a18.2.p) (a18.2.bad) (a18.2.un || hiB (a18.1))); have a11 : Option SB := some (.blk 46 [(.str s), (.nat (a1.p)), (.bool true), (.bool (a1.un || (decide (bat s (a1.p) = 44)))), (.bool ps)]); have a19 := SelD.mk k (0 : Int) [] [] (0 : Int) (0 : Int) (0 : Int) (0 : Int); have a20 := p ≤ s.length + 1; cond (decide ((0 : Int) ≤ f)) (a6 ∧ a20 ∧ a6 ∧ a13 ∧ a6 ∧ ((sCount s a0).2.p ≤ s.length + 1) ∧ (a7.bad = false → a6 ∧ (a7.p ≤ s.length + 1) ∧ (1 ≤ 1000) ∧ cond (hereB s [41] (a7.p)) (a10 ∧ a9 ∧ K (.row (.sels (selMade (SelD.mk (6 : Int) (0 : Int) [] [] ((sCount s a0).1.1) ((sCount s a0).1.2) f (0 : Int)) ([[]] : List (List SelD)).flatten))) (some (.blk 46 [(.str s), (.nat (a7.p + 1)), (.bool (a7.bad)), (.bool (a7.un)), (.bool ps)]))) (K a8 a16)) ∧ (a7.bad = true → K a8 a16)) (cond (((decide (k = (18 : Int))) || (decide (k = (19 : Int)))) || (decide (k = (20 : Int)))) (a6 ∧ a20 ∧ a6 ∧ a13 ∧ cond (((decide (bat s (a0.p) = 62)) || (decide (bat s (a0.p) = 43))) || (decide (bat s (a0.p) = 126))) ((s.length ≤ 100000) ∧ (a0.p ≤ s.length) ∧ (s.length + 1 ≤ m + a0.p) ∧ (m ≤ 200000) ∧ (a4.2.bad = false → a6 ∧ (a4.2.p ≤ s.length + 1) ∧ (1 ≤ 1000) ∧ cond (hereB s [41] (a4.2.p)) ((([a4.1] : List (List SelD)).length ≤ 1000000000) ∧ (([a4.1] : List (List SelD)).flatten.length ≤ 1000000000000) ∧ K (.row (.sels (selMade a19 ([a4.1] : List (List SelD)).flatten))) (some (.blk 46 [(.str s), (.nat (a4.2.p + 1)), (.bool (a4.2.bad)), (.bool (a4.2.un)), (.bool ps)]))) (K a8 a14)) ∧ (a4.2.bad = true → K a8 a14)) ((s.length ≤ 100000) ∧ (a0.p ≤ s.length) ∧ (s.length + 1 ≤ m + a0.p) ∧ (m ≤ 200000) ∧ (a5.2.bad = false → a6 ∧ (a5.2.p ≤ s.length + 1) ∧ (1 ≤ 1000) ∧ cond (hereB s [41] (a5.2.p)) ((([a5.1] : List (List SelD)).length ≤ 1000000000) ∧ (([a5.1] : List (List SelD)).flatten.length ≤ 1000000000000) ∧ K (.row (.sels (selMade a19 ([a5.1] : List (List SelD)).flatten))) (some (.blk 46 [(.str s), (.nat (a5.2.p + 1)), (.bool (a5.2.bad)), (.bool (a5.2.un)), (.bool ps)]))) (K a8 a15)) ∧ (a5.2.bad = true → K a8 a15))) (cond (decide (k = (15 : Int))) (a6 ∧ a20 ∧ a6 ∧ a13 ∧ cond (((decide (bat s (a0.p) = 34)) || (decide (bat s (a0.p) = 39))) || (decide (bat s (a0.p) = 42))) (a6 ∧ a13 ∧ ((a18.1).length ≤ 1000000000) ∧ a6 ∧ (a18.2.p ≤ s.length + 1) ∧ (a1.un = false → a6 ∧ (a1.p ≤ s.length + 1) ∧ True) ∧ (a1.bad = false → a6 ∧ (a1.p ≤ s.length + 1) ∧ (1 ≤ 1000) ∧ cond (hereB s [41] (a1.p)) (a10 ∧ a9 ∧ K (.row (.sels (selMade (SelD.mk k (0 : Int) [] (low (a18.1)) (0 : Int) (0 : Int) (0 : Int) (0 : Int)) ([[]] : List (List SelD)).flatten))) (some (.blk 46 [(.str s), (.nat (a1.p + 1)), (.bool (a1.bad)), (.bool (a1.un || (decide (bat s (a1.p) = 44)))), (.bool ps)]))) (K a8 a11)) ∧ (a1.bad = true → K a8 a11)) (a6 ∧ a13 ∧ (((sName s a0).1).length ≤ 1000000000) ∧ a6 ∧ ((sName s a0).2.p ≤ s.length + 1) ∧ (a2.un = false → a6 ∧ (a2.p ≤ s.length + 1) ∧ True) ∧ (a2.bad = false → a6 ∧ (a2.p ≤ s.length + 1) ∧ (1 ≤ 1000) ∧ cond (hereB s [41] (a2.p)) (a10 ∧ a9 ∧ K (.row (.sels (selMade (SelD.mk k (0 : Int) [] (low ((sName s a0).1)) (0 : Int) (0 : Int) (0 : Int) (0 : Int)) ([[]] : List (List SelD)).flatten))) (some (.blk 46 [(.str s), (.nat (a2.p + 1)), (.bool (a2.bad)), (.bool (a2.un || (decide (bat s (a2.p) = 44)))), (.bool ps)]))) (K a8 a12)) ∧ (a2.bad = true → K a8 a12))) (a6 ∧ a20 ∧ a6 ∧ a13 ∧ (((sValue s a0).1).length ≤ 1000000000) ∧ a6 ∧ ((sValue s a0).2.p ≤ s.length + 1) ∧ (a3.bad = false → a6 ∧ (a3.p ≤ s.length + 1) ∧ (1 ≤ 1000) ∧ cond (hereB s [41] (a3.p)) (a10 ∧ a9 ∧ K (.row (.sels (selMade (SelD.mk k (0 : Int) [] (low ((sValue s a0).1)) (0 : Int) (0 : Int) (0 : Int) (0 : Int)) ([[]] : List (List SelD)).flatten))) (some (.blk 46 [(.str s), (.nat (a3.p + 1)), (.bool (a3.bad)), (.bool (a3.un)), (.bool ps)]))) (K a8 a17)) ∧ (a3.bad = true → K a8 a17))))) (by kernel_rfl) ?_
   refine cndI ?_ ?_ <;> intro h1 <;> simp -failIfUnchanged [-List.getD_eq_getElem?_getD] at h1
   · refine kmz0 (kmz0 ?_)
     refine kmz0 (kmz0 ?_)
     refine kmz0 (kmz0 ?_)
     refine ⟨fun h2 => ?_, fun h2 => ?_⟩
     · simp -failIfUnchanged [-List.getD_eq_getElem?_getD] at h2
       refine kmz0 (kmz0 (kmz0 ?_))
       refine cndI ?_ ?_ <;> intro h3 <;> simp -failIfUnchanged [-List.getD_eq_getElem?_getD] at h3
       · refine kmz0 (kmz0 ?_)
         refine krow hk ?_
         unfold sArg
         simp only
         rw [if_pos h1]
         split
         · rename_i hb; exact Bool.noConfusion (h2.symm.trans hb)
         refine Eq.trans (sEnd_y ?_) ?_
         · exact h41t h3
         first | rfl | (simp [RS.go, nodeK]; done) | simp [RS.go, RS.no, RS.unI, nodeK]
       refine krow hk ?_
       unfold sArg
       simp only
       rw [if_pos h1]
       split
       · rename_i hb; exact Bool.noConfusion (h2.symm.trans hb)
       refine Eq.trans (sEnd_n ?_) ?_
       · exact h41f h3
       first | rfl | (simp [RS.go, nodeK]; done) | simp [RS.go, RS.no, RS.unI, nodeK]
     simp -failIfUnchanged [-List.getD_eq_getElem?_getD] at h2
     refine krow hk ?_
     unfold sArg
     simp only
     rw [if_pos h1]
     split
     · first | rfl | (simp [RS.no, RS.unI]; done)
     rename_i hb; exact absurd h2 hb
   refine cndI (fun h2 => ?_) (fun h2 => ?_)
   · simp -failIfUnchanged [-List.getD_eq_getElem?_getD] at h2
     refine kmz0 (kmz0 ?_)
     refine kmz0 (kmz0 ?_)
     refine cndI ?_ ?_ <;> intro h3 <;> simp -failIfUnchanged [-List.getD_eq_getElem?_getD] at h3
     · refine kmz0 (kmz0 (kmz0 (kmz0 ?_)))
       refine ⟨fun h4 => ?_, fun h4 => ?_⟩
       · simp -failIfUnchanged [-List.getD_eq_getElem?_getD] at h4
         refine kmz0 (kmz0 (kmz0 ?_))
         refine cndI ?_ ?_ <;> intro h5 <;> simp -failIfUnchanged [-List.getD_eq_getElem?_getD] at h5
         · refine kmz0 (kmz0 ?_)
           have e0 : (sSp s ⟨p, bad, un⟩).unI (decide (bat s (sSp s ⟨p, bad, un⟩).p = 62) || decide (bat s (sSp s ⟨p, bad, un⟩).p = 43) || decide (bat s (sSp s ⟨p, bad, un⟩).p = 126)) = (RS.mk (sSp s ⟨p, bad, un⟩).p (sSp s ⟨p, bad, un⟩).bad true) := by
            rw [show (decide (bat s (sSp s ⟨p, bad, un⟩).p = 62) || decide (bat s (sSp s ⟨p, bad, un⟩).p = 43) || decide (bat s (sSp s ⟨p, bad, un⟩).p = 126)) = true from by simp; omega]
            simp [RS.unI]
           refine krow hk ?_
           unfold sArg
           simp only
           rw [if_neg (by omega), if_pos (by omega), show sGrp s ps (m + 1) = sGrp1 (sGrp s ps m) s ps true false from rfl, e0]
           split
           · rename_i hb; exact Bool.noConfusion (h4.symm.trans hb)
           refine Eq.trans (sEnd_y ?_) ?_
           · exact h41t h5
           first | rfl | (simp [RS.go, nodeK]; done) | simp [RS.go, RS.no, RS.unI, nodeK]
         have e0 : (sSp s ⟨p, bad, un⟩).unI (decide (bat s (sSp s ⟨p, bad, un⟩).p = 62) || decide (bat s (sSp s ⟨p, bad, un⟩).p = 43) || decide (bat s (sSp s ⟨p, bad, un⟩).p = 126)) = (RS.mk (sSp s ⟨p, bad, un⟩).p (sSp s ⟨p, bad, un⟩).bad true) := by
          rw [show (decide (bat s (sSp s ⟨p, bad, un⟩).p = 62) || decide (bat s (sSp s ⟨p, bad, un⟩).p = 43) || decide (bat s (sSp s ⟨p, bad, un⟩).p = 126)) = true from by simp; omega]
          simp [RS.unI]
         refine krow hk ?_
         unfold sArg
         simp only
         rw [if_neg (by omega), if_pos (by omega), show sGrp s ps (m + 1) = sGrp1 (sGrp s ps m) s ps true false from rfl, e0]
         split
         · rename_i hb; exact Bool.noConfusion (h4.symm.trans hb)
         refine Eq.trans (sEnd_n ?_) ?_
         · exact h41f h5
         first | rfl | (simp [RS.go, nodeK]; done) | simp [RS.go, RS.no, RS.unI, nodeK]
       simp -failIfUnchanged [-List.getD_eq_getElem?_getD] at h4
       have e0 : (sSp s ⟨p, bad, un⟩).unI (decide (bat s (sSp s ⟨p, bad, un⟩).p = 62) || decide (bat s (sSp s ⟨p, bad, un⟩).p = 43) || decide (bat s (sSp s ⟨p, bad, un⟩).p = 126)) = (RS.mk (sSp s ⟨p, bad, un⟩).p (sSp s ⟨p, bad, un⟩).bad true) := by
        rw [show (decide (bat s (sSp s ⟨p, bad, un⟩).p = 62) || decide (bat s (sSp s ⟨p, bad, un⟩).p = 43) || decide (bat s (sSp s ⟨p, bad, un⟩).p = 126)) = true from by simp; omega]
        simp [RS.unI]
       refine krow hk ?_
       unfold sArg
       simp only
       rw [if_neg (by omega), if_pos (by omega), show sGrp s ps (m + 1) = sGrp1 (sGrp s ps m) s ps true false from rfl, e0]
       split
       · first | rfl | (simp [RS.no, RS.unI]; done)
       rename_i hb; exact absurd h4 hb
     refine kmz0 (kmz0 (kmz0 (kmz0 ?_)))
     refine ⟨fun h4 => ?_, fun h4 => ?_⟩
     · simp -failIfUnchanged [-List.getD_eq_getElem?_getD] at h4
       refine kmz0 (kmz0 (kmz0 ?_))
       refine cndI ?_ ?_ <;> intro h5 <;> simp -failIfUnchanged [-List.getD_eq_getElem?_getD] at h5
       · refine kmz0 (kmz0 ?_)
         have e0 : (sSp s ⟨p, bad, un⟩).unI (decide (bat s (sSp s ⟨p, bad, un⟩).p = 62) || decide (bat s (sSp s ⟨p, bad, un⟩).p = 43) || decide (bat s (sSp s ⟨p, bad, un⟩).p = 126)) = (sSp s ⟨p, bad, un⟩) := by
          rw [show (decide (bat s (sSp s ⟨p, bad, un⟩).p = 62) || decide (bat s (sSp s ⟨p, bad, un⟩).p = 43) || decide (bat s (sSp s ⟨p, bad, un⟩).p = 126)) = false from by simp; omega]
          simp [RS.unI]
         refine krow hk ?_
         unfold sArg
         simp only
         rw [if_neg (by omega), if_pos (by omega), show sGrp s ps (m + 1) = sGrp1 (sGrp s ps m) s ps true false from rfl, e0]
         split
         · rename_i hb; exact Bool.noConfusion (h4.symm.trans hb)
         refine Eq.trans (sEnd_y ?_) ?_
         · exact h41t h5
         first | rfl | (simp [RS.go, nodeK]; done) | simp [RS.go, RS.no, RS.unI, nodeK]
       have e0 : (sSp s ⟨p, bad, un⟩).unI (decide (bat s (sSp s ⟨p, bad, un⟩).p = 62) || decide (bat s (sSp s ⟨p, bad, un⟩).p = 43) || decide (bat s (sSp s ⟨p, bad, un⟩).p = 126)) = (sSp s ⟨p, bad, un⟩) := by
        rw [show (decide (bat s (sSp s ⟨p, bad, un⟩).p = 62) || decide (bat s (sSp s ⟨p, bad, un⟩).p = 43) || decide (bat s (sSp s ⟨p, bad, un⟩).p = 126)) = false from by simp; omega]
        simp [RS.unI]
       refine krow hk ?_
       unfold sArg
       simp only
       rw [if_neg (by omega), if_pos (by omega), show sGrp s ps (m + 1) = sGrp1 (sGrp s ps m) s ps true false from rfl, e0]
       split
       · rename_i hb; exact Bool.noConfusion (h4.symm.trans hb)
       refine Eq.trans (sEnd_n ?_) ?_
       · exact h41f h5
       first | rfl | (simp [RS.go, nodeK]; done) | simp [RS.go, RS.no, RS.unI, nodeK]
     simp -failIfUnchanged [-List.getD_eq_getElem?_getD] at h4
     have e0 : (sSp s ⟨p, bad, un⟩).unI (decide (bat s (sSp s ⟨p, bad, un⟩).p = 62) || decide (bat s (sSp s ⟨p, bad, un⟩).p = 43) || decide (bat s (sSp s ⟨p, bad, un⟩).p = 126)) = (sSp s ⟨p, bad, un⟩) := by
      rw [show (decide (bat s (sSp s ⟨p, bad, un⟩).p = 62) || decide (bat s (sSp s ⟨p, bad, un⟩).p = 43) || decide (bat s (sSp s ⟨p, bad, un⟩).p = 126)) = false from by simp; omega]
      simp [RS.unI]
     refine krow hk ?_
     unfold sArg
     simp only
     rw [if_neg (by omega), if_pos (by omega), show sGrp s ps (m + 1) = sGrp1 (sGrp s ps m) s ps true false from rfl, e0]
     split
     · first | rfl | (simp [RS.no, RS.unI]; done)
     rename_i hb; exact absurd h4 hb
   simp -failIfUnchanged [-List.getD_eq_getElem?_getD] at h2
   refine cndI ?_ ?_ <;> intro h3 <;> simp -failIfUnchanged [-List.getD_eq_getElem?_getD] at h3
   · refine kmz0 (kmz0 ?_)
     refine kmz0 (kmz0 ?_)
     refine cndI ?_ ?_ <;> intro h4 <;> simp -failIfUnchanged [-List.getD_eq_getElem?_getD] at h4
     · refine kmz0 (kmz0 ?_)
       refine kmz0 ?_
       refine kmz0 (kmz0 ?_)
       refine kmz1 ?_
       refine ⟨fun h5 => ?_, fun h5 => ?_⟩
       · simp -failIfUnchanged [-List.getD_eq_getElem?_getD] at h5
         refine kmz0 (kmz0 (kmz0 ?_))
         refine cndI ?_ ?_ <;> intro h6 <;> simp -failIfUnchanged [-List.getD_eq_getElem?_getD] at h6
         · refine kmz0 (kmz0 ?_)
           have e0 : (sSp s ⟨p, bad, un⟩).unI (isQ (bat s (sSp s ⟨p, bad, un⟩).p) || decide (bat s (sSp s ⟨p, bad, un⟩).p = 42)) = (RS.mk (sSp s ⟨p, bad, un⟩).p (sSp s ⟨p, bad, un⟩).bad true) := by
            rw [show (isQ (bat s (sSp s ⟨p, bad, un⟩).p) || decide (bat s (sSp s ⟨p, bad, un⟩).p = 42)) = true from by simp [isQ]; omega]
            simp [RS.unI]
           refine krow hk ?_
           unfold sArg
           simp only
           rw [if_neg (by omega), if_neg (by omega), if_pos (by omega), e0]
           split
           · rename_i hb; exact Bool.noConfusion (h5.symm.trans hb)
           refine Eq.trans (sEnd_y ?_) ?_
           · exact h41t h6
           first | rfl | (rw [h3]; rfl) | (simp [RS.go, nodeK]; done) | simp [RS.go, RS.no, RS.unI, nodeK]
         have e0 : (sSp s ⟨p, bad, un⟩).unI (isQ (bat s (sSp s ⟨p, bad, un⟩).p) || decide (bat s (sSp s ⟨p, bad, un⟩).p = 42)) = (RS.mk (sSp s ⟨p, bad, un⟩).p (sSp s ⟨p, bad, un⟩).bad true) := by
          rw [show (isQ (bat s (sSp s ⟨p, bad, un⟩).p) || decide (bat s (sSp s ⟨p, bad, un⟩).p = 42)) = true from by simp [isQ]; omega]
          simp [RS.unI]
         refine krow hk ?_
         unfold sArg
         simp only
         rw [if_neg (by omega), if_neg (by omega), if_pos (by omega), e0]
         split
         · rename_i hb; exact Bool.noConfusion (h5.symm.trans hb)
         refine Eq.trans (sEnd_n ?_) ?_
         · exact h41f h6
         first | rfl | (simp [RS.go, nodeK]; done) | simp [RS.go, RS.no, RS.unI, nodeK]
       simp -failIfUnchanged [-List.getD_eq_getElem?_getD] at h5
       have e0 : (sSp s ⟨p, bad, un⟩).unI (isQ (bat s (sSp s ⟨p, bad, un⟩).p) || decide (bat s (sSp s ⟨p, bad, un⟩).p = 42)) = (RS.mk (sSp s ⟨p, bad, un⟩).p (sSp s ⟨p, bad, un⟩).bad true) := by
        rw [show (isQ (bat s (sSp s ⟨p, bad, un⟩).p) || decide (bat s (sSp s ⟨p, bad, un⟩).p = 42)) = true from by simp [isQ]; omega]
        simp [RS.unI]
       refine krow hk ?_
       unfold sArg
       simp only
       rw [if_neg (by omega), if_neg (by omega), if_pos (by omega), e0]
       split
       · first | rfl | (simp [RS.no, RS.unI]; done)
       rename_i hb; exact absurd h5 hb
     refine kmz0 (kmz0 ?_)
     refine kmz0 ?_
     refine kmz0 (kmz0 ?_)
     refine kmz1 ?_
     refine ⟨fun h5 => ?_, fun h5 => ?_⟩
     · simp -failIfUnchanged [-List.getD_eq_getElem?_getD] at h5
       refine kmz0 (kmz0 (kmz0 ?_))
       refine cndI ?_ ?_ <;> intro h6 <;> simp -failIfUnchanged [-List.getD_eq_getElem?_getD] at h6
       · refine kmz0 (kmz0 ?_)
         have e0 : (sSp s ⟨p, bad, un⟩).unI (isQ (bat s (sSp s ⟨p, bad, un⟩).p) || decide (bat s (sSp s ⟨p, bad, un⟩).p = 42)) = (sSp s ⟨p, bad, un⟩) := by
          rw [show (isQ (bat s (sSp s ⟨p, bad, un⟩).p) || decide (bat s (sSp s ⟨p, bad, un⟩).p = 42)) = false from by simp [isQ]; omega]
          simp [RS.unI]
         refine krow hk ?_
         unfold sArg
         simp only
         rw [if_neg (by omega), if_neg (by omega), if_pos (by omega), e0]
         split
         · rename_i hb; exact Bool.noConfusion (h5.symm.trans hb)
         refine Eq.trans (sEnd_y ?_) ?_
         · exact h41t h6
         first | rfl | (rw [h3]; rfl) | (simp [RS.go, nodeK]; done) | simp [RS.go, RS.no, RS.unI, nodeK]
       have e0 : (sSp s ⟨p, bad, un⟩).unI (isQ (bat s (sSp s ⟨p, bad, un⟩).p) || decide (bat s (sSp s ⟨p, bad, un⟩).p = 42)) = (sSp s ⟨p, bad, un⟩) := by
        rw [show (isQ (bat s (sSp s ⟨p, bad, un⟩).p) || decide (bat s (sSp s ⟨p, bad, un⟩).p = 42)) = false from by simp [isQ]; omega]
        simp [RS.unI]
       refine krow hk ?_
       unfold sArg
       simp only
       rw [if_neg (by omega), if_neg (by omega), if_pos (by omega), e0]
       split
       · rename_i hb; exact Bool.noConfusion (h5.symm.trans hb)
       refine Eq.trans (sEnd_n ?_) ?_
       · exact h41f h6
       first | rfl | (simp [RS.go, nodeK]; done) | simp [RS.go, RS.no, RS.unI, nodeK]
     simp -failIfUnchanged [-List.getD_eq_getElem?_getD] at h5
     have e0 : (sSp s ⟨p, bad, un⟩).unI (isQ (bat s (sSp s ⟨p, bad, un⟩).p) || decide (bat s (sSp s ⟨p, bad, un⟩).p = 42)) = (sSp s ⟨p, bad, un⟩) := by
      rw [show (isQ (bat s (sSp s ⟨p, bad, un⟩).p) || decide (bat s (sSp s ⟨p, bad, un⟩).p = 42)) = false from by simp [isQ]; omega]
      simp [RS.unI]
     refine krow hk ?_
     unfold sArg
     simp only
     rw [if_neg (by omega), if_neg (by omega), if_pos (by omega), e0]
     split
     · first | rfl | (simp [RS.no, RS.unI]; done)
     rename_i hb; exact absurd h5 hb
   refine kmz0 (kmz0 ?_)
   refine kmz0 (kmz0 ?_)
   refine kmz0 ?_
   refine kmz0 (kmz0 ?_)
   refine ⟨fun h4 => ?_, fun h4 => ?_⟩
   · simp -failIfUnchanged [-List.getD_eq_getElem?_getD] at h4
     refine kmz0 (kmz0 (kmz0 ?_))
     refine cndI ?_ ?_ <;> intro h5 <;> simp -failIfUnchanged [-List.getD_eq_getElem?_getD] at h5
     · refine kmz0 (kmz0 ?_)
       refine krow hk ?_
       unfold sArg
       simp only
       rw [if_neg (by omega), if_neg (by omega), if_neg (by omega)]
       split
       · rename_i hb; exact Bool.noConfusion (h4.symm.trans hb)
       refine Eq.trans (sEnd_y ?_) ?_
       · exact h41t h5
       first | rfl | (simp [RS.go, nodeK]; done) | simp [RS.go, RS.no, RS.unI, nodeK]
     refine krow hk ?_
     unfold sArg
     simp only
     rw [if_neg (by omega), if_neg (by omega), if_neg (by omega)]
     split
     · rename_i hb; exact Bool.noConfusion (h4.symm.trans hb)
     refine Eq.trans (sEnd_n ?_) ?_
     · exact h41f h5
     first | rfl | (simp [RS.go, nodeK]; done) | simp [RS.go, RS.no, RS.unI, nodeK]
   simp -failIfUnchanged [-List.getD_eq_getElem?_getD] at h4
   refine krow hk ?_
   unfold sArg
   simp only
   rw [if_neg (by omega), if_neg (by omega), if_neg (by omega)]
   split
   · first | rfl | (simp [RS.no, RS.unI]; done)
   rename_i hb; exact absurd h4 hb
 cases e
def c127 (m : Nat) (svs : List SV) (b : Option SB) : FR := match svs, b with
 | [.ptr 0 0, x, y], some (.blk 46 [.str s, .nat p, .bool bad, .bool un, .bool ps]) => match toI x, toI y with
  | some k, some f => some ([s.length ≤ 100000, p ≤ s.length, s.length + 1 ≤ m + p, m ≤ 200000, k ≤ 20], .row (.sels (sArg (sGrp s ps (m + 1)) s k f ⟨p, bad, un⟩).1), some (.blk 46 [.str s, .nat (sArg (sGrp s ps (m + 1)) s k f ⟨p, bad, un⟩).2.p, .bool (sArg (sGrp s ps (m + 1)) s k f ⟨p, bad, un⟩).2.bad, .bool (sArg (sGrp s ps (m + 1)) s k f ⟨p, bad, un⟩).2.un, .bool ps]))
  | _, _ => none
 | _, _ => none
theorem sat127 (m : Nat) (hG : Sat 23 (fnS (c23 m))) : Sat 127 (fnS (c127 m)) := by
 refine Sat.wk (sat127i m hG) fun svs b K h => ?_
 obtain ⟨ps, o, b', e, hp, hk⟩ := fnS_inv h
 unfold c127 at e
 split at e
 · rename_i x y s p bad un ps
   split at e
   · rename_i k f hx hy
     cases e
     exact ⟨[.ptr 0 0, .int .i64 k, .int .i64 f], ⟨fun ω v hr => hr, fun ω v => toI_rel hx, fun ω v => toI_rel hy, trivial⟩, hp.1, hp.2.1, hp.2.2.1, hp.2.2.2.1, hp.2.2.2.2.1, hk⟩
   cases e
 cases e
def c111 (svs : List SV) (b : Option SB) : FR := match svs, b with
 | [.ptr 0 0], some (.blk 46 [.str s, .nat p, .bool bad, .bool un, .bool ps]) => some ([s.length ≤ 1000000, p ≤ s.length + 1], .val (.str (sElem s ⟨p, bad, un⟩).1),
  some (.blk 46 [.str s, .nat (sElem s ⟨p, bad, un⟩).2.p, .bool (sElem s ⟨p, bad, un⟩).2.bad, .bool (sElem s ⟨p, bad, un⟩).2.un, .bool ps]))
 | _, _ => none
noncomputable def W111 : Wk := ⟨[(66, .pure c66), (77, .pure c77), (96, .fn c96)], bodyOf Tryz.f111, true, false, [.tmp 2], [9], [], []⟩
theorem has111 : Has 111 := Has.of (fn := Tryz.f111) (by kernel_rfl) (by kernel_rfl) (by kernel_rfl)
theorem kmz3 {c0 p0 p1 q : Prop} (k : q) (h : c0 → p0 ∧ p1 ∧ True := by intro g0; (try simp at g0); exact ⟨(by first | omega | (simp; done) | (have := u1.2; omega)), (by first | omega | (simp; done) | (have := u1.2; omega)), trivial⟩) : (c0 → p0 ∧ p1 ∧ True) ∧ q := ⟨h, k⟩
theorem kmz2 {p q : Prop} (k : q) (h : p := by first | omega | (simp; done) | (have := u1.2; omega)) : p ∧ q := ⟨h, k⟩
theorem sat111 : Sat 111 (fnS c111) := by
 have hD : CxOk W111.D := (CxOk.cons has66 sat66 (CxOk.cons has77 sat77 (CxOk.cons has96 sat96 CxOk.nil)))
 refine W111.sat hD (fn := Tryz.f111) (by kernel_rfl) (by kernel_rfl) (by kernel_rfl) (Nat.le_of_ble_eq_true (by kernel_rfl)) fun svs b K hP => ?_
 obtain ⟨ps, o, b', e, hp, hk⟩ := fnS_inv hP
 unfold c111 at e
 split at e
 · rename_i s p bad un ps
   cases e
   obtain ⟨h01, h02, _⟩ := hp
   have u1 := sName_up s ⟨p, bad, un⟩ h02
   have n1 := sName_n s ⟨p, bad, un⟩ h02
   refine W111.entry rfl (X := have a0 := sName s (RS.mk p bad un); have a1 : Option SB := some (.blk 46 [(.str s), (.nat (a0.2.p)), (.bool (a0.2.bad)), (.bool (a0.2.un || (decide (bat s (a0.2.p) = 40)))), (.bool ps)]); have a2 := a0.2.un = false → (s.length ≤ 1000000) ∧ (a0.2.p ≤ s.length + 1) ∧ True; have a3 : Out := .val (.str (low (a0.1))); (s.length ≤ 1000000) ∧ (p ≤ s.length + 1) ∧ ((a0.1).length ≤ 1000000000) ∧ cond (decide (low (a0.1) = [98, 101, 102, 111, 114, 101])) (a2 ∧ K a3 a1) (cond (decide (low (a0.1) = [97, 102, 116, 101, 114])) (a2 ∧ K a3 a1) (cond (decide (low (a0.1) = [102, 105, 114, 115, 116, 45, 108, 105, 110, 101])) (a2 ∧ K a3 a1) (cond (decide (low (a0.1) = [102, 105, 114, 115, 116, 45, 108, 101, 116, 116, 101, 114])) (a2 ∧ K a3 a1) ((true = false → (s.length ≤ 1000000) ∧ (a0.2.p ≤ s.length + 1) ∧ True) ∧ K a3 (some (.blk 46 [(.str s), (.nat (a0.2.p)), (.bool (a0.2.bad)), (.bool true), (.bool ps)]))))))) (by kernel_rfl) ?_
   refine kmz2 (kmz2 ?_)
   refine kmz2 ?_
   refine cndI ?_ ?_ <;> intro h1 <;> simp -failIfUnchanged [-List.getD_eq_getElem?_getD] at h1
   · refine kmz3 ?_
     refine kst hk ?_
     unfold sElem elderNames
     simp_all [RS.unI, Bool.or_assoc]
   refine cndI (fun h2 => ?_) (fun h2 => ?_)
   · simp -failIfUnchanged [-List.getD_eq_getElem?_getD] at h2
     refine kmz3 ?_
     refine kst hk ?_
     unfold sElem elderNames
     simp_all [RS.unI, Bool.or_assoc]
   simp -failIfUnchanged [-List.getD_eq_getElem?_getD] at h2
   refine cndI ?_ ?_ <;> intro h3 <;> simp -failIfUnchanged [-List.getD_eq_getElem?_getD] at h3
   · refine kmz3 ?_
     refine kst hk ?_
     unfold sElem elderNames
     simp_all [RS.unI, Bool.or_assoc]
   refine cndI (fun h4 => ?_) (fun h4 => ?_)
   · simp -failIfUnchanged [-List.getD_eq_getElem?_getD] at h4
     refine kmz3 ?_
     refine kst hk ?_
     unfold sElem elderNames
     simp_all [RS.unI, Bool.or_assoc]
   simp -failIfUnchanged [-List.getD_eq_getElem?_getD] at h4
   refine ⟨fun g0 => (by cases g0), ?_⟩
   refine kst hk ?_
   unfold sElem elderNames
   simp_all [RS.unI, Bool.or_assoc]
 cases e
end
end Go.Proofs.YtengepcafdnalaaGreatDoor
