/-
  Parts of the proof that the law FnParseOtherwise holds for every input (texts Lk, Ll, Lm). Conditions: none.
-/
import Derived.Test.YtengepcafdnalaaGreatDoorM30
namespace Go.Proofs.YtengepcafdnalaaGreatDoor
section
open Go Go.RowKit
set_option maxRecDepth 20000
theorem Qoe (x : CSel) : VI x <= 19 := by cases x <;> simp [VI]
def mkN (p : Nat × Nat × Bs × Bs × Int × Int × Nat) : SelD := ⟨p.1, p.2.1, p.2.2.1, p.2.2.2.1, p.2.2.2.2.1, p.2.2.2.2.2.1, p.2.2.2.2.2.2, (0 : Nat)⟩
theorem QjC (x : CSel) : mkN (Qz (VI x) (QW x) (QV x) (Vj x) (V8 x) (V7 x) (V6 x) (V5 x) (Vi x) (Vk x)) = Q4 x := by
 cases x
 case attr k v o i =>
  have e : attrSigns = [[61], [33, 61], [126, 61], [124, 61], [94, 61], [36, 61], [42, 61]] := rfl
  cases i <;> simp [mkN, Qz, Q4, VI, QW, QV, Vj, V8, V7, V6, V5, Vi, Vk, b2i, QcP, e]
 case rel n ks =>
  have e : [UQ, UR, Vv] = [[110, 111, 116], [104, 97, 115], [104, 97, 115, 99, 104, 105, 108, 100]] := rfl
  simp [mkN, Qz, Q4, VI, QW, QV, Vj, V8, V7, V6, V5, Vi, Vk, QcP, e]
 case combined f c y => simp [mkN, Qz, Q4, VI, QW, QV, Vj, V8, V7, V6, V5, Vi, Vk, QcP]
 case nth a b l t => cases l <;> cases t <;> simp [mkN, Qz, Q4, VI, QW, QV, Vj, V8, V7, V6, V5, Vi, Vk, b2i, Qbl]
 case only t => cases t <;> simp [mkN, Qz, Q4, VI, QW, QV, Vj, V8, V7, V6, V5, Vi, Vk, b2i, Qbl]
 case contains v o => cases o <;> simp [mkN, Qz, Q4, VI, QW, QV, Vj, V8, V7, V6, V5, Vi, Vk, b2i]
 all_goals simp [mkN, Qz, Q4, VI, QW, QV, Vj, V8, V7, V6, V5, Vi, Vk]
theorem QeR {x : CSel} (h : VI x = 17) : Qu x = QB (Q4 x) (QB Vg (Qt (VY x))) := by
 cases x <;> simp [VI] at h
 simp [Qu, VY]
theorem QhA {x : CSel} (h : ¬ VI x = 17) : Qu x = QB (Q4 x) (Qt (VY x)) := by
 cases x <;> simp [VI] at h <;> simp [Qu, VY, Qt]
theorem QaF {l c : List SelD} {x : SelD} : Qbr (l ++ x :: c) l.length = l ++ QB x c := by
 unfold Qbr QB
 rw [List.set_append_right _ _ (Nat.le_refl _)]
 simp [List.getD_eq_getElem?_getD]
theorem Un {ks : List CSel} {j : Nat} (h : j < ks.length) : Qt (ks.take (j + 1)) = Qt (ks.take j) ++ Qu (ks.getD j default) := by
 have app : ∀ (a b : List CSel), Qt (a ++ b) = Qt a ++ Qt b := by
  intro a b
  induction a with
  | nil => simp [Qt]
  | cons x a ih => simp [Qt, ih]
 rw [List.take_add_one, app, List.getD_eq_getElem?_getD, List.getElem?_eq_getElem h]
 simp [Qt]
theorem QaM {ks : List CSel} : ∀ {j : Nat}, (Qt (ks.take j)).length <= (Qt ks).length := by
 intro j
 have app : ∀ (a b : List CSel), (Qt (a ++ b)).length = (Qt a).length + (Qt b).length := by
  intro a b
  induction a with
  | nil => simp [Qt]
  | cons x a ih => simp [Qt, ih]; omega
 have := app (ks.take j) (ks.drop j)
 rw [List.take_append_drop] at this
 omega
theorem Qb0 {ks : List CSel} {j : Nat} (h : j < ks.length) : (Qt (ks.take j)).length + (Qu (ks.getD j default)).length <= (Qt ks).length := by
 have h1 := QaM (ks := ks) (j := j + 1)
 rw [Un h, List.length_append] at h1
 exact h1
theorem Qqc {ks : List CSel} : ks.length <= (Qt ks).length := by
 have pos : ∀ x : CSel, 0 < (Qu x).length := by intro x; cases x <;> simp [Qu, QB]
 induction ks with
 | nil => simp
 | cons x ks ih => have := pos x; simp [Qt]; omega
theorem QdC (x : CSel) : 0 < (Qu x).length := by cases x <;> simp [Qu, QB]
def c27 (m : Nat) (svs : List SV) (b : Option SB) (K : Out -> Option SB -> Prop) : Prop := match svs, b with
 | [.cs x, .own 0], some (.row (.sels l) true) => l.length + (Qu x).length <= 1000000000 /\ (Qu x).length <= m /\ ∀ b' : Option SB, K (.row (.sels (l ++ Qu x))) b'
 | _, _ => False
theorem Qnk : Has 27 := hsf Tryz.f27
def c26 (m : Nat) (svs : List SV) (b : Option SB) (K : Out -> Option SB -> Prop) : Prop := match svs, b with
 | [.sl (.csels ks), .own 0], some (.row (.sels l) true) => l.length + (Qt ks).length + 1 <= 1000000000 /\ (Qt ks).length <= m /\ ∀ b' : Option SB, K (.row (.sels (l ++ QB Vg (Qt ks)))) b'
 | _, _ => False
noncomputable def W26 (m : Nat) : Wk := ⟨[(27, .own 22 (c27 m)), (48, .own 22 c48)], Qm Tryz.f26, true, true, [.tmp 4], [22], [(4, 114722)], []⟩
theorem Qqo : Has 26 := hsf Tryz.f26
theorem Uf {p q : Prop} (k : q) (h : p := by first | omega | (simp; done) | (simp; omega) | (simp; assumption)) : p /\ q := ⟨h, k⟩
theorem QpW (m : Nat) (hG : Sat 27 (c27 m)) : Sat 26 (c26 m) := by
 have hD : Qe (W26 m).D := (Qe.cons Qnk hG (Qe.cons Qqm QpT Qe.nil))
 refine (W26 m).sa hD Tryz.f26 fun svs b K hP => ?_
 unfold c26 at hP
 split at hP
 rename_i ks l
 obtain ⟨h01, h02, hk⟩ := hP
 have w0 := Qqc (ks := ks)
 have L4 : ∀ (mm : Nat) (j : Nat) (r : List SelD), ks.length - j = mm -> (j <= ks.length /\ r = l ++ Vg :: Qt (ks.take j)) -> (W26 m).L K 4 (mkS 27 [(1, (.own 1)), (5, (.nat l.length)), (14, (.sl (.csels ks))), (15, (.nat ks.length)), (16, (.nat j))] [(1, .row (.sels r) true)] 2) := by
  intro mm
  induction mm using Nat.strongRecOn with
  | _ mm ih =>
   intro j r hm hI
   obtain ⟨k1, k2⟩ := hI
   have w1 : r.length = l.length + 1 + (Qt (ks.take j)).length := by rw [k2]; simp; omega
   have w2 := QaM (ks := ks) (j := j)
   have w3 : j < ks.length -> _ := fun h => Qb0 (ks := ks) (j := j) h
   refine (W26 m).aL hD (cond (decide (j < ks.length)) ((j < ks.length) /\ (r.length + (Qu (ks.getD j default)).length <= 1000000000) /\ ((Qu (ks.getD j default)).length <= m) /\ ∀ b1 : Option SB, (j + 1 <= 9223372036854775807) /\ (W26 m).L K 4 (mkS 27 [(1, (.own 2)), (5, (.nat l.length)), (14, (.sl (.csels ks))), (15, (.nat ks.length)), (16, (.nat (j + 1)))] [(2, .row (.sels (r ++ Qu (ks.getD j default))) true)] 3)) ((r.length <= 1000000000) /\ (l.length < r.length) /\ ∀ b2 : Option SB, K (.row (.sels (Qbr r l.length))) none)) ?_
   refine Qd ?_ ?_ <;> intro h1 <;> simp -failIfUnchanged [-List.getD_eq_getElem?_getD, -UInt8.toNat_or] at h1
   refine Uf (Uf (Uf ?_))
   intro b1
   refine Uf ?_
   exact Wk.L.rn [0, 2] (ih _ (by omega) (j + 1) (r ++ Qu (ks.getD j default)) rfl ⟨by omega, by rw [Un h1, k2]; simp⟩)
   refine Uf (Uf ?_)
   intro b2
   have e : ks.take j = ks := List.take_of_length_le (by omega)
   rw [e] at k2
   subst k2
   rw [QaF]
   exact hk _
 refine (W26 m).en ((l.length + 1 <= 1099511627776) /\ (W26 m).L K 4 (mkS 27 [(1, (.own 2)), (5, (.nat l.length)), (14, (.sl (.csels ks))), (15, (.nat ks.length)), (16, (.nat 0))] [(2, .row (.sels (l ++ [SelD.mk (23 : Int) (0 : Int) [] [] (0 : Int) (0 : Int) (0 : Int) (0 : Int)])) true)] 3)) ?_
 refine Uf ?_
 exact Wk.L.rn [0, 2] (L4 _ 0 (l ++ [Vg]) rfl ⟨by omega, by simp [Qt]⟩)
 exact hP.elim
def c27s (m : Nat) (svs : List SV) (b : Option SB) (K : Out -> Option SB -> Prop) : Prop := match svs, b with
 | [.cs x, .own 0], some (.row (.sels l) true) => l.length + (Qu x).length <= 1000000000 /\ (Qu x).length <= m + 1 /\ ∀ b' : Option SB, K (.row (.sels (l ++ Qu x))) b'
 | _, _ => False
noncomputable def W27 (m : Nat) : Wk := ⟨[(26, .own 22 (c26 m)), (27, .own 22 (c27 m)), (48, .own 22 c48), (49, .plain c49), (50, .plain c50)], Qm Tryz.f27, true, true, [.tmp 4], [22], [(7, 1879048226)], []⟩
theorem QqW (m : Nat) (hG : Sat 26 (c26 m)) (hH : Sat 27 (c27 m)) : Sat 27 (c27s m) := by
 have hD : Qe (W27 m).D := (Qe.cons Qqo hG (Qe.cons Qnk hH (Qe.cons Qqm QpT (Qe.cons has49 sat49 (Qe.cons has50 sat50 Qe.nil)))))
 refine (W27 m).sa hD Tryz.f27 fun svs b K hP => ?_
 unfold c27s at hP
 split at hP
 rename_i x l
 obtain ⟨h01, h02, hk⟩ := hP
 have w0 := Qqc (ks := VY x)
 have w1 := Qoe x
 have w2 := QdC x
 have w3 : VI x = 17 -> (Qu x).length = 2 + (Qt (VY x)).length := fun h => by rw [QeR h]; simp [QB]; omega
 have w4 : ¬ VI x = 17 -> (Qu x).length = 1 + (Qt (VY x)).length := fun h => by rw [QhA h]; simp [QB]; omega
 have w5 : (QB Vg (Qt (VY x))).length = 1 + (Qt (VY x)).length := by simp [QB]; omega
 have L7 : ∀ (mm : Nat) (j : Nat) (r : List SelD), (VY x).length - j = mm -> (¬ VI x = 17 /\ j <= (VY x).length /\ r = l ++ Q4 x :: Qt ((VY x).take j)) -> (W27 m).L K 7 (mkS 41 [(1, (.own 1)), (5, (.nat l.length)), (28, (.sl (.csels (VY x)))), (29, (.nat ((VY x).length))), (30, (.nat j))] [(1, .row (.sels r) true)] 2) := by
  intro mm
  induction mm using Nat.strongRecOn with
  | _ mm ih =>
   intro j r hm hI
   obtain ⟨k0, k1, k2⟩ := hI
   have u1 : r.length = l.length + 1 + (Qt ((VY x).take j)).length := by rw [k2]; simp; omega
   have u2 := QaM (ks := VY x) (j := j)
   have u3 : j < (VY x).length -> _ := fun h => Qb0 (ks := VY x) (j := j) h
   have u4 := w4 k0
   refine (W27 m).aL hD (have a0 := (VY x).getD j default; cond (decide (j < (VY x).length)) ((j < (VY x).length) /\ (r.length + (Qu a0).length <= 1000000000) /\ ((Qu a0).length <= m) /\ ∀ b3 : Option SB, (j + 1 <= 9223372036854775807) /\ (W27 m).L K 7 (mkS 41 [(1, (.own 2)), (5, (.nat l.length)), (28, (.sl (.csels (VY x)))), (29, (.nat ((VY x).length))), (30, (.nat (j + 1)))] [(2, .row (.sels (r ++ Qu a0)) true)] 3)) ((r.length <= 1000000000) /\ (l.length < r.length) /\ ∀ b4 : Option SB, K (.row (.sels (Qbr r l.length))) none)) ?_
   refine Qd ?_ ?_ <;> intro h1 <;> simp -failIfUnchanged [-List.getD_eq_getElem?_getD, -UInt8.toNat_or] at h1
   refine Uf (Uf (Uf ?_))
   intro b3
   refine Uf ?_
   exact Wk.L.rn [0, 2] (ih _ (by omega) (j + 1) (r ++ Qu ((VY x).getD j default)) rfl ⟨k0, by omega, by rw [Un h1, k2]; simp⟩)
   refine Uf (Uf ?_)
   intro b4
   have e : (VY x).take j = VY x := List.take_of_length_le (by omega)
   rw [e] at k2
   subst k2
   rw [QaF, <- QhA k0]
   exact hk _
 refine (W27 m).en (have a0 := Qt (VY x); (VI x <= 19) /\ (l.length + 1 <= 1099511627776) /\ cond (decide (VI x = 17)) (((l ++ [SelD.mk (((Qz (VI x) (QW x) (QV x) (Vj x) (V8 x) (V7 x) (V6 x) (V5 x) (Vi x) (Vk x)).1 : Nat) : Int) (((Qz (VI x) (QW x) (QV x) (Vj x) (V8 x) (V7 x) (V6 x) (V5 x) (Vi x) (Vk x)).2.1 : Nat) : Int) ((Qz (VI x) (QW x) (QV x) (Vj x) (V8 x) (V7 x) (V6 x) (V5 x) (Vi x) (Vk x)).2.2.1) ((Qz (VI x) (QW x) (QV x) (Vj x) (V8 x) (V7 x) (V6 x) (V5 x) (Vi x) (Vk x)).2.2.2.1) ((Qz (VI x) (QW x) (QV x) (Vj x) (V8 x) (V7 x) (V6 x) (V5 x) (Vi x) (Vk x)).2.2.2.2.1) ((Qz (VI x) (QW x) (QV x) (Vj x) (V8 x) (V7 x) (V6 x) (V5 x) (Vi x) (Vk x)).2.2.2.2.2.1) (((Qz (VI x) (QW x) (QV x) (Vj x) (V8 x) (V7 x) (V6 x) (V5 x) (Vi x) (Vk x)).2.2.2.2.2.2 : Nat) : Int) (0 : Int)]).length + a0.length + 1 <= 1000000000) /\ (a0.length <= m) /\ ∀ b1 : Option SB, (((l ++ [SelD.mk (((Qz (VI x) (QW x) (QV x) (Vj x) (V8 x) (V7 x) (V6 x) (V5 x) (Vi x) (Vk x)).1 : Nat) : Int) (((Qz (VI x) (QW x) (QV x) (Vj x) (V8 x) (V7 x) (V6 x) (V5 x) (Vi x) (Vk x)).2.1 : Nat) : Int) ((Qz (VI x) (QW x) (QV x) (Vj x) (V8 x) (V7 x) (V6 x) (V5 x) (Vi x) (Vk x)).2.2.1) ((Qz (VI x) (QW x) (QV x) (Vj x) (V8 x) (V7 x) (V6 x) (V5 x) (Vi x) (Vk x)).2.2.2.1) ((Qz (VI x) (QW x) (QV x) (Vj x) (V8 x) (V7 x) (V6 x) (V5 x) (Vi x) (Vk x)).2.2.2.2.1) ((Qz (VI x) (QW x) (QV x) (Vj x) (V8 x) (V7 x) (V6 x) (V5 x) (Vi x) (Vk x)).2.2.2.2.2.1) (((Qz (VI x) (QW x) (QV x) (Vj x) (V8 x) (V7 x) (V6 x) (V5 x) (Vi x) (Vk x)).2.2.2.2.2.2 : Nat) : Int) (0 : Int)]) ++ QB Vg a0).length <= 1000000000) /\ (l.length < ((l ++ [SelD.mk (((Qz (VI x) (QW x) (QV x) (Vj x) (V8 x) (V7 x) (V6 x) (V5 x) (Vi x) (Vk x)).1 : Nat) : Int) (((Qz (VI x) (QW x) (QV x) (Vj x) (V8 x) (V7 x) (V6 x) (V5 x) (Vi x) (Vk x)).2.1 : Nat) : Int) ((Qz (VI x) (QW x) (QV x) (Vj x) (V8 x) (V7 x) (V6 x) (V5 x) (Vi x) (Vk x)).2.2.1) ((Qz (VI x) (QW x) (QV x) (Vj x) (V8 x) (V7 x) (V6 x) (V5 x) (Vi x) (Vk x)).2.2.2.1) ((Qz (VI x) (QW x) (QV x) (Vj x) (V8 x) (V7 x) (V6 x) (V5 x) (Vi x) (Vk x)).2.2.2.2.1) ((Qz (VI x) (QW x) (QV x) (Vj x) (V8 x) (V7 x) (V6 x) (V5 x) (Vi x) (Vk x)).2.2.2.2.2.1) (((Qz (VI x) (QW x) (QV x) (Vj x) (V8 x) (V7 x) (V6 x) (V5 x) (Vi x) (Vk x)).2.2.2.2.2.2 : Nat) : Int) (0 : Int)]) ++ QB Vg a0).length) /\ ∀ b2 : Option SB, K (.row (.sels (Qbr ((l ++ [SelD.mk (((Qz (VI x) (QW x) (QV x) (Vj x) (V8 x) (V7 x) (V6 x) (V5 x) (Vi x) (Vk x)).1 : Nat) : Int) (((Qz (VI x) (QW x) (QV x) (Vj x) (V8 x) (V7 x) (V6 x) (V5 x) (Vi x) (Vk x)).2.1 : Nat) : Int) ((Qz (VI x) (QW x) (QV x) (Vj x) (V8 x) (V7 x) (V6 x) (V5 x) (Vi x) (Vk x)).2.2.1) ((Qz (VI x) (QW x) (QV x) (Vj x) (V8 x) (V7 x) (V6 x) (V5 x) (Vi x) (Vk x)).2.2.2.1) ((Qz (VI x) (QW x) (QV x) (Vj x) (V8 x) (V7 x) (V6 x) (V5 x) (Vi x) (Vk x)).2.2.2.2.1) ((Qz (VI x) (QW x) (QV x) (Vj x) (V8 x) (V7 x) (V6 x) (V5 x) (Vi x) (Vk x)).2.2.2.2.2.1) (((Qz (VI x) (QW x) (QV x) (Vj x) (V8 x) (V7 x) (V6 x) (V5 x) (Vi x) (Vk x)).2.2.2.2.2.2 : Nat) : Int) (0 : Int)]) ++ QB Vg a0) l.length))) none) ((W27 m).L K 7 (mkS 41 [(1, (.own 3)), (5, (.nat l.length)), (28, (.sl (.csels (VY x)))), (29, (.nat ((VY x).length))), (30, (.nat 0))] [(3, .row (.sels (l ++ [SelD.mk (((Qz (VI x) (QW x) (QV x) (Vj x) (V8 x) (V7 x) (V6 x) (V5 x) (Vi x) (Vk x)).1 : Nat) : Int) (((Qz (VI x) (QW x) (QV x) (Vj x) (V8 x) (V7 x) (V6 x) (V5 x) (Vi x) (Vk x)).2.1 : Nat) : Int) ((Qz (VI x) (QW x) (QV x) (Vj x) (V8 x) (V7 x) (V6 x) (V5 x) (Vi x) (Vk x)).2.2.1) ((Qz (VI x) (QW x) (QV x) (Vj x) (V8 x) (V7 x) (V6 x) (V5 x) (Vi x) (Vk x)).2.2.2.1) ((Qz (VI x) (QW x) (QV x) (Vj x) (V8 x) (V7 x) (V6 x) (V5 x) (Vi x) (Vk x)).2.2.2.2.1) ((Qz (VI x) (QW x) (QV x) (Vj x) (V8 x) (V7 x) (V6 x) (V5 x) (Vi x) (Vk x)).2.2.2.2.2.1) (((Qz (VI x) (QW x) (QV x) (Vj x) (V8 x) (V7 x) (V6 x) (V5 x) (Vi x) (Vk x)).2.2.2.2.2.2 : Nat) : Int) (0 : Int)])) true), (1, .blk 76 [(.nat (VI x)), (.str (QW x)), (.str (QV x)), (.str (Vj x)), (.int .i64 (V8 x)), (.int .i64 (V7 x)), (.bool (V6 x)), (.bool (V5 x)), (.bool (Vi x)), (.bool (Vk x)), (.sl (.csels (VY x)))])] 4))) ?_
 refine Uf (Uf ?_)
 refine Qd ?_ ?_ <;> intro h1 <;> simp -failIfUnchanged [-List.getD_eq_getElem?_getD, -UInt8.toNat_or] at h1
 refine Uf (Uf ?_)
 intro b1
 refine Uf (Uf ?_)
 intro b2
 refine (congrArg (fun q => K (.row (.sels q)) _) ?_).mpr (hk _)
 rw [QeR h1, <- QjC x, List.append_assoc]
 exact QaF
 exact Wk.L.rn [0, 3] (L7 _ 0 (l ++ [mkN (Qz (VI x) (QW x) (QV x) (Vj x) (V8 x) (V7 x) (V6 x) (V5 x) (Vi x) (Vk x))]) rfl ⟨h1, by omega, by rw [QjC]; simp [Qt]⟩)
 exact hP.elim
end
section
open Go Go.RowKit
set_option maxRecDepth 20000
def IB (G : Nat -> Option (List CSel × Nat)) : Prop := ∀ i v, G i = some v -> (Qt v.1).length + 2 * i <= 2 * v.2 + 1
section
variable {G : Nat -> Option (List CSel × Nat)} {s : Bs} {a : Bool}
theorem Qb1 (l : List CSel) (x : CSel) : (Qt (l ++ [x])).length = (Qt l).length + (Qu x).length := by
 induction l with
 | nil => simp [Qt]
 | cons y l ih => simp [Qt, ih]; omega
theorem Qm9 {i k : Nat} (h : Vw s i = some k) : i < k := by
 unfold Vw at h
 split at h
 cases h; have := VB s (i + 1); omega
 cases h
theorem Qlf {i k : Nat} (h : QT s i = some k) : i < k := by
 unfold QT at h
 split at h
 cases h; have := VB s i; omega
 cases h
theorem UU {α : Type} {c : Prop} [Decidable c] {p q : Option α} {x : α} {P : Prop} (h : (if c then p else q) = some x) (hp : p = some x -> P) (hq : q = some x -> P) : P := by
 by_cases hc : c
 rw [if_pos hc] at h; exact hp h
 rw [if_neg hc] at h; exact hq h
theorem Qij {n : Bs} {x : CSel} (h : Qft n = some x) : (Qu x).length = 1 := by
 unfold Qft at h
 iterate 14 refine UU h (fun h => by cases h; rfl) (fun h => ?_)
 cases h
theorem ps_b (hG : IB G) {i j : Nat} {x : CSel} {n : Bs} (h : iPs G s i = some (some x, n, j)) (hj : i < j) : (Qu x).length + 2 * i <= 2 * j := by
 unfold iPs at h
 split at h
 split at h
 cases h
 rename_i nm p hp
 split at h
 cases h
 have hlt : i + 1 < p := by
  have := (Law.iIdent_lt hp).1
  split at this <;> omega
 unfold ZB at h
 split at h
 simp only [Option.map_eq_some_iff, Prod.mk.injEq, Option.some.injEq] at h
 obtain ⟨⟨y, e⟩, h1, rfl, _, rfl⟩ := h
 unfold JW at h1
 split at h1
 cases h1
 rename_i k hk
 split at h1
 cases h1
 rename_i l m hg
 simp only [Option.map_eq_some_iff, Prod.mk.injEq] at h1
 obtain ⟨e', h2, rfl, rfl⟩ := h1
 have h3 := hG _ _ hg
 have h4 := Qm9 hk
 have h5 := Qlf h2
 simp only [Qu, QB, List.length_cons]
 dsimp only at h3 ⊢
 omega
 split at h
 simp only [Option.map_eq_some_iff, Prod.mk.injEq, Option.some.injEq] at h
 obtain ⟨⟨y, e⟩, h1, rfl, _, rfl⟩ := h
 have : (Qu y).length = 1 := by
  unfold Z1 at h1
  split at h1
  cases h1
  split at h1
  split at h1
  cases h1
  simp only [Option.map_eq_some_iff, Prod.mk.injEq] at h1
  obtain ⟨_, _, rfl, _⟩ := h1; rfl
  cases h1
 dsimp only at hj ⊢
 omega
 split at h
 simp only [Option.map_eq_some_iff, Prod.mk.injEq, Option.some.injEq] at h
 obtain ⟨⟨y, e⟩, h1, rfl, _, rfl⟩ := h
 have : (Qu y).length = 1 := by
  unfold JA at h1
  split at h1
  cases h1
  split at h1
  cases h1
  simp only [Option.map_eq_some_iff, Prod.mk.injEq] at h1
  obtain ⟨_, _, rfl, _⟩ := h1; rfl
 dsimp only at hj ⊢
 omega
 split at h
 simp only [Option.map_eq_some_iff, Prod.mk.injEq, Option.some.injEq] at h
 obtain ⟨⟨y, e⟩, h1, rfl, _, rfl⟩ := h
 have : (Qu y).length = 1 := by
  unfold Jm at h1
  split at h1
  cases h1
  split at h1
  split at h1
  cases h1
  simp only [Option.map_eq_some_iff, Prod.mk.injEq] at h1
  obtain ⟨_, _, rfl, _⟩ := h1; rfl
  cases h1
 dsimp only at hj ⊢
 omega
 split at h
 rename_i y hy
 simp only [Option.some.injEq, Prod.mk.injEq] at h
 obtain ⟨rfl, _, rfl⟩ := h
 have := Qij hy
 omega
 split at h
 simp at h
 cases h
 cases h
theorem QlN (hG : IB G) {i j : Nat} {x : CSel} {n : Bs} (h : Vq G s i = some (some x, n, j)) (hj : i < j) : (Qu x).length + 2 * i <= 2 * j := by
 unfold Vq at h
 split at h
 simp only [Option.map_eq_some_iff, Prod.mk.injEq, Option.some.injEq] at h
 obtain ⟨⟨y, e⟩, _, rfl, _, rfl⟩ := h
 have : (Qu (CSel.idn y)).length = 1 := rfl
 dsimp only at hj ⊢
 omega
 split at h
 simp only [Option.map_eq_some_iff, Prod.mk.injEq, Option.some.injEq] at h
 obtain ⟨⟨y, e⟩, _, rfl, _, rfl⟩ := h
 have : (Qu (CSel.cls y)).length = 1 := rfl
 dsimp only at hj ⊢
 omega
 split at h
 rw [QfN] at h
 simp only [Option.map_eq_some_iff, Prod.mk.injEq, Option.some.injEq] at h
 obtain ⟨_, ⟨y, _, rfl⟩, rfl, _, rfl⟩ := h
 have : (Qu (attrOf y).1).length = 1 := rfl
 omega
 exact ps_b hG h hj
theorem QlW (l : List CSel) (pe : Bs) : (Qu (Yh l pe)).length <= (Qt l).length + 1 := by
 unfold Yh
 split
 simp [Qt]
 simp [Qu, QB]
theorem Qfb (hG : IB G) {i0 : Nat} : ∀ (n i : Nat) (l : List CSel) (pe : Bs), s.length - i = n -> (Qt l).length + 2 * i0 <= 2 * i -> ∀ x m, Vo G s a i l pe = some (x, m) -> (Qu x).length + 2 * i0 <= 2 * m + 1 := by
 intro n
 induction n using Nat.strongRecOn with
 | _ n ih =>
  intro i l pe hn hl x m h
  rw [Vo] at h
  split at h
  rename_i hc
  split at h
  cases h
  rename_i y nm j hy
  split at h
  rename_i hj
  split at h
  split at h
  exact ih _ (by omega) j l nm rfl (by omega) x m h
  cases h
  rename_i z
  have hb := QlN hG hy hj
  split at h
  exact ih _ (by omega) j (l ++ [z]) pe rfl (by rw [Qb1]; omega) x m h
  cases h
  cases h
  simp only [Option.some.injEq, Prod.mk.injEq] at h
  obtain ⟨rfl, rfl⟩ := h
  have := QlW l pe
  omega
theorem QlU (hG : IB G) {i : Nat} {x : CSel} {m : Nat} (h : YL G s a i = some (x, m)) : (Qu x).length + 2 * i <= 2 * m + 1 := by
 unfold YL at h
 split at h
 split at h
 exact Qfb hG _ _ [] [] rfl (by simp only [Qt, List.length_nil]; split <;> omega) x m h
 split at h
 exact Qfb hG _ _ [] [] rfl (by simp [Qt]) x m h
 split at h
 cases h
 rename_i t j ht
 have := (Law.iIdent_lt ht).1
 exact Qfb hG _ _ _ [] rfl (by simp [Qt, Qu, QB]; omega) x m h
 cases h
theorem Qop (hG : IB G) {i0 : Nat} : ∀ (n j : Nat) (x : CSel), s.length - j = n -> (Qu x).length + 2 * i0 <= 2 * j + 1 -> ∀ y m, VF G s a x j = some (y, m) -> (Qu y).length + 2 * i0 <= 2 * m + 1 := by
 intro n
 induction n using Nat.strongRecOn with
 | _ n ih =>
  intro j x hn hx y m h
  have w0 := VB s j
  have w1 := VB s (iWs s j + 1)
  rw [VF] at h
  split at h
  split at h
  split at h
  cases h
  rename_i z p hz
  split at h
  have := QlU hG hz
  exact ih _ (by omega) p _ rfl (by simp only [Qu, QB, List.length_cons, List.length_append]; omega) y m h
  cases h
  split at h
  simp only [Option.some.injEq, Prod.mk.injEq] at h
  obtain ⟨rfl, rfl⟩ := h
  omega
  split at h
  cases h
  rename_i z p hz
  split at h
  have := QlU hG hz
  exact ih _ (by omega) p _ rfl (by simp only [Qu, QB, List.length_cons, List.length_append]; omega) y m h
  cases h
  simp only [Option.some.injEq, Prod.mk.injEq] at h
  obtain ⟨rfl, rfl⟩ := h
  omega
theorem QlZ (hG : IB G) {i : Nat} {x : CSel} {m : Nat} (h : Zp G s a i = some (x, m)) : (Qu x).length + 2 * i <= 2 * m + 1 := by
 unfold Zp at h
 split at h
 cases h
 rename_i y j hy
 have := QlU hG hy
 have w0 := VB s i
 exact Qop hG _ _ _ rfl (by omega) x m h
theorem Qph (hG : IB G) {i0 : Nat} : ∀ (n j : Nat) (l : List CSel), s.length - j = n -> (Qt l).length + 2 * i0 <= 2 * j + 1 -> ∀ v m, YF G s a l j = some (v, m) -> (Qt v).length + 2 * i0 <= 2 * m + 1 := by
 intro n
 induction n using Nat.strongRecOn with
 | _ n ih =>
  intro j l hn hx v m h
  rw [YF] at h
  split at h
  split at h
  cases h
  rename_i z p hz
  split at h
  have := QlZ hG hz
  exact ih _ (by omega) p _ rfl (by rw [Qb1]; omega) v m h
  cases h
  simp only [Option.some.injEq, Prod.mk.injEq] at h
  obtain ⟨rfl, rfl⟩ := h
  omega
theorem Qj5 : ∀ k, IB (QD s a k)
 | 0 => fun i v h => by simp [QD] at h
 | k + 1 => fun i v h => by
  obtain ⟨v, m⟩ := v
  rw [QD] at h
  split at h
  cases h
  rename_i x j hx
  have := QlZ (Qj5 k) hx
  exact Qph (Qj5 k) _ _ _ rfl (by simp [Qt]; omega) v m h
end
section
variable {G : Nat -> Option (List CSel × Nat)} {s : Bs} {a : Bool}
theorem Qaf {i k : Nat} (h : QT s i = some k) : k <= s.length := by
 unfold QT at h
 split at h
 cases h; omega
 cases h
theorem ps_le {i j : Nat} {x : Option CSel} {n : Bs} (h : iPs G s i = some (x, n, j)) : j <= s.length := by
 unfold iPs at h
 split at h
 split at h
 cases h
 rename_i nm p hp
 split at h
 cases h
 have hle := (Law.iIdent_lt hp).2
 unfold ZB at h
 split at h
 simp only [Option.map_eq_some_iff, Prod.mk.injEq] at h
 obtain ⟨⟨y, e⟩, h1, _, _, rfl⟩ := h
 unfold JW at h1
 split at h1
 cases h1
 split at h1
 cases h1
 simp only [Option.map_eq_some_iff, Prod.mk.injEq] at h1
 obtain ⟨e', h2, _, rfl⟩ := h1
 exact Qaf h2
 split at h
 simp only [Option.map_eq_some_iff, Prod.mk.injEq] at h
 obtain ⟨⟨y, e⟩, h1, _, _, rfl⟩ := h
 unfold Z1 at h1
 split at h1
 cases h1
 split at h1
 split at h1
 cases h1
 simp only [Option.map_eq_some_iff, Prod.mk.injEq] at h1
 obtain ⟨e', h2, _, rfl⟩ := h1
 exact Qaf h2
 cases h1
 split at h
 simp only [Option.map_eq_some_iff, Prod.mk.injEq] at h
 obtain ⟨⟨y, e⟩, h1, _, _, rfl⟩ := h
 unfold JA at h1
 split at h1
 cases h1
 split at h1
 cases h1
 simp only [Option.map_eq_some_iff, Prod.mk.injEq] at h1
 obtain ⟨e', h2, _, rfl⟩ := h1
 exact Qaf h2
 split at h
 simp only [Option.map_eq_some_iff, Prod.mk.injEq] at h
 obtain ⟨⟨y, e⟩, h1, _, _, rfl⟩ := h
 unfold Jm at h1
 split at h1
 cases h1
 split at h1
 split at h1
 cases h1
 simp only [Option.map_eq_some_iff, Prod.mk.injEq] at h1
 obtain ⟨e', h2, _, rfl⟩ := h1
 exact Qaf h2
 cases h1
 split at h
 simp only [Option.some.injEq, Prod.mk.injEq] at h
 obtain ⟨_, _, rfl⟩ := h
 exact hle
 split at h
 simp only [Option.some.injEq, Prod.mk.injEq] at h
 obtain ⟨_, _, rfl⟩ := h
 exact hle
 cases h
 cases h
theorem aV_le {key op : Bs} {k : Nat} {v : (Bs × Bs × Bs × Bool) × Nat} (h : aV s key op k = some v) : v.2 <= s.length := by
 unfold aV at h
 refine UU h (fun h => ?_) (fun h => by cases h)
 split at h
 cases h
 rename_i val m hv
 unfold aW at h
 refine UU h (fun h => ?_) (fun h => by cases h)
 unfold aE at h
 by_cases hc : iWs s (if bat s (iWs s m) = 105 \/ bat s (iWs s m) = 73 then iWs s m + 1 else iWs s m) < s.length /\ bat s (iWs s (if bat s (iWs s m) = 105 \/ bat s (iWs s m) = 73 then iWs s m + 1 else iWs s m)) = 93 /\ op ∈ attrSigns
 rw [if_pos hc] at h
 cases h
 exact hc.1
 rw [if_neg hc] at h
 cases h
theorem QpC {i : Nat} {v : (Bs × Bs × Bs × Bool) × Nat} (h : Yk s i = some v) : v.2 <= s.length := by
 unfold Yk at h
 split at h
 cases h
 split at h
 refine UU h (fun h => ?_) (fun h => ?_)
 cases h; simp only; omega
 exact UU h (fun h => aV_le h) (fun h => by cases h)
 cases h
theorem QkD {i j : Nat} {x : Option CSel} {n : Bs} (h : Vq G s i = some (x, n, j)) : j <= s.length := by
 unfold Vq at h
 split at h
 simp only [Option.map_eq_some_iff, Prod.mk.injEq] at h
 obtain ⟨⟨y, e⟩, h1, _, _, rfl⟩ := h
 exact (Law.iName_lt h1).2
 split at h
 simp only [Option.map_eq_some_iff, Prod.mk.injEq] at h
 obtain ⟨⟨y, e⟩, h1, _, _, rfl⟩ := h
 exact (Law.iIdent_lt h1).2
 split at h
 rw [QfN] at h
 simp only [Option.map_eq_some_iff, Prod.mk.injEq] at h
 obtain ⟨_, ⟨y, h1, rfl⟩, _, _, rfl⟩ := h
 exact QpC h1
 exact ps_le h
theorem QcR : ∀ (n i : Nat) (l : List CSel) (pe : Bs), s.length - i = n -> i <= s.length -> ∀ x m, Vo G s a i l pe = some (x, m) -> m <= s.length := by
 intro n
 induction n using Nat.strongRecOn with
 | _ n ih =>
  intro i l pe hn hl x m h
  rw [Vo] at h
  split at h
  split at h
  cases h
  rename_i y nm j hy
  have hb := QkD hy
  split at h
  rename_i hj
  split at h
  split at h
  exact ih _ (by omega) j l nm rfl hb x m h
  cases h
  split at h
  exact ih _ (by omega) j _ pe rfl hb x m h
  cases h
  cases h
  simp only [Option.some.injEq, Prod.mk.injEq] at h
  obtain ⟨rfl, rfl⟩ := h
  exact hl
theorem Qh4 {i : Nat} {x : CSel} {m : Nat} (h : YL G s a i = some (x, m)) : m <= s.length := by
 unfold YL at h
 split at h
 split at h
 exact QcR _ _ [] [] rfl (by split <;> omega) x m h
 split at h
 exact QcR _ _ [] [] rfl (by omega) x m h
 split at h
 cases h
 rename_i t j ht
 exact QcR _ _ _ [] rfl (Law.iIdent_lt ht).2 x m h
 cases h
theorem Ql1 : ∀ (n j : Nat) (x : CSel), s.length - j = n -> j <= s.length -> ∀ y m, VF G s a x j = some (y, m) -> m <= s.length := by
 intro n
 induction n using Nat.strongRecOn with
 | _ n ih =>
  intro j x hn hx y m h
  have w0 := Vn s j hx
  have w00 := VB s j
  rw [VF] at h
  split at h
  split at h
  split at h
  cases h
  rename_i z p hz
  split at h
  exact ih _ (by omega) p _ rfl (Qh4 hz) y m h
  cases h
  split at h
  simp only [Option.some.injEq, Prod.mk.injEq] at h
  obtain ⟨rfl, rfl⟩ := h
  exact w0
  split at h
  cases h
  rename_i z p hz
  split at h
  exact ih _ (by omega) p _ rfl (Qh4 hz) y m h
  cases h
  simp only [Option.some.injEq, Prod.mk.injEq] at h
  obtain ⟨rfl, rfl⟩ := h
  exact w0
theorem Qh6 {i : Nat} {x : CSel} {m : Nat} (h : Zp G s a i = some (x, m)) : m <= s.length := by
 unfold Zp at h
 split at h
 cases h
 rename_i y j hy
 exact Ql1 _ _ _ rfl (Qh4 hy) x m h
theorem Qnp : ∀ (n j : Nat) (l : List CSel), s.length - j = n -> j <= s.length -> ∀ v m, YF G s a l j = some (v, m) -> m <= s.length := by
 intro n
 induction n using Nat.strongRecOn with
 | _ n ih =>
  intro j l hn hx v m h
  rw [YF] at h
  split at h
  split at h
  cases h
  rename_i z p hz
  split at h
  exact ih _ (by omega) p _ rfl (Qh6 hz) v m h
  cases h
  simp only [Option.some.injEq, Prod.mk.injEq] at h
  obtain ⟨rfl, rfl⟩ := h
  exact hx
theorem Qst : ∀ {k i : Nat} {v : List CSel × Nat}, QD s a k i = some v -> v.2 <= s.length
 | 0, i, v, h => by simp [QD] at h
 | k + 1, i, v, h => by
  obtain ⟨v, m⟩ := v
  rw [QD] at h
  split at h
  cases h
  rename_i x j hx
  exact Qnp _ _ _ rfl (Qh6 hx) v m h
theorem Qbw {s : Bs} {many p : Bool} {l : List CSel} (h : Va s many p = some l) : (Vb many l).length <= 2 * s.length + 2 := by
 unfold Va at h
 split at h
 rename_i hm
 split at h
 rename_i l' j hg
 split at h
 cases h
 cases h
 have h1 := Qj5 1001 _ _ hg
 have h2 := Qst hg
 unfold Vb
 rw [if_pos hm]
 simp only [QB, List.length_cons]
 dsimp only at h1 h2
 omega
 cases h
 rename_i hm
 split at h
 rename_i x j hg
 split at h
 cases h
 cases h
 have h1 := QlZ (Qj5 1001) hg
 have h2 := Qh6 hg
 unfold Vb
 rw [if_neg hm]
 simp only [List.headD_cons]
 omega
 cases h
end
end
section
open Go Go.RowKit
set_option maxRecDepth 20000
theorem Qfe : ∀ m, Sat 27 (c27 m) /\ Sat 26 (c26 m)
 | 0 => by
  have h : Sat 27 (c27 0) := by
   intro g0 w M ω svs args b K hS hn hr hP
   unfold c27 at hP
   split at hP
   rename_i x l
   have := QdC x
   omega
   exact hP.elim
  exact ⟨h, QpW 0 h⟩
 | m + 1 => by
  obtain ⟨h1, h2⟩ := Qfe m
  have h : Sat 27 (c27 (m + 1)) := QqW m h2 h1
  exact ⟨h, QpW (m + 1) h⟩
theorem QoJ {s : Bs} {p : Bool} {v : List CSel} (h : Va s true p = some v) : (Qt v).length <= 2 * s.length + 2 := by
 have := Qbw h
 simp only [Vb, if_true, QB, List.length_cons] at this
 omega
theorem Qjz {s : Bs} {p : Bool} {v : List CSel} (h : Va s false p = some v) : (Qu (v.headD default)).length <= 2 * s.length + 2 := by
 have := Qbw h
 exact this
def c11 (svs : List SV) (b : Option SB) (K : Out -> Option SB -> Prop) : Prop := match svs, b with
 | [.str s, .bool m, .bool p], none => s.length <= 1000000 /\ Qx (Va s m p) (fun v => K (.val (.tup [.sl (.sels (Vb m v)), .bool true])) none) (K (.val (.tup [.sl (.sels []), .bool false])) none)
 | _, _ => False
noncomputable def W11 : Wk := ⟨[(25, .plain c25), (26, .own 22 (c26 10000000)), (27, .own 22 (c27 10000000))], Qm Tryz.f11, false, false, [.tmp 6, .tmp 7], [22, 4], [], []⟩
theorem has11 : Has 11 := hsf Tryz.f11
theorem Qdd {p q : Prop} (k : q) (h : p := by first | omega | (simp; done) | (have q := QoJ h2; omega) | (have q := Qjz h2; show (Qu (v2.headD default)).length <= _; omega) | (have q := Qjz h2; show 0 + (Qu (v2.headD default)).length <= _; omega) | exact absurd (h1.symm.trans h3) (by decide)) : p /\ q := ⟨h, k⟩
theorem sat11 : Sat 11 c11 := by
 have hD : Qe W11.D := (Qe.cons has25 sat25 (Qe.cons Qqo (Qfe 10000000).2 (Qe.cons Qnk (Qfe 10000000).1 Qe.nil)))
 refine W11.sa hD Tryz.f11 fun svs b K hP => ?_
 unfold c11 at hP
 split at hP
 rename_i s m p
 obtain ⟨h01, hk⟩ := hP
 refine W11.en (have a0 : Out := .val (.tup [(.sl (.sels [])), (.bool false)]); (s.length <= 1000000) /\ cond m (Qx (Va s true p) (fun v1 => cond m ((0 + (Qt v1).length + 1 <= 1000000000) /\ ((Qt v1).length <= 10000000) /\ ∀ b3 : Option SB, K (.val (.tup [(.sl (.sels ([] ++ QB Vg (Qt v1)))), (.bool true)])) none) ((0 < v1.length) /\ (0 + (Qu (v1.getD 0 default)).length <= 1000000000) /\ ((Qu (v1.getD 0 default)).length <= 10000000) /\ ∀ b4 : Option SB, K (.val (.tup [(.sl (.sels ([] ++ Qu (v1.getD 0 default)))), (.bool true)])) none)) (K a0 none)) (Qx (Va s false p) (fun v2 => cond m ((0 + (Qt [v2.headD default]).length + 1 <= 1000000000) /\ ((Qt [v2.headD default]).length <= 10000000) /\ ∀ b5 : Option SB, K (.val (.tup [(.sl (.sels ([] ++ QB Vg (Qt [v2.headD default])))), (.bool true)])) none) ((0 < 1) /\ (0 + (Qu (([v2.headD default] : List CSel).getD 0 default)).length <= 1000000000) /\ ((Qu (([v2.headD default] : List CSel).getD 0 default)).length <= 10000000) /\ ∀ b6 : Option SB, K (.val (.tup [(.sl (.sels ([] ++ Qu (([v2.headD default] : List CSel).getD 0 default)))), (.bool true)])) none)) (K a0 none))) ?_
 refine Qdd ?_
 refine Qd ?_ ?_ <;> intro h1 <;> simp -failIfUnchanged [-List.getD_eq_getElem?_getD, -UInt8.toNat_or] at h1
 refine QJ (fun v1 h2 => ?_) (fun h2 => ?_)
 refine Qd ?_ ?_ <;> intro h3 <;> simp -failIfUnchanged [-List.getD_eq_getElem?_getD, -UInt8.toNat_or] at h3
 refine Qdd (Qdd ?_)
 intro b3
 subst h1
 have q := Qi hk h2
 exact q
 refine Qdd (Qdd (Qdd ?_))
 intro b4
 exact absurd (h1.symm.trans h3) (by decide)
 subst h1
 exact Qa hk h2
 refine QJ (fun v2 h2 => ?_) (fun h2 => ?_)
 refine Qd ?_ ?_ <;> intro h3 <;> simp -failIfUnchanged [-List.getD_eq_getElem?_getD, -UInt8.toNat_or] at h3
 refine Qdd (Qdd ?_)
 intro b5
 exact absurd (h1.symm.trans h3) (by decide)
 refine Qdd (Qdd (Qdd ?_))
 intro b6
 subst h1
 have q := Qi hk h2
 exact q
 subst h1
 exact Qa hk h2
 exact hP.elim
theorem QeK (l : List SelD) : (VJ l).length <= l.length + 1 := by
 unfold VJ
 split
 omega
 simp [VO, QB]
def c3 (svs : List SV) (b : Option SB) (K : Out -> Option SB -> Prop) : Prop := match svs, b with
 | [.str s, .bool m, .bool p], none => s.length <= 9223372036854775807 /\ K (.val (.bool true)) none
 | _, _ => False
end
end Go.Proofs.YtengepcafdnalaaGreatDoor
