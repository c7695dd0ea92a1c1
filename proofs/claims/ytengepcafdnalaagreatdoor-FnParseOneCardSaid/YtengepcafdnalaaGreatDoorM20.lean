/-
  Parts of the proof that the law FnParseOne holds for every input (texts Kw). Conditions: none.
-/
import Derived.Test.YtengepcafdnalaaGreatDoorM19
namespace Go.Proofs.YtengepcafdnalaaGreatDoor
section
open Go Go.RowKit
set_option maxRecDepth 20000
theorem KidAt.sz {l : List SelD} {n k : Nat} (h : KidAt l n k) : k < l.length ∧ 0 < (l.getD k default).size ∧ (l.getD k default).size ≤ l.length ∧ ((k : Nat) : Int) + (l.getD k default).size ≤ l.length ∧ 0 < (sNorm n l k).length ∧ (sNorm n l k).length ≤ l.length := by
 obtain ⟨T, rest, h, hn⟩ := h
 rw [sNorm_eq l n k T rest h hn]
 have h1 := flat_pos T.norm
 have h2 := norm_len T
 obtain ⟨x, ks⟩ := T
 obtain ⟨_, _, q3, q4, q5⟩ := kidsD_flat h
 have h3 : (ST.mk x ks).flat.length = (ST.flats ks).length + 1 := by simp [ST.flat, sizedD]
 rw [q4]
 exact ⟨q3, by simp only; omega, by simp only; omega, by simp only; omega, h1, by omega⟩
def normRow (n : Nat) (l : List SelD) (i : Nat) : List (List SelD) := ((kidsD l i).map (sNorm n l)).filter (keepN (l.getD i default))
theorem KidAt.kids {l : List SelD} {n i : Nat} (h : KidAt l (n + 1) i) : (∀ k ∈ kidsD l i, KidAt l n k) ∧ (kidsD l i).length ≤ l.length ∧ (normRow n l i).flatten.length ≤ l.length ∧ (normRow n l i).length ≤ l.length := by
 obtain ⟨⟨x, ks⟩, rest, h, hn⟩ := h
 obtain ⟨q1, q2, q3, q4, q5⟩ := kidsD_flat h
 rw [ST.ht] at hn
 have h6 := sNorm_places (l := l) (n := n) (fun i T rest => sNorm_eq l n i T rest) ks (i + 1) rest q2 (by omega)
 have q6 : (kidsD l i).length ≤ l.length := by
  have := kidsGo_len l (i + (l.getD i default).size) (i + 1)
  unfold kidsD; omega
 refine ⟨fun k hk => places_at ks (i + 1) rest q2 (by omega) k (by rw [← q1]; exact hk), q6, ?_, ?_⟩
 · unfold normRow
   rw [q1, q4, h6, keep_map, ← flats_map]
   have := norms_len ks
   have : (ST.flats (keepT x (ST.norms ks))).length ≤ (ST.flats (ST.norms ks)).length := by
    unfold keepT; split
    · exact flats_filter _ _
    exact Nat.le_refl _
   omega
 unfold normRow
 exact Nat.le_trans (List.length_filter_le _ _) (by simpa using q6)
theorem row_step (p : List SelD → Bool) (f : Nat → List SelD) (K : List Nat) (j : Nat) (h : j < K.length) : ((K.take (j + 1)).map f).filter p = ((K.take j).map f).filter p ++ (if p (f (K.getD j 0)) = true then [f (K.getD j 0)] else []) := by
 rw [List.take_add_one, List.getElem?_eq_getElem h]
 have e : K.getD j 0 = K[j] := by simp [List.getD_eq_getElem?_getD, List.getElem?_eq_getElem h]
 rw [e, Option.toList_some, List.map_append, List.filter_append]
 simp [List.filter_cons]
theorem row_len (p : List SelD → Bool) (f : Nat → List SelD) (K : List Nat) (j : Nat) : (((K.take j).map f).filter p).length ≤ j := by
 refine Nat.le_trans (List.length_filter_le _ _) ?_
 simp; omega
theorem mem_getD {K : List Nat} {j : Nat} (h : j < K.length) : K.getD j 0 ∈ K := by
 simp [List.getD_eq_getElem?_getD, List.getElem?_eq_getElem h]
def c51 (m : Nat) (svs : List SV) (b : Option SB) : QR := match svs, b with
 | [.sl (.sels l), .nat i], none => some ([l.length ≤ 1000000000, KidAt l m i], .sl (.sels (sNorm m l i)))
 | _, _ => none
theorem knorm {K : Out → Option SB → Prop} {a c : List SelD} (hk : K (.val (.sl (.sels a))) none) (e : a = c) : K (.val (.sl (.sels c))) none := by rw [e] at hk; exact hk
def c51s (m : Nat) (svs : List SV) (b : Option SB) : QR := match svs, b with
 | [.sl (.sels l), .nat i], none => some ([l.length ≤ 1000000000, KidAt l (m + 1) i], .sl (.sels (sNorm (m + 1) l i)))
 | _, _ => none
noncomputable def W51 (m : Nat) : Wk := ⟨[(17, .fn c17), (29, .fn c29), (51, .pure (c51 m))], bodyOf Tryz.f51, false, false, [.tmp 4], [22], [(4, 227)], []⟩
theorem has51 : Has 51 := Has.of (fn := Tryz.f51) (by kernel_rfl) (by kernel_rfl) (by kernel_rfl)
theorem kwz1 {c0 p0 q : Prop} (k : q) (h : c0 → p0 ∧ True := by intro g0; (try simp at g0); exact ⟨(by first | omega | (have := k5 h1; omega) | exact k4 h1 | (have := k6 h1; omega) | exact fun k hk => by have := (q1 k hk).sz; omega | (simp; done) | (simp; omega)), trivial⟩) : (c0 → p0 ∧ True) ∧ q := ⟨h, k⟩
theorem kwz0 {p q : Prop} (k : q) (h : p := by first | omega | (have := k5 h1; omega) | exact k4 h1 | (have := k6 h1; omega) | exact fun k hk => by have := (q1 k hk).sz; omega | (simp; done) | (simp; omega)) : p ∧ q := ⟨h, k⟩
theorem sat51s (m : Nat) (hG : Sat 51 (pureS (c51 m))) : Sat 51 (pureS (c51s m)) := by
 have hD : CxOk (W51 m).D := (CxOk.cons has17 sat17 (CxOk.cons has29 sat29 (CxOk.cons has51 hG CxOk.nil)))
 refine (W51 m).sat hD (fn := Tryz.f51) (by kernel_rfl) (by kernel_rfl) (by kernel_rfl) (Nat.le_of_ble_eq_true (by kernel_rfl)) fun svs b K hP => ?_
 obtain ⟨ps, v, e, hp, hk⟩ := pureS_inv hP
 unfold c51s at e
 split at e
 · rename_i l i
   cases e
   obtain ⟨h01, h02, _⟩ := hp
   obtain ⟨q1, q2, q3, q4⟩ := h02.kids
   have q5 := h02.sz
   have L4 : ∀ (mm : Nat) (j : Nat) (r : List (List SelD)), (kidsD l i).length - j = mm → (j ≤ (kidsD l i).length ∧ r = (((kidsD l i).take j).map (sNorm m l)).filter (keepN (l.getD i default))) → (W51 m).L K 4 (mkS 72 [(0, (.sl (.sels l))), (1, (.nat i)), (5, (.own 2)), (6, (.own 1)), (7, (.nat j))] [(2, .row (.selss r) true), (1, .row (.ints (kidsD l i)) true)] 3) := by
    intro mm
    induction mm using Nat.strongRecOn with
    | _ mm ih =>
     intro j r hm hI
     obtain ⟨k1, k2⟩ := hI
     have k3 : r.length ≤ j := by rw [k2]; exact row_len _ _ _ _
     have k4 : j < (kidsD l i).length → KidAt l m ((kidsD l i).getD j 0) := fun h => q1 _ (mem_getD h)
     have k5 := fun h => (k4 h).sz
     have k6 : ¬ j < (kidsD l i).length → r.flatten.length ≤ l.length := fun h => by rw [k2, show j = (kidsD l i).length from by omega, List.take_length]; exact q3
     refine (W51 m).atL hD (X := have a0 := l.getD i default; have a1 : Out := .val (.sl (.sels (selMade (SelD.mk (a0.kind) (a0.op) (a0.key) (a0.val) (a0.a) (a0.b) (a0.flag) (a0.size)) (r : List (List SelD)).flatten))); have a2 := decide (a0.kind = (21 : Int)); have a3 := (kidsD l i).getD j 0; have a4 := i < l.length; cond (decide (j < (kidsD l i).length)) ((j < (kidsD l i).length) ∧ (j < (kidsD l i).length) ∧ (l.length ≤ 1000000000) ∧ (KidAt l m a3) ∧ a4 ∧ ((!a2) = false → (0 < (sNorm m l a3).length) ∧ True) ∧ cond ((!a2) || (!(decide (((sNorm m l a3).getD 0 default).kind = (1 : Int))))) ((r.length + 1 ≤ 1099511627776) ∧ (j + 1 ≤ 9223372036854775807) ∧ (W51 m).L K 4 (mkS 72 [(0, (.sl (.sels l))), (1, (.nat i)), (5, (.own 4)), (6, (.own 1)), (7, (.nat (j + 1)))] [(4, .row (.selss (r ++ [sNorm m l a3])) true), (1, .row (.ints (kidsD l i)) true)] 5)) ((j + 1 ≤ 9223372036854775807) ∧ (W51 m).L K 4 (mkS 72 [(0, (.sl (.sels l))), (1, (.nat i)), (5, (.own 2)), (6, (.own 1)), (7, (.nat (j + 1)))] [(2, .row (.selss r) true), (1, .row (.ints (kidsD l i)) true)] 3))) (a4 ∧ (a2 = true → a4 ∧ True) ∧ cond (a2 && (decide (a0.val = []))) (cond (decide (r.length = 0)) ((([] : List (List SelD)).length ≤ 1000000000) ∧ (([] : List (List SelD)).flatten.length ≤ 1000000000000) ∧ K (.val (.sl (.sels (selMade (SelD.mk (1 : Int) (0 : Int) [] [] (0 : Int) (0 : Int) (0 : Int) (0 : Int)) ([] : List (List SelD)).flatten)))) none) (cond (decide (r.length = 1)) ((0 < r.length) ∧ (0 < r.length) ∧ K (.val (.sl (.sels (r.getD 0 [])))) none) (a4 ∧ ((r : List (List SelD)).length ≤ 1000000000) ∧ ((r : List (List SelD)).flatten.length ≤ 1000000000000) ∧ K a1 none))) (a4 ∧ ((r : List (List SelD)).length ≤ 1000000000) ∧ ((r : List (List SelD)).flatten.length ≤ 1000000000000) ∧ K a1 none))) (by kernel_rfl) ?_
     refine cndI ?_ ?_ <;> intro h1 <;> simp -failIfUnchanged [-List.getD_eq_getElem?_getD] at h1
     · refine kwz0 ?_
       refine kwz0 ?_
       refine kwz0 (kwz0 ?_)
       refine kwz0 ?_
       refine kwz1 ?_
       refine cndI ?_ ?_ <;> intro h2 <;> simp -failIfUnchanged [-List.getD_eq_getElem?_getD] at h2
       · refine kwz0 ?_
         refine kwz0 ?_
         have e : (((kidsD l i).take (j + 1)).map (sNorm m l)).filter (keepN (l.getD i default)) = r ++ [sNorm m l ((kidsD l i).getD j 0)] := by
          rw [row_step _ _ _ _ h1, ← k2, if_pos (by unfold keepN; simp [-List.getD_eq_getElem?_getD]; exact h2)]
         exact Wk.L.ren [0, 1, 4] (by kernel_rfl) (by kernel_rfl) (by kernel_rfl) (ih _ (by omega) (j + 1) (r ++ [sNorm m l ((kidsD l i).getD j 0)]) rfl ⟨by omega, e.symm⟩)
       refine kwz0 ?_
       have e : (((kidsD l i).take (j + 1)).map (sNorm m l)).filter (keepN (l.getD i default)) = r := by
        rw [row_step _ _ _ _ h1, ← k2, if_neg (by unfold keepN; simp [-List.getD_eq_getElem?_getD]; exact h2), List.append_nil]
       exact ih _ (by omega) (j + 1) r rfl ⟨by omega, e.symm⟩
     refine kwz0 ?_
     refine kwz1 ?_
     refine cndI ?_ ?_ <;> intro h2 <;> simp -failIfUnchanged [-List.getD_eq_getElem?_getD] at h2
     · refine cndI (fun h3 => ?_) (fun h3 => ?_)
       · simp -failIfUnchanged [-List.getD_eq_getElem?_getD] at h3
         refine kwz0 (kwz0 ?_)
         have er : r = normRow m l i := by rw [k2, show j = (kidsD l i).length from by omega, List.take_length]; rfl
         refine knorm hk ?_
         rw [sNorm]
         rw [show List.filter (keepN (l.getD i default)) (List.map (sNorm m l) (kidsD l i)) = r from er.symm]
         rw [if_pos h2, if_pos (by rw [h3]; rfl)]
         rfl
       simp -failIfUnchanged [-List.getD_eq_getElem?_getD] at h3
       refine cndI ?_ ?_ <;> intro h4 <;> simp -failIfUnchanged [-List.getD_eq_getElem?_getD] at h4
       · refine kwz0 ?_
         refine kwz0 ?_
         have er : r = normRow m l i := by rw [k2, show j = (kidsD l i).length from by omega, List.take_length]; rfl
         refine knorm hk ?_
         rw [sNorm]
         rw [show List.filter (keepN (l.getD i default)) (List.map (sNorm m l) (kidsD l i)) = r from er.symm]
         rw [if_pos h2, if_neg (by omega), if_pos h4]
       refine kwz0 ?_
       refine kwz0 (kwz0 ?_)
       have er : r = normRow m l i := by rw [k2, show j = (kidsD l i).length from by omega, List.take_length]; rfl
       refine knorm hk ?_
       rw [sNorm]
       rw [show List.filter (keepN (l.getD i default)) (List.map (sNorm m l) (kidsD l i)) = r from er.symm]
       rw [if_pos h2, if_neg (by intro q; exact h3 (List.length_eq_zero_iff.1 q)), if_neg h4]
     refine kwz0 ?_
     refine kwz0 (kwz0 ?_)
     have er : r = normRow m l i := by rw [k2, show j = (kidsD l i).length from by omega, List.take_length]; rfl
     refine knorm hk ?_
     rw [sNorm]
     rw [show List.filter (keepN (l.getD i default)) (List.map (sNorm m l) (kidsD l i)) = r from er.symm]
     rw [if_neg (fun q => h2 q.1 q.2)]
   refine (W51 m).entry rfl (X := (i < l.length ∧ l.length ≤ 1000000000000) ∧ (0 ≤ (l.getD i default).size ∧ ((i : Nat) : Int) + (l.getD i default).size ≤ l.length) ∧ (∀ k, k ∈ kidsD l i → (l.getD k default).size ≤ 1000000000000) ∧ (W51 m).L K 4 (mkS 72 [(0, (.sl (.sels l))), (1, (.nat i)), (5, .nilsl), (6, (.own 1)), (7, (.nat 0))] [(1, .row (.ints (kidsD l i)) true)] 2)) (by kernel_rfl) ?_
   refine kwz0 (kwz0 (kwz0 ?_))
   exact Wk.L.le (SSle.adopt 5 (T := 79) (x := .selss []) (by kernel_rfl) (by kernel_rfl)) (Wk.L.ren [0, 1, 2] (by kernel_rfl) (by kernel_rfl) (by kernel_rfl) (L4 _ 0 [] rfl ⟨by omega, by simp⟩))
 cases e
theorem sat51 : ∀ m, Sat 51 (pureS (c51 m))
 | 0 => by
  intro g0 w M ω svs args b K _ _ _ hP
  exfalso
  obtain ⟨ps, v, e, hp, hk⟩ := pureS_inv hP
  unfold c51 at e
  split at e
  · cases e
    obtain ⟨T, rest, h1, h2⟩ := hp.2.1
    obtain ⟨x, ks⟩ := T
    rw [ST.ht] at h2
    omega
  cases e
 | m + 1 => sat51s m (sat51 m)
def sNormed (l : List SelD) : List SelD := sNorm l.length l 0
def NormOk (l : List SelD) : Prop := ∃ T : ST, l = T.flat
theorem NormOk.kid {l : List SelD} (h : NormOk l) : KidAt l l.length 0 := by
 obtain ⟨T, h⟩ := h
 exact ⟨T, [], by rw [← h]; simp, by rw [h]; exact ht_len T⟩
theorem NormOk.normed {T : ST} : sNormed T.flat = T.norm.flat := sNorm_eq _ _ _ T [] (by simp) (ht_len T)
theorem NormOk.len {l : List SelD} (h : NormOk l) : 0 < l.length ∧ 0 < (sNormed l).length ∧ (sNormed l).length ≤ l.length := by
 obtain ⟨T, h⟩ := h
 rw [h, NormOk.normed]
 exact ⟨flat_pos T, flat_pos _, norm_len T⟩
def allEq : List SelD → List SelD → Bool
 | [], [] => true
 | x :: a, y :: b => selEq x y && allEq a b
 | _, _ => false
def sameD (l r : List SelD) : Bool := allEq (sNormed l) (sNormed r)
theorem allEq_len : ∀ {a b : List SelD}, a.length ≠ b.length → allEq a b = false
 | [], [], h => absurd rfl h
 | x :: a, y :: b, h => by rw [allEq, allEq_len (by simpa using h), Bool.and_false]
 | [], y :: b, h => rfl
 | x :: a, [], h => rfl
theorem allEq_self : ∀ a : List SelD, allEq a a = true
 | [] => rfl
 | x :: a => by rw [allEq, allEq_self a]; simp [selEq]
theorem allEq_drop {a b : List SelD} {i : Nat} (h : i < a.length) (h' : i < b.length) : allEq (a.drop i) (b.drop i) = (selEq (a.getD i default) (b.getD i default) && allEq (a.drop (i + 1)) (b.drop (i + 1))) := by
 rw [List.drop_eq_getElem_cons h, List.drop_eq_getElem_cons h', allEq]
 simp [List.getD_eq_getElem?_getD, List.getElem?_eq_getElem h, List.getElem?_eq_getElem h']
def group9 (l : List SelD) : List SelD := if (l.getD 0 default).kind = 23 then l else selMade grpNode l
theorem kbool {K : Out → Option SB → Prop} {a c : Bool} (hk : K (.val (.bool a)) none) (e : a = c) : K (.val (.bool c)) none := by rw [e] at hk; exact hk
def c28i (m : Nat) (svs : List SV) (b : Option SB) : QR := match svs, b with
 | [.sl (.sels l)], none => some ([l.length ≤ 1000000000, NormOk l, m = l.length], .sl (.sels (sNormed l)))
 | _, _ => none
noncomputable def W28 (m : Nat) : Wk := ⟨[(51, .pure (c51 m))], bodyOf Tryz.f28, false, false, [.tmp 2], [22], [], []⟩
theorem has28 : Has 28 := Has.of (fn := Tryz.f28) (by kernel_rfl) (by kernel_rfl) (by kernel_rfl)
theorem kwz2 {p q : Prop} (k : q) (h : p := by first | omega | (rw [h03]; exact h02.kid)) : p ∧ q := ⟨h, k⟩
theorem sat28i (m : Nat) : Sat 28 (pureS (c28i m)) := by
 have hD : CxOk (W28 m).D := (CxOk.cons has51 (sat51 m) CxOk.nil)
 refine (W28 m).sat hD (fn := Tryz.f28) (by kernel_rfl) (by kernel_rfl) (by kernel_rfl) (Nat.le_of_ble_eq_true (by kernel_rfl)) fun svs b K hP => ?_
 obtain ⟨ps, v, e, hp, hk⟩ := pureS_inv hP
 unfold c28i at e
 split at e
 · rename_i l
   cases e
   obtain ⟨h01, h02, h03, _⟩ := hp
   have q := h02.len
   refine (W28 m).entry rfl (X := cond (decide (l.length = 0)) (K (.val (.sl (.sels []))) none) ((l.length ≤ 1000000000) ∧ (KidAt l m 0) ∧ K (.val (.sl (.sels (sNorm m l 0)))) none)) (by kernel_rfl) ?_
   refine cndI ?_ ?_ <;> intro h1 <;> simp -failIfUnchanged [-List.getD_eq_getElem?_getD] at h1
   · simp [h1] at q
   refine kwz2 (kwz2 ?_)
   exact knorm hk (by rw [h03]; rfl)
 cases e
def c28 (svs : List SV) (b : Option SB) : QR := match svs, b with
 | [.sl (.sels l)], none => some ([l.length ≤ 1000000000, NormOk l], .sl (.sels (sNormed l)))
 | _, _ => none
theorem sat28 : Sat 28 (pureS c28) := by
 refine Sat.imp (Sat.ex sat28i) fun svs b K h => ?_
 obtain ⟨ps, v, e, hp, hk⟩ := pureS_inv h
 unfold c28 at e
 split at e
 · cases e
   rename_i l
   exact ⟨l.length, hp.1, hp.2.1, rfl, hk⟩
 cases e
def c12 (svs : List SV) (b : Option SB) : QR := match svs, b with
 | [.sl (.sels l), .sl (.sels r)], none => some ([l.length ≤ 1000000000 ∧ r.length ≤ 1000000000, NormOk l, NormOk r], .bool (sameD l r))
 | _, _ => none
noncomputable def W12 : Wk := ⟨[(28, .pure c28)], bodyOf Tryz.f12, false, false, [.tmp 4], [4], [(5, 35)], []⟩
theorem has12 : Has 12 := Has.of (fn := Tryz.f12) (by kernel_rfl) (by kernel_rfl) (by kernel_rfl)
theorem kwz3 {p q : Prop} (k : q) (h : p := by first | omega | assumption) : p ∧ q := ⟨h, k⟩
theorem sat12 : Sat 12 (pureS c12) := by
 have hD : CxOk W12.D := (CxOk.cons has28 sat28 CxOk.nil)
 refine W12.sat hD (fn := Tryz.f12) (by kernel_rfl) (by kernel_rfl) (by kernel_rfl) (Nat.le_of_ble_eq_true (by kernel_rfl)) fun svs b K hP => ?_
 obtain ⟨ps, v, e, hp, hk⟩ := pureS_inv hP
 unfold c12 at e
 split at e
 · rename_i l r
   cases e
   obtain ⟨h01, h02, h03, _⟩ := hp
   have q1 := h02.len
   have q2 := h03.len
   have L5 : ∀ (mm : Nat) (i : Nat), (sNormed l).length - i = mm → ((sNormed l).length = (sNormed r).length ∧ i ≤ (sNormed l).length ∧ sameD l r = allEq ((sNormed l).drop i) ((sNormed r).drop i)) → W12.L K 5 (mkS 30 [(0, (.sl (.sels (sNormed l)))), (1, (.sl (.sels (sNormed r)))), (5, (.nat i))] [] 1) := by
    intro mm
    induction mm using Nat.strongRecOn with
    | _ mm ih =>
     intro i hm hI
     obtain ⟨k1, k2, k3⟩ := hI
     refine W12.atL hD (X := cond (decide (i < (sNormed l).length)) ((i < (sNormed l).length) ∧ (i < (sNormed r).length) ∧ cond (!(selEq ((sNormed l).getD i default) ((sNormed r).getD i default))) (K (.val (.bool false)) none) ((i + 1 ≤ 9223372036854775807) ∧ (W12).L K 5 (mkS 30 [(0, (.sl (.sels (sNormed l)))), (1, (.sl (.sels (sNormed r)))), (5, (.nat (i + 1)))] [] 1))) (K (.val (.bool true)) none)) (by kernel_rfl) ?_
     refine cndI ?_ ?_ <;> intro h1 <;> simp -failIfUnchanged [-List.getD_eq_getElem?_getD] at h1
     · refine kwz3 ?_
       refine kwz3 ?_
       refine cndI ?_ ?_ <;> intro h2 <;> simp -failIfUnchanged [-List.getD_eq_getElem?_getD] at h2
       · refine kbool hk ?_
         rw [k3, allEq_drop h1 (by omega), h2]; rfl
       refine kwz3 ?_
       exact ih _ (by omega) (i + 1) rfl ⟨k1, by omega, by rw [k3, allEq_drop h1 (by omega), h2]; rfl⟩
     refine kbool hk ?_
     rw [k3, List.drop_eq_nil_iff.2 h1, List.drop_eq_nil_iff.2 (by omega)]; rfl
   refine W12.entry rfl (X := (l.length ≤ 1000000000) ∧ (NormOk l) ∧ (r.length ≤ 1000000000) ∧ (NormOk r) ∧ cond (!(decide ((sNormed l).length = (sNormed r).length))) (K (.val (.bool false)) none) ((W12).L K 5 (mkS 30 [(0, (.sl (.sels (sNormed l)))), (1, (.sl (.sels (sNormed r)))), (5, (.nat 0))] [] 1))) (by kernel_rfl) ?_
   refine kwz3 (kwz3 ?_)
   refine kwz3 (kwz3 ?_)
   refine cndI ?_ ?_ <;> intro h1 <;> simp -failIfUnchanged [-List.getD_eq_getElem?_getD] at h1
   · refine kbool hk ?_
     exact allEq_len h1
   exact L5 _ 0 rfl ⟨h1, by omega, rfl⟩
 cases e
def c13 (svs : List SV) (b : Option SB) : QR := match svs, b with
 | [.sl (.sels l)], none => some ([0 < l.length ∧ l.length ≤ 1000000000], .sl (.sels (group9 l)))
 | _, _ => none
noncomputable def W13 : Wk := ⟨[(29, .fn c29)], bodyOf Tryz.f13, false, false, [.tmp 2], [22], [], []⟩
theorem has13 : Has 13 := Has.of (fn := Tryz.f13) (by kernel_rfl) (by kernel_rfl) (by kernel_rfl)
theorem kwz4 {p q : Prop} (k : q) (h : p := by first | omega | (simp; done) | (simp; omega)) : p ∧ q := ⟨h, k⟩
theorem sat13 : Sat 13 (pureS c13) := by
 have hD : CxOk W13.D := (CxOk.cons has29 sat29 CxOk.nil)
 refine W13.sat hD (fn := Tryz.f13) (by kernel_rfl) (by kernel_rfl) (by kernel_rfl) (Nat.le_of_ble_eq_true (by kernel_rfl)) fun svs b K hP => ?_
 obtain ⟨ps, v, e, hp, hk⟩ := pureS_inv hP
 unfold c13 at e
 split at e
 · rename_i l
   cases e
   obtain ⟨h01, _⟩ := hp
   refine W13.entry rfl (X := (0 < l.length) ∧ cond (decide ((l.getD 0 default).kind = (23 : Int))) (K (.val (.sl (.sels l))) none) ((([l] : List (List SelD)).length ≤ 1000000000) ∧ (([l] : List (List SelD)).flatten.length ≤ 1000000000000) ∧ K (.val (.sl (.sels (selMade (SelD.mk (23 : Int) (0 : Int) [] [] (0 : Int) (0 : Int) (0 : Int) (0 : Int)) ([l] : List (List SelD)).flatten)))) none)) (by kernel_rfl) ?_
   refine kwz4 ?_
   refine cndI ?_ ?_ <;> intro h1 <;> simp -failIfUnchanged [-List.getD_eq_getElem?_getD] at h1
   · exact knorm hk (by unfold group9; rw [if_pos h1])
   refine kwz4 (kwz4 ?_)
   exact knorm hk (by unfold group9; rw [if_neg h1]; simp [grpNode])
 cases e
end
end Go.Proofs.YtengepcafdnalaaGreatDoor
