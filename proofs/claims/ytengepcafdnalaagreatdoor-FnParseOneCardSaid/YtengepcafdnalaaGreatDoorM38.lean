/-
  Parts of the proof that the law FnParseOne holds for every input (texts Na). Conditions: none.
-/
import Derived.Test.YtengepcafdnalaaGreatDoorM37
namespace Go.Proofs.YtengepcafdnalaaGreatDoor
section
open Go Go.RowKit
set_option maxRecDepth 20000
def c78 (svs : List SV) (b : Option SB) : QR := match svs, b with
 | [.str l], none => some ([], .bool (isElB l))
 | _, _ => none
noncomputable def W78 : Wk := ⟨[], bodyOf Tryz.f78, false, false, [.tmp 2], [4], [], []⟩
theorem has78 : Has 78 := Has.of (fn := Tryz.f78) (by kernel_rfl) (by kernel_rfl) (by kernel_rfl)
theorem sat78 : Sat 78 (pureS c78) := by
 have hD : CxOk W78.D := CxOk.nil
 refine W78.sat hD (fn := Tryz.f78) (by kernel_rfl) (by kernel_rfl) (by kernel_rfl) (Nat.le_of_ble_eq_true (by kernel_rfl)) fun svs b K hP => ?_
 obtain ⟨ps, v, e, hp, hk⟩ := pureS_inv hP
 unfold c78 at e
 split at e
 · rename_i l
   cases e
   refine W78.entry rfl (X := K (.val (.bool ((((decide (l = [98, 101, 102, 111, 114, 101])) || (decide (l = [97, 102, 116, 101, 114]))) || (decide (l = [102, 105, 114, 115, 116, 45, 108, 105, 110, 101]))) || (decide (l = [102, 105, 114, 115, 116, 45, 108, 101, 116, 116, 101, 114]))))) none) (by kernel_rfl) ?_
   exact hk
 cases e
def c80 (svs : List SV) (b : Option SB) : QR := match svs, b with
 | [.int .i64 n], none => some ([], .bool (isSimB n))
 | _, _ => none
noncomputable def W80 : Wk := ⟨[], bodyOf Tryz.f80, false, false, [.tmp 2], [4], [], []⟩
theorem has80 : Has 80 := Has.of (fn := Tryz.f80) (by kernel_rfl) (by kernel_rfl) (by kernel_rfl)
theorem sat80 : Sat 80 (pureS c80) := by
 have hD : CxOk W80.D := CxOk.nil
 refine W80.sat hD (fn := Tryz.f80) (by kernel_rfl) (by kernel_rfl) (by kernel_rfl) (Nat.le_of_ble_eq_true (by kernel_rfl)) fun svs b K hP => ?_
 obtain ⟨ps, v, e, hp, hk⟩ := pureS_inv hP
 unfold c80 at e
 split at e
 · rename_i n
   cases e
   refine W80.entry rfl (X := K (.val (.bool ((decide ((1 : Int) ≤ n)) && (decide (n ≤ (20 : Int)))))) none) (by kernel_rfl) ?_
   exact hk
 cases e
def c81 (svs : List SV) (b : Option SB) : QR := match svs, b with
 | [.int .i64 n], none => some ([0 ≤ n ∧ n < 9], .str (signTxt.getD n.toNat []))
 | _, _ => none
noncomputable def W81 : Wk := ⟨[], bodyOf Tryz.f81, false, false, [.tmp 2], [9], [], []⟩
theorem has81 : Has 81 := Has.of (fn := Tryz.f81) (by kernel_rfl) (by kernel_rfl) (by kernel_rfl)
theorem naz0 {p q : Prop} (k : q) (h : p := by first | omega | (simp; done) | (simp; omega) | (simp; assumption)) : p ∧ q := ⟨h, k⟩
theorem sat81 : Sat 81 (pureS c81) := by
 have hD : CxOk W81.D := CxOk.nil
 refine W81.sat hD (fn := Tryz.f81) (by kernel_rfl) (by kernel_rfl) (by kernel_rfl) (Nat.le_of_ble_eq_true (by kernel_rfl)) fun svs b K hP => ?_
 obtain ⟨ps, v, e, hp, hk⟩ := pureS_inv hP
 unfold c81 at e
 split at e
 · rename_i n
   cases e
   obtain ⟨h01, _⟩ := hp
   refine W81.entry rfl (X := (0 ≤ n ∧ n < (9 : Nat)) ∧ ((n).toNat < 9) ∧ K (.val (.str (([[], [], [61], [33, 61], [126, 61], [124, 61], [94, 61], [36, 61], [42, 61]] : List (List UInt8)).getD ((n).toNat) []))) none) (by kernel_rfl) ?_
   refine naz0 ?_
   refine naz0 ?_
   exact hk
 cases e
theorem any_at {l : List SelD} {i : Nat} (h : i < l.length) (e : psNode (l.getD i default) = true) : l.any psNode = true := by
 rw [List.any_eq_true]
 refine ⟨l[i], List.getElem_mem h, ?_⟩
 rw [List.getD_eq_getElem?_getD, List.getElem?_eq_getElem h] at e
 exact e
theorem any_no {l : List SelD} (e : ∀ j, j < l.length → psNode (l.getD j default) = false) : l.any psNode = false := by
 rw [List.any_eq_false]
 intro x hx
 obtain ⟨i, hi, rfl⟩ := List.getElem_of_mem hx
 have := e i hi
 rw [List.getD_eq_getElem?_getD, List.getElem?_eq_getElem hi] at this
 simpa using this
def c79 (svs : List SV) (b : Option SB) : QR := match svs, b with
 | [.sl (.sels l)], none => some ([l.length ≤ 1000000000], .bool (l.any psNode))
 | _, _ => none
noncomputable def W79 : Wk := ⟨[], bodyOf Tryz.f79, false, false, [.tmp 2], [4], [(2, 9)], []⟩
theorem has79 : Has 79 := Has.of (fn := Tryz.f79) (by kernel_rfl) (by kernel_rfl) (by kernel_rfl)
theorem naz1 {c0 p0 q : Prop} (k : q) (h : c0 → p0 ∧ True := by intro g0; (try simp at g0); exact ⟨(by first | omega | (simp; done) | (simp; omega) | (simp; assumption)), trivial⟩) : (c0 → p0 ∧ True) ∧ q := ⟨h, k⟩
theorem sat79 : Sat 79 (pureS c79) := by
 have hD : CxOk W79.D := CxOk.nil
 refine W79.sat hD (fn := Tryz.f79) (by kernel_rfl) (by kernel_rfl) (by kernel_rfl) (Nat.le_of_ble_eq_true (by kernel_rfl)) fun svs b K hP => ?_
 obtain ⟨ps, v, e, hp, hk⟩ := pureS_inv hP
 unfold c79 at e
 split at e
 · rename_i l
   cases e
   obtain ⟨h01, _⟩ := hp
   have L2 : ∀ (mm : Nat) (i : Nat), l.length - i = mm → (i ≤ l.length ∧ ∀ j, j < i → psNode (l.getD j default) = false) → W79.L K 2 (mkS 24 [(0, (.sl (.sels l))), (3, (.nat i))] [] 1) := by
    intro mm
    induction mm using Nat.strongRecOn with
    | _ mm ih =>
     intro i hm hI
     obtain ⟨k1, k2⟩ := hI
     refine W79.atL hD (X := have a0 := decide ((l.getD i default).kind = (21 : Int)); cond (decide (i < l.length)) ((i < l.length) ∧ (a0 = true → (i < l.length) ∧ True) ∧ cond (a0 && (!(decide ((l.getD i default).val = [])))) (K (.val (.bool true)) none) ((i + 1 ≤ 9223372036854775807) ∧ (W79).L K 2 (mkS 24 [(0, (.sl (.sels l))), (3, (.nat (i + 1)))] [] 1))) (K (.val (.bool false)) none)) (by kernel_rfl) ?_
     refine cndI ?_ ?_ <;> intro h1 <;> simp -failIfUnchanged [-List.getD_eq_getElem?_getD, -UInt8.toNat_or] at h1
     · refine naz0 ?_
       refine naz1 ?_
       refine cndI ?_ ?_ <;> intro h2 <;> simp -failIfUnchanged [-List.getD_eq_getElem?_getD, -UInt8.toNat_or] at h2
       · rw [any_at h1 (by unfold psNode; simpa using h2)] at hk
         exact hk
       refine naz0 ?_
       exact ih _ (by omega) _ rfl ⟨by omega, fun j hj => by
        rcases (by omega : j < i ∨ j = i) with q | q
        · exact k2 j q
        subst q; unfold psNode; simpa using h2⟩
     rw [any_no (fun j hj => k2 j (by omega))] at hk
     exact hk
   refine W79.entry rfl (X := (W79).L K 2 (mkS 24 [(0, (.sl (.sels l))), (3, (.nat 0))] [] 1)) (by kernel_rfl) ?_
   exact L2 _ _ rfl ⟨by omega, fun j hj => by omega⟩
 cases e
theorem decS_len (n : Nat) : (decS n).length ≤ n + 1 := by
 induction n using Nat.strongRecOn with
 | _ n ih =>
  rw [decS]
  split
  · simp; omega
  have h1 := ih (n / 10) (by omega)
  have h2 := ih (n % 10) (by omega)
  simp only [List.length_append]
  omega
def c101 (m : Nat) (svs : List SV) (b : Option SB) : QR := match svs, b with
 | [.nat n], none => some ([n < m, n ≤ 1000000000000000000], .str (decS n))
 | _, _ => none
theorem has101 : Has 101 := Has.of (fn := Tryz.f101) (by kernel_rfl) (by kernel_rfl) (by kernel_rfl)
def c101s (m : Nat) (svs : List SV) (b : Option SB) : QR := match svs, b with
 | [.nat n], none => some ([n < m + 1, n ≤ 1000000000000000000], .str (decS n))
 | _, _ => none
noncomputable def W101 (m : Nat) : Wk := ⟨[(101, .pure (c101 m))], bodyOf Tryz.f101, false, false, [.tmp 2], [9], [], []⟩
theorem naz2 {p q : Prop} (k : q) (h : p := by first | omega | (simp; done) | (simp; omega) | (dsimp only; omega) | (refine ⟨?_, ?_⟩ <;> omega) | (have h8 := decS_len (n / 10); have h9 := decS_len (n % 10); omega)) : p ∧ q := ⟨h, k⟩
theorem sat101s (m : Nat) (hG : Sat 101 (pureS (c101 m))) : Sat 101 (pureS (c101s m)) := by
 have hD : CxOk (W101 m).D := (CxOk.cons has101 hG CxOk.nil)
 refine (W101 m).sat hD (fn := Tryz.f101) (by kernel_rfl) (by kernel_rfl) (by kernel_rfl) (Nat.le_of_ble_eq_true (by kernel_rfl)) fun svs b K hP => ?_
 obtain ⟨ps, v, e, hp, hk⟩ := pureS_inv hP
 unfold c101s at e
 split at e
 · rename_i n
   cases e
   obtain ⟨h01, h02, _⟩ := hp
   refine (W101 m).entry rfl (X := cond (decide (n < 10)) ((n + 1 ≤ 9223372036854775807) ∧ (n ≤ n + 1 ∧ n + 1 ≤ 10) ∧ K (.val (.str (([48, 49, 50, 51, 52, 53, 54, 55, 56, 57].take (n + 1)).drop n))) none) ((n ≤ 9223372036854775807 ∧ 0 < 10) ∧ (n / 10 < m) ∧ (n / 10 ≤ 1000000000000000000) ∧ (0 < 10) ∧ (n % 10 < m) ∧ (n % 10 ≤ 1000000000000000000) ∧ ((decS (n / 10)).length + (decS (n % 10)).length ≤ 2305843009213693952) ∧ K (.val (.str (decS (n / 10) ++ (decS (n % 10))))) none)) (by kernel_rfl) ?_
   refine cndI ?_ ?_ <;> intro h1 <;> simp -failIfUnchanged [-List.getD_eq_getElem?_getD, -UInt8.toNat_or] at h1
   · refine naz2 ?_
     refine naz2 ?_
     rw [decS, if_pos h1] at hk
     exact hk
   refine naz2 ?_
   refine naz2 (naz2 ?_)
   refine naz2 ?_
   refine naz2 (naz2 ?_)
   refine naz2 ?_
   rw [decS, if_neg (by omega)] at hk
   exact hk
 cases e
theorem sat101 : ∀ m, Sat 101 (pureS (c101 m))
 | 0 => by
  intro g0 w M ω svs args b K hS hn hr hP
  obtain ⟨ps, v, e, hp, hk⟩ := pureS_inv hP
  unfold c101 at e
  split at e
  · cases e; exact absurd hp.1 (Nat.not_lt_zero _)
  cases e
 | m + 1 => sat101s m (sat101 m)
theorem sat101_all : Sat 101 (pureS fun svs b => match svs, b with
 | [.nat n], none => some ([n ≤ 1000000000000000000], .str (decS n))
 | _, _ => none) := by
 refine Sat.imp (Sat.ex sat101) fun svs b K h => ?_
 obtain ⟨ps, v, e, hp, hk⟩ := pureS_inv h
 split at e
 · rename_i n
   cases e
   exact ⟨n + 1, Nat.lt_succ_self n, hp.1, hk⟩
 cases e
def c101z (svs : List SV) (b : Option SB) : QR := match svs, b with
 | [x], none => match toI x with
  | some n => some ([0 ≤ n ∧ n ≤ 1000000000000000000], .str (decS n.toNat))
  | _ => none
 | _, _ => none
theorem sat101z : Sat 101 (pureS c101z) := by
 refine Sat.wk sat101_all fun svs b K h => ?_
 obtain ⟨ps, v, e, hp, hk⟩ := pureS_inv h
 unfold c101z at e
 split at e
 · rename_i x
   split at e
   · rename_i n hx
     cases e
     refine ⟨[.nat n.toNat], ⟨fun ω v hr => ?_, trivial⟩, by have := hp.1; omega, hk⟩
     have q := toI_rel hx hr
     have q2 := q.int_inv
     subst q2
     have q3 := Rel.nat (ω := ω) n.toNat
     rwa [show ((n.toNat : Nat) : Int) = n by have := hp.1; omega] at q3
   cases e
 cases e
end
end Go.Proofs.YtengepcafdnalaaGreatDoor
