/-
  Parts of the proof that the law FnParseOne holds for every input (texts Nf, Lx). Conditions: none.
-/
import Derived.Test.YtengepcafdnalaaGreatDoorM42
import Derived.Test.YtengepcafdnalaaGreatDoorCards
import Derived.Test.YtengepcafdnalaaGreatDoorTie
import Derived.ProofKit
import Derived.LaidMore
import Derived.OpenShut
import Derived.Stop.Joined
import Derived.JoinedOf
import Derived.MakeChecks
import Derived.ChangeMaps5
import Derived.SevenTiedAt
import Derived.Deep.Slices
import Derived.WideKeyArgs
import Derived.ChangeOld
namespace Go.Proofs.YtengepcafdnalaaGreatDoor
section
open Go Go.RowKit
set_option maxRecDepth 20000
def c18 (svs : List SV) (b : Option SB) : QR := match svs, b with
 | [.str t, .sl (.sels l)], none => some ([SameOk t l], .bool true)
 | _, _ => none
noncomputable def W18 : Wk := ⟨[(11, .plain c11), (12, .pure c12), (13, .pure c13)], bodyOf Tryz.f18, false, false, [.tmp 4], [4], [], []⟩
theorem has18 : Has 18 := Has.of (fn := Tryz.f18) (by kernel_rfl) (by kernel_rfl) (by kernel_rfl)
theorem nfz2 {c0 p0 p1 p2 q : Prop} (k : q) (h : c0 → p0 ∧ p1 ∧ p2 ∧ True := by intro g0; (try simp at g0); exact ⟨(by first | omega | (obtain rfl := Option.some.inj (h02.symm.trans h1); first | omega | exact h05 | exact h06)), (by first | omega | (obtain rfl := Option.some.inj (h02.symm.trans h1); first | omega | exact h05 | exact h06)), (by first | omega | (obtain rfl := Option.some.inj (h02.symm.trans h1); first | omega | exact h05 | exact h06)), trivial⟩) : (c0 → p0 ∧ p1 ∧ p2 ∧ True) ∧ q := ⟨h, k⟩
theorem nfz1 {c0 p0 q : Prop} (k : q) (h : c0 → p0 ∧ True := by intro g0; (try simp at g0); exact ⟨(by first | omega | (obtain rfl := Option.some.inj (h02.symm.trans h1); first | omega | exact h05 | exact h06)), trivial⟩) : (c0 → p0 ∧ True) ∧ q := ⟨h, k⟩
theorem nfz0 {p q : Prop} (k : q) (h : p := by first | omega | (obtain rfl := Option.some.inj (h02.symm.trans h1); first | omega | exact h05 | exact h06)) : p ∧ q := ⟨h, k⟩
theorem sat18 : Sat 18 (pureS c18) := by
 have hD : CxOk W18.D := (CxOk.cons has11 sat11 (CxOk.cons has12 sat12 (CxOk.cons has13 sat13 CxOk.nil)))
 refine W18.sat hD (fn := Tryz.f18) (by kernel_rfl) (by kernel_rfl) (by kernel_rfl) (Nat.le_of_ble_eq_true (by kernel_rfl)) fun svs b K hP => ?_
 obtain ⟨ps, v, e, hp, hk⟩ := pureS_inv hP
 unfold c18 at e
 split at e
 · rename_i t l
   cases e
   obtain ⟨⟨h01, v, h02, h03, h04, h05, h06, h07⟩, _⟩ := hp
   have g1 := group9_le (parseData true v)
   have g2 := group9_le l
   refine W18.entry rfl (X := (t.length ≤ 1000000) ∧ optK (iParse t true true) (fun v1 => ((decide (0 < (parseData true v1).length)) = true → (0 < (parseData true v1).length ∧ (parseData true v1).length ≤ 1000000000) ∧ True) ∧ ((decide (0 < (parseData true v1).length)) = true → (0 < l.length ∧ l.length ≤ 1000000000) ∧ True) ∧ ((decide (0 < (parseData true v1).length)) = true → ((group9 (parseData true v1)).length ≤ 1000000000 ∧ (group9 l).length ≤ 1000000000) ∧ (NormOk (group9 (parseData true v1))) ∧ (NormOk (group9 l)) ∧ True) ∧ K (.val (.bool ((decide (0 < (parseData true v1).length)) && (sameD (group9 (parseData true v1)) (group9 l))))) none) ((false = true → (0 < 0 ∧ 0 ≤ 1000000000) ∧ True) ∧ (false = true → (0 < l.length ∧ l.length ≤ 1000000000) ∧ True) ∧ (false = true → ((group9 []).length ≤ 1000000000 ∧ (group9 l).length ≤ 1000000000) ∧ (NormOk (group9 [])) ∧ (NormOk (group9 l)) ∧ True) ∧ K (.val (.bool false)) none)) (by kernel_rfl) ?_
   refine nfz0 ?_
   refine optI (fun v1 h1 => ?_) (fun h1 => ?_)
   ·
    refine nfz1 ?_
    refine nfz1 ?_
    refine nfz2 ?_
    obtain rfl := Option.some.inj (h02.symm.trans h1)
    refine kbool hk ?_
    rw [h07, decide_eq_true h03.1]; rfl
   refine ⟨fun g0 => (by cases g0), ?_⟩
   refine ⟨fun g0 => (by cases g0), ?_⟩
   refine ⟨fun g0 => (by cases g0), ?_⟩
   rw [h02] at h1; cases h1
 cases e
def c6 (svs : List SV) (b : Option SB) : QR := match svs, b with
 | [.sl (.sels l)], none => some ([l.length ≤ 9223372036854775807], .bool true)
 | _, _ => none
noncomputable def W6 : Wk := ⟨[(14, .pure c14), (15, .pure c15), (16, .pure c16), (18, .pure c18)], bodyOf Tryz.f6, false, false, [.tmp 2], [4], [], []⟩
theorem nfz5 {c0 p0 q : Prop} (k : q) (h : c0 → p0 ∧ True := by intro g0; (try simp at g0); exact ⟨(by first | omega | assumption | (obtain ⟨T, q1, q2⟩ := look_written g0; have := q1.n; have := q1.w; first | omega | (constructor <;> omega) | exact fun _ => q1.wat | exact q2)), trivial⟩) : (c0 → p0 ∧ True) ∧ q := ⟨h, k⟩
theorem nfz4 {c0 p0 p1 q : Prop} (k : q) (h : c0 → p0 ∧ p1 ∧ True := by intro g0; (try simp at g0); exact ⟨(by first | omega | assumption | (obtain ⟨T, q1, q2⟩ := look_written g0; have := q1.n; have := q1.w; first | omega | (constructor <;> omega) | exact fun _ => q1.wat | exact q2)), (by first | omega | assumption | (obtain ⟨T, q1, q2⟩ := look_written g0; have := q1.n; have := q1.w; first | omega | (constructor <;> omega) | exact fun _ => q1.wat | exact q2)), trivial⟩) : (c0 → p0 ∧ p1 ∧ True) ∧ q := ⟨h, k⟩
theorem nfz3 {p q : Prop} (k : q) (h : p := by first | omega | assumption | (obtain ⟨T, q1, q2⟩ := look_written g0; have := q1.n; have := q1.w; first | omega | (constructor <;> omega) | exact fun _ => q1.wat | exact q2)) : p ∧ q := ⟨h, k⟩
theorem sat6 : Sat 6 (pureS c6) := by
 have hD : CxOk W6.D := (CxOk.cons has14 sat14 (CxOk.cons has15 sat15 (CxOk.cons has16 sat16 (CxOk.cons has18 sat18 CxOk.nil))))
 refine W6.sat hD (fn := Tryz.f6) (by kernel_rfl) (by kernel_rfl) (by kernel_rfl) (Nat.le_of_ble_eq_true (by kernel_rfl)) fun svs b K hP => ?_
 obtain ⟨ps, v, e, hp, hk⟩ := pureS_inv hP
 unfold c6 at e
 split at e
 · rename_i l
   cases e
   obtain ⟨h01, _⟩ := hp
   refine W6.entry rfl (X := (l.length ≤ 9223372036854775807) ∧ cond (!(fitsB l)) (K (.val (.bool true)) none) ((fitsB l = true) ∧ ((!(writB l)) = false → (l.length ≤ 2000 ∧ wtL l ≤ 100000) ∧ (l.length ≠ 0 → WAt l 2000 0) ∧ True) ∧ ((!(writB l)) = false → (SameOk (writtenS l) l) ∧ True) ∧ K (.val (.bool ((!(writB l)) || true))) none)) (by kernel_rfl) ?_
   refine nfz3 ?_
   refine cndI ?_ ?_ <;> intro h1 <;> simp -failIfUnchanged [-List.getD_eq_getElem?_getD, -UInt8.toNat_or] at h1
   · exact hk
   refine nfz3 ?_
   refine nfz4 ?_
   refine nfz5 ?_
   exact kbool hk (by simp)
 cases e
theorem any_take {l : List SelD} {i : Nat} (h : i < l.length) : (l.take (i + 1)).any psNode = ((l.take i).any psNode || psNode (l.getD i default)) := by
 rw [List.take_add_one, List.getElem?_eq_getElem h, List.any_append]
 simp [List.getD_eq_getElem?_getD, List.getElem?_eq_getElem h]
def c4 (svs : List SV) (b : Option SB) : QR := match svs, b with
 | [.sl (.sels l), .bool p], none => some ([l.length ≤ 9223372036854775807], .bool true)
 | _, _ => none
noncomputable def W4 : Wk := ⟨[(11, .plain c11), (12, .pure c12), (13, .pure c13), (14, .pure c14), (15, .pure c15), (16, .pure c16), (17, .fn c17)], bodyOf Tryz.f4, false, false, [.tmp 4], [4], [(10, 4035)], []⟩
theorem nfz9 {c0 c1 p0 p1 p2 q : Prop} (k : q) (h : c0 → c1 → p0 ∧ p1 ∧ p2 ∧ True := by intro g0 g1; (try simp at g0); (try simp at g1); exact ⟨(by first | omega | exact fun k hk => by (have := (q7 k hk).2.1; omega) | (obtain ⟨a1, a2, a3, a4, a5, a6⟩ := k6 (by first | exact g0 | exact g0.1); first | omega | exact a4 | exact a5) | (obtain ⟨T, q1⟩ := writ_look h2; have := q1.n; have := q1.w; have := q1.len; first | omega | (constructor <;> omega) | exact fun _ => q1.wat)), (by first | omega | exact fun k hk => by (have := (q7 k hk).2.1; omega) | (obtain ⟨a1, a2, a3, a4, a5, a6⟩ := k6 (by first | exact g0 | exact g0.1); first | omega | exact a4 | exact a5) | (obtain ⟨T, q1⟩ := writ_look h2; have := q1.n; have := q1.w; have := q1.len; first | omega | (constructor <;> omega) | exact fun _ => q1.wat)), (by first | omega | exact fun k hk => by (have := (q7 k hk).2.1; omega) | (obtain ⟨a1, a2, a3, a4, a5, a6⟩ := k6 (by first | exact g0 | exact g0.1); first | omega | exact a4 | exact a5) | (obtain ⟨T, q1⟩ := writ_look h2; have := q1.n; have := q1.w; have := q1.len; first | omega | (constructor <;> omega) | exact fun _ => q1.wat)), trivial⟩) : (c0 → c1 → p0 ∧ p1 ∧ p2 ∧ True) ∧ q := ⟨h, k⟩
theorem nfz8 {p q : Prop} (k : q) (h : p := by first | omega | exact fun k hk => by (have := (q7 k hk).2.1; omega) | (obtain ⟨a1, a2, a3, a4, a5, a6⟩ := k6 (by first | exact g0 | exact g0.1); first | omega | exact a4 | exact a5) | (obtain ⟨T, q1⟩ := writ_look h2; have := q1.n; have := q1.w; have := q1.len; first | omega | (constructor <;> omega) | exact fun _ => q1.wat)) : p ∧ q := ⟨h, k⟩
theorem nfz7 {c0 c1 p0 q : Prop} (k : q) (h : c0 → c1 → p0 ∧ True := by intro g0 g1; (try simp at g0); (try simp at g1); exact ⟨(by first | omega | exact fun k hk => by (have := (q7 k hk).2.1; omega) | (obtain ⟨a1, a2, a3, a4, a5, a6⟩ := k6 (by first | exact g0 | exact g0.1); first | omega | exact a4 | exact a5) | (obtain ⟨T, q1⟩ := writ_look h2; have := q1.n; have := q1.w; have := q1.len; first | omega | (constructor <;> omega) | exact fun _ => q1.wat)), trivial⟩) : (c0 → c1 → p0 ∧ True) ∧ q := ⟨h, k⟩
theorem nfz6 {c0 p0 q : Prop} (k : q) (h : c0 → p0 ∧ True := by intro g0; (try simp at g0); exact ⟨(by first | omega | exact fun k hk => by (have := (q7 k hk).2.1; omega) | (obtain ⟨a1, a2, a3, a4, a5, a6⟩ := k6 (by first | exact g0 | exact g0.1); first | omega | exact a4 | exact a5) | (obtain ⟨T, q1⟩ := writ_look h2; have := q1.n; have := q1.w; have := q1.len; first | omega | (constructor <;> omega) | exact fun _ => q1.wat)), trivial⟩) : (c0 → p0 ∧ True) ∧ q := ⟨h, k⟩
theorem sat4 : Sat 4 (pureS c4) := by
 have hD : CxOk W4.D := (CxOk.cons has11 sat11 (CxOk.cons has12 sat12 (CxOk.cons has13 sat13 (CxOk.cons has14 sat14 (CxOk.cons has15 sat15 (CxOk.cons has16 sat16 (CxOk.cons has17 sat17 CxOk.nil)))))))
 refine W4.sat hD (fn := Tryz.f4) (by kernel_rfl) (by kernel_rfl) (by kernel_rfl) (Nat.le_of_ble_eq_true (by kernel_rfl)) fun svs b K hP => ?_
 obtain ⟨ps, v, e, hp, hk⟩ := pureS_inv hP
 unfold c4 at e
 split at e
 · rename_i l p
   cases e
   obtain ⟨h01, _⟩ := hp
   have L10 : ∀ (mm : Nat) (g : List SelD) (ok : Bool) (one : List SelD) (is has : Bool) (i : Nat), l.length - i = mm → (writB l = true ∧ OneOk l p g ok one is ∧ i ≤ l.length ∧ has = (l.take i).any psNode) → W4.L K 10 (mkS 89 [(0, (.sl (.sels l))), (1, (.bool p)), (6, (.sl (.sels g))), (7, (.bool ok)), (8, (.sl (.sels one))), (9, (.bool is)), (10, (.bool has)), (11, (.nat i))] [] 1) := by
    intro mm
    induction mm using Nat.strongRecOn with
    | _ mm ih =>
     intro g ok one is has i hm hI
     obtain ⟨k0, k1, k2, k3⟩ := hI
     obtain ⟨T, q1⟩ := writ_look k0
     have q2 := q1.n
     obtain ⟨q3, q4⟩ := look_kids k0
     obtain ⟨q5, q6, q7, q8⟩ := q3.kids
     obtain ⟨k4, k5, k6⟩ := k1
     have g1 := group9_le one
     refine W4.atL hD (X := have a0 := decide ((l.getD i default).kind = (21 : Int)); have a1 := decide (0 < one.length); cond (decide (i < l.length)) ((has = false → (i < l.length) ∧ True) ∧ (has = false → a0 = true → (i < l.length) ∧ True) ∧ (i + 1 ≤ 9223372036854775807) ∧ (W4).L K 10 (mkS 89 [(0, (.sl (.sels l))), (1, (.bool p)), (6, (.sl (.sels g))), (7, (.bool ok)), (8, (.sl (.sels one))), (9, (.bool is)), (10, (.bool (has || (a0 && (!(decide ((l.getD i default).val = []))))))), (11, (.nat (i + 1)))] [] 1)) ((0 < l.length ∧ l.length ≤ 1000000000) ∧ (0 < (group9 l).length ∧ (group9 l).length ≤ 1000000000000) ∧ (0 ≤ ((group9 l).getD 0 default).size ∧ ((0 : Nat) : Int) + ((group9 l).getD 0 default).size ≤ (group9 l).length) ∧ (∀ k, k ∈ kidsD (group9 l) 0 → ((group9 l).getD k default).size ≤ 1000000000000) ∧ cond ((!(decide (ok = (p || (!has))))) || (!(decide (is = (ok && (decide ((kidsD (group9 l) 0).length = 1))))))) (K (.val (.bool false)) none) (((!is) = false → a1 = true → (0 < one.length ∧ one.length ≤ 1000000000) ∧ True) ∧ ((!is) = false → a1 = true → ((group9 one).length ≤ 1000000000 ∧ g.length ≤ 1000000000) ∧ (NormOk (group9 one)) ∧ (NormOk g) ∧ True) ∧ K (.val (.bool ((!is) || (a1 && (sameD (group9 one) g))))) none))) (by kernel_rfl) ?_
     refine cndI ?_ ?_ <;> intro h1 <;> simp -failIfUnchanged [-List.getD_eq_getElem?_getD, -UInt8.toNat_or] at h1
     · refine nfz6 ?_
       refine nfz7 ?_
       refine nfz8 ?_
       exact ih _ (by omega) g ok one is _ (i + 1) rfl ⟨k0, ⟨k4, k5, k6⟩, by omega, by rw [any_take h1, ← k3]; rfl⟩
     refine nfz8 ?_
     refine nfz8 (nfz8 (nfz8 ?_))
     refine cndI ?_ ?_ <;> intro h2 <;> simp -failIfUnchanged [-List.getD_eq_getElem?_getD, -UInt8.toNat_or] at h2
     · rw [List.take_of_length_le h1] at k3
       exfalso
       rcases h2 with h2 | h2
       · exact h2 (by rw [k4, k3])
       exact h2 k5
     refine nfz7 ?_
     refine nfz9 ?_
     refine kbool hk ?_
     cases hi : is
     · rfl
     obtain ⟨a1, a2, a3, a4, a5, a6⟩ := k6 hi
     rw [decide_eq_true a1, a6]; rfl
   refine W4.entry rfl (X := have a0 := (writtenS l).length ≤ 1000000; (l.length ≤ 9223372036854775807) ∧ cond (!(fitsB l)) (K (.val (.bool true)) none) ((fitsB l = true) ∧ cond (!(writB l)) (K (.val (.bool true)) none) ((l.length ≤ 2000 ∧ wtL l ≤ 100000) ∧ (l.length ≠ 0 → WAt l 2000 0) ∧ a0 ∧ optK (iParse (writtenS l) true p) (fun v1 => a0 ∧ optK (iParse (writtenS l) false p) (fun v2 => (W4).L K 10 (mkS 89 [(0, (.sl (.sels l))), (1, (.bool p)), (6, (.sl (.sels (parseData true v1)))), (7, (.bool true)), (8, (.sl (.sels (parseData false v2)))), (9, (.bool true)), (10, (.bool false)), (11, (.nat 0))] [] 1)) ((W4).L K 10 (mkS 89 [(0, (.sl (.sels l))), (1, (.bool p)), (6, (.sl (.sels (parseData true v1)))), (7, (.bool true)), (8, (.sl (.sels []))), (9, (.bool false)), (10, (.bool false)), (11, (.nat 0))] [] 1))) (a0 ∧ optK (iParse (writtenS l) false p) (fun v3 => (W4).L K 10 (mkS 89 [(0, (.sl (.sels l))), (1, (.bool p)), (6, (.sl (.sels []))), (7, (.bool false)), (8, (.sl (.sels (parseData false v3)))), (9, (.bool true)), (10, (.bool false)), (11, (.nat 0))] [] 1)) ((W4).L K 10 (mkS 89 [(0, (.sl (.sels l))), (1, (.bool p)), (6, (.sl (.sels []))), (7, (.bool false)), (8, (.sl (.sels []))), (9, (.bool false)), (10, (.bool false)), (11, (.nat 0))] [] 1)))))) (by kernel_rfl) ?_
   refine nfz8 ?_
   refine cndI ?_ ?_ <;> intro h1 <;> simp -failIfUnchanged [-List.getD_eq_getElem?_getD, -UInt8.toNat_or] at h1
   · exact hk
   refine nfz8 ?_
   refine cndI ?_ ?_ <;> intro h2 <;> simp -failIfUnchanged [-List.getD_eq_getElem?_getD, -UInt8.toNat_or] at h2
   · exact hk
   refine nfz8 (nfz8 ?_)
   refine nfz8 ?_
   refine optI (fun v1 h3 => ?_) (fun h3 => ?_)
   ·
    refine nfz8 ?_
    refine optI (fun v2 h4 => ?_) (fun h4 => ?_)
    ·
     have q := look_one h2 p
     rw [h3, h4] at q
     exact L10 _ _ _ _ _ _ 0 rfl ⟨h2, q, by omega, rfl⟩
    have q := look_one h2 p
    rw [h3, h4] at q
    exact L10 _ _ _ _ _ _ 0 rfl ⟨h2, q, by omega, rfl⟩
   refine nfz8 ?_
   refine optI (fun v3 h4 => ?_) (fun h4 => ?_)
   ·
    have q := look_one h2 p
    rw [h3, h4] at q
    exact L10 _ _ _ _ _ _ 0 rfl ⟨h2, q, by omega, rfl⟩
   have q := look_one h2 p
   rw [h3, h4] at q
   exact L10 _ _ _ _ _ _ 0 rfl ⟨h2, q, by omega, rfl⟩
 cases e
end
section
open Go Go.ChangeShapes Go.WideShapes Go.RowKit Go.Deep
set_option maxRecDepth 100000
theorem own : ownKnob Tryz.prog.godebug = Option.none := by kernel_rfl
theorem laidOutP : laidOutB Tryz.prog = true := by kernel_rfl
theorem laidVar {P : Program} {W : World} : ∀ {l : List (String × DataW Unit)} {ps : List MemPlace}, DataW.LaidVars P W l ps → ∀ {n : String} {d : DataW Unit}, (n, d) ∈ l →
 ∃ g t cs fuel p, P.globalNamed n = some g ∧ (P.globals[g]?).map (·.type) = some t ∧ W.var? P n = some cs ∧ DataW.trod (fun _ => ()) P W 0 (fun _ => true) false fuel t cs.toList = some (d, p)
 | [], _, _, _, _, h => by cases h
 | (_, _) :: _, _, ⟨g, t, cs, f, p, _, h1, h2, h3, h4, h5, _⟩, _, _, h => by
  rcases List.mem_cons.1 h with e | e
  · cases e; exact ⟨g, t, cs, f, p, h1, h2, h3, h4⟩
  exact laidVar h5 e
theorem iface_of {fuel : Nat} {W : World} {cs : List Value} {n : String} {x : DataW Unit} {p : List MemPlace}
 (h : DataW.trod (fun _ => ()) Tryz.prog W 0 (fun _ => true) false fuel 71 cs = some (.iface n x, p)) : ∃ u v, cs = [.iface u v] := by
 cases fuel with
 | zero => simp [DataW.trod] at h
 | succ f =>
  unfold DataW.trod at h
  rw [Tryz.underlying71] at h
  match cs, h with
  | [], h => simp at h
  | [v], h => cases v <;> simp at h <;> exact ⟨_, _, rfl⟩
  | _ :: _ :: _, h => simp at h
theorem errCell {W : World} (h : laidMetH Tryz.prog Rows.fnParseWrittenRow.laid W) (g : Nat) (hg : errG g = true) : ∃ u v T fr, W.heap[g]? = some (.cells #[.iface u v] T fr) := by
 rw [MakeChecks.laidMetH_plain _ _ _ (by kernel_rfl)] at h
 obtain ⟨ps, h, _⟩ := h
 have one : ∀ (n : String) (a : String) (d : DataW Unit), (n, DataW.iface a d) ∈ Rows.fnParseWrittenRow.laid → Tryz.prog.globalNamed n = some g → (Tryz.prog.globals[g]?).map (·.type) = some 71 → ∃ u v T fr, W.heap[g]? = some (.cells #[.iface u v] T fr) := by
  intro n a d hm hn ht
  obtain ⟨g', t, cs, fuel, p, h1, h2, h3, h4⟩ := laidVar h hm
  obtain rfl := Option.some.inj (hn.symm.trans h1)
  obtain rfl := Option.some.inj (ht.symm.trans h2)
  obtain ⟨u, v, e⟩ := iface_of h4
  simp only [World.var?, hn, Option.bind_some] at h3
  split at h3
  · rename_i c T fr hh
    cases h3
    refine ⟨u, v, T, fr, ?_⟩
    rw [hh]
    obtain ⟨l⟩ := cs
    simp only at e
    rw [e]
  cases h3
 have hc : g = 0 ∨ g = 1 ∨ g = 2 ∨ g = 4 ∨ g = 5 := by
  simp [errG] at hg
  omega
 rcases hc with rfl | rfl | rfl | rfl | rfl
 · exact one "given.example/pub-bosquet/pub/cascadia.errExpectedParenthesis" _ _ (List.mem_of_getElem? (i := 5) rfl) (by kernel_rfl) (by kernel_rfl)
 · exact one "given.example/pub-bosquet/pub/cascadia.errExpectedClosingParenthesis" _ _ (List.mem_of_getElem? (i := 6) rfl) (by kernel_rfl) (by kernel_rfl)
 · exact one "given.example/pub-bosquet/pub/cascadia.errUnmatchedParenthesis" _ _ (List.mem_of_getElem? (i := 7) rfl) (by kernel_rfl) (by kernel_rfl)
 · exact one "strconv.ErrSyntax" _ _ (List.mem_of_getElem? (i := 4) rfl) (by kernel_rfl) (by kernel_rfl)
 exact one "strconv.ErrRange" _ _ (List.mem_of_getElem? (i := 3) rfl) (by kernel_rfl) (by kernel_rfl)
def blocksOf (W : World) (b : Nat) : Option (Array Value × TypeId) := match W.heap[b]? with
 | some (.cells c T _) => some (c, T)
 | _ => Option.none
theorem blocksOf_some {W : World} {b : Nat} {c : Array Value} {T : TypeId} {fr : Nat × Nat} (h : W.heap[b]? = some (.cells c T fr)) : blocksOf W b = some (c, T) := by
 unfold blocksOf; rw [h]
theorem blocksOf_cells {W : World} {b : Nat} {c : Array Value} {T : TypeId} (e : blocksOf W b = some (c, T)) : ∃ fr, W.heap[b]? = some (.cells c T fr) := by
 unfold blocksOf at e
 split at e
 · rename_i h; cases e; exact ⟨_, h⟩
 cases e
theorem Sat.calls {f : FuncId} {P : Spec} (hf : Sat f P) {W : World} (he : ∀ g, errG g = true → ∃ u v T fr, W.heap[g]? = some (.cells #[.iface u v] T fr)) {svs : List SV} {args : Array Value} (hn : args.size = svs.length)
 (hr : ∀ (ω : Wit), ω.Γ = blocksOf W → ∀ (i : Nat) (s : SV) (v : Value), svs[i]? = some s → args[i]? = some v → Rel ω s v) {s : SV} (hk : P svs Option.none fun o _ => o = .val s) :
 Calls Tryz.prog f args W fun e W' => ∃ v, e = .returned v ∧ (∃ ω, Rel ω s v) ∧ Frame W (fun _ => False) W' := by
 let g0 : Glob := ⟨blocksOf W, fun g hg => by
  obtain ⟨u, v, T, fr, h⟩ := he g hg
  exact ⟨u, v, T, blocksOf_some h⟩, []⟩
 have hS : Sim g0 W (fun _ => False) ⟨blocksOf W, fun _ => 0, fun _ => undef, 1⟩ (loc Option.none) a0 W := {
  env := fun i s e => by simp [loc, elk, lk2] at e
  heap := fun r b e => by simp [loc, hlk] at e
  sep := fun r r' b b' k e => by simp [loc, hlk] at e
  ng := fun r b k e => by simp [loc, hlk] at e
  mine := fun r b k e => by simp [loc, hlk] at e
  nx := fun r b e => by simp [loc, hlk] at e
  wn := rfl
  gam := fun b c T e => blocksOf_cells e
  fr := Frame.refl W _
  df := rfl
  gl := fun b x e => e
  gn := fun b x e => .inl e
  pin := fun k hk => hk.elim
  n0 := Nat.zero_lt_one }
 refine (hf g0 W _ _ svs args Option.none _ hS hn (fun i s v e1 e2 => hr _ rfl i s v e1 e2) hk).mono ?_
 rintro e W' ⟨v, o, b', he, rfl, ω', S', h1, _, h3⟩
 exact ⟨v, he, ⟨ω', h3.2⟩, h1.fr⟩
theorem Frame.kept {W W' : World} (h : Frame W (fun _ => False) W') (may : MemPlace → Prop) : W.keptBut W' may := by
 refine ⟨h.os, h.output, fun i hi => ?_⟩
 rw [h.block i hi (fun q => q)]
 exact (World.keptBut_refl W may).2.2 i hi
theorem Frame.sameAt {W W' : World} (h : Frame W (fun _ => False) W') {p : MemPlace} (hp : p.block < W.heap.size) : W.sameAt W' p := by
 cases p with
 | cell b o => exact World.cell?_of_block (w := W) (h.block b hp (fun q => q))
 | map b => exact h.block b hp (fun q => q)
section
variable {H : Type} {enc : TypeId × Value → H}
theorem vars_keep {W W' : World} {sp sp' : Nat → Bool} : ∀ {ns : List String} {gs : List (DataW H)} {q : List MemPlace}, DataW.TrodVars enc Tryz.prog W sp ns gs q →
 (∀ n ∈ ns, ∃ g u v T fr, Tryz.prog.globalNamed n = some g ∧ (Tryz.prog.globals[g]?).map (·.type) = some 71 ∧ W.heap[g]? = some (.cells #[.iface u v] T fr) ∧ W'.heap[g]? = W.heap[g]?) →
 DataW.TrodVars enc Tryz.prog W' sp' ns gs q
 | [], [], _, h, _ => h
 | [], _ :: _, _, h, _ => h.elim
 | _ :: _, [], _, h, _ => h.elim
 | n :: ns, d :: gs, _, ⟨g, t, cs, fuel, p, q, h1, h2, h3, h4, h5, h6⟩, hall => by
  obtain ⟨g', u, v, T, fr, k1, k2, k3, k4⟩ := hall n (List.mem_cons_self ..)
  obtain rfl := Option.some.inj (k1.symm.trans h1)
  obtain rfl := Option.some.inj (k2.symm.trans h2)
  have e : cs = #[.iface u v] := by
   simp only [World.var?, h1, Option.bind_some, k3, Option.some.injEq] at h3
   exact h3.symm
  subst e
  refine ⟨g', 71, #[.iface u v], fuel, p, q, h1, h2, ?_, ?_, vars_keep h5 fun m hm => hall m (List.mem_cons_of_mem _ hm), h6⟩
  · simp only [World.var?, h1, Option.bind_some, k4, k3]
  cases fuel with
  | zero => simp [DataW.trod] at h4
  | succ f =>
   unfold DataW.trod at h4 ⊢
   rw [Tryz.underlying71] at h4 ⊢
   simpa using h4
theorem vars_three {W : World} {sp : Nat → Bool} {a b c : String} {gs : List (DataW H)} {q : List MemPlace} (h : DataW.TrodVars enc Tryz.prog W sp [a, b, c] gs q) : ∃ x y z, gs = [x, y, z] := by
 match gs, h with
 | [], h => exact h.elim
 | [x], ⟨_, _, _, _, _, _, _, _, _, _, h, _⟩ => exact h.elim
 | [x, y], ⟨_, _, _, _, _, _, _, _, _, _, ⟨_, _, _, _, _, _, _, _, _, _, h, _⟩, _⟩ => exact h.elim
 | [x, y, z], _ => exact ⟨x, y, z, rfl⟩
 | x :: y :: z :: t :: l, ⟨_, _, _, _, _, _, _, _, _, _, ⟨_, _, _, _, _, _, _, _, _, _, ⟨_, _, _, _, _, _, _, _, _, _, h, _⟩, _⟩, _⟩ => exact h.elim
theorem vars_after {W W' : World} {sp sp' : Nat → Bool} {gs : List (DataW H)} {q : List MemPlace} (hc : ∀ g, errG g = true → ∃ u v T fr, W.heap[g]? = some (.cells #[.iface u v] T fr)) (hf : Frame W (fun _ => False) W')
 (hV : DataW.TrodVars enc Tryz.prog W sp ["given.example/pub-bosquet/pub/cascadia.errExpectedParenthesis", "given.example/pub-bosquet/pub/cascadia.errExpectedClosingParenthesis", "given.example/pub-bosquet/pub/cascadia.errUnmatchedParenthesis"] gs q) :
 DataW.TrodVars enc Tryz.prog W' sp' ["given.example/pub-bosquet/pub/cascadia.errExpectedParenthesis", "given.example/pub-bosquet/pub/cascadia.errExpectedClosingParenthesis", "given.example/pub-bosquet/pub/cascadia.errUnmatchedParenthesis"] gs q := by
 refine vars_keep hV fun n hn => ?_
 have fin : ∀ g, errG g = true → Tryz.prog.globalNamed n = some g → (Tryz.prog.globals[g]?).map (·.type) = some 71 →
  ∃ g u v T fr, Tryz.prog.globalNamed n = some g ∧ (Tryz.prog.globals[g]?).map (·.type) = some 71 ∧ W.heap[g]? = some (.cells #[.iface u v] T fr) ∧ W'.heap[g]? = W.heap[g]? := by
  intro g hg k1 k2
  obtain ⟨u, v, T, fr, k3⟩ := hc g hg
  exact ⟨g, u, v, T, fr, k1, k2, k3, hf.block g (Array.getElem?_eq_some_iff.1 k3).1 (fun q => q)⟩
 simp only [List.mem_cons, List.not_mem_nil, or_false] at hn
 rcases hn with rfl | rfl | rfl
 · exact fin 0 rfl (by kernel_rfl) (by kernel_rfl)
 · exact fin 1 rfl (by kernel_rfl) (by kernel_rfl)
 exact fin 2 rfl (by kernel_rfl) (by kernel_rfl)
theorem int_cell {W : World} {sp : Nat → Bool} {held : Bool} {n : Nat} {v : Value} {x : DataW H × List MemPlace} (h : DataW.trod enc Tryz.prog W 0 sp held n 3 [v] = some x) : ∃ k : Int, v = .int .i64 k := by
 obtain ⟨k, e, _⟩ := DataW.trod_int (k := .i64) (by kernel_rfl) h
 cases e; exact ⟨k, rfl⟩
theorem str_cell {W : World} {sp : Nat → Bool} {held : Bool} {n : Nat} {v : Value} {x : DataW H × List MemPlace} (h : DataW.trod enc Tryz.prog W 0 sp held n 9 [v] = some x) : ∃ l : List UInt8, v = .string ⟨l.toArray⟩ := by
 obtain ⟨k, e, _⟩ := DataW.trod_string Tryz.underlying9 h
 cases e
 obtain ⟨⟨l⟩⟩ := k
 exact ⟨l, rfl⟩
def selFs (P : Program) : Option (List (Nat × Nat)) := match P.underlying 33 with
 | some (.struct fs) => some (fs.toList.map fun f => (f.offset, f.type))
 | _ => Option.none
theorem selStruct : ∃ fs : Array Field, Tryz.prog.underlying 33 = some (.struct fs) ∧ fs.toList.map (fun f => (f.offset, f.type)) = [(0, 3), (1, 3), (2, 9), (3, 9), (4, 3), (5, 3), (6, 3), (7, 3)] := by
 have h : selFs Tryz.prog = some [(0, 3), (1, 3), (2, 9), (3, 9), (4, 3), (5, 3), (6, 3), (7, 3)] := by kernel_rfl
 unfold selFs at h
 split at h
 · rename_i fs hu
   exact ⟨fs, hu, Option.some.inj h⟩
 cases h
theorem node_cells {W : World} {sp : Nat → Bool} {held : Bool} {n : Nat} {cs : List Value} {x : DataW H × List MemPlace} (h : DataW.trod enc Tryz.prog W 0 sp held n 33 cs = some x) :
 ∃ y : SelD, ∀ (ω : Wit) (j : Nat) (s : SV) (v : Value), (selCells y)[j]? = some s → cs[j]? = some v → Rel ω s v := by
 obtain ⟨fs, hu, hfs⟩ := selStruct
 obtain ⟨xs, m, _, _, hl, _, hf⟩ := DataW.trod_struct hu h
 have hl : cs.length = 8 := hl
 have one : ∀ (i o t : Nat), (fs.toList.map fun f => (f.offset, f.type))[i]? = some (o, t) → Tryz.prog.cellsOf t = 1 → ∃ y, DataW.trod enc Tryz.prog W 0 sp held m t ((cs.drop o).take 1) = some y := by
  intro i o t e hc
  rw [List.getElem?_map, Array.getElem?_toList] at e
  obtain ⟨f, e1, e2⟩ := Option.map_eq_some_iff.1 e
  cases e2
  have q := hf i f e1
  rw [hc] at q
  have : i < xs.length := by
   have h1 : i < fs.size := (Array.getElem?_eq_some_iff.1 e1).1
   omega
  exact ⟨_, q.trans (List.getElem?_eq_getElem this)⟩
 rw [hfs] at one
 have c3 : Tryz.prog.cellsOf 3 = 1 := by kernel_rfl
 have c9 : Tryz.prog.cellsOf 9 = 1 := by kernel_rfl
 match cs, hl with
 | [v0, v1, v2, v3, v4, v5, v6, v7], _ =>
  obtain ⟨_, y0⟩ := one 0 0 3 rfl c3
  obtain ⟨_, y1⟩ := one 1 1 3 rfl c3
  obtain ⟨_, y2⟩ := one 2 2 9 rfl c9
  obtain ⟨_, y3⟩ := one 3 3 9 rfl c9
  obtain ⟨_, y4⟩ := one 4 4 3 rfl c3
  obtain ⟨_, y5⟩ := one 5 5 3 rfl c3
  obtain ⟨_, y6⟩ := one 6 6 3 rfl c3
  obtain ⟨_, y7⟩ := one 7 7 3 rfl c3
  obtain ⟨k, rfl⟩ := int_cell y0
  obtain ⟨o, rfl⟩ := int_cell y1
  obtain ⟨ke, rfl⟩ := str_cell y2
  obtain ⟨va, rfl⟩ := str_cell y3
  obtain ⟨a, rfl⟩ := int_cell y4
  obtain ⟨b, rfl⟩ := int_cell y5
  obtain ⟨fl, rfl⟩ := int_cell y6
  obtain ⟨sz, rfl⟩ := int_cell y7
  refine ⟨⟨k, o, ke, va, a, b, fl, sz⟩, fun ω j s v e1 e2 => ?_⟩
  match j, e1, e2 with
  | 0, e1, e2 => cases e1; cases e2; exact .int _ _
  | 1, e1, e2 => cases e1; cases e2; exact .int _ _
  | 2, e1, e2 => cases e1; cases e2; exact .str _
  | 3, e1, e2 => cases e1; cases e2; exact .str _
  | 4, e1, e2 => cases e1; cases e2; exact .int _ _
  | 5, e1, e2 => cases e1; cases e2; exact .int _ _
  | 6, e1, e2 => cases e1; cases e2; exact .int _ _
  | 7, e1, e2 => cases e1; cases e2; exact .int _ _
  | j + 8, e1, e2 => cases e1
theorem sels_rel {W : World} {sp : Nat → Bool} {held : Bool} {v : Value} {d : DataW H} {p : List MemPlace} {base : Nat} (hval : Value.okWide Tryz.prog W .any base 22 v) (h : DataW.Trod enc Tryz.prog W 0 sp held 22 v d p) :
 ∃ l : List SelD, l.length ≤ 9223372036854775807 ∧ ∀ ω : Wit, ω.Γ = blocksOf W → Rel ω (.sl (.sels l)) v := by
 obtain ⟨n, h⟩ := h
 have hc8 : Tryz.prog.cellsOf 33 = 8 := by kernel_rfl
 have hv : ∀ (a : Option Addr) (len cap : Nat), v.cells.toList = [.slice a len cap] → v = .slice a len cap := by
  intro a len cap e
  obtain ⟨a', l', c', rfl⟩ := okWide_slice Tryz.underlying22 hval
  simpa [Value.cells] using e
 rcases open_slice (e := 33) Tryz.underlying22 h with ⟨e, _⟩ | ⟨a, len, cap, m, n', D, Pl, e, _, hl, hm, hmm, _, hi⟩
 · obtain rfl := hv _ _ _ e
   exact ⟨[], by simp, fun ω _ => .slz _ _ _ rfl⟩
 obtain rfl := hv _ _ _ e
 rcases Nat.eq_zero_or_pos len with h0 | h0
 · subst h0
   exact ⟨[], by simp, fun ω _ => .slz _ _ _ rfl⟩
 rw [hc8] at hi
 have hlm : len ≤ m := by rw [hmm]; split <;> omega
 have hY : ∀ i, i < len → ∃ y : SelD, ∀ (ω : Wit) (j : Nat) (s : SV) (u : Value), (selCells y)[j]? = some s → W.cell? (a.add (i * 8 + j)) = some u → Rel ω s u := by
  intro i hil
  obtain ⟨cs', h1, h2⟩ := hi i (by omega)
  obtain ⟨y, hy⟩ := node_cells h2
  obtain ⟨_, hcl, hat⟩ := World.cells?_some h1
  refine ⟨y, fun ω j s u e1 e2 => hy ω j s u e1 ?_⟩
  have hj : j < 8 := by
   have : j < (selCells y).length := (List.getElem?_eq_some_iff.1 e1).1
   exact this
  rw [← hat j hj, add_add]
  exact e2
 obtain ⟨Y, hY⟩ := choose_lt (α := SelD) hY
 have hcell : ∀ i j, i < len → j < 8 → ∃ u, W.cell? (a.add (i * 8 + j)) = some u := by
  intro i j hil hj
  obtain ⟨cs', h1, h2⟩ := hi i (by omega)
  obtain ⟨_, hcl, hat⟩ := World.cells?_some h1
  have := hat j hj
  rw [add_add, List.getElem?_eq_getElem (by omega)] at this
  exact ⟨_, this⟩
 obtain ⟨b, o, spot⟩ := a
 have hspot : spot = Option.none := by
  obtain ⟨u, hu⟩ := hcell 0 0 h0 (by omega)
  have := World.cell?_spot hu
  simpa [Addr.add] using this
 subst hspot
 have hblk : ∃ c T fr, W.heap[b]? = some (.cells c T fr) := by
  obtain ⟨u, hu⟩ := hcell 0 0 h0 (by omega)
  simp only [Nat.zero_mul, Nat.add_zero, Addr.add, if_true, World.cell?] at hu
  split at hu
  · rename_i c T fr hh; exact ⟨c, T, fr, hh⟩
  cases hu
 obtain ⟨c, T, fr, hb⟩ := hblk
 have hat : ∀ k, W.cell? ((⟨b, o, Option.none⟩ : Addr).add k) = c[o + k]? := by
  intro k
  rw [addr_add]
  unfold World.cell?
  simp only [hb]
  rfl
 refine ⟨(List.range len).map Y, by simp only [List.length_map, List.length_range, maxLen] at hm ⊢; omega, fun ω hω => ?_⟩
 have hlen : (RV.sels ((List.range len).map Y)).len = len := by simp [RV.len]
 have q := Rel.sl (ω := ω) (.sels ((List.range len).map Y)) b o cap c T (by rw [hω]; exact blocksOf_some hb) (by
  rw [hlen]
  show o + len * 8 ≤ c.size
  obtain ⟨u, hu⟩ := hcell (len - 1) 7 (by omega) (by omega)
  rw [hat] at hu
  have := (Array.getElem?_eq_some_iff.1 hu).1
  omega) (by rw [hlen]; exact hl) (by
  intro i j s u e0 e1 e2
  rw [hlen] at e0
  refine hY i e0 ω j s u ?_ (by rw [hat]; exact e2)
  rw [← e1]
  show (selCells (Y i))[j]? = (selCells (((List.range len).map Y).getD i default))[j]?
  rw [List.getD_eq_getElem?_getD, List.getElem?_map, List.getElem?_range e0]
  rfl)
 rw [hlen] at q
 exact q
theorem sels_after {W W' : World} {v : Value} {d : DataW H} {p : List MemPlace} (h : DataW.Trod enc Tryz.prog W 0 (fun _ => true) true 22 v d p) (hf : Frame W (fun _ => False) W') :
 DataW.Trod enc Tryz.prog W' 0 (fun b => decide (b < W.heap.size)) true 22 v d p := by
 have hlt : ∀ q ∈ p, q.block < W.heap.size := by
  obtain ⟨n, hn⟩ := h
  exact DataW.trod_lt n _ _ _ hn
 exact WideElems.Trod_stays laidOutP (by kernel_rfl) (of_decide_eq_true (by kernel_rfl)) h (fun q hq => hf.sameAt (hlt q hq)) (fun q hq => by simpa using hlt q hq)
end
theorem door_met (os : Os) (args : Array Value) : laidMetH Tryz.prog Rows.fnParseWrittenRow.laid ((World.doorLaid Tryz.prog 124 os).forCall (fun _ _ => 0) ⟨#[], args, []⟩).memory := by
 rw [MakeChecks.laidMetH_plain _ _ _ (by kernel_rfl)]
 exact laidMet_of_run' 8 (by kernel_rfl) (by kernel_rfl)
end
end Go.Proofs.YtengepcafdnalaaGreatDoor
