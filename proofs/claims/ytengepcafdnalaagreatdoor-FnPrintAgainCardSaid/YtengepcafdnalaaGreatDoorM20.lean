/-
  Parts of the proof that the law FnPrintAgain holds for every input (texts Ld, Le). Conditions: none.
-/
import Derived.Test.YtengepcafdnalaaGreatDoorM19
namespace Go.Proofs.YtengepcafdnalaaGreatDoor
open _root_.List renaming getD_eq_getElem?_getD → za, mem_cons → zz, getElem?_eq_getElem → zi
open _root_.Nat renaming strongRecOn → zl
open Go.Proofs.Tryz renaming f70 → xv
open _root_.UInt8 renaming toNat_or → zb
section
open Go Go.RowKit
set_option maxRecDepth 20000
def c70 (m : Nat) (svs : List SV) (b : Option SB) (K : Out -> Option SB -> Prop) : Prop := match svs, b with
 | [.ptr 0 0], some (.blk 94 [.str s, .nat i, .nat d, .bool a]) => s.length <= 1000000 /\ i <= s.length /\ d <= 1001 /\ 1002 <= d + m /\ Qy (QD s a (1001 - d) i) (fun v => i < v.2 /\ v.2 <= s.length -> K (.val (.tup [.sl (.csels v.1), .nilif])) (some (.blk 94 [.str s, .nat v.2, .nat d, .bool a]))) (∀ j, K (.val (.tup [.sl (.csels []), .ifx])) (some (.blk 94 [.str s, .nat j, .nat d, .bool a])))
 | _, _ => False
theorem QnJ : Has 70 := hsf xv
section
variable {G : Nat -> Option (List CSel × Nat)} {s n : Bs} {j k : Nat}
theorem psG (hn : n = [110, 111, 116] \/ n = [104, 97, 115] \/ n = [104, 97, 115, 99, 104, 105, 108, 100]) : Y9 G s n j = (J2 G s n j).map fun p => (some p.1, [], p.2) := by
 unfold Y9; exact if_pos hn
theorem Qgs {v : List CSel × Nat} {e : Nat} (ho : Vx s j = some k) (hg : G k = some v) (hc : QV s v.2 = some e) : J2 G s n j = some (.rel n v.1, e) := by
 obtain ⟨l, m⟩ := v
 unfold J2; rw [ho]; dsimp only; rw [hg]; dsimp only; dsimp only at hc; rw [hc]; rfl
theorem Qjp (ho : Vx s j = none) : J2 G s n j = none := by unfold J2; rw [ho]
theorem Qjo (ho : Vx s j = some k) (hg : G k = none) : J2 G s n j = none := by unfold J2; rw [ho]; dsimp only; rw [hg]
theorem Qjn {v : List CSel × Nat} (ho : Vx s j = some k) (hg : G k = some v) (hc : QV s v.2 = none) : J2 G s n j = none := by
 obtain ⟨l, m⟩ := v
 unfold J2; rw [ho]; dsimp only; rw [hg]; dsimp only; dsimp only at hc; rw [hc]; rfl
theorem psV (hn : n = [99, 111, 110, 116, 97, 105, 110, 115] \/ n = [99, 111, 110, 116, 97, 105, 110, 115, 111, 119, 110]) : Y9 G s n j = (ZY s (decide (n = [99, 111, 110, 116, 97, 105, 110, 115, 111, 119, 110])) j).map fun p => (some p.1, [], p.2) := by
 unfold Y9; rw [if_neg (show ¬ (n = Jv \/ n = Jw \/ n = nHasChild) from by rcases hn with h | h <;> (subst h; decide))]
 exact if_pos hn
theorem Qat {o : Bool} {v : Bs × Nat} {e : Nat} (ho : Vx s j = some k) (hl : k < s.length) (hv : (if bat s k = 39 \/ bat s k = 34 then Jk s k else QM s k) = some v) (hc : QV s (iWs s v.2) = some e) : ZY s o j = some (.contains (low v.1) o, e) := by
 obtain ⟨l, m⟩ := v
 have hc : QV s m = some e := by unfold QV at hc ⊢; rwa [Law.iWs_fix] at hc
 unfold ZY; rw [ho]; dsimp only; rw [if_pos hl, hv]; dsimp only; rw [hc]; rfl
theorem Qow {o : Bool} (ho : Vx s j = none) : ZY s o j = none := by unfold ZY; rw [ho]
theorem Qov {o : Bool} (ho : Vx s j = some k) (hl : ¬ k < s.length) : ZY s o j = none := by unfold ZY; rw [ho]; dsimp only; rw [if_neg hl]
theorem QbO {o : Bool} (ho : Vx s j = some k) (hl : k < s.length) (hv : (if bat s k = 39 \/ bat s k = 34 then Jk s k else QM s k) = none) : ZY s o j = none := by
 unfold ZY; rw [ho]; dsimp only; rw [if_pos hl, hv]
theorem ZV {o : Bool} {v : Bs × Nat} (ho : Vx s j = some k) (hl : k < s.length) (hv : (if bat s k = 39 \/ bat s k = 34 then Jk s k else QM s k) = some v) (hc : s.length <= iWs s v.2 \/ QV s (iWs s v.2) = none) : ZY s o j = none := by
 obtain ⟨l, m⟩ := v
 have hc : QV s m = none := by
  rcases hc with hc | hc
  unfold QV; rw [if_neg (fun q => by dsimp only at hc; omega)]
  unfold QV at hc ⊢; rwa [Law.iWs_fix] at hc
 unfold ZY; rw [ho]; dsimp only; rw [if_pos hl, hv]; dsimp only; rw [hc]; rfl
theorem psN (hn : n = [110, 116, 104, 45, 99, 104, 105, 108, 100] \/ n = [110, 116, 104, 45, 108, 97, 115, 116, 45, 99, 104, 105, 108, 100] \/ n = [110, 116, 104, 45, 111, 102, 45, 116, 121, 112, 101] \/ n = [110, 116, 104, 45, 108, 97, 115, 116, 45, 111, 102, 45, 116, 121, 112, 101]) :
 Y9 G s n j = (JD s (decide (n = [110, 116, 104, 45, 108, 97, 115, 116, 45, 99, 104, 105, 108, 100]) || decide (n = [110, 116, 104, 45, 108, 97, 115, 116, 45, 111, 102, 45, 116, 121, 112, 101])) (decide (n = [110, 116, 104, 45, 111, 102, 45, 116, 121, 112, 101]) || decide (n = [110, 116, 104, 45, 108, 97, 115, 116, 45, 111, 102, 45, 116, 121, 112, 101])) j).map fun p => (some p.1, [], p.2) := by
 rw [<- Bool.decide_or, <- Bool.decide_or]
 unfold Y9
 rw [if_neg (show ¬ (n = Jv \/ n = Jw \/ n = nHasChild) from by rcases hn with h | h | h | h <;> (subst h; decide)), if_neg (show ¬ (n = Q9 \/ n = QH) from by rcases hn with h | h | h | h <;> (subst h; decide))]
 exact if_pos hn
theorem QcK {l t : Bool} {v : Int × Int × Nat} {e : Nat} (ho : Vx s j = some k) (hv : VU s k = some v) (hc : QV s v.2.2 = some e) : JD s l t j = some (.nth v.1 v.2.1 l t, e) := by
 obtain ⟨x, y, m⟩ := v
 unfold JD; rw [ho]; dsimp only; rw [hv]; dsimp only; dsimp only at hc; rw [hc]; rfl
theorem Qgr {l t : Bool} (ho : Vx s j = none) : JD s l t j = none := by unfold JD; rw [ho]
theorem Qgq {l t : Bool} (ho : Vx s j = some k) (hv : VU s k = none) : JD s l t j = none := by unfold JD; rw [ho]; dsimp only; rw [hv]
theorem Qgp {l t : Bool} {v : Int × Int × Nat} (ho : Vx s j = some k) (hv : VU s k = some v) (hc : QV s v.2.2 = none) : JD s l t j = none := by
 obtain ⟨x, y, m⟩ := v
 unfold JD; rw [ho]; dsimp only; rw [hv]; dsimp only; dsimp only at hc; rw [hc]; rfl
theorem psL (hn : n = [108, 97, 110, 103]) : Y9 G s n j = (Jl s j).map fun p => (some p.1, [], p.2) := by
 subst hn
 unfold Y9; rw [if_neg (by decide), if_neg (by decide), if_neg (by decide)]
 exact if_pos rfl
theorem Qqn {v : Bs × Nat} {e : Nat} (ho : Vx s j = some k) (hl : k < s.length) (hv : QM s k = some v) (hc : QV s (iWs s v.2) = some e) : Jl s j = some (.lang (low v.1), e) := by
 obtain ⟨l, m⟩ := v
 have hc : QV s m = some e := by unfold QV at hc ⊢; rwa [Law.iWs_fix] at hc
 unfold Jl; rw [ho]; dsimp only; rw [if_pos hl, hv]; dsimp only; rw [hc]; rfl
theorem QuA (ho : Vx s j = none) : Jl s j = none := by unfold Jl; rw [ho]
theorem Quz (ho : Vx s j = some k) (hl : ¬ k < s.length) : Jl s j = none := by unfold Jl; rw [ho]; dsimp only; rw [if_neg hl]
theorem Quy (ho : Vx s j = some k) (hl : k < s.length) (hv : QM s k = none) : Jl s j = none := by unfold Jl; rw [ho]; dsimp only; rw [if_pos hl, hv]
theorem Qox {v : Bs × Nat} (ho : Vx s j = some k) (hl : k < s.length) (hv : QM s k = some v) (hc : s.length <= iWs s v.2 \/ QV s (iWs s v.2) = none) : Jl s j = none := by
 obtain ⟨l, m⟩ := v
 have hc : QV s m = none := by
  rcases hc with hc | hc
  unfold QV; rw [if_neg (fun q => by dsimp only at hc; omega)]
  unfold QV at hc ⊢; rwa [Law.iWs_fix] at hc
 unfold Jl; rw [ho]; dsimp only; rw [if_pos hl, hv]; dsimp only; rw [hc]; rfl
theorem QhE {i : Nat} {v : Bs × Nat} (hl : i + 1 < s.length) (hv : QM s (if bat s (i + 1) = 58 then i + 2 else i + 1) = some v) (h : bat s (i + 1) = 58 -> low v.1 ∈ elNames) : iPs G s i = Y9 G s (low v.1) v.2 := by
 obtain ⟨w, m⟩ := v
 unfold iPs; rw [if_pos hl, hv]; dsimp only; rw [if_neg (fun q => q.2 (h q.1))]
theorem QpP {i : Nat} {v : Bs × Nat} (hv : QM s (if bat s (i + 1) = 58 then i + 2 else i + 1) = some v) (h : bat s (i + 1) = 58 /\ low v.1 ∉ elNames) : iPs G s i = none := by
 obtain ⟨w, m⟩ := v
 unfold iPs; rw [hv]; dsimp only; rw [if_pos h]; split <;> rfl
theorem Qkg {i : Nat} (hv : QM s (if bat s (i + 1) = 58 then i + 2 else i + 1) = none) : iPs G s i = none := by
 unfold iPs; rw [hv]; split <;> rfl
theorem QpO {i : Nat} (hl : ¬ i + 1 < s.length) : iPs G s i = none := by
 unfold iPs; rw [if_neg hl]
end
def c119 (m : Nat) (svs : List SV) (b : Option SB) (K : Out -> Option SB -> Prop) : Prop := match svs, b with
 | [.ptr 0 0], some (.blk 94 [.str s, .nat i, .nat d, .bool a]) => s.length <= 1000000 /\ i <= s.length /\ d <= 1001 /\ 1002 <= d + m /\ i < s.length /\ bat s i = 58 /\ Qy (iPs (QD s a (1001 - d)) s i) (fun v => i < v.2.2 /\ v.2.2 <= s.length -> Qy v.1 (fun x => K (.val (.tup [.cs x, .str [], .nilif])) (some (.blk 94 [.str s, .nat v.2.2, .nat d, .bool a]))) (K (.val (.tup [.nilif, .str v.2.1, .nilif])) (some (.blk 94 [.str s, .nat v.2.2, .nat d, .bool a])))) (∀ j, K (.val (.tup [.nilif, .str [], .ifx])) (some (.blk 94 [.str s, .nat j, .nat d, .bool a])))
 | _, _ => False
noncomputable def Qju (m : Nat) : Wk := ⟨[(70, .plain (c70 m)), (71, .pure c71), (99, .fn c99), (129, .plain c129), (130, .pure QlP), (132, .plain c132), (133, .plain c133), (134, .plain c134), (135, .pure c135), (136, .plain c136)], Qp Tryz.f119, true, false, [.tmp 2, .tmp 3, .tmp 4], [56, 9, 71], [(17, 93)], [17]⟩
theorem QtD : Has 119 := hsf Tryz.f119
theorem QB {p q : Prop} (k : q) (h : p := by first | omega | (simp; done) | (simp; omega) | (simp; assumption)) : p /\ q := ⟨h, k⟩
theorem Qsc (m : Nat) (hG : Sat 70 (c70 m)) : Sat 119 (c119 m) := by
 have hD : Qe (Qju m).D := (Qe.cons QnJ hG (Qe.cons Zo Zm (Qe.cons QeX Qeq (Qe.cons Qf9 Qfq (Qe.cons Qf8 Qfp (Qe.cons QnQ Qmx (Qe.cons QtB Qsa (Qe.cons QtA Qr9 (Qe.cons Qtz Qr8 (Qe.cons Qty Qr7 Qe.nil))))))))))
 refine (Qju m).sa hD Tryz.f119 fun svs b K hP => ?_
 unfold c119 at hP
 split at hP
 rename_i s i d a
 obtain ⟨h01, h02, h03, h04, h05, h06, hk⟩ := hP
 have L17 : ∀ (mm : Nat) (name : Bs) (p : Nat), 0 = mm -> (i < p /\ p <= s.length /\ iPs (QD s a (1001 - d)) s i = Y9 (QD s a (1001 - d)) s name p /\ name.length <= 10000000) -> (Qju m).C K 17 (mkS 402 [(0, (.ptr 0 0)), (2, .nilif), (3, (.str [])), (4, .nilif), (6, (.str name))] [(0, .blk 94 [(.str s), (.nat p), (.nat d), (.bool a)])] 1) := by
  intro mm
  induction mm using zl with
  | _ mm ih =>
   intro name p hm hI
   obtain ⟨k1, k2, k3, k4⟩ := hI
   refine (Qju m).aC hD (have a0 : Option SB := some (.blk 94 [(.str s), (.nat p), (.nat d), (.bool a)]); have a1 : Out := .val (.tup [.nilif, (.str []), .ifx]); have a2 := s.length <= 1000000; have a3 := decide (name = [110, 116, 104, 45, 108, 97, 115, 116, 45, 111, 102, 45, 116, 121, 112, 101]); have a4 := decide (name = [99, 111, 110, 116, 97, 105, 110, 115, 111, 119, 110]); have a5 : Out := .val (.tup [.nilif, (.str name), .nilif]); have a6 := decide (name = [110, 116, 104, 45, 108, 97, 115, 116, 45, 99, 104, 105, 108, 100]); have a7 := decide (name = [110, 116, 104, 45, 111, 102, 45, 116, 121, 112, 101]); have a8 : Out := .val (.tup [(.cs (.never ([58] ++ name))), (.str []), .nilif]); have a9 := p <= s.length; cond (decide (name = [110, 111, 116])) (a2 /\ a9 /\ Qy (Vx s p) (fun j5 => (p < j5 /\ j5 <= s.length) -> a2 /\ (j5 <= s.length) /\ (d <= 1001) /\ (1002 <= d + m) /\ Qy ((QD s a (1001 - d)) j5) (fun v6 => (j5 < v6.2 /\ v6.2 <= s.length) -> a2 /\ (v6.2 <= s.length) /\ Qy (QV s v6.2) (fun j8 => (v6.2 < j8 /\ j8 <= s.length) -> K (.val (.tup [(.cs (.rel name v6.1)), (.str []), .nilif])) (some (.blk 94 [(.str s), (.nat j8), (.nat d), (.bool a)]))) (K a1 (some (.blk 94 [(.str s), (.nat v6.2), (.nat d), (.bool a)])))) (∀ j7 : Nat, K a1 (some (.blk 94 [(.str s), (.nat j7), (.nat d), (.bool a)])))) (K a1 a0)) (cond (decide (name = [104, 97, 115])) (a2 /\ a9 /\ Qy (Vx s p) (fun j9 => (p < j9 /\ j9 <= s.length) -> a2 /\ (j9 <= s.length) /\ (d <= 1001) /\ (1002 <= d + m) /\ Qy ((QD s a (1001 - d)) j9) (fun v10 => (j9 < v10.2 /\ v10.2 <= s.length) -> a2 /\ (v10.2 <= s.length) /\ Qy (QV s v10.2) (fun j12 => (v10.2 < j12 /\ j12 <= s.length) -> K (.val (.tup [(.cs (.rel name v10.1)), (.str []), .nilif])) (some (.blk 94 [(.str s), (.nat j12), (.nat d), (.bool a)]))) (K a1 (some (.blk 94 [(.str s), (.nat v10.2), (.nat d), (.bool a)])))) (∀ j11 : Nat, K a1 (some (.blk 94 [(.str s), (.nat j11), (.nat d), (.bool a)])))) (K a1 a0)) (cond (decide (name = [104, 97, 115, 99, 104, 105, 108, 100])) (a2 /\ a9 /\ Qy (Vx s p) (fun j13 => (p < j13 /\ j13 <= s.length) -> a2 /\ (j13 <= s.length) /\ (d <= 1001) /\ (1002 <= d + m) /\ Qy ((QD s a (1001 - d)) j13) (fun v14 => (j13 < v14.2 /\ v14.2 <= s.length) -> a2 /\ (v14.2 <= s.length) /\ Qy (QV s v14.2) (fun j16 => (v14.2 < j16 /\ j16 <= s.length) -> K (.val (.tup [(.cs (.rel name v14.1)), (.str []), .nilif])) (some (.blk 94 [(.str s), (.nat j16), (.nat d), (.bool a)]))) (K a1 (some (.blk 94 [(.str s), (.nat v14.2), (.nat d), (.bool a)])))) (∀ j15 : Nat, K a1 (some (.blk 94 [(.str s), (.nat j15), (.nat d), (.bool a)])))) (K a1 a0)) (cond (decide (name = [99, 111, 110, 116, 97, 105, 110, 115])) (a2 /\ a9 /\ Qy (Vx s p) (fun j17 => (p < j17 /\ j17 <= s.length) -> cond (decide (j17 = s.length)) (K a1 (some (.blk 94 [(.str s), (.nat j17), (.nat d), (.bool a)]))) ((j17 < s.length) /\ cond (decide (bat s j17 = 39)) (a2 /\ (j17 <= s.length) /\ Qy (Jk s j17) (fun v18 => (j17 < v18.2 /\ v18.2 <= s.length /\ v18.1.length <= 4 * (v18.2 - j17)) -> (v18.1.length <= 1000000000) /\ a2 /\ (v18.2 <= s.length) /\ cond (decide (s.length <= iWs s v18.2)) (K a1 (some (.blk 94 [(.str s), (.nat (iWs s v18.2)), (.nat d), (.bool a)]))) (a2 /\ (iWs s v18.2 <= s.length) /\ Qy (QV s (iWs s v18.2)) (fun j20 => (iWs s v18.2 < j20 /\ j20 <= s.length) -> K (.val (.tup [(.cs (.contains (low v18.1) a4)), (.str []), .nilif])) (some (.blk 94 [(.str s), (.nat j20), (.nat d), (.bool a)]))) (K a1 (some (.blk 94 [(.str s), (.nat (iWs s v18.2)), (.nat d), (.bool a)]))))) (∀ j19 : Nat, K a1 (some (.blk 94 [(.str s), (.nat j19), (.nat d), (.bool a)])))) (cond (decide (bat s j17 = 34)) (a2 /\ (j17 <= s.length) /\ Qy (Jk s j17) (fun v21 => (j17 < v21.2 /\ v21.2 <= s.length /\ v21.1.length <= 4 * (v21.2 - j17)) -> (v21.1.length <= 1000000000) /\ a2 /\ (v21.2 <= s.length) /\ cond (decide (s.length <= iWs s v21.2)) (K a1 (some (.blk 94 [(.str s), (.nat (iWs s v21.2)), (.nat d), (.bool a)]))) (a2 /\ (iWs s v21.2 <= s.length) /\ Qy (QV s (iWs s v21.2)) (fun j23 => (iWs s v21.2 < j23 /\ j23 <= s.length) -> K (.val (.tup [(.cs (.contains (low v21.1) a4)), (.str []), .nilif])) (some (.blk 94 [(.str s), (.nat j23), (.nat d), (.bool a)]))) (K a1 (some (.blk 94 [(.str s), (.nat (iWs s v21.2)), (.nat d), (.bool a)]))))) (∀ j22 : Nat, K a1 (some (.blk 94 [(.str s), (.nat j22), (.nat d), (.bool a)])))) (a2 /\ (j17 <= s.length) /\ Qy (QM s j17) (fun v24 => (j17 < v24.2 /\ v24.2 <= s.length /\ v24.1.length <= 4 * (v24.2 - j17)) -> (v24.1.length <= 1000000000) /\ a2 /\ (v24.2 <= s.length) /\ cond (decide (s.length <= iWs s v24.2)) (K a1 (some (.blk 94 [(.str s), (.nat (iWs s v24.2)), (.nat d), (.bool a)]))) (a2 /\ (iWs s v24.2 <= s.length) /\ Qy (QV s (iWs s v24.2)) (fun j26 => (iWs s v24.2 < j26 /\ j26 <= s.length) -> K (.val (.tup [(.cs (.contains (low v24.1) a4)), (.str []), .nilif])) (some (.blk 94 [(.str s), (.nat j26), (.nat d), (.bool a)]))) (K a1 (some (.blk 94 [(.str s), (.nat (iWs s v24.2)), (.nat d), (.bool a)]))))) (∀ j25 : Nat, K a1 (some (.blk 94 [(.str s), (.nat j25), (.nat d), (.bool a)]))))))) (K a1 a0)) (cond a4 (a2 /\ a9 /\ Qy (Vx s p) (fun j27 => (p < j27 /\ j27 <= s.length) -> cond (decide (j27 = s.length)) (K a1 (some (.blk 94 [(.str s), (.nat j27), (.nat d), (.bool a)]))) ((j27 < s.length) /\ cond (decide (bat s j27 = 39)) (a2 /\ (j27 <= s.length) /\ Qy (Jk s j27) (fun v28 => (j27 < v28.2 /\ v28.2 <= s.length /\ v28.1.length <= 4 * (v28.2 - j27)) -> (v28.1.length <= 1000000000) /\ a2 /\ (v28.2 <= s.length) /\ cond (decide (s.length <= iWs s v28.2)) (K a1 (some (.blk 94 [(.str s), (.nat (iWs s v28.2)), (.nat d), (.bool a)]))) (a2 /\ (iWs s v28.2 <= s.length) /\ Qy (QV s (iWs s v28.2)) (fun j30 => (iWs s v28.2 < j30 /\ j30 <= s.length) -> K (.val (.tup [(.cs (.contains (low v28.1) a4)), (.str []), .nilif])) (some (.blk 94 [(.str s), (.nat j30), (.nat d), (.bool a)]))) (K a1 (some (.blk 94 [(.str s), (.nat (iWs s v28.2)), (.nat d), (.bool a)]))))) (∀ j29 : Nat, K a1 (some (.blk 94 [(.str s), (.nat j29), (.nat d), (.bool a)])))) (cond (decide (bat s j27 = 34)) (a2 /\ (j27 <= s.length) /\ Qy (Jk s j27) (fun v31 => (j27 < v31.2 /\ v31.2 <= s.length /\ v31.1.length <= 4 * (v31.2 - j27)) -> (v31.1.length <= 1000000000) /\ a2 /\ (v31.2 <= s.length) /\ cond (decide (s.length <= iWs s v31.2)) (K a1 (some (.blk 94 [(.str s), (.nat (iWs s v31.2)), (.nat d), (.bool a)]))) (a2 /\ (iWs s v31.2 <= s.length) /\ Qy (QV s (iWs s v31.2)) (fun j33 => (iWs s v31.2 < j33 /\ j33 <= s.length) -> K (.val (.tup [(.cs (.contains (low v31.1) a4)), (.str []), .nilif])) (some (.blk 94 [(.str s), (.nat j33), (.nat d), (.bool a)]))) (K a1 (some (.blk 94 [(.str s), (.nat (iWs s v31.2)), (.nat d), (.bool a)]))))) (∀ j32 : Nat, K a1 (some (.blk 94 [(.str s), (.nat j32), (.nat d), (.bool a)])))) (a2 /\ (j27 <= s.length) /\ Qy (QM s j27) (fun v34 => (j27 < v34.2 /\ v34.2 <= s.length /\ v34.1.length <= 4 * (v34.2 - j27)) -> (v34.1.length <= 1000000000) /\ a2 /\ (v34.2 <= s.length) /\ cond (decide (s.length <= iWs s v34.2)) (K a1 (some (.blk 94 [(.str s), (.nat (iWs s v34.2)), (.nat d), (.bool a)]))) (a2 /\ (iWs s v34.2 <= s.length) /\ Qy (QV s (iWs s v34.2)) (fun j36 => (iWs s v34.2 < j36 /\ j36 <= s.length) -> K (.val (.tup [(.cs (.contains (low v34.1) a4)), (.str []), .nilif])) (some (.blk 94 [(.str s), (.nat j36), (.nat d), (.bool a)]))) (K a1 (some (.blk 94 [(.str s), (.nat (iWs s v34.2)), (.nat d), (.bool a)]))))) (∀ j35 : Nat, K a1 (some (.blk 94 [(.str s), (.nat j35), (.nat d), (.bool a)]))))))) (K a1 a0)) (cond (decide (name = [110, 116, 104, 45, 99, 104, 105, 108, 100])) (a2 /\ a9 /\ Qy (Vx s p) (fun j37 => (p < j37 /\ j37 <= s.length) -> a2 /\ (j37 <= s.length) /\ Qy (VU s j37) (fun v38 => (j37 <= v38.2.2 /\ v38.2.2 <= s.length) -> a2 /\ (v38.2.2 <= s.length) /\ Qy (QV s v38.2.2) (fun j40 => (v38.2.2 < j40 /\ j40 <= s.length) -> K (.val (.tup [(.cs (.nth v38.1 v38.2.1 (a6 || a3) (a7 || a3))), (.str []), .nilif])) (some (.blk 94 [(.str s), (.nat j40), (.nat d), (.bool a)]))) (K a1 (some (.blk 94 [(.str s), (.nat v38.2.2), (.nat d), (.bool a)])))) (∀ j39 : Nat, K a1 (some (.blk 94 [(.str s), (.nat j39), (.nat d), (.bool a)])))) (K a1 a0)) (cond a6 (a2 /\ a9 /\ Qy (Vx s p) (fun j41 => (p < j41 /\ j41 <= s.length) -> a2 /\ (j41 <= s.length) /\ Qy (VU s j41) (fun v42 => (j41 <= v42.2.2 /\ v42.2.2 <= s.length) -> a2 /\ (v42.2.2 <= s.length) /\ Qy (QV s v42.2.2) (fun j44 => (v42.2.2 < j44 /\ j44 <= s.length) -> K (.val (.tup [(.cs (.nth v42.1 v42.2.1 (a6 || a3) (a7 || a3))), (.str []), .nilif])) (some (.blk 94 [(.str s), (.nat j44), (.nat d), (.bool a)]))) (K a1 (some (.blk 94 [(.str s), (.nat v42.2.2), (.nat d), (.bool a)])))) (∀ j43 : Nat, K a1 (some (.blk 94 [(.str s), (.nat j43), (.nat d), (.bool a)])))) (K a1 a0)) (cond a7 (a2 /\ a9 /\ Qy (Vx s p) (fun j45 => (p < j45 /\ j45 <= s.length) -> a2 /\ (j45 <= s.length) /\ Qy (VU s j45) (fun v46 => (j45 <= v46.2.2 /\ v46.2.2 <= s.length) -> a2 /\ (v46.2.2 <= s.length) /\ Qy (QV s v46.2.2) (fun j48 => (v46.2.2 < j48 /\ j48 <= s.length) -> K (.val (.tup [(.cs (.nth v46.1 v46.2.1 (a6 || a3) (a7 || a3))), (.str []), .nilif])) (some (.blk 94 [(.str s), (.nat j48), (.nat d), (.bool a)]))) (K a1 (some (.blk 94 [(.str s), (.nat v46.2.2), (.nat d), (.bool a)])))) (∀ j47 : Nat, K a1 (some (.blk 94 [(.str s), (.nat j47), (.nat d), (.bool a)])))) (K a1 a0)) (cond a3 (a2 /\ a9 /\ Qy (Vx s p) (fun j49 => (p < j49 /\ j49 <= s.length) -> a2 /\ (j49 <= s.length) /\ Qy (VU s j49) (fun v50 => (j49 <= v50.2.2 /\ v50.2.2 <= s.length) -> a2 /\ (v50.2.2 <= s.length) /\ Qy (QV s v50.2.2) (fun j52 => (v50.2.2 < j52 /\ j52 <= s.length) -> K (.val (.tup [(.cs (.nth v50.1 v50.2.1 (a6 || a3) (a7 || a3))), (.str []), .nilif])) (some (.blk 94 [(.str s), (.nat j52), (.nat d), (.bool a)]))) (K a1 (some (.blk 94 [(.str s), (.nat v50.2.2), (.nat d), (.bool a)])))) (∀ j51 : Nat, K a1 (some (.blk 94 [(.str s), (.nat j51), (.nat d), (.bool a)])))) (K a1 a0)) (cond (decide (name = [102, 105, 114, 115, 116, 45, 99, 104, 105, 108, 100])) (K (.val (.tup [(.cs (.nth (0 : Int) (1 : Int) false false)), (.str []), .nilif])) a0) (cond (decide (name = [108, 97, 115, 116, 45, 99, 104, 105, 108, 100])) (K (.val (.tup [(.cs (.nth (0 : Int) (1 : Int) true false)), (.str []), .nilif])) a0) (cond (decide (name = [102, 105, 114, 115, 116, 45, 111, 102, 45, 116, 121, 112, 101])) (K (.val (.tup [(.cs (.nth (0 : Int) (1 : Int) false true)), (.str []), .nilif])) a0) (cond (decide (name = [108, 97, 115, 116, 45, 111, 102, 45, 116, 121, 112, 101])) (K (.val (.tup [(.cs (.nth (0 : Int) (1 : Int) true true)), (.str []), .nilif])) a0) (cond (decide (name = [111, 110, 108, 121, 45, 99, 104, 105, 108, 100])) (K (.val (.tup [(.cs (.only false)), (.str []), .nilif])) a0) (cond (decide (name = [111, 110, 108, 121, 45, 111, 102, 45, 116, 121, 112, 101])) (K (.val (.tup [(.cs (.only true)), (.str []), .nilif])) a0) (cond (decide (name = [105, 110, 112, 117, 116])) (K (.val (.tup [(.cs CSel.input), (.str []), .nilif])) a0) (cond (decide (name = [101, 109, 112, 116, 121])) (K (.val (.tup [(.cs CSel.empty), (.str []), .nilif])) a0) (cond (decide (name = [114, 111, 111, 116])) (K (.val (.tup [(.cs CSel.root), (.str []), .nilif])) a0) (cond (decide (name = [108, 105, 110, 107])) (K (.val (.tup [(.cs CSel.link), (.str []), .nilif])) a0) (cond (decide (name = [108, 97, 110, 103])) (a2 /\ a9 /\ Qy (Vx s p) (fun j53 => (p < j53 /\ j53 <= s.length) -> cond (decide (j53 = s.length)) (K a1 (some (.blk 94 [(.str s), (.nat j53), (.nat d), (.bool a)]))) (a2 /\ (j53 <= s.length) /\ Qy (QM s j53) (fun v54 => (j53 < v54.2 /\ v54.2 <= s.length /\ v54.1.length <= 4 * (v54.2 - j53)) -> (v54.1.length <= 1000000000) /\ a2 /\ (v54.2 <= s.length) /\ cond (decide (s.length <= iWs s v54.2)) (K a1 (some (.blk 94 [(.str s), (.nat (iWs s v54.2)), (.nat d), (.bool a)]))) (a2 /\ (iWs s v54.2 <= s.length) /\ Qy (QV s (iWs s v54.2)) (fun j56 => (iWs s v54.2 < j56 /\ j56 <= s.length) -> K (.val (.tup [(.cs (.lang (low v54.1))), (.str []), .nilif])) (some (.blk 94 [(.str s), (.nat j56), (.nat d), (.bool a)]))) (K a1 (some (.blk 94 [(.str s), (.nat (iWs s v54.2)), (.nat d), (.bool a)]))))) (∀ j55 : Nat, K a1 (some (.blk 94 [(.str s), (.nat j55), (.nat d), (.bool a)]))))) (K a1 a0)) (cond (decide (name = [101, 110, 97, 98, 108, 101, 100])) (K (.val (.tup [(.cs CSel.enabled), (.str []), .nilif])) a0) (cond (decide (name = [100, 105, 115, 97, 98, 108, 101, 100])) (K (.val (.tup [(.cs CSel.disabled), (.str []), .nilif])) a0) (cond (decide (name = [99, 104, 101, 99, 107, 101, 100])) (K (.val (.tup [(.cs CSel.checked), (.str []), .nilif])) a0) (cond (decide (name = [118, 105, 115, 105, 116, 101, 100])) ((1 + name.length <= 2305843009213693952) /\ K a8 a0) (cond (decide (name = [104, 111, 118, 101, 114])) ((1 + name.length <= 2305843009213693952) /\ K a8 a0) (cond (decide (name = [97, 99, 116, 105, 118, 101])) ((1 + name.length <= 2305843009213693952) /\ K a8 a0) (cond (decide (name = [102, 111, 99, 117, 115])) ((1 + name.length <= 2305843009213693952) /\ K a8 a0) (cond (decide (name = [116, 97, 114, 103, 101, 116])) ((1 + name.length <= 2305843009213693952) /\ K a8 a0) (cond (decide (name = [97, 102, 116, 101, 114])) (K a5 a0) (cond (decide (name = [98, 97, 99, 107, 100, 114, 111, 112])) (K a5 a0) (cond (decide (name = [98, 101, 102, 111, 114, 101])) (K a5 a0) (cond (decide (name = [99, 117, 101])) (K a5 a0) (cond (decide (name = [102, 105, 114, 115, 116, 45, 108, 101, 116, 116, 101, 114])) (K a5 a0) (cond (decide (name = [102, 105, 114, 115, 116, 45, 108, 105, 110, 101])) (K a5 a0) (cond (decide (name = [103, 114, 97, 109, 109, 97, 114, 45, 101, 114, 114, 111, 114])) (K a5 a0) (cond (decide (name = [109, 97, 114, 107, 101, 114])) (K a5 a0) (cond (decide (name = [112, 108, 97, 99, 101, 104, 111, 108, 100, 101, 114])) (K a5 a0) (cond (decide (name = [115, 101, 108, 101, 99, 116, 105, 111, 110])) (K a5 a0) (cond (decide (name = [115, 112, 101, 108, 108, 105, 110, 103, 45, 101, 114, 114, 111, 114])) (K a5 a0) (K a1 a0)))))))))))))))))))))))))))))))))))))))) ?_
   refine Qc (fun h1 => ?_) (fun h1 => ?_)
   have h1 := of_decide_eq_true h1
   refine QB (QB ?_)
   refine QK (fun j5 h2 => ?_) (fun h2 => ?_)
   intro h3
   try simp [-za, -zb] at h3
   refine QB (QB (QB (QB ?_)))
   refine QK (fun v6 h4 => ?_) (fun h4 => ?_)
   intro h5
   try simp [-za, -zb] at h5
   refine QB (QB ?_)
   refine QK (fun j8 h6 => ?_) (fun h6 => ?_)
   intro h7
   try simp [-za, -zb] at h7
   have e : iPs (QD s a (1001 - d)) s i = some (some (.rel name v6.1), [], j8) := by rw [k3, psG (.inl h1), Qgs h2 h4 h6]; rfl
   have q := Qj hk e ⟨by dsimp only; omega, by dsimp only; omega⟩
   exact q
   exact Qb hk (by rw [k3, psG (.inl h1), Qjn h2 h4 h6]; rfl) _
   intro j7
   exact Qb hk (by rw [k3, psG (.inl h1), Qjo h2 h4]; rfl) _
   exact Qb hk (by rw [k3, psG (.inl h1), Qjp h2]; rfl) _
   have h1 := of_decide_eq_false h1
   refine Qc (fun h2 => ?_) (fun h2 => ?_)
   have h2 := of_decide_eq_true h2
   refine QB (QB ?_)
   refine QK (fun j9 h3 => ?_) (fun h3 => ?_)
   intro h4
   try simp [-za, -zb] at h4
   refine QB (QB (QB (QB ?_)))
   refine QK (fun v10 h5 => ?_) (fun h5 => ?_)
   intro h6
   try simp [-za, -zb] at h6
   refine QB (QB ?_)
   refine QK (fun j12 h7 => ?_) (fun h7 => ?_)
   intro h8
   try simp [-za, -zb] at h8
   have e : iPs (QD s a (1001 - d)) s i = some (some (.rel name v10.1), [], j12) := by rw [k3, psG (.inr (.inl h2)), Qgs h3 h5 h7]; rfl
   have q := Qj hk e ⟨by dsimp only; omega, by dsimp only; omega⟩
   exact q
   exact Qb hk (by rw [k3, psG (.inr (.inl h2)), Qjn h3 h5 h7]; rfl) _
   intro j11
   exact Qb hk (by rw [k3, psG (.inr (.inl h2)), Qjo h3 h5]; rfl) _
   exact Qb hk (by rw [k3, psG (.inr (.inl h2)), Qjp h3]; rfl) _
   have h2 := of_decide_eq_false h2
   refine Qc (fun h3 => ?_) (fun h3 => ?_)
   have h3 := of_decide_eq_true h3
   refine QB (QB ?_)
   refine QK (fun j13 h4 => ?_) (fun h4 => ?_)
   intro h5
   try simp [-za, -zb] at h5
   refine QB (QB (QB (QB ?_)))
   refine QK (fun v14 h6 => ?_) (fun h6 => ?_)
   intro h7
   try simp [-za, -zb] at h7
   refine QB (QB ?_)
   refine QK (fun j16 h8 => ?_) (fun h8 => ?_)
   intro h9
   try simp [-za, -zb] at h9
   have e : iPs (QD s a (1001 - d)) s i = some (some (.rel name v14.1), [], j16) := by rw [k3, psG (.inr (.inr h3)), Qgs h4 h6 h8]; rfl
   have q := Qj hk e ⟨by dsimp only; omega, by dsimp only; omega⟩
   exact q
   exact Qb hk (by rw [k3, psG (.inr (.inr h3)), Qjn h4 h6 h8]; rfl) _
   intro j15
   exact Qb hk (by rw [k3, psG (.inr (.inr h3)), Qjo h4 h6]; rfl) _
   exact Qb hk (by rw [k3, psG (.inr (.inr h3)), Qjp h4]; rfl) _
   have h3 := of_decide_eq_false h3
   refine Qc (fun h4 => ?_) (fun h4 => ?_)
   have h4 := of_decide_eq_true h4
   refine QB (QB ?_)
   refine QK (fun j17 h5 => ?_) (fun h5 => ?_)
   intro h6
   try simp [-za, -zb] at h6
   refine Qc ?_ ?_ <;> intro h7 <;> try simp [-za, -zb] at h7
   exact Qb hk (by rw [k3, psV (.inl h4), Qov h5 (by omega)]; rfl) _
   refine QB ?_
   refine Qc ?_ ?_ <;> intro h8 <;> try simp [-za, -zb] at h8
   refine QB (QB ?_)
   refine QK (fun v18 h9 => ?_) (fun h9 => ?_)
   intro h10
   try simp [-za, -zb] at h10
   refine QB (QB (QB ?_))
   refine Qc ?_ ?_ <;> intro h11 <;> try simp [-za, -zb] at h11
   exact Qb hk (by rw [k3, psV (.inl h4), ZV h5 (by omega) (by rw [if_pos (.inl h8)]; exact h9) (.inl (by omega))]; rfl) _
   refine QB (QB ?_)
   refine QK (fun j20 h12 => ?_) (fun h12 => ?_)
   intro h13
   try simp [-za, -zb] at h13
   have w9 := VA s v18.2
   have e : iPs (QD s a (1001 - d)) s i = some (some (.contains (low v18.1) (decide (name = [99, 111, 110, 116, 97, 105, 110, 115, 111, 119, 110]))), [], j20) := by rw [k3, psV (.inl h4), Qat h5 (by omega) (by rw [if_pos (.inl h8)]; exact h9) h12]; rfl
   have q := Qj hk e ⟨by dsimp only; omega, by dsimp only; omega⟩
   exact q
   exact Qb hk (by rw [k3, psV (.inl h4), ZV h5 (by omega) (by rw [if_pos (.inl h8)]; exact h9) (.inr h12)]; rfl) _
   intro j19
   exact Qb hk (by rw [k3, psV (.inl h4), QbO h5 (by omega) (by rw [if_pos (.inl h8)]; exact h9)]; rfl) _
   refine Qc (fun h9 => ?_) (fun h9 => ?_)
   try simp [-za, -zb] at h9
   refine QB (QB ?_)
   refine QK (fun v21 h10 => ?_) (fun h10 => ?_)
   intro h11
   try simp [-za, -zb] at h11
   refine QB (QB (QB ?_))
   refine Qc ?_ ?_ <;> intro h12 <;> try simp [-za, -zb] at h12
   exact Qb hk (by rw [k3, psV (.inl h4), ZV h5 (by omega) (by rw [if_pos (.inr h9)]; exact h10) (.inl (by omega))]; rfl) _
   refine QB (QB ?_)
   refine QK (fun j23 h13 => ?_) (fun h13 => ?_)
   intro h14
   try simp [-za, -zb] at h14
   have w9 := VA s v21.2
   have e : iPs (QD s a (1001 - d)) s i = some (some (.contains (low v21.1) (decide (name = [99, 111, 110, 116, 97, 105, 110, 115, 111, 119, 110]))), [], j23) := by rw [k3, psV (.inl h4), Qat h5 (by omega) (by rw [if_pos (.inr h9)]; exact h10) h13]; rfl
   have q := Qj hk e ⟨by dsimp only; omega, by dsimp only; omega⟩
   exact q
   exact Qb hk (by rw [k3, psV (.inl h4), ZV h5 (by omega) (by rw [if_pos (.inr h9)]; exact h10) (.inr h13)]; rfl) _
   intro j22
   exact Qb hk (by rw [k3, psV (.inl h4), QbO h5 (by omega) (by rw [if_pos (.inr h9)]; exact h10)]; rfl) _
   try simp [-za, -zb] at h9
   refine QB (QB ?_)
   refine QK (fun v24 h10 => ?_) (fun h10 => ?_)
   intro h11
   try simp [-za, -zb] at h11
   refine QB (QB (QB ?_))
   refine Qc ?_ ?_ <;> intro h12 <;> try simp [-za, -zb] at h12
   exact Qb hk (by rw [k3, psV (.inl h4), ZV h5 (by omega) (by rw [if_neg (by omega)]; exact h10) (.inl (by omega))]; rfl) _
   refine QB (QB ?_)
   refine QK (fun j26 h13 => ?_) (fun h13 => ?_)
   intro h14
   try simp [-za, -zb] at h14
   have w9 := VA s v24.2
   have e : iPs (QD s a (1001 - d)) s i = some (some (.contains (low v24.1) (decide (name = [99, 111, 110, 116, 97, 105, 110, 115, 111, 119, 110]))), [], j26) := by rw [k3, psV (.inl h4), Qat h5 (by omega) (by rw [if_neg (by omega)]; exact h10) h13]; rfl
   have q := Qj hk e ⟨by dsimp only; omega, by dsimp only; omega⟩
   exact q
   exact Qb hk (by rw [k3, psV (.inl h4), ZV h5 (by omega) (by rw [if_neg (by omega)]; exact h10) (.inr h13)]; rfl) _
   intro j25
   exact Qb hk (by rw [k3, psV (.inl h4), QbO h5 (by omega) (by rw [if_neg (by omega)]; exact h10)]; rfl) _
   exact Qb hk (by rw [k3, psV (.inl h4), Qow h5]; rfl) _
   have h4 := of_decide_eq_false h4
   refine Qc (fun h5 => ?_) (fun h5 => ?_)
   have h5 := of_decide_eq_true h5
   refine QB (QB ?_)
   refine QK (fun j27 h6 => ?_) (fun h6 => ?_)
   intro h7
   try simp [-za, -zb] at h7
   refine Qc ?_ ?_ <;> intro h8 <;> try simp [-za, -zb] at h8
   exact Qb hk (by rw [k3, psV (.inr h5), Qov h6 (by omega)]; rfl) _
   refine QB ?_
   refine Qc ?_ ?_ <;> intro h9 <;> try simp [-za, -zb] at h9
   refine QB (QB ?_)
   refine QK (fun v28 h10 => ?_) (fun h10 => ?_)
   intro h11
   try simp [-za, -zb] at h11
   refine QB (QB (QB ?_))
   refine Qc ?_ ?_ <;> intro h12 <;> try simp [-za, -zb] at h12
   exact Qb hk (by rw [k3, psV (.inr h5), ZV h6 (by omega) (by rw [if_pos (.inl h9)]; exact h10) (.inl (by omega))]; rfl) _
   refine QB (QB ?_)
   refine QK (fun j30 h13 => ?_) (fun h13 => ?_)
   intro h14
   try simp [-za, -zb] at h14
   have w9 := VA s v28.2
   have e : iPs (QD s a (1001 - d)) s i = some (some (.contains (low v28.1) (decide (name = [99, 111, 110, 116, 97, 105, 110, 115, 111, 119, 110]))), [], j30) := by rw [k3, psV (.inr h5), Qat h6 (by omega) (by rw [if_pos (.inl h9)]; exact h10) h13]; rfl
   have q := Qj hk e ⟨by dsimp only; omega, by dsimp only; omega⟩
   exact q
   exact Qb hk (by rw [k3, psV (.inr h5), ZV h6 (by omega) (by rw [if_pos (.inl h9)]; exact h10) (.inr h13)]; rfl) _
   intro j29
   exact Qb hk (by rw [k3, psV (.inr h5), QbO h6 (by omega) (by rw [if_pos (.inl h9)]; exact h10)]; rfl) _
   refine Qc (fun h10 => ?_) (fun h10 => ?_)
   try simp [-za, -zb] at h10
   refine QB (QB ?_)
   refine QK (fun v31 h11 => ?_) (fun h11 => ?_)
   intro h12
   try simp [-za, -zb] at h12
   refine QB (QB (QB ?_))
   refine Qc ?_ ?_ <;> intro h13 <;> try simp [-za, -zb] at h13
   exact Qb hk (by rw [k3, psV (.inr h5), ZV h6 (by omega) (by rw [if_pos (.inr h10)]; exact h11) (.inl (by omega))]; rfl) _
   refine QB (QB ?_)
   refine QK (fun j33 h14 => ?_) (fun h14 => ?_)
   intro h15
   try simp [-za, -zb] at h15
   have w9 := VA s v31.2
   have e : iPs (QD s a (1001 - d)) s i = some (some (.contains (low v31.1) (decide (name = [99, 111, 110, 116, 97, 105, 110, 115, 111, 119, 110]))), [], j33) := by rw [k3, psV (.inr h5), Qat h6 (by omega) (by rw [if_pos (.inr h10)]; exact h11) h14]; rfl
   have q := Qj hk e ⟨by dsimp only; omega, by dsimp only; omega⟩
   exact q
   exact Qb hk (by rw [k3, psV (.inr h5), ZV h6 (by omega) (by rw [if_pos (.inr h10)]; exact h11) (.inr h14)]; rfl) _
   intro j32
   exact Qb hk (by rw [k3, psV (.inr h5), QbO h6 (by omega) (by rw [if_pos (.inr h10)]; exact h11)]; rfl) _
   try simp [-za, -zb] at h10
   refine QB (QB ?_)
   refine QK (fun v34 h11 => ?_) (fun h11 => ?_)
   intro h12
   try simp [-za, -zb] at h12
   refine QB (QB (QB ?_))
   refine Qc ?_ ?_ <;> intro h13 <;> try simp [-za, -zb] at h13
   exact Qb hk (by rw [k3, psV (.inr h5), ZV h6 (by omega) (by rw [if_neg (by omega)]; exact h11) (.inl (by omega))]; rfl) _
   refine QB (QB ?_)
   refine QK (fun j36 h14 => ?_) (fun h14 => ?_)
   intro h15
   try simp [-za, -zb] at h15
   have w9 := VA s v34.2
   have e : iPs (QD s a (1001 - d)) s i = some (some (.contains (low v34.1) (decide (name = [99, 111, 110, 116, 97, 105, 110, 115, 111, 119, 110]))), [], j36) := by rw [k3, psV (.inr h5), Qat h6 (by omega) (by rw [if_neg (by omega)]; exact h11) h14]; rfl
   have q := Qj hk e ⟨by dsimp only; omega, by dsimp only; omega⟩
   exact q
   exact Qb hk (by rw [k3, psV (.inr h5), ZV h6 (by omega) (by rw [if_neg (by omega)]; exact h11) (.inr h14)]; rfl) _
   intro j35
   exact Qb hk (by rw [k3, psV (.inr h5), QbO h6 (by omega) (by rw [if_neg (by omega)]; exact h11)]; rfl) _
   exact Qb hk (by rw [k3, psV (.inr h5), Qow h6]; rfl) _
   have h5 := of_decide_eq_false h5
   refine Qc (fun h6 => ?_) (fun h6 => ?_)
   have h6 := of_decide_eq_true h6
   refine QB (QB ?_)
   refine QK (fun j37 h7 => ?_) (fun h7 => ?_)
   intro h8
   try simp [-za, -zb] at h8
   refine QB (QB ?_)
   refine QK (fun v38 h9 => ?_) (fun h9 => ?_)
   intro h10
   try simp [-za, -zb] at h10
   refine QB (QB ?_)
   refine QK (fun j40 h11 => ?_) (fun h11 => ?_)
   intro h12
   try simp [-za, -zb] at h12
   have e : iPs (QD s a (1001 - d)) s i = some (some (.nth v38.1 v38.2.1 ((decide (name = [110, 116, 104, 45, 108, 97, 115, 116, 45, 99, 104, 105, 108, 100])) || (decide (name = [110, 116, 104, 45, 108, 97, 115, 116, 45, 111, 102, 45, 116, 121, 112, 101]))) ((decide (name = [110, 116, 104, 45, 111, 102, 45, 116, 121, 112, 101])) || (decide (name = [110, 116, 104, 45, 108, 97, 115, 116, 45, 111, 102, 45, 116, 121, 112, 101])))), [], j40) := by rw [k3, psN (.inl h6), QcK h7 h9 h11]; rfl
   have q := Qj hk e ⟨by dsimp only; omega, by dsimp only; omega⟩
   exact q
   exact Qb hk (by rw [k3, psN (.inl h6), Qgp h7 h9 h11]; rfl) _
   intro j39
   exact Qb hk (by rw [k3, psN (.inl h6), Qgq h7 h9]; rfl) _
   exact Qb hk (by rw [k3, psN (.inl h6), Qgr h7]; rfl) _
   have h6 := of_decide_eq_false h6
   refine Qc (fun h7 => ?_) (fun h7 => ?_)
   have h7 := of_decide_eq_true h7
   refine QB (QB ?_)
   refine QK (fun j41 h8 => ?_) (fun h8 => ?_)
   intro h9
   try simp [-za, -zb] at h9
   refine QB (QB ?_)
   refine QK (fun v42 h10 => ?_) (fun h10 => ?_)
   intro h11
   try simp [-za, -zb] at h11
   refine QB (QB ?_)
   refine QK (fun j44 h12 => ?_) (fun h12 => ?_)
   intro h13
   try simp [-za, -zb] at h13
   have e : iPs (QD s a (1001 - d)) s i = some (some (.nth v42.1 v42.2.1 ((decide (name = [110, 116, 104, 45, 108, 97, 115, 116, 45, 99, 104, 105, 108, 100])) || (decide (name = [110, 116, 104, 45, 108, 97, 115, 116, 45, 111, 102, 45, 116, 121, 112, 101]))) ((decide (name = [110, 116, 104, 45, 111, 102, 45, 116, 121, 112, 101])) || (decide (name = [110, 116, 104, 45, 108, 97, 115, 116, 45, 111, 102, 45, 116, 121, 112, 101])))), [], j44) := by rw [k3, psN (.inr (.inl h7)), QcK h8 h10 h12]; rfl
   have q := Qj hk e ⟨by dsimp only; omega, by dsimp only; omega⟩
   exact q
   exact Qb hk (by rw [k3, psN (.inr (.inl h7)), Qgp h8 h10 h12]; rfl) _
   intro j43
   exact Qb hk (by rw [k3, psN (.inr (.inl h7)), Qgq h8 h10]; rfl) _
   exact Qb hk (by rw [k3, psN (.inr (.inl h7)), Qgr h8]; rfl) _
   have h7 := of_decide_eq_false h7
   refine Qc (fun h8 => ?_) (fun h8 => ?_)
   have h8 := of_decide_eq_true h8
   refine QB (QB ?_)
   refine QK (fun j45 h9 => ?_) (fun h9 => ?_)
   intro h10
   try simp [-za, -zb] at h10
   refine QB (QB ?_)
   refine QK (fun v46 h11 => ?_) (fun h11 => ?_)
   intro h12
   try simp [-za, -zb] at h12
   refine QB (QB ?_)
   refine QK (fun j48 h13 => ?_) (fun h13 => ?_)
   intro h14
   try simp [-za, -zb] at h14
   have e : iPs (QD s a (1001 - d)) s i = some (some (.nth v46.1 v46.2.1 ((decide (name = [110, 116, 104, 45, 108, 97, 115, 116, 45, 99, 104, 105, 108, 100])) || (decide (name = [110, 116, 104, 45, 108, 97, 115, 116, 45, 111, 102, 45, 116, 121, 112, 101]))) ((decide (name = [110, 116, 104, 45, 111, 102, 45, 116, 121, 112, 101])) || (decide (name = [110, 116, 104, 45, 108, 97, 115, 116, 45, 111, 102, 45, 116, 121, 112, 101])))), [], j48) := by rw [k3, psN (.inr (.inr (.inl h8))), QcK h9 h11 h13]; rfl
   have q := Qj hk e ⟨by dsimp only; omega, by dsimp only; omega⟩
   exact q
   exact Qb hk (by rw [k3, psN (.inr (.inr (.inl h8))), Qgp h9 h11 h13]; rfl) _
   intro j47
   exact Qb hk (by rw [k3, psN (.inr (.inr (.inl h8))), Qgq h9 h11]; rfl) _
   exact Qb hk (by rw [k3, psN (.inr (.inr (.inl h8))), Qgr h9]; rfl) _
   have h8 := of_decide_eq_false h8
   refine Qc (fun h9 => ?_) (fun h9 => ?_)
   have h9 := of_decide_eq_true h9
   refine QB (QB ?_)
   refine QK (fun j49 h10 => ?_) (fun h10 => ?_)
   intro h11
   try simp [-za, -zb] at h11
   refine QB (QB ?_)
   refine QK (fun v50 h12 => ?_) (fun h12 => ?_)
   intro h13
   try simp [-za, -zb] at h13
   refine QB (QB ?_)
   refine QK (fun j52 h14 => ?_) (fun h14 => ?_)
   intro h15
   try simp [-za, -zb] at h15
   have e : iPs (QD s a (1001 - d)) s i = some (some (.nth v50.1 v50.2.1 ((decide (name = [110, 116, 104, 45, 108, 97, 115, 116, 45, 99, 104, 105, 108, 100])) || (decide (name = [110, 116, 104, 45, 108, 97, 115, 116, 45, 111, 102, 45, 116, 121, 112, 101]))) ((decide (name = [110, 116, 104, 45, 111, 102, 45, 116, 121, 112, 101])) || (decide (name = [110, 116, 104, 45, 108, 97, 115, 116, 45, 111, 102, 45, 116, 121, 112, 101])))), [], j52) := by rw [k3, psN (.inr (.inr (.inr h9))), QcK h10 h12 h14]; rfl
   have q := Qj hk e ⟨by dsimp only; omega, by dsimp only; omega⟩
   exact q
   exact Qb hk (by rw [k3, psN (.inr (.inr (.inr h9))), Qgp h10 h12 h14]; rfl) _
   intro j51
   exact Qb hk (by rw [k3, psN (.inr (.inr (.inr h9))), Qgq h10 h12]; rfl) _
   exact Qb hk (by rw [k3, psN (.inr (.inr (.inr h9))), Qgr h10]; rfl) _
   have h9 := of_decide_eq_false h9
   refine Qc (fun h10 => ?_) (fun h10 => ?_)
   have h10 := of_decide_eq_true h10
   have e : iPs (QD s a (1001 - d)) s i = some (some (.nth (0 : Int) (1 : Int) false false), [], p) := by rw [k3, h10]; rfl
   have q := Qj hk e ⟨by dsimp only; omega, by dsimp only; omega⟩
   exact q
   have h10 := of_decide_eq_false h10
   refine Qc (fun h11 => ?_) (fun h11 => ?_)
   have h11 := of_decide_eq_true h11
   have e : iPs (QD s a (1001 - d)) s i = some (some (.nth (0 : Int) (1 : Int) true false), [], p) := by rw [k3, h11]; rfl
   have q := Qj hk e ⟨by dsimp only; omega, by dsimp only; omega⟩
   exact q
   have h11 := of_decide_eq_false h11
   refine Qc (fun h12 => ?_) (fun h12 => ?_)
   have h12 := of_decide_eq_true h12
   have e : iPs (QD s a (1001 - d)) s i = some (some (.nth (0 : Int) (1 : Int) false true), [], p) := by rw [k3, h12]; rfl
   have q := Qj hk e ⟨by dsimp only; omega, by dsimp only; omega⟩
   exact q
   have h12 := of_decide_eq_false h12
   refine Qc (fun h13 => ?_) (fun h13 => ?_)
   have h13 := of_decide_eq_true h13
   have e : iPs (QD s a (1001 - d)) s i = some (some (.nth (0 : Int) (1 : Int) true true), [], p) := by rw [k3, h13]; rfl
   have q := Qj hk e ⟨by dsimp only; omega, by dsimp only; omega⟩
   exact q
   have h13 := of_decide_eq_false h13
   refine Qc (fun h14 => ?_) (fun h14 => ?_)
   have h14 := of_decide_eq_true h14
   have e : iPs (QD s a (1001 - d)) s i = some (some (.only false), [], p) := by rw [k3, h14]; rfl
   have q := Qj hk e ⟨by dsimp only; omega, by dsimp only; omega⟩
   exact q
   have h14 := of_decide_eq_false h14
   refine Qc (fun h15 => ?_) (fun h15 => ?_)
   have h15 := of_decide_eq_true h15
   have e : iPs (QD s a (1001 - d)) s i = some (some (.only true), [], p) := by rw [k3, h15]; rfl
   have q := Qj hk e ⟨by dsimp only; omega, by dsimp only; omega⟩
   exact q
   have h15 := of_decide_eq_false h15
   refine Qc (fun h16 => ?_) (fun h16 => ?_)
   have h16 := of_decide_eq_true h16
   have e : iPs (QD s a (1001 - d)) s i = some (some CSel.input, [], p) := by rw [k3, h16]; rfl
   have q := Qj hk e ⟨by dsimp only; omega, by dsimp only; omega⟩
   exact q
   have h16 := of_decide_eq_false h16
   refine Qc (fun h17 => ?_) (fun h17 => ?_)
   have h17 := of_decide_eq_true h17
   have e : iPs (QD s a (1001 - d)) s i = some (some CSel.empty, [], p) := by rw [k3, h17]; rfl
   have q := Qj hk e ⟨by dsimp only; omega, by dsimp only; omega⟩
   exact q
   have h17 := of_decide_eq_false h17
   refine Qc (fun h18 => ?_) (fun h18 => ?_)
   have h18 := of_decide_eq_true h18
   have e : iPs (QD s a (1001 - d)) s i = some (some CSel.root, [], p) := by rw [k3, h18]; rfl
   have q := Qj hk e ⟨by dsimp only; omega, by dsimp only; omega⟩
   exact q
   have h18 := of_decide_eq_false h18
   refine Qc (fun h19 => ?_) (fun h19 => ?_)
   have h19 := of_decide_eq_true h19
   have e : iPs (QD s a (1001 - d)) s i = some (some CSel.link, [], p) := by rw [k3, h19]; rfl
   have q := Qj hk e ⟨by dsimp only; omega, by dsimp only; omega⟩
   exact q
   have h19 := of_decide_eq_false h19
   refine Qc (fun h20 => ?_) (fun h20 => ?_)
   have h20 := of_decide_eq_true h20
   refine QB (QB ?_)
   refine QK (fun j53 h21 => ?_) (fun h21 => ?_)
   intro h22
   try simp [-za, -zb] at h22
   refine Qc ?_ ?_ <;> intro h23 <;> try simp [-za, -zb] at h23
   exact Qb hk (by rw [k3, psL h20, Quz h21 (by omega)]; rfl) _
   refine QB (QB ?_)
   refine QK (fun v54 h24 => ?_) (fun h24 => ?_)
   intro h25
   try simp [-za, -zb] at h25
   refine QB (QB (QB ?_))
   refine Qc ?_ ?_ <;> intro h26 <;> try simp [-za, -zb] at h26
   exact Qb hk (by rw [k3, psL h20, Qox h21 (by omega) h24 (.inl (by omega))]; rfl) _
   refine QB (QB ?_)
   refine QK (fun j56 h27 => ?_) (fun h27 => ?_)
   intro h28
   try simp [-za, -zb] at h28
   have w9 := VA s v54.2
   have e : iPs (QD s a (1001 - d)) s i = some (some (.lang (low v54.1)), [], j56) := by rw [k3, psL h20, Qqn h21 (by omega) h24 h27]; rfl
   have q := Qj hk e ⟨by dsimp only; omega, by dsimp only; omega⟩
   exact q
   exact Qb hk (by rw [k3, psL h20, Qox h21 (by omega) h24 (.inr h27)]; rfl) _
   intro j55
   exact Qb hk (by rw [k3, psL h20, Quy h21 (by omega) h24]; rfl) _
   exact Qb hk (by rw [k3, psL h20, QuA h21]; rfl) _
   have h20 := of_decide_eq_false h20
   refine Qc (fun h21 => ?_) (fun h21 => ?_)
   have h21 := of_decide_eq_true h21
   have e : iPs (QD s a (1001 - d)) s i = some (some CSel.enabled, [], p) := by rw [k3, h21]; rfl
   have q := Qj hk e ⟨by dsimp only; omega, by dsimp only; omega⟩
   exact q
   have h21 := of_decide_eq_false h21
   refine Qc (fun h22 => ?_) (fun h22 => ?_)
   have h22 := of_decide_eq_true h22
   have e : iPs (QD s a (1001 - d)) s i = some (some CSel.disabled, [], p) := by rw [k3, h22]; rfl
   have q := Qj hk e ⟨by dsimp only; omega, by dsimp only; omega⟩
   exact q
   have h22 := of_decide_eq_false h22
   refine Qc (fun h23 => ?_) (fun h23 => ?_)
   have h23 := of_decide_eq_true h23
   have e : iPs (QD s a (1001 - d)) s i = some (some CSel.checked, [], p) := by rw [k3, h23]; rfl
   have q := Qj hk e ⟨by dsimp only; omega, by dsimp only; omega⟩
   exact q
   have h23 := of_decide_eq_false h23
   refine Qc (fun h24 => ?_) (fun h24 => ?_)
   have h24 := of_decide_eq_true h24
   refine QB ?_
   have e : iPs (QD s a (1001 - d)) s i = some (some (.never ([58] ++ name)), [], p) := by rw [k3, h24]; rfl
   have q := Qj hk e ⟨by dsimp only; omega, by dsimp only; omega⟩
   exact q
   have h24 := of_decide_eq_false h24
   refine Qc (fun h25 => ?_) (fun h25 => ?_)
   have h25 := of_decide_eq_true h25
   refine QB ?_
   have e : iPs (QD s a (1001 - d)) s i = some (some (.never ([58] ++ name)), [], p) := by rw [k3, h25]; rfl
   have q := Qj hk e ⟨by dsimp only; omega, by dsimp only; omega⟩
   exact q
   have h25 := of_decide_eq_false h25
   refine Qc (fun h26 => ?_) (fun h26 => ?_)
   have h26 := of_decide_eq_true h26
   refine QB ?_
   have e : iPs (QD s a (1001 - d)) s i = some (some (.never ([58] ++ name)), [], p) := by rw [k3, h26]; rfl
   have q := Qj hk e ⟨by dsimp only; omega, by dsimp only; omega⟩
   exact q
   have h26 := of_decide_eq_false h26
   refine Qc (fun h27 => ?_) (fun h27 => ?_)
   have h27 := of_decide_eq_true h27
   refine QB ?_
   have e : iPs (QD s a (1001 - d)) s i = some (some (.never ([58] ++ name)), [], p) := by rw [k3, h27]; rfl
   have q := Qj hk e ⟨by dsimp only; omega, by dsimp only; omega⟩
   exact q
   have h27 := of_decide_eq_false h27
   refine Qc (fun h28 => ?_) (fun h28 => ?_)
   have h28 := of_decide_eq_true h28
   refine QB ?_
   have e : iPs (QD s a (1001 - d)) s i = some (some (.never ([58] ++ name)), [], p) := by rw [k3, h28]; rfl
   have q := Qj hk e ⟨by dsimp only; omega, by dsimp only; omega⟩
   exact q
   have h28 := of_decide_eq_false h28
   refine Qc (fun h29 => ?_) (fun h29 => ?_)
   have h29 := of_decide_eq_true h29
   have e : iPs (QD s a (1001 - d)) s i = some (none, name, p) := by rw [k3, h29]; rfl
   have q := Qj hk e ⟨by dsimp only; omega, by dsimp only; omega⟩
   exact q
   have h29 := of_decide_eq_false h29
   refine Qc (fun h30 => ?_) (fun h30 => ?_)
   have h30 := of_decide_eq_true h30
   have e : iPs (QD s a (1001 - d)) s i = some (none, name, p) := by rw [k3, h30]; rfl
   have q := Qj hk e ⟨by dsimp only; omega, by dsimp only; omega⟩
   exact q
   have h30 := of_decide_eq_false h30
   refine Qc (fun h31 => ?_) (fun h31 => ?_)
   have h31 := of_decide_eq_true h31
   have e : iPs (QD s a (1001 - d)) s i = some (none, name, p) := by rw [k3, h31]; rfl
   have q := Qj hk e ⟨by dsimp only; omega, by dsimp only; omega⟩
   exact q
   have h31 := of_decide_eq_false h31
   refine Qc (fun h32 => ?_) (fun h32 => ?_)
   have h32 := of_decide_eq_true h32
   have e : iPs (QD s a (1001 - d)) s i = some (none, name, p) := by rw [k3, h32]; rfl
   have q := Qj hk e ⟨by dsimp only; omega, by dsimp only; omega⟩
   exact q
   have h32 := of_decide_eq_false h32
   refine Qc (fun h33 => ?_) (fun h33 => ?_)
   have h33 := of_decide_eq_true h33
   have e : iPs (QD s a (1001 - d)) s i = some (none, name, p) := by rw [k3, h33]; rfl
   have q := Qj hk e ⟨by dsimp only; omega, by dsimp only; omega⟩
   exact q
   have h33 := of_decide_eq_false h33
   refine Qc (fun h34 => ?_) (fun h34 => ?_)
   have h34 := of_decide_eq_true h34
   have e : iPs (QD s a (1001 - d)) s i = some (none, name, p) := by rw [k3, h34]; rfl
   have q := Qj hk e ⟨by dsimp only; omega, by dsimp only; omega⟩
   exact q
   have h34 := of_decide_eq_false h34
   refine Qc (fun h35 => ?_) (fun h35 => ?_)
   have h35 := of_decide_eq_true h35
   have e : iPs (QD s a (1001 - d)) s i = some (none, name, p) := by rw [k3, h35]; rfl
   have q := Qj hk e ⟨by dsimp only; omega, by dsimp only; omega⟩
   exact q
   have h35 := of_decide_eq_false h35
   refine Qc (fun h36 => ?_) (fun h36 => ?_)
   have h36 := of_decide_eq_true h36
   have e : iPs (QD s a (1001 - d)) s i = some (none, name, p) := by rw [k3, h36]; rfl
   have q := Qj hk e ⟨by dsimp only; omega, by dsimp only; omega⟩
   exact q
   have h36 := of_decide_eq_false h36
   refine Qc (fun h37 => ?_) (fun h37 => ?_)
   have h37 := of_decide_eq_true h37
   have e : iPs (QD s a (1001 - d)) s i = some (none, name, p) := by rw [k3, h37]; rfl
   have q := Qj hk e ⟨by dsimp only; omega, by dsimp only; omega⟩
   exact q
   have h37 := of_decide_eq_false h37
   refine Qc (fun h38 => ?_) (fun h38 => ?_)
   have h38 := of_decide_eq_true h38
   have e : iPs (QD s a (1001 - d)) s i = some (none, name, p) := by rw [k3, h38]; rfl
   have q := Qj hk e ⟨by dsimp only; omega, by dsimp only; omega⟩
   exact q
   have h38 := of_decide_eq_false h38
   refine Qc (fun h39 => ?_) (fun h39 => ?_)
   have h39 := of_decide_eq_true h39
   have e : iPs (QD s a (1001 - d)) s i = some (none, name, p) := by rw [k3, h39]; rfl
   have q := Qj hk e ⟨by dsimp only; omega, by dsimp only; omega⟩
   exact q
   have h39 := of_decide_eq_false h39
   exact Qb hk (by rw [k3]; simp [Y9, QfG, elNames, Qdj, Jv, Jw, nHasChild, Q9, QH, VH, QP, VL, QW, YF, h1, h2, h3, h4, h5, h6, h7, h8, h9, h10, h11, h12, h13, h14, h15, h16, h17, h18, h19, h20, h21, h22, h23, h24, h25, h26, h27, h28, h29, h30, h31, h32, h33, h34, h35, h36, h37, h38, h39]) _
 refine (Qju m).en (have a0 : Out := .val (.tup [.nilif, (.str []), .ifx]); have a1 : Option SB := some (.blk 94 [(.str s), (.nat i), (.nat d), (.bool a)]); cond (decide (s.length <= i)) (K a0 a1) ((i < s.length) /\ cond (!(decide (bat s i = 58))) (K a0 a1) ((i + 1 <= 9223372036854775807) /\ cond (decide (s.length <= i + 1)) (K a0 (some (.blk 94 [(.str s), (.nat (i + 1)), (.nat d), (.bool a)]))) ((i + 1 < s.length) /\ cond (decide (bat s (i + 1) = 58)) ((i + 2 <= 9223372036854775807) /\ (s.length <= 1000000) /\ (i + 2 <= s.length) /\ Qy (QM s (i + 2)) (fun v1 => (i + 2 < v1.2 /\ v1.2 <= s.length /\ v1.1.length <= 4 * (v1.2 - (i + 2))) -> (v1.1.length <= 1000000000) /\ cond (((((((((((!(decide (low v1.1 = [97, 102, 116, 101, 114]))) && (!(decide (low v1.1 = [98, 97, 99, 107, 100, 114, 111, 112])))) && (!(decide (low v1.1 = [98, 101, 102, 111, 114, 101])))) && (!(decide (low v1.1 = [99, 117, 101])))) && (!(decide (low v1.1 = [102, 105, 114, 115, 116, 45, 108, 101, 116, 116, 101, 114])))) && (!(decide (low v1.1 = [102, 105, 114, 115, 116, 45, 108, 105, 110, 101])))) && (!(decide (low v1.1 = [103, 114, 97, 109, 109, 97, 114, 45, 101, 114, 114, 111, 114])))) && (!(decide (low v1.1 = [109, 97, 114, 107, 101, 114])))) && (!(decide (low v1.1 = [112, 108, 97, 99, 101, 104, 111, 108, 100, 101, 114])))) && (!(decide (low v1.1 = [115, 101, 108, 101, 99, 116, 105, 111, 110])))) && (!(decide (low v1.1 = [115, 112, 101, 108, 108, 105, 110, 103, 45, 101, 114, 114, 111, 114])))) (K a0 (some (.blk 94 [(.str s), (.nat v1.2), (.nat d), (.bool a)]))) ((Qju m).C K 17 (mkS 402 [(0, (.ptr 0 0)), (2, .nilif), (3, (.str [])), (4, .nilif), (6, (.str (low v1.1)))] [(0, .blk 94 [(.str s), (.nat v1.2), (.nat d), (.bool a)])] 1))) (∀ j2 : Nat, K a0 (some (.blk 94 [(.str s), (.nat j2), (.nat d), (.bool a)])))) ((s.length <= 1000000) /\ (i + 1 <= s.length) /\ Qy (QM s (i + 1)) (fun v3 => (i + 1 < v3.2 /\ v3.2 <= s.length /\ v3.1.length <= 4 * (v3.2 - (i + 1))) -> (v3.1.length <= 1000000000) /\ (Qju m).C K 17 (mkS 402 [(0, (.ptr 0 0)), (2, .nilif), (3, (.str [])), (4, .nilif), (6, (.str (low v3.1)))] [(0, .blk 94 [(.str s), (.nat v3.2), (.nat d), (.bool a)])] 1)) (∀ j4 : Nat, K a0 (some (.blk 94 [(.str s), (.nat j4), (.nat d), (.bool a)])))))))) ?_
 refine Qc ?_ ?_ <;> intro h1 <;> try simp [-za, -zb] at h1
 exfalso
 omega
 refine QB ?_
 refine Qc ?_ ?_ <;> intro h2 <;> try simp [-za, -zb] at h2
 exfalso
 omega
 refine QB ?_
 refine Qc ?_ ?_ <;> intro h3 <;> try simp [-za, -zb] at h3
 exact Qb hk (QpO (by omega)) _
 refine QB ?_
 refine Qc ?_ ?_ <;> intro h4 <;> try simp [-za, -zb] at h4
 refine QB (QB (QB ?_))
 refine QK (fun v1 h5 => ?_) (fun h5 => ?_)
 intro h6
 try simp [-za, -zb] at h6
 refine QB ?_
 refine Qc ?_ ?_ <;> intro h7 <;> try simp [-za, -zb] at h7
 . exact Qb hk (QpP (v := v1) (by rw [if_pos h4]; exact h5) ⟨h4, by
   intro q
   simp only [elNames, zz, List.not_mem_nil, or_false] at q
   rcases q with q | q | q | q | q | q | q | q | q | q | q <;> simp [q] at h7⟩) _
 exact L17 _ (low v1.1) v1.2 rfl ⟨by omega, by omega, QhE (by omega) (by rw [if_pos h4]; exact h5) (fun _ => Decidable.byContradiction fun q => by
  simp only [elNames, zz, List.not_mem_nil, or_false, not_or] at q
  obtain ⟨q1, q2, q3, q4, q5, q6, q7, q8, q9, qa, qb⟩ := q
  simp [q1, q2, q3, q4, q5, q6, q7, q8, q9, qa, qb] at h7), by simp [low]; omega⟩
 intro j2
 exact Qb hk (Qkg (by rw [if_pos h4]; exact h5)) _
 refine QB (QB ?_)
 refine QK (fun v3 h5 => ?_) (fun h5 => ?_)
 intro h6
 try simp [-za, -zb] at h6
 refine QB ?_
 exact L17 _ (low v3.1) v3.2 rfl ⟨by omega, by omega, QhE (by omega) (by rw [if_neg h4]; exact h5) (fun q => absurd q h4), by simp [low]; omega⟩
 intro j4
 exact Qb hk (Qkg (by rw [if_neg h4]; exact h5)) _
 exact hP.elim
end
section
open Go Go.RowKit
set_option maxRecDepth 20000
section
variable {G : Nat -> Option (List CSel × Nat)} {s pe n : Bs} {a : Bool} {p j : Nat} {l : List CSel} {x : CSel}
theorem s35 (h : bat s p = 35) : Vo G s p = (V1 s (p + 1)).map fun q => (some (.idn q.1), [], q.2) := by unfold Vo; rw [if_pos h]
theorem s46 (h : bat s p = 46) : Vo G s p = (QM s (p + 1)).map fun q => (some (.cls q.1), [], q.2) := by unfold Vo; rw [if_neg (by omega), if_pos h]
theorem s91 (h : bat s p = 91) : Vo G s p = (Ye s p).map fun q => (some (attrOf q).1, [], q.2) := by
 unfold Vo; rw [if_neg (by omega), if_neg (by omega), if_pos h, Qf3, Option.map_map]; rfl
theorem s58 (h : bat s p = 58) : Vo G s p = iPs G s p := by unfold Vo; rw [if_neg (by omega), if_neg (by omega), if_neg (by omega)]
theorem Qkr (h1 : p < s.length) (h2 : Q0 (bat s p) = true) (h : Vo G s p = none) : Vn G s a p l pe = none := by
 rw [Vn, if_pos ⟨h1, h2⟩, h]
theorem go_x (h1 : p < s.length) (h2 : Q0 (bat s p) = true) (h : Vo G s p = some (some x, n, j)) (hj : p < j) (he : pe = []) : Vn G s a p l pe = Vn G s a j (l ++ [x]) pe := by
 rw [Vn, if_pos ⟨h1, h2⟩, h]; dsimp only; rw [if_pos hj, if_pos he]
theorem Qkp (h1 : p < s.length) (h2 : Q0 (bat s p) = true) (h : Vo G s p = some (some x, n, j)) (hj : p < j) (he : ¬ pe = []) : Vn G s a p l pe = none := by
 rw [Vn, if_pos ⟨h1, h2⟩, h]; dsimp only; rw [if_pos hj, if_neg he]
theorem go_e (h1 : p < s.length) (h2 : Q0 (bat s p) = true) (h : Vo G s p = some (none, n, j)) (hj : p < j) (he : pe = [] /\ a = true) : Vn G s a p l pe = Vn G s a j l n := by
 rw [Vn, if_pos ⟨h1, h2⟩, h]; dsimp only; rw [if_pos hj, if_pos he]
theorem Qq9 (h1 : p < s.length) (h2 : Q0 (bat s p) = true) (h : Vo G s p = some (none, n, j)) (hj : p < j) (he : ¬ (pe = [] /\ a = true)) : Vn G s a p l pe = none := by
 rw [Vn, if_pos ⟨h1, h2⟩, h]; dsimp only; rw [if_pos hj, if_neg he]
theorem QnW (h : ¬ (p < s.length /\ Q0 (bat s p) = true)) : Vn G s a p l pe = some (Vp l pe, p) := by
 rw [Vn, if_neg h]
theorem QoX (h : s.length <= p) : YK G s a p = none := by unfold YK; rw [if_neg (by omega)]
theorem Qcp (h1 : p < s.length) (h2 : Q0 (bat s p) = true) : YK G s a p = Vn G s a p [] [] := by
 have h3 : ¬ bat s p = 42 := fun q => by rw [q] at h2; exact absurd h2 (by decide)
 unfold YK; rw [if_pos h1, if_neg h3, if_pos h2]
theorem QoW {v : Bs × Nat} (h1 : p < s.length) (h2 : ¬ bat s p = 42) (h3 : ¬ Q0 (bat s p) = true) (h : QM s p = some v) : YK G s a p = Vn G s a v.2 [.tag (low v.1)] [] := by
 unfold YK; rw [if_pos h1, if_neg h2, if_neg h3, h]
theorem Qru (h1 : p < s.length) (h2 : ¬ bat s p = 42) (h3 : ¬ Q0 (bat s p) = true) (h : QM s p = none) : YK G s a p = none := by
 unfold YK; rw [if_pos h1, if_neg h2, if_neg h3, h]
theorem Qmj (h1 : p < s.length) (h2 : bat s p = 42) (h : p + 3 < s.length /\ bat s (p + 1) = 124 /\ bat s (p + 2) = 42) : YK G s a p = Vn G s a (p + 3) [] [] := by
 unfold YK; rw [if_pos h1, if_pos h2, if_pos h]
theorem QkZ (h1 : p < s.length) (h2 : bat s p = 42) (h : ¬ (p + 3 < s.length /\ bat s (p + 1) = 124 /\ bat s (p + 2) = 42)) : YK G s a p = Vn G s a (p + 1) [] [] := by
 unfold YK; rw [if_pos h1, if_pos h2, if_neg h]
theorem Qmn (h1 : l.length = 1) (h2 : pe = []) : Vp l pe = l.getD 0 default := by
 subst h2; match l, h1 with | [x], _ => rfl
theorem Qml (h : ¬ (l.length = 1 /\ pe = [])) : Vp l pe = .compound l pe := by
 unfold Vp; split
 exact absurd ⟨rfl, rfl⟩ h
 rfl
theorem Qjz {c e : UInt8} (h : p + 2 <= s.length) : (s.take (p + 2)).drop p = [c, e] ↔ bat s p = c.toNat /\ bat s (p + 1) = e.toNat := by
 have h1 : (s.take (p + 2)).drop p = [s.getD p 0, s.getD (p + 1) 0] := by
  apply List.ext_getElem
  simp; omega
  intro i h2 h3
  have : i = 0 \/ i = 1 := by simp at h3; omega
  rcases this with q | q <;> subst q <;> simp [za, zi (show p < s.length by omega), zi (show p + 1 < s.length by omega)]
 rw [h1]
 simp [bat, <- UInt8.toNat_inj, -za]
end
def c100 (m : Nat) (svs : List SV) (b : Option SB) (K : Out -> Option SB -> Prop) : Prop := match svs, b with
 | [.ptr 0 0], some (.blk 94 [.str s, .nat i, .nat d, .bool a]) => s.length <= 1000000 /\ i <= s.length /\ d <= 1001 /\ 1002 <= d + m /\ Qy (YK (QD s a (1001 - d)) s a i) (fun v => i < v.2 /\ v.2 <= s.length -> K (.val (.tup [.cs v.1, .nilif])) (some (.blk 94 [.str s, .nat v.2, .nat d, .bool a]))) (∀ j, K (.val (.tup [.nilif, .ifx])) (some (.blk 94 [.str s, .nat j, .nat d, .bool a])))
 | _, _ => False
noncomputable def JL (m : Nat) : Wk := ⟨[(71, .pure c71), (115, .plain c115), (116, .plain c116), (117, .plain c117), (118, .plain c118), (119, .plain (c119 m))], Qp Tryz.f100, true, false, [.tmp 2, .tmp 3], [56, 71], [(18, 145), (42, 145)], [42]⟩
theorem QtM : Has 100 := hsf Tryz.f100
theorem lez3 {c0 p0 p1 p2 p3 q : Prop} (k : q) (h : c0 -> p0 /\ p1 /\ p2 /\ p3 /\ True := by intro g0; (try simp at g0); exact ⟨(by first | omega | (simp; done) | (simp; omega) | (simp; assumption)), (by first | omega | (simp; done) | (simp; omega) | (simp; assumption)), (by first | omega | (simp; done) | (simp; omega) | (simp; assumption)), (by first | omega | (simp; done) | (simp; omega) | (simp; assumption)), trivial⟩) : (c0 -> p0 /\ p1 /\ p2 /\ p3 /\ True) /\ q := ⟨h, k⟩
theorem lez2 {c0 p0 p1 q : Prop} (k : q) (h : c0 -> p0 /\ p1 /\ True := by intro g0; (try simp at g0); exact ⟨(by first | omega | (simp; done) | (simp; omega) | (simp; assumption)), (by first | omega | (simp; done) | (simp; omega) | (simp; assumption)), trivial⟩) : (c0 -> p0 /\ p1 /\ True) /\ q := ⟨h, k⟩
theorem Qd9 {c0 p0 q : Prop} (k : q) (h : c0 -> p0 /\ True := by intro g0; (try simp at g0); exact ⟨(by first | omega | (simp; done) | (simp; omega) | (simp; assumption)), trivial⟩) : (c0 -> p0 /\ True) /\ q := ⟨h, k⟩
theorem QX {p q : Prop} (k : q) (h : p := by first | omega | (simp; done) | (simp; omega) | (simp; assumption)) : p /\ q := ⟨h, k⟩
theorem Qsl (m : Nat) (hG : Sat 70 (c70 m)) : Sat 100 (c100 m) := by
 have hD : Qe (JL m).D := (Qe.cons Zo Zm (Qe.cons QtH Qsg (Qe.cons QtG Qsf (Qe.cons QtF Qse (Qe.cons QtE Qsd (Qe.cons QtD (Qsc m hG) Qe.nil))))))
 refine (JL m).sa hD Tryz.f100 fun svs b K hP => ?_
 unfold c100 at hP
 split at hP
 rename_i s i d a
 obtain ⟨h01, h02, h03, h04, hk⟩ := hP
 have L42 : ∀ (mm : Nat) (p : Nat) (l : List CSel) (pe : Bs), 0 = mm -> (i < p /\ p <= s.length /\ YK (QD s a (1001 - d)) s a i = some (Vp l pe, p)) -> (JL m).C K 42 (mkS 180 [(0, (.ptr 0 0)), (4, (.sl (.csels l))), (7, (.str pe))] [(0, .blk 94 [(.str s), (.nat p), (.nat d), (.bool a)])] 1) := by
  intro mm
  induction mm using zl with
  | _ mm ih =>
   intro p l pe hm hI
   obtain ⟨k1, k2, k3⟩ := hI
   refine (JL m).aC hD (have a0 : Option SB := some (.blk 94 [(.str s), (.nat p), (.nat d), (.bool a)]); cond ((decide (l.length = 1)) && (decide (pe = []))) ((0 < l.length) /\ K (.val (.tup [(.cs (l.getD 0 default)), .nilif])) a0) (K (.val (.tup [(.cs (.compound l pe)), .nilif])) a0)) ?_
   refine Qc ?_ ?_ <;> intro h1 <;> try simp [-za, -zb] at h1
   refine QX ?_
   exact Qj hk (k3.trans (by rw [Qmn h1.1 h1.2])) ⟨k1, k2⟩
   exact Qj hk (k3.trans (by rw [Qml (by simpa using h1)])) ⟨k1, k2⟩
 have L18 : ∀ (mm : Nat) (p : Nat) (l : List CSel) (pe : Bs), s.length - p = mm -> (i <= p /\ p <= s.length /\ (i < p \/ Q0 (bat s p) = true /\ p < s.length) /\ YK (QD s a (1001 - d)) s a i = Vn (QD s a (1001 - d)) s a p l pe /\ l.length <= p) -> (JL m).L K 18 (mkS 180 [(0, (.ptr 0 0)), (4, (.own 1)), (7, (.str pe))] [(1, .row (.csels l) true), (0, .blk 94 [(.str s), (.nat p), (.nat d), (.bool a)])] 2) := by
  intro mm
  induction mm using zl with
  | _ mm ih =>
   intro p l pe hm hI
   obtain ⟨k1, k2, k3, k4, k5⟩ := hI
   refine (JL m).aL hD (have a0 : Out := .val (.tup [.nilif, .ifx]); have a1 := mkS 180 [(0, (.ptr 0 0)), (4, (.own 1)), (7, (.str pe))] [(1, .row (.csels l) true), (0, .blk 94 [(.str s), (.nat p), (.nat d), (.bool a)])] 2; have a2 := l.length + 1 <= 1099511627776; have a3 := !(decide (pe = [])); have a4 := s.length <= 1000000; cond (decide (p < s.length)) ((p < s.length) /\ cond (decide (bat s p = 35)) (a4 /\ (p <= s.length) /\ (p < s.length) /\ (bat s p = 35) /\ Qy (V1 s (p + 1)) (fun v3 => (p < v3.2 /\ v3.2 <= s.length) -> cond a3 (K a0 (some (.blk 94 [(.str s), (.nat v3.2), (.nat d), (.bool a)]))) (a2 /\ (JL m).L K 18 (mkS 180 [(0, (.ptr 0 0)), (4, (.own 3)), (7, (.str pe))] [(3, .row (.csels (l ++ [.idn v3.1])) true), (0, .blk 94 [(.str s), (.nat v3.2), (.nat d), (.bool a)])] 4))) (∀ j4 : Nat, K a0 (some (.blk 94 [(.str s), (.nat j4), (.nat d), (.bool a)])))) (cond (decide (bat s p = 46)) (a4 /\ (p <= s.length) /\ (p < s.length) /\ (bat s p = 46) /\ Qy (QM s (p + 1)) (fun v5 => (p < v5.2 /\ v5.2 <= s.length) -> cond a3 (K a0 (some (.blk 94 [(.str s), (.nat v5.2), (.nat d), (.bool a)]))) (a2 /\ (JL m).L K 18 (mkS 180 [(0, (.ptr 0 0)), (4, (.own 3)), (7, (.str pe))] [(3, .row (.csels (l ++ [.cls v5.1])) true), (0, .blk 94 [(.str s), (.nat v5.2), (.nat d), (.bool a)])] 4))) (∀ j6 : Nat, K a0 (some (.blk 94 [(.str s), (.nat j6), (.nat d), (.bool a)])))) (cond (decide (bat s p = 91)) (a4 /\ (p <= s.length) /\ (p < s.length) /\ (bat s p = 91) /\ Qy (Ye s p) (fun v7 => (p < v7.2 /\ v7.2 <= s.length) -> cond a3 (K a0 (some (.blk 94 [(.str s), (.nat v7.2), (.nat d), (.bool a)]))) (a2 /\ (JL m).L K 18 (mkS 180 [(0, (.ptr 0 0)), (4, (.own 3)), (7, (.str pe))] [(3, .row (.csels (l ++ [.attr v7.1.1 v7.1.2.1 v7.1.2.2.1 v7.1.2.2.2])) true), (0, .blk 94 [(.str s), (.nat v7.2), (.nat d), (.bool a)])] 4))) (∀ j8 : Nat, K a0 (some (.blk 94 [(.str s), (.nat j8), (.nat d), (.bool a)])))) (cond (decide (bat s p = 58)) (a4 /\ (p <= s.length) /\ (d <= 1001) /\ (1002 <= d + m) /\ (p < s.length) /\ (bat s p = 58) /\ Qy (iPs (QD s a (1001 - d)) s p) (fun v9 => (p < v9.2.2 /\ v9.2.2 <= s.length) -> Qy v9.1 (fun x10 => cond a3 (K a0 (some (.blk 94 [(.str s), (.nat v9.2.2), (.nat d), (.bool a)]))) (a2 /\ (JL m).L K 18 (mkS 180 [(0, (.ptr 0 0)), (4, (.own 3)), (7, (.str pe))] [(3, .row (.csels (l ++ [x10])) true), (0, .blk 94 [(.str s), (.nat v9.2.2), (.nat d), (.bool a)])] 4))) (cond a3 (K a0 (some (.blk 94 [(.str s), (.nat v9.2.2), (.nat d), (.bool a)]))) (cond (!a) (K a0 (some (.blk 94 [(.str s), (.nat v9.2.2), (.nat d), (.bool a)]))) ((JL m).L K 18 (mkS 180 [(0, (.ptr 0 0)), (4, (.own 1)), (7, (.str v9.2.1))] [(1, .row (.csels l) true), (0, .blk 94 [(.str s), (.nat v9.2.2), (.nat d), (.bool a)])] 2))))) (∀ j11 : Nat, K a0 (some (.blk 94 [(.str s), (.nat j11), (.nat d), (.bool a)])))) ((JL m).C K 42 a1))))) ((JL m).C K 42 a1)) ?_
   refine Qc ?_ ?_ <;> intro h1 <;> try simp [-za, -zb] at h1
   refine QX ?_
   refine Qc ?_ ?_ <;> intro h2 <;> try simp [-za, -zb] at h2
   refine QX (QX (QX (QX ?_)))
   refine QK (fun v3 h3 => ?_) (fun h3 => ?_)
   intro h4
   try simp [-za, -zb] at h4
   refine Qc ?_ ?_ <;> intro h5 <;> try simp [-za, -zb] at h5
   exact Qb hk (k4.trans (Qkp h1 (by simp [Q0, h2]) (by rw [s35 h2, h3]; rfl) h4.1 h5)) _
   refine QX ?_
   exact Wk.L.rn [0, 3] (ih _ (by omega) _ _ _ rfl ⟨by omega, h4.2, .inl (by omega), k4.trans (go_x h1 (by simp [Q0, h2]) (by rw [s35 h2, h3]; rfl) h4.1 h5), by simp; omega⟩)
   intro j4
   exact Qb hk (k4.trans (Qkr h1 (by simp [Q0, h2]) (by rw [s35 h2, h3]; rfl))) _
   refine Qc (fun h3 => ?_) (fun h3 => ?_)
   try simp [-za, -zb] at h3
   refine QX (QX (QX (QX ?_)))
   refine QK (fun v5 h4 => ?_) (fun h4 => ?_)
   intro h5
   try simp [-za, -zb] at h5
   refine Qc ?_ ?_ <;> intro h6 <;> try simp [-za, -zb] at h6
   exact Qb hk (k4.trans (Qkp h1 (by simp [Q0, h3]) (by rw [s46 h3, h4]; rfl) h5.1 h6)) _
   refine QX ?_
   exact Wk.L.rn [0, 3] (ih _ (by omega) _ _ _ rfl ⟨by omega, h5.2, .inl (by omega), k4.trans (go_x h1 (by simp [Q0, h3]) (by rw [s46 h3, h4]; rfl) h5.1 h6), by simp; omega⟩)
   intro j6
   exact Qb hk (k4.trans (Qkr h1 (by simp [Q0, h3]) (by rw [s46 h3, h4]; rfl))) _
   try simp [-za, -zb] at h3
   refine Qc ?_ ?_ <;> intro h4 <;> try simp [-za, -zb] at h4
   refine QX (QX (QX (QX ?_)))
   refine QK (fun v7 h5 => ?_) (fun h5 => ?_)
   intro h6
   try simp [-za, -zb] at h6
   refine Qc ?_ ?_ <;> intro h7 <;> try simp [-za, -zb] at h7
   exact Qb hk (k4.trans (Qkp h1 (by simp [Q0, h4]) (by rw [s91 h4, h5]; rfl) h6.1 h7)) _
   refine QX ?_
   exact Wk.L.rn [0, 3] (ih _ (by omega) _ _ _ rfl ⟨by omega, h6.2, .inl (by omega), k4.trans (go_x h1 (by simp [Q0, h4]) (by rw [s91 h4, h5]; rfl) h6.1 h7), by simp; omega⟩)
   intro j8
   exact Qb hk (k4.trans (Qkr h1 (by simp [Q0, h4]) (by rw [s91 h4, h5]; rfl))) _
   refine Qc (fun h5 => ?_) (fun h5 => ?_)
   try simp [-za, -zb] at h5
   refine QX (QX (QX (QX (QX (QX ?_)))))
   refine QK (fun v9 h6 => ?_) (fun h6 => ?_)
   intro h7
   try simp [-za, -zb] at h7
   refine QK (fun x10 h8 => ?_) (fun h8 => ?_)
   refine Qc ?_ ?_ <;> intro h9 <;> try simp [-za, -zb] at h9
   exact Qb hk (k4.trans (Qkp h1 (by simp [Q0, h5]) (by rw [s58 h5, h6, <- h8]) h7.1 h9)) _
   refine QX ?_
   exact Wk.L.rn [0, 3] (ih _ (by omega) _ _ _ rfl ⟨by omega, h7.2, .inl (by omega), k4.trans (go_x h1 (by simp [Q0, h5]) (by rw [s58 h5, h6, <- h8]) h7.1 h9), by simp; omega⟩)
   refine Qc ?_ ?_ <;> intro h9 <;> try simp [-za, -zb] at h9
   exact Qb hk (k4.trans (Qq9 h1 (by simp [Q0, h5]) (by rw [s58 h5, h6, <- h8]) h7.1 (fun q => h9 q.1))) _
   refine Qc (fun h10 => ?_) (fun h10 => ?_)
   try simp [-za, -zb] at h10
   exact Qb hk (k4.trans (Qq9 h1 (by simp [Q0, h5]) (by rw [s58 h5, h6, <- h8]) h7.1 (fun q => by simp [h10] at q))) _
   try simp [-za, -zb] at h10
   exact ih _ (by omega) _ _ _ rfl ⟨by omega, h7.2, .inl (by omega), k4.trans (go_e h1 (by simp [Q0, h5]) (by rw [s58 h5, h6, <- h8]) h7.1 ⟨h9, h10⟩), by omega⟩
   intro j11
   exact Qb hk (k4.trans (Qkr h1 (by simp [Q0, h5]) (by rw [s58 h5, h6]))) _
   try simp [-za, -zb] at h5
   have q : ¬ Q0 (bat s p) = true := by simp [Q0, h2, h3, h4, h5]
   exact Wk.C.le (Yf.pub 1 (b := .row (.csels l) true) (by kernel_rfl)) (Wk.C.rn [0] (L42 _ _ _ _ rfl ⟨k3.elim id fun w => absurd w.1 q, k2, k4.trans (QnW fun w => q w.2)⟩))
   exact Wk.C.le (Yf.pub 1 (b := .row (.csels l) true) (by kernel_rfl)) (Wk.C.rn [0] (L42 _ _ _ _ rfl ⟨by omega, k2, k4.trans (QnW fun w => by omega)⟩))
 refine (JL m).en (have a1 := mkS 180 [(0, (.ptr 0 0)), (4, .nilsl), (7, (.str []))] [(0, .blk 94 [(.str s), (.nat i), (.nat d), (.bool a)])] 1; have a2 := decide (i + 3 < s.length); have a3 := i + 3 <= 9223372036854775807; have a4 := (a2 == true) = true; have a0 := a2 = true -> a4 /\ True; cond (decide (s.length <= i)) (K (.val (.tup [.nilif, .ifx])) (some (.blk 94 [(.str s), (.nat i), (.nat d), (.bool a)]))) ((i < s.length) /\ cond (decide (bat s i = 42)) ((i + 1 <= 9223372036854775807) /\ a3 /\ a0 /\ a0 /\ a0 /\ a0 /\ a0 /\ a0 /\ a0 /\ a0 /\ a0 /\ (a2 = true -> a4 /\ a3 /\ True) /\ (a2 = true -> a4 /\ a4 /\ a4 /\ (i + 1 <= i + 3 /\ i + 3 <= s.length) /\ True) /\ a0 /\ (a2 = true -> (a2 == true) = true) /\ cond (a2 && (decide ((s.take (i + 3)).drop (i + 1) = [124, 42]))) (a3 /\ (JL m).L K 18 (mkS 180 [(0, (.ptr 0 0)), (4, .nilsl), (7, (.str []))] [(0, .blk 94 [(.str s), (.nat (i + 3)), (.nat d), (.bool a)])] 1)) ((JL m).L K 18 (mkS 180 [(0, (.ptr 0 0)), (4, .nilsl), (7, (.str []))] [(0, .blk 94 [(.str s), (.nat (i + 1)), (.nat d), (.bool a)])] 1))) (cond (decide (bat s i = 35)) ((JL m).L K 18 a1) (cond (decide (bat s i = 46)) ((JL m).L K 18 a1) (cond (decide (bat s i = 91)) ((JL m).L K 18 a1) (cond (decide (bat s i = 58)) ((JL m).L K 18 a1) ((s.length <= 1000000) /\ (i <= s.length) /\ Qy (QM s i) (fun v1 => (i < v1.2 /\ v1.2 <= s.length) -> (0 + 1 <= 1099511627776) /\ (JL m).L K 18 (mkS 180 [(0, (.ptr 0 0)), (4, (.own 3)), (7, (.str []))] [(3, .row (.csels ([] ++ [.tag (low v1.1)])) true), (1, .blk 99 [(.str (low v1.1))]), (0, .blk 94 [(.str s), (.nat v1.2), (.nat d), (.bool a)])] 4)) (∀ j2 : Nat, K (.val (.tup [.nilif, .ifx])) (some (.blk 94 [(.str s), (.nat j2), (.nat d), (.bool a)])))))))))) ?_
 refine Qc ?_ ?_ <;> intro h1 <;> try simp [-za, -zb] at h1
 exact Qb hk (QoX (by omega)) _
 refine QX ?_
 refine Qc ?_ ?_ <;> intro h2 <;> try simp [-za, -zb] at h2
 refine QX (QX (Qd9 (Qd9 (Qd9 (Qd9 (Qd9 (Qd9 (Qd9 (Qd9 (Qd9 (lez2 (lez3 (Qd9 (QX ?_))))))))))))))
 refine Qc ?_ ?_ <;> intro h3 <;> try simp [-za, -zb] at h3
 refine QX ?_
 exact Wk.L.le (Yf.adopt 4 (T := 49) (x := .csels []) (by kernel_rfl) (by kernel_rfl)) (Wk.L.rn [0, 1] (L18 _ _ _ _ rfl ⟨by omega, by omega, .inl (by omega), Qmj h1 h2 ⟨h3.1, (Qjz (p := i + 1) (by omega)).1 h3.2⟩, by simp⟩))
 exact Wk.L.le (Yf.adopt 4 (T := 49) (x := .csels []) (by kernel_rfl) (by kernel_rfl)) (Wk.L.rn [0, 1] (L18 _ _ _ _ rfl ⟨by omega, by omega, .inl (by omega), QkZ h1 h2 (fun q => h3 q.1 ((Qjz (p := i + 1) (by omega)).2 q.2)), by simp⟩))
 refine Qc (fun h3 => ?_) (fun h3 => ?_)
 try simp [-za, -zb] at h3
 exact Wk.L.le (Yf.adopt 4 (T := 49) (x := .csels []) (by kernel_rfl) (by kernel_rfl)) (Wk.L.rn [0, 1] (L18 _ _ _ _ rfl ⟨by omega, by omega, .inr ⟨(by simp [Q0, h3]), h1⟩, Qcp h1 (by simp [Q0, h3]), by simp⟩))
 try simp [-za, -zb] at h3
 refine Qc ?_ ?_ <;> intro h4 <;> try simp [-za, -zb] at h4
 exact Wk.L.le (Yf.adopt 4 (T := 49) (x := .csels []) (by kernel_rfl) (by kernel_rfl)) (Wk.L.rn [0, 1] (L18 _ _ _ _ rfl ⟨by omega, by omega, .inr ⟨(by simp [Q0, h4]), h1⟩, Qcp h1 (by simp [Q0, h4]), by simp⟩))
 refine Qc (fun h5 => ?_) (fun h5 => ?_)
 try simp [-za, -zb] at h5
 exact Wk.L.le (Yf.adopt 4 (T := 49) (x := .csels []) (by kernel_rfl) (by kernel_rfl)) (Wk.L.rn [0, 1] (L18 _ _ _ _ rfl ⟨by omega, by omega, .inr ⟨(by simp [Q0, h5]), h1⟩, Qcp h1 (by simp [Q0, h5]), by simp⟩))
 try simp [-za, -zb] at h5
 refine Qc ?_ ?_ <;> intro h6 <;> try simp [-za, -zb] at h6
 exact Wk.L.le (Yf.adopt 4 (T := 49) (x := .csels []) (by kernel_rfl) (by kernel_rfl)) (Wk.L.rn [0, 1] (L18 _ _ _ _ rfl ⟨by omega, by omega, .inr ⟨(by simp [Q0, h6]), h1⟩, Qcp h1 (by simp [Q0, h6]), by simp⟩))
 refine QX (QX ?_)
 refine QK (fun v1 h7 => ?_) (fun h7 => ?_)
 intro h8
 try simp [-za, -zb] at h8
 refine QX ?_
 exact Wk.L.rn [0, 3] (L18 _ _ _ _ rfl ⟨by omega, h8.2, .inl h8.1, QoW h1 h2 (by simp [Q0, h3, h4, h5, h6]) h7, by simp; omega⟩)
 intro j2
 exact Qb hk (Qru h1 h2 (by simp [Q0, h3, h4, h5, h6]) h7) _
 exact hP.elim
section
variable {G : Nat -> Option (List CSel × Nat)} {s : Bs} {a : Bool} {p : Nat} {x : CSel} {v : CSel × Nat}
theorem selGo_end (h : ¬ iWs s p < s.length) : VE G s a x p = some (x, iWs s p) := by rw [VE, if_neg h]
theorem Jf (h1 : iWs s p < s.length) (h2 : ¬ Vh (bat s (iWs s p)) = true) (h3 : bat s (iWs s p) = 44 \/ bat s (iWs s p) = 41 \/ iWs s p = p) : VE G s a x p = some (x, iWs s p) := by
 rw [VE, if_pos h1, if_neg h2, if_pos h3]
theorem Qae (h1 : iWs s p < s.length) (h2 : Vh (bat s (iWs s p)) = true) (h : YK G s a (iWs s (iWs s p + 1)) = some v) (hj : p < v.2) : VE G s a x p = VE G s a (.combined x (s.getD (iWs s p) 0) v.1) v.2 := by
 rw [VE, if_pos h1, if_pos h2, h]; dsimp only; rw [if_pos hj]
theorem JO (h1 : iWs s p < s.length) (h2 : Vh (bat s (iWs s p)) = true) (h : YK G s a (iWs s (iWs s p + 1)) = none) : VE G s a x p = none := by
 rw [VE, if_pos h1, if_pos h2, h]
theorem QoY (h1 : iWs s p < s.length) (h2 : ¬ Vh (bat s (iWs s p)) = true) (h3 : ¬ (bat s (iWs s p) = 44 \/ bat s (iWs s p) = 41 \/ iWs s p = p)) (h : YK G s a (iWs s p) = some v) (hj : p < v.2) : VE G s a x p = VE G s a (.combined x 32 v.1) v.2 := by
 rw [VE, if_pos h1, if_neg h2, if_neg h3, h]; dsimp only; rw [if_pos hj]
theorem Qmq (h1 : iWs s p < s.length) (h2 : ¬ Vh (bat s (iWs s p)) = true) (h3 : ¬ (bat s (iWs s p) = 44 \/ bat s (iWs s p) = 41 \/ iWs s p = p)) (h : YK G s a (iWs s p) = none) : VE G s a x p = none := by
 rw [VE, if_pos h1, if_neg h2, if_neg h3, h]
end
def c72 (m : Nat) (svs : List SV) (b : Option SB) (K : Out -> Option SB -> Prop) : Prop := match svs, b with
 | [.ptr 0 0], some (.blk 94 [.str s, .nat i, .nat d, .bool a]) => s.length <= 1000000 /\ i <= s.length /\ d <= 1001 /\ 1002 <= d + m /\ Qy (Zk (QD s a (1001 - d)) s a i) (fun v => i < v.2 /\ v.2 <= s.length -> K (.val (.tup [.cs v.1, .nilif])) (some (.blk 94 [.str s, .nat v.2, .nat d, .bool a]))) (∀ j, K (.val (.tup [.nilif, .ifx])) (some (.blk 94 [.str s, .nat j, .nat d, .bool a])))
 | _, _ => False
noncomputable def W72 (m : Nat) : Wk := ⟨[(99, .fn c99), (100, .plain (c100 m))], Qp Tryz.f72, true, false, [.tmp 2, .tmp 3], [56, 71], [(5, 17)], []⟩
theorem QhN : Has 72 := hsf Tryz.f72
theorem QgT (m : Nat) (hG : Sat 70 (c70 m)) : Sat 72 (c72 m) := by
 have hD : Qe (W72 m).D := (Qe.cons QeX Qeq (Qe.cons QtM (Qsl m hG) Qe.nil))
 refine (W72 m).sa hD Tryz.f72 fun svs b K hP => ?_
 unfold c72 at hP
 split at hP
 rename_i s i d a
 obtain ⟨h01, h02, h03, h04, hk⟩ := hP
 have u0 := VA s i
 have u1 := Vm s i h02
 have L5 : ∀ (mm : Nat) (p : Nat) (x : CSel), s.length - p = mm -> (i < p /\ p <= s.length /\ Zk (QD s a (1001 - d)) s a i = VE (QD s a (1001 - d)) s a x p) -> (W72 m).L K 5 (mkS 82 [(0, (.ptr 0 0)), (4, (.cs x))] [(0, .blk 94 [(.str s), (.nat p), (.nat d), (.bool a)])] 1) := by
  intro mm
  induction mm using zl with
  | _ mm ih =>
   intro p x hm hI
   obtain ⟨k1, k2, k3⟩ := hI
   have w0 := VA s p
   have w1 := Vm s p k2
   have w2 := VA s (iWs s p + 1)
   have w3 := Vm s (iWs s p + 1)
   refine (W72 m).aL hD (have a0 : Option SB := some (.blk 94 [(.str s), (.nat (iWs s p)), (.nat d), (.bool a)]); have a1 : Option SB := some (.blk 94 [(.str s), (.nat (iWs s (iWs s p + 1))), (.nat d), (.bool a)]); have a2 : Out := .val (.tup [(.cs x), .nilif]); have a3 := YK (QD s a (1001 - d)) s a (iWs s (iWs s p + 1)); have a4 := s.length <= 1000000; have a5 := iWs s p + 1 <= 9223372036854775807; have a6 := iWs s (iWs s p + 1) <= s.length; have a7 : Out := .val (.tup [.nilif, .ifx]); have a8 := decide (bat s (iWs s p) = 0); have a9 := iWs s p < s.length; have a10 := iWs s p + 1 <= s.length; have a11 := s.getD (iWs s p) 0; a4 /\ (p <= s.length) /\ cond (decide (p < iWs s p)) (cond (decide (s.length <= iWs s p)) (K a2 a0) (a9 /\ cond (decide (bat s (iWs s p) = 43)) (a9 /\ a5 /\ a4 /\ a10 /\ cond a8 (K a2 a1) (a4 /\ a6 /\ (d <= 1001) /\ (1002 <= d + m) /\ Qy a3 (fun v3 => (iWs s (iWs s p + 1) < v3.2 /\ v3.2 <= s.length) -> (W72 m).L K 5 (mkS 82 [(0, (.ptr 0 0)), (4, (.cs (.combined x a11 v3.1)))] [(0, .blk 94 [(.str s), (.nat v3.2), (.nat d), (.bool a)])] 1)) (∀ j4 : Nat, K a7 (some (.blk 94 [(.str s), (.nat j4), (.nat d), (.bool a)]))))) (cond (decide (bat s (iWs s p) = 62)) (a9 /\ a5 /\ a4 /\ a10 /\ cond a8 (K a2 a1) (a4 /\ a6 /\ (d <= 1001) /\ (1002 <= d + m) /\ Qy a3 (fun v5 => (iWs s (iWs s p + 1) < v5.2 /\ v5.2 <= s.length) -> (W72 m).L K 5 (mkS 82 [(0, (.ptr 0 0)), (4, (.cs (.combined x a11 v5.1)))] [(0, .blk 94 [(.str s), (.nat v5.2), (.nat d), (.bool a)])] 1)) (∀ j6 : Nat, K a7 (some (.blk 94 [(.str s), (.nat j6), (.nat d), (.bool a)]))))) (cond (decide (bat s (iWs s p) = 126)) (a9 /\ a5 /\ a4 /\ a10 /\ cond a8 (K a2 a1) (a4 /\ a6 /\ (d <= 1001) /\ (1002 <= d + m) /\ Qy a3 (fun v7 => (iWs s (iWs s p + 1) < v7.2 /\ v7.2 <= s.length) -> (W72 m).L K 5 (mkS 82 [(0, (.ptr 0 0)), (4, (.cs (.combined x a11 v7.1)))] [(0, .blk 94 [(.str s), (.nat v7.2), (.nat d), (.bool a)])] 1)) (∀ j8 : Nat, K a7 (some (.blk 94 [(.str s), (.nat j8), (.nat d), (.bool a)]))))) (cond (decide (bat s (iWs s p) = 44)) (K a2 a0) (cond (decide (bat s (iWs s p) = 41)) (K a2 a0) (a4 /\ (iWs s p <= s.length) /\ (d <= 1001) /\ (1002 <= d + m) /\ Qy (YK (QD s a (1001 - d)) s a (iWs s p)) (fun v9 => (iWs s p < v9.2 /\ v9.2 <= s.length) -> (W72 m).L K 5 (mkS 82 [(0, (.ptr 0 0)), (4, (.cs (.combined x 32 v9.1)))] [(0, .blk 94 [(.str s), (.nat v9.2), (.nat d), (.bool a)])] 1)) (∀ j10 : Nat, K a7 (some (.blk 94 [(.str s), (.nat j10), (.nat d), (.bool a)])))))))))) (cond (decide (s.length <= iWs s p)) (K a2 a0) (a9 /\ cond (decide (bat s (iWs s p) = 43)) (a9 /\ a5 /\ a4 /\ a10 /\ cond a8 (K a2 a1) (a4 /\ a6 /\ (d <= 1001) /\ (1002 <= d + m) /\ Qy a3 (fun v11 => (iWs s (iWs s p + 1) < v11.2 /\ v11.2 <= s.length) -> (W72 m).L K 5 (mkS 82 [(0, (.ptr 0 0)), (4, (.cs (.combined x a11 v11.1)))] [(0, .blk 94 [(.str s), (.nat v11.2), (.nat d), (.bool a)])] 1)) (∀ j12 : Nat, K a7 (some (.blk 94 [(.str s), (.nat j12), (.nat d), (.bool a)]))))) (cond (decide (bat s (iWs s p) = 62)) (a9 /\ a5 /\ a4 /\ a10 /\ cond a8 (K a2 a1) (a4 /\ a6 /\ (d <= 1001) /\ (1002 <= d + m) /\ Qy a3 (fun v13 => (iWs s (iWs s p + 1) < v13.2 /\ v13.2 <= s.length) -> (W72 m).L K 5 (mkS 82 [(0, (.ptr 0 0)), (4, (.cs (.combined x a11 v13.1)))] [(0, .blk 94 [(.str s), (.nat v13.2), (.nat d), (.bool a)])] 1)) (∀ j14 : Nat, K a7 (some (.blk 94 [(.str s), (.nat j14), (.nat d), (.bool a)]))))) (cond (decide (bat s (iWs s p) = 126)) (a9 /\ a5 /\ a4 /\ a10 /\ cond a8 (K a2 a1) (a4 /\ a6 /\ (d <= 1001) /\ (1002 <= d + m) /\ Qy a3 (fun v15 => (iWs s (iWs s p + 1) < v15.2 /\ v15.2 <= s.length) -> (W72 m).L K 5 (mkS 82 [(0, (.ptr 0 0)), (4, (.cs (.combined x a11 v15.1)))] [(0, .blk 94 [(.str s), (.nat v15.2), (.nat d), (.bool a)])] 1)) (∀ j16 : Nat, K a7 (some (.blk 94 [(.str s), (.nat j16), (.nat d), (.bool a)]))))) (cond (decide (bat s (iWs s p) = 44)) (K a2 a0) (cond (decide (bat s (iWs s p) = 41)) (K a2 a0) (K a2 a0)))))))) ?_
   refine QX (QX ?_)
   refine Qc ?_ ?_ <;> intro h1 <;> try simp [-za, -zb] at h1
   refine Qc (fun h2 => ?_) (fun h2 => ?_)
   try simp [-za, -zb] at h2
   exact Qj hk (k3.trans (selGo_end (by omega))) ⟨by omega, by omega⟩
   try simp [-za, -zb] at h2
   refine QX ?_
   refine Qc ?_ ?_ <;> intro h3 <;> try simp [-za, -zb] at h3
   refine QX (QX (QX (QX ?_)))
   refine Qc ?_ ?_ <;> intro h4 <;> try simp [-za, -zb] at h4
   exfalso
   omega
   refine QX (QX (QX (QX ?_)))
   refine QK (fun v3 h5 => ?_) (fun h5 => ?_)
   intro h6
   try simp [-za, -zb] at h6
   exact ih _ (by omega) _ _ rfl ⟨by omega, by omega, k3.trans (Qae (by omega) (by simp [Vh, h3]) h5 (by omega))⟩
   intro j4
   exact Qb hk (k3.trans (JO (by omega) (by simp [Vh, h3]) h5)) _
   refine Qc (fun h4 => ?_) (fun h4 => ?_)
   try simp [-za, -zb] at h4
   refine QX (QX (QX (QX ?_)))
   refine Qc ?_ ?_ <;> intro h5 <;> try simp [-za, -zb] at h5
   exfalso
   omega
   refine QX (QX (QX (QX ?_)))
   refine QK (fun v5 h6 => ?_) (fun h6 => ?_)
   intro h7
   try simp [-za, -zb] at h7
   exact ih _ (by omega) _ _ rfl ⟨by omega, by omega, k3.trans (Qae (by omega) (by simp [Vh, h4]) h6 (by omega))⟩
   intro j6
   exact Qb hk (k3.trans (JO (by omega) (by simp [Vh, h4]) h6)) _
   try simp [-za, -zb] at h4
   refine Qc ?_ ?_ <;> intro h5 <;> try simp [-za, -zb] at h5
   refine QX (QX (QX (QX ?_)))
   refine Qc ?_ ?_ <;> intro h6 <;> try simp [-za, -zb] at h6
   exfalso
   omega
   refine QX (QX (QX (QX ?_)))
   refine QK (fun v7 h7 => ?_) (fun h7 => ?_)
   intro h8
   try simp [-za, -zb] at h8
   exact ih _ (by omega) _ _ rfl ⟨by omega, by omega, k3.trans (Qae (by omega) (by simp [Vh, h5]) h7 (by omega))⟩
   intro j8
   exact Qb hk (k3.trans (JO (by omega) (by simp [Vh, h5]) h7)) _
   refine Qc (fun h6 => ?_) (fun h6 => ?_)
   try simp [-za, -zb] at h6
   exact Qj hk (k3.trans (Jf (by omega) (by simp [Vh, h3, h4, h5]) (by omega))) ⟨by omega, by omega⟩
   try simp [-za, -zb] at h6
   refine Qc ?_ ?_ <;> intro h7 <;> try simp [-za, -zb] at h7
   exact Qj hk (k3.trans (Jf (by omega) (by simp [Vh, h3, h4, h5]) (by omega))) ⟨by omega, by omega⟩
   refine QX (QX (QX (QX ?_)))
   refine QK (fun v9 h8 => ?_) (fun h8 => ?_)
   intro h9
   try simp [-za, -zb] at h9
   exact ih _ (by omega) _ _ rfl ⟨by omega, by omega, k3.trans (QoY (by omega) (by simp [Vh, h3, h4, h5]) (by omega) h8 (by omega))⟩
   intro j10
   exact Qb hk (k3.trans (Qmq (by omega) (by simp [Vh, h3, h4, h5]) (by omega) h8)) _
   refine Qc (fun h2 => ?_) (fun h2 => ?_)
   try simp [-za, -zb] at h2
   exact Qj hk (k3.trans (selGo_end (by omega))) ⟨by omega, by omega⟩
   try simp [-za, -zb] at h2
   refine QX ?_
   refine Qc ?_ ?_ <;> intro h3 <;> try simp [-za, -zb] at h3
   refine QX (QX (QX (QX ?_)))
   refine Qc ?_ ?_ <;> intro h4 <;> try simp [-za, -zb] at h4
   exfalso
   omega
   refine QX (QX (QX (QX ?_)))
   refine QK (fun v11 h5 => ?_) (fun h5 => ?_)
   intro h6
   try simp [-za, -zb] at h6
   exact ih _ (by omega) _ _ rfl ⟨by omega, by omega, k3.trans (Qae (by omega) (by simp [Vh, h3]) h5 (by omega))⟩
   intro j12
   exact Qb hk (k3.trans (JO (by omega) (by simp [Vh, h3]) h5)) _
   refine Qc (fun h4 => ?_) (fun h4 => ?_)
   try simp [-za, -zb] at h4
   refine QX (QX (QX (QX ?_)))
   refine Qc ?_ ?_ <;> intro h5 <;> try simp [-za, -zb] at h5
   exfalso
   omega
   refine QX (QX (QX (QX ?_)))
   refine QK (fun v13 h6 => ?_) (fun h6 => ?_)
   intro h7
   try simp [-za, -zb] at h7
   exact ih _ (by omega) _ _ rfl ⟨by omega, by omega, k3.trans (Qae (by omega) (by simp [Vh, h4]) h6 (by omega))⟩
   intro j14
   exact Qb hk (k3.trans (JO (by omega) (by simp [Vh, h4]) h6)) _
   try simp [-za, -zb] at h4
   refine Qc ?_ ?_ <;> intro h5 <;> try simp [-za, -zb] at h5
   refine QX (QX (QX (QX ?_)))
   refine Qc ?_ ?_ <;> intro h6 <;> try simp [-za, -zb] at h6
   exfalso
   omega
   refine QX (QX (QX (QX ?_)))
   refine QK (fun v15 h7 => ?_) (fun h7 => ?_)
   intro h8
   try simp [-za, -zb] at h8
   exact ih _ (by omega) _ _ rfl ⟨by omega, by omega, k3.trans (Qae (by omega) (by simp [Vh, h5]) h7 (by omega))⟩
   intro j16
   exact Qb hk (k3.trans (JO (by omega) (by simp [Vh, h5]) h7)) _
   refine Qc (fun h6 => ?_) (fun h6 => ?_)
   try simp [-za, -zb] at h6
   exact Qj hk (k3.trans (Jf (by omega) (by simp [Vh, h3, h4, h5]) (by omega))) ⟨by omega, by omega⟩
   try simp [-za, -zb] at h6
   refine Qc ?_ ?_ <;> intro h7 <;> try simp [-za, -zb] at h7
   exact Qj hk (k3.trans (Jf (by omega) (by simp [Vh, h3, h4, h5]) (by omega))) ⟨by omega, by omega⟩
   exact Qj hk (k3.trans (Jf (by omega) (by simp [Vh, h3, h4, h5]) (by omega))) ⟨by omega, by omega⟩
 refine (W72 m).en ((s.length <= 1000000) /\ (i <= s.length) /\ (s.length <= 1000000) /\ (iWs s i <= s.length) /\ (d <= 1001) /\ (1002 <= d + m) /\ Qy (YK (QD s a (1001 - d)) s a (iWs s i)) (fun v1 => (iWs s i < v1.2 /\ v1.2 <= s.length) -> (W72 m).L K 5 (mkS 82 [(0, (.ptr 0 0)), (4, (.cs v1.1))] [(0, .blk 94 [(.str s), (.nat v1.2), (.nat d), (.bool a)])] 1)) (∀ j2 : Nat, K (.val (.tup [.nilif, .ifx])) (some (.blk 94 [(.str s), (.nat j2), (.nat d), (.bool a)])))) ?_
 refine QX (QX (QX (QX (QX (QX ?_)))))
 refine QK (fun v1 h1 => ?_) (fun h1 => ?_)
 intro h2
 try simp [-za, -zb] at h2
 exact L5 _ _ _ rfl ⟨by omega, by omega, by unfold Zk; rw [h1]⟩
 intro j2
 exact Qb hk (by unfold Zk; rw [h1]) _
 exact hP.elim
end
end Go.Proofs.YtengepcafdnalaaGreatDoor
