/-
  Parts of the proof that the law FnParseOtherwise holds for every input (texts Ld). Conditions: none.
-/
import Derived.Test.YtengepcafdnalaaGreatDoorM25
namespace Go.Proofs.YtengepcafdnalaaGreatDoor
section
open Go Go.RowKit
set_option maxRecDepth 20000
def c70 (m : Nat) (svs : List SV) (b : Option SB) (K : Out -> Option SB -> Prop) : Prop := match svs, b with
 | [.ptr 0 0], some (.blk 94 [.str s, .nat i, .nat d, .bool a]) => s.length <= 1000000 /\ i <= s.length /\ d <= 1001 /\ 1002 <= d + m /\ Qx (QD s a (1001 - d) i) (fun v => i < v.2 /\ v.2 <= s.length -> K (.val (.tup [.sl (.csels v.1), .nilif])) (some (.blk 94 [.str s, .nat v.2, .nat d, .bool a]))) (∀ j, K (.val (.tup [.sl (.csels []), .ifx])) (some (.blk 94 [.str s, .nat j, .nat d, .bool a])))
 | _, _ => False
theorem Qnh : Has 70 := hsf Tryz.f70
section
variable {G : Nat -> Option (List CSel × Nat)} {s n : Bs} {j k : Nat}
theorem psG (hn : n = [110, 111, 116] \/ n = [104, 97, 115] \/ n = [104, 97, 115, 99, 104, 105, 108, 100]) : ZB G s n j = (JW G s n j).map fun p => (some p.1, [], p.2) := by
 unfold ZB; exact if_pos hn
theorem Qgb {v : List CSel × Nat} {e : Nat} (ho : Vw s j = some k) (hg : G k = some v) (hc : QT s v.2 = some e) : JW G s n j = some (.rel n v.1, e) := by
 obtain ⟨l, m⟩ := v
 unfold JW; rw [ho]; dsimp only; rw [hg]; dsimp only; dsimp only at hc; rw [hc]; rfl
theorem QiU (ho : Vw s j = none) : JW G s n j = none := by unfold JW; rw [ho]
theorem QiT (ho : Vw s j = some k) (hg : G k = none) : JW G s n j = none := by unfold JW; rw [ho]; dsimp only; rw [hg]
theorem QiS {v : List CSel × Nat} (ho : Vw s j = some k) (hg : G k = some v) (hc : QT s v.2 = none) : JW G s n j = none := by
 obtain ⟨l, m⟩ := v
 unfold JW; rw [ho]; dsimp only; rw [hg]; dsimp only; dsimp only at hc; rw [hc]; rfl
theorem psV (hn : n = [99, 111, 110, 116, 97, 105, 110, 115] \/ n = [99, 111, 110, 116, 97, 105, 110, 115, 111, 119, 110]) : ZB G s n j = (Z1 s (decide (n = [99, 111, 110, 116, 97, 105, 110, 115, 111, 119, 110])) j).map fun p => (some p.1, [], p.2) := by
 unfold ZB; rw [if_neg (show ¬ (n = UQ \/ n = UR \/ n = Vv) from by rcases hn with h | h <;> (subst h; decide))]
 exact if_pos hn
theorem Qap {o : Bool} {v : Bs × Nat} {e : Nat} (ho : Vw s j = some k) (hl : k < s.length) (hv : (if bat s k = 39 \/ bat s k = 34 then Jl s k else QL s k) = some v) (hc : QT s (iWs s v.2) = some e) : Z1 s o j = some (.contains (low v.1) o, e) := by
 obtain ⟨l, m⟩ := v
 have hc : QT s m = some e := by unfold QT at hc ⊢; rwa [Law.iWs_fix] at hc
 unfold Z1; rw [ho]; dsimp only; rw [if_pos hl, hv]; dsimp only; rw [hc]; rfl
theorem QnV {o : Bool} (ho : Vw s j = none) : Z1 s o j = none := by unfold Z1; rw [ho]
theorem QnU {o : Bool} (ho : Vw s j = some k) (hl : ¬ k < s.length) : Z1 s o j = none := by unfold Z1; rw [ho]; dsimp only; rw [if_neg hl]
theorem QbK {o : Bool} (ho : Vw s j = some k) (hl : k < s.length) (hv : (if bat s k = 39 \/ bat s k = 34 then Jl s k else QL s k) = none) : Z1 s o j = none := by
 unfold Z1; rw [ho]; dsimp only; rw [if_pos hl, hv]
theorem ZZ {o : Bool} {v : Bs × Nat} (ho : Vw s j = some k) (hl : k < s.length) (hv : (if bat s k = 39 \/ bat s k = 34 then Jl s k else QL s k) = some v) (hc : s.length <= iWs s v.2 \/ QT s (iWs s v.2) = none) : Z1 s o j = none := by
 obtain ⟨l, m⟩ := v
 have hc : QT s m = none := by
  rcases hc with hc | hc
  unfold QT; rw [if_neg (fun q => by dsimp only at hc; omega)]
  unfold QT at hc ⊢; rwa [Law.iWs_fix] at hc
 unfold Z1; rw [ho]; dsimp only; rw [if_pos hl, hv]; dsimp only; rw [hc]; rfl
theorem psN (hn : n = [110, 116, 104, 45, 99, 104, 105, 108, 100] \/ n = [110, 116, 104, 45, 108, 97, 115, 116, 45, 99, 104, 105, 108, 100] \/ n = [110, 116, 104, 45, 111, 102, 45, 116, 121, 112, 101] \/ n = [110, 116, 104, 45, 108, 97, 115, 116, 45, 111, 102, 45, 116, 121, 112, 101]) :
 ZB G s n j = (JA s (decide (n = [110, 116, 104, 45, 108, 97, 115, 116, 45, 99, 104, 105, 108, 100]) || decide (n = [110, 116, 104, 45, 108, 97, 115, 116, 45, 111, 102, 45, 116, 121, 112, 101])) (decide (n = [110, 116, 104, 45, 111, 102, 45, 116, 121, 112, 101]) || decide (n = [110, 116, 104, 45, 108, 97, 115, 116, 45, 111, 102, 45, 116, 121, 112, 101])) j).map fun p => (some p.1, [], p.2) := by
 rw [<- Bool.decide_or, <- Bool.decide_or]
 unfold ZB
 rw [if_neg (show ¬ (n = UQ \/ n = UR \/ n = Vv) from by rcases hn with h | h | h | h <;> (subst h; decide)), if_neg (show ¬ (n = Q7 \/ n = QI) from by rcases hn with h | h | h | h <;> (subst h; decide))]
 exact if_pos hn
theorem Qcz {l t : Bool} {v : Int × Int × Nat} {e : Nat} (ho : Vw s j = some k) (hv : VU s k = some v) (hc : QT s v.2.2 = some e) : JA s l t j = some (.nth v.1 v.2.1 l t, e) := by
 obtain ⟨x, y, m⟩ := v
 unfold JA; rw [ho]; dsimp only; rw [hv]; dsimp only; dsimp only at hc; rw [hc]; rfl
theorem Qga {l t : Bool} (ho : Vw s j = none) : JA s l t j = none := by unfold JA; rw [ho]
theorem Qf9 {l t : Bool} (ho : Vw s j = some k) (hv : VU s k = none) : JA s l t j = none := by unfold JA; rw [ho]; dsimp only; rw [hv]
theorem Qf8 {l t : Bool} {v : Int × Int × Nat} (ho : Vw s j = some k) (hv : VU s k = some v) (hc : QT s v.2.2 = none) : JA s l t j = none := by
 obtain ⟨x, y, m⟩ := v
 unfold JA; rw [ho]; dsimp only; rw [hv]; dsimp only; dsimp only at hc; rw [hc]; rfl
theorem psL (hn : n = [108, 97, 110, 103]) : ZB G s n j = (Jm s j).map fun p => (some p.1, [], p.2) := by
 subst hn
 unfold ZB; rw [if_neg (by decide), if_neg (by decide), if_neg (by decide)]
 exact if_pos rfl
theorem QpD {v : Bs × Nat} {e : Nat} (ho : Vw s j = some k) (hl : k < s.length) (hv : QL s k = some v) (hc : QT s (iWs s v.2) = some e) : Jm s j = some (.lang (low v.1), e) := by
 obtain ⟨l, m⟩ := v
 have hc : QT s m = some e := by unfold QT at hc ⊢; rwa [Law.iWs_fix] at hc
 unfold Jm; rw [ho]; dsimp only; rw [if_pos hl, hv]; dsimp only; rw [hc]; rfl
theorem QsX (ho : Vw s j = none) : Jm s j = none := by unfold Jm; rw [ho]
theorem QsW (ho : Vw s j = some k) (hl : ¬ k < s.length) : Jm s j = none := by unfold Jm; rw [ho]; dsimp only; rw [if_neg hl]
theorem QsV (ho : Vw s j = some k) (hl : k < s.length) (hv : QL s k = none) : Jm s j = none := by unfold Jm; rw [ho]; dsimp only; rw [if_pos hl, hv]
theorem QnW {v : Bs × Nat} (ho : Vw s j = some k) (hl : k < s.length) (hv : QL s k = some v) (hc : s.length <= iWs s v.2 \/ QT s (iWs s v.2) = none) : Jm s j = none := by
 obtain ⟨l, m⟩ := v
 have hc : QT s m = none := by
  rcases hc with hc | hc
  unfold QT; rw [if_neg (fun q => by dsimp only at hc; omega)]
  unfold QT at hc ⊢; rwa [Law.iWs_fix] at hc
 unfold Jm; rw [ho]; dsimp only; rw [if_pos hl, hv]; dsimp only; rw [hc]; rfl
theorem Qhj {i : Nat} {v : Bs × Nat} (hl : i + 1 < s.length) (hv : QL s (if bat s (i + 1) = 58 then i + 2 else i + 1) = some v) (h : bat s (i + 1) = 58 -> low v.1 ∈ ZH) : iPs G s i = ZB G s (low v.1) v.2 := by
 obtain ⟨w, m⟩ := v
 unfold iPs; rw [if_pos hl, hv]; dsimp only; rw [if_neg (fun q => q.2 (h q.1))]
theorem Qpb {i : Nat} {v : Bs × Nat} (hv : QL s (if bat s (i + 1) = 58 then i + 2 else i + 1) = some v) (h : bat s (i + 1) = 58 /\ low v.1 ∉ ZH) : iPs G s i = none := by
 obtain ⟨w, m⟩ := v
 unfold iPs; rw [hv]; dsimp only; rw [if_pos h]; split <;> rfl
theorem QjV {i : Nat} (hv : QL s (if bat s (i + 1) = 58 then i + 2 else i + 1) = none) : iPs G s i = none := by
 unfold iPs; rw [hv]; split <;> rfl
theorem Qpa {i : Nat} (hl : ¬ i + 1 < s.length) : iPs G s i = none := by
 unfold iPs; rw [if_neg hl]
end
def c119 (m : Nat) (svs : List SV) (b : Option SB) (K : Out -> Option SB -> Prop) : Prop := match svs, b with
 | [.ptr 0 0], some (.blk 94 [.str s, .nat i, .nat d, .bool a]) => s.length <= 1000000 /\ i <= s.length /\ d <= 1001 /\ 1002 <= d + m /\ i < s.length /\ bat s i = 58 /\ Qx (iPs (QD s a (1001 - d)) s i) (fun v => i < v.2.2 /\ v.2.2 <= s.length -> Qx v.1 (fun x => K (.val (.tup [.cs x, .str [], .nilif])) (some (.blk 94 [.str s, .nat v.2.2, .nat d, .bool a]))) (K (.val (.tup [.nilif, .str v.2.1, .nilif])) (some (.blk 94 [.str s, .nat v.2.2, .nat d, .bool a])))) (∀ j, K (.val (.tup [.nilif, .str [], .ifx])) (some (.blk 94 [.str s, .nat j, .nat d, .bool a])))
 | _, _ => False
noncomputable def Qi3 (m : Nat) : Wk := ⟨[(70, .plain (c70 m)), (71, .pure c71), (99, .fn c99), (129, .plain c129), (130, .pure Qlp), (132, .plain c132), (133, .plain c133), (134, .plain c134), (135, .pure c135), (136, .plain c136)], Qm Tryz.f119, true, false, [.tmp 2, .tmp 3, .tmp 4], [56, 9, 71], [(17, 93)], [17]⟩
theorem Qsj : Has 119 := hsf Tryz.f119
theorem QA {p q : Prop} (k : q) (h : p := by first | omega | (simp; done) | (simp; omega) | (simp; assumption)) : p /\ q := ⟨h, k⟩
theorem Qrc (m : Nat) (hG : Sat 70 (c70 m)) : Sat 119 (c119 m) := by
 have hD : Qe (Qi3 m).D := (Qe.cons Qnh hG (Qe.cons Zt Zr (Qe.cons QeH Qeh (Qe.cons QfT Qfg (Qe.cons QfS Qff (Qe.cons Qnm Qma (Qe.cons Qsh Qra (Qe.cons Qsg Qq9 (Qe.cons Qsf Qq8 (Qe.cons Qse Qq7 Qe.nil))))))))))
 refine (Qi3 m).sa hD Tryz.f119 fun svs b K hP => ?_
 unfold c119 at hP
 split at hP
 rename_i s i d a
 obtain ⟨h01, h02, h03, h04, h05, h06, hk⟩ := hP
 have L17 : ∀ (mm : Nat) (name : Bs) (p : Nat), 0 = mm -> (i < p /\ p <= s.length /\ iPs (QD s a (1001 - d)) s i = ZB (QD s a (1001 - d)) s name p /\ name.length <= 10000000) -> (Qi3 m).C K 17 (mkS 402 [(0, (.ptr 0 0)), (2, .nilif), (3, (.str [])), (4, .nilif), (6, (.str name))] [(0, .blk 94 [(.str s), (.nat p), (.nat d), (.bool a)])] 1) := by
  intro mm
  induction mm using Nat.strongRecOn with
  | _ mm ih =>
   intro name p hm hI
   obtain ⟨k1, k2, k3, k4⟩ := hI
   refine (Qi3 m).aC hD (have a0 : Option SB := some (.blk 94 [(.str s), (.nat p), (.nat d), (.bool a)]); have a1 : Out := .val (.tup [.nilif, (.str []), .ifx]); have a2 := s.length <= 1000000; have a3 := decide (name = [110, 116, 104, 45, 108, 97, 115, 116, 45, 111, 102, 45, 116, 121, 112, 101]); have a4 := decide (name = [99, 111, 110, 116, 97, 105, 110, 115, 111, 119, 110]); have a5 : Out := .val (.tup [.nilif, (.str name), .nilif]); have a6 := decide (name = [110, 116, 104, 45, 108, 97, 115, 116, 45, 99, 104, 105, 108, 100]); have a7 := decide (name = [110, 116, 104, 45, 111, 102, 45, 116, 121, 112, 101]); have a8 : Out := .val (.tup [(.cs (.never ([58] ++ name))), (.str []), .nilif]); have a9 := p <= s.length; cond (decide (name = [110, 111, 116])) (a2 /\ a9 /\ Qx (Vw s p) (fun j5 => (p < j5 /\ j5 <= s.length) -> a2 /\ (j5 <= s.length) /\ (d <= 1001) /\ (1002 <= d + m) /\ Qx ((QD s a (1001 - d)) j5) (fun v6 => (j5 < v6.2 /\ v6.2 <= s.length) -> a2 /\ (v6.2 <= s.length) /\ Qx (QT s v6.2) (fun j8 => (v6.2 < j8 /\ j8 <= s.length) -> K (.val (.tup [(.cs (.rel name v6.1)), (.str []), .nilif])) (some (.blk 94 [(.str s), (.nat j8), (.nat d), (.bool a)]))) (K a1 (some (.blk 94 [(.str s), (.nat v6.2), (.nat d), (.bool a)])))) (∀ j7 : Nat, K a1 (some (.blk 94 [(.str s), (.nat j7), (.nat d), (.bool a)])))) (K a1 a0)) (cond (decide (name = [104, 97, 115])) (a2 /\ a9 /\ Qx (Vw s p) (fun j9 => (p < j9 /\ j9 <= s.length) -> a2 /\ (j9 <= s.length) /\ (d <= 1001) /\ (1002 <= d + m) /\ Qx ((QD s a (1001 - d)) j9) (fun v10 => (j9 < v10.2 /\ v10.2 <= s.length) -> a2 /\ (v10.2 <= s.length) /\ Qx (QT s v10.2) (fun j12 => (v10.2 < j12 /\ j12 <= s.length) -> K (.val (.tup [(.cs (.rel name v10.1)), (.str []), .nilif])) (some (.blk 94 [(.str s), (.nat j12), (.nat d), (.bool a)]))) (K a1 (some (.blk 94 [(.str s), (.nat v10.2), (.nat d), (.bool a)])))) (∀ j11 : Nat, K a1 (some (.blk 94 [(.str s), (.nat j11), (.nat d), (.bool a)])))) (K a1 a0)) (cond (decide (name = [104, 97, 115, 99, 104, 105, 108, 100])) (a2 /\ a9 /\ Qx (Vw s p) (fun j13 => (p < j13 /\ j13 <= s.length) -> a2 /\ (j13 <= s.length) /\ (d <= 1001) /\ (1002 <= d + m) /\ Qx ((QD s a (1001 - d)) j13) (fun v14 => (j13 < v14.2 /\ v14.2 <= s.length) -> a2 /\ (v14.2 <= s.length) /\ Qx (QT s v14.2) (fun j16 => (v14.2 < j16 /\ j16 <= s.length) -> K (.val (.tup [(.cs (.rel name v14.1)), (.str []), .nilif])) (some (.blk 94 [(.str s), (.nat j16), (.nat d), (.bool a)]))) (K a1 (some (.blk 94 [(.str s), (.nat v14.2), (.nat d), (.bool a)])))) (∀ j15 : Nat, K a1 (some (.blk 94 [(.str s), (.nat j15), (.nat d), (.bool a)])))) (K a1 a0)) (cond (decide (name = [99, 111, 110, 116, 97, 105, 110, 115])) (a2 /\ a9 /\ Qx (Vw s p) (fun j17 => (p < j17 /\ j17 <= s.length) -> cond (decide (j17 = s.length)) (K a1 (some (.blk 94 [(.str s), (.nat j17), (.nat d), (.bool a)]))) ((j17 < s.length) /\ cond (decide (bat s j17 = 39)) (a2 /\ (j17 <= s.length) /\ Qx (Jl s j17) (fun v18 => (j17 < v18.2 /\ v18.2 <= s.length /\ v18.1.length <= 4 * (v18.2 - j17)) -> (v18.1.length <= 1000000000) /\ a2 /\ (v18.2 <= s.length) /\ cond (decide (s.length <= iWs s v18.2)) (K a1 (some (.blk 94 [(.str s), (.nat (iWs s v18.2)), (.nat d), (.bool a)]))) (a2 /\ (iWs s v18.2 <= s.length) /\ Qx (QT s (iWs s v18.2)) (fun j20 => (iWs s v18.2 < j20 /\ j20 <= s.length) -> K (.val (.tup [(.cs (.contains (low v18.1) a4)), (.str []), .nilif])) (some (.blk 94 [(.str s), (.nat j20), (.nat d), (.bool a)]))) (K a1 (some (.blk 94 [(.str s), (.nat (iWs s v18.2)), (.nat d), (.bool a)]))))) (∀ j19 : Nat, K a1 (some (.blk 94 [(.str s), (.nat j19), (.nat d), (.bool a)])))) (cond (decide (bat s j17 = 34)) (a2 /\ (j17 <= s.length) /\ Qx (Jl s j17) (fun v21 => (j17 < v21.2 /\ v21.2 <= s.length /\ v21.1.length <= 4 * (v21.2 - j17)) -> (v21.1.length <= 1000000000) /\ a2 /\ (v21.2 <= s.length) /\ cond (decide (s.length <= iWs s v21.2)) (K a1 (some (.blk 94 [(.str s), (.nat (iWs s v21.2)), (.nat d), (.bool a)]))) (a2 /\ (iWs s v21.2 <= s.length) /\ Qx (QT s (iWs s v21.2)) (fun j23 => (iWs s v21.2 < j23 /\ j23 <= s.length) -> K (.val (.tup [(.cs (.contains (low v21.1) a4)), (.str []), .nilif])) (some (.blk 94 [(.str s), (.nat j23), (.nat d), (.bool a)]))) (K a1 (some (.blk 94 [(.str s), (.nat (iWs s v21.2)), (.nat d), (.bool a)]))))) (∀ j22 : Nat, K a1 (some (.blk 94 [(.str s), (.nat j22), (.nat d), (.bool a)])))) (a2 /\ (j17 <= s.length) /\ Qx (QL s j17) (fun v24 => (j17 < v24.2 /\ v24.2 <= s.length /\ v24.1.length <= 4 * (v24.2 - j17)) -> (v24.1.length <= 1000000000) /\ a2 /\ (v24.2 <= s.length) /\ cond (decide (s.length <= iWs s v24.2)) (K a1 (some (.blk 94 [(.str s), (.nat (iWs s v24.2)), (.nat d), (.bool a)]))) (a2 /\ (iWs s v24.2 <= s.length) /\ Qx (QT s (iWs s v24.2)) (fun j26 => (iWs s v24.2 < j26 /\ j26 <= s.length) -> K (.val (.tup [(.cs (.contains (low v24.1) a4)), (.str []), .nilif])) (some (.blk 94 [(.str s), (.nat j26), (.nat d), (.bool a)]))) (K a1 (some (.blk 94 [(.str s), (.nat (iWs s v24.2)), (.nat d), (.bool a)]))))) (∀ j25 : Nat, K a1 (some (.blk 94 [(.str s), (.nat j25), (.nat d), (.bool a)]))))))) (K a1 a0)) (cond a4 (a2 /\ a9 /\ Qx (Vw s p) (fun j27 => (p < j27 /\ j27 <= s.length) -> cond (decide (j27 = s.length)) (K a1 (some (.blk 94 [(.str s), (.nat j27), (.nat d), (.bool a)]))) ((j27 < s.length) /\ cond (decide (bat s j27 = 39)) (a2 /\ (j27 <= s.length) /\ Qx (Jl s j27) (fun v28 => (j27 < v28.2 /\ v28.2 <= s.length /\ v28.1.length <= 4 * (v28.2 - j27)) -> (v28.1.length <= 1000000000) /\ a2 /\ (v28.2 <= s.length) /\ cond (decide (s.length <= iWs s v28.2)) (K a1 (some (.blk 94 [(.str s), (.nat (iWs s v28.2)), (.nat d), (.bool a)]))) (a2 /\ (iWs s v28.2 <= s.length) /\ Qx (QT s (iWs s v28.2)) (fun j30 => (iWs s v28.2 < j30 /\ j30 <= s.length) -> K (.val (.tup [(.cs (.contains (low v28.1) a4)), (.str []), .nilif])) (some (.blk 94 [(.str s), (.nat j30), (.nat d), (.bool a)]))) (K a1 (some (.blk 94 [(.str s), (.nat (iWs s v28.2)), (.nat d), (.bool a)]))))) (∀ j29 : Nat, K a1 (some (.blk 94 [(.str s), (.nat j29), (.nat d), (.bool a)])))) (cond (decide (bat s j27 = 34)) (a2 /\ (j27 <= s.length) /\ Qx (Jl s j27) (fun v31 => (j27 < v31.2 /\ v31.2 <= s.length /\ v31.1.length <= 4 * (v31.2 - j27)) -> (v31.1.length <= 1000000000) /\ a2 /\ (v31.2 <= s.length) /\ cond (decide (s.length <= iWs s v31.2)) (K a1 (some (.blk 94 [(.str s), (.nat (iWs s v31.2)), (.nat d), (.bool a)]))) (a2 /\ (iWs s v31.2 <= s.length) /\ Qx (QT s (iWs s v31.2)) (fun j33 => (iWs s v31.2 < j33 /\ j33 <= s.length) -> K (.val (.tup [(.cs (.contains (low v31.1) a4)), (.str []), .nilif])) (some (.blk 94 [(.str s), (.nat j33), (.nat d), (.bool a)]))) (K a1 (some (.blk 94 [(.str s), (.nat (iWs s v31.2)), (.nat d), (.bool a)]))))) (∀ j32 : Nat, K a1 (some (.blk 94 [(.str s), (.nat j32), (.nat d), (.bool a)])))) (a2 /\ (j27 <= s.length) /\ Qx (QL s j27) (fun v34 => (j27 < v34.2 /\ v34.2 <= s.length /\ v34.1.length <= 4 * (v34.2 - j27)) -> (v34.1.length <= 1000000000) /\ a2 /\ (v34.2 <= s.length) /\ cond (decide (s.length <= iWs s v34.2)) (K a1 (some (.blk 94 [(.str s), (.nat (iWs s v34.2)), (.nat d), (.bool a)]))) (a2 /\ (iWs s v34.2 <= s.length) /\ Qx (QT s (iWs s v34.2)) (fun j36 => (iWs s v34.2 < j36 /\ j36 <= s.length) -> K (.val (.tup [(.cs (.contains (low v34.1) a4)), (.str []), .nilif])) (some (.blk 94 [(.str s), (.nat j36), (.nat d), (.bool a)]))) (K a1 (some (.blk 94 [(.str s), (.nat (iWs s v34.2)), (.nat d), (.bool a)]))))) (∀ j35 : Nat, K a1 (some (.blk 94 [(.str s), (.nat j35), (.nat d), (.bool a)]))))))) (K a1 a0)) (cond (decide (name = [110, 116, 104, 45, 99, 104, 105, 108, 100])) (a2 /\ a9 /\ Qx (Vw s p) (fun j37 => (p < j37 /\ j37 <= s.length) -> a2 /\ (j37 <= s.length) /\ Qx (VU s j37) (fun v38 => (j37 <= v38.2.2 /\ v38.2.2 <= s.length) -> a2 /\ (v38.2.2 <= s.length) /\ Qx (QT s v38.2.2) (fun j40 => (v38.2.2 < j40 /\ j40 <= s.length) -> K (.val (.tup [(.cs (.nth v38.1 v38.2.1 (a6 || a3) (a7 || a3))), (.str []), .nilif])) (some (.blk 94 [(.str s), (.nat j40), (.nat d), (.bool a)]))) (K a1 (some (.blk 94 [(.str s), (.nat v38.2.2), (.nat d), (.bool a)])))) (∀ j39 : Nat, K a1 (some (.blk 94 [(.str s), (.nat j39), (.nat d), (.bool a)])))) (K a1 a0)) (cond a6 (a2 /\ a9 /\ Qx (Vw s p) (fun j41 => (p < j41 /\ j41 <= s.length) -> a2 /\ (j41 <= s.length) /\ Qx (VU s j41) (fun v42 => (j41 <= v42.2.2 /\ v42.2.2 <= s.length) -> a2 /\ (v42.2.2 <= s.length) /\ Qx (QT s v42.2.2) (fun j44 => (v42.2.2 < j44 /\ j44 <= s.length) -> K (.val (.tup [(.cs (.nth v42.1 v42.2.1 (a6 || a3) (a7 || a3))), (.str []), .nilif])) (some (.blk 94 [(.str s), (.nat j44), (.nat d), (.bool a)]))) (K a1 (some (.blk 94 [(.str s), (.nat v42.2.2), (.nat d), (.bool a)])))) (∀ j43 : Nat, K a1 (some (.blk 94 [(.str s), (.nat j43), (.nat d), (.bool a)])))) (K a1 a0)) (cond a7 (a2 /\ a9 /\ Qx (Vw s p) (fun j45 => (p < j45 /\ j45 <= s.length) -> a2 /\ (j45 <= s.length) /\ Qx (VU s j45) (fun v46 => (j45 <= v46.2.2 /\ v46.2.2 <= s.length) -> a2 /\ (v46.2.2 <= s.length) /\ Qx (QT s v46.2.2) (fun j48 => (v46.2.2 < j48 /\ j48 <= s.length) -> K (.val (.tup [(.cs (.nth v46.1 v46.2.1 (a6 || a3) (a7 || a3))), (.str []), .nilif])) (some (.blk 94 [(.str s), (.nat j48), (.nat d), (.bool a)]))) (K a1 (some (.blk 94 [(.str s), (.nat v46.2.2), (.nat d), (.bool a)])))) (∀ j47 : Nat, K a1 (some (.blk 94 [(.str s), (.nat j47), (.nat d), (.bool a)])))) (K a1 a0)) (cond a3 (a2 /\ a9 /\ Qx (Vw s p) (fun j49 => (p < j49 /\ j49 <= s.length) -> a2 /\ (j49 <= s.length) /\ Qx (VU s j49) (fun v50 => (j49 <= v50.2.2 /\ v50.2.2 <= s.length) -> a2 /\ (v50.2.2 <= s.length) /\ Qx (QT s v50.2.2) (fun j52 => (v50.2.2 < j52 /\ j52 <= s.length) -> K (.val (.tup [(.cs (.nth v50.1 v50.2.1 (a6 || a3) (a7 || a3))), (.str []), .nilif])) (some (.blk 94 [(.str s), (.nat j52), (.nat d), (.bool a)]))) (K a1 (some (.blk 94 [(.str s), (.nat v50.2.2), (.nat d), (.bool a)])))) (∀ j51 : Nat, K a1 (some (.blk 94 [(.str s), (.nat j51), (.nat d), (.bool a)])))) (K a1 a0)) (cond (decide (name = [102, 105, 114, 115, 116, 45, 99, 104, 105, 108, 100])) (K (.val (.tup [(.cs (.nth (0 : Int) (1 : Int) false false)), (.str []), .nilif])) a0) (cond (decide (name = [108, 97, 115, 116, 45, 99, 104, 105, 108, 100])) (K (.val (.tup [(.cs (.nth (0 : Int) (1 : Int) true false)), (.str []), .nilif])) a0) (cond (decide (name = [102, 105, 114, 115, 116, 45, 111, 102, 45, 116, 121, 112, 101])) (K (.val (.tup [(.cs (.nth (0 : Int) (1 : Int) false true)), (.str []), .nilif])) a0) (cond (decide (name = [108, 97, 115, 116, 45, 111, 102, 45, 116, 121, 112, 101])) (K (.val (.tup [(.cs (.nth (0 : Int) (1 : Int) true true)), (.str []), .nilif])) a0) (cond (decide (name = [111, 110, 108, 121, 45, 99, 104, 105, 108, 100])) (K (.val (.tup [(.cs (.only false)), (.str []), .nilif])) a0) (cond (decide (name = [111, 110, 108, 121, 45, 111, 102, 45, 116, 121, 112, 101])) (K (.val (.tup [(.cs (.only true)), (.str []), .nilif])) a0) (cond (decide (name = [105, 110, 112, 117, 116])) (K (.val (.tup [(.cs CSel.input), (.str []), .nilif])) a0) (cond (decide (name = [101, 109, 112, 116, 121])) (K (.val (.tup [(.cs CSel.empty), (.str []), .nilif])) a0) (cond (decide (name = [114, 111, 111, 116])) (K (.val (.tup [(.cs CSel.root), (.str []), .nilif])) a0) (cond (decide (name = [108, 105, 110, 107])) (K (.val (.tup [(.cs CSel.link), (.str []), .nilif])) a0) (cond (decide (name = [108, 97, 110, 103])) (a2 /\ a9 /\ Qx (Vw s p) (fun j53 => (p < j53 /\ j53 <= s.length) -> cond (decide (j53 = s.length)) (K a1 (some (.blk 94 [(.str s), (.nat j53), (.nat d), (.bool a)]))) (a2 /\ (j53 <= s.length) /\ Qx (QL s j53) (fun v54 => (j53 < v54.2 /\ v54.2 <= s.length /\ v54.1.length <= 4 * (v54.2 - j53)) -> (v54.1.length <= 1000000000) /\ a2 /\ (v54.2 <= s.length) /\ cond (decide (s.length <= iWs s v54.2)) (K a1 (some (.blk 94 [(.str s), (.nat (iWs s v54.2)), (.nat d), (.bool a)]))) (a2 /\ (iWs s v54.2 <= s.length) /\ Qx (QT s (iWs s v54.2)) (fun j56 => (iWs s v54.2 < j56 /\ j56 <= s.length) -> K (.val (.tup [(.cs (.lang (low v54.1))), (.str []), .nilif])) (some (.blk 94 [(.str s), (.nat j56), (.nat d), (.bool a)]))) (K a1 (some (.blk 94 [(.str s), (.nat (iWs s v54.2)), (.nat d), (.bool a)]))))) (∀ j55 : Nat, K a1 (some (.blk 94 [(.str s), (.nat j55), (.nat d), (.bool a)]))))) (K a1 a0)) (cond (decide (name = [101, 110, 97, 98, 108, 101, 100])) (K (.val (.tup [(.cs CSel.enabled), (.str []), .nilif])) a0) (cond (decide (name = [100, 105, 115, 97, 98, 108, 101, 100])) (K (.val (.tup [(.cs CSel.disabled), (.str []), .nilif])) a0) (cond (decide (name = [99, 104, 101, 99, 107, 101, 100])) (K (.val (.tup [(.cs CSel.checked), (.str []), .nilif])) a0) (cond (decide (name = [118, 105, 115, 105, 116, 101, 100])) ((1 + name.length <= 2305843009213693952) /\ K a8 a0) (cond (decide (name = [104, 111, 118, 101, 114])) ((1 + name.length <= 2305843009213693952) /\ K a8 a0) (cond (decide (name = [97, 99, 116, 105, 118, 101])) ((1 + name.length <= 2305843009213693952) /\ K a8 a0) (cond (decide (name = [102, 111, 99, 117, 115])) ((1 + name.length <= 2305843009213693952) /\ K a8 a0) (cond (decide (name = [116, 97, 114, 103, 101, 116])) ((1 + name.length <= 2305843009213693952) /\ K a8 a0) (cond (decide (name = [97, 102, 116, 101, 114])) (K a5 a0) (cond (decide (name = [98, 97, 99, 107, 100, 114, 111, 112])) (K a5 a0) (cond (decide (name = [98, 101, 102, 111, 114, 101])) (K a5 a0) (cond (decide (name = [99, 117, 101])) (K a5 a0) (cond (decide (name = [102, 105, 114, 115, 116, 45, 108, 101, 116, 116, 101, 114])) (K a5 a0) (cond (decide (name = [102, 105, 114, 115, 116, 45, 108, 105, 110, 101])) (K a5 a0) (cond (decide (name = [103, 114, 97, 109, 109, 97, 114, 45, 101, 114, 114, 111, 114])) (K a5 a0) (cond (decide (name = [109, 97, 114, 107, 101, 114])) (K a5 a0) (cond (decide (name = [112, 108, 97, 99, 101, 104, 111, 108, 100, 101, 114])) (K a5 a0) (cond (decide (name = [115, 101, 108, 101, 99, 116, 105, 111, 110])) (K a5 a0) (cond (decide (name = [115, 112, 101, 108, 108, 105, 110, 103, 45, 101, 114, 114, 111, 114])) (K a5 a0) (K a1 a0)))))))))))))))))))))))))))))))))))))))) ?_
   refine Qd (fun h1 => ?_) (fun h1 => ?_)
   have h1 := of_decide_eq_true h1
   refine QA (QA ?_)
   refine QJ (fun j5 h2 => ?_) (fun h2 => ?_)
   intro h3
   simp -failIfUnchanged [-List.getD_eq_getElem?_getD, -UInt8.toNat_or] at h3
   refine QA (QA (QA (QA ?_)))
   refine QJ (fun v6 h4 => ?_) (fun h4 => ?_)
   intro h5
   simp -failIfUnchanged [-List.getD_eq_getElem?_getD, -UInt8.toNat_or] at h5
   refine QA (QA ?_)
   refine QJ (fun j8 h6 => ?_) (fun h6 => ?_)
   intro h7
   simp -failIfUnchanged [-List.getD_eq_getElem?_getD, -UInt8.toNat_or] at h7
   have e : iPs (QD s a (1001 - d)) s i = some (some (.rel name v6.1), [], j8) := by rw [k3, psG (.inl h1), Qgb h2 h4 h6]; rfl
   have q := Qi hk e ⟨by dsimp only; omega, by dsimp only; omega⟩
   exact q
   exact Qa hk (by rw [k3, psG (.inl h1), QiS h2 h4 h6]; rfl) _
   intro j7
   exact Qa hk (by rw [k3, psG (.inl h1), QiT h2 h4]; rfl) _
   exact Qa hk (by rw [k3, psG (.inl h1), QiU h2]; rfl) _
   have h1 := of_decide_eq_false h1
   refine Qd (fun h2 => ?_) (fun h2 => ?_)
   have h2 := of_decide_eq_true h2
   refine QA (QA ?_)
   refine QJ (fun j9 h3 => ?_) (fun h3 => ?_)
   intro h4
   simp -failIfUnchanged [-List.getD_eq_getElem?_getD, -UInt8.toNat_or] at h4
   refine QA (QA (QA (QA ?_)))
   refine QJ (fun v10 h5 => ?_) (fun h5 => ?_)
   intro h6
   simp -failIfUnchanged [-List.getD_eq_getElem?_getD, -UInt8.toNat_or] at h6
   refine QA (QA ?_)
   refine QJ (fun j12 h7 => ?_) (fun h7 => ?_)
   intro h8
   simp -failIfUnchanged [-List.getD_eq_getElem?_getD, -UInt8.toNat_or] at h8
   have e : iPs (QD s a (1001 - d)) s i = some (some (.rel name v10.1), [], j12) := by rw [k3, psG (.inr (.inl h2)), Qgb h3 h5 h7]; rfl
   have q := Qi hk e ⟨by dsimp only; omega, by dsimp only; omega⟩
   exact q
   exact Qa hk (by rw [k3, psG (.inr (.inl h2)), QiS h3 h5 h7]; rfl) _
   intro j11
   exact Qa hk (by rw [k3, psG (.inr (.inl h2)), QiT h3 h5]; rfl) _
   exact Qa hk (by rw [k3, psG (.inr (.inl h2)), QiU h3]; rfl) _
   have h2 := of_decide_eq_false h2
   refine Qd (fun h3 => ?_) (fun h3 => ?_)
   have h3 := of_decide_eq_true h3
   refine QA (QA ?_)
   refine QJ (fun j13 h4 => ?_) (fun h4 => ?_)
   intro h5
   simp -failIfUnchanged [-List.getD_eq_getElem?_getD, -UInt8.toNat_or] at h5
   refine QA (QA (QA (QA ?_)))
   refine QJ (fun v14 h6 => ?_) (fun h6 => ?_)
   intro h7
   simp -failIfUnchanged [-List.getD_eq_getElem?_getD, -UInt8.toNat_or] at h7
   refine QA (QA ?_)
   refine QJ (fun j16 h8 => ?_) (fun h8 => ?_)
   intro h9
   simp -failIfUnchanged [-List.getD_eq_getElem?_getD, -UInt8.toNat_or] at h9
   have e : iPs (QD s a (1001 - d)) s i = some (some (.rel name v14.1), [], j16) := by rw [k3, psG (.inr (.inr h3)), Qgb h4 h6 h8]; rfl
   have q := Qi hk e ⟨by dsimp only; omega, by dsimp only; omega⟩
   exact q
   exact Qa hk (by rw [k3, psG (.inr (.inr h3)), QiS h4 h6 h8]; rfl) _
   intro j15
   exact Qa hk (by rw [k3, psG (.inr (.inr h3)), QiT h4 h6]; rfl) _
   exact Qa hk (by rw [k3, psG (.inr (.inr h3)), QiU h4]; rfl) _
   have h3 := of_decide_eq_false h3
   refine Qd (fun h4 => ?_) (fun h4 => ?_)
   have h4 := of_decide_eq_true h4
   refine QA (QA ?_)
   refine QJ (fun j17 h5 => ?_) (fun h5 => ?_)
   intro h6
   simp -failIfUnchanged [-List.getD_eq_getElem?_getD, -UInt8.toNat_or] at h6
   refine Qd ?_ ?_ <;> intro h7 <;> simp -failIfUnchanged [-List.getD_eq_getElem?_getD, -UInt8.toNat_or] at h7
   exact Qa hk (by rw [k3, psV (.inl h4), QnU h5 (by omega)]; rfl) _
   refine QA ?_
   refine Qd ?_ ?_ <;> intro h8 <;> simp -failIfUnchanged [-List.getD_eq_getElem?_getD, -UInt8.toNat_or] at h8
   refine QA (QA ?_)
   refine QJ (fun v18 h9 => ?_) (fun h9 => ?_)
   intro h10
   simp -failIfUnchanged [-List.getD_eq_getElem?_getD, -UInt8.toNat_or] at h10
   refine QA (QA (QA ?_))
   refine Qd ?_ ?_ <;> intro h11 <;> simp -failIfUnchanged [-List.getD_eq_getElem?_getD, -UInt8.toNat_or] at h11
   exact Qa hk (by rw [k3, psV (.inl h4), ZZ h5 (by omega) (by rw [if_pos (.inl h8)]; exact h9) (.inl (by omega))]; rfl) _
   refine QA (QA ?_)
   refine QJ (fun j20 h12 => ?_) (fun h12 => ?_)
   intro h13
   simp -failIfUnchanged [-List.getD_eq_getElem?_getD, -UInt8.toNat_or] at h13
   have w9 := VB s v18.2
   have e : iPs (QD s a (1001 - d)) s i = some (some (.contains (low v18.1) (decide (name = [99, 111, 110, 116, 97, 105, 110, 115, 111, 119, 110]))), [], j20) := by rw [k3, psV (.inl h4), Qap h5 (by omega) (by rw [if_pos (.inl h8)]; exact h9) h12]; rfl
   have q := Qi hk e ⟨by dsimp only; omega, by dsimp only; omega⟩
   exact q
   exact Qa hk (by rw [k3, psV (.inl h4), ZZ h5 (by omega) (by rw [if_pos (.inl h8)]; exact h9) (.inr h12)]; rfl) _
   intro j19
   exact Qa hk (by rw [k3, psV (.inl h4), QbK h5 (by omega) (by rw [if_pos (.inl h8)]; exact h9)]; rfl) _
   refine Qd (fun h9 => ?_) (fun h9 => ?_)
   simp -failIfUnchanged [-List.getD_eq_getElem?_getD, -UInt8.toNat_or] at h9
   refine QA (QA ?_)
   refine QJ (fun v21 h10 => ?_) (fun h10 => ?_)
   intro h11
   simp -failIfUnchanged [-List.getD_eq_getElem?_getD, -UInt8.toNat_or] at h11
   refine QA (QA (QA ?_))
   refine Qd ?_ ?_ <;> intro h12 <;> simp -failIfUnchanged [-List.getD_eq_getElem?_getD, -UInt8.toNat_or] at h12
   exact Qa hk (by rw [k3, psV (.inl h4), ZZ h5 (by omega) (by rw [if_pos (.inr h9)]; exact h10) (.inl (by omega))]; rfl) _
   refine QA (QA ?_)
   refine QJ (fun j23 h13 => ?_) (fun h13 => ?_)
   intro h14
   simp -failIfUnchanged [-List.getD_eq_getElem?_getD, -UInt8.toNat_or] at h14
   have w9 := VB s v21.2
   have e : iPs (QD s a (1001 - d)) s i = some (some (.contains (low v21.1) (decide (name = [99, 111, 110, 116, 97, 105, 110, 115, 111, 119, 110]))), [], j23) := by rw [k3, psV (.inl h4), Qap h5 (by omega) (by rw [if_pos (.inr h9)]; exact h10) h13]; rfl
   have q := Qi hk e ⟨by dsimp only; omega, by dsimp only; omega⟩
   exact q
   exact Qa hk (by rw [k3, psV (.inl h4), ZZ h5 (by omega) (by rw [if_pos (.inr h9)]; exact h10) (.inr h13)]; rfl) _
   intro j22
   exact Qa hk (by rw [k3, psV (.inl h4), QbK h5 (by omega) (by rw [if_pos (.inr h9)]; exact h10)]; rfl) _
   simp -failIfUnchanged [-List.getD_eq_getElem?_getD, -UInt8.toNat_or] at h9
   refine QA (QA ?_)
   refine QJ (fun v24 h10 => ?_) (fun h10 => ?_)
   intro h11
   simp -failIfUnchanged [-List.getD_eq_getElem?_getD, -UInt8.toNat_or] at h11
   refine QA (QA (QA ?_))
   refine Qd ?_ ?_ <;> intro h12 <;> simp -failIfUnchanged [-List.getD_eq_getElem?_getD, -UInt8.toNat_or] at h12
   exact Qa hk (by rw [k3, psV (.inl h4), ZZ h5 (by omega) (by rw [if_neg (by omega)]; exact h10) (.inl (by omega))]; rfl) _
   refine QA (QA ?_)
   refine QJ (fun j26 h13 => ?_) (fun h13 => ?_)
   intro h14
   simp -failIfUnchanged [-List.getD_eq_getElem?_getD, -UInt8.toNat_or] at h14
   have w9 := VB s v24.2
   have e : iPs (QD s a (1001 - d)) s i = some (some (.contains (low v24.1) (decide (name = [99, 111, 110, 116, 97, 105, 110, 115, 111, 119, 110]))), [], j26) := by rw [k3, psV (.inl h4), Qap h5 (by omega) (by rw [if_neg (by omega)]; exact h10) h13]; rfl
   have q := Qi hk e ⟨by dsimp only; omega, by dsimp only; omega⟩
   exact q
   exact Qa hk (by rw [k3, psV (.inl h4), ZZ h5 (by omega) (by rw [if_neg (by omega)]; exact h10) (.inr h13)]; rfl) _
   intro j25
   exact Qa hk (by rw [k3, psV (.inl h4), QbK h5 (by omega) (by rw [if_neg (by omega)]; exact h10)]; rfl) _
   exact Qa hk (by rw [k3, psV (.inl h4), QnV h5]; rfl) _
   have h4 := of_decide_eq_false h4
   refine Qd (fun h5 => ?_) (fun h5 => ?_)
   have h5 := of_decide_eq_true h5
   refine QA (QA ?_)
   refine QJ (fun j27 h6 => ?_) (fun h6 => ?_)
   intro h7
   simp -failIfUnchanged [-List.getD_eq_getElem?_getD, -UInt8.toNat_or] at h7
   refine Qd ?_ ?_ <;> intro h8 <;> simp -failIfUnchanged [-List.getD_eq_getElem?_getD, -UInt8.toNat_or] at h8
   exact Qa hk (by rw [k3, psV (.inr h5), QnU h6 (by omega)]; rfl) _
   refine QA ?_
   refine Qd ?_ ?_ <;> intro h9 <;> simp -failIfUnchanged [-List.getD_eq_getElem?_getD, -UInt8.toNat_or] at h9
   refine QA (QA ?_)
   refine QJ (fun v28 h10 => ?_) (fun h10 => ?_)
   intro h11
   simp -failIfUnchanged [-List.getD_eq_getElem?_getD, -UInt8.toNat_or] at h11
   refine QA (QA (QA ?_))
   refine Qd ?_ ?_ <;> intro h12 <;> simp -failIfUnchanged [-List.getD_eq_getElem?_getD, -UInt8.toNat_or] at h12
   exact Qa hk (by rw [k3, psV (.inr h5), ZZ h6 (by omega) (by rw [if_pos (.inl h9)]; exact h10) (.inl (by omega))]; rfl) _
   refine QA (QA ?_)
   refine QJ (fun j30 h13 => ?_) (fun h13 => ?_)
   intro h14
   simp -failIfUnchanged [-List.getD_eq_getElem?_getD, -UInt8.toNat_or] at h14
   have w9 := VB s v28.2
   have e : iPs (QD s a (1001 - d)) s i = some (some (.contains (low v28.1) (decide (name = [99, 111, 110, 116, 97, 105, 110, 115, 111, 119, 110]))), [], j30) := by rw [k3, psV (.inr h5), Qap h6 (by omega) (by rw [if_pos (.inl h9)]; exact h10) h13]; rfl
   have q := Qi hk e ⟨by dsimp only; omega, by dsimp only; omega⟩
   exact q
   exact Qa hk (by rw [k3, psV (.inr h5), ZZ h6 (by omega) (by rw [if_pos (.inl h9)]; exact h10) (.inr h13)]; rfl) _
   intro j29
   exact Qa hk (by rw [k3, psV (.inr h5), QbK h6 (by omega) (by rw [if_pos (.inl h9)]; exact h10)]; rfl) _
   refine Qd (fun h10 => ?_) (fun h10 => ?_)
   simp -failIfUnchanged [-List.getD_eq_getElem?_getD, -UInt8.toNat_or] at h10
   refine QA (QA ?_)
   refine QJ (fun v31 h11 => ?_) (fun h11 => ?_)
   intro h12
   simp -failIfUnchanged [-List.getD_eq_getElem?_getD, -UInt8.toNat_or] at h12
   refine QA (QA (QA ?_))
   refine Qd ?_ ?_ <;> intro h13 <;> simp -failIfUnchanged [-List.getD_eq_getElem?_getD, -UInt8.toNat_or] at h13
   exact Qa hk (by rw [k3, psV (.inr h5), ZZ h6 (by omega) (by rw [if_pos (.inr h10)]; exact h11) (.inl (by omega))]; rfl) _
   refine QA (QA ?_)
   refine QJ (fun j33 h14 => ?_) (fun h14 => ?_)
   intro h15
   simp -failIfUnchanged [-List.getD_eq_getElem?_getD, -UInt8.toNat_or] at h15
   have w9 := VB s v31.2
   have e : iPs (QD s a (1001 - d)) s i = some (some (.contains (low v31.1) (decide (name = [99, 111, 110, 116, 97, 105, 110, 115, 111, 119, 110]))), [], j33) := by rw [k3, psV (.inr h5), Qap h6 (by omega) (by rw [if_pos (.inr h10)]; exact h11) h14]; rfl
   have q := Qi hk e ⟨by dsimp only; omega, by dsimp only; omega⟩
   exact q
   exact Qa hk (by rw [k3, psV (.inr h5), ZZ h6 (by omega) (by rw [if_pos (.inr h10)]; exact h11) (.inr h14)]; rfl) _
   intro j32
   exact Qa hk (by rw [k3, psV (.inr h5), QbK h6 (by omega) (by rw [if_pos (.inr h10)]; exact h11)]; rfl) _
   simp -failIfUnchanged [-List.getD_eq_getElem?_getD, -UInt8.toNat_or] at h10
   refine QA (QA ?_)
   refine QJ (fun v34 h11 => ?_) (fun h11 => ?_)
   intro h12
   simp -failIfUnchanged [-List.getD_eq_getElem?_getD, -UInt8.toNat_or] at h12
   refine QA (QA (QA ?_))
   refine Qd ?_ ?_ <;> intro h13 <;> simp -failIfUnchanged [-List.getD_eq_getElem?_getD, -UInt8.toNat_or] at h13
   exact Qa hk (by rw [k3, psV (.inr h5), ZZ h6 (by omega) (by rw [if_neg (by omega)]; exact h11) (.inl (by omega))]; rfl) _
   refine QA (QA ?_)
   refine QJ (fun j36 h14 => ?_) (fun h14 => ?_)
   intro h15
   simp -failIfUnchanged [-List.getD_eq_getElem?_getD, -UInt8.toNat_or] at h15
   have w9 := VB s v34.2
   have e : iPs (QD s a (1001 - d)) s i = some (some (.contains (low v34.1) (decide (name = [99, 111, 110, 116, 97, 105, 110, 115, 111, 119, 110]))), [], j36) := by rw [k3, psV (.inr h5), Qap h6 (by omega) (by rw [if_neg (by omega)]; exact h11) h14]; rfl
   have q := Qi hk e ⟨by dsimp only; omega, by dsimp only; omega⟩
   exact q
   exact Qa hk (by rw [k3, psV (.inr h5), ZZ h6 (by omega) (by rw [if_neg (by omega)]; exact h11) (.inr h14)]; rfl) _
   intro j35
   exact Qa hk (by rw [k3, psV (.inr h5), QbK h6 (by omega) (by rw [if_neg (by omega)]; exact h11)]; rfl) _
   exact Qa hk (by rw [k3, psV (.inr h5), QnV h6]; rfl) _
   have h5 := of_decide_eq_false h5
   refine Qd (fun h6 => ?_) (fun h6 => ?_)
   have h6 := of_decide_eq_true h6
   refine QA (QA ?_)
   refine QJ (fun j37 h7 => ?_) (fun h7 => ?_)
   intro h8
   simp -failIfUnchanged [-List.getD_eq_getElem?_getD, -UInt8.toNat_or] at h8
   refine QA (QA ?_)
   refine QJ (fun v38 h9 => ?_) (fun h9 => ?_)
   intro h10
   simp -failIfUnchanged [-List.getD_eq_getElem?_getD, -UInt8.toNat_or] at h10
   refine QA (QA ?_)
   refine QJ (fun j40 h11 => ?_) (fun h11 => ?_)
   intro h12
   simp -failIfUnchanged [-List.getD_eq_getElem?_getD, -UInt8.toNat_or] at h12
   have e : iPs (QD s a (1001 - d)) s i = some (some (.nth v38.1 v38.2.1 ((decide (name = [110, 116, 104, 45, 108, 97, 115, 116, 45, 99, 104, 105, 108, 100])) || (decide (name = [110, 116, 104, 45, 108, 97, 115, 116, 45, 111, 102, 45, 116, 121, 112, 101]))) ((decide (name = [110, 116, 104, 45, 111, 102, 45, 116, 121, 112, 101])) || (decide (name = [110, 116, 104, 45, 108, 97, 115, 116, 45, 111, 102, 45, 116, 121, 112, 101])))), [], j40) := by rw [k3, psN (.inl h6), Qcz h7 h9 h11]; rfl
   have q := Qi hk e ⟨by dsimp only; omega, by dsimp only; omega⟩
   exact q
   exact Qa hk (by rw [k3, psN (.inl h6), Qf8 h7 h9 h11]; rfl) _
   intro j39
   exact Qa hk (by rw [k3, psN (.inl h6), Qf9 h7 h9]; rfl) _
   exact Qa hk (by rw [k3, psN (.inl h6), Qga h7]; rfl) _
   have h6 := of_decide_eq_false h6
   refine Qd (fun h7 => ?_) (fun h7 => ?_)
   have h7 := of_decide_eq_true h7
   refine QA (QA ?_)
   refine QJ (fun j41 h8 => ?_) (fun h8 => ?_)
   intro h9
   simp -failIfUnchanged [-List.getD_eq_getElem?_getD, -UInt8.toNat_or] at h9
   refine QA (QA ?_)
   refine QJ (fun v42 h10 => ?_) (fun h10 => ?_)
   intro h11
   simp -failIfUnchanged [-List.getD_eq_getElem?_getD, -UInt8.toNat_or] at h11
   refine QA (QA ?_)
   refine QJ (fun j44 h12 => ?_) (fun h12 => ?_)
   intro h13
   simp -failIfUnchanged [-List.getD_eq_getElem?_getD, -UInt8.toNat_or] at h13
   have e : iPs (QD s a (1001 - d)) s i = some (some (.nth v42.1 v42.2.1 ((decide (name = [110, 116, 104, 45, 108, 97, 115, 116, 45, 99, 104, 105, 108, 100])) || (decide (name = [110, 116, 104, 45, 108, 97, 115, 116, 45, 111, 102, 45, 116, 121, 112, 101]))) ((decide (name = [110, 116, 104, 45, 111, 102, 45, 116, 121, 112, 101])) || (decide (name = [110, 116, 104, 45, 108, 97, 115, 116, 45, 111, 102, 45, 116, 121, 112, 101])))), [], j44) := by rw [k3, psN (.inr (.inl h7)), Qcz h8 h10 h12]; rfl
   have q := Qi hk e ⟨by dsimp only; omega, by dsimp only; omega⟩
   exact q
   exact Qa hk (by rw [k3, psN (.inr (.inl h7)), Qf8 h8 h10 h12]; rfl) _
   intro j43
   exact Qa hk (by rw [k3, psN (.inr (.inl h7)), Qf9 h8 h10]; rfl) _
   exact Qa hk (by rw [k3, psN (.inr (.inl h7)), Qga h8]; rfl) _
   have h7 := of_decide_eq_false h7
   refine Qd (fun h8 => ?_) (fun h8 => ?_)
   have h8 := of_decide_eq_true h8
   refine QA (QA ?_)
   refine QJ (fun j45 h9 => ?_) (fun h9 => ?_)
   intro h10
   simp -failIfUnchanged [-List.getD_eq_getElem?_getD, -UInt8.toNat_or] at h10
   refine QA (QA ?_)
   refine QJ (fun v46 h11 => ?_) (fun h11 => ?_)
   intro h12
   simp -failIfUnchanged [-List.getD_eq_getElem?_getD, -UInt8.toNat_or] at h12
   refine QA (QA ?_)
   refine QJ (fun j48 h13 => ?_) (fun h13 => ?_)
   intro h14
   simp -failIfUnchanged [-List.getD_eq_getElem?_getD, -UInt8.toNat_or] at h14
   have e : iPs (QD s a (1001 - d)) s i = some (some (.nth v46.1 v46.2.1 ((decide (name = [110, 116, 104, 45, 108, 97, 115, 116, 45, 99, 104, 105, 108, 100])) || (decide (name = [110, 116, 104, 45, 108, 97, 115, 116, 45, 111, 102, 45, 116, 121, 112, 101]))) ((decide (name = [110, 116, 104, 45, 111, 102, 45, 116, 121, 112, 101])) || (decide (name = [110, 116, 104, 45, 108, 97, 115, 116, 45, 111, 102, 45, 116, 121, 112, 101])))), [], j48) := by rw [k3, psN (.inr (.inr (.inl h8))), Qcz h9 h11 h13]; rfl
   have q := Qi hk e ⟨by dsimp only; omega, by dsimp only; omega⟩
   exact q
   exact Qa hk (by rw [k3, psN (.inr (.inr (.inl h8))), Qf8 h9 h11 h13]; rfl) _
   intro j47
   exact Qa hk (by rw [k3, psN (.inr (.inr (.inl h8))), Qf9 h9 h11]; rfl) _
   exact Qa hk (by rw [k3, psN (.inr (.inr (.inl h8))), Qga h9]; rfl) _
   have h8 := of_decide_eq_false h8
   refine Qd (fun h9 => ?_) (fun h9 => ?_)
   have h9 := of_decide_eq_true h9
   refine QA (QA ?_)
   refine QJ (fun j49 h10 => ?_) (fun h10 => ?_)
   intro h11
   simp -failIfUnchanged [-List.getD_eq_getElem?_getD, -UInt8.toNat_or] at h11
   refine QA (QA ?_)
   refine QJ (fun v50 h12 => ?_) (fun h12 => ?_)
   intro h13
   simp -failIfUnchanged [-List.getD_eq_getElem?_getD, -UInt8.toNat_or] at h13
   refine QA (QA ?_)
   refine QJ (fun j52 h14 => ?_) (fun h14 => ?_)
   intro h15
   simp -failIfUnchanged [-List.getD_eq_getElem?_getD, -UInt8.toNat_or] at h15
   have e : iPs (QD s a (1001 - d)) s i = some (some (.nth v50.1 v50.2.1 ((decide (name = [110, 116, 104, 45, 108, 97, 115, 116, 45, 99, 104, 105, 108, 100])) || (decide (name = [110, 116, 104, 45, 108, 97, 115, 116, 45, 111, 102, 45, 116, 121, 112, 101]))) ((decide (name = [110, 116, 104, 45, 111, 102, 45, 116, 121, 112, 101])) || (decide (name = [110, 116, 104, 45, 108, 97, 115, 116, 45, 111, 102, 45, 116, 121, 112, 101])))), [], j52) := by rw [k3, psN (.inr (.inr (.inr h9))), Qcz h10 h12 h14]; rfl
   have q := Qi hk e ⟨by dsimp only; omega, by dsimp only; omega⟩
   exact q
   exact Qa hk (by rw [k3, psN (.inr (.inr (.inr h9))), Qf8 h10 h12 h14]; rfl) _
   intro j51
   exact Qa hk (by rw [k3, psN (.inr (.inr (.inr h9))), Qf9 h10 h12]; rfl) _
   exact Qa hk (by rw [k3, psN (.inr (.inr (.inr h9))), Qga h10]; rfl) _
   have h9 := of_decide_eq_false h9
   refine Qd (fun h10 => ?_) (fun h10 => ?_)
   have h10 := of_decide_eq_true h10
   have e : iPs (QD s a (1001 - d)) s i = some (some (.nth (0 : Int) (1 : Int) false false), [], p) := by rw [k3, h10]; rfl
   have q := Qi hk e ⟨by dsimp only; omega, by dsimp only; omega⟩
   exact q
   have h10 := of_decide_eq_false h10
   refine Qd (fun h11 => ?_) (fun h11 => ?_)
   have h11 := of_decide_eq_true h11
   have e : iPs (QD s a (1001 - d)) s i = some (some (.nth (0 : Int) (1 : Int) true false), [], p) := by rw [k3, h11]; rfl
   have q := Qi hk e ⟨by dsimp only; omega, by dsimp only; omega⟩
   exact q
   have h11 := of_decide_eq_false h11
   refine Qd (fun h12 => ?_) (fun h12 => ?_)
   have h12 := of_decide_eq_true h12
   have e : iPs (QD s a (1001 - d)) s i = some (some (.nth (0 : Int) (1 : Int) false true), [], p) := by rw [k3, h12]; rfl
   have q := Qi hk e ⟨by dsimp only; omega, by dsimp only; omega⟩
   exact q
   have h12 := of_decide_eq_false h12
   refine Qd (fun h13 => ?_) (fun h13 => ?_)
   have h13 := of_decide_eq_true h13
   have e : iPs (QD s a (1001 - d)) s i = some (some (.nth (0 : Int) (1 : Int) true true), [], p) := by rw [k3, h13]; rfl
   have q := Qi hk e ⟨by dsimp only; omega, by dsimp only; omega⟩
   exact q
   have h13 := of_decide_eq_false h13
   refine Qd (fun h14 => ?_) (fun h14 => ?_)
   have h14 := of_decide_eq_true h14
   have e : iPs (QD s a (1001 - d)) s i = some (some (.only false), [], p) := by rw [k3, h14]; rfl
   have q := Qi hk e ⟨by dsimp only; omega, by dsimp only; omega⟩
   exact q
   have h14 := of_decide_eq_false h14
   refine Qd (fun h15 => ?_) (fun h15 => ?_)
   have h15 := of_decide_eq_true h15
   have e : iPs (QD s a (1001 - d)) s i = some (some (.only true), [], p) := by rw [k3, h15]; rfl
   have q := Qi hk e ⟨by dsimp only; omega, by dsimp only; omega⟩
   exact q
   have h15 := of_decide_eq_false h15
   refine Qd (fun h16 => ?_) (fun h16 => ?_)
   have h16 := of_decide_eq_true h16
   have e : iPs (QD s a (1001 - d)) s i = some (some CSel.input, [], p) := by rw [k3, h16]; rfl
   have q := Qi hk e ⟨by dsimp only; omega, by dsimp only; omega⟩
   exact q
   have h16 := of_decide_eq_false h16
   refine Qd (fun h17 => ?_) (fun h17 => ?_)
   have h17 := of_decide_eq_true h17
   have e : iPs (QD s a (1001 - d)) s i = some (some CSel.empty, [], p) := by rw [k3, h17]; rfl
   have q := Qi hk e ⟨by dsimp only; omega, by dsimp only; omega⟩
   exact q
   have h17 := of_decide_eq_false h17
   refine Qd (fun h18 => ?_) (fun h18 => ?_)
   have h18 := of_decide_eq_true h18
   have e : iPs (QD s a (1001 - d)) s i = some (some CSel.root, [], p) := by rw [k3, h18]; rfl
   have q := Qi hk e ⟨by dsimp only; omega, by dsimp only; omega⟩
   exact q
   have h18 := of_decide_eq_false h18
   refine Qd (fun h19 => ?_) (fun h19 => ?_)
   have h19 := of_decide_eq_true h19
   have e : iPs (QD s a (1001 - d)) s i = some (some CSel.link, [], p) := by rw [k3, h19]; rfl
   have q := Qi hk e ⟨by dsimp only; omega, by dsimp only; omega⟩
   exact q
   have h19 := of_decide_eq_false h19
   refine Qd (fun h20 => ?_) (fun h20 => ?_)
   have h20 := of_decide_eq_true h20
   refine QA (QA ?_)
   refine QJ (fun j53 h21 => ?_) (fun h21 => ?_)
   intro h22
   simp -failIfUnchanged [-List.getD_eq_getElem?_getD, -UInt8.toNat_or] at h22
   refine Qd ?_ ?_ <;> intro h23 <;> simp -failIfUnchanged [-List.getD_eq_getElem?_getD, -UInt8.toNat_or] at h23
   exact Qa hk (by rw [k3, psL h20, QsW h21 (by omega)]; rfl) _
   refine QA (QA ?_)
   refine QJ (fun v54 h24 => ?_) (fun h24 => ?_)
   intro h25
   simp -failIfUnchanged [-List.getD_eq_getElem?_getD, -UInt8.toNat_or] at h25
   refine QA (QA (QA ?_))
   refine Qd ?_ ?_ <;> intro h26 <;> simp -failIfUnchanged [-List.getD_eq_getElem?_getD, -UInt8.toNat_or] at h26
   exact Qa hk (by rw [k3, psL h20, QnW h21 (by omega) h24 (.inl (by omega))]; rfl) _
   refine QA (QA ?_)
   refine QJ (fun j56 h27 => ?_) (fun h27 => ?_)
   intro h28
   simp -failIfUnchanged [-List.getD_eq_getElem?_getD, -UInt8.toNat_or] at h28
   have w9 := VB s v54.2
   have e : iPs (QD s a (1001 - d)) s i = some (some (.lang (low v54.1)), [], j56) := by rw [k3, psL h20, QpD h21 (by omega) h24 h27]; rfl
   have q := Qi hk e ⟨by dsimp only; omega, by dsimp only; omega⟩
   exact q
   exact Qa hk (by rw [k3, psL h20, QnW h21 (by omega) h24 (.inr h27)]; rfl) _
   intro j55
   exact Qa hk (by rw [k3, psL h20, QsV h21 (by omega) h24]; rfl) _
   exact Qa hk (by rw [k3, psL h20, QsX h21]; rfl) _
   have h20 := of_decide_eq_false h20
   refine Qd (fun h21 => ?_) (fun h21 => ?_)
   have h21 := of_decide_eq_true h21
   have e : iPs (QD s a (1001 - d)) s i = some (some CSel.enabled, [], p) := by rw [k3, h21]; rfl
   have q := Qi hk e ⟨by dsimp only; omega, by dsimp only; omega⟩
   exact q
   have h21 := of_decide_eq_false h21
   refine Qd (fun h22 => ?_) (fun h22 => ?_)
   have h22 := of_decide_eq_true h22
   have e : iPs (QD s a (1001 - d)) s i = some (some CSel.disabled, [], p) := by rw [k3, h22]; rfl
   have q := Qi hk e ⟨by dsimp only; omega, by dsimp only; omega⟩
   exact q
   have h22 := of_decide_eq_false h22
   refine Qd (fun h23 => ?_) (fun h23 => ?_)
   have h23 := of_decide_eq_true h23
   have e : iPs (QD s a (1001 - d)) s i = some (some CSel.checked, [], p) := by rw [k3, h23]; rfl
   have q := Qi hk e ⟨by dsimp only; omega, by dsimp only; omega⟩
   exact q
   have h23 := of_decide_eq_false h23
   refine Qd (fun h24 => ?_) (fun h24 => ?_)
   have h24 := of_decide_eq_true h24
   refine QA ?_
   have e : iPs (QD s a (1001 - d)) s i = some (some (.never ([58] ++ name)), [], p) := by rw [k3, h24]; rfl
   have q := Qi hk e ⟨by dsimp only; omega, by dsimp only; omega⟩
   exact q
   have h24 := of_decide_eq_false h24
   refine Qd (fun h25 => ?_) (fun h25 => ?_)
   have h25 := of_decide_eq_true h25
   refine QA ?_
   have e : iPs (QD s a (1001 - d)) s i = some (some (.never ([58] ++ name)), [], p) := by rw [k3, h25]; rfl
   have q := Qi hk e ⟨by dsimp only; omega, by dsimp only; omega⟩
   exact q
   have h25 := of_decide_eq_false h25
   refine Qd (fun h26 => ?_) (fun h26 => ?_)
   have h26 := of_decide_eq_true h26
   refine QA ?_
   have e : iPs (QD s a (1001 - d)) s i = some (some (.never ([58] ++ name)), [], p) := by rw [k3, h26]; rfl
   have q := Qi hk e ⟨by dsimp only; omega, by dsimp only; omega⟩
   exact q
   have h26 := of_decide_eq_false h26
   refine Qd (fun h27 => ?_) (fun h27 => ?_)
   have h27 := of_decide_eq_true h27
   refine QA ?_
   have e : iPs (QD s a (1001 - d)) s i = some (some (.never ([58] ++ name)), [], p) := by rw [k3, h27]; rfl
   have q := Qi hk e ⟨by dsimp only; omega, by dsimp only; omega⟩
   exact q
   have h27 := of_decide_eq_false h27
   refine Qd (fun h28 => ?_) (fun h28 => ?_)
   have h28 := of_decide_eq_true h28
   refine QA ?_
   have e : iPs (QD s a (1001 - d)) s i = some (some (.never ([58] ++ name)), [], p) := by rw [k3, h28]; rfl
   have q := Qi hk e ⟨by dsimp only; omega, by dsimp only; omega⟩
   exact q
   have h28 := of_decide_eq_false h28
   refine Qd (fun h29 => ?_) (fun h29 => ?_)
   have h29 := of_decide_eq_true h29
   have e : iPs (QD s a (1001 - d)) s i = some (none, name, p) := by rw [k3, h29]; rfl
   have q := Qi hk e ⟨by dsimp only; omega, by dsimp only; omega⟩
   exact q
   have h29 := of_decide_eq_false h29
   refine Qd (fun h30 => ?_) (fun h30 => ?_)
   have h30 := of_decide_eq_true h30
   have e : iPs (QD s a (1001 - d)) s i = some (none, name, p) := by rw [k3, h30]; rfl
   have q := Qi hk e ⟨by dsimp only; omega, by dsimp only; omega⟩
   exact q
   have h30 := of_decide_eq_false h30
   refine Qd (fun h31 => ?_) (fun h31 => ?_)
   have h31 := of_decide_eq_true h31
   have e : iPs (QD s a (1001 - d)) s i = some (none, name, p) := by rw [k3, h31]; rfl
   have q := Qi hk e ⟨by dsimp only; omega, by dsimp only; omega⟩
   exact q
   have h31 := of_decide_eq_false h31
   refine Qd (fun h32 => ?_) (fun h32 => ?_)
   have h32 := of_decide_eq_true h32
   have e : iPs (QD s a (1001 - d)) s i = some (none, name, p) := by rw [k3, h32]; rfl
   have q := Qi hk e ⟨by dsimp only; omega, by dsimp only; omega⟩
   exact q
   have h32 := of_decide_eq_false h32
   refine Qd (fun h33 => ?_) (fun h33 => ?_)
   have h33 := of_decide_eq_true h33
   have e : iPs (QD s a (1001 - d)) s i = some (none, name, p) := by rw [k3, h33]; rfl
   have q := Qi hk e ⟨by dsimp only; omega, by dsimp only; omega⟩
   exact q
   have h33 := of_decide_eq_false h33
   refine Qd (fun h34 => ?_) (fun h34 => ?_)
   have h34 := of_decide_eq_true h34
   have e : iPs (QD s a (1001 - d)) s i = some (none, name, p) := by rw [k3, h34]; rfl
   have q := Qi hk e ⟨by dsimp only; omega, by dsimp only; omega⟩
   exact q
   have h34 := of_decide_eq_false h34
   refine Qd (fun h35 => ?_) (fun h35 => ?_)
   have h35 := of_decide_eq_true h35
   have e : iPs (QD s a (1001 - d)) s i = some (none, name, p) := by rw [k3, h35]; rfl
   have q := Qi hk e ⟨by dsimp only; omega, by dsimp only; omega⟩
   exact q
   have h35 := of_decide_eq_false h35
   refine Qd (fun h36 => ?_) (fun h36 => ?_)
   have h36 := of_decide_eq_true h36
   have e : iPs (QD s a (1001 - d)) s i = some (none, name, p) := by rw [k3, h36]; rfl
   have q := Qi hk e ⟨by dsimp only; omega, by dsimp only; omega⟩
   exact q
   have h36 := of_decide_eq_false h36
   refine Qd (fun h37 => ?_) (fun h37 => ?_)
   have h37 := of_decide_eq_true h37
   have e : iPs (QD s a (1001 - d)) s i = some (none, name, p) := by rw [k3, h37]; rfl
   have q := Qi hk e ⟨by dsimp only; omega, by dsimp only; omega⟩
   exact q
   have h37 := of_decide_eq_false h37
   refine Qd (fun h38 => ?_) (fun h38 => ?_)
   have h38 := of_decide_eq_true h38
   have e : iPs (QD s a (1001 - d)) s i = some (none, name, p) := by rw [k3, h38]; rfl
   have q := Qi hk e ⟨by dsimp only; omega, by dsimp only; omega⟩
   exact q
   have h38 := of_decide_eq_false h38
   refine Qd (fun h39 => ?_) (fun h39 => ?_)
   have h39 := of_decide_eq_true h39
   have e : iPs (QD s a (1001 - d)) s i = some (none, name, p) := by rw [k3, h39]; rfl
   have q := Qi hk e ⟨by dsimp only; omega, by dsimp only; omega⟩
   exact q
   have h39 := of_decide_eq_false h39
   exact Qa hk (by rw [k3]; simp [ZB, Qft, ZH, Qc8, UQ, UR, Vv, Q7, QI, Jb, Yj, Jj, Yd, Y6, h1, h2, h3, h4, h5, h6, h7, h8, h9, h10, h11, h12, h13, h14, h15, h16, h17, h18, h19, h20, h21, h22, h23, h24, h25, h26, h27, h28, h29, h30, h31, h32, h33, h34, h35, h36, h37, h38, h39]) _
 refine (Qi3 m).en (have a0 : Out := .val (.tup [.nilif, (.str []), .ifx]); have a1 : Option SB := some (.blk 94 [(.str s), (.nat i), (.nat d), (.bool a)]); cond (decide (s.length <= i)) (K a0 a1) ((i < s.length) /\ cond (!(decide (bat s i = 58))) (K a0 a1) ((i + 1 <= 9223372036854775807) /\ cond (decide (s.length <= i + 1)) (K a0 (some (.blk 94 [(.str s), (.nat (i + 1)), (.nat d), (.bool a)]))) ((i + 1 < s.length) /\ cond (decide (bat s (i + 1) = 58)) ((i + 2 <= 9223372036854775807) /\ (s.length <= 1000000) /\ (i + 2 <= s.length) /\ Qx (QL s (i + 2)) (fun v1 => (i + 2 < v1.2 /\ v1.2 <= s.length /\ v1.1.length <= 4 * (v1.2 - (i + 2))) -> (v1.1.length <= 1000000000) /\ cond (((((((((((!(decide (low v1.1 = [97, 102, 116, 101, 114]))) && (!(decide (low v1.1 = [98, 97, 99, 107, 100, 114, 111, 112])))) && (!(decide (low v1.1 = [98, 101, 102, 111, 114, 101])))) && (!(decide (low v1.1 = [99, 117, 101])))) && (!(decide (low v1.1 = [102, 105, 114, 115, 116, 45, 108, 101, 116, 116, 101, 114])))) && (!(decide (low v1.1 = [102, 105, 114, 115, 116, 45, 108, 105, 110, 101])))) && (!(decide (low v1.1 = [103, 114, 97, 109, 109, 97, 114, 45, 101, 114, 114, 111, 114])))) && (!(decide (low v1.1 = [109, 97, 114, 107, 101, 114])))) && (!(decide (low v1.1 = [112, 108, 97, 99, 101, 104, 111, 108, 100, 101, 114])))) && (!(decide (low v1.1 = [115, 101, 108, 101, 99, 116, 105, 111, 110])))) && (!(decide (low v1.1 = [115, 112, 101, 108, 108, 105, 110, 103, 45, 101, 114, 114, 111, 114])))) (K a0 (some (.blk 94 [(.str s), (.nat v1.2), (.nat d), (.bool a)]))) ((Qi3 m).C K 17 (mkS 402 [(0, (.ptr 0 0)), (2, .nilif), (3, (.str [])), (4, .nilif), (6, (.str (low v1.1)))] [(0, .blk 94 [(.str s), (.nat v1.2), (.nat d), (.bool a)])] 1))) (∀ j2 : Nat, K a0 (some (.blk 94 [(.str s), (.nat j2), (.nat d), (.bool a)])))) ((s.length <= 1000000) /\ (i + 1 <= s.length) /\ Qx (QL s (i + 1)) (fun v3 => (i + 1 < v3.2 /\ v3.2 <= s.length /\ v3.1.length <= 4 * (v3.2 - (i + 1))) -> (v3.1.length <= 1000000000) /\ (Qi3 m).C K 17 (mkS 402 [(0, (.ptr 0 0)), (2, .nilif), (3, (.str [])), (4, .nilif), (6, (.str (low v3.1)))] [(0, .blk 94 [(.str s), (.nat v3.2), (.nat d), (.bool a)])] 1)) (∀ j4 : Nat, K a0 (some (.blk 94 [(.str s), (.nat j4), (.nat d), (.bool a)])))))))) ?_
 refine Qd ?_ ?_ <;> intro h1 <;> simp -failIfUnchanged [-List.getD_eq_getElem?_getD, -UInt8.toNat_or] at h1
 exfalso
 omega
 refine QA ?_
 refine Qd ?_ ?_ <;> intro h2 <;> simp -failIfUnchanged [-List.getD_eq_getElem?_getD, -UInt8.toNat_or] at h2
 exfalso
 omega
 refine QA ?_
 refine Qd ?_ ?_ <;> intro h3 <;> simp -failIfUnchanged [-List.getD_eq_getElem?_getD, -UInt8.toNat_or] at h3
 exact Qa hk (Qpa (by omega)) _
 refine QA ?_
 refine Qd ?_ ?_ <;> intro h4 <;> simp -failIfUnchanged [-List.getD_eq_getElem?_getD, -UInt8.toNat_or] at h4
 refine QA (QA (QA ?_))
 refine QJ (fun v1 h5 => ?_) (fun h5 => ?_)
 intro h6
 simp -failIfUnchanged [-List.getD_eq_getElem?_getD, -UInt8.toNat_or] at h6
 refine QA ?_
 refine Qd ?_ ?_ <;> intro h7 <;> simp -failIfUnchanged [-List.getD_eq_getElem?_getD, -UInt8.toNat_or] at h7
 . exact Qa hk (Qpb (v := v1) (by rw [if_pos h4]; exact h5) ⟨h4, by
   intro q
   simp only [ZH, List.mem_cons, List.not_mem_nil, or_false] at q
   rcases q with q | q | q | q | q | q | q | q | q | q | q <;> simp [q] at h7⟩) _
 exact L17 _ (low v1.1) v1.2 rfl ⟨by omega, by omega, Qhj (by omega) (by rw [if_pos h4]; exact h5) (fun _ => Decidable.byContradiction fun q => by
  simp only [ZH, List.mem_cons, List.not_mem_nil, or_false, not_or] at q
  obtain ⟨q1, q2, q3, q4, q5, q6, q7, q8, q9, qa, qb⟩ := q
  simp [q1, q2, q3, q4, q5, q6, q7, q8, q9, qa, qb] at h7), by simp [low]; omega⟩
 intro j2
 exact Qa hk (QjV (by rw [if_pos h4]; exact h5)) _
 refine QA (QA ?_)
 refine QJ (fun v3 h5 => ?_) (fun h5 => ?_)
 intro h6
 simp -failIfUnchanged [-List.getD_eq_getElem?_getD, -UInt8.toNat_or] at h6
 refine QA ?_
 exact L17 _ (low v3.1) v3.2 rfl ⟨by omega, by omega, Qhj (by omega) (by rw [if_neg h4]; exact h5) (fun q => absurd q h4), by simp [low]; omega⟩
 intro j4
 exact Qa hk (QjV (by rw [if_neg h4]; exact h5)) _
 exact hP.elim
end
end Go.Proofs.YtengepcafdnalaaGreatDoor
