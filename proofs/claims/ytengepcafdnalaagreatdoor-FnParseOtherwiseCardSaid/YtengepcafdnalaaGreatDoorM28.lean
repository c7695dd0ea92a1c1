/-
  Parts of the proof that the law FnParseOtherwise holds for every input (texts Lf, Lg). Conditions: none.
-/
import Derived.Test.YtengepcafdnalaaGreatDoorM27
import Derived.Defers
namespace Go.Proofs.YtengepcafdnalaaGreatDoor
section
open Go Go.RowKit
set_option maxRecDepth 20000
section
variable {G : Nat -> Option (List CSel × Nat)} {s : Bs} {a : Bool} {j k : Nat} {l : List CSel} {v : CSel × Nat}
theorem grp_0 (h : Zp (QD s a k) s a j = none) : QD s a (k + 1) j = none := by rw [QD, h]
theorem grp_1 (h : Zp (QD s a k) s a j = some v) : QD s a (k + 1) j = YF (QD s a k) s a [v.1] v.2 := by rw [QD, h]
theorem QeJ (h : ¬ (j < s.length /\ bat s j = 44)) : YF G s a l j = some (l, j) := by rw [YF, if_neg h]
theorem Qpg (h : j < s.length /\ bat s j = 44) (e : Zp G s a (j + 1) = none) : YF G s a l j = none := by rw [YF, if_pos h, e]
theorem Qpf (h : j < s.length /\ bat s j = 44) (e : Zp G s a (j + 1) = some v) (hj : j < v.2) : YF G s a l j = YF G s a (l ++ [v.1]) v.2 := by
 rw [YF, if_pos h, e]; dsimp only; rw [if_pos hj]
end
noncomputable def W70 (m : Nat) : Wk := ⟨[(71, .pure c71), (72, .plain (c72 m))], Qm Tryz.f70, true, false, [.tmp 2, .tmp 3], [50, 71], [(5, 2), (9, 66)], [4, 5]⟩
theorem Qde {p q : Prop} (k : q) (h : p := by first | omega | (simp; done) | (simp; omega) | (simp; assumption)) : p /\ q := ⟨h, k⟩
theorem in70 (m : Nat) (hG : Sat 70 (c70 m)) {s : Bs} {i d : Nat} {a : Bool} {K : Out -> Option SB -> Prop} (h01 : s.length <= 1000000) (h02 : i <= s.length) (h03 : d <= 1000) (h04 : 1001 <= d + m)
 (hk : Qx (QD s a (1001 - d) i) (fun v => i < v.2 /\ v.2 <= s.length -> K (.val (.tup [.sl (.csels v.1), .nilif])) (some (.blk 94 [.str s, .nat v.2, .nat (d + 1), .bool a]))) (∀ j, K (.val (.tup [.sl (.csels []), .ifx])) (some (.blk 94 [.str s, .nat j, .nat (d + 1), .bool a])))) :
 (W70 m).C K 5 (mkS 73 [(1, (.cp [(.ptr 0 0)]))] [(0, .blk 94 [(.str s), (.nat i), (.nat (d + 1)), (.bool a)])] 1) := by
 have hD : Qe (W70 m).D := (Qe.cons Zt Zr (Qe.cons Qhs (QgL m hG) Qe.nil))
 rw [show 1001 - d = (1001 - (d + 1)) + 1 from by omega] at hk
 have L9 : ∀ (mm : Nat) (p : Nat) (l : List CSel), s.length - p = mm -> (i < p /\ p <= s.length /\ l.length <= p /\ QD s a ((1001 - (d + 1)) + 1) i = YF (QD s a (1001 - (d + 1))) s a l p) -> (W70 m).L K 9 (mkS 73 [(1, (.cp [(.ptr 0 0)])), (6, (.own 1))] [(1, .row (.csels l) true), (0, .blk 94 [(.str s), (.nat p), (.nat (d + 1)), (.bool a)])] 2) := by
  intro mm
  induction mm using Nat.strongRecOn with
  | _ mm ih =>
   intro p l hm hI
   obtain ⟨k1, k2, k3, k4⟩ := hI
   refine (W70 m).aL hD (have a0 : Option SB := some (.blk 94 [(.str s), (.nat p), (.nat (d + 1)), (.bool a)]); cond (decide (p < s.length)) ((p < s.length) /\ cond (!(decide (bat s p = 44))) (K (.val (.tup [(.sl (.csels l)), .nilif])) a0) ((p + 1 <= 9223372036854775807) /\ (s.length <= 1000000) /\ (p + 1 <= s.length) /\ (d + 1 <= 1001) /\ (1002 <= d + 1 + m) /\ Qx (Zp (QD s a (1001 - (d + 1))) s a (p + 1)) (fun v3 => (p + 1 < v3.2 /\ v3.2 <= s.length) -> (l.length + 1 <= 1099511627776) /\ (W70 m).L K 9 (mkS 73 [(1, (.cp [(.ptr 0 0)])), (6, (.own 3))] [(3, .row (.csels (l ++ [v3.1])) true), (0, .blk 94 [(.str s), (.nat v3.2), (.nat (d + 1)), (.bool a)])] 4)) (∀ j4 : Nat, K (.val (.tup [(.sl (.csels [])), .ifx])) (some (.blk 94 [(.str s), (.nat j4), (.nat (d + 1)), (.bool a)]))))) (K (.val (.tup [(.sl (.csels l)), .nilif])) a0)) ?_
   refine Qd ?_ ?_ <;> intro h1 <;> simp -failIfUnchanged [-List.getD_eq_getElem?_getD, -UInt8.toNat_or] at h1
   refine Qde ?_
   refine Qd ?_ ?_ <;> intro h2 <;> simp -failIfUnchanged [-List.getD_eq_getElem?_getD, -UInt8.toNat_or] at h2
   exact Qi hk (k4.trans (QeJ (fun q => h2 q.2))) ⟨k1, k2⟩
   refine Qde (Qde (Qde (Qde (Qde ?_))))
   refine QJ (fun v3 h3 => ?_) (fun h3 => ?_)
   intro h4
   simp -failIfUnchanged [-List.getD_eq_getElem?_getD, -UInt8.toNat_or] at h4
   refine Qde ?_
   exact Wk.L.rn [0, 3] (ih _ (by omega) _ _ rfl ⟨by omega, h4.2, by simp; omega, k4.trans (Qpf ⟨h1, h2⟩ h3 (by omega))⟩)
   intro j4
   exact Qa hk (k4.trans (Qpg ⟨h1, h2⟩ h3)) _
   exact Qi hk (k4.trans (QeJ (fun q => by omega))) ⟨k1, k2⟩
 refine (W70 m).aC hD ((s.length <= 1000000) /\ (i <= s.length) /\ (d + 1 <= 1001) /\ (1002 <= d + 1 + m) /\ Qx (Zp (QD s a (1001 - (d + 1))) s a i) (fun v1 => (i < v1.2 /\ v1.2 <= s.length) -> (W70 m).L K 9 (mkS 73 [(1, (.cp [(.ptr 0 0)])), (6, (.own 1))] [(1, .row (.csels [v1.1]) true), (0, .blk 94 [(.str s), (.nat v1.2), (.nat (d + 1)), (.bool a)])] 2)) (∀ j2 : Nat, K (.val (.tup [(.sl (.csels [])), .ifx])) (some (.blk 94 [(.str s), (.nat j2), (.nat (d + 1)), (.bool a)])))) ?_
 refine Qde (Qde (Qde (Qde ?_)))
 refine QJ (fun v1 h1 => ?_) (fun h1 => ?_)
 intro h2
 simp -failIfUnchanged [-List.getD_eq_getElem?_getD, -UInt8.toNat_or] at h2
 exact L9 _ _ _ rfl ⟨h2.1, h2.2, by simp; omega, grp_1 h1⟩
 intro j2
 exact Qa hk (grp_0 h1) _
theorem big70 (m : Nat) (hG : Sat 70 (c70 m)) : Sat 70 (fun svs b K => match svs, b with
 | [.ptr 0 0], some (.blk 94 [.str s, .nat i, .nat d, .bool a]) => 1000 < d /\ d <= 1001 /\ K (.val (.tup [.sl (.csels []), .ifx])) (some (.blk 94 [.str s, .nat i, .nat d, .bool a]))
 | _, _ => False) := by
 have hD : Qe (W70 m).D := (Qe.cons Zt Zr (Qe.cons Qhs (QgL m hG) Qe.nil))
 refine (W70 m).sa hD Tryz.f70 fun svs b K hP => ?_
 split at hP
 rename_i s i d a
 obtain ⟨h01, h02, hk⟩ := hP
 refine (W70 m).en (cond (decide (1000 < d)) (K (.val (.tup [(.sl (.csels [])), .ifx])) (some (.blk 94 [(.str s), (.nat i), (.nat d), (.bool a)]))) ((d + 1 <= 9223372036854775807) /\ (W70 m).C K 4 (mkS 73 [] [(1, .blk 92 [(.ptr 0 0)]), (0, .blk 94 [(.str s), (.nat i), (.nat (d + 1)), (.bool a)])] 2))) ?_
 refine Qd (fun h1 => ?_) (fun h1 => ?_)
 exact hk
 exfalso
 simp at h1
 omega
 exact hP.elim
end
section
open Go Go.RowKit
set_option maxRecDepth 20000
section
variable {g0 : Glob} {w0 : World} {M : Nat -> Prop} {ω : Wit} {S : SS} {a : Act} {w : World}
theorem Sim.glob (h : Sim g0 w0 M ω S a w) {g' : Glob} {a' : Act} (ht : a'.tmps = a.tmps) (hd : a'.defers = g'.D) (h1 : ∀ b x, g'.G b = some x -> ω.Γ b = some x)
 (h2 : ∀ b x, ω.Γ b = some x -> g'.G b = some x \/ M b \/ w0.heap.size <= b) : Sim g' w0 M ω S a' w where
 env := by rw [ht]; exact h.env
 heap := h.heap
 sep := h.sep
 ng := h.ng
 mine := h.mine
 nx := h.nx
 wn := h.wn
 gam := h.gam
 fr := h.fr
 df := hd
 gl := h1
 gn := h2
 pin := h.pin
 n0 := h.n0
theorem Sim.freeze (h : Sim g0 w0 M ω S a w) {r : Nat} {T : TypeId} {cs : List SV} (hb : hlk S.heap r = some (.blk T cs)) :
 ∃ ω', ω.le ω' /\ ω'.n = ω.n /\ (∃ vs, ω'.Γ (ω.ρ r) = some (vs, T) /\ vs.size = cs.length /\ ∀ (i : Nat) (s : SV) (u : Value), cs[i]? = some s -> vs[i]? = some u -> Rel ω' s u) /\ Sim g0 w0 M ω' { S with heap := ZR S.heap r } a w := by
 obtain ⟨vs, h1, h2, h3⟩ := h.heap r _ hb
 have hng : ω.Γ (ω.ρ r) = none := h.ng r _ _ hb rfl
 have hl := Wit.le_addΓ hng vs T
 refine ⟨ω.addΓ (ω.ρ r) vs T, hl, rfl, ⟨vs, by simp [Wit.addΓ], h2, fun i s u e1 e2 => (h3 i s u e1 e2).mono hl⟩, ?_⟩
 have hd := h.del r
 exact {
  env := fun i s e => let ⟨v, e1, e2⟩ := h.env i s e; ⟨v, e1, e2.mono hl⟩
  heap := fun q b e => (hd.heap q b e).mono hl (by rw [h.wn]; exact hd.nx q b e) fun _ _ => rfl
  sep := fun q q' b b' k e e' => hd.sep q q' b b' k e e'
  ng := fun q b k e hk => by
   have hk' : bl ω q b = some k := hk
   simp only [Wit.addΓ]
   split
   . rename_i hkg
     subst hkg
     obtain ⟨hne, e'⟩ := V1 e
     exact absurd (h.sep r q _ b _ hb e' rfl hk') hne
   exact hd.ng q b k e hk'
  mine := fun q b k e hk => hd.mine q b k e hk
  nx := hd.nx
  wn := h.wn
  gam := fun b c T e => by
   simp only [Wit.addΓ] at e
   split at e
   . rename_i hbg
     simp only [Option.some.injEq, Prod.mk.injEq] at e
     obtain ⟨rfl, rfl⟩ := e
     subst hbg
     exact ⟨_, h1⟩
   exact h.gam b c T e
  fr := h.fr
  df := h.df
  gl := fun b x e => hl.Γ _ _ (h.gl b x e)
  gn := fun b x e => by
   simp only [Wit.addΓ] at e
   split at e
   . rename_i hbg
     subst hbg
     exact .inr (h.mine r _ _ hb rfl)
   exact h.gn b x e
  pin := h.pin
  n0 := h.n0 }
end
theorem Sim.enter {g0 : Glob} {w0 : World} {M : Nat -> Prop} {ω : Wit} {hp : Heap} {nx n : Nat} {w : World} (hS : Sim g0 w0 M ω ⟨[], hp, nx⟩ a0 w) {svs : List SV} {args : Array Value} (hn : args.size = svs.length)
 (hr : ∀ (i : Nat) (s : SV) (v : Value), svs[i]? = some s -> args[i]? = some v -> Rel ω s v) :
 Sim g0 w0 M ω ⟨JQ n svs, hp, nx⟩ { tmps := args ++ Array.replicate (n - args.size) undef, defers := [] } w := by
 refine { hS with env := fun i s e => ?_, df := hS.df }
 have he := Qev e
 by_cases hi : i < svs.length
 rw [List.getElem?_append_left hi] at he
 have hia : i < args.size := by omega
 refine ⟨args[i], ?_, hr i s _ he (Array.getElem?_eq_getElem hia)⟩
 rw [Array.getElem?_append_left hia, Array.getElem?_eq_getElem hia]
 rw [List.getElem?_append_right (by omega), List.getElem?_replicate] at he
 split at he
 rename_i hlt
 cases he
 refine ⟨undef, ?_, .undef _⟩
 rw [Array.getElem?_append_right (by omega), Array.getElem?_replicate, if_pos (by omega)]
 cases he
def sq1 : Code -> Code
 | .seq x _ => x
 | c => c
def sq2 : Code -> Code
 | .seq _ y => y
 | c => c
def Qa8 : Code -> Array Oper
 | .region _ o _ => o
 | _ => #[]
theorem Qlx {c : Code} {id : Nat} {o1 o2 : Oper} (hc : c = .region id #[o1, o2] false) {f : FuncId} {t u : Nat} (h1 : o1.op = .makeFunc (.func f) #[] #[.tmp t]) (h1d : o1.dst = some u) (h1g : o1.guard = none)
 (h2 : ∃ tys, o2.op = .defer ⟨.value (.tmp u), #[], tys⟩) (h2d : o2.dst = none) (h2g : o2.guard = none) {a : Act} {w : World} {Q : Exit -> Act -> World -> Prop} (hu : u < a.tmps.size)
 (h : Q .normal ⟨(a.put (some u) (.func (.func f) #[] #[a.tmps.getD t undef])).tmps, ⟨.fn (.func f) #[a.tmps.getD t undef], #[]⟩ :: a.defers⟩ w) : c.wp Tryz.prog Q a w := by
 obtain ⟨tys, h2⟩ := h2
 subst hc
 refine wp_region_list ?_
 have e : (a.put (some u) (.func (.func f) #[] #[a.tmps.getD t undef])).eval (.tmp u) = .func (.func f) #[] #[a.tmps.getD t undef] := by
  show (a.tmps.setIfInBounds u _).getD u undef = _
  simp [Array.getD, hu]
 have r1 : (execOp a.eval o1).run Tryz.prog w = .ok (.value (.func (.func f) #[] #[a.tmps.getD t undef])) w := by
  unfold execOp
  rw [h1]
  simp [Instr.makeFunc, Act.eval]
 have r2 : (execOp (a.put (some u) (.func (.func f) #[] #[a.tmps.getD t undef])).eval o2).run Tryz.prog w = .ok (.defer ⟨.fn (.func f) #[a.tmps.getD t undef], #[]⟩) w := by
  unfold execOp
  rw [h2]
  have e2 : resolve (a.put (some u) (.func (.func f) #[] #[a.tmps.getD t undef])).eval ⟨.value (.tmp u), #[], tys⟩ o2.type = pure ⟨.fn (.func f) #[a.tmps.getD t undef], #[]⟩ := by
   unfold resolve
   simp only [e]
   unfold Deferred.ofValue
   simp
  simp only [e2]
  rfl
 show wpList Tryz.prog #[o1, o2] Q [o1, o2] a w
 simp only [wpList, Region.wanted, h1g, h2g, if_true]
 refine .inl ?_
 unfold Oper.wp
 rw [r1, Oper.upon_value, h1d]
 refine .inl ?_
 rw [r2]
 show Q .normal (({ (a.put (some u) (.func (.func f) #[] #[a.tmps.getD t undef])) with defers := _ } : Act).put o2.dst undef) w
 rw [h2d]
 exact h
def cdx : Code -> Code
 | .cond _ x _ => x
 | c => c
noncomputable def p70 (k : Nat) : Code := sq1 (Nat.rec (Qm Tryz.f70) (fun _ c => sq2 c) k)
noncomputable def q70 : Code := Nat.rec (Qm Tryz.f70) (fun _ c => sq2 c) 4
noncomputable def o70 (k : Nat) : Oper := (Qa8 (p70 3)).toList.getD k default
def k70 (s : Bs) (d : Nat) (a : Bool) (K : Out -> Option SB -> Prop) (o : Out) (b : Option SB) : Prop := ∃ j, b = some (.blk 94 [.str s, .nat j, .nat (d + 1), .bool a]) /\ K o (some (.blk 94 [.str s, .nat j, .nat d, .bool a]))
def Qn (S : SS) (e : Exit) (S' : SS) : Prop := e = .normal /\ S' = S
theorem QqH (m : Nat) (hG : Sat 70 (c70 m)) : Sat 70 (c70 (m + 1)) := by
 intro g0 w M ω svs args b K hS hn hr hP
 unfold c70 at hP
 split at hP
 rename_i s i d a
 obtain ⟨h01, h02, h03, h04, hk⟩ := hP
 by_cases hd : 1000 < d
 refine big70 m hG g0 w M ω _ args _ K hS hn hr ⟨hd, h03, ?_⟩
 rw [show 1001 - d = 0 from by omega] at hk
 exact Qa hk rfl i
 have hD : Qe (W70 m).D := Qe.cons Zt Zr (Qe.cons Qhs (QgL m hG) Qe.nil)
 refine calls_of_wp_defers (fn := Tryz.f70) (c := .seq (p70 0) (.seq (p70 1) (.seq (p70 2) (.seq (p70 3) q70)))) (by kernel_rfl) (by kernel_rfl) ?_
 have q0 := Sim.enter (n := Tryz.f70.ntmps) (hp := [(0, .blk 94 [.str s, .nat i, .nat d, .bool a])]) (nx := 1) hS hn hr
 -- the first regions
 have v0 : VC (p70 0) ⟨JQ Tryz.f70.ntmps [.ptr 0 0], [(0, .blk 94 [.str s, .nat i, .nat d, .bool a])], 1⟩ (Qn (mkS 73 [(0, (.ptr 0 0)), (1, (.ptr 1 0)), (2, .nilsl), (3, .nilif)] [(1, .blk 92 [(.ptr 0 0)]), (0, .blk 94 [(.str s), (.nat i), (.nat d), (.bool a)])] 2)) := by
  rw [show p70 0 = .region 0 (Qa8 (p70 0)) false from by kernel_rfl]
  refine JN hD ?_
  have e : vcQ (W70 m).D (Qa8 (p70 0)).toList ⟨JQ Tryz.f70.ntmps [.ptr 0 0], [(0, .blk 94 [.str s, .nat i, .nat d, .bool a])], 1⟩ (Qn (mkS 73 [(0, (.ptr 0 0)), (1, (.ptr 1 0)), (2, .nilsl), (3, .nilif)] [(1, .blk 92 [(.ptr 0 0)]), (0, .blk 94 [(.str s), (.nat i), (.nat d), (.bool a)])] 2) .normal) = (Qn (mkS 73 [(0, (.ptr 0 0)), (1, (.ptr 1 0)), (2, .nilsl), (3, .nilif)] [(1, .blk 92 [(.ptr 0 0)]), (0, .blk 94 [(.str s), (.nat i), (.nat d), (.bool a)])] 2) .normal (mkS 73 [(0, (.ptr 0 0)), (1, (.ptr 1 0)), (2, .nilsl), (3, .nilif)] [(1, .blk 92 [(.ptr 0 0)]), (0, .blk 94 [(.str s), (.nat i), (.nat d), (.bool a)])] 2)) := by kernel_rfl
  rw [e]
  exact ⟨rfl, rfl⟩
 have v1 : VC (p70 1) (mkS 73 [(0, (.ptr 0 0)), (1, (.ptr 1 0)), (2, .nilsl), (3, .nilif)] [(1, .blk 92 [(.ptr 0 0)]), (0, .blk 94 [(.str s), (.nat i), (.nat d), (.bool a)])] 2) (Qn (mkS 73 [(0, (.ptr 0 0)), (1, (.ptr 1 0)), (2, .nilsl), (3, .nilif), (9, (.ptr 0 0)), (10, (.ptr 0 0)), (11, (.ptr 0 2)), (12, (.nat d)), (13, (.bool (decide (1000 < d))))] [(1, .blk 92 [(.ptr 0 0)]), (0, .blk 94 [(.str s), (.nat i), (.nat d), (.bool a)])] 2)) := by
  rw [show p70 1 = .seq (.region 1 (Qa8 (sq1 (p70 1))) false) (.cond (.tmp 13) (cdx (sq2 (p70 1))) .skip) from by kernel_rfl]
  refine VC.seq (VC.mono (Q := Qn (mkS 73 [(0, (.ptr 0 0)), (1, (.ptr 1 0)), (2, .nilsl), (3, .nilif), (9, (.ptr 0 0)), (10, (.ptr 0 0)), (11, (.ptr 0 2)), (12, (.nat d)), (13, (.bool (decide (1000 < d))))] [(1, .blk 92 [(.ptr 0 0)]), (0, .blk 94 [(.str s), (.nat i), (.nat d), (.bool a)])] 2)) (JN hD ?_) ?_)
  have e : vcQ (W70 m).D (Qa8 (sq1 (p70 1))).toList (mkS 73 [(0, (.ptr 0 0)), (1, (.ptr 1 0)), (2, .nilsl), (3, .nilif)] [(1, .blk 92 [(.ptr 0 0)]), (0, .blk 94 [(.str s), (.nat i), (.nat d), (.bool a)])] 2) (Qn (mkS 73 [(0, (.ptr 0 0)), (1, (.ptr 1 0)), (2, .nilsl), (3, .nilif), (9, (.ptr 0 0)), (10, (.ptr 0 0)), (11, (.ptr 0 2)), (12, (.nat d)), (13, (.bool (decide (1000 < d))))] [(1, .blk 92 [(.ptr 0 0)]), (0, .blk 94 [(.str s), (.nat i), (.nat d), (.bool a)])] 2) .normal) = (Qn (mkS 73 [(0, (.ptr 0 0)), (1, (.ptr 1 0)), (2, .nilsl), (3, .nilif), (9, (.ptr 0 0)), (10, (.ptr 0 0)), (11, (.ptr 0 2)), (12, (.nat d)), (13, (.bool (decide (1000 < d))))] [(1, .blk 92 [(.ptr 0 0)]), (0, .blk 94 [(.str s), (.nat i), (.nat d), (.bool a)])] 2) .normal (mkS 73 [(0, (.ptr 0 0)), (1, (.ptr 1 0)), (2, .nilsl), (3, .nilif), (9, (.ptr 0 0)), (10, (.ptr 0 0)), (11, (.ptr 0 2)), (12, (.nat d)), (13, (.bool (decide (1000 < d))))] [(1, .blk 92 [(.ptr 0 0)]), (0, .blk 94 [(.str s), (.nat i), (.nat d), (.bool a)])] 2)) := by kernel_rfl
  rw [e]
  exact ⟨rfl, rfl⟩
  rintro e S' ⟨rfl, rfl⟩
  refine VC.cond ?_
  unfold arg
  have e : ev (mkS 73 [(0, (.ptr 0 0)), (1, (.ptr 1 0)), (2, .nilsl), (3, .nilif), (9, (.ptr 0 0)), (10, (.ptr 0 0)), (11, (.ptr 0 2)), (12, (.nat d)), (13, (.bool (decide (1000 < d))))] [(1, .blk 92 [(.ptr 0 0)]), (0, .blk 94 [(.str s), (.nat i), (.nat d), (.bool a)])] 2).env (.tmp 13) = .bool (decide (1000 < d)) := by kernel_rfl
  rw [e]
  exact ⟨trivial, fun h => absurd (of_decide_eq_true h) hd, fun _ => VC.skip ⟨rfl, rfl⟩⟩
 have v2 : VC (p70 2) (mkS 73 [(0, (.ptr 0 0)), (1, (.ptr 1 0)), (2, .nilsl), (3, .nilif), (9, (.ptr 0 0)), (10, (.ptr 0 0)), (11, (.ptr 0 2)), (12, (.nat d)), (13, (.bool (decide (1000 < d))))] [(1, .blk 92 [(.ptr 0 0)]), (0, .blk 94 [(.str s), (.nat i), (.nat d), (.bool a)])] 2) (Qn (mkS 73 [(0, (.ptr 0 0)), (1, (.ptr 1 0)), (2, .nilsl), (3, .nilif), (9, (.ptr 0 0)), (10, (.ptr 0 0)), (11, (.ptr 0 2)), (12, (.nat d)), (13, (.bool (decide (1000 < d)))), (15, (.ptr 0 0)), (16, (.ptr 0 0)), (17, (.ptr 0 2)), (18, (.nat d)), (19, (.nat (d + 1))), (20, (.ptr 0 0)), (21, (.ptr 0 2))] [(1, .blk 92 [(.ptr 0 0)]), (0, .blk 94 [(.str s), (.nat i), (.nat (d + 1)), (.bool a)])] 2)) := by
  rw [show p70 2 = .region 3 (Qa8 (p70 2)) false from by kernel_rfl]
  refine JN hD ?_
  have e : vcQ (W70 m).D (Qa8 (p70 2)).toList (mkS 73 [(0, (.ptr 0 0)), (1, (.ptr 1 0)), (2, .nilsl), (3, .nilif), (9, (.ptr 0 0)), (10, (.ptr 0 0)), (11, (.ptr 0 2)), (12, (.nat d)), (13, (.bool (decide (1000 < d))))] [(1, .blk 92 [(.ptr 0 0)]), (0, .blk 94 [(.str s), (.nat i), (.nat d), (.bool a)])] 2) (Qn (mkS 73 [(0, (.ptr 0 0)), (1, (.ptr 1 0)), (2, .nilsl), (3, .nilif), (9, (.ptr 0 0)), (10, (.ptr 0 0)), (11, (.ptr 0 2)), (12, (.nat d)), (13, (.bool (decide (1000 < d)))), (15, (.ptr 0 0)), (16, (.ptr 0 0)), (17, (.ptr 0 2)), (18, (.nat d)), (19, (.nat (d + 1))), (20, (.ptr 0 0)), (21, (.ptr 0 2))] [(1, .blk 92 [(.ptr 0 0)]), (0, .blk 94 [(.str s), (.nat i), (.nat (d + 1)), (.bool a)])] 2) .normal) = (d + 1 <= 9223372036854775807 /\ Qn (mkS 73 [(0, (.ptr 0 0)), (1, (.ptr 1 0)), (2, .nilsl), (3, .nilif), (9, (.ptr 0 0)), (10, (.ptr 0 0)), (11, (.ptr 0 2)), (12, (.nat d)), (13, (.bool (decide (1000 < d)))), (15, (.ptr 0 0)), (16, (.ptr 0 0)), (17, (.ptr 0 2)), (18, (.nat d)), (19, (.nat (d + 1))), (20, (.ptr 0 0)), (21, (.ptr 0 2))] [(1, .blk 92 [(.ptr 0 0)]), (0, .blk 94 [(.str s), (.nat i), (.nat (d + 1)), (.bool a)])] 2) .normal (mkS 73 [(0, (.ptr 0 0)), (1, (.ptr 1 0)), (2, .nilsl), (3, .nilif), (9, (.ptr 0 0)), (10, (.ptr 0 0)), (11, (.ptr 0 2)), (12, (.nat d)), (13, (.bool (decide (1000 < d)))), (15, (.ptr 0 0)), (16, (.ptr 0 0)), (17, (.ptr 0 2)), (18, (.nat d)), (19, (.nat (d + 1))), (20, (.ptr 0 0)), (21, (.ptr 0 2))] [(1, .blk 92 [(.ptr 0 0)]), (0, .blk 94 [(.str s), (.nat i), (.nat (d + 1)), (.bool a)])] 2)) := by kernel_rfl
  rw [e]
  exact ⟨by omega, rfl, rfl⟩
 refine wp_seq (wp_mono (v0 g0 w M ω _ w q0) ?_)
 rintro e a1 w1 ⟨_, ⟨rfl, rfl⟩, ω1, q1⟩
 refine wp_seq (wp_mono (v1 g0 w M ω1 _ w1 q1) ?_)
 rintro e a2 w2 ⟨_, ⟨rfl, rfl⟩, ω2, q2⟩
 refine wp_seq (wp_mono (v2 g0 w M ω2 _ w2 q2) ?_)
 rintro e a3 w3 ⟨_, ⟨rfl, rfl⟩, ω3, q3⟩
 -- the closure
 obtain ⟨_, hz, _⟩ := q3.env 22 .undef (by kernel_rfl)
 have hu : 22 < a3.tmps.size := (Array.getElem?_eq_some_iff.1 hz).1
 obtain ⟨_, hv1, rv1⟩ := q3.env 1 (.ptr 1 0) (by kernel_rfl)
 obtain ⟨rfl, _⟩ := rv1.ptr_inv
 have hget : a3.tmps.getD 1 undef = .pointer (some ⟨ω3.ρ 1, 0, none⟩) := by
  rw [Array.getD_eq_getD_getElem?, hv1]; rfl
 have hdf : a3.defers = [] := q3.df.trans hS.df.symm
 refine wp_seq (Qlx (o1 := o70 0) (o2 := o70 1) (f := 98) (t := 1) (u := 22) (id := 4) (by kernel_rfl) (by kernel_rfl) (by kernel_rfl) (by kernel_rfl) ⟨#[], by kernel_rfl⟩ (by kernel_rfl) (by kernel_rfl) hu ?_)
 rw [hget, hdf]
 show q70.wp Tryz.prog _ _ _
 have q4 := q3.put (.undef (.func (.func 98) #[] #[.pointer (some ⟨ω3.ρ 1, 0, none⟩)])) 22
 obtain ⟨ω5, l5, n5, ⟨vs, k1, k2, k3⟩, q5⟩ := q4.freeze (r := 1) (T := 92) (cs := [.ptr 0 0]) (by kernel_rfl)
 have hpin0 : M (ω.ρ 0) := by
  rcases hS.mine 0 _ (ω.ρ 0) rfl rfl with h | h
  exact h
  have := (hS.heap 0 _ rfl).lt (show bl ω 0 (.blk 94 [.str s, .nat i, .nat d, .bool a]) = some (ω.ρ 0) from rfl)
  omega
 have pin5 : ω5.ρ 0 = ω.ρ 0 := q5.pin _ hpin0
 have relcp : Rel ω5 (.cp [.ptr 0 0]) (.pointer (some ⟨ω3.ρ 1, 0, none⟩)) :=
  .cp _ _ 0 vs 92 k1 (by rw [k2]; simp) fun j s u e1 e2 => by rw [Nat.zero_add] at e2; exact k3 j s u e1 e2
 have hv1' : (a3.put (some 22) (.func (.func 98) #[] #[.pointer (some ⟨ω3.ρ 1, 0, none⟩)])).tmps[1]? = some (.pointer (some ⟨ω3.ρ 1, 0, none⟩)) := by
  rw [Act.put_some, Array.getElem?_setIfInBounds_ne (by decide)]; exact hv1
 have q6 := q5.put relcp 1
 rw [Qa3 hv1'] at q6
 obtain ⟨g', hgG, hgD⟩ : ∃ g' : Glob, g'.G = ω5.Γ /\ g'.D = [⟨.fn (.func 98) #[.pointer (some ⟨ω3.ρ 1, 0, none⟩)], #[]⟩] :=
  ⟨⟨ω5.Γ, fun g hg => by obtain ⟨t, v, T, e⟩ := g0.err g hg; exact ⟨t, v, T, q5.gl g _ e⟩, _⟩, rfl, rfl⟩
 have q7 : Sim g' w M ω5 _ ⟨(a3.put (some 22) (.func (.func 98) #[] #[.pointer (some ⟨ω3.ρ 1, 0, none⟩)])).tmps, [⟨.fn (.func 98) #[.pointer (some ⟨ω3.ρ 1, 0, none⟩)], #[]⟩]⟩ w3 :=
  q6.glob rfl hgD.symm (fun b x e => by rw [hgG] at e; exact e) (fun b x e => .inl (by rw [hgG]; exact e))
 have q8 : ∃ ω8, Sim g' w M ω8 (mkS 73 [(1, (.cp [(.ptr 0 0)]))] [(0, .blk 94 [(.str s), (.nat i), (.nat (d + 1)), (.bool a)])] 1) ⟨(a3.put (some 22) (.func (.func 98) #[] #[.pointer (some ⟨ω3.ρ 1, 0, none⟩)])).tmps, [⟨.fn (.func 98) #[.pointer (some ⟨ω3.ρ 1, 0, none⟩)], #[]⟩]⟩ w3 := by
  refine Yg.ren [0] ?_ ?_ ?_ g' w M ω5 _ w3 q7 <;> kernel_rfl
 obtain ⟨ω8, q8⟩ := q8
 -- the rest
 have hk5 : Qx (QD s a (1001 - d) i) (fun v => i < v.2 /\ v.2 <= s.length -> (k70 s d a K) (.val (.tup [.sl (.csels v.1), .nilif])) (some (.blk 94 [.str s, .nat v.2, .nat (d + 1), .bool a])))
  (∀ j, (k70 s d a K) (.val (.tup [.sl (.csels []), .ifx])) (some (.blk 94 [.str s, .nat j, .nat (d + 1), .bool a]))) := by
  revert hk
  rcases QD s a (1001 - d) i with _ | v
  . exact fun hk j => ⟨j, rfl, hk j⟩
  exact fun hk h => ⟨v.2, rfl, hk h⟩
 have hin := in70 m hG (K := k70 s d a K) h01 h02 (by omega) (by omega) hk5
 unfold Wk.C AtC at hin
 rw [show Qc0 (W70 m).B [] 5 = some (q70, []) from by kernel_rfl] at hin
 replace hin : VC q70 (mkS 73 [(1, (.cp [(.ptr 0 0)]))] [(0, .blk 94 [(.str s), (.nat i), (.nat (d + 1)), (.bool a)])] 1) (retQ true false [.tmp 2, .tmp 3] [50, 71] (k70 s d a K)) := hin
 refine wp_mono (hin g' w M ω8 _ w3 q8) ?_
 rintro e a' w' ⟨S', hq, ω9, q9⟩
 have fin : Qmg true false [.tmp 2, .tmp 3] [50, 71] (k70 s d a K) S' ->
  Leaves Tryz.prog Tryz.f70 a'.tmps (fun e w' => ∃ v o b', e = .returned v /\ K o b' /\ Qn5 g0 w M ω o b' v w') a'.defers .returning w' := by
  intro hk'
  rw [q9.df, hgD]
  obtain ⟨ss, vs', j1, j2, j3, j4, j5⟩ := Qdr q9 hk'
  obtain ⟨ω10, l10, p2, p3, q10⟩ := Sim.fixRs [50, 71] ss S' ω9 q9 vs' (by omega) j4
  obtain ⟨r1, r2, j, rb, rK⟩ := j1
  have hb0 : hlk (fixRs S' [50, 71] ss).2.heap 0 = some (.blk 94 [.str s, .nat j, .nat (d + 1), .bool a]) := rb
  refine leaves_cons (f := 98) (args := #[.pointer (some ⟨ω3.ρ 1, 0, none⟩)]) (by simp) ?_ ?_
  . have k1 : Tryz.prog.funcs[98]? = some Tryz.f98 := by kernel_rfl
    have k2 : (Tryz.f98.name == "runtime.NumGoroutine") = false := by kernel_rfl
    have k3 : Tryz.f98.body = some (Qm Tryz.f98) := by kernel_rfl
    have hne : Tryz.f98.name ≠ "runtime.NumGoroutine" := by simpa using k2
    simp [invoke, callFunc, k1, k3, hne]
  refine (callsD_of_wp (fn := Tryz.f98) (c := Qm Tryz.f98) (R := fun e w'' => (∃ v, e = .returned v) /\ Qn5 g0 w M ω (.val (Qky (fixRs S' [50, 71] ss).1)) (some (.blk 94 [.str s, .nat j, .nat d, .bool a])) (Qbq vs') w'') (by kernel_rfl) (by kernel_rfl) ?_).mono ?_
  . have hpin : ω10.ρ 0 = ω5.ρ 0 := (q10.pin _ hpin0).trans pin5.symm
    have hΓ : ω10.Γ (ω3.ρ 1) = some (vs, 92) := q10.gl _ _ (by rw [hgG]; exact k1)
    have relvp : Rel ω10 (.cp [.ptr 0 0]) (.pointer (some ⟨ω3.ρ 1, 0, none⟩)) := by
     refine .cp _ _ 0 vs 92 hΓ (by rw [k2]; simp) fun j s u e1 e2 => ?_
     match j, e1 with
     | 0, e1 =>
      cases e1
      obtain ⟨rfl, _⟩ := (k3 0 _ u rfl (by simpa using e2)).ptr_inv
      rw [<- hpin]
      exact .ptr 0 0 (by rw [q10.wn]; exact q10.n0)
    obtain ⟨g8, h8G, h8D⟩ : ∃ g8 : Glob, g8.G = ω10.Γ /\ g8.D = [] :=
     ⟨⟨ω10.Γ, fun g hg => by obtain ⟨t, v, T, e⟩ := g'.err g hg; exact ⟨t, v, T, q10.gl g _ e⟩, _⟩, rfl, rfl⟩
    have q11 : Sim g8 w M ω10 _ ⟨a'.tmps, []⟩ w' := q10.glob rfl h8D.symm (fun b x e => by rw [h8G] at e; exact e) (fun b x e => .inl (by rw [h8G]; exact e))
    have q11' : Sim g8 w M ω10 ⟨[], (fixRs S' [50, 71] ss).2.heap, (fixRs S' [50, 71] ss).2.nx⟩ a0 w' := { q11 with env := fun i s e => by simp [elk, lk2] at e, df := h8D.symm }
    have q12 := q11'.enter (n := Tryz.f98.ntmps) (svs := [.cp [.ptr 0 0]]) (args := #[.pointer (some ⟨ω3.ρ 1, 0, none⟩)]) rfl (fun i s v e1 e2 => by
     match i, e1 with
     | 0, e1 => cases e1; cases e2; exact relvp)
    have q13 : ∃ ω13, Sim g8 w M ω13 (mkS 8 [(0, (.cp [(.ptr 0 0)]))] [(0, .blk 94 [(.str s), (.nat j), (.nat (d + 1)), (.bool a)])] 1) { tmps := #[.pointer (some ⟨ω3.ρ 1, 0, none⟩)] ++ Array.replicate (Tryz.f98.ntmps - 1) undef, defers := [] } w' := by
     refine Yg.ren [0] ?_ ?_ ?_ g8 w M ω10 _ w' q12
     . kernel_rfl
     . show [hlk (fixRs S' [50, 71] ss).2.heap 0] = [_]
       rw [hb0]
     kernel_rfl
    obtain ⟨ω13, q13⟩ := q13
    have v8 : VC (Qm Tryz.f98) (mkS 8 [(0, (.cp [(.ptr 0 0)]))] [(0, .blk 94 [(.str s), (.nat j), (.nat (d + 1)), (.bool a)])] 1) (Qn (mkS 8 [(0, (.cp [(.ptr 0 0)])), (1, (.ptr 0 0)), (2, (.ptr 0 0)), (3, (.ptr 0 2)), (4, (.nat (d + 1))), (5, (.nat d)), (6, (.ptr 0 0)), (7, (.ptr 0 2))] [(0, .blk 94 [(.str s), (.nat j), (.nat d), (.bool a)])] 1)) := by
     rw [show Qm Tryz.f98 = .region 0 (Qa8 (Qm Tryz.f98)) false from by kernel_rfl]
     refine JN (D := []) Qe.nil ?_
     have e : vcQ [] (Qa8 (Qm Tryz.f98)).toList (mkS 8 [(0, (.cp [(.ptr 0 0)]))] [(0, .blk 94 [(.str s), (.nat j), (.nat (d + 1)), (.bool a)])] 1) (Qn (mkS 8 [(0, (.cp [(.ptr 0 0)])), (1, (.ptr 0 0)), (2, (.ptr 0 0)), (3, (.ptr 0 2)), (4, (.nat (d + 1))), (5, (.nat d)), (6, (.ptr 0 0)), (7, (.ptr 0 2))] [(0, .blk 94 [(.str s), (.nat j), (.nat d), (.bool a)])] 1) .normal) = ((1 <= d + 1 /\ d + 1 <= 9223372036854775807) /\ Qn (mkS 8 [(0, (.cp [(.ptr 0 0)])), (1, (.ptr 0 0)), (2, (.ptr 0 0)), (3, (.ptr 0 2)), (4, (.nat (d + 1))), (5, (.nat d)), (6, (.ptr 0 0)), (7, (.ptr 0 2))] [(0, .blk 94 [(.str s), (.nat j), (.nat d), (.bool a)])] 1) .normal (mkS 8 [(0, (.cp [(.ptr 0 0)])), (1, (.ptr 0 0)), (2, (.ptr 0 0)), (3, (.ptr 0 2)), (4, (.nat (d + 1))), (5, (.nat d)), (6, (.ptr 0 0)), (7, (.ptr 0 2))] [(0, .blk 94 [(.str s), (.nat j), (.nat d), (.bool a)])] 1)) := by kernel_rfl
     rw [e]
     exact ⟨by omega, rfl, rfl⟩
    refine wp_mono (v8 g8 w M ω13 _ w' q13) ?_
    rintro e a'' w'' ⟨_, ⟨rfl, rfl⟩, ω14, q14⟩
    refine ⟨q14.df.trans h8D, _, UJ (l := []) (vs := []) (by kernel_rfl) (by decide) rfl (fun i r v e => by simp at e), ⟨_, rfl⟩, ?_⟩
    have q15 : Sim g0 w M ω14 _ ⟨a''.tmps, []⟩ w'' := q14.glob rfl hS.df
     (fun b x e => q14.gl _ _ (by rw [h8G]; exact q10.gl _ _ (by rw [hgG]; exact q5.gl _ _ e)))
     (fun b x e => by
      rcases q14.gn b x e with h | h | h
      . rw [h8G] at h
        rcases q10.gn b x h with h | h | h
        . rw [hgG] at h; exact q5.gn b x h
        . exact .inr (.inl h)
        exact .inr (.inr h)
      . exact .inr (.inl h)
      exact .inr (.inr h))
    refine ⟨ω14, ⟨[], [(0, .blk 94 [.str s, .nat j, .nat d, .bool a])], 1⟩, { q15 with env := fun i s e => by simp [elk, lk2] at e, df := hS.df }, fun c hc => ?_, Qe6 r1, ?_⟩
    . cases hc
      exact ⟨rfl, rfl⟩
    have h1 := (Qja (by omega) p3).lower (m := 0) (Qe6 r1)
    exact h1.mono ⟨fun b x e => q14.gl _ _ (by rw [h8G]; exact e), Nat.zero_le _, fun r hr => absurd hr (Nat.not_lt_zero _), fun r hr => absurd hr (Nat.not_lt_zero _)⟩
  rintro e u' w'' ⟨rfl, ⟨v, rfl⟩, hL⟩
  refine ⟨Qbq vs', UJ (l := [.tmp 2, .tmp 3]) (by kernel_rfl) (by decide) j3 (fun i r v e1 e2 => ?_), Qbq vs', _, _, rfl, rK, hL⟩
  match i, e1 with
  | 0, e1 => cases e1; have := j5 0 _ v rfl e2; simp [QcV] at this ⊢; exact this
  | 1, e1 => cases e1; have := j5 1 _ v rfl e2; simp [QcV] at this ⊢; exact this
 cases e with
 | normal => exact fin hq
 | ret => exact fin hq
 | exit i => exact hq.elim
 | goto l => exact hq.elim
 | panic ch => exact hq.elim
 | outgrown => exact hq.elim
 exact hP.elim
theorem QgM : ∀ m, Sat 70 (c70 m)
 | 0 => by
  intro g0 w M ω svs args b K hS hn hr hP
  unfold c70 at hP
  split at hP
  obtain ⟨_, _, h3, h4, _⟩ := hP
  omega
  exact hP.elim
 | m + 1 => QqH m (QgM m)
end
end Go.Proofs.YtengepcafdnalaaGreatDoor
