/-
  Parts of the proof that the law FnPrintAgain holds for every input (texts Wk, Oa, Ob, Oc). Conditions: none.
-/
import Derived.Test.YtengepcafdnalaaGreatDoorM30
namespace Go.Proofs.YtengepcafdnalaaGreatDoor
open _root_.Bool renaming not_eq_true' → zU, and_eq_false_imp → zW, and_eq_true → zh
open _root_.List renaming getD_eq_getElem?_getD → za, getElem?_eq_getElem → zi, length_cons → ze, length_append → zd, nil_append → zI, append_nil → zC, length_eq_zero_iff → zK, take_add_one → zL, drop_eq_getElem_cons → zP, map_cons → zJ, append_assoc → zo, singleton_append → zT, exists_cons_of_ne_nil → zB, length_pos_iff → zu, length_drop → zj, length_take → zk, length_nil → zf
open _root_.Nat renaming le_refl → zq, strongRecOn → zl, pos_of_ne_zero → xx
open _root_.Option renaming toList_some → z7
open _root_.UInt8 renaming ofNat → zx, toNat_or → zb
section
set_option maxRecDepth 20000
open Go.Proofs.YtengepcafdnalaaGreatDoor.Way
theorem Qiq {s : Bs} (h : QaI s = true) : low s = s := by
 unfold QaI at h
 rw [J7] at h
 unfold low
 apply List.ext_getElem
 simp
 intro j h1 h2
 have q := h j h2
 simp only [zU, Bool.or_eq_false_iff, decide_eq_false_iff_not, zW, decide_eq_true_eq] at q
 have e : bat s j = (s[j]).toNat := by simp [bat, za, zi h2]
 rw [List.getElem_map]
 unfold UX
 rw [if_neg (by rw [<- e]; intro c; exact q.2 c.1 c.2)]
theorem Qhv {x : SelD} (h : (!Qb0 x) = true) : Ua x := by
 intro hk
 apply Qiq
 unfold Qb0 at h
 have e1 : (decide (x.kind = 15) || (decide (x.kind = 16) || decide (x.kind = 17))) = true := by simp; exact hk
 rw [e1] at h
 simpa using h
mutual
theorem QjD : ∀ T : ST, (∀ x ∈ T.flat, Ua x) -> Ux T
 | .mk x ks, h => by
  rw [ST.flat, QT] at h
  have h1 : Ua { x with size := ((ST.flats ks).length : Nat) + 1 } := h _ (List.mem_cons_self ..)
  exact ⟨h1, QgM ks fun y hy => h y (List.mem_cons_of_mem _ hy)⟩
theorem QgM : ∀ ks : List ST, (∀ x ∈ ST.flats ks, Ua x) -> Uw ks
 | [], _ => trivial
 | t :: ks, h => by
  rw [ST.flats] at h
  exact ⟨QjD t fun y hy => h y (List.mem_append_left _ hy), QgM ks fun y hy => h y (List.mem_append_right _ hy)⟩
end
mutual
theorem Qbj : ∀ T : ST, ST.ht' T <= T.flat.length
 | .mk x ks => by have := QhH ks; simp only [ST.ht', ST.flat, QT, ze]; omega
theorem QhH : ∀ ks : List ST, ST.hts' ks <= (ST.flats ks).length
 | [] => by simp [ST.hts']
 | t :: ks => by have := Qbj t; have := QhH ks; simp only [ST.hts', ST.flats, zd]; omega
end
theorem QlV : ∀ {l : List SelD}, mbL l <= 500 -> wtL l <= 100 * l.length + 4 * mbL l
 | [], _ => by simp [wtL]
 | x :: l, h => by
  rw [mbL] at h
  have ih := QlV (l := l) (by omega)
  rw [wtL, mbL, ze]
  unfold wtN
  omega
structure Look (l : List SelD) (T : ST) : Prop where
 e : l = T.flat
 r : VX T
 s : Ux T
 k : T.node.kind = 23 \/ QI T.node.kind = true
 n : 0 < l.length /\ l.length <= 60
 w : wtL l <= 8000
theorem Qei {l : List SelD} (h : Uz l = true) : ∃ T, Look l T := by
 unfold Uz at h
 split at h
 cases h
 rename_i h0
 rw [zh, J7, zh, decide_eq_true_eq] at h
 obtain ⟨h1, h2, h3⟩ := h
 obtain ⟨T, e, r, k⟩ := QmC h3
 have hs : ∀ x ∈ T.flat, Ua x := by
  rw [<- e]
  intro x hx
  obtain ⟨i, hi, rfl⟩ := List.getElem_of_mem hx
  have := h1 i hi
  rw [za, zi hi] at this
  exact Qhv this
 refine ⟨T, e, r, QjD T hs, k, ⟨?_, by omega⟩, ?_⟩
 rw [e]; exact J4 T
 have := QlV h2; omega
section
variable {l : List SelD} {T : ST}
theorem Look.drop0 (h : Look l T) : l.drop 0 = T.flat ++ [] := by simpa using h.e
theorem Look.wat (h : Look l T) : WAt l 2000 0 := ⟨T, [], h.drop0, by have := Qf4 T; have := h.n; have := congrArg List.length h.e; omega, h.r⟩
theorem Look.text (h : Look l T) : Yz l = wr T := by
 unfold Yz
 rw [if_neg (by have := h.n; omega)]
 exact Qfs l 2000 0 T [] h.drop0 (by have := Qf4 T; have := h.n; have := congrArg List.length h.e; omega)
theorem Look.len (h : Look l T) : (Yz l).length <= 8000 := by
 have q := Qij T h.r
 rw [h.text]
 have := h.w
 rw [h.e] at this
 omega
theorem Look.read (h : Look l T) : ∃ x L, cs T = x :: L /\ (L = [] ↔ (T.node.kind = 23 -> (Qa l 0).length = 1)) /\ ∀ acc, Q2 (wr T) true acc = (if V8 T = true /\ acc = false then none else some (x :: L)) /\
 Q2 (wr T) false acc = (if V8 T = true /\ acc = false then none else if L = [] then some [x] else none) := by
 have hh : ST.ht' T <= 1000 := by have := Qbj T; have := h.n; have := congrArg List.length h.e; omega
 have R := Qg2 1000 T hh h.r h.s
 by_cases h23 : T.node.kind = 23
 obtain ⟨x, p, t, L, q, u, g1, g2, g3, g4, g5, g6⟩ := R.grp h23
 refine ⟨x, L, g4, ?_, fun acc => ⟨?_, ?_⟩⟩
 . have e : (cs T).length = (Qa l 0).length := by
    obtain ⟨y, ks⟩ := T
    have hr := h.r
    obtain ⟨_, _, hs, _⟩ := hr
    have h23' : y.kind = 23 := h23
    unfold Je at hs
    rw [if_pos h23'] at hs
    have hk := JB ks 1 [] (Vd h.drop0).2.1
    rw [<- (Vd h.drop0).1] at hk
    have hl : (Qa l 0).length = ks.length := by simpa using congrArg List.length hk
    rw [cs, VY, if_pos h23', QkC (fun k hk' => by have := hs.1 k hk'; simp [QI, Qo] at this; omega), hl]
    simp
   rw [<- e, g4]
   simp [h23]
 rw [g3, Jh (QaW.mk g1 g2) (by omega) acc, g5]
 rw [g3, QeD g1 g2 (by omega) acc, g5]
 have hc : QI T.node.kind = true := h.k.resolve_left h23
 have S := R.sel hc
 have g1 := SlS.mk (g1 := []) (g2 := []) .nil S .nil
 rw [zI, zC] at g1
 have g2 := Z7.nil 1000
 refine ⟨c1 T, [], VG h23, by simp [h23], fun acc => ⟨?_, ?_⟩⟩
 have q := Jh (QaW.mk g1 g2) (by omega) acc
 rw [zC, Bool.or_false] at q
 exact q
 have q := QeD g1 g2 (by omega) acc
 rw [zC, Bool.or_false] at q
 exact q
theorem QbN (v : List CSel) : Yl true v = (ST.mk Yd (Q1 v)).flat := by
 simp [Yl, ST.flat, ZC]
theorem Qkn (ks : List ST) : Zw (ST.mk Yd ks).flat = (ST.mk Yd ks).flat := by
 unfold Zw
 rw [if_pos]
 simp [ST.flat, QT, Yd]
theorem QtO {T : ST} (h : T.node.kind ≠ 23) : Zw T.flat = (ST.mk Yd [T]).flat := by
 unfold Zw
 rw [if_neg]
 simp [YE, ST.flat, ST.flats]
 obtain ⟨x, ks⟩ := T
 simpa [ST.flat, QT, ST.node] using h
theorem Look.grp (h : Look l T) : ∃ G : ST, Zw l = G.flat /\ (ST.mk Yd (Q1 (cs T))).norm = G.norm /\ Qa (Zw l) 0 = Qa G.flat 0 /\ (T.node.kind ≠ 23 -> G = ST.mk Yd [T]) /\ (T.node.kind = 23 -> G = T) := by
 obtain ⟨n1, n2⟩ := Qhj _ T (zq _) h.r
 by_cases h23 : T.node.kind = 23
 refine ⟨T, ?_, n2 h23, ?_, fun q => absurd h23 q, fun _ => rfl⟩
 rw [h.e]
 obtain ⟨x, ks⟩ := T
 unfold Zw
 rw [if_pos]
 simpa [ST.flat, QT, ST.node] using h23
 congr 1
 rw [h.e]
 obtain ⟨x, ks⟩ := T
 unfold Zw
 rw [if_pos]
 simpa [ST.flat, QT, ST.node] using h23
 have e : Zw l = (ST.mk Yd [T]).flat := by rw [h.e]; exact QtO h23
 refine ⟨ST.mk Yd [T], e, ?_, by rw [e], fun _ => rfl, fun q => absurd q h23⟩
 rw [VG h23, Yv (by decide), Yv (by decide), Q1, Q1, ST.norms, ST.norms, ST.norms, ST.norms, n1 h23]
end
def QoE (t : Bs) (l : List SelD) : Prop := t.length <= 1000000 /\ ∃ v, Q2 t true true = some v /\ (0 < (Yl true v).length /\ (Yl true v).length <= 10000000) /\ (0 < l.length /\ l.length <= 1000000) /\
 U9 (Zw (Yl true v)) /\ U9 (Zw l) /\ QqI (Zw (Yl true v)) (Zw l) = true
theorem Look.same {l : List SelD} {T : ST} (h : Look l T) {t : Bs} (ht : t.length <= 1000000) (hp : Q2 t true true = some (cs T)) : QoE t l := by
 obtain ⟨G, e1, e2, _⟩ := h.grp
 refine ⟨ht, cs T, hp, ⟨?_, ?_⟩, ⟨h.n.1, by have := h.n.2; omega⟩, ?_, ⟨G, e1⟩, ?_⟩
 rw [QbN]; exact J4 _
 have := QeE hp; omega
 rw [QbN, Qkn]; exact ⟨_, rfl⟩
 rw [QbN, Qkn, e1]
 unfold QqI
 rw [U9.normed, U9.normed, e2]
 exact Qd1 _
end
section
open Go Go.RowKit
set_option maxRecDepth 20000
theorem YH (y : Bs) (n k : Nat) : n <= (chc y n k).2 /\ (chc y n k).2 <= n + 1 := by
 unfold chc; split <;> exact ⟨by simp, by simp⟩
theorem VF (y : Bs) (n : Nat) : n <= (Qh y n).2 /\ (Qh y n).2 <= n + 1 := YH y n 9
theorem Vs (y : Bs) (n : Nat) : (Qh y n).1.length <= 2 := by
 unfold Qh
 simp only
 rw [za]
 by_cases h : (chc y n 9).1 < 9
 have : ∀ m : Fin 9, (QdB[m.val]?.getD []).length <= 2 := by decide
 exact this ⟨_, h⟩
 rw [List.getElem?_eq_none (by simp [QdB]; omega)]; simp
theorem VS (y s : Bs) (n : Nat) : n <= (Qm y s n).2 /\ (Qm y s n).2 <= n + 1 := YH y n 4
theorem Qd (y s : Bs) (n : Nat) : (Qm y s n).1.length = s.length := by
 unfold Qm
 by_cases h : (chc y n 4).1 = 1
 simp [h, upp]
 simp [h]
theorem Zt {K : Out -> Option SB -> Prop} {l : List SelD} {y a : Bs} {m : Nat} {p : Bs × Nat} (hk : K (.val (.str p.1)) (some (.blk 62 [.sl (.sels l), .sl (.bytes y), .nat p.2]))) (e : p = (a, m)) :
 K (.val (.str a)) (some (.blk 62 [.sl (.sels l), .sl (.bytes y), .nat m])) := by rw [e] at hk; exact hk
theorem QqZ {K : Out -> Option SB -> Prop} {l : List SelD} {y : Bs} {a m : Nat} {p : Nat × Nat} (hk : K (.val (.nat p.1)) (some (.blk 62 [.sl (.sels l), .sl (.bytes y), .nat p.2]))) (e : p = (a, m)) :
 K (.val (.nat a)) (some (.blk 62 [.sl (.sels l), .sl (.bytes y), .nat m])) := by rw [e] at hk; exact hk
def c58 (svs : List SV) (b : Option SB) : FR := match svs, b with
 | [.ptr 0 0, .nat k], some (.blk 62 [.sl (.sels l), .sl (.bytes y), .nat n]) => some ([0 < k, n <= 1000000000000], .val (.nat (chc y n k).1), some (.blk 62 [.sl (.sels l), .sl (.bytes y), .nat (chc y n k).2]))
 | _, _ => none
noncomputable def W58 : Wk := ⟨[], Qp Tryz.f58, true, false, [.tmp 4], [3], [], []⟩
theorem QeZ : Has 58 := hsf Tryz.f58
theorem Qm8 {p q : Prop} (k : q) (h : p := by first | omega | exact Nat.mod_lt _ (by have := h1; simp [<- zK] at this; omega) | (have := h1; simp [<- zK] at this; omega)) : p /\ q := ⟨h, k⟩
theorem Qes : Sat 58 (fnS c58) := by
 have hD : Qe W58.D := Qe.nil
 refine W58.sa hD Tryz.f58 fun svs b K hP => ?_
 obtain ⟨ps, o, b', e, hp, hk⟩ := YG hP
 unfold c58 at e
 split at e
 rename_i k l y n
 cases e
 obtain ⟨h01, h02, _⟩ := hp
 refine W58.en (cond (decide (y.length = 0)) (K (.val (.nat 0)) (some (.blk 62 [(.sl (.sels l)), (.sl (.bytes y)), (.nat n)]))) ((n + 1 <= 9223372036854775807) /\ (0 < y.length) /\ ((n + 1) % y.length < y.length) /\ (n + 1 <= 9223372036854775807 /\ 0 < y.length) /\ (0 < k) /\ K (.val (.nat (((y.getD ((n + 1) % y.length) 0 + zx ((n + 1) / y.length)).toNat) % k))) (some (.blk 62 [(.sl (.sels l)), (.sl (.bytes y)), (.nat (n + 1))])))) ?_
 refine Qc ?_ ?_ <;> intro h1 <;> try simp [-za, -zb] at h1
 refine QqZ hk ?_
 unfold chc
 rw [if_pos (zK.1 (by simpa using h1))]
 refine Qm8 (Qm8 (Qm8 (Qm8 (Qm8 ?_))))
 refine QqZ hk ?_
 unfold chc
 rw [if_neg (fun q => h1 (by simp [q]))]
 cases e
def c34 (svs : List SV) (b : Option SB) : FR := match svs, b with
 | [.ptr 0 0], some (.blk 62 [.sl (.sels l), .sl (.bytes y), .nat n]) => some ([n <= 900000000000], .val (.str (Qh y n).1), some (.blk 62 [.sl (.sels l), .sl (.bytes y), .nat (Qh y n).2]))
 | _, _ => none
noncomputable def W34 : Wk := ⟨[(58, .fn c58)], Qp Tryz.f34, true, false, [.tmp 2], [9], [], []⟩
theorem Qkm : Has 34 := hsf Tryz.f34
theorem oaz1 {p q : Prop} (k : q) (h : p := by first | omega | exact Way.Qjk (by decide) | (simp; done)) : p /\ q := ⟨h, k⟩
theorem QjI : Sat 34 (fnS c34) := by
 have hD : Qe W34.D := (Qe.cons QeZ Qes Qe.nil)
 refine W34.sa hD Tryz.f34 fun svs b K hP => ?_
 obtain ⟨ps, o, b', e, hp, hk⟩ := YG hP
 unfold c34 at e
 split at e
 rename_i l y n
 cases e
 obtain ⟨h01, _⟩ := hp
 refine W34.en ((0 < 9) /\ (n <= 1000000000000) /\ ((chc y n 9).1 < 9) /\ ((chc y n 9).1 < 9) /\ K (.val (.str (([[], [], [], [32], [32, 32], [10], [9], [13, 10], [12]] : List (List UInt8)).getD ((chc y n 9).1) []))) (some (.blk 62 [(.sl (.sels l)), (.sl (.bytes y)), (.nat ((chc y n 9).2))]))) ?_
 refine oaz1 (oaz1 (oaz1 (oaz1 ?_)))
 exact hk
 cases e
theorem Ql3 (l : Bs) (i : Nat) (h : i < l.length) : (upp (l.take i) ++ l.drop i).getD i 0 = l.getD i 0 := by
 have e : (upp (l.take i)).length = i := by simp [upp]; omega
 rw [za, List.getElem?_append_right (by omega), e, Nat.sub_self, List.getElem?_drop, Nat.add_zero, za]
theorem QoK (l : Bs) (i : Nat) (h : i < l.length) : (upp (l.take i) ++ l.drop i).set i (upB (l.getD i 0)) = upp (l.take (i + 1)) ++ l.drop (i + 1) := by
 have e : (upp (l.take i)).length = i := by simp [upp]; omega
 rw [List.set_append_right _ _ (by omega), e, Nat.sub_self, zL, zP h, List.set_cons_zero, zi h]
 simp only [upp, List.map_append, za, zi h, Option.getD_some, z7, zJ, List.map_nil, zo, zT]
theorem Ql2 (l : Bs) (i : Nat) (h : i < l.length) (hc : upB (l.getD i 0) = l.getD i 0) : upp (l.take i) ++ l.drop i = upp (l.take (i + 1)) ++ l.drop (i + 1) := by
 have e : (upp (l.take i)).length = i := by simp [upp]; omega
 rw [zL, zP h, zi h]
 simp only [za, zi h, Option.getD_some] at hc
 simp only [upp, List.map_append, z7, zJ, List.map_nil, zo, zT, hc]
def c84 (svs : List SV) (b : Option SB) : QR := match svs, b with
 | [.str l], none => some ([l.length <= 1000000000], .str (upp l))
 | _, _ => none
noncomputable def W84 : Wk := ⟨[], Qp Tryz.f84, false, false, [.tmp 2], [9], [(3, 24)], []⟩
theorem has84 : Has 84 := hsf Tryz.f84
theorem oaz3 {c0 p0 q : Prop} (k : q) (h : c0 -> p0 /\ True := by intro g0; (try simp at g0); exact ⟨(by first | omega | (simp; done) | (simp; omega) | (simp; assumption)), trivial⟩) : (c0 -> p0 /\ True) /\ q := ⟨h, k⟩
theorem Qcd {p q : Prop} (k : q) (h : p := by first | omega | (simp; done) | (simp; omega) | (simp; assumption)) : p /\ q := ⟨h, k⟩
theorem sat84 : Sat 84 (Qv c84) := by
 have hD : Qe W84.D := Qe.nil
 refine W84.sa hD Tryz.f84 fun svs b K hP => ?_
 obtain ⟨ps, v, e, hp, hk⟩ := Qk hP
 unfold c84 at e
 split at e
 rename_i l
 cases e
 obtain ⟨h01, _⟩ := hp
 have L3 : ∀ (mm : Nat) (i : Nat), l.length - i = mm -> (i <= l.length) -> W84.L K 3 (mkS 33 [(3, (.own 1)), (4, (.nat i))] [(1, .row (.bytes (upp (l.take i) ++ l.drop i)) false)] 2) := by
  intro mm
  induction mm using zl with
  | _ mm ih =>
   intro i hm hI
   have q : (upp (l.take i) ++ l.drop i).length = l.length := by simp [upp]; omega
   refine W84.aL hD (have a0 := upp (l.take i) ++ l.drop i; have a1 := (decide (97 <= bat a0 i)) = true -> (i < a0.length) /\ True; cond (decide (i < a0.length)) ((i < a0.length) /\ (i < a0.length) /\ a1 /\ a1 /\ cond ((decide (97 <= bat a0 i)) && (decide (bat a0 i <= 122))) ((i < a0.length) /\ (i < a0.length) /\ (i < a0.length) /\ (i < a0.length) /\ (i + 1 <= 9223372036854775807) /\ (W84).L K 3 (mkS 33 [(3, (.own 1)), (4, (.nat (i + 1)))] [(1, .row (.bytes (a0.set i (a0.getD i 0 - 32))) false)] 2)) ((i + 1 <= 9223372036854775807) /\ (W84).L K 3 (mkS 33 [(3, (.own 1)), (4, (.nat (i + 1)))] [(1, .row (.bytes a0) false)] 2))) (K (.val (.str a0)) none)) ?_
   refine Qc ?_ ?_ <;> intro h1 <;> try simp [-za, -zb] at h1
   refine Qcd (Qcd (oaz3 (oaz3 ?_)))
   refine Qc ?_ ?_ <;> intro h2 <;> try simp [-za, -zb] at h2
   refine Qcd (Qcd (Qcd (Qcd (Qcd ?_))))
   have h0 : i < l.length := by simp [upp] at h1; omega
   have ea := Ql3 l i h0
   have h2' : 97 <= (l.getD i 0).toNat /\ (l.getD i 0).toNat <= 122 := by rw [<- ea]; exact h2
   have e : ((upp (l.take i) ++ l.drop i).set i ((upp (l.take i) ++ l.drop i).getD i 0 - 32)) = upp (l.take (i + 1)) ++ l.drop (i + 1) := by
    rw [<- QoK l i h0, ea]; unfold upB; rw [if_pos h2']
   rw [e]
   exact ih _ (by omega) (i + 1) rfl (by omega)
   refine Qcd ?_
   have h0 : i < l.length := by simp [upp] at h1; omega
   have ea := Ql3 l i h0
   have h2' : ¬ (97 <= (l.getD i 0).toNat /\ (l.getD i 0).toNat <= 122) := by rw [<- ea]; intro c; have := h2 c.1; have q2 : ((upp (l.take i) ++ l.drop i).getD i 0).toNat <= 122 := c.2; simp only [bat] at this; omega
   rw [Ql2 l i h0 (by unfold upB; rw [if_neg h2'])]
   exact ih _ (by omega) (i + 1) rfl (by omega)
   have h0 : i = l.length := by simp [upp] at h1; omega
   rw [h0, List.take_length, List.drop_length, zC]
   exact hk
 refine W84.en ((l.length <= 1099511627776) /\ (W84).L K 3 (mkS 33 [(3, (.own 1)), (4, (.nat 0))] [(1, .row (.bytes l) false)] 2)) ?_
 refine Qcd ?_
 exact L3 _ 0 rfl (by omega)
 cases e
def c60 (svs : List SV) (b : Option SB) : FR := match svs, b with
 | [.ptr 0 0, .str s], some (.blk 62 [.sl (.sels l), .sl (.bytes y), .nat n]) => some ([n <= 900000000000, s.length <= 1000000000], .val (.str (Qm y s n).1), some (.blk 62 [.sl (.sels l), .sl (.bytes y), .nat (Qm y s n).2]))
 | _, _ => none
noncomputable def W60 : Wk := ⟨[(58, .fn c58), (84, .pure c84)], Qp Tryz.f60, true, false, [.tmp 4], [9], [], []⟩
theorem Qkl : Has 60 := hsf Tryz.f60
theorem QjH : Sat 60 (fnS c60) := by
 have hD : Qe W60.D := (Qe.cons QeZ Qes (Qe.cons has84 sat84 Qe.nil))
 refine W60.sa hD Tryz.f60 fun svs b K hP => ?_
 obtain ⟨ps, o, b', e, hp, hk⟩ := YG hP
 unfold c60 at e
 split at e
 rename_i s l y n
 cases e
 obtain ⟨h01, h02, _⟩ := hp
 refine W60.en (have a0 : Option SB := some (.blk 62 [(.sl (.sels l)), (.sl (.bytes y)), (.nat ((chc y n 4).2))]); (0 < 4) /\ (n <= 1000000000000) /\ cond (!(decide ((chc y n 4).1 = 1))) (K (.val (.str s)) a0) ((s.length <= 1000000000) /\ K (.val (.str (upp s))) a0)) ?_
 refine Qcd (Qcd ?_)
 refine Qc ?_ ?_ <;> intro h1 <;> try simp [-za, -zb] at h1
 refine Zt hk ?_
 unfold Qm
 rw [if_neg h1]
 refine Qcd ?_
 refine Zt hk ?_
 unfold Qm
 rw [if_pos h1]
 cases e
theorem QbE {s : Bs} (h : s ≠ []) : 1 <= (Qr s).length := by
 obtain ⟨c, u, rfl⟩ := zB h
 unfold Qr
 split
 simp
 rw [nmF]
 have : nmP (bat (c :: u) 0) 0 c ≠ [] := by
  unfold nmP
  split
  simp [VQ]
  split <;> simp
 have := zu.2 this
 simp only [zd]; omega
def c103 (svs : List SV) (b : Option SB) : QR := match svs, b with
 | [.str s, .nat i, .nat k], none => some ([s.length <= 90000 /\ i + k <= s.length /\ 0 < k], .str (Zb s i k))
 | _, _ => none
noncomputable def W103 : Wk := ⟨[(62, .pure c62), (88, .pure c88)], Qp Tryz.f103, false, false, [.tmp 6], [9], [], []⟩
theorem QtL : Has 103 := hsf Tryz.f103
theorem oaz6 {c0 c1 p0 q : Prop} (k : q) (h : c0 -> c1 -> p0 /\ True := by intro g0 g1; (try simp at g0); (try simp at g1); exact ⟨(by first | omega | (simp; omega) | (simp at *; omega)), trivial⟩) : (c0 -> c1 -> p0 /\ True) /\ q := ⟨h, k⟩
theorem oaz5 {c0 p0 q : Prop} (k : q) (h : c0 -> p0 /\ True := by intro g0; (try simp at g0); exact ⟨(by first | omega | (simp; omega) | (simp at *; omega)), trivial⟩) : (c0 -> p0 /\ True) /\ q := ⟨h, k⟩
theorem Qaw {p q : Prop} (k : q) (h : p := by first | omega | (simp; omega) | (simp at *; omega)) : p /\ q := ⟨h, k⟩
theorem Qsk : Sat 103 (Qv c103) := by
 have hD : Qe W103.D := (Qe.cons QeY Qer (Qe.cons QhM QgS Qe.nil))
 refine W103.sa hD Tryz.f103 fun svs b K hP => ?_
 obtain ⟨ps, v, e, hp, hk⟩ := Qk hP
 unfold c103 at e
 split at e
 rename_i s i k
 cases e
 obtain ⟨⟨h01, h02, h03⟩, _⟩ := hp
 have n1 := Vk (s.take k ++ [120])
 have n2 := QbE (s := s.take k ++ [120]) (by simp)
 have n3 := Vk (120 :: (s.take (i + k)).drop i)
 have n4 := QbE (s := 120 :: (s.take (i + k)).drop i) (by simp)
 have n5 := Ur s i
 refine W103.en (have a0 := Qr (s.take k ++ [120]); have a1 := (s.take (i + k)).drop i; have a2 := (s.take k).length + 1 <= 2305843009213693952; cond (decide (i = 0)) (cond (decide (s = [45])) (K (.val (.str [92, 45])) none) ((k <= s.length) /\ a2 /\ ((s.take k ++ [120]).length <= 100000) /\ (k <= s.length) /\ a2 /\ ((s.take k ++ [120]).length <= 100000) /\ (1 <= a0.length /\ a0.length <= 9223372036854775807) /\ (a0.length - 1 <= a0.length) /\ K (.val (.str (a0.take (a0.length - 1)))) none)) ((i < s.length) /\ ((decide (bat s i = 45)) = false -> (i < s.length) /\ True) /\ ((decide (bat s i = 45)) = false -> (decide (48 <= bat s i)) = true -> (i < s.length) /\ True) /\ cond ((decide (bat s i = 45)) || ((decide (48 <= bat s i)) && (decide (bat s i <= 57)))) ((i < s.length) /\ (bat s i <= 2147483647) /\ K (.val (.str (VQ (bat s i)))) none) ((i + k <= 9223372036854775807) /\ (i <= i + k /\ i + k <= s.length) /\ (1 + a1.length <= 2305843009213693952) /\ (([120] ++ a1).length <= 100000) /\ (1 <= (Qr ([120] ++ a1)).length) /\ K (.val (.str ((Qr ([120] ++ a1)).drop 1))) none))) ?_
 refine Qc ?_ ?_ <;> intro h1 <;> try simp [-za, -zb] at h1
 refine Qc (fun h2 => ?_) (fun h2 => ?_)
 try simp [-za, -zb] at h2
 refine Vf hk ?_
 unfold Zb
 rw [if_pos h1, if_pos h2]
 try simp [-za, -zb] at h2
 refine Qaw (Qaw (Qaw (Qaw (Qaw (Qaw (Qaw (Qaw ?_)))))))
 refine Vf hk ?_
 unfold Zb
 rw [if_pos h1, if_neg h2]
 refine Qaw (oaz5 (oaz6 ?_))
 refine Qc ?_ ?_ <;> intro h2 <;> try simp [-za, -zb] at h2
 refine Qaw (Qaw ?_)
 refine Vf hk ?_
 unfold Zb
 rw [if_neg h1, if_pos (by simp only [Qw, zh, decide_eq_true_eq]; exact h2)]
 refine Qaw (Qaw (Qaw (Qaw (Qaw ?_))))
 refine Vf hk ?_
 unfold Zb
 rw [if_neg h1, if_neg (by simp only [Qw, zh, decide_eq_true_eq]; omega)]
 rfl
 cases e
end
section
open Go Go.RowKit
set_option maxRecDepth 20000
theorem Uo {c : Nat} (h : c <= 1114111) : (VQ c).length <= 8 := by
 obtain ⟨ds, e1, _, _, _, e5⟩ := Way.QlD c 6 [] (by omega)
 unfold VQ
 rw [e1]; simp; omega
theorem Qe3 {s : Bs} {i k : Nat} (hk : 0 < k) : (Zb s i k).length <= 8 * k := by
 unfold Zb
 split
 split
 simp; omega
 have := Vk (s.take k ++ [120])
 have := List.length_take_le k s
 simp at *; omega
 split
 have := Y1 (Ur s i); omega
 have := Vk (120 :: (s.take (i + k)).drop i)
 have e : ((s.take (i + k)).drop i).length <= k := by rw [zj, zk]; omega
 rw [ze] at this
 rw [zj]; omega
theorem QeC {s : Bs} {i k : Nat} (hk : 0 < k) : (Qr (120 :: (s.take (i + k)).drop i)).length <= 8 * k /\ 1 <= (Qr (120 :: (s.take (i + k)).drop i)).length := by
 have := Vk (120 :: (s.take (i + k)).drop i)
 have e : ((s.take (i + k)).drop i).length <= k := by rw [zj, zk]; omega
 rw [ze] at this
 exact ⟨by omega, QbE (by simp)⟩
theorem ZJ {s : Bs} {i : Nat} (hr : QE s i = true) (hi : i < s.length) : (Ql s i).2 ≠ 0 /\ QE s (i + (Ql s i).2) = true /\ i + (Ql s i).2 <= s.length /\ (Ql s i).1 <= 1114111 := by
 obtain ⟨r1, r2⟩ := Law.readGo_step hr hi
 obtain ⟨_, h2, h3⟩ := Way.Zp hi r1
 exact ⟨r1, r2, h2, h3⟩
theorem Qpc {s : Bs} {i c k : Nat} {e : Bool} (hk : 0 < k) (hc : c <= 1114111) : (pnP s i c k e).length <= 8 * k := by
 unfold pnP
 split
 have := Uo hc; omega
 split
 exact Qe3 hk
 have := (QeC (s := s) (i := i) hk).1
 rw [zj]; omega
theorem QsI (y : Bs) {s : Bs} : ∀ (d i n : Nat) (o : Bs), s.length - i = d -> i <= s.length -> QE s i = true -> (UU y s i n o).1.length <= o.length + 8 * d /\ n <= (UU y s i n o).2 /\ (UU y s i n o).2 <= n + d := by
 intro d
 induction d using zl with
 | _ d ih =>
  intro i n o hd hi hr
  rw [UU]
  by_cases h : i < s.length
  obtain ⟨f1, f2, f3, f4⟩ := ZJ hr h
  rw [if_pos ⟨h, f1⟩]
  obtain ⟨q1, q2, q3⟩ := ih (s.length - (i + (Ql s i).2)) (by omega) (i + (Ql s i).2) (chc y n 6).2 (o ++ pnP s i (Ql s i).1 (Ql s i).2 (decide ((chc y n 6).1 = 1))) rfl f3 f2
  have c2 := YH y n 6
  have pl := Qpc (s := s) (i := i) (e := decide ((chc y n 6).1 = 1)) (xx f1) f4
  rw [zd] at q1
  exact ⟨by omega, by omega, by omega⟩
  rw [if_neg (fun q => h q.1)]
  exact ⟨by simp, by simp, by simp⟩
theorem QiU (y : Bs) {s : Bs} (n : Nat) (hr : QE s 0 = true) : (V3 y s n).1.length <= 8 * s.length /\ n <= (V3 y s n).2 /\ (V3 y s n).2 <= n + s.length := by
 obtain ⟨q1, q2, q3⟩ := QsI y s.length 0 n [] (by simp) (Nat.zero_le _) hr
 unfold V3
 refine ⟨?_, q2, q3⟩
 simp only
 split
 rename_i h; rw [h]; simp
 simpa using q1
theorem QfE {y s : Bs} {i n : Nat} {o P : Bs} {X : Bs × Nat} (hi : i < s.length) (h : (Ql s i).2 ≠ 0) (k : UU y s i n o = X) (e : pnP s i (Ql s i).1 (Ql s i).2 (decide ((chc y n 6).1 = 1)) = P) :
 UU y s (i + (Ql s i).2) (chc y n 6).2 (o ++ P) = X := by
 rw [UU, if_pos ⟨hi, h⟩, e] at k
 exact k
theorem QmT {y s : Bs} {i n : Nat} {o : Bs} {X : Bs × Nat} (hi : ¬ i < s.length) (k : UU y s i n o = X) : X = (o, n) := by
 rw [UU, if_neg (fun q => hi q.1)] at k
 exact k.symm
def c85 (svs : List SV) (b : Option SB) : FR := match svs, b with
 | [.ptr 0 0, .str s], some (.blk 62 [.sl (.sels l), .sl (.bytes y), .nat n]) => some ([n <= 800000000000, s.length <= 90000, QE s 0 = true], .val (.str (V3 y s n).1), some (.blk 62 [.sl (.sels l), .sl (.bytes y), .nat (V3 y s n).2]))
 | _, _ => none
noncomputable def W85 : Wk := ⟨[(41, .pure c41), (58, .fn c58), (62, .pure c62), (88, .pure c88), (103, .pure c103)], Qp Tryz.f85, true, false, [.tmp 4], [9], [(3, 99)], []⟩
theorem Qq0 : Has 85 := hsf Tryz.f85
theorem obz1 {c0 c1 p0 q : Prop} (k : q) (h : c0 -> c1 -> p0 /\ True := by intro g0 g1; (try simp at g0); (try simp at g1); exact ⟨(by first | omega | exact h03 | (have := q (by omega); omega) | (have := q (by omega); simp only [zd, zj, ze, zf, zk]; omega) | (have := q h1; have := YH y m 6; omega)), trivial⟩) : (c0 -> c1 -> p0 /\ True) /\ q := ⟨h, k⟩
theorem UF {p q : Prop} (k : q) (h : p := by first | omega | exact h03 | (have := q (by omega); omega) | (have := q (by omega); simp only [zd, zj, ze, zf, zk]; omega) | (have := q h1; have := YH y m 6; omega)) : p /\ q := ⟨h, k⟩
theorem Qqx : Sat 85 (fnS c85) := by
 have hD : Qe W85.D := (Qe.cons QnK Qmt (Qe.cons QeZ Qes (Qe.cons QeY Qer (Qe.cons QhM QgS (Qe.cons QtL Qsk Qe.nil)))))
 refine W85.sa hD Tryz.f85 fun svs b K hP => ?_
 obtain ⟨ps, o, b', e, hp, hk⟩ := YG hP
 unfold c85 at e
 split at e
 rename_i s l y n
 cases e
 obtain ⟨h01, h02, h03, _⟩ := hp
 have L3 : ∀ (mm : Nat) (i m : Nat) (o : List UInt8), s.length - i = mm -> (UU y s i m o = UU y s 0 n [] /\ QE s i = true /\ i <= s.length /\ o.length <= 8 * i /\ m <= n + i) -> W85.L K 3 (mkS 64 [(0, (.ptr 0 0)), (1, (.str s)), (5, (.str o)), (6, (.nat i))] [(0, .blk 62 [(.sl (.sels l)), (.sl (.bytes y)), (.nat m)])] 1) := by
  intro mm
  induction mm using zl with
  | _ mm ih =>
   intro i m o hm hI
   obtain ⟨k1, k2, k3, k4, k5⟩ := hI
   have q : i < s.length -> (Ql s i).2 ≠ 0 /\ QE s (i + (Ql s i).2) = true /\ i + (Ql s i).2 <= s.length /\ (Ql s i).1 <= 1114111 /\ (VQ (Ql s i).1).length <= 8 /\ (Zb s i (Ql s i).2).length <= 8 * (Ql s i).2 /\ (Qr ([120] ++ (s.take (i + (Ql s i).2)).drop i)).length <= 8 * (Ql s i).2 /\ 1 <= (Qr ([120] ++ (s.take (i + (Ql s i).2)).drop i)).length := fun h => by
    obtain ⟨f1, f2, f3, f4⟩ := ZJ k2 h
    have p1 := QeC (s := s) (i := i) (xx f1)
    exact ⟨f1, f2, f3, f4, Uo f4, Qe3 (xx f1), p1.1, p1.2⟩
   refine W85.aL hD (have a1 := i + (Ql s i).2 <= 9223372036854775807; have a2 : Option SB := some (.blk 62 [(.sl (.sels l)), (.sl (.bytes y)), (.nat m)]); have a3 := i + (Ql s i).2; have a0 := (s.take a3).drop i; cond (decide (i < s.length)) ((s.length <= 1000000) /\ (i < s.length) /\ cond (decide ((Ql s i).2 = 0)) ((s.length <= 100000) /\ K (.val (.str (Qr s))) a2) ((0 < 6) /\ (m <= 1000000000000) /\ cond (decide ((chc y m 6).1 = 1)) (((Ql s i).1 <= 2147483647) /\ (o.length + (VQ ((Ql s i).1)).length <= 2305843009213693952) /\ a1 /\ (W85).L K 3 (mkS 64 [(0, (.ptr 0 0)), (1, (.str s)), (5, (.str (o ++ (VQ ((Ql s i).1))))), (6, (.nat a3))] [(0, .blk 62 [(.sl (.sels l)), (.sl (.bytes y)), (.nat ((chc y m 6).2))])] 1)) (((decide (i = 0)) = false -> (decide (i = 1)) = true -> (0 < s.length) /\ True) /\ cond ((decide (i = 0)) || ((decide (i = 1)) && (decide (bat s 0 = 45)))) ((s.length <= 90000 /\ a3 <= s.length /\ 0 < (Ql s i).2) /\ (o.length + (Zb s i ((Ql s i).2)).length <= 2305843009213693952) /\ a1 /\ (W85).L K 3 (mkS 64 [(0, (.ptr 0 0)), (1, (.str s)), (5, (.str (o ++ (Zb s i ((Ql s i).2))))), (6, (.nat a3))] [(0, .blk 62 [(.sl (.sels l)), (.sl (.bytes y)), (.nat ((chc y m 6).2))])] 1)) (a1 /\ (i <= i + (Ql s i).2 /\ i + (Ql s i).2 <= s.length) /\ (1 + a0.length <= 2305843009213693952) /\ (([120] ++ a0).length <= 100000) /\ (1 <= (Qr ([120] ++ a0)).length) /\ (o.length + ((Qr ([120] ++ a0)).drop 1).length <= 2305843009213693952) /\ a1 /\ (W85).L K 3 (mkS 64 [(0, (.ptr 0 0)), (1, (.str s)), (5, (.str (o ++ ((Qr ([120] ++ a0)).drop 1)))), (6, (.nat a3))] [(0, .blk 62 [(.sl (.sels l)), (.sl (.bytes y)), (.nat ((chc y m 6).2))])] 1))))) (cond (decide (s = [45])) (K (.val (.str [92, 45])) a2) (K (.val (.str o)) a2))) ?_
   refine Qc ?_ ?_ <;> intro h1 <;> try simp [-za, -zb] at h1
   refine UF (UF ?_)
   refine Qc ?_ ?_ <;> intro h2 <;> try simp [-za, -zb] at h2
   refine UF ?_
   exact absurd h2 (q h1).1
   refine UF (UF ?_)
   refine Qc ?_ ?_ <;> intro h3 <;> try simp [-za, -zb] at h3
   refine UF (UF (UF ?_))
   exact ih _ (by have := q h1; omega) (i + (Ql s i).2) _ _ rfl ⟨QfE h1 (q h1).1 k1 (by unfold pnP; rw [if_pos (by simpa using h3)]), (q h1).2.1, (q h1).2.2.1, by have := q h1; simp only [zd, zj]; omega, by have := YH y m 6; have := q h1; omega⟩
   refine obz1 ?_
   refine Qc ?_ ?_ <;> intro h4 <;> try simp [-za, -zb] at h4
   refine UF (UF (UF ?_))
   exact ih _ (by have := q h1; omega) (i + (Ql s i).2) _ _ rfl ⟨QfE h1 (q h1).1 k1 (by unfold pnP; rw [if_neg (by simpa using h3), if_pos h4]), (q h1).2.1, (q h1).2.2.1, by have := q h1; simp only [zd, zj]; omega, by have := YH y m 6; have := q h1; omega⟩
   refine UF (UF (UF (UF (UF (UF (UF ?_))))))
   exact ih _ (by have := q h1; omega) (i + (Ql s i).2) _ _ rfl ⟨QfE h1 (q h1).1 k1 (by unfold pnP; rw [if_neg (by simpa using h3), if_neg (by omega)]; rfl), (q h1).2.1, (q h1).2.2.1, by have := q h1; simp only [zd, zj]; omega, by have := YH y m 6; have := q h1; omega⟩
   refine Qc (fun h2 => ?_) (fun h2 => ?_)
   try simp [-za, -zb] at h2
   refine Zt hk ?_
   have e := QmT (by omega) k1
   unfold V3
   rw [if_pos h2, e]
   try simp [-za, -zb] at h2
   refine Zt hk ?_
   have e := QmT (by omega) k1
   unfold V3
   rw [if_neg h2, e]
 refine W85.en ((W85).L K 3 (mkS 64 [(0, (.ptr 0 0)), (1, (.str s)), (5, (.str [])), (6, (.nat 0))] [(0, .blk 62 [(.sl (.sels l)), (.sl (.bytes y)), (.nat n)])] 1)) ?_
 exact L3 _ 0 n [] rfl ⟨rfl, h03, by omega, by simp, by omega⟩
 cases e
theorem Qo9 {y s : Bs} {q : UInt8} {i n : Nat} (hr : QE s i = true) (h : i < s.length) : (ptP y s q i n).1.length <= 8 * (Ql s i).2 /\ n <= (ptP y s q i n).2 /\ (ptP y s q i n).2 <= n + 1 := by
 obtain ⟨f1, f2, f3, f4⟩ := ZJ hr h
 have e8 := Uo f4
 have c2 := YH y n 8
 have e : ((s.take (i + (Ql s i).2)).drop i).length <= (Ql s i).2 := by rw [zj, zk]; omega
 unfold ptP
 split
 exact ⟨by simp only; omega, by simp, by simp⟩
 split
 exact ⟨by simp only; omega, c2.1, c2.2⟩
 split
 exact ⟨by simp; omega, c2.1, c2.2⟩
 exact ⟨by simp only; omega, c2.1, c2.2⟩
theorem QsE (y : Bs) {s : Bs} (q : UInt8) : ∀ (d i n : Nat) (o : Bs), s.length - i = d -> i <= s.length -> QE s i = true -> (Qav y s q i n o).1.length <= o.length + 8 * d /\ n <= (Qav y s q i n o).2 /\ (Qav y s q i n o).2 <= n + d := by
 intro d
 induction d using zl with
 | _ d ih =>
  intro i n o hd hi hr
  rw [Qav]
  by_cases h : i < s.length
  obtain ⟨f1, f2, f3, f4⟩ := ZJ hr h
  rw [if_pos ⟨h, f1⟩]
  obtain ⟨q1, q2, q3⟩ := ih (s.length - (i + (Ql s i).2)) (by omega) (i + (Ql s i).2) (ptP y s q i n).2 (o ++ (ptP y s q i n).1) rfl f3 f2
  obtain ⟨p1, p2, p3⟩ := Qo9 (y := y) (q := q) (n := n) hr h
  rw [zd] at q1
  exact ⟨by omega, by omega, by omega⟩
  rw [if_neg (fun q => h q.1)]
  exact ⟨by simp, by simp, by simp⟩
theorem QjN (y : Bs) {s : Bs} (q : UInt8) (n : Nat) (hr : QE s 0 = true) : (YS y s q n).1.length <= 8 * s.length + 2 /\ n <= (YS y s q n).2 /\ (YS y s q n).2 <= n + s.length := by
 obtain ⟨q1, q2, q3⟩ := QsE y q s.length 0 n [q] (by simp) (Nat.zero_le _) hr
 unfold YS
 refine ⟨?_, q2, q3⟩
 simp only [zd, ze, zf] at q1 ⊢
 omega
theorem Ql6 (y : Bs) {s : Bs} (n : Nat) (hr : QE s 0 = true) : (VJ y s n).1.length <= 8 * s.length + 2 /\ n <= (VJ y s n).2 /\ (VJ y s n).2 <= n + s.length + 1 := by
 have c := YH y n 3
 unfold VJ
 split
 have := QjN y 39 (chc y n 3).2 hr; exact ⟨by omega, by omega, by omega⟩
 split
 have := QiU y (chc y n 3).2 hr; exact ⟨by omega, by omega, by omega⟩
 have := QjN y 34 (chc y n 3).2 hr; exact ⟨by omega, by omega, by omega⟩
theorem Qcs {y s : Bs} {q : UInt8} {i n m : Nat} {o P : Bs} {X : Bs × Nat} (hi : i < s.length) (h : (Ql s i).2 ≠ 0) (k : Qav y s q i n o = X) (e : ptP y s q i n = (P, m)) :
 Qav y s q (i + (Ql s i).2) m (o ++ P) = X := by
 rw [Qav, if_pos ⟨hi, h⟩, e] at k
 exact k
theorem QsG {y s : Bs} {q : UInt8} {i n : Nat} {o : Bs} {X : Bs × Nat} (hi : ¬ i < s.length) (k : Qav y s q i n o = X) : X = (o, n) := by
 rw [Qav, if_neg (fun q => hi q.1)] at k
 exact k.symm
def c86 (svs : List SV) (b : Option SB) : FR := match svs, b with
 | [.ptr 0 0, .str s], some (.blk 62 [.sl (.sels l), .sl (.bytes y), .nat n]) => some ([n <= 700000000000, s.length <= 90000, QE s 0 = true], .val (.str (VJ y s n).1), some (.blk 62 [.sl (.sels l), .sl (.bytes y), .nat (VJ y s n).2]))
 | _, _ => none
noncomputable def W86 : Wk := ⟨[(41, .pure c41), (58, .fn c58), (82, .pure c82), (85, .fn c85), (88, .pure c88)], Qp Tryz.f86, true, false, [.tmp 4], [9], [(10, 227)], []⟩
theorem has86 : Has 86 := hsf Tryz.f86
theorem Ji {p q : Prop} (k : q) (h : p := by first | omega | exact h03 | (have := q (by omega); omega) | (have := q (by omega); simp only [zd, zj, ze, zf, zk]; omega) | (have := q h1; have := YH y m 8; omega)) : p /\ q := ⟨h, k⟩
theorem sat86 : Sat 86 (fnS c86) := by
 have hD : Qe W86.D := (Qe.cons QnK Qmt (Qe.cons QeZ Qes (Qe.cons QnI Qms (Qe.cons Qq0 Qqx (Qe.cons QhM QgS Qe.nil)))))
 refine W86.sa hD Tryz.f86 fun svs b K hP => ?_
 obtain ⟨ps, o, b', e, hp, hk⟩ := YG hP
 unfold c86 at e
 split at e
 rename_i s l y n
 cases e
 obtain ⟨h01, h02, h03, _⟩ := hp
 have c3 := YH y n 3
 have L10 : ∀ (mm : Nat) (i m : Nat) (qq : UInt8) (o : List UInt8), s.length - i = mm -> (VJ y s n = YS y s qq (chc y n 3).2 /\ Qav y s qq i m o = Qav y s qq 0 (chc y n 3).2 [qq] /\ QE s i = true /\ i <= s.length /\ o.length <= 1 + 8 * i /\ m <= n + 1 + i) -> W86.L K 10 (mkS 84 [(0, (.ptr 0 0)), (1, (.str s)), (5, (.byt qq)), (6, (.own 1)), (7, (.nat i))] [(0, .blk 62 [(.sl (.sels l)), (.sl (.bytes y)), (.nat m)]), (1, .row (.bytes o) true)] 2) := by
  intro mm
  induction mm using zl with
  | _ mm ih =>
   intro i m qq o hm hI
   obtain ⟨k0, k1, k2, k3, k4, k5⟩ := hI
   have q : i < s.length -> (Ql s i).2 ≠ 0 /\ QE s (i + (Ql s i).2) = true /\ i + (Ql s i).2 <= s.length /\ (Ql s i).1 <= 1114111 /\ (VQ (Ql s i).1).length <= 8 := fun h => by
    obtain ⟨f1, f2, f3, f4⟩ := ZJ k2 h
    exact ⟨f1, f2, f3, f4, Uo f4⟩
   refine W86.aL hD (have a0 := i + (Ql s i).2 <= 9223372036854775807; have a1 := i + (Ql s i).2; have a2 : SV := .sl (.bytes y); have a3 := (decide ((Ql s i).1 < 32)) || (decide ((Ql s i).1 = 127)); have a4 : SV := .sl (.sels l); have a5 := VQ ((Ql s i).1); cond (decide (i < s.length)) ((s.length <= 1000000) /\ (i < s.length) /\ cond (decide ((Ql s i).2 = 0)) ((s.length <= 100000) /\ K (.val (.str (QQ s))) (some (.blk 62 [a4, a2, (.nat m)]))) ((a3 = false -> (0 < 8) /\ (m <= 1000000000000) /\ cond (decide ((chc y m 8).1 = 1)) (((Ql s i).1 <= 2147483647) /\ (o.length + a5.length <= 1099511627776) /\ a0 /\ (W86).L K 10 (mkS 84 [(0, (.ptr 0 0)), (1, (.str s)), (5, (.byt qq)), (6, (.own 2)), (7, (.nat a1))] [(2, .row (.bytes (o ++ a5)) true), (0, .blk 62 [a4, a2, (.nat ((chc y m 8).2))])] 3)) (cond ((decide ((Ql s i).1 = qq.toNat)) || (decide ((Ql s i).1 = 92))) ((o.length + 2 <= 1099511627776) /\ a0 /\ (W86).L K 10 (mkS 84 [(0, (.ptr 0 0)), (1, (.str s)), (5, (.byt qq)), (6, (.own 3)), (7, (.nat a1))] [(3, .row (.bytes (o ++ [92, zx ((Ql s i).1)])) true), (0, .blk 62 [a4, a2, (.nat ((chc y m 8).2))])] 4)) (a0 /\ (i <= i + (Ql s i).2 /\ i + (Ql s i).2 <= s.length) /\ (o.length + ((s.take a1).drop i).length <= 1099511627776) /\ a0 /\ (W86).L K 10 (mkS 84 [(0, (.ptr 0 0)), (1, (.str s)), (5, (.byt qq)), (6, (.own 2)), (7, (.nat a1))] [(2, .row (.bytes (o ++ ((s.take a1).drop i))) true), (0, .blk 62 [a4, a2, (.nat ((chc y m 8).2))])] 3)))) /\ (a3 = true -> ((Ql s i).1 <= 2147483647) /\ (o.length + a5.length <= 1099511627776) /\ a0 /\ (W86).L K 10 (mkS 84 [(0, (.ptr 0 0)), (1, (.str s)), (5, (.byt qq)), (6, (.own 2)), (7, (.nat a1))] [(2, .row (.bytes (o ++ a5)) true), (0, .blk 62 [a4, a2, (.nat m)])] 3)))) ((o.length + 1 <= 1099511627776) /\ K (.val (.str (o ++ [qq]))) (some (.blk 62 [a4, a2, (.nat m)])))) ?_
   refine Qc ?_ ?_ <;> intro h1 <;> try simp [-za, -zb] at h1
   refine Ji (Ji ?_)
   refine Qc ?_ ?_ <;> intro h2 <;> try simp [-za, -zb] at h2
   refine Ji ?_
   exact absurd h2 (q h1).1
   refine ⟨fun h3 => ?_, fun h3 => ?_⟩
   try simp [-za, -zb] at h3
   refine Ji (Ji ?_)
   refine Qc ?_ ?_ <;> intro h4 <;> try simp [-za, -zb] at h4
   refine Ji (Ji (Ji ?_))
   exact Wk.L.rn [0, 2] (ih _ (by have := q (by omega); omega) (i + (Ql s i).2) _ qq _ rfl ⟨k0, Qcs (by omega) (q (by omega)).1 k1 (by unfold ptP; rw [if_neg (by omega), if_pos h4]), (q (by omega)).2.1, (q (by omega)).2.2.1, by have := q (by omega); simp only [zd, zj, zk, ze, zf]; omega, by have := YH y m 8; have := q (by omega); omega⟩)
   refine Qc (fun h5 => ?_) (fun h5 => ?_)
   try simp [-za, -zb] at h5
   refine Ji (Ji ?_)
   exact Wk.L.rn [0, 3] (ih _ (by have := q (by omega); omega) (i + (Ql s i).2) _ qq _ rfl ⟨k0, Qcs (by omega) (q (by omega)).1 k1 (by unfold ptP; rw [if_neg (by omega), if_neg h4, if_pos h5]), (q (by omega)).2.1, (q (by omega)).2.2.1, by have := q (by omega); simp only [zd, zj, zk, ze, zf]; omega, by have := YH y m 8; have := q (by omega); omega⟩)
   try simp [-za, -zb] at h5
   refine Ji (Ji (Ji (Ji ?_)))
   exact Wk.L.rn [0, 2] (ih _ (by have := q (by omega); omega) (i + (Ql s i).2) _ qq _ rfl ⟨k0, Qcs (by omega) (q (by omega)).1 k1 (by unfold ptP; rw [if_neg (by omega), if_neg h4, if_neg (by omega)]), (q (by omega)).2.1, (q (by omega)).2.2.1, by have := q (by omega); simp only [zd, zj, zk, ze, zf]; omega, by have := YH y m 8; have := q (by omega); omega⟩)
   try simp [-za, -zb] at h3
   refine Ji (Ji (Ji ?_))
   exact Wk.L.rn [0, 2] (ih _ (by have := q (by omega); omega) (i + (Ql s i).2) _ qq _ rfl ⟨k0, Qcs (by omega) (q (by omega)).1 k1 (by unfold ptP; rw [if_pos h3]), (q (by omega)).2.1, (q (by omega)).2.2.1, by have := q (by omega); simp only [zd, zj, zk, ze, zf]; omega, by have := YH y m 8; have := q (by omega); omega⟩)
   refine Ji ?_
   refine Zt hk ?_
   have e := QsG (by omega) k1
   rw [k0]
   unfold YS
   rw [e]
 refine W86.en (have a0 := mkS 84 [(0, (.ptr 0 0)), (1, (.str s)), (5, (.byt 34)), (6, (.own 1)), (7, (.nat 0))] [(1, .row (.bytes [34]) true), (0, .blk 62 [(.sl (.sels l)), (.sl (.bytes y)), (.nat ((chc y n 3).2))])] 2; (0 < 3) /\ (n <= 1000000000000) /\ cond (decide ((chc y n 3).1 = 1)) ((W86).L K 10 (mkS 84 [(0, (.ptr 0 0)), (1, (.str s)), (5, (.byt 39)), (6, (.own 1)), (7, (.nat 0))] [(1, .row (.bytes [39]) true), (0, .blk 62 [(.sl (.sels l)), (.sl (.bytes y)), (.nat ((chc y n 3).2))])] 2)) (cond (decide ((chc y n 3).1 = 2)) (cond (!(decide (s = []))) (((chc y n 3).2 <= 800000000000) /\ (s.length <= 90000) /\ (QE s 0 = true) /\ K (.val (.str ((V3 y s ((chc y n 3).2)).1))) (some (.blk 62 [(.sl (.sels l)), (.sl (.bytes y)), (.nat ((V3 y s ((chc y n 3).2)).2))]))) ((W86).L K 10 a0)) ((W86).L K 10 a0))) ?_
 refine Ji (Ji ?_)
 refine Qc ?_ ?_ <;> intro h1 <;> try simp [-za, -zb] at h1
 exact Wk.L.rn [0, 1] (L10 _ 0 _ 39 [39] rfl ⟨by unfold VJ; rw [if_pos h1], rfl, h03, by omega, by simp, by omega⟩)
 refine Qc (fun h2 => ?_) (fun h2 => ?_)
 try simp [-za, -zb] at h2
 refine Qc ?_ ?_ <;> intro h3 <;> try simp [-za, -zb] at h3
 refine Ji (Ji (Ji ?_))
 refine Zt hk ?_
 unfold VJ
 rw [if_neg h1, if_pos ⟨h2, h3⟩]
 exact Wk.L.rn [0, 1] (L10 _ 0 _ 34 [34] rfl ⟨by unfold VJ; rw [if_neg h1, if_neg (fun c => c.2 h3)], rfl, h03, by omega, by simp, by omega⟩)
 try simp [-za, -zb] at h2
 exact Wk.L.rn [0, 1] (L10 _ 0 _ 34 [34] rfl ⟨by unfold VJ; rw [if_neg h1, if_neg (fun c => h2 c.1)], rfl, h03, by omega, by simp, by omega⟩)
 cases e
end
section
open Go Go.RowKit
set_option maxRecDepth 20000
def QO : Nat -> Prop -> SV -> Prop
 | 0, _, _ => True
 | n + 1, p, v => (p /\ v = v) /\ QO n p v
theorem Qi {p : Prop} {v : SV} (h : p) : ∀ {n : Nat}, QO n p v
 | 0 => trivial
 | _ + 1 => ⟨⟨h, rfl⟩, Qi h⟩
def c83z (svs : List SV) (b : Option SB) : QR := match svs, b with
 | [x, y], none => match toI x, toI y with
  | some a, some b => some ([-100000000000000000 <= a /\ a <= 100000000000000000, -100000000000000000 <= b /\ b <= 100000000000000000], .str (QC a b))
  | _, _ => none
 | _, _ => none
theorem Qrw : Sat 83 (Qv c83z) := by
 refine Sat.wk Qqy fun svs b K h => ?_
 obtain ⟨ps, v, e, hp, hk⟩ := Qk h
 unfold c83z at e
 split at e
 rename_i x y
 split at e
 rename_i a b hx hy
 cases e
 exact ⟨[.int .i64 a, .int .i64 b], ⟨fun ω v => YD hx, fun ω v => YD hy, trivial⟩, hp.1, hp.2.1, hk⟩
 cases e
 cases e
def Jp (y : Bs) (x : SelD) (n : Nat) : Bs × Nat :=
 let c := Qm y ([110, 116, 104, 45] ++ Q7.getD x.flag.toNat []) n; let g := Qh y c.2; let w := chc y g.2 3
 let t := Y3 y x.a x.b w.1 w.2; let h := Qh y t.2
 (58 :: (c.1 ++ (40 :: (g.1 ++ (t.1 ++ (h.1 ++ [41]))))), h.2)
theorem Qh5 {y : Bs} {x : SelD} {n : Nat} (h : ¬ (x.a = 0 /\ x.b = 1)) : Vr y x n = Jp y x n := by
 unfold Vr Jp
 simp only
 rw [if_neg (fun q => h ⟨q.1, q.2.1⟩), if_neg h]
theorem Qe9 {y : Bs} {x : SelD} {n : Nat} (h : x.a = 0 /\ x.b = 1) (h1 : ¬ (chc y n 2).1 = 1) : Vr y x n = Jp y x (chc y n 2).2 := by
 unfold Vr Jp
 simp only [if_pos h]
 rw [if_neg (fun q => h1 q.2.2)]
theorem Qe8 {y : Bs} {x : SelD} {n : Nat} (h : x.a = 0 /\ x.b = 1) (h1 : (chc y n 2).1 = 1) : Vr y x n = (58 :: (Qm y (ZI.getD x.flag.toNat []) (chc y n 2).2).1, (Qm y (ZI.getD x.flag.toNat []) (chc y n 2).2).2) := by
 unfold Vr
 simp only [if_pos h]
 rw [if_pos ⟨h.1, h.2, h1⟩]
def QdN (y : Bs) (x : SelD) (u : Bs) (w n : Nat) : Bs × Nat := ((((u ++ (Y3 y x.a x.b w n).1) ++ (Qh y (Y3 y x.a x.b w n).2).1) ++ [41]), (Qh y (Y3 y x.a x.b w n).2).2)
theorem Qqf {y : Bs} {x : SelD} {n : Nat} : Jp y x n = QdN y x ((([58] ++ (Qm y ([110, 116, 104, 45] ++ Q7.getD x.flag.toNat []) n).1) ++ [40]) ++ (Qh y (Qm y ([110, 116, 104, 45] ++ Q7.getD x.flag.toNat []) n).2).1)
 (chc y (Qh y (Qm y ([110, 116, 104, 45] ++ Q7.getD x.flag.toNat []) n).2).2 3).1 (chc y (Qh y (Qm y ([110, 116, 104, 45] ++ Q7.getD x.flag.toNat []) n).2).2 3).2 := by
 unfold Jp QdN
 simp
theorem Jo {y : Bs} {x : SelD} {u t : Bs} {w n m : Nat} (e : Y3 y x.a x.b w n = (t, m)) : QdN y x u w n = (((u ++ t) ++ (Qh y m).1) ++ [41], (Qh y m).2) := by
 unfold QdN
 rw [e]
def c87i (svs : List SV) (b : Option SB) : FR := match svs, b with
 | [.ptr 0 0, .agg [.int .i64 k, .int .i64 o, .str ke, .str va, .int .i64 a, .int .i64 bb, .int .i64 fl, .int .i64 sz]], some (.blk 62 [.sl (.sels l), .sl (.bytes y), .nat n]) => some ([-9999 <= (SelD.mk k o ke va a bb fl sz).a /\ (SelD.mk k o ke va a bb fl sz).a <= 9999 /\ -9999 <= (SelD.mk k o ke va a bb fl sz).b /\ (SelD.mk k o ke va a bb fl sz).b <= 9999, 0 <= (SelD.mk k o ke va a bb fl sz).flag /\ (SelD.mk k o ke va a bb fl sz).flag <= 3, n <= 800000000000], .val (.str (Vr y (SelD.mk k o ke va a bb fl sz) n).1), some (.blk 62 [.sl (.sels l), .sl (.bytes y), .nat (Vr y (SelD.mk k o ke va a bb fl sz) n).2]))
 | _, _ => none
noncomputable def W87 : Wk := ⟨[(34, .fn c34), (58, .fn c58), (60, .fn c60), (83, .pure c83z), (101, .pure Qh8), (102, .pure c102)], Qp Tryz.f87, true, false, [.tmp 4], [9], [(4, 9), (9, 201), (21, 65)], [4, 9, 21]⟩
theorem has87 : Has 87 := hsf Tryz.f87
theorem Yh {p q : Prop} (k : q) (h : p := by first | omega | (unfold inI; omega) | exact Way.Qjk (by decide) | (simp; done) | (simp only [zd, ze, zf, zk, zj, Qd]; omega)) : p /\ q := ⟨h, k⟩
theorem Qrv : Sat 87 (fnS c87i) := by
 have hD : Qe W87.D := (Qe.cons Qkm QjI (Qe.cons QeZ Qes (Qe.cons Qkl QjH (Qe.cons Qq1 Qrw (Qe.cons Qga Qfr (Qe.cons QnR Qmy Qe.nil))))))
 refine W87.sa hD Tryz.f87 fun svs b K hP => ?_
 obtain ⟨ps, o, b', e, hp, hk⟩ := YG hP
 unfold c87i at e
 split at e
 rename_i k o ke va a bb fl sz l y n
 cases e
 obtain ⟨⟨h01, h02, h03, h04⟩, ⟨h05, h06⟩, h07, _⟩ := hp
 simp only at h01 h02 h03 h04 h05 h06
 have s0 := QL (l := ZI) (n := 13) (by decide) fl.toNat
 unfold ZI at s0
 have c0 := YH y n 2
 have L21 : ∀ (mm : Nat) (m : Nat) (u : List UInt8), 0 = mm -> (Vr y (SelD.mk k o ke va a bb fl sz) n = ((u ++ (Qh y m).1) ++ [41], (Qh y m).2) /\ u.length <= 1000 /\ m <= n + 10) -> W87.C K 21 (mkS 211 [(0, (.ptr 0 0)), (6, (.str u))] [(0, .blk 62 [(.sl (.sels l)), (.sl (.bytes y)), (.nat m)])] 1) := by
  intro mm
  induction mm using zl with
  | _ mm ih =>
   intro m u hm hI
   obtain ⟨k0, k1, k2⟩ := hI
   have g2 := VF y m
   have gL := Vs y m
   refine W87.aC hD ((m <= 900000000000) /\ (u.length + ((Qh y m).1).length <= 2305843009213693952) /\ ((u ++ ((Qh y m).1)).length + 1 <= 2305843009213693952) /\ K (.val (.str (u ++ ((Qh y m).1) ++ [41]))) (some (.blk 62 [(.sl (.sels l)), (.sl (.bytes y)), (.nat ((Qh y m).2))]))) ?_
   refine Yh (Yh (Yh ?_))
   exact Zt hk k0
 have L9 : ∀ (mm : Nat) (w m : Nat) (u : List UInt8), 0 = mm -> (Vr y (SelD.mk k o ke va a bb fl sz) n = QdN y (SelD.mk k o ke va a bb fl sz) u w m /\ u.length <= 100 /\ m <= n + 4) -> W87.C K 9 (mkS 211 [(0, (.ptr 0 0)), (3, (.ptr 1 0)), (6, (.str u)), (7, (.nat w))] [(0, .blk 62 [(.sl (.sels l)), (.sl (.bytes y)), (.nat m)]), (1, .blk 33 [(.int .i64 k), (.int .i64 o), (.str ke), (.str va), (.int .i64 a), (.int .i64 bb), (.int .i64 fl), (.int .i64 sz)])] 2) := by
  intro mm
  induction mm using zl with
  | _ mm ih =>
   intro w m u hm hI
   obtain ⟨k0, k1, k2⟩ := hI
   have d1 := YA (n := bb.toNat) (by omega)
   have d2 := YA (n := (0 - bb).toNat) (by omega)
   have d3 := ZH (n := bb) (by omega)
   have d4 := Yy (a := a) (b := bb) (by omega) (by omega)
   have d5 := Yy (a := a) (b := 0) (by omega) (by omega)
   have d6 : (QN bb).length + 1 <= (QC a bb).length := by unfold QC; simp
   have d7 : 1 <= (QN bb).length := by unfold QN; split <;> simp
   have d8 : 2 <= (QC a 0).length := by unfold QC QN; simp; omega
   have e1 := VS y [111, 100, 100] m
   have e2 := VS y [101, 118, 101, 110] m
   have c2 := YH y m 2
   have g1 := Vs y m
   have g2 := VF y m
   have g3 := Vs y (Qh y m).2
   have g4 := VF y (Qh y m).2
   have g5 := Vs y (chc y m 2).2
   have g6 := VF y (chc y m 2).2
   have g7 := Vs y (Qh y (chc y m 2).2).2
   have g8 := VF y (Qh y (chc y m 2).2).2
   have s1 := QL (l := [[], [43]]) (n := 1) (by decide) (chc y m 2).1
   have s2 := QL (l := [[45], [], []]) (n := 1) (by decide) (a + 1).toNat
   have s3 := QL (l := [[110], [78]]) (n := 1) (by decide) (chc y m 2).1
   refine W87.aC hD (have a1 := ([[], [43]] : List (List UInt8)).getD ((chc y m 2).1) [] ++ (Vi (bb).toNat); have a4 := ([[110], [78]] : List (List UInt8)).getD ((chc y m 2).1) []; have a5 := ([[], [43]] : List (List UInt8)).getD ((chc y m 2).1) []; have a6 := QC a bb; have a8 := Qh y ((chc y m 2).2); have a9 := ((a + (1 : Int))).toNat; have a2 := ([[45], [], []] : List (List UInt8)).getD a9 [] ++ a4 ++ (a8.1) ++ ((QN bb).take 1) ++ ((Qh y (a8.2)).1) ++ ((QN bb).drop 1); have a11 : SV := .int .i64 bb; have a12 := ((True /\ True) /\ SV.lts 0 [a11] = true /\ (0 <= bb /\ bb <= 1000000000000000000) /\ True) /\ ((.str (Vi (bb).toNat)) : SV) = (.str (Vi (bb).toNat)); have a13 := QO 4 ((True /\ True) /\ SV.lts 0 [a11] = true /\ (-100000000000000000 <= bb /\ bb <= 100000000000000000) /\ True) (.str (QN bb)); have a14 := QC a (0 : Int); have a15 : SV := .sl (.bytes y); have a16 : SV := .sl (.sels l); have a17 := ([[45], [], []] : List (List UInt8)).getD a9 [] ++ a4 ++ (a8.1) ++ ((QN bb).take 1) ++ ((Qh y (a8.2)).1); have a18 := (QN bb).length; have a3 := a6.length - a18; have a7 := a6.length - a18 + 1; have a19 := ((a5.length + (Vi (bb).toNat).length <= 2305843009213693952) /\ True) /\ ((.str a1) : SV) = (.str a1); have a20 : SV := .str (u ++ a1); have a21 := (a6.take a7).drop a3; have a22 := ([[45], [], []] : List (List UInt8)).getD a9 []; have a23 := ([[45], [], []] : List (List UInt8)).getD a9 [] ++ a4 ++ (a8.1) ++ ((QN bb).take 1); have a24 := (((chc y m 2).1 < 2) /\ True) /\ ((.cp [(.str a5)]) : SV) = (.cp [(.str a5)]); have a25 := ((u.length + a1.length <= 2305843009213693952) /\ True) /\ (a20 : SV) = a20; have a26 := (true = true) /\ ((.sl (.strs [[], [43]])) : SV) = (.sl (.strs [[], [43]])); have a27 := QO 3 ((a6.length - a18 + 1 <= 9223372036854775807) /\ True) (.nat a7); have a28 : SV := .int .i64 fl; have a29 : SV := .int .i64 sz; have a30 := QO 3 (True) (.nat a3); have a31 := (Qh y m).1; have a32 := ([[45], [], []] : List (List UInt8)).getD a9 [] ++ a4 ++ (a8.1); have a33 := Qm y [101, 118, 101, 110] m; have a34 := Qh y ((Qh y m).2); have a0 := a6.take a3 ++ a31 ++ a21 ++ (a34.1) ++ (a6.drop a7); have a35 := true = true -> True; have a10 := (True /\ True /\ True) /\ (SV.lts 0 [(.nat 2)] = true /\ SV.lts 0 [a16, a15, (.nat m)] = true /\ (0 < 2) /\ (m <= 1000000000000) /\ True) /\ True /\ a35; have a36 := ([[45], [], []] : List (List UInt8)).getD a9 [] ++ a4; have a37 := Qm y [111, 100, 100] m; have a38 := QO 4 (True) (.ptr 0 0); have a39 := QO 3 (True) (.str a6); cond (((decide (a = (2 : Int))) && (decide (bb = (1 : Int)))) && (decide (w = 1))) ((m <= 900000000000) /\ (3 <= 1000000000) /\ (u.length + (a37.1).length <= 2305843009213693952) /\ (W87).C K 21 (mkS 211 [(0, (.ptr 0 0)), (6, (.str (u ++ (a37.1))))] [(0, .blk 62 [a16, a15, (.nat (a37.2))]), (1, .blk 33 [(.int .i64 k), (.int .i64 o), (.str ke), (.str va), (.int .i64 a), a11, a28, a29])] 2)) (cond (((decide (a = (2 : Int))) && (decide (bb = (0 : Int)))) && (decide (w = 1))) ((m <= 900000000000) /\ (4 <= 1000000000) /\ (u.length + (a33.1).length <= 2305843009213693952) /\ (W87).C K 21 (mkS 211 [(0, (.ptr 0 0)), (6, (.str (u ++ (a33.1))))] [(0, .blk 62 [a16, a15, (.nat (a33.2))]), (1, .blk 33 [(.int .i64 k), (.int .i64 o), (.str ke), (.str va), (.int .i64 a), a11, a28, a29])] 2)) (cond ((decide (a = (0 : Int))) && (decide (w = 1))) (cond (decide (bb < (0 : Int))) ((inI (0 - bb)) /\ (0 <= (0 - bb) /\ (0 - bb) <= 1000000000000000000) /\ (1 + (Vi ((0 - bb)).toNat).length <= 2305843009213693952) /\ (u.length + ([45] ++ (Vi ((0 - bb)).toNat)).length <= 2305843009213693952) /\ (W87).C K 21 (mkS 211 [(0, (.ptr 0 0)), (6, (.str (u ++ ([45] ++ (Vi ((0 - bb)).toNat)))))] [(0, .blk 62 [a16, a15, (.nat m)]), (1, .blk 33 [(.int .i64 k), (.int .i64 o), (.str ke), (.str va), (.int .i64 a), a11, a28, a29])] 2)) ((((True) /\ ((.str u) : SV) = (.str u)) /\ ((True) /\ ((.str u) : SV) = (.str u)) /\ True) /\ (a26 /\ a26 /\ True) /\ (((True) /\ ((.ptr 0 0) : SV) = (.ptr 0 0)) /\ ((True) /\ ((.ptr 0 0) : SV) = (.ptr 0 0)) /\ True) /\ a10 /\ (a24 /\ a24 /\ True) /\ (((True) /\ ((.str a5) : SV) = (.str a5)) /\ ((True) /\ ((.str a5) : SV) = (.str a5)) /\ True) /\ (((True) /\ ((.ptr 1 5) : SV) = (.ptr 1 5)) /\ ((True) /\ ((.ptr 1 5) : SV) = (.ptr 1 5)) /\ True) /\ (((True) /\ (a11 : SV) = a11) /\ ((True) /\ (a11 : SV) = a11) /\ True) /\ (a12 /\ a12 /\ True) /\ (a19 /\ a19 /\ True) /\ (a25 /\ a25 /\ True) /\ (((True) /\ (a20 : SV) = a20) /\ ((True) /\ (a20 : SV) = a20) /\ True) /\ (W87).C K 21 (mkS 211 [(0, (.ptr 0 0)), (6, a20)] [(0, .blk 62 [a16, a15, (.nat ((chc y m 2).2))]), (1, .blk 33 [(.int .i64 k), (.int .i64 o), (.str ke), (.str va), (.int .i64 a), a11, a28, a29])] 2))) (cond ((decide (bb = (0 : Int))) && (decide (w = 1))) ((-100000000000000000 <= a /\ a <= 100000000000000000) /\ (-100000000000000000 <= (0 : Int) /\ (0 : Int) <= 100000000000000000) /\ (-100000000000000000 <= a /\ a <= 100000000000000000) /\ (-100000000000000000 <= (0 : Int) /\ (0 : Int) <= 100000000000000000) /\ (2 <= a14.length /\ a14.length <= 9223372036854775807) /\ (a14.length - 2 <= a14.length) /\ (u.length + (a14.take (a14.length - 2)).length <= 2305843009213693952) /\ (W87).C K 21 (mkS 211 [(0, (.ptr 0 0)), (6, (.str (u ++ (a14.take (a14.length - 2)))))] [(0, .blk 62 [a16, a15, (.nat m)]), (1, .blk 33 [(.int .i64 k), (.int .i64 o), (.str ke), (.str va), (.int .i64 a), a11, a28, a29])] 2)) (cond (((decide (a = (1 : Int))) || (decide (a = (-1)))) && (decide (w = 2))) ((QO 4 (True) (.str u)) /\ (QO 4 (true = true) (.sl (.strs [[45], [], []]))) /\ (QO 4 (True) (.ptr 1 4)) /\ (QO 4 (True) (.int .i64 a)) /\ (QO 4 ((inI (a + (1 : Int))) /\ True) (.int .i64 (a + (1 : Int)))) /\ (QO 4 ((0 <= (a + (1 : Int)) /\ (a + (1 : Int)) < (3 : Nat)) /\ True) (.cp [(.str a22)])) /\ (QO 4 (True) (.str a22)) /\ (QO 4 (true = true) (.sl (.strs [[110], [78]]))) /\ a38 /\ a10 /\ (QO 4 (((chc y m 2).1 < 2) /\ True) (.cp [(.str a4)])) /\ (QO 4 (True) (.str a4)) /\ (QO 4 ((a22.length + a4.length <= 2305843009213693952) /\ True) (.str a36)) /\ a38 /\ ((True /\ True) /\ (SV.lts 0 [] = true /\ SV.lts 0 [a16, a15, (.nat ((chc y m 2).2))] = true /\ ((chc y m 2).2 <= 900000000000) /\ True) /\ True /\ a35) /\ (QO 4 ((a36.length + (a8.1).length <= 2305843009213693952) /\ True) (.str a32)) /\ (QO 4 (True) (.ptr 1 5)) /\ (QO 4 (True) a11) /\ a13 /\ (QO 4 ((1 <= (QN bb).length) /\ True) (.str ((QN bb).take 1))) /\ (QO 4 ((a32.length + ((QN bb).take 1).length <= 2305843009213693952) /\ True) (.str a23)) /\ a38 /\ ((True /\ True) /\ (SV.lts 0 [] = true /\ SV.lts 0 [a16, a15, (.nat (a8.2))] = true /\ (a8.2 <= 900000000000) /\ True) /\ True /\ a35) /\ (QO 4 ((a23.length + ((Qh y (a8.2)).1).length <= 2305843009213693952) /\ True) (.str a17)) /\ (QO 4 (True) (.ptr 1 5)) /\ (QO 4 (True) a11) /\ a13 /\ (QO 4 ((1 <= (QN bb).length) /\ True) (.str ((QN bb).drop 1))) /\ (QO 4 ((a17.length + ((QN bb).drop 1).length <= 2305843009213693952) /\ True) (.str a2)) /\ (QO 4 ((u.length + a2.length <= 2305843009213693952) /\ True) (.str (u ++ a2))) /\ (QO 4 (True) (.str (u ++ a2))) /\ (W87).C K 21 (mkS 211 [(0, (.ptr 0 0)), (6, (.str (u ++ a2)))] [(0, .blk 62 [a16, a15, (.nat ((Qh y (a8.2)).2))]), (1, .blk 33 [(.int .i64 k), (.int .i64 o), (.str ke), (.str va), (.int .i64 a), a11, a28, a29])] 2)) ((-100000000000000000 <= a /\ a <= 100000000000000000) /\ (-100000000000000000 <= bb /\ bb <= 100000000000000000) /\ (-100000000000000000 <= bb /\ bb <= 100000000000000000) /\ ((QN bb).length <= a6.length /\ a6.length <= 9223372036854775807) /\ (QO 3 (True) (.str u)) /\ a39 /\ a30 /\ (QO 3 ((a6.length - a18 <= a6.length) /\ True) (.str (a6.take a3))) /\ (QO 3 (True) (.ptr 0 0)) /\ ((True /\ True) /\ (SV.lts 0 [] = true /\ SV.lts 0 [a16, a15, (.nat m)] = true /\ (m <= 900000000000) /\ True) /\ True /\ a35) /\ (QO 3 (((a6.take a3).length + a31.length <= 2305843009213693952) /\ True) (.str (a6.take a3 ++ a31))) /\ a39 /\ a30 /\ a30 /\ a27 /\ (QO 3 ((a6.length - a18 <= a6.length - a18 + 1 /\ a6.length - a18 + 1 <= a6.length) /\ True) (.str a21)) /\ (QO 3 (((a6.take a3 ++ a31).length + a21.length <= 2305843009213693952) /\ True) (.str (a6.take a3 ++ a31 ++ a21))) /\ (QO 3 (True) (.ptr 0 0)) /\ ((True /\ True) /\ (SV.lts 0 [] = true /\ SV.lts 0 [a16, a15, (.nat ((Qh y m).2))] = true /\ ((Qh y m).2 <= 900000000000) /\ True) /\ True /\ a35) /\ (QO 3 (((a6.take a3 ++ a31 ++ a21).length + (a34.1).length <= 2305843009213693952) /\ True) (.str (a6.take a3 ++ a31 ++ a21 ++ (a34.1)))) /\ a39 /\ a30 /\ a27 /\ (QO 3 ((a6.length - a18 + 1 <= a6.length) /\ True) (.str (a6.drop a7))) /\ (QO 3 (((a6.take a3 ++ a31 ++ a21 ++ (a34.1)).length + (a6.drop a7).length <= 2305843009213693952) /\ True) (.str a0)) /\ (QO 3 ((u.length + a0.length <= 2305843009213693952) /\ True) (.str (u ++ a0))) /\ (QO 3 (True) (.str (u ++ a0))) /\ (W87).C K 21 (mkS 211 [(0, (.ptr 0 0)), (6, (.str (u ++ a0)))] [(0, .blk 62 [a16, a15, (.nat (a34.2))]), (1, .blk 33 [(.int .i64 k), (.int .i64 o), (.str ke), (.str va), (.int .i64 a), a11, a28, a29])] 2))))))) ?_
   refine Qc ?_ ?_ <;> intro h1 <;> try simp [-za, -zb] at h1
   refine Yh (Yh (Yh ?_))
   exact Wk.C.rn [0] (L21 _ _ _ rfl ⟨k0.trans (Jo (by show Y3 y a bb w m = _; unfold Y3; rw [if_pos (by omega)])), by simp only [zd, ze, zf, zk, zj, Qd]; omega, by omega⟩)
   refine Qc (fun h2 => ?_) (fun h2 => ?_)
   try simp [-za, -zb] at h2
   refine Yh (Yh (Yh ?_))
   exact Wk.C.rn [0] (L21 _ _ _ rfl ⟨k0.trans (Jo (by show Y3 y a bb w m = _; unfold Y3; rw [if_neg (by omega), if_pos (by omega)])), by simp only [zd, ze, zf, zk, zj, Qd]; omega, by omega⟩)
   try simp [-za, -zb] at h2
   refine Qc ?_ ?_ <;> intro h3 <;> try simp [-za, -zb] at h3
   refine Qc (fun h4 => ?_) (fun h4 => ?_)
   try simp [-za, -zb] at h4
   refine Yh (Yh (Yh (Yh ?_)))
   exact Wk.C.rn [0] (L21 _ _ _ rfl ⟨k0.trans (Jo (by show Y3 y a bb w m = _; unfold Y3; rw [if_neg (by omega), if_neg (by omega), if_pos (by omega), if_pos h4])), by simp only [zd, ze, zf, zk, zj, Qd]; omega, by omega⟩)
   try simp [-za, -zb] at h4
   refine ⟨⟨⟨trivial, rfl⟩, ⟨trivial, rfl⟩, trivial⟩, ?_⟩
   refine ⟨⟨⟨rfl, rfl⟩, ⟨rfl, rfl⟩, trivial⟩, ?_⟩
   refine ⟨⟨⟨trivial, rfl⟩, ⟨trivial, rfl⟩, trivial⟩, ?_⟩
   refine ⟨⟨⟨trivial, trivial, trivial⟩, ⟨rfl, rfl, ⟨(by first | omega | (unfold inI; omega) | exact Way.Qjk (by decide) | (simp; done) | (simp only [zd, ze, zf, zk, zj, Qd]; omega)), (by first | omega | (unfold inI; omega) | exact Way.Qjk (by decide) | (simp; done) | (simp only [zd, ze, zf, zk, zj, Qd]; omega)), trivial⟩⟩, trivial, fun _ => trivial⟩, ?_⟩
   refine ⟨⟨⟨⟨(by first | omega | (unfold inI; omega) | exact Way.Qjk (by decide) | (simp; done) | (simp only [zd, ze, zf, zk, zj, Qd]; omega)), trivial⟩, rfl⟩, ⟨⟨(by first | omega | (unfold inI; omega) | exact Way.Qjk (by decide) | (simp; done) | (simp only [zd, ze, zf, zk, zj, Qd]; omega)), trivial⟩, rfl⟩, trivial⟩, ?_⟩
   refine ⟨⟨⟨trivial, rfl⟩, ⟨trivial, rfl⟩, trivial⟩, ?_⟩
   refine ⟨⟨⟨trivial, rfl⟩, ⟨trivial, rfl⟩, trivial⟩, ?_⟩
   refine ⟨⟨⟨trivial, rfl⟩, ⟨trivial, rfl⟩, trivial⟩, ?_⟩
   refine ⟨⟨⟨⟨⟨trivial, trivial⟩, rfl, ⟨(by first | omega | (unfold inI; omega) | exact Way.Qjk (by decide) | (simp; done) | (simp only [zd, ze, zf, zk, zj, Qd]; omega)), trivial⟩⟩, rfl⟩, ⟨⟨⟨trivial, trivial⟩, rfl, ⟨(by first | omega | (unfold inI; omega) | exact Way.Qjk (by decide) | (simp; done) | (simp only [zd, ze, zf, zk, zj, Qd]; omega)), trivial⟩⟩, rfl⟩, trivial⟩, ?_⟩
   refine ⟨⟨⟨⟨(by first | omega | (unfold inI; omega) | exact Way.Qjk (by decide) | (simp; done) | (simp only [zd, ze, zf, zk, zj, Qd]; omega)), trivial⟩, rfl⟩, ⟨⟨(by first | omega | (unfold inI; omega) | exact Way.Qjk (by decide) | (simp; done) | (simp only [zd, ze, zf, zk, zj, Qd]; omega)), trivial⟩, rfl⟩, trivial⟩, ?_⟩
   refine ⟨⟨⟨⟨(by first | omega | (unfold inI; omega) | exact Way.Qjk (by decide) | (simp; done) | (simp only [zd, ze, zf, zk, zj, Qd]; omega)), trivial⟩, rfl⟩, ⟨⟨(by first | omega | (unfold inI; omega) | exact Way.Qjk (by decide) | (simp; done) | (simp only [zd, ze, zf, zk, zj, Qd]; omega)), trivial⟩, rfl⟩, trivial⟩, ?_⟩
   refine ⟨⟨⟨trivial, rfl⟩, ⟨trivial, rfl⟩, trivial⟩, ?_⟩
   exact Wk.C.rn [0] (L21 _ _ _ rfl ⟨k0.trans (Jo (by show Y3 y a bb w m = _; unfold Y3; rw [if_neg (by omega), if_neg (by omega), if_pos (by omega), if_neg (by omega)])), by simp only [zd, ze, zf, zk, zj, Qd]; omega, by omega⟩)
   refine Qc (fun h4 => ?_) (fun h4 => ?_)
   try simp [-za, -zb] at h4
   refine Yh (Yh (Yh (Yh (Yh (Yh (Yh ?_))))))
   exact Wk.C.rn [0] (L21 _ _ _ rfl ⟨k0.trans (Jo (by show Y3 y a bb w m = _; unfold Y3; rw [if_neg (by omega), if_neg (by omega), if_neg (by omega), if_pos (by omega)])), by simp only [zd, ze, zf, zk, zj, Qd]; omega, by omega⟩)
   try simp [-za, -zb] at h4
   refine Qc ?_ ?_ <;> intro h5 <;> try simp [-za, -zb] at h5
   refine ⟨Qi trivial, ?_⟩
   refine ⟨Qi rfl, ?_⟩
   refine ⟨Qi trivial, ?_⟩
   refine ⟨Qi trivial, ?_⟩
   refine ⟨Qi ⟨(by first | omega | (unfold inI; omega) | exact Way.Qjk (by decide) | (simp; done) | (simp only [zd, ze, zf, zk, zj, Qd]; omega)), trivial⟩, ?_⟩
   refine ⟨Qi ⟨(by first | omega | (unfold inI; omega) | exact Way.Qjk (by decide) | (simp; done) | (simp only [zd, ze, zf, zk, zj, Qd]; omega)), trivial⟩, ?_⟩
   refine ⟨Qi trivial, ?_⟩
   refine ⟨Qi rfl, ?_⟩
   refine ⟨Qi trivial, ?_⟩
   refine ⟨⟨⟨trivial, trivial, trivial⟩, ⟨rfl, rfl, ⟨(by first | omega | (unfold inI; omega) | exact Way.Qjk (by decide) | (simp; done) | (simp only [zd, ze, zf, zk, zj, Qd]; omega)), (by first | omega | (unfold inI; omega) | exact Way.Qjk (by decide) | (simp; done) | (simp only [zd, ze, zf, zk, zj, Qd]; omega)), trivial⟩⟩, trivial, fun _ => trivial⟩, ?_⟩
   refine ⟨Qi ⟨(by first | omega | (unfold inI; omega) | exact Way.Qjk (by decide) | (simp; done) | (simp only [zd, ze, zf, zk, zj, Qd]; omega)), trivial⟩, ?_⟩
   refine ⟨Qi trivial, ?_⟩
   refine ⟨Qi ⟨(by first | omega | (unfold inI; omega) | exact Way.Qjk (by decide) | (simp; done) | (simp only [zd, ze, zf, zk, zj, Qd]; omega)), trivial⟩, ?_⟩
   refine ⟨Qi trivial, ?_⟩
   refine ⟨⟨⟨trivial, trivial⟩, ⟨rfl, rfl, ⟨(by first | omega | (unfold inI; omega) | exact Way.Qjk (by decide) | (simp; done) | (simp only [zd, ze, zf, zk, zj, Qd]; omega)), trivial⟩⟩, trivial, fun _ => trivial⟩, ?_⟩
   refine ⟨Qi ⟨(by first | omega | (unfold inI; omega) | exact Way.Qjk (by decide) | (simp; done) | (simp only [zd, ze, zf, zk, zj, Qd]; omega)), trivial⟩, ?_⟩
   refine ⟨Qi trivial, ?_⟩
   refine ⟨Qi trivial, ?_⟩
   refine ⟨Qi ⟨⟨trivial, trivial⟩, rfl, ⟨(by first | omega | (unfold inI; omega) | exact Way.Qjk (by decide) | (simp; done) | (simp only [zd, ze, zf, zk, zj, Qd]; omega)), trivial⟩⟩, ?_⟩
   refine ⟨Qi ⟨(by first | omega | (unfold inI; omega) | exact Way.Qjk (by decide) | (simp; done) | (simp only [zd, ze, zf, zk, zj, Qd]; omega)), trivial⟩, ?_⟩
   refine ⟨Qi ⟨(by first | omega | (unfold inI; omega) | exact Way.Qjk (by decide) | (simp; done) | (simp only [zd, ze, zf, zk, zj, Qd]; omega)), trivial⟩, ?_⟩
   refine ⟨Qi trivial, ?_⟩
   refine ⟨⟨⟨trivial, trivial⟩, ⟨rfl, rfl, ⟨(by first | omega | (unfold inI; omega) | exact Way.Qjk (by decide) | (simp; done) | (simp only [zd, ze, zf, zk, zj, Qd]; omega)), trivial⟩⟩, trivial, fun _ => trivial⟩, ?_⟩
   refine ⟨Qi ⟨(by first | omega | (unfold inI; omega) | exact Way.Qjk (by decide) | (simp; done) | (simp only [zd, ze, zf, zk, zj, Qd]; omega)), trivial⟩, ?_⟩
   refine ⟨Qi trivial, ?_⟩
   refine ⟨Qi trivial, ?_⟩
   refine ⟨Qi ⟨⟨trivial, trivial⟩, rfl, ⟨(by first | omega | (unfold inI; omega) | exact Way.Qjk (by decide) | (simp; done) | (simp only [zd, ze, zf, zk, zj, Qd]; omega)), trivial⟩⟩, ?_⟩
   refine ⟨Qi ⟨(by first | omega | (unfold inI; omega) | exact Way.Qjk (by decide) | (simp; done) | (simp only [zd, ze, zf, zk, zj, Qd]; omega)), trivial⟩, ?_⟩
   refine ⟨Qi ⟨(by first | omega | (unfold inI; omega) | exact Way.Qjk (by decide) | (simp; done) | (simp only [zd, ze, zf, zk, zj, Qd]; omega)), trivial⟩, ?_⟩
   refine ⟨Qi ⟨(by first | omega | (unfold inI; omega) | exact Way.Qjk (by decide) | (simp; done) | (simp only [zd, ze, zf, zk, zj, Qd]; omega)), trivial⟩, ?_⟩
   refine ⟨Qi trivial, ?_⟩
   exact Wk.C.rn [0] (L21 _ _ _ rfl ⟨k0.trans (Jo (by show Y3 y a bb w m = _; unfold Y3; rw [if_neg (by omega), if_neg (by omega), if_neg (by omega), if_neg (by omega), if_pos (by omega)])), by simp only [zd, ze, zf, zk, zj, Qd]; omega, by omega⟩)
   refine Yh (Yh (Yh (Yh ?_)))
   refine ⟨Qi trivial, ?_⟩
   refine ⟨Qi trivial, ?_⟩
   refine ⟨Qi trivial, ?_⟩
   refine ⟨Qi ⟨(by first | omega | (unfold inI; omega) | exact Way.Qjk (by decide) | (simp; done) | (simp only [zd, ze, zf, zk, zj, Qd]; omega)), trivial⟩, ?_⟩
   refine ⟨Qi trivial, ?_⟩
   refine ⟨⟨⟨trivial, trivial⟩, ⟨rfl, rfl, ⟨(by first | omega | (unfold inI; omega) | exact Way.Qjk (by decide) | (simp; done) | (simp only [zd, ze, zf, zk, zj, Qd]; omega)), trivial⟩⟩, trivial, fun _ => trivial⟩, ?_⟩
   refine ⟨Qi ⟨(by first | omega | (unfold inI; omega) | exact Way.Qjk (by decide) | (simp; done) | (simp only [zd, ze, zf, zk, zj, Qd]; omega)), trivial⟩, ?_⟩
   refine ⟨Qi trivial, ?_⟩
   refine ⟨Qi trivial, ?_⟩
   refine ⟨Qi trivial, ?_⟩
   refine ⟨Qi ⟨(by first | omega | (unfold inI; omega) | exact Way.Qjk (by decide) | (simp; done) | (simp only [zd, ze, zf, zk, zj, Qd]; omega)), trivial⟩, ?_⟩
   refine ⟨Qi ⟨(by first | omega | (unfold inI; omega) | exact Way.Qjk (by decide) | (simp; done) | (simp only [zd, ze, zf, zk, zj, Qd]; omega)), trivial⟩, ?_⟩
   refine ⟨Qi ⟨(by first | omega | (unfold inI; omega) | exact Way.Qjk (by decide) | (simp; done) | (simp only [zd, ze, zf, zk, zj, Qd]; omega)), trivial⟩, ?_⟩
   refine ⟨Qi trivial, ?_⟩
   refine ⟨⟨⟨trivial, trivial⟩, ⟨rfl, rfl, ⟨(by first | omega | (unfold inI; omega) | exact Way.Qjk (by decide) | (simp; done) | (simp only [zd, ze, zf, zk, zj, Qd]; omega)), trivial⟩⟩, trivial, fun _ => trivial⟩, ?_⟩
   refine ⟨Qi ⟨(by first | omega | (unfold inI; omega) | exact Way.Qjk (by decide) | (simp; done) | (simp only [zd, ze, zf, zk, zj, Qd]; omega)), trivial⟩, ?_⟩
   refine ⟨Qi trivial, ?_⟩
   refine ⟨Qi trivial, ?_⟩
   refine ⟨Qi ⟨(by first | omega | (unfold inI; omega) | exact Way.Qjk (by decide) | (simp; done) | (simp only [zd, ze, zf, zk, zj, Qd]; omega)), trivial⟩, ?_⟩
   refine ⟨Qi ⟨(by first | omega | (unfold inI; omega) | exact Way.Qjk (by decide) | (simp; done) | (simp only [zd, ze, zf, zk, zj, Qd]; omega)), trivial⟩, ?_⟩
   refine ⟨Qi ⟨(by first | omega | (unfold inI; omega) | exact Way.Qjk (by decide) | (simp; done) | (simp only [zd, ze, zf, zk, zj, Qd]; omega)), trivial⟩, ?_⟩
   refine ⟨Qi ⟨(by first | omega | (unfold inI; omega) | exact Way.Qjk (by decide) | (simp; done) | (simp only [zd, ze, zf, zk, zj, Qd]; omega)), trivial⟩, ?_⟩
   refine ⟨Qi trivial, ?_⟩
   exact Wk.C.rn [0] (L21 _ _ _ rfl ⟨k0.trans (Jo (by show Y3 y a bb w m = _; unfold Y3; rw [if_neg (by omega), if_neg (by omega), if_neg (by omega), if_neg (by omega), if_neg (by omega)])), by simp only [zd, ze, zf, zk, zj, Qd]; omega, by omega⟩)
 have L4 : ∀ (mm : Nat) (m : Nat), 0 = mm -> (Vr y (SelD.mk k o ke va a bb fl sz) n = Jp y (SelD.mk k o ke va a bb fl sz) m /\ m <= n + 1) -> W87.C K 4 (mkS 211 [(0, (.ptr 0 0)), (3, (.ptr 1 0))] [(0, .blk 62 [(.sl (.sels l)), (.sl (.bytes y)), (.nat m)]), (1, .blk 33 [(.int .i64 k), (.int .i64 o), (.str ke), (.str va), (.int .i64 a), (.int .i64 bb), (.int .i64 fl), (.int .i64 sz)])] 2) := by
  intro mm
  induction mm using zl with
  | _ mm ih =>
   intro m hm hI
   obtain ⟨k0, k1⟩ := hI
   have s1 := QL (l := Q7) (n := 12) (by decide) fl.toNat
   have e1 := VS y ([110, 116, 104, 45] ++ Q7.getD fl.toNat []) m
   have e2 := VF y (Qm y ([110, 116, 104, 45] ++ Q7.getD fl.toNat []) m).2
   have e3 := Vs y (Qm y ([110, 116, 104, 45] ++ Q7.getD fl.toNat []) m).2
   have e4 := YH y (Qh y (Qm y ([110, 116, 104, 45] ++ Q7.getD fl.toNat []) m).2).2 3
   have f0 := s1
   have f1 := e1
   have f2 := e2
   have f3 := e3
   have f4 := e4
   unfold Q7 at f0 f1 f2 f3 f4
   refine W87.aC hD (have a0 := ([[99, 104, 105, 108, 100], [108, 97, 115, 116, 45, 99, 104, 105, 108, 100], [111, 102, 45, 116, 121, 112, 101], [108, 97, 115, 116, 45, 111, 102, 45, 116, 121, 112, 101]] : List (List UInt8)).getD ((fl).toNat) []; have a1 := Qm y ([110, 116, 104, 45] ++ a0) m; have a2 := Qh y (a1.2); (0 <= fl /\ fl < (4 : Nat)) /\ ((fl).toNat < 4) /\ (4 + a0.length <= 2305843009213693952) /\ (m <= 900000000000) /\ (([110, 116, 104, 45] ++ a0).length <= 1000000000) /\ (1 + (a1.1).length <= 2305843009213693952) /\ (([58] ++ (a1.1)).length + 1 <= 2305843009213693952) /\ (a1.2 <= 900000000000) /\ (([58] ++ (a1.1) ++ [40]).length + (a2.1).length <= 2305843009213693952) /\ (0 < 3) /\ (a2.2 <= 1000000000000) /\ (W87).C K 9 (mkS 211 [(0, (.ptr 0 0)), (3, (.ptr 1 0)), (6, (.str ([58] ++ (a1.1) ++ [40] ++ (a2.1)))), (7, (.nat ((chc y (a2.2) 3).1)))] [(2, .row (.strs [[99, 104, 105, 108, 100], [108, 97, 115, 116, 45, 99, 104, 105, 108, 100], [111, 102, 45, 116, 121, 112, 101], [108, 97, 115, 116, 45, 111, 102, 45, 116, 121, 112, 101]]) true), (0, .blk 62 [(.sl (.sels l)), (.sl (.bytes y)), (.nat ((chc y (a2.2) 3).2))]), (1, .blk 33 [(.int .i64 k), (.int .i64 o), (.str ke), (.str va), (.int .i64 a), (.int .i64 bb), (.int .i64 fl), (.int .i64 sz)])] 3)) ?_
   refine Yh (Yh (Yh (Yh (Yh (Yh (Yh (Yh (Yh (Yh (Yh ?_))))))))))
   exact Wk.C.rn [0, 1] (L9 _ _ _ _ rfl ⟨k0.trans Qqf, by simp only [zd, ze, zf, zk, zj, Qd]; omega, by simp only; omega⟩)
 refine W87.en (have a0 := ([[102, 105, 114, 115, 116, 45, 99, 104, 105, 108, 100], [108, 97, 115, 116, 45, 99, 104, 105, 108, 100], [102, 105, 114, 115, 116, 45, 111, 102, 45, 116, 121, 112, 101], [108, 97, 115, 116, 45, 111, 102, 45, 116, 121, 112, 101]] : List (List UInt8)).getD ((fl).toNat) []; have a1 : RV := .strs [[102, 105, 114, 115, 116, 45, 99, 104, 105, 108, 100], [108, 97, 115, 116, 45, 99, 104, 105, 108, 100], [102, 105, 114, 115, 116, 45, 111, 102, 45, 116, 121, 112, 101], [108, 97, 115, 116, 45, 111, 102, 45, 116, 121, 112, 101]]; have a2 := (decide (a = (0 : Int))) && (decide (bb = (1 : Int))); have a3 := Qm y a0 ((chc y n 2).2); (0 <= fl /\ fl < (4 : Nat)) /\ ((fl).toNat < 4) /\ (a2 = true -> (0 < 2) /\ (n <= 1000000000000) /\ cond (decide ((chc y n 2).1 = 1)) (((chc y n 2).2 <= 900000000000) /\ (a0.length <= 1000000000) /\ (1 + (a3.1).length <= 2305843009213693952) /\ K (.val (.str ([58] ++ (a3.1)))) (some (.blk 62 [(.sl (.sels l)), (.sl (.bytes y)), (.nat (a3.2))]))) ((W87).C K 4 (mkS 211 [(0, (.ptr 0 0)), (3, (.ptr 1 0))] [(2, .row a1 true), (1, .blk 33 [(.int .i64 k), (.int .i64 o), (.str ke), (.str va), (.int .i64 a), (.int .i64 bb), (.int .i64 fl), (.int .i64 sz)]), (0, .blk 62 [(.sl (.sels l)), (.sl (.bytes y)), (.nat ((chc y n 2).2))])] 3))) /\ (a2 = false -> (W87).C K 4 (mkS 211 [(0, (.ptr 0 0)), (3, (.ptr 1 0))] [(2, .row a1 true), (1, .blk 33 [(.int .i64 k), (.int .i64 o), (.str ke), (.str va), (.int .i64 a), (.int .i64 bb), (.int .i64 fl), (.int .i64 sz)]), (0, .blk 62 [(.sl (.sels l)), (.sl (.bytes y)), (.nat n)])] 3))) ?_
 refine Yh (Yh ?_)
 refine ⟨fun h1 => ?_, fun h1 => ?_⟩
 try simp [-za, -zb] at h1
 refine Yh (Yh ?_)
 refine Qc ?_ ?_ <;> intro h2 <;> try simp [-za, -zb] at h2
 refine Yh (Yh (Yh ?_))
 exact Zt hk (Qe8 (x := (SelD.mk k o ke va a bb fl sz)) h1 h2)
 exact Wk.C.rn [0, 1] (L4 _ _ rfl ⟨Qe9 (x := (SelD.mk k o ke va a bb fl sz)) h1 h2, by omega⟩)
 try simp [-za, -zb] at h1
 exact Wk.C.rn [0, 1] (L4 _ _ rfl ⟨Qh5 (x := (SelD.mk k o ke va a bb fl sz)) (fun c => by simp only at c; omega), by omega⟩)
 cases e
def c87 (svs : List SV) (b : Option SB) : FR := match svs, b with
 | [.ptr 0 0, x], some (.blk 62 [.sl (.sels l), .sl (.bytes y), .nat n]) => match QbV x with
  | some x => some ([-9999 <= x.a /\ x.a <= 9999 /\ -9999 <= x.b /\ x.b <= 9999, 0 <= x.flag /\ x.flag <= 3, n <= 800000000000], .val (.str (Vr y x n).1), some (.blk 62 [.sl (.sels l), .sl (.bytes y), .nat (Vr y x n).2]))
  | _ => none
 | _, _ => none
theorem sat87 : Sat 87 (fnS c87) := by
 refine Sat.wk Qrv fun svs b K h => ?_
 obtain ⟨ps, v, b', e, hp, hk⟩ := YG h
 unfold c87 at e
 split at e
 rename_i x l y n
 split at e
 rename_i x' hx
 cases e
 exact ⟨[.ptr 0 0, .agg (Vq x')], ⟨fun ω v h => h, fun ω v => Z8 hx, trivial⟩, hp.1, hp.2.1, hp.2.2.1, hk⟩
 cases e
 cases e
end
end Go.Proofs.YtengepcafdnalaaGreatDoor
