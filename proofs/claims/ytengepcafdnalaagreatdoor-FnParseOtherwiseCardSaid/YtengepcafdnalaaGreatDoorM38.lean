/-
  Parts of the proof that the law FnParseOtherwise holds for every input (texts Xd, Xe). Conditions: none.
-/
import Derived.Test.YtengepcafdnalaaGreatDoorM37
namespace Go.Proofs.YtengepcafdnalaaGreatDoor
section
namespace Way
set_option maxRecDepth 20000
theorem QkE (b : Int) (hb : -9999 <= b /\ b <= 9999) : ∃ (c : UInt8) (n : Nat), QP b = c :: Vs n /\ (c.toNat = 43 /\ b = n \/ c.toNat = 45 /\ b = 0 - (n : Int)) /\ n <= 9999 := by
 unfold QP
 by_cases h : b < 0
 rw [if_pos h]; exact ⟨45, (-b).toNat, rfl, .inr ⟨rfl, by omega⟩, by omega⟩
 rw [if_neg h]; exact ⟨43, b.toNat, rfl, .inl ⟨rfl, by omega⟩, by omega⟩
theorem QdD (a b : Int) (ha : -9999 <= a /\ a <= 9999) : ∃ (neg : Bool) (m : Nat), QF a b = ((if neg = true then [45] else []) ++ Vs m) ++ (110 :: QP b) /\ a = (if neg = true then 0 - (m : Int) else m) /\ m <= 9999 := by
 unfold QF
 by_cases h : a < 0
 rw [if_pos h]; exact ⟨true, (-a).toNat, rfl, by simp; omega, by omega⟩
 rw [if_neg h]; exact ⟨false, a.toNat, rfl, by simp; omega, by omega⟩
theorem Qgq {g r : Bs} (w : WsL g) : Qy (hd (g ++ (41 :: r))) = false /\ isN (hd (g ++ (41 :: r))) = false /\ hd (g ++ (41 :: r)) ≠ 43 /\ hd (g ++ (41 :: r)) ≠ 45 := by
 rcases QpH (r := r) w with hr | hr
 simp only [VM, Bool.or_eq_true, decide_eq_true_eq] at hr
 rcases hr with (((hr | hr) | hr) | hr) | hr <;> rw [hr] <;> decide
 rw [hr]; decide
theorem Qku {g r : Bs} (w : WsL g) : YT (g ++ (41 :: r)) := ZJ w QhZ
theorem Qp6 {a b : Int} {n : Nat} {es : Bs} (neg : Bool) (ha : a = if neg = true then -1 else 1) (h2 : Qgm n es) {x c : UInt8} (hx : isN x.toNat = true) (hc : c.toNat = 43 /\ b = n \/ c.toNat = 45 /\ b = 0 - (n : Int)) {g1 g2 : Bs} (w1 : WsL g1) (w2 : WsL g2) :
 Qea a b ((if neg = true then [45] else []) ++ (x :: (g1 ++ (c :: (g2 ++ es))))) := by
 have xd : Qy x.toNat = false /\ VM x.toNat = false /\ x.toNat ≠ 47 /\ x.toNat ≠ 45 /\ x.toNat ≠ 43 := by
  simp only [isN, Bool.or_eq_true, decide_eq_true_eq] at hx
  rcases hx with hx | hx <;> rw [hx] <;> decide
 refine ⟨?_, ?_, ?_, fun s i g r e wg => ⟨_, ?_, .inl rfl⟩⟩
 cases neg <;> simp
 cases neg
 exact xd.2.1
 show VM 45 = false; decide
 cases neg
 exact xd.2.2.1
 show 45 ≠ 47; decide
 have hrd := (Qgq (r := r) wg).1
 generalize g ++ (41 :: r) = r at e hrd
 cases neg with
 | false =>
  have e1 : s.drop i = x :: (g1 ++ (c :: (g2 ++ (es ++ r)))) := by rw [e]; simp
  obtain ⟨c1, c2, c3, c4⟩ := d1 e1
  unfold VU
  rw [if_pos c1, c2, if_neg xd.2.2.2.1, if_neg xd.2.2.2.2, if_neg (by rw [xd.1]; exact Bool.false_ne_true), if_pos hx, QcW h2 hc w1 w2 c4 hrd, ha]
  simp; omega
 | true =>
  have e1 : s.drop i = 45 :: (x :: (g1 ++ (c :: (g2 ++ (es ++ r))))) := by rw [e]; simp
  obtain ⟨c1, c2, c3, c4⟩ := d1 e1
  obtain ⟨k1, k2, k3, k4⟩ := d1 c4
  unfold VU
  rw [if_pos c1, if_pos (show bat s i = 45 from c2)]
  unfold V9
  rw [if_pos k1, k2, if_neg (by rw [xd.1]; exact Bool.false_ne_true), if_pos hx, QcW h2 hc w1 w2 k4 hrd, ha]
  simp; omega
theorem Qp7 {b : Int} {n : Nat} {es : Bs} (p : Bs) (h2 : Qgm n es) (hb : (p = [] \/ p = [43]) /\ b = n \/ p = [45] /\ b = 0 - (n : Int)) : Qea 0 b (p ++ es) := by
 have hf := Um (QaL h2)
 have hdn := QaL h2
 refine ⟨?_, ?_, ?_, fun s i g r e wg => ⟨_, ?_, .inl rfl⟩⟩
 simp [h2.1]
 rcases hb with ⟨rfl | rfl, _⟩ | ⟨rfl, _⟩
 exact hf.1
 show VM 43 = false; decide
 show VM 45 = false; decide
 rcases hb with ⟨rfl | rfl, _⟩ | ⟨rfl, _⟩
 exact hf.2.1
 show 43 ≠ 47; decide
 show 45 ≠ 47; decide
 obtain ⟨r1, r2, _, _⟩ := Qgq (r := r) wg
 have rl : g ++ (41 :: r) ≠ [] := by simp
 generalize g ++ (41 :: r) = r at e r1 r2 rl
 rw [List.append_assoc] at e
 have common : ∀ j, s.drop j = es ++ r -> Qdn s j = some ((n : Int), j + es.length) /\ (∀ a', ZA s a' (j + es.length) = some (0, a', j + es.length)) /\ j < s.length /\ Qy (bat s j) = true /\ bat s j = hd es := by
  intro j ej
  refine ⟨Qcs h2 ej r1, fun a' => ?_, lhd ej (by simp [h2.1]), by rw [bhd ej, Q5 h2.1]; exact hdn, by rw [bhd ej, Q5 h2.1]⟩
  unfold ZA
  rw [if_pos (lhd (dA ej) rl), if_neg (by rw [bhd (dA ej), r2]; exact Bool.false_ne_true)]
 rcases hb with ⟨rfl | rfl, rfl⟩ | ⟨rfl, rfl⟩
 obtain ⟨q1, q2, q3, q4, q5⟩ := common i e
 unfold VU
 rw [if_pos q3, if_neg (by rw [q5]; exact hf.2.2.1), if_neg (by rw [q5]; exact hf.2.2.2.1), if_pos q4]
 unfold VZ
 rw [if_pos q3, if_pos q4, q1]
 simp only [Option.bind_some]
 rw [q2]; rfl
 obtain ⟨c1, c2, c3, c4⟩ := d1 (show s.drop i = 43 :: (es ++ r) from e)
 obtain ⟨q1, q2, q3, q4, q5⟩ := common _ c4
 unfold VU
 rw [if_pos c1, c2, if_neg (by decide), if_pos (by decide)]
 unfold VZ
 rw [if_pos q3, if_pos q4, q1]
 simp only [Option.bind_some]
 rw [q2]; simp; omega
 obtain ⟨c1, c2, c3, c4⟩ := d1 (show s.drop i = 45 :: (es ++ r) from e)
 obtain ⟨q1, q2, q3, q4, q5⟩ := common _ c4
 unfold VU
 rw [if_pos c1, c2, if_pos (by decide)]
 unfold V9
 rw [if_pos q3, if_pos q4, q1]
 simp only [Option.bind_some]
 rw [q2]; simp; omega
theorem nth_n {a : Int} {m : Nat} {ds : Bs} (neg : Bool) (h1 : Qgm m ds) (ha : a = if neg = true then 0 - (m : Int) else m) : Qea a 0 (((if neg = true then [45] else []) ++ ds) ++ [110]) := by
 have hf := Um (QaL h1)
 have hdn := QaL h1
 refine ⟨?_, ?_, ?_, fun s i g r e wg => ⟨i + (((if neg = true then [45] else []) ++ ds) ++ [110]).length + g.length, ?_, .inr rfl⟩⟩
 cases neg <;> simp
 cases neg
 show VM (hd ((([] : Bs) ++ ds) ++ [110])) = false
 rw [List.nil_append, Q5 h1.1]; exact hf.1
 show VM 45 = false; decide
 cases neg
 show hd ((([] : Bs) ++ ds) ++ [110]) ≠ 47
 rw [List.nil_append, Q5 h1.1]; exact hf.2.1
 show 45 ≠ 47; decide
 have common : ∀ j, s.drop j = ds ++ (110 :: (g ++ (41 :: r))) -> Qdn s j = some ((m : Int), j + ds.length) /\
  (∀ a', ZA s a' (j + ds.length) = some (a', 0, j + ds.length + 1 + g.length)) /\ j < s.length /\ Qy (bat s j) = true /\ bat s j = hd ds := by
  intro j ej
  have q := Qcs h1 ej (show Qy 110 = false by decide)
  obtain ⟨x1, x2, x3, x4⟩ := d1 (dA ej)
  have q1 := Yr g _ _ x4 wg (ZE (by decide) (by decide))
  obtain ⟨y1, y2, y3, y4⟩ := d1 (dA x4)
  refine ⟨q, fun a' => ?_, lhd ej (by simp [h1.1]), by rw [bhd ej, Q5 h1.1]; exact hdn, by rw [bhd ej, Q5 h1.1]⟩
  unfold ZA
  rw [if_pos x1, if_pos (by rw [x2]; decide)]
  unfold Zg
  rw [q1, if_pos y1, y2, if_neg (by decide), if_neg (by decide)]
 cases neg with
 | false =>
  have e1 : s.drop i = ds ++ (110 :: (g ++ (41 :: r))) := by rw [e]; simp
  obtain ⟨q1, q2, q3, q4, q5⟩ := common i e1
  unfold VU
  rw [if_pos q3, if_neg (by rw [q5]; exact hf.2.2.1), if_neg (by rw [q5]; exact hf.2.2.2.1), if_pos q4]
  unfold VZ
  rw [if_pos q3, if_pos q4, q1]
  simp only [Option.bind_some]
  rw [q2, ha]
  simp; omega
 | true =>
  have e1 : s.drop i = 45 :: (ds ++ (110 :: (g ++ (41 :: r)))) := by rw [e]; simp
  obtain ⟨c1, c2, c3, c4⟩ := d1 e1
  obtain ⟨q1, q2, q3, q4, q5⟩ := common (i + 1) c4
  unfold VU
  rw [if_pos c1, if_pos (show bat s i = 45 from c2)]
  unfold V9
  rw [if_pos q3, if_pos q4, q1]
  simp only [Option.bind_some]
  rw [q2, ha]
  simp; omega
theorem nth_o {a b : Int} {v t : Bs} (h : NmW v t) (ht : t ≠ []) (ho : ZY (hd t) = true) (hw : low v = [111, 100, 100] /\ a = 2 /\ b = 1 \/ low v = [101, 118, 101, 110] /\ a = 2 /\ b = 0) : Qea a b t := by
 have hc : VM (hd t) = false /\ hd t ≠ 47 /\ hd t ≠ 45 /\ hd t ≠ 43 /\ Qy (hd t) = false /\ isN (hd t) = false := by
  simp only [ZY, Bool.or_eq_true, decide_eq_true_eq] at ho
  rcases ho with ((ho | ho) | ho) | ho <;> rw [ho] <;> decide
 refine ⟨ht, hc.1, hc.2.1, fun s i g r e wg => ⟨_, ?_, .inl rfl⟩⟩
 have hb := bhd e
 rw [Q5 ht] at hb
 unfold VU
 rw [if_pos (lhd e (by simp [ht])), hb, if_neg hc.2.2.1, if_neg hc.2.2.2.1, if_neg (by rw [hc.2.2.2.2.1]; exact Bool.false_ne_true), if_neg (by rw [hc.2.2.2.2.2]; exact Bool.false_ne_true), if_pos ho, Qdm h ht e (Qku wg)]
 rcases hw with ⟨h1, rfl, rfl⟩ | ⟨h1, rfl, rfl⟩
 simp only; rw [if_pos h1]
 simp only; rw [if_neg (by rw [h1]; decide), if_pos h1]
theorem Qmh : ∀ (s : Bs), (s.all fun c => QO c.toNat) = true -> NmW s s
 | [], _ => .nil
 | c :: s, h => by
  simp only [List.all_cons, Bool.and_eq_true] at h
  exact .raw h.1 (Qmh s h.2)
theorem QnL {y s : Bs} {n : Nat} {v : Bs} (h : NmW v s) : ∃ v', NmW v' (Ql y s n).1 /\ low v' = low v := by
 unfold Ql
 by_cases hc : (chc y n 4).1 = 1
 simp only [if_pos hc]; exact h.upp
 simp only [if_neg hc]; exact ⟨v, h, rfl⟩
theorem QnK {y s : Bs} {n : Nat} (h : s = [111, 100, 100] \/ s = [101, 118, 101, 110]) : (Ql y s n).1 ≠ [] /\ ZY (hd (Ql y s n).1) = true := by
 unfold Ql
 by_cases hc : (chc y n 4).1 = 1
 simp only [if_pos hc]
 rcases h with rfl | rfl <;> decide
 simp only [if_neg hc]
 rcases h with rfl | rfl <;> decide
theorem QiQ {y : Bs} {n k : Nat} (hk : 0 < k) : (chc y n k).1 < k := by
 unfold chc
 split
 exact hk
 exact Nat.mod_lt _ hk
theorem cnt_w (y : Bs) {a b : Int} (ha : -9999 <= a /\ a <= 9999) (hb : -9999 <= b /\ b <= 9999) (way n : Nat) : Qea a b (Zb y a b way n).1 := by
 have odd : ∀ {s : Bs} {n : Nat}, (s = [111, 100, 100] /\ b = 1 \/ s = [101, 118, 101, 110] /\ b = 0) -> a = 2 -> Qea a b (Ql y s n).1 := by
  intro s n h h2
  have h0 : NmW s s := Qmh s (by rcases h with ⟨rfl, _⟩ | ⟨rfl, _⟩ <;> decide)
  obtain ⟨v, v1, v2⟩ := QnL (y := y) (n := n) h0
  obtain ⟨o1, o2⟩ := QnK (y := y) (n := n) (s := s) (h.elim (fun q => .inl q.1) fun q => .inr q.1)
  refine nth_o v1 o1 o2 ?_
  rcases h with ⟨rfl, h⟩ | ⟨rfl, h⟩
  exact .inl ⟨v2, h2, h⟩
  exact .inr ⟨v2, h2, h⟩
 obtain ⟨c, m, s1, s2, s3⟩ := QkE b hb
 have hdm := Z8 (n := m) (by omega)
 unfold Zb
 by_cases h1 : a = 2 /\ b = 1 /\ way = 1
 rw [if_pos h1]; exact odd (.inl ⟨rfl, h1.2.1⟩) h1.1
 rw [if_neg h1]
 by_cases h2 : a = 2 /\ b = 0 /\ way = 1
 rw [if_pos h2]; exact odd (.inr ⟨rfl, h2.2.1⟩) h2.1
 rw [if_neg h2]
 by_cases h3 : a = 0 /\ way = 1
 rw [if_pos h3, h3.1]
 by_cases h4 : b < 0
 rw [if_pos h4]
 exact Qp7 [45] (Z8 (n := (0 - b).toNat) (by omega)) (.inr ⟨rfl, by omega⟩)
 rw [if_neg h4]
 refine Qp7 _ (Z8 (n := b.toNat) (by omega)) (.inl ⟨?_, by omega⟩)
 have := QiQ (y := y) (n := n) (k := 2) (by decide)
 rcases (by omega : (chc y n 2).1 = 0 \/ (chc y n 2).1 = 1) with e | e <;> rw [e]
 exact .inl rfl
 exact .inr rfl
 rw [if_neg h3]
 by_cases h4 : b = 0 /\ way = 1
 rw [if_pos h4, h4.1]
 obtain ⟨neg, k, e1, e2, e3⟩ := QdD a 0 ha
 have e4 : (QF a 0).take ((QF a 0).length - 2) = ((if neg = true then [45] else []) ++ Vs k) ++ [110] := by
  have : QF a 0 = (((if neg = true then [45] else []) ++ Vs k) ++ [110]) ++ [43, 48] := by
   rw [e1]
   have : QP 0 = [43, 48] := by rw [QP, if_neg (by decide)]; simp [Vs]
   rw [this]; simp
  rw [this, List.take_left' (by simp only [List.length_append, List.length_cons, List.length_nil] <;> omega)]
 rw [e4]
 exact nth_n neg (Z8 (n := k) (by omega)) e2
 rw [if_neg h4]
 by_cases h5 : (a = 1 \/ a = -1) /\ way = 2
 rw [if_pos h5]
 simp only
 rw [s1]
 simp only [List.take_succ_cons, List.take_zero, List.drop_succ_cons, List.drop_zero]
 have hx : ∃ x : UInt8, ([[110], [78]] : List Bs).getD (chc y n 2).1 [] = [x] /\ isN x.toNat = true := by
  have := QiQ (y := y) (n := n) (k := 2) (by decide)
  rcases (by omega : (chc y n 2).1 = 0 \/ (chc y n 2).1 = 1) with e | e <;> rw [e]
  exact ⟨110, rfl, by decide⟩
  exact ⟨78, rfl, by decide⟩
 obtain ⟨x, x1, x2⟩ := hx
 rw [x1]
 rcases h5.1 with rfl | rfl
 have := Qp6 (a := 1) false (by simp) hdm x2 s2 (Vf y (chc y n 2).2) (Vf y (Qh y (chc y n 2).2).2)
 simpa using this
 have := Qp6 (a := -1) true (by simp) hdm x2 s2 (Vf y (chc y n 2).2) (Vf y (Qh y (chc y n 2).2).2)
 simpa using this
 rw [if_neg h5]
 obtain ⟨neg, k, e1, e2, e3⟩ := QdD a b ha
 have e4 : QF a b = (((if neg = true then [45] else []) ++ Vs k) ++ [110]) ++ (c :: Vs m) := by rw [e1, s1]; simp
 have e5 : (QF a b).length - (QP b).length = (((if neg = true then [45] else []) ++ Vs k) ++ [110]).length := by rw [e4, s1]; simp only [List.length_append, List.length_cons, List.length_nil]; omega
 have e6 : QF a b = ((((if neg = true then [45] else []) ++ Vs k) ++ [110]) ++ [c]) ++ Vs m := by rw [e4]; simp
 simp only
 rw [e5]
 have t1 : (QF a b).take (((if neg = true then [45] else []) ++ Vs k) ++ [110]).length = ((if neg = true then [45] else []) ++ Vs k) ++ [110] := by rw [e4, List.take_left' rfl]
 have t2 : ((QF a b).take ((((if neg = true then [45] else []) ++ Vs k) ++ [110]).length + 1)).drop (((if neg = true then [45] else []) ++ Vs k) ++ [110]).length = [c] := by
  rw [e6, List.take_left' (by simp only [List.length_append, List.length_cons, List.length_nil] <;> omega), List.drop_left' rfl]
 have t3 : (QF a b).drop ((((if neg = true then [45] else []) ++ Vs k) ++ [110]).length + 1) = Vs m := by
  rw [e6, List.drop_left' (by simp only [List.length_append, List.length_cons, List.length_nil] <;> omega)]
 rw [t1, t2, t3]
 have := QmK neg (Z8 (n := k) (by omega)) e2 hdm (x := 110) (by decide) s2 (Vf y n) (Vf y (Qh y n).2)
 simpa using this
end Way
end
section
namespace Way
set_option maxRecDepth 20000
theorem Za {y s : Bs} {n : Nat} (h : ((s.all fun c => QO c.toNat) && QE (hd s)) = true) (hl : low s = s) : ∃ v, IdW v (Ql y s n).1 /\ low v = s := by
 obtain ⟨v, v1, v2⟩ := QdH (y := y) (n := n) (YQ h)
 exact ⟨v, v1, by rw [v2, hl]⟩
theorem Qlo {y t : Bs} {n : Nat} : (Ql y (58 :: t) n).1 = 58 :: (Ql y t n).1 := by
 unfold Ql
 by_cases h : (chc y n 4).1 = 1
 simp only [if_pos h]; rfl
 simp only [if_neg h]
theorem Z4 {y s : Bs} {n : Nat} {x : CSel} (h : ((s.all fun c => QO c.toNat) && QE (hd s)) = true) (hl : low s = s) (hx : ∀ G u j, ZB G u s j = some (some x, [], j)) : Vt 0 x (Ql y (58 :: s) n).1 := by
 obtain ⟨v, v1, v2⟩ := Za (y := y) (n := n) h hl
 rw [Qlo]
 exact Vt.plain v1 (fun G u j => by rw [v2]; exact hx G u j)
theorem Qcm {y s : Bs} {n : Nat} {x : CSel} (h : ((s.all fun c => QO c.toNat) && QE (hd s)) = true) (hl : low s = s) (hx : ∀ G u j, ZB G u s j = some (some x, [], j)) : Vt 0 x (58 :: (Ql y s n).1) := by
 obtain ⟨v, v1, v2⟩ := Za (y := y) (n := n) h hl
 exact Vt.plain v1 (fun G u j => by rw [v2]; exact hx G u j)
theorem Qlw {g h : Bs} (a : WsL g) (b : WsL h) : WsL (g ++ h) := fun c hc => (List.mem_append.1 hc).elim (a c) (b c)
theorem Qpu (y : Bs) {x : SelD} (hf : Fld x) (e : x.kind = 6) (n : Nat) : Vt 0 (QM x) (Vr y x n).1 := by
 obtain ⟨_, n1, n2⟩ := hf.nth e
 have hl : QM x = .nth x.a x.b (decide (x.flag = 1 \/ x.flag = 3)) (decide (x.flag = 2 \/ x.flag = 3)) := by
  unfold QM
  rw [if_neg (by omega), if_neg (by omega), if_neg (by omega), if_neg (by omega), if_neg (by omega), if_pos e]
 have h4 : x.flag = 0 \/ x.flag = 1 \/ x.flag = 2 \/ x.flag = 3 := by omega
 unfold Vr
 simp only
 generalize (if x.a = 0 /\ x.b = 1 then chc y n 2 else (0, n)) = z
 by_cases h1 : x.a = 0 /\ x.b = 1 /\ z.1 = 1
 rw [if_pos h1, hl, h1.1, h1.2.1]
 rcases h4 with h | h | h | h <;> rw [h]
 exact Qcm (by decide) (by decide) (fun G u j => rfl)
 exact Qcm (by decide) (by decide) (fun G u j => rfl)
 exact Qcm (by decide) (by decide) (fun G u j => rfl)
 exact Qcm (by decide) (by decide) (fun G u j => rfl)
 rw [if_neg h1, hl]
 have key : ∀ (nm : Bs) (l t : Bool), ((nm.all fun c => QO c.toNat) && QE (hd nm)) = true -> low nm = nm -> nm = Qco l t -> Vt 0 (.nth x.a x.b l t)
  (58 :: ((Ql y nm z.2).1 ++ (40 :: ((Qh y (Ql y nm z.2).2).1 ++ ((Zb y x.a x.b (chc y (Qh y (Ql y nm z.2).2).2 3).1 (chc y (Qh y (Ql y nm z.2).2).2 3).2).1 ++ ((Qh y (Zb y x.a x.b (chc y (Qh y (Ql y nm z.2).2).2 3).1 (chc y (Qh y (Ql y nm z.2).2).2 3).2).2).1 ++ [41])))))) := by
  intro nm l t k1 k2 k3
  obtain ⟨v, v1, v2⟩ := Za (y := y) (n := z.2) k1 k2
  exact Vt.nth l t v1 (v2.trans k3) (cnt_w y ⟨hf.rng.1, hf.rng.2.1⟩ ⟨hf.rng.2.2.1, hf.rng.2.2.2⟩ _ _) (Vf _ _) (Vf _ _)
 rcases h4 with h | h | h | h <;> rw [h]
 exact key Jb false false (by decide) (by decide) (by decide)
 exact key Yj true false (by decide) (by decide) (by decide)
 exact key Jj false true (by decide) (by decide) (by decide)
 exact key Yd true true (by decide) (by decide) (by decide)
theorem QsT (y : Bs) {x : SelD} (hf : Fld x) (e : x.kind = 5) (hr : QG x.val 0 = true) (n : Nat) : Vt 0 (QM x) (ZF y x n).1 := by
 obtain ⟨o1, o2, o3, o4⟩ := hf.attr e
 have hl : QM x = .attr x.key x.val (Vz.getD x.op.toNat []) (decide (x.flag = 1)) := by
  unfold QM
  rw [if_neg (by omega), if_neg (by omega), if_neg (by omega), if_neg (by omega), if_pos e]
 obtain ⟨v, v1, v2⟩ := QdH (y := y) (n := (Qh y n).2) (ZN hf.kz (hf.key (by omega)))
 have hv : low v = x.key := v2.trans hf.low
 unfold ZF
 simp only
 by_cases ho : x.op = 1
 rw [if_pos ho, hl, ho, o4 ho]
 have hx : x.val = [] := by
  rcases hf.val (by omega) with h | h
  exact h
  omega
 have q := Vt.attr0 v1 (Vf y n) (Qlw (Vf y (Ql y (Qs x.key) (Qh y n).2).2) (Vf y (Qh y (Ql y (Qs x.key) (Qh y n).2).2).2))
 rw [hv] at q
 rw [hx]
 simpa [Vz] using q
 rw [if_neg ho, hl]
 have hop : Vz.getD x.op.toNat [] ∈ attrSigns := by
  obtain ⟨m, hm⟩ : ∃ m : Fin 9, x.op.toNat = m.val := ⟨⟨x.op.toNat, by omega⟩, rfl⟩
  have : ∀ m : Fin 9, 2 <= m.val -> Vz.getD m.val [] ∈ attrSigns := by decide
  rw [hm]; exact this m (by omega)
 have hI : ∀ k, Qkr true (([[105], [73]] : List Bs).getD (chc y k 2).1 []) := by
  intro k
  have := QiQ (y := y) (n := k) (k := 2) (by decide)
  rcases (by omega : (chc y k 2).1 = 0 \/ (chc y k 2).1 = 1) with e | e <;> rw [e]
  exact .inr ⟨rfl, .inl rfl⟩
  exact .inr ⟨rfl, .inr rfl⟩
 have QdW : WsL [32] := fun c hc => by rw [List.mem_singleton.1 hc]; decide
 rcases o3 with h | h
 rw [if_neg (by omega), h]
 have q := Vt.attr1 v1 (Vf y n) (Vf y (Ql y (Qs x.key) (Qh y n).2).2) hop (Vf y (Qh y (Ql y (Qs x.key) (Qh y n).2).2).2) (Qgv y (Qh y (Qh y (Ql y (Qs x.key) (Qh y n).2).2).2).2 hr) .nil
  (f := []) (ign := false) (.inl ⟨rfl, rfl⟩) (.inl rfl) (Vf y (VK y x.val (Qh y (Qh y (Ql y (Qs x.key) (Qh y n).2).2).2).2).2)
 rw [hv] at q
 simpa using q
 rw [if_pos h, h]
 have q := Vt.attr1 v1 (Vf y n) (Vf y (Ql y (Qs x.key) (Qh y n).2).2) hop (Vf y (Qh y (Ql y (Qs x.key) (Qh y n).2).2).2) (Qgv y (Qh y (Qh y (Ql y (Qs x.key) (Qh y n).2).2).2).2 hr) QdW
  (hI (VK y x.val (Qh y (Qh y (Ql y (Qs x.key) (Qh y n).2).2).2).2).2) (.inr (by simp)) (Vf y (chc y (VK y x.val (Qh y (Qh y (Ql y (Qs x.key) (Qh y n).2).2).2).2).2 2).2)
 rw [hv] at q
 simpa using q
theorem QrX (y : Bs) {x : SelD} (hf : Fld x) (hr : QG x.val 0 = true) (hs : UG x) (hk : Qp x.kind = true) (h1 : x.kind ≠ 1) (h2 : x.kind ≠ 2) (hrel : ¬ (x.kind = 18 \/ x.kind = 19 \/ x.kind = 20)) (n : Nat) : Vt 0 (QM x) (Qv y x n).1 := by
 simp only [Qp, Bool.and_eq_true, decide_eq_true_eq] at hk
 have hcases : x.kind = 3 \/ x.kind = 4 \/ x.kind = 5 \/ x.kind = 6 \/ x.kind = 7 \/ x.kind = 8 \/ x.kind = 9 \/ x.kind = 10 \/ x.kind = 11 \/ x.kind = 12 \/ x.kind = 13 \/ x.kind = 14 \/ x.kind = 15 \/ x.kind = 16 \/ x.kind = 17 := by omega
 rcases hcases with e | e | e | e | e | e | e | e | e | e | e | e | e | e | e
 have q := Vt.cls (Qil y n hr (hf.name (by omega)))
 simpa [QM, Qv, e] using q
 have hid := Qil y n hr (hf.name (by omega))
 have q := Vt.idn hid.nm hid.head.1
 simpa [QM, Qv, e] using q
 have q := QsT y hf e hr n
 simpa [Qv, e] using q
 have q := Qpu y hf e n
 simpa [Qv, e] using q
 obtain ⟨_, n1 | n1⟩ := hf.only e
 have q := Z4 (y := y) (n := n) (x := .only false) (s := [111, 110, 108, 121, 45, 99, 104, 105, 108, 100]) (by decide) (by decide) (fun G s j => rfl)
 simpa [QM, Qv, Qq, e, n1, VP] using q
 have q := Z4 (y := y) (n := n) (x := .only true) (s := [111, 110, 108, 121, 45, 111, 102, 45, 116, 121, 112, 101]) (by decide) (by decide) (fun G s j => rfl)
 simpa [QM, Qv, Qq, e, n1, VP] using q
 have q := Z4 (y := y) (n := n) (x := .empty) (s := Qw.getD 0 []) (by decide) (by decide) (fun G s j => rfl)
 simpa [QM, Qv, Qq, e] using q
 have q := Z4 (y := y) (n := n) (x := .root) (s := Qw.getD 1 []) (by decide) (by decide) (fun G s j => rfl)
 simpa [QM, Qv, Qq, e] using q
 have q := Z4 (y := y) (n := n) (x := .input) (s := Qw.getD 2 []) (by decide) (by decide) (fun G s j => rfl)
 simpa [QM, Qv, Qq, e] using q
 have q := Z4 (y := y) (n := n) (x := .link) (s := Qw.getD 3 []) (by decide) (by decide) (fun G s j => rfl)
 simpa [QM, Qv, Qq, e] using q
 have q := Z4 (y := y) (n := n) (x := .enabled) (s := Qw.getD 4 []) (by decide) (by decide) (fun G s j => rfl)
 simpa [QM, Qv, Qq, e] using q
 have q := Z4 (y := y) (n := n) (x := .disabled) (s := Qw.getD 5 []) (by decide) (by decide) (fun G s j => rfl)
 simpa [QM, Qv, Qq, e] using q
 have q := Z4 (y := y) (n := n) (x := .checked) (s := Qw.getD 6 []) (by decide) (by decide) (fun G s j => rfl)
 simpa [QM, Qv, Qq, e] using q
 obtain ⟨v, v1, v2⟩ := Za (y := y) (n := n) (s := Y6) (by decide) (by decide)
 have q := Vt.lang v1 v2 (ZN hf.vz (hf.name (by omega))) (Vf y (Ql y Y6 n).2) (Vf y (Qh y (Ql y Y6 n).2).2)
 rw [hs (by omega)] at q
 simpa [QM, Qv, Yx, e] using q
 obtain ⟨v, v1, v2⟩ := Za (y := y) (n := n) (s := Q7) (by decide) (by decide)
 have q := Vt.contains false v1 v2 (Jh hf.vz) (Vf y (Ql y Q7 n).2) (Vf y (Qh y (Ql y Q7 n).2).2)
 rw [hs (by omega)] at q
 simpa [QM, Qv, Yx, e] using q
 obtain ⟨v, v1, v2⟩ := Za (y := y) (n := n) (s := QI) (by decide) (by decide)
 have q := Vt.contains true v1 v2 (Jh hf.vz) (Vf y (Ql y QI n).2) (Vf y (Qh y (Ql y QI n).2).2)
 rw [hs (by omega)] at q
 simpa [QM, Qv, Yx, e] using q
end Way
end
end Go.Proofs.YtengepcafdnalaaGreatDoor
