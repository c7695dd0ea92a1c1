/-
  Parts of the proof that the law FnPrintAgain holds for every input (texts Xd, Xe). Conditions: none.
-/
import Derived.Test.YtengepcafdnalaaGreatDoorM27
namespace Go.Proofs.YtengepcafdnalaaGreatDoor
open _root_.Bool renaming or_eq_true → zw, false_ne_true → zE, and_eq_true → zh
open _root_.List renaming append_assoc → zo, nil_append → zI, take_left' → xz, length_append → zd, length_cons → ze, length_nil → zf, mem_singleton → zQ
open _root_.Option renaming bind_some → zM
section
namespace Way
set_option maxRecDepth 20000
theorem QkY (b : Int) (hb : -9999 <= b /\ b <= 9999) : ∃ (c : UInt8) (n : Nat), QN b = c :: Vi n /\ (c.toNat = 43 /\ b = n \/ c.toNat = 45 /\ b = 0 - (n : Int)) /\ n <= 9999 := by
 unfold QN
 by_cases h : b < 0
 rw [if_pos h]; exact ⟨45, (-b).toNat, rfl, .inr ⟨rfl, by omega⟩, by omega⟩
 rw [if_neg h]; exact ⟨43, b.toNat, rfl, .inl ⟨rfl, by omega⟩, by omega⟩
theorem QdM (a b : Int) (ha : -9999 <= a /\ a <= 9999) : ∃ (neg : Bool) (m : Nat), QC a b = ((if neg = true then [45] else []) ++ Vi m) ++ (110 :: QN b) /\ a = (if neg = true then 0 - (m : Int) else m) /\ m <= 9999 := by
 unfold QC
 by_cases h : a < 0
 rw [if_pos h]; exact ⟨true, (-a).toNat, rfl, by simp; omega, by omega⟩
 rw [if_neg h]; exact ⟨false, a.toNat, rfl, by simp; omega, by omega⟩
theorem QgA {g r : Bs} (w : WsL g) : Qw (hd (g ++ (41 :: r))) = false /\ isN (hd (g ++ (41 :: r))) = false /\ hd (g ++ (41 :: r)) ≠ 43 /\ hd (g ++ (41 :: r)) ≠ 45 := by
 rcases Qqs (r := r) w with hr | hr
 simp only [VM, zw, decide_eq_true_eq] at hr
 rcases hr with (((hr | hr) | hr) | hr) | hr <;> rw [hr] <;> decide
 rw [hr]; decide
theorem QkQ {g r : Bs} (w : WsL g) : YP (g ++ (41 :: r)) := ZG w Qip
theorem QqU {a b : Int} {n : Nat} {es : Bs} (neg : Bool) (ha : a = if neg = true then -1 else 1) (h2 : Qgx n es) {x c : UInt8} (hx : isN x.toNat = true) (hc : c.toNat = 43 /\ b = n \/ c.toNat = 45 /\ b = 0 - (n : Int)) {g1 g2 : Bs} (w1 : WsL g1) (w2 : WsL g2) :
 Qeg a b ((if neg = true then [45] else []) ++ (x :: (g1 ++ (c :: (g2 ++ es))))) := by
 have xd : Qw x.toNat = false /\ VM x.toNat = false /\ x.toNat ≠ 47 /\ x.toNat ≠ 45 /\ x.toNat ≠ 43 := by
  simp only [isN, zw, decide_eq_true_eq] at hx
  rcases hx with hx | hx <;> rw [hx] <;> decide
 refine ⟨?_, ?_, ?_, fun s i g r e wg => ⟨_, ?_, .inl rfl⟩⟩
 cases neg <;> simp
 cases neg
 exact xd.2.1
 show VM 45 = false; decide
 cases neg
 exact xd.2.2.1
 show 45 ≠ 47; decide
 have hrd := (QgA (r := r) wg).1
 generalize g ++ (41 :: r) = r at e hrd
 cases neg with
 | false =>
  have e1 : s.drop i = x :: (g1 ++ (c :: (g2 ++ (es ++ r)))) := by rw [e]; simp
  obtain ⟨c1, c2, c3, c4⟩ := d1 e1
  unfold VU
  rw [if_pos c1, c2, if_neg xd.2.2.2.1, if_neg xd.2.2.2.2, if_neg (by rw [xd.1]; exact zE), if_pos hx, Qc7 h2 hc w1 w2 c4 hrd, ha]
  simp; omega
 | true =>
  have e1 : s.drop i = 45 :: (x :: (g1 ++ (c :: (g2 ++ (es ++ r))))) := by rw [e]; simp
  obtain ⟨c1, c2, c3, c4⟩ := d1 e1
  obtain ⟨k1, k2, k3, k4⟩ := d1 c4
  unfold VU
  rw [if_pos c1, if_pos (show bat s i = 45 from c2)]
  unfold V4
  rw [if_pos k1, k2, if_neg (by rw [xd.1]; exact zE), if_pos hx, Qc7 h2 hc w1 w2 k4 hrd, ha]
  simp; omega
theorem QqV {b : Int} {n : Nat} {es : Bs} (p : Bs) (h2 : Qgx n es) (hb : (p = [] \/ p = [43]) /\ b = n \/ p = [45] /\ b = 0 - (n : Int)) : Qeg 0 b (p ++ es) := by
 have hf := Uq (QaR h2)
 have hdn := QaR h2
 refine ⟨?_, ?_, ?_, fun s i g r e wg => ⟨_, ?_, .inl rfl⟩⟩
 simp [h2.1]
 rcases hb with ⟨rfl | rfl, _⟩ | ⟨rfl, _⟩
 exact hf.1
 show VM 43 = false; decide
 show VM 45 = false; decide
 rcases hb with ⟨rfl | rfl, _⟩ | ⟨rfl, _⟩
 exact hf.2.1
 show 43 ≠ 47; decide
 show 45 ≠ 47; decide
 obtain ⟨r1, r2, _, _⟩ := QgA (r := r) wg
 have rl : g ++ (41 :: r) ≠ [] := by simp
 generalize g ++ (41 :: r) = r at e r1 r2 rl
 rw [zo] at e
 have common : ∀ j, s.drop j = es ++ r -> Qdw s j = some ((n : Int), j + es.length) /\ (∀ a', Zv s a' (j + es.length) = some (0, a', j + es.length)) /\ j < s.length /\ Qw (bat s j) = true /\ bat s j = hd es := by
  intro j ej
  refine ⟨QcA h2 ej r1, fun a' => ?_, lhd ej (by simp [h2.1]), by rw [bhd ej, Q8 h2.1]; exact hdn, by rw [bhd ej, Q8 h2.1]⟩
  unfold Zv
  rw [if_pos (lhd (dA ej) rl), if_neg (by rw [bhd (dA ej), r2]; exact zE)]
 rcases hb with ⟨rfl | rfl, rfl⟩ | ⟨rfl, rfl⟩
 obtain ⟨q1, q2, q3, q4, q5⟩ := common i e
 unfold VU
 rw [if_pos q3, if_neg (by rw [q5]; exact hf.2.2.1), if_neg (by rw [q5]; exact hf.2.2.2.1), if_pos q4]
 unfold V0
 rw [if_pos q3, if_pos q4, q1]
 simp only [zM]
 rw [q2]; rfl
 obtain ⟨c1, c2, c3, c4⟩ := d1 (show s.drop i = 43 :: (es ++ r) from e)
 obtain ⟨q1, q2, q3, q4, q5⟩ := common _ c4
 unfold VU
 rw [if_pos c1, c2, if_neg (by decide), if_pos (by decide)]
 unfold V0
 rw [if_pos q3, if_pos q4, q1]
 simp only [zM]
 rw [q2]; simp; omega
 obtain ⟨c1, c2, c3, c4⟩ := d1 (show s.drop i = 45 :: (es ++ r) from e)
 obtain ⟨q1, q2, q3, q4, q5⟩ := common _ c4
 unfold VU
 rw [if_pos c1, c2, if_pos (by decide)]
 unfold V4
 rw [if_pos q3, if_pos q4, q1]
 simp only [zM]
 rw [q2]; simp; omega
theorem nth_n {a : Int} {m : Nat} {ds : Bs} (neg : Bool) (h1 : Qgx m ds) (ha : a = if neg = true then 0 - (m : Int) else m) : Qeg a 0 (((if neg = true then [45] else []) ++ ds) ++ [110]) := by
 have hf := Uq (QaR h1)
 have hdn := QaR h1
 refine ⟨?_, ?_, ?_, fun s i g r e wg => ⟨i + (((if neg = true then [45] else []) ++ ds) ++ [110]).length + g.length, ?_, .inr rfl⟩⟩
 cases neg <;> simp
 cases neg
 show VM (hd ((([] : Bs) ++ ds) ++ [110])) = false
 rw [zI, Q8 h1.1]; exact hf.1
 show VM 45 = false; decide
 cases neg
 show hd ((([] : Bs) ++ ds) ++ [110]) ≠ 47
 rw [zI, Q8 h1.1]; exact hf.2.1
 show 45 ≠ 47; decide
 have common : ∀ j, s.drop j = ds ++ (110 :: (g ++ (41 :: r))) -> Qdw s j = some ((m : Int), j + ds.length) /\
  (∀ a', Zv s a' (j + ds.length) = some (a', 0, j + ds.length + 1 + g.length)) /\ j < s.length /\ Qw (bat s j) = true /\ bat s j = hd ds := by
  intro j ej
  have q := QcA h1 ej (show Qw 110 = false by decide)
  obtain ⟨x1, x2, x3, x4⟩ := d1 (dA ej)
  have q1 := Ym g _ _ x4 wg (Zz (by decide) (by decide))
  obtain ⟨y1, y2, y3, y4⟩ := d1 (dA x4)
  refine ⟨q, fun a' => ?_, lhd ej (by simp [h1.1]), by rw [bhd ej, Q8 h1.1]; exact hdn, by rw [bhd ej, Q8 h1.1]⟩
  unfold Zv
  rw [if_pos x1, if_pos (by rw [x2]; decide)]
  unfold Y8
  rw [q1, if_pos y1, y2, if_neg (by decide), if_neg (by decide)]
 cases neg with
 | false =>
  have e1 : s.drop i = ds ++ (110 :: (g ++ (41 :: r))) := by rw [e]; simp
  obtain ⟨q1, q2, q3, q4, q5⟩ := common i e1
  unfold VU
  rw [if_pos q3, if_neg (by rw [q5]; exact hf.2.2.1), if_neg (by rw [q5]; exact hf.2.2.2.1), if_pos q4]
  unfold V0
  rw [if_pos q3, if_pos q4, q1]
  simp only [zM]
  rw [q2, ha]
  simp; omega
 | true =>
  have e1 : s.drop i = 45 :: (ds ++ (110 :: (g ++ (41 :: r)))) := by rw [e]; simp
  obtain ⟨c1, c2, c3, c4⟩ := d1 e1
  obtain ⟨q1, q2, q3, q4, q5⟩ := common (i + 1) c4
  unfold VU
  rw [if_pos c1, if_pos (show bat s i = 45 from c2)]
  unfold V4
  rw [if_pos q3, if_pos q4, q1]
  simp only [zM]
  rw [q2, ha]
  simp; omega
theorem nth_o {a b : Int} {v t : Bs} (h : NmW v t) (ht : t ≠ []) (ho : ZU (hd t) = true) (hw : low v = [111, 100, 100] /\ a = 2 /\ b = 1 \/ low v = [101, 118, 101, 110] /\ a = 2 /\ b = 0) : Qeg a b t := by
 have hc : VM (hd t) = false /\ hd t ≠ 47 /\ hd t ≠ 45 /\ hd t ≠ 43 /\ Qw (hd t) = false /\ isN (hd t) = false := by
  simp only [ZU, zw, decide_eq_true_eq] at ho
  rcases ho with ((ho | ho) | ho) | ho <;> rw [ho] <;> decide
 refine ⟨ht, hc.1, hc.2.1, fun s i g r e wg => ⟨_, ?_, .inl rfl⟩⟩
 have hb := bhd e
 rw [Q8 ht] at hb
 unfold VU
 rw [if_pos (lhd e (by simp [ht])), hb, if_neg hc.2.2.1, if_neg hc.2.2.2.1, if_neg (by rw [hc.2.2.2.2.1]; exact zE), if_neg (by rw [hc.2.2.2.2.2]; exact zE), if_pos ho, Qdv h ht e (QkQ wg)]
 rcases hw with ⟨h1, rfl, rfl⟩ | ⟨h1, rfl, rfl⟩
 simp only; rw [if_pos h1]
 simp only; rw [if_neg (by rw [h1]; decide), if_pos h1]
theorem QmE : ∀ (s : Bs), (s.all fun c => QG c.toNat) = true -> NmW s s
 | [], _ => .nil
 | c :: s, h => by
  simp only [List.all_cons, zh] at h
  exact .raw h.1 (QmE s h.2)
theorem Qom {y s : Bs} {n : Nat} {v : Bs} (h : NmW v s) : ∃ v', NmW v' (Qm y s n).1 /\ low v' = low v := by
 unfold Qm
 by_cases hc : (chc y n 4).1 = 1
 simp only [if_pos hc]; exact h.upp
 simp only [if_neg hc]; exact ⟨v, h, rfl⟩
theorem Qol {y s : Bs} {n : Nat} (h : s = [111, 100, 100] \/ s = [101, 118, 101, 110]) : (Qm y s n).1 ≠ [] /\ ZU (hd (Qm y s n).1) = true := by
 unfold Qm
 by_cases hc : (chc y n 4).1 = 1
 simp only [if_pos hc]
 rcases h with rfl | rfl <;> decide
 simp only [if_neg hc]
 rcases h with rfl | rfl <;> decide
theorem Qjk {y : Bs} {n k : Nat} (hk : 0 < k) : (chc y n k).1 < k := by
 unfold chc
 split
 exact hk
 exact Nat.mod_lt _ hk
theorem cnt_w (y : Bs) {a b : Int} (ha : -9999 <= a /\ a <= 9999) (hb : -9999 <= b /\ b <= 9999) (way n : Nat) : Qeg a b (Y3 y a b way n).1 := by
 have odd : ∀ {s : Bs} {n : Nat}, (s = [111, 100, 100] /\ b = 1 \/ s = [101, 118, 101, 110] /\ b = 0) -> a = 2 -> Qeg a b (Qm y s n).1 := by
  intro s n h h2
  have h0 : NmW s s := QmE s (by rcases h with ⟨rfl, _⟩ | ⟨rfl, _⟩ <;> decide)
  obtain ⟨v, v1, v2⟩ := Qom (y := y) (n := n) h0
  obtain ⟨o1, o2⟩ := Qol (y := y) (n := n) (s := s) (h.elim (fun q => .inl q.1) fun q => .inr q.1)
  refine nth_o v1 o1 o2 ?_
  rcases h with ⟨rfl, h⟩ | ⟨rfl, h⟩
  exact .inl ⟨v2, h2, h⟩
  exact .inr ⟨v2, h2, h⟩
 obtain ⟨c, m, s1, s2, s3⟩ := QkY b hb
 have hdm := Z5 (n := m) (by omega)
 unfold Y3
 by_cases h1 : a = 2 /\ b = 1 /\ way = 1
 rw [if_pos h1]; exact odd (.inl ⟨rfl, h1.2.1⟩) h1.1
 rw [if_neg h1]
 by_cases h2 : a = 2 /\ b = 0 /\ way = 1
 rw [if_pos h2]; exact odd (.inr ⟨rfl, h2.2.1⟩) h2.1
 rw [if_neg h2]
 by_cases h3 : a = 0 /\ way = 1
 rw [if_pos h3, h3.1]
 by_cases h4 : b < 0
 rw [if_pos h4]
 exact QqV [45] (Z5 (n := (0 - b).toNat) (by omega)) (.inr ⟨rfl, by omega⟩)
 rw [if_neg h4]
 refine QqV _ (Z5 (n := b.toNat) (by omega)) (.inl ⟨?_, by omega⟩)
 have := Qjk (y := y) (n := n) (k := 2) (by decide)
 rcases (by omega : (chc y n 2).1 = 0 \/ (chc y n 2).1 = 1) with e | e <;> rw [e]
 exact .inl rfl
 exact .inr rfl
 rw [if_neg h3]
 by_cases h4 : b = 0 /\ way = 1
 rw [if_pos h4, h4.1]
 obtain ⟨neg, k, e1, e2, e3⟩ := QdM a 0 ha
 have e4 : (QC a 0).take ((QC a 0).length - 2) = ((if neg = true then [45] else []) ++ Vi k) ++ [110] := by
  have : QC a 0 = (((if neg = true then [45] else []) ++ Vi k) ++ [110]) ++ [43, 48] := by
   rw [e1]
   have : QN 0 = [43, 48] := by rw [QN, if_neg (by decide)]; simp [Vi]
   rw [this]; simp
  rw [this, xz (by simp only [zd, ze, zf] <;> omega)]
 rw [e4]
 exact nth_n neg (Z5 (n := k) (by omega)) e2
 rw [if_neg h4]
 by_cases h5 : (a = 1 \/ a = -1) /\ way = 2
 rw [if_pos h5]
 simp only
 rw [s1]
 simp only [List.take_succ_cons, List.take_zero, List.drop_succ_cons, List.drop_zero]
 have hx : ∃ x : UInt8, ([[110], [78]] : List Bs).getD (chc y n 2).1 [] = [x] /\ isN x.toNat = true := by
  have := Qjk (y := y) (n := n) (k := 2) (by decide)
  rcases (by omega : (chc y n 2).1 = 0 \/ (chc y n 2).1 = 1) with e | e <;> rw [e]
  exact ⟨110, rfl, by decide⟩
  exact ⟨78, rfl, by decide⟩
 obtain ⟨x, x1, x2⟩ := hx
 rw [x1]
 rcases h5.1 with rfl | rfl
 have := QqU (a := 1) false (by simp) hdm x2 s2 (Vg y (chc y n 2).2) (Vg y (Qh y (chc y n 2).2).2)
 simpa using this
 have := QqU (a := -1) true (by simp) hdm x2 s2 (Vg y (chc y n 2).2) (Vg y (Qh y (chc y n 2).2).2)
 simpa using this
 rw [if_neg h5]
 obtain ⟨neg, k, e1, e2, e3⟩ := QdM a b ha
 have e4 : QC a b = (((if neg = true then [45] else []) ++ Vi k) ++ [110]) ++ (c :: Vi m) := by rw [e1, s1]; simp
 have e5 : (QC a b).length - (QN b).length = (((if neg = true then [45] else []) ++ Vi k) ++ [110]).length := by rw [e4, s1]; simp only [zd, ze, zf]; omega
 have e6 : QC a b = ((((if neg = true then [45] else []) ++ Vi k) ++ [110]) ++ [c]) ++ Vi m := by rw [e4]; simp
 simp only
 rw [e5]
 have t1 : (QC a b).take (((if neg = true then [45] else []) ++ Vi k) ++ [110]).length = ((if neg = true then [45] else []) ++ Vi k) ++ [110] := by rw [e4, xz rfl]
 have t2 : ((QC a b).take ((((if neg = true then [45] else []) ++ Vi k) ++ [110]).length + 1)).drop (((if neg = true then [45] else []) ++ Vi k) ++ [110]).length = [c] := by
  rw [e6, xz (by simp only [zd, ze, zf] <;> omega), List.drop_left' rfl]
 have t3 : (QC a b).drop ((((if neg = true then [45] else []) ++ Vi k) ++ [110]).length + 1) = Vi m := by
  rw [e6, List.drop_left' (by simp only [zd, ze, zf] <;> omega)]
 rw [t1, t2, t3]
 have := Qm9 neg (Z5 (n := k) (by omega)) e2 hdm (x := 110) (by decide) s2 (Vg y n) (Vg y (Qh y n).2)
 simpa using this
end Way
end
section
namespace Way
set_option maxRecDepth 20000
theorem Y2 {y s : Bs} {n : Nat} (h : ((s.all fun c => QG c.toNat) && QA (hd s)) = true) (hl : low s = s) : ∃ v, IdW v (Qm y s n).1 /\ low v = s := by
 obtain ⟨v, v1, v2⟩ := QdQ (y := y) (n := n) (Vt h)
 exact ⟨v, v1, by rw [v2, hl]⟩
theorem QlO {y t : Bs} {n : Nat} : (Qm y (58 :: t) n).1 = 58 :: (Qm y t n).1 := by
 unfold Qm
 by_cases h : (chc y n 4).1 = 1
 simp only [if_pos h]; rfl
 simp only [if_neg h]
theorem Z0 {y s : Bs} {n : Nat} {x : CSel} (h : ((s.all fun c => QG c.toNat) && QA (hd s)) = true) (hl : low s = s) (hx : ∀ G u j, Y9 G u s j = some (some x, [], j)) : Q6 0 x (Qm y (58 :: s) n).1 := by
 obtain ⟨v, v1, v2⟩ := Y2 (y := y) (n := n) h hl
 rw [QlO]
 exact Q6.plain v1 (fun G u j => by rw [v2]; exact hx G u j)
theorem Qcv {y s : Bs} {n : Nat} {x : CSel} (h : ((s.all fun c => QG c.toNat) && QA (hd s)) = true) (hl : low s = s) (hx : ∀ G u j, Y9 G u s j = some (some x, [], j)) : Q6 0 x (58 :: (Qm y s n).1) := by
 obtain ⟨v, v1, v2⟩ := Y2 (y := y) (n := n) h hl
 exact Q6.plain v1 (fun G u j => by rw [v2]; exact hx G u j)
theorem QlW {g h : Bs} (a : WsL g) (b : WsL h) : WsL (g ++ h) := fun c hc => (List.mem_append.1 hc).elim (a c) (b c)
theorem Qqc (y : Bs) {x : SelD} (hf : Fld x) (e : x.kind = 6) (n : Nat) : Q6 0 (Qx x) (Vr y x n).1 := by
 obtain ⟨_, n1, n2⟩ := hf.nth e
 have hl : Qx x = .nth x.a x.b (decide (x.flag = 1 \/ x.flag = 3)) (decide (x.flag = 2 \/ x.flag = 3)) := by
  unfold Qx
  rw [if_neg (by omega), if_neg (by omega), if_neg (by omega), if_neg (by omega), if_neg (by omega), if_pos e]
 have h4 : x.flag = 0 \/ x.flag = 1 \/ x.flag = 2 \/ x.flag = 3 := by omega
 unfold Vr
 simp only
 generalize (if x.a = 0 /\ x.b = 1 then chc y n 2 else (0, n)) = z
 by_cases h1 : x.a = 0 /\ x.b = 1 /\ z.1 = 1
 rw [if_pos h1, hl, h1.1, h1.2.1]
 rcases h4 with h | h | h | h <;> rw [h]
 exact Qcv (by decide) (by decide) (fun G u j => rfl)
 exact Qcv (by decide) (by decide) (fun G u j => rfl)
 exact Qcv (by decide) (by decide) (fun G u j => rfl)
 exact Qcv (by decide) (by decide) (fun G u j => rfl)
 rw [if_neg h1, hl]
 have key : ∀ (nm : Bs) (l t : Bool), ((nm.all fun c => QG c.toNat) && QA (hd nm)) = true -> low nm = nm -> nm = YV l t -> Q6 0 (.nth x.a x.b l t)
  (58 :: ((Qm y nm z.2).1 ++ (40 :: ((Qh y (Qm y nm z.2).2).1 ++ ((Y3 y x.a x.b (chc y (Qh y (Qm y nm z.2).2).2 3).1 (chc y (Qh y (Qm y nm z.2).2).2 3).2).1 ++ ((Qh y (Y3 y x.a x.b (chc y (Qh y (Qm y nm z.2).2).2 3).1 (chc y (Qh y (Qm y nm z.2).2).2 3).2).2).1 ++ [41])))))) := by
  intro nm l t k1 k2 k3
  obtain ⟨v, v1, v2⟩ := Y2 (y := y) (n := z.2) k1 k2
  exact Q6.nth l t v1 (v2.trans k3) (cnt_w y ⟨hf.rng.1, hf.rng.2.1⟩ ⟨hf.rng.2.2.1, hf.rng.2.2.2⟩ _ _) (Vg _ _) (Vg _ _)
 rcases h4 with h | h | h | h <;> rw [h]
 exact key VH false false (by decide) (by decide) (by decide)
 exact key QP true false (by decide) (by decide) (by decide)
 exact key VL false true (by decide) (by decide) (by decide)
 exact key QW true true (by decide) (by decide) (by decide)
theorem Quw (y : Bs) {x : SelD} (hf : Fld x) (e : x.kind = 5) (hr : QE x.val 0 = true) (n : Nat) : Q6 0 (Qx x) (ZA y x n).1 := by
 obtain ⟨o1, o2, o3, o4⟩ := hf.attr e
 have hl : Qx x = .attr x.key x.val (Vj.getD x.op.toNat []) (decide (x.flag = 1)) := by
  unfold Qx
  rw [if_neg (by omega), if_neg (by omega), if_neg (by omega), if_neg (by omega), if_pos e]
 obtain ⟨v, v1, v2⟩ := QdQ (y := y) (n := (Qh y n).2) (Y6 hf.kz (hf.key (by omega)))
 have hv : low v = x.key := v2.trans hf.low
 unfold ZA
 simp only
 by_cases ho : x.op = 1
 rw [if_pos ho, hl, ho, o4 ho]
 have hx : x.val = [] := by
  rcases hf.val (by omega) with h | h
  exact h
  omega
 have q := Q6.attr0 v1 (Vg y n) (QlW (Vg y (Qm y (Qr x.key) (Qh y n).2).2) (Vg y (Qh y (Qm y (Qr x.key) (Qh y n).2).2).2))
 rw [hv] at q
 rw [hx]
 simpa [Vj] using q
 rw [if_neg ho, hl]
 have hop : Vj.getD x.op.toNat [] ∈ attrSigns := by
  obtain ⟨m, hm⟩ : ∃ m : Fin 9, x.op.toNat = m.val := ⟨⟨x.op.toNat, by omega⟩, rfl⟩
  have : ∀ m : Fin 9, 2 <= m.val -> Vj.getD m.val [] ∈ attrSigns := by decide
  rw [hm]; exact this m (by omega)
 have hI : ∀ k, QkN true (([[105], [73]] : List Bs).getD (chc y k 2).1 []) := by
  intro k
  have := Qjk (y := y) (n := k) (k := 2) (by decide)
  rcases (by omega : (chc y k 2).1 = 0 \/ (chc y k 2).1 = 1) with e | e <;> rw [e]
  exact .inr ⟨rfl, .inl rfl⟩
  exact .inr ⟨rfl, .inr rfl⟩
 have UE : WsL [32] := fun c hc => by rw [zQ.1 hc]; decide
 rcases o3 with h | h
 rw [if_neg (by omega), h]
 have q := Q6.attr1 v1 (Vg y n) (Vg y (Qm y (Qr x.key) (Qh y n).2).2) hop (Vg y (Qh y (Qm y (Qr x.key) (Qh y n).2).2).2) (QgE y (Qh y (Qh y (Qm y (Qr x.key) (Qh y n).2).2).2).2 hr) .nil
  (f := []) (ign := false) (.inl ⟨rfl, rfl⟩) (.inl rfl) (Vg y (VJ y x.val (Qh y (Qh y (Qm y (Qr x.key) (Qh y n).2).2).2).2).2)
 rw [hv] at q
 simpa using q
 rw [if_pos h, h]
 have q := Q6.attr1 v1 (Vg y n) (Vg y (Qm y (Qr x.key) (Qh y n).2).2) hop (Vg y (Qh y (Qm y (Qr x.key) (Qh y n).2).2).2) (QgE y (Qh y (Qh y (Qm y (Qr x.key) (Qh y n).2).2).2).2 hr) UE
  (hI (VJ y x.val (Qh y (Qh y (Qm y (Qr x.key) (Qh y n).2).2).2).2).2) (.inr (by simp)) (Vg y (chc y (VJ y x.val (Qh y (Qh y (Qm y (Qr x.key) (Qh y n).2).2).2).2).2 2).2)
 rw [hv] at q
 simpa using q
theorem QsZ (y : Bs) {x : SelD} (hf : Fld x) (hr : QE x.val 0 = true) (hs : Ua x) (hk : Qo x.kind = true) (h1 : x.kind ≠ 1) (h2 : x.kind ≠ 2) (hrel : ¬ (x.kind = 18 \/ x.kind = 19 \/ x.kind = 20)) (n : Nat) : Q6 0 (Qx x) (Qu y x n).1 := by
 simp only [Qo, zh, decide_eq_true_eq] at hk
 have hcases : x.kind = 3 \/ x.kind = 4 \/ x.kind = 5 \/ x.kind = 6 \/ x.kind = 7 \/ x.kind = 8 \/ x.kind = 9 \/ x.kind = 10 \/ x.kind = 11 \/ x.kind = 12 \/ x.kind = 13 \/ x.kind = 14 \/ x.kind = 15 \/ x.kind = 16 \/ x.kind = 17 := by omega
 rcases hcases with e | e | e | e | e | e | e | e | e | e | e | e | e | e | e
 have q := Q6.cls (QiN y n hr (hf.name (by omega)))
 simpa [Qx, Qu, e] using q
 have hid := QiN y n hr (hf.name (by omega))
 have q := Q6.idn hid.nm hid.head.1
 simpa [Qx, Qu, e] using q
 have q := Quw y hf e hr n
 simpa [Qu, e] using q
 have q := Qqc y hf e n
 simpa [Qu, e] using q
 obtain ⟨_, n1 | n1⟩ := hf.only e
 have q := Z0 (y := y) (n := n) (x := .only false) (s := [111, 110, 108, 121, 45, 99, 104, 105, 108, 100]) (by decide) (by decide) (fun G s j => rfl)
 simpa [Qx, Qu, Qs, e, n1, VO] using q
 have q := Z0 (y := y) (n := n) (x := .only true) (s := [111, 110, 108, 121, 45, 111, 102, 45, 116, 121, 112, 101]) (by decide) (by decide) (fun G s j => rfl)
 simpa [Qx, Qu, Qs, e, n1, VO] using q
 have q := Z0 (y := y) (n := n) (x := .empty) (s := Qq.getD 0 []) (by decide) (by decide) (fun G s j => rfl)
 simpa [Qx, Qu, Qs, e] using q
 have q := Z0 (y := y) (n := n) (x := .root) (s := Qq.getD 1 []) (by decide) (by decide) (fun G s j => rfl)
 simpa [Qx, Qu, Qs, e] using q
 have q := Z0 (y := y) (n := n) (x := .input) (s := Qq.getD 2 []) (by decide) (by decide) (fun G s j => rfl)
 simpa [Qx, Qu, Qs, e] using q
 have q := Z0 (y := y) (n := n) (x := .link) (s := Qq.getD 3 []) (by decide) (by decide) (fun G s j => rfl)
 simpa [Qx, Qu, Qs, e] using q
 have q := Z0 (y := y) (n := n) (x := .enabled) (s := Qq.getD 4 []) (by decide) (by decide) (fun G s j => rfl)
 simpa [Qx, Qu, Qs, e] using q
 have q := Z0 (y := y) (n := n) (x := .disabled) (s := Qq.getD 5 []) (by decide) (by decide) (fun G s j => rfl)
 simpa [Qx, Qu, Qs, e] using q
 have q := Z0 (y := y) (n := n) (x := .checked) (s := Qq.getD 6 []) (by decide) (by decide) (fun G s j => rfl)
 simpa [Qx, Qu, Qs, e] using q
 obtain ⟨v, v1, v2⟩ := Y2 (y := y) (n := n) (s := YF) (by decide) (by decide)
 have q := Q6.lang v1 v2 (Y6 hf.vz (hf.name (by omega))) (Vg y (Qm y YF n).2) (Vg y (Qh y (Qm y YF n).2).2)
 rw [hs (by omega)] at q
 simpa [Qx, Qu, Yt, e] using q
 obtain ⟨v, v1, v2⟩ := Y2 (y := y) (n := n) (s := Q9) (by decide) (by decide)
 have q := Q6.contains false v1 v2 (Jg hf.vz) (Vg y (Qm y Q9 n).2) (Vg y (Qh y (Qm y Q9 n).2).2)
 rw [hs (by omega)] at q
 simpa [Qx, Qu, Yt, e] using q
 obtain ⟨v, v1, v2⟩ := Y2 (y := y) (n := n) (s := QH) (by decide) (by decide)
 have q := Q6.contains true v1 v2 (Jg hf.vz) (Vg y (Qm y QH n).2) (Vg y (Qh y (Qm y QH n).2).2)
 rw [hs (by omega)] at q
 simpa [Qx, Qu, Yt, e] using q
end Way
end
end Go.Proofs.YtengepcafdnalaaGreatDoor
