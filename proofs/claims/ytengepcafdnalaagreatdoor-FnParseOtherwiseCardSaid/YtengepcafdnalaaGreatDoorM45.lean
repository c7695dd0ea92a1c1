/-
  Parts of the proof that the law FnParseOtherwise holds for every input (texts Xg). Conditions: none.
-/
import Derived.Test.YtengepcafdnalaaGreatDoorM44
namespace Go.Proofs.YtengepcafdnalaaGreatDoor
section
open Go Go.RowKit
set_option maxRecDepth 20000
theorem Qsy {a b : Int} (ha : -9999 <= a /\ a <= 9999) (hb : -9999 <= b /\ b <= 9999) (y : Bs) (w n : Nat) : (Zb y a b w n).1.length <= 150 /\ n <= (Zb y a b w n).2 /\ (Zb y a b w n).2 <= n + 3 := by
 have d1 := YD (n := b.toNat) (by omega)
 have d2 := YD (n := (0 - b).toNat) (by omega)
 have d3 := ZK (n := b) (by omega)
 have d4 := YR (a := a) (b := b) (by omega) (by omega)
 have d5 := YR (a := a) (b := 0) (by omega) (by omega)
 have e1 := VS y [111, 100, 100] n
 have e2 := VS y [101, 118, 101, 110] n
 have c2 := YI y n 2
 have g1 := Vx y n
 have g2 := VG y n
 have g3 := Vx y (Qh y n).2
 have g4 := VG y (Qh y n).2
 have g5 := Vx y (chc y n 2).2
 have g6 := VG y (chc y n 2).2
 have g7 := Vx y (Qh y (chc y n 2).2).2
 have g8 := VG y (Qh y (chc y n 2).2).2
 have s1 := QY (l := [[], [43]]) (n := 1) (by decide) (chc y n 2).1
 have s2 := QY (l := [[45], [], []]) (n := 1) (by decide) (a + 1).toNat
 have s3 := QY (l := [[110], [78]]) (n := 1) (by decide) (chc y n 2).1
 unfold Zb
 repeat' split
 all_goals (simp only [List.length_append, List.length_cons, List.length_nil, List.length_take, List.length_drop, Qb]; omega)
theorem QhG (y : Bs) {x : SelD} (hr : -9999 <= x.a /\ x.a <= 9999 /\ -9999 <= x.b /\ x.b <= 9999) (n : Nat) : (Jr y x n).1.length <= 250 /\ n <= (Jr y x n).2 /\ (Jr y x n).2 <= n + 8 := by
 have s1 := QY (l := Q3) (n := 12) (by decide) x.flag.toNat
 have e1 := VS y ([110, 116, 104, 45] ++ Q3.getD x.flag.toNat []) n
 have e2 := VG y (Ql y ([110, 116, 104, 45] ++ Q3.getD x.flag.toNat []) n).2
 have e3 := Vx y (Ql y ([110, 116, 104, 45] ++ Q3.getD x.flag.toNat []) n).2
 have e4 := YI y (Qh y (Ql y ([110, 116, 104, 45] ++ Q3.getD x.flag.toNat []) n).2).2 3
 have e5 := Qsy (a := x.a) (b := x.b) (by omega) (by omega) y (chc y (Qh y (Ql y ([110, 116, 104, 45] ++ Q3.getD x.flag.toNat []) n).2).2 3).1 (chc y (Qh y (Ql y ([110, 116, 104, 45] ++ Q3.getD x.flag.toNat []) n).2).2 3).2
 unfold Jr
 simp only
 generalize hz : (chc y (Qh y (Ql y ([110, 116, 104, 45] ++ Q3.getD x.flag.toNat []) n).2).2 3) = z at e4 e5 ⊢
 have e6 := VG y (Zb y x.a x.b z.1 z.2).2
 have e7 := Vx y (Zb y x.a x.b z.1 z.2).2
 simp only [List.length_append, List.length_cons, List.length_nil, Qb] at *
 omega
theorem Qpv (y : Bs) {x : SelD} (hr : -9999 <= x.a /\ x.a <= 9999 /\ -9999 <= x.b /\ x.b <= 9999) (n : Nat) : (Vr y x n).1.length <= 300 /\ n <= (Vr y x n).2 /\ (Vr y x n).2 <= n + 12 := by
 have c2 := YI y n 2
 by_cases h : x.a = 0 /\ x.b = 1
 by_cases h1 : (chc y n 2).1 = 1
 rw [QeU h h1]
 have s0 := QY (l := ZL) (n := 13) (by decide) x.flag.toNat
 have s1 := VS y (ZL.getD x.flag.toNat []) (chc y n 2).2
 simp only [List.length_cons, Qb]
 omega
 rw [QeV h h1]
 have := QhG y hr (chc y n 2).2
 omega
 rw [QhF h]
 have := QhG y hr n
 omega
def pwN (x : SelD) : Nat := 2000 + 20 * (x.key.length + x.val.length)
def pwL : List SelD -> Nat
 | [] => 0
 | x :: l => pwN x + pwL l
theorem Ua : ∀ (a b : List SelD), pwL (a ++ b) = pwL a + pwL b
 | [], b => by simp [pwL]
 | x :: a, b => by simp only [List.cons_append, pwL, Ua a b]; omega
theorem QgV (l : List SelD) (i : Nat) : pwL (l.drop i) <= pwL l := by
 have := Ua (l.take i) (l.drop i)
 rw [List.take_append_drop] at this
 omega
theorem QcY (x : SelD) (ks : List ST) : pwL (ST.mk x ks).flat = pwN x + pwL (ST.flats ks) := by
 rw [ST.flat, QB, pwL]; rfl
theorem QnT (y nm t : Bs) (n : Nat) : (Yx y nm t n).1.length <= nm.length + t.length + 10 /\ n <= (Yx y nm t n).2 /\ (Yx y nm t n).2 <= n + 3 := by
 have b2 := VS y nm n
 have b3 := VG y (Ql y nm n).2
 have b4 := Vx y (Ql y nm n).2
 have b5 := VG y (Qh y (Ql y nm n).2).2
 have b6 := Vx y (Qh y (Ql y nm n).2).2
 unfold Yx
 simp only [List.length_append, List.length_cons, List.length_nil, Qb]
 omega
theorem QsU (y : Bs) {x : SelD} (hr : QG x.val 0 = true) (n : Nat) : (ZF y x n).1.length <= 100 + 8 * (x.key.length + x.val.length) /\ n <= (ZF y x n).2 /\ (ZF y x n).2 <= n + 10 + x.val.length := by
 have l1 := VL x.key
 have a1 := VG y n
 have a2 := Vx y n
 have a3 := VS y (Qs x.key) (Qh y n).2
 have a4 := VG y (Ql y (Qs x.key) (Qh y n).2).2
 have a5 := Vx y (Ql y (Qs x.key) (Qh y n).2).2
 generalize hg : Qh y (Ql y (Qs x.key) (Qh y n).2).2 = g at *
 have b1 := VG y g.2
 have b2 := Vx y g.2
 have b3 := QlE y (Qh y g.2).2 hr
 generalize ht : VK y x.val (Qh y g.2).2 = t at *
 have c1 := YI y t.2 2
 have c2 := VG y (chc y t.2 2).2
 have c3 := Vx y (chc y t.2 2).2
 have c4 := VG y t.2
 have c5 := Vx y t.2
 have s1 := QY (l := Vz) (n := 2) (by decide) x.op.toNat
 have s2 := QY (l := ([[105], [73]] : List Bs)) (n := 1) (by decide) (chc y t.2 2).1
 unfold ZF
 simp only [hg, ht]
 repeat' split
 all_goals (simp only [List.length_append, List.length_cons, List.length_nil, Qb]; omega)
theorem QlO (y : Bs) {x : SelD} (hf : Way.Fld x) (hr : QG x.val 0 = true) (n : Nat) : (Qv y x n).1.length + 100 <= pwN x /\ n <= (Qv y x n).2 /\ (Qv y x n).2 + 100 <= n + pwN x := by
 have r := hf.rng
 have l1 := VL x.key
 have l2 := VL x.val
 have l3 := Jw x.val
 have l4 := J3 (x := x) (by omega) (by omega)
 have a1 := VS y (Qs x.key) n
 have a2 := Qis y n hr
 have a3 := QsU y hr n
 have a4 := Qpv y hf.rng n
 have a5 := QnT y Y6 (Qs x.val) n
 have a6 := QnT y Q7 (QQ x.val) n
 have a7 := QnT y QI (QQ x.val) n
 have a8 := VS y (Qq x) n
 have e1 : Y6.length = 4 := rfl
 have e2 : Q7.length = 8 := rfl
 have e3 : QI.length = 11 := rfl
 unfold Qv pwN
 repeat' split
 all_goals first | omega | (simp only [List.length_append, List.length_cons, List.length_nil, Qb]; omega)
def Qkp (f : Nat -> Nat -> Bs × Nat) : Nat -> List ST -> Prop
 | _, [] => True
 | k, t :: ks => (∀ n, (f k n).1.length + 100 <= pwL t.flat /\ n <= (f k n).2 /\ (f k n).2 + 100 <= n + pwL t.flat) /\ Qkp f (k + t.flat.length) ks
theorem Qik (y : Bs) {f : Nat -> Nat -> Bs × Nat} : ∀ (ks : List ST) (k : Nat) (b : Bool) (o : Bs) (n : Nat), Qkp f k ks ->
 ((QH k ks).foldl (Y0 y f) (b, o, n)).2.1.length <= o.length + pwL (ST.flats ks) /\ n <= ((QH k ks).foldl (Y0 y f) (b, o, n)).2.2 /\ ((QH k ks).foldl (Y0 y f) (b, o, n)).2.2 <= n + pwL (ST.flats ks)
 | [], k, b, o, n, _ => by simp [QH, ST.flats, pwL]
 | t :: ks, k, b, o, n, ⟨h1, h2⟩ => by
  rw [QH, List.foldl_cons, ST.flats, Ua]
  cases b
  have e : Y0 y f (false, o, n) k = (true, o ++ (f k n).1, (f k n).2) := rfl
  rw [e]
  have q := Qik y ks (k + t.flat.length) true (o ++ (f k n).1) (f k n).2 h2
  have := h1 n
  rw [List.length_append] at q
  omega
  have e : Y0 y f (true, o, n) k = (true, (o ++ (((Qh y n).1 ++ [44]) ++ (Qh y (Qh y n).2).1)) ++ (f k (Qh y (Qh y n).2).2).1, (f k (Qh y (Qh y n).2).2).2) := rfl
  rw [e]
  have q := Qik y ks (k + t.flat.length) true ((o ++ (((Qh y n).1 ++ [44]) ++ (Qh y (Qh y n).2).1)) ++ (f k (Qh y (Qh y n).2).2).1) (f k (Qh y (Qh y n).2).2).2 h2
  have := h1 (Qh y (Qh y n).2).2
  have a1 := VG y n
  have a2 := Vx y n
  have a3 := VG y (Qh y n).2
  have a4 := Vx y (Qh y n).2
  simp only [List.length_append, List.length_cons, List.length_nil] at q
  omega
theorem QmB {l : List SelD} {f : Nat -> Nat -> Bs × Nat} {a b : Bs} {n k w : Nat} (hw : 200 <= w) (h : (f k n).1.length + 100 <= w /\ n <= (f k n).2 /\ (f k n).2 + 100 <= n + w) :
 (Vu l f ((a, b), n) k).1.1.length + (Vu l f ((a, b), n) k).1.2.length <= a.length + b.length + w /\ n <= (Vu l f ((a, b), n) k).2 /\ (Vu l f ((a, b), n) k).2 <= n + w := by
 unfold Vu
 by_cases h1 : knd l k = 2
 simp only [h1, if_true]; omega
 by_cases h2 : knd l k = 1
 simp only [h2]
 rw [if_neg (by decide), if_pos trivial]
 by_cases h3 : a = []
 subst h3; simp; omega
 simp [h3]
 simp only [h1, h2, if_false, List.length_append]; omega
theorem Qoz (T : ST) : 2000 <= pwL T.flat := by
 obtain ⟨x, ks⟩ := T
 rw [QcY]; unfold pwN; omega
theorem QmA {l : List SelD} {f : Nat -> Nat -> Bs × Nat} : ∀ (ks : List ST) (k : Nat) (a b : Bs) (n : Nat), Qkp f k ks ->
 ((QH k ks).foldl (Vu l f) ((a, b), n)).1.1.length + ((QH k ks).foldl (Vu l f) ((a, b), n)).1.2.length <= a.length + b.length + pwL (ST.flats ks) /\ n <= ((QH k ks).foldl (Vu l f) ((a, b), n)).2 /\ ((QH k ks).foldl (Vu l f) ((a, b), n)).2 <= n + pwL (ST.flats ks)
 | [], k, a, b, n, _ => by simp [QH, ST.flats, pwL]
 | t :: ks, k, a, b, n, ⟨h1, h2⟩ => by
  rw [QH, List.foldl_cons, ST.flats, Ua]
  have q := QmB (l := l) (a := a) (b := b) (by have := Qoz t; omega) (h1 n)
  generalize Vu l f ((a, b), n) k = st at q ⊢
  obtain ⟨⟨a', b'⟩, n'⟩ := st
  have := QmA (l := l) ks (k + t.flat.length) a' b' n' h2
  simp only at q
  omega
theorem Qmz (y val : Bs) (st : (Bs × Bs) × Nat) : (Y1 y val st).1.length <= st.1.1.length + st.1.2.length + val.length + 3 /\ st.2 <= (Y1 y val st).2 /\ (Y1 y val st).2 <= st.2 + 1 := by
 have s : ∀ t : Bs, (Qaw t).length <= t.length + 1 := fun t => by
  unfold Qaw
  split <;> simp
 have c := VS y val st.2
 unfold Y1
 by_cases h : val = []
 rw [if_pos h]
 have := s (st.1.1 ++ st.1.2)
 simp only [List.length_append] at this ⊢
 omega
 rw [if_neg h]
 have := s (st.1.1 ++ (st.1.2 ++ ([58, 58] ++ (Ql y val st.2).1)))
 simp only [List.length_append, List.length_cons, List.length_nil, Qb] at this ⊢
 omega
theorem QgS {x : SelD} (h : Z7 x = true) : QG x.val 0 = true := by
 unfold Z7 at h
 simp only [Bool.and_eq_true] at h
 exact h.1.1.1.1.1.1.1.1.1.1.2
theorem Qnw {x : SelD} (F : Way.Fld x) (n : Int) : Way.Fld { x with size := n } :=
 { kz := F.kz, vz := F.vz, low := F.low, key := F.key, nokey := F.nokey, name := F.name, val := F.val, num := F.num, rng := F.rng, attr := F.attr, comb := F.comb, nth := F.nth, only := F.only, other := F.other }
theorem Qjv (y : Bs) {l : List SelD} : ∀ (m i n : Nat) (T : ST) (rest : List SelD), l.drop i = T.flat ++ rest -> T.ht <= m -> Yl T ->
 (Qg y m l i n).1.length + 100 <= pwL T.flat /\ n <= (Qg y m l i n).2 /\ (Qg y m l i n).2 + 100 <= n + pwL T.flat
 | 0, i, n, T, rest, h, hn, _ => by obtain ⟨x, ks⟩ := T; simp [ST.ht] at hn
 | m + 1, i, n, .mk x ks, rest, h, hn, hr => by
  obtain ⟨k1, k2, k3, k4, k5⟩ := Vd h
  obtain ⟨hf, hz, hs, hk⟩ := hr
  rw [ST.ht] at hn
  have hKs : ∀ (us : List ST) (k : Nat) (r : List SelD), l.drop k = ST.flats us ++ r -> ST.hts us <= m -> ZI us -> Qkp (Qg y m l) k us := by
   intro us
   induction us with
   | nil => intros; trivial
   | cons t us ih =>
    intro k r hd hh hr1
    rw [ST.flats, List.append_assoc] at hd
    rw [ST.hts] at hh
    exact ⟨fun n => Qjv y m k n t _ hd (by omega) hr1.1, ih _ r (YE hd) (by omega) hr1.2⟩
  have hK := hKs ks (i + 1) rest k2 (by omega) hk
  have F := Way.fld hf
  have hS := QlO y (Qnw F ((ST.flats ks).length + 1)) (QgS hf) n
  rw [QcY]
  rw [Qg]
  simp only [k4, k1]
  have hw : pwN { x with size := ((ST.flats ks).length : Nat) + 1 } = pwN x := rfl
  rw [hw] at hS
  have hw2 : pwN x = 2000 + 20 * (x.key.length + x.val.length) := rfl
  unfold UB at hs
  by_cases e1 : x.kind = 23
  rw [if_pos e1]
  have := Qik y ks (i + 1) false [] n hK
  simp only [List.length_nil] at this
  omega
  rw [if_neg e1]
  rw [if_neg e1] at hs
  by_cases e2 : x.kind = 18 \/ x.kind = 19 \/ x.kind = 20
  rw [if_pos e2] at hs
  obtain ⟨⟨g, rfl, _⟩, _⟩ := hs
  rw [if_neg (by omega), if_neg (by omega), if_pos e2]
  have a1 := VS y (Vc.getD (x.kind - 18).toNat []) n
  have s2 := QY (l := Vc) (n := 8) (by decide) (x.kind - 18).toNat
  generalize hc : Ql y (Vc.getD (x.kind - 18).toNat []) n = c at *
  have hcl : c.1.length <= 8 := by rw [<- hc, Qb]; exact s2
  have a3 := VG y c.2
  have a4 := Vx y c.2
  have a5 := hK.1 (Qh y c.2).2
  have e : (QH (i + 1) [g]).getD 0 0 = i + 1 := rfl
  rw [e]
  generalize hr' : Qg y m l (i + 1) (Qh y c.2).2 = r at *
  have a6 := VG y r.2
  have a7 := Vx y r.2
  have e3 : pwL (ST.flats [g]) = pwL g.flat := by rw [ST.flats, ST.flats, List.append_nil]
  rw [e3]
  simp only [List.length_append, List.length_cons, List.length_nil]
  omega
  rw [if_neg e2] at hs
  by_cases e3 : x.kind = 21
  rw [if_neg (by omega), if_pos e3]
  have := QmA (l := l) ks (i + 1) [] [] n hK
  have q := Qmz y x.val ((QH (i + 1) ks).foldl (Vu l (Qg y m l)) (([], []), n))
  simp only [List.length_nil] at this
  omega
  rw [if_neg e3] at hs
  by_cases e4 : x.kind = 22
  rw [if_pos e4] at hs
  obtain ⟨a, b, rfl, _⟩ := hs
  rw [if_pos e4]
  have u0 : (QH (i + 1) [a, b]).getD 0 0 = i + 1 := rfl
  have u1 : (QH (i + 1) [a, b]).getD 1 0 = i + 1 + a.flat.length := rfl
  rw [u0, u1]
  have a1 := hK.1 n
  generalize hA : Qg y m l (i + 1) n = A at *
  have a2 := VG y A.2
  have a3 := Vx y A.2
  have a4 := hK.2.1 (Qh y A.2).2
  have a5 := VG y (Qh y A.2).2
  have a6 := Vx y (Qh y A.2).2
  have a7 := hK.2.1 (Qh y (Qh y A.2).2).2
  have s2 := QY (l := QhD) (n := 1) (by decide) (x.op - 2).toNat
  have e3 : pwL (ST.flats [a, b]) = pwL a.flat + pwL b.flat := by rw [ST.flats, ST.flats, ST.flats, List.append_nil, Ua]
  rw [e3]
  by_cases e5 : x.op = 1
  rw [if_pos e5]
  simp only [List.length_append, List.length_cons, List.length_nil]
  omega
  rw [if_neg e5]
  simp only [List.length_append, List.length_cons, List.length_nil]
  omega
  rw [if_neg e4, if_neg e3, if_neg e2]
  omega
theorem WAt.pen {l : List SelD} {m i : Nat} (h : WAt l m i) (y : Bs) (n : Nat) : (Qg y m l i n).1.length + 100 <= pwL l /\ n <= (Qg y m l i n).2 /\ (Qg y m l i n).2 + 100 <= n + pwL l := by
 obtain ⟨T, rest, h1, h2, h3⟩ := h
 have q := Qjv y m i n T rest h1 h2 h3
 have q2 := QgV l i
 rw [h1, Ua] at q2
 omega
theorem WAt.read {l : List SelD} {m i : Nat} (h : WAt l m i) : QG (l.getD i default).val 0 = true /\ 20 * ((l.getD i default).key.length + (l.getD i default).val.length) <= pwL l := by
 obtain ⟨⟨x, ks⟩, rest, h1, h2, h3⟩ := h
 obtain ⟨k1, k2, k3, k4, k5⟩ := Vd h1
 have q2 := QgV l i
 rw [h1, Ua, QcY] at q2
 rw [k4]
 unfold pwN at q2
 exact ⟨QgS h3.1, by simp only; omega⟩
def pcJ (y : Bs) (m : Nat) (l : List SelD) (i n j : Nat) : (Bs × Bs) × Nat := ((Qc l i).take j).foldl (Vu l (Qg y m l)) (([], []), n)
theorem Qjw {y : Bs} {m : Nat} {l : List SelD} {i n j : Nat} (h : j < (Qc l i).length) : pcJ y m l i n (j + 1) = Vu l (Qg y m l) (pcJ y m l i n j) ((Qc l i).getD j 0) := by
 unfold pcJ
 rw [List.take_add_one, List.getElem?_eq_getElem h, Option.toList_some, List.foldl_append, List.getD_eq_getElem?_getD, List.getElem?_eq_getElem h]
 rfl
theorem Qfv {y : Bs} {m : Nat} {l : List SelD} {i n j : Nat} (h : j = (Qc l i).length) : pcJ y m l i n j = (Qc l i).foldl (Vu l (Qg y m l)) (([], []), n) := by
 unfold pcJ
 rw [List.take_of_length_le (by omega)]
def pgJ (y : Bs) (m : Nat) (l : List SelD) (i n j : Nat) : Bool × Bs × Nat := ((Qc l i).take j).foldl (Y0 y (Qg y m l)) (false, [], n)
theorem Qp4 {y : Bs} {m : Nat} {l : List SelD} {i n j : Nat} (h : j < (Qc l i).length) : pgJ y m l i n (j + 1) = Y0 y (Qg y m l) (pgJ y m l i n j) ((Qc l i).getD j 0) := by
 unfold pgJ
 rw [List.take_add_one, List.getElem?_eq_getElem h, Option.toList_some, List.foldl_append, List.getD_eq_getElem?_getD, List.getElem?_eq_getElem h]
 rfl
theorem QoE {y : Bs} {m : Nat} {l : List SelD} {i n j : Nat} (h : j = (Qc l i).length) : pgJ y m l i n j = (Qc l i).foldl (Y0 y (Qg y m l)) (false, [], n) := by
 unfold pgJ
 rw [List.take_of_length_le (by omega)]
def Qc6 (y : Bs) (m : Nat) (l : List SelD) (i n : Nat) : Bs × Nat := Y1 y (l.getD i default).val ((Qc l i).foldl (Vu l (Qg y m l)) (([], []), n))
theorem QmC {l : List SelD} {g : Nat -> Nat -> Bs × Nat} {f r : Bs} {q k : Nat} (h : knd l k = 2) : Vu l g ((f, r), q) k = (((g k q).1, r), (g k q).2) := by unfold Vu; rw [if_pos h]
theorem QkY {l : List SelD} {g : Nat -> Nat -> Bs × Nat} {f r : Bs} {q k : Nat} (h2 : ¬ knd l k = 2) (h : knd l k = 1) (e : f = []) : Vu l g ((f, r), q) k = (([42], r), q) := by unfold Vu; simp only; rw [if_neg h2, if_pos h, if_pos e]
theorem QmD {l : List SelD} {g : Nat -> Nat -> Bs × Nat} {f r : Bs} {q k : Nat} (h2 : ¬ knd l k = 2) (h : knd l k = 1) (e : ¬ f = []) : Vu l g ((f, r), q) k = ((f, r), q) := by unfold Vu; simp only; rw [if_neg h2, if_pos h, if_neg e]
theorem QmE {l : List SelD} {g : Nat -> Nat -> Bs × Nat} {f r : Bs} {q k : Nat} (h2 : ¬ knd l k = 2) (h : ¬ knd l k = 1) : Vu l g ((f, r), q) k = ((f, r ++ (g k q).1), (g k q).2) := by unfold Vu; simp only; rw [if_neg h2, if_neg h]
theorem Qmx {y : Bs} {g : Nat -> Nat -> Bs × Nat} {o : Bs} {q k j : Nat} (h : 0 < j) : Y0 y g (decide (0 < j), o, q) k = (decide (0 < j + 1), (o ++ (((Qh y q).1 ++ [44]) ++ (Qh y (Qh y q).2).1)) ++ (g k (Qh y (Qh y q).2).2).1, (g k (Qh y (Qh y q).2).2).2) := by
 rw [decide_eq_true h, decide_eq_true (Nat.succ_pos j)]; rfl
theorem Qmy {y : Bs} {g : Nat -> Nat -> Bs × Nat} {o : Bs} {q k j : Nat} (h : ¬ 0 < j) : Y0 y g (decide (0 < j), o, q) k = (decide (0 < j + 1), o ++ (g k q).1, (g k q).2) := by
 rw [decide_eq_false h, decide_eq_true (Nat.succ_pos j)]; rfl
theorem QoH {y : Bs} {m : Nat} {l : List SelD} {i n : Nat} (h : knd l i = 23) : Qg y (m + 1) l i n = ((Qc l i).foldl (Y0 y (Qg y m l)) (false, [], n)).2 := by rw [Qg]; exact if_pos h
theorem QrM {y : Bs} {m : Nat} {l : List SelD} {i n : Nat} (h : knd l i = 22) (ho : (l.getD i default).op = 1) : Qg y (m + 1) l i n =
 (((((Qg y m l ((Qc l i).getD 0 0) n).1 ++ [32]) ++ (Qh y (Qg y m l ((Qc l i).getD 0 0) n).2).1) ++ (Qg y m l ((Qc l i).getD 1 0) (Qh y (Qg y m l ((Qc l i).getD 0 0) n).2).2).1), (Qg y m l ((Qc l i).getD 1 0) (Qh y (Qg y m l ((Qc l i).getD 0 0) n).2).2).2) := by
 have h' : (l.getD i default).kind = 22 := h
 rw [Qg]; simp only; rw [if_neg (by omega), if_pos h', if_pos ho]
def Qqw (y : Bs) (m : Nat) (l : List SelD) (i : Nat) (op : Int) (u : Bs) (q : Nat) : Bs × Nat :=
 let h := Qh y (Qh y q).2; let b := Qg y m l ((Qc l i).getD 1 0) h.2
 ((u ++ (((Qh y q).1 ++ QhD.getD (op - 2).toNat []) ++ h.1)) ++ b.1, b.2)
theorem QrL {y : Bs} {m : Nat} {l : List SelD} {i n : Nat} (h : knd l i = 22) (ho : ¬ (l.getD i default).op = 1) : Qg y (m + 1) l i n =
 Qqw y m l i (l.getD i default).op (Qg y m l ((Qc l i).getD 0 0) n).1 (Qg y m l ((Qc l i).getD 0 0) n).2 := by
 have h' : (l.getD i default).kind = 22 := h
 rw [Qg]; simp only; rw [if_neg (by omega), if_pos h', if_neg ho]; rfl
theorem QoI {y : Bs} {m : Nat} {l : List SelD} {i n : Nat} (h : knd l i = 21) : Qg y (m + 1) l i n = Qc6 y m l i n := by
 have h' : (l.getD i default).kind = 21 := h
 rw [Qg]; simp only; rw [if_neg (by omega), if_neg (by omega), if_pos h']; rfl
theorem QoG {y : Bs} {m : Nat} {l : List SelD} {i n : Nat} (h : knd l i = 18 \/ knd l i = 19 \/ knd l i = 20) : Qg y (m + 1) l i n =
 (let c := Ql y (Vc.getD ((l.getD i default).kind - 18).toNat []) n; let g := Qh y c.2; let r := Qg y m l ((Qc l i).getD 0 0) g.2
 ((((((([58] ++ c.1) ++ [40]) ++ g.1) ++ r.1) ++ (Qh y r.2).1) ++ [41]), (Qh y r.2).2)) := by
 have h' : (l.getD i default).kind = 18 \/ (l.getD i default).kind = 19 \/ (l.getD i default).kind = 20 := h
 rw [Qg]; simp only; rw [if_neg (by omega), if_neg (by omega), if_neg (by omega), if_pos h']; simp
theorem QoF {y : Bs} {m : Nat} {l : List SelD} {i n : Nat} (h1 : ¬ knd l i = 23) (h2 : ¬ knd l i = 22) (h3 : ¬ knd l i = 21) (h4 : ¬ (knd l i = 18 \/ knd l i = 19 \/ knd l i = 20)) : Qg y (m + 1) l i n = Qv y (l.getD i default) n := by
 have h1' : ¬ (l.getD i default).kind = 23 := h1
 have h2' : ¬ (l.getD i default).kind = 22 := h2
 have h3' : ¬ (l.getD i default).kind = 21 := h3
 have h4' : ¬ ((l.getD i default).kind = 18 \/ (l.getD i default).kind = 19 \/ (l.getD i default).kind = 20) := h4
 rw [Qg]; simp only; rw [if_neg h1', if_neg h2', if_neg h3', if_neg h4']
end
end Go.Proofs.YtengepcafdnalaaGreatDoor
