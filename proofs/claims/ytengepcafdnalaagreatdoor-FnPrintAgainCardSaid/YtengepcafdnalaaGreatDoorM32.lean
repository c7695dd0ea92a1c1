/-
  Parts of the proof that the law FnPrintAgain holds for every input (texts Xg, Od). Conditions: none.
-/
import Derived.Test.YtengepcafdnalaaGreatDoorM31
namespace Go.Proofs.YtengepcafdnalaaGreatDoor
open _root_.Bool renaming and_eq_true → zh
open _root_.List renaming length_append → zd, length_cons → ze, length_nil → zf, length_take → zk, length_drop → zj, foldl_cons → zR, append_assoc → zo, append_nil → zC, take_add_one → zL, getElem?_eq_getElem → zi, getD_eq_getElem?_getD → za, take_of_length_le → zN
open _root_.Nat renaming strongRecOn → zl
open _root_.Option renaming toList_some → z7
open _root_.UInt8 renaming toNat_or → zb
section
open Go Go.RowKit
set_option maxRecDepth 20000
theorem QtV {a b : Int} (ha : -9999 <= a /\ a <= 9999) (hb : -9999 <= b /\ b <= 9999) (y : Bs) (w n : Nat) : (Y3 y a b w n).1.length <= 150 /\ n <= (Y3 y a b w n).2 /\ (Y3 y a b w n).2 <= n + 3 := by
 have d1 := YA (n := b.toNat) (by omega)
 have d2 := YA (n := (0 - b).toNat) (by omega)
 have d3 := ZH (n := b) (by omega)
 have d4 := Yy (a := a) (b := b) (by omega) (by omega)
 have d5 := Yy (a := a) (b := 0) (by omega) (by omega)
 have e1 := VS y [111, 100, 100] n
 have e2 := VS y [101, 118, 101, 110] n
 have c2 := YH y n 2
 have g1 := Vs y n
 have g2 := VF y n
 have g3 := Vs y (Qh y n).2
 have g4 := VF y (Qh y n).2
 have g5 := Vs y (chc y n 2).2
 have g6 := VF y (chc y n 2).2
 have g7 := Vs y (Qh y (chc y n 2).2).2
 have g8 := VF y (Qh y (chc y n 2).2).2
 have s1 := QL (l := [[], [43]]) (n := 1) (by decide) (chc y n 2).1
 have s2 := QL (l := [[45], [], []]) (n := 1) (by decide) (a + 1).toNat
 have s3 := QL (l := [[110], [78]]) (n := 1) (by decide) (chc y n 2).1
 unfold Y3
 repeat' split
 all_goals (simp only [zd, ze, zf, zk, zj, Qd]; omega)
theorem Qh6 (y : Bs) {x : SelD} (hr : -9999 <= x.a /\ x.a <= 9999 /\ -9999 <= x.b /\ x.b <= 9999) (n : Nat) : (Jp y x n).1.length <= 250 /\ n <= (Jp y x n).2 /\ (Jp y x n).2 <= n + 8 := by
 have s1 := QL (l := Q7) (n := 12) (by decide) x.flag.toNat
 have e1 := VS y ([110, 116, 104, 45] ++ Q7.getD x.flag.toNat []) n
 have e2 := VF y (Qm y ([110, 116, 104, 45] ++ Q7.getD x.flag.toNat []) n).2
 have e3 := Vs y (Qm y ([110, 116, 104, 45] ++ Q7.getD x.flag.toNat []) n).2
 have e4 := YH y (Qh y (Qm y ([110, 116, 104, 45] ++ Q7.getD x.flag.toNat []) n).2).2 3
 have e5 := QtV (a := x.a) (b := x.b) (by omega) (by omega) y (chc y (Qh y (Qm y ([110, 116, 104, 45] ++ Q7.getD x.flag.toNat []) n).2).2 3).1 (chc y (Qh y (Qm y ([110, 116, 104, 45] ++ Q7.getD x.flag.toNat []) n).2).2 3).2
 unfold Jp
 simp only
 generalize hz : (chc y (Qh y (Qm y ([110, 116, 104, 45] ++ Q7.getD x.flag.toNat []) n).2).2 3) = z at e4 e5 ⊢
 have e6 := VF y (Y3 y x.a x.b z.1 z.2).2
 have e7 := Vs y (Y3 y x.a x.b z.1 z.2).2
 simp only [zd, ze, zf, Qd] at *
 omega
theorem Qqd (y : Bs) {x : SelD} (hr : -9999 <= x.a /\ x.a <= 9999 /\ -9999 <= x.b /\ x.b <= 9999) (n : Nat) : (Vr y x n).1.length <= 300 /\ n <= (Vr y x n).2 /\ (Vr y x n).2 <= n + 12 := by
 have c2 := YH y n 2
 by_cases h : x.a = 0 /\ x.b = 1
 by_cases h1 : (chc y n 2).1 = 1
 rw [Qe8 h h1]
 have s0 := QL (l := ZI) (n := 13) (by decide) x.flag.toNat
 have s1 := VS y (ZI.getD x.flag.toNat []) (chc y n 2).2
 simp only [ze, Qd]
 omega
 rw [Qe9 h h1]
 have := Qh6 y hr (chc y n 2).2
 omega
 rw [Qh5 h]
 have := Qh6 y hr n
 omega
def pwN (x : SelD) : Nat := 2000 + 20 * (x.key.length + x.val.length)
def pwL : List SelD -> Nat
 | [] => 0
 | x :: l => pwN x + pwL l
theorem Uh : ∀ (a b : List SelD), pwL (a ++ b) = pwL a + pwL b
 | [], b => by simp [pwL]
 | x :: a, b => by simp only [List.cons_append, pwL, Uh a b]; omega
theorem Qg4 (l : List SelD) (i : Nat) : pwL (l.drop i) <= pwL l := by
 have := Uh (l.take i) (l.drop i)
 rw [List.take_append_drop] at this
 omega
theorem Qc9 (x : SelD) (ks : List ST) : pwL (ST.mk x ks).flat = pwN x + pwL (ST.flats ks) := by
 rw [ST.flat, QT, pwL]; rfl
theorem Qou (y nm t : Bs) (n : Nat) : (Yt y nm t n).1.length <= nm.length + t.length + 10 /\ n <= (Yt y nm t n).2 /\ (Yt y nm t n).2 <= n + 3 := by
 have b2 := VS y nm n
 have b3 := VF y (Qm y nm n).2
 have b4 := Vs y (Qm y nm n).2
 have b5 := VF y (Qh y (Qm y nm n).2).2
 have b6 := Vs y (Qh y (Qm y nm n).2).2
 unfold Yt
 simp only [zd, ze, zf, Qd]
 omega
theorem Qux (y : Bs) {x : SelD} (hr : QE x.val 0 = true) (n : Nat) : (ZA y x n).1.length <= 100 + 8 * (x.key.length + x.val.length) /\ n <= (ZA y x n).2 /\ (ZA y x n).2 <= n + 10 + x.val.length := by
 have l1 := Vk x.key
 have a1 := VF y n
 have a2 := Vs y n
 have a3 := VS y (Qr x.key) (Qh y n).2
 have a4 := VF y (Qm y (Qr x.key) (Qh y n).2).2
 have a5 := Vs y (Qm y (Qr x.key) (Qh y n).2).2
 generalize hg : Qh y (Qm y (Qr x.key) (Qh y n).2).2 = g at *
 have b1 := VF y g.2
 have b2 := Vs y g.2
 have b3 := Ql6 y (Qh y g.2).2 hr
 generalize ht : VJ y x.val (Qh y g.2).2 = t at *
 have c1 := YH y t.2 2
 have c2 := VF y (chc y t.2 2).2
 have c3 := Vs y (chc y t.2 2).2
 have c4 := VF y t.2
 have c5 := Vs y t.2
 have s1 := QL (l := Vj) (n := 2) (by decide) x.op.toNat
 have s2 := QL (l := ([[105], [73]] : List Bs)) (n := 1) (by decide) (chc y t.2 2).1
 unfold ZA
 simp only [hg, ht]
 repeat' split
 all_goals (simp only [zd, ze, zf, Qd]; omega)
theorem Qmg (y : Bs) {x : SelD} (hf : Way.Fld x) (hr : QE x.val 0 = true) (n : Nat) : (Qu y x n).1.length + 100 <= pwN x /\ n <= (Qu y x n).2 /\ (Qu y x n).2 + 100 <= n + pwN x := by
 have r := hf.rng
 have l1 := Vk x.key
 have l2 := Vk x.val
 have l3 := Jz x.val
 have l4 := J8 (x := x) (by omega) (by omega)
 have a1 := VS y (Qr x.key) n
 have a2 := QiU y n hr
 have a3 := Qux y hr n
 have a4 := Qqd y hf.rng n
 have a5 := Qou y YF (Qr x.val) n
 have a6 := Qou y Q9 (QQ x.val) n
 have a7 := Qou y QH (QQ x.val) n
 have a8 := VS y (Qs x) n
 have e1 : YF.length = 4 := rfl
 have e2 : Q9.length = 8 := rfl
 have e3 : QH.length = 11 := rfl
 unfold Qu pwN
 repeat' split
 all_goals first | omega | (simp only [zd, ze, zf, Qd]; omega)
def QkL (f : Nat -> Nat -> Bs × Nat) : Nat -> List ST -> Prop
 | _, [] => True
 | k, t :: ks => (∀ n, (f k n).1.length + 100 <= pwL t.flat /\ n <= (f k n).2 /\ (f k n).2 + 100 <= n + pwL t.flat) /\ QkL f (k + t.flat.length) ks
theorem QiM (y : Bs) {f : Nat -> Nat -> Bs × Nat} : ∀ (ks : List ST) (k : Nat) (b : Bool) (o : Bs) (n : Nat), QkL f k ks ->
 ((QF k ks).foldl (YW y f) (b, o, n)).2.1.length <= o.length + pwL (ST.flats ks) /\ n <= ((QF k ks).foldl (YW y f) (b, o, n)).2.2 /\ ((QF k ks).foldl (YW y f) (b, o, n)).2.2 <= n + pwL (ST.flats ks)
 | [], k, b, o, n, _ => by simp [QF, ST.flats, pwL]
 | t :: ks, k, b, o, n, ⟨h1, h2⟩ => by
  rw [QF, zR, ST.flats, Uh]
  cases b
  have e : YW y f (false, o, n) k = (true, o ++ (f k n).1, (f k n).2) := rfl
  rw [e]
  have q := QiM y ks (k + t.flat.length) true (o ++ (f k n).1) (f k n).2 h2
  have := h1 n
  rw [zd] at q
  omega
  have e : YW y f (true, o, n) k = (true, (o ++ (((Qh y n).1 ++ [44]) ++ (Qh y (Qh y n).2).1)) ++ (f k (Qh y (Qh y n).2).2).1, (f k (Qh y (Qh y n).2).2).2) := rfl
  rw [e]
  have q := QiM y ks (k + t.flat.length) true ((o ++ (((Qh y n).1 ++ [44]) ++ (Qh y (Qh y n).2).1)) ++ (f k (Qh y (Qh y n).2).2).1) (f k (Qh y (Qh y n).2).2).2 h2
  have := h1 (Qh y (Qh y n).2).2
  have a1 := VF y n
  have a2 := Vs y n
  have a3 := VF y (Qh y n).2
  have a4 := Vs y (Qh y n).2
  simp only [zd, ze, zf] at q
  omega
theorem Qm0 {l : List SelD} {f : Nat -> Nat -> Bs × Nat} {a b : Bs} {n k w : Nat} (hw : 200 <= w) (h : (f k n).1.length + 100 <= w /\ n <= (f k n).2 /\ (f k n).2 + 100 <= n + w) :
 (Vv l f ((a, b), n) k).1.1.length + (Vv l f ((a, b), n) k).1.2.length <= a.length + b.length + w /\ n <= (Vv l f ((a, b), n) k).2 /\ (Vv l f ((a, b), n) k).2 <= n + w := by
 unfold Vv
 by_cases h1 : knd l k = 2
 simp only [h1, if_true]; omega
 by_cases h2 : knd l k = 1
 simp only [h2]
 rw [if_neg (by decide), if_pos trivial]
 by_cases h3 : a = []
 subst h3; simp; omega
 simp [h3]
 simp only [h1, h2, if_false, zd]; omega
theorem Qo8 (T : ST) : 2000 <= pwL T.flat := by
 obtain ⟨x, ks⟩ := T
 rw [Qc9]; unfold pwN; omega
theorem QmZ {l : List SelD} {f : Nat -> Nat -> Bs × Nat} : ∀ (ks : List ST) (k : Nat) (a b : Bs) (n : Nat), QkL f k ks ->
 ((QF k ks).foldl (Vv l f) ((a, b), n)).1.1.length + ((QF k ks).foldl (Vv l f) ((a, b), n)).1.2.length <= a.length + b.length + pwL (ST.flats ks) /\ n <= ((QF k ks).foldl (Vv l f) ((a, b), n)).2 /\ ((QF k ks).foldl (Vv l f) ((a, b), n)).2 <= n + pwL (ST.flats ks)
 | [], k, a, b, n, _ => by simp [QF, ST.flats, pwL]
 | t :: ks, k, a, b, n, ⟨h1, h2⟩ => by
  rw [QF, zR, ST.flats, Uh]
  have q := Qm0 (l := l) (a := a) (b := b) (by have := Qo8 t; omega) (h1 n)
  generalize Vv l f ((a, b), n) k = st at q ⊢
  obtain ⟨⟨a', b'⟩, n'⟩ := st
  have := QmZ (l := l) ks (k + t.flat.length) a' b' n' h2
  simp only at q
  omega
theorem QmY (y val : Bs) (st : (Bs × Bs) × Nat) : (YX y val st).1.length <= st.1.1.length + st.1.2.length + val.length + 3 /\ st.2 <= (YX y val st).2 /\ (YX y val st).2 <= st.2 + 1 := by
 have s : ∀ t : Bs, (QaA t).length <= t.length + 1 := fun t => by
  unfold QaA
  split <;> simp
 have c := VS y val st.2
 unfold YX
 by_cases h : val = []
 rw [if_pos h]
 have := s (st.1.1 ++ st.1.2)
 simp only [zd] at this ⊢
 omega
 rw [if_neg h]
 have := s (st.1.1 ++ (st.1.2 ++ ([58, 58] ++ (Qm y val st.2).1)))
 simp only [zd, ze, zf, Qd] at this ⊢
 omega
theorem Qg1 {x : SelD} (h : Z4 x = true) : QE x.val 0 = true := by
 unfold Z4 at h
 simp only [zh] at h
 exact h.1.1.1.1.1.1.1.1.1.1.2
theorem Qn2 {x : SelD} (F : Way.Fld x) (n : Int) : Way.Fld { x with size := n } :=
 { kz := F.kz, vz := F.vz, low := F.low, key := F.key, nokey := F.nokey, name := F.name, val := F.val, num := F.num, rng := F.rng, attr := F.attr, comb := F.comb, nth := F.nth, only := F.only, other := F.other }
theorem QjU (y : Bs) {l : List SelD} : ∀ (m i n : Nat) (T : ST) (rest : List SelD), l.drop i = T.flat ++ rest -> T.ht <= m -> VX T ->
 (Qg y m l i n).1.length + 100 <= pwL T.flat /\ n <= (Qg y m l i n).2 /\ (Qg y m l i n).2 + 100 <= n + pwL T.flat
 | 0, i, n, T, rest, h, hn, _ => by obtain ⟨x, ks⟩ := T; simp [ST.ht] at hn
 | m + 1, i, n, .mk x ks, rest, h, hn, hr => by
  obtain ⟨k1, k2, k3, k4, k5⟩ := Vd h
  obtain ⟨hf, hz, hs, hk⟩ := hr
  rw [ST.ht] at hn
  have hKs : ∀ (us : List ST) (k : Nat) (r : List SelD), l.drop k = ST.flats us ++ r -> ST.hts us <= m -> Zj us -> QkL (Qg y m l) k us := by
   intro us
   induction us with
   | nil => intros; trivial
   | cons t us ih =>
    intro k r hd hh hr1
    rw [ST.flats, zo] at hd
    rw [ST.hts] at hh
    exact ⟨fun n => QjU y m k n t _ hd (by omega) hr1.1, ih _ r (YB hd) (by omega) hr1.2⟩
  have hK := hKs ks (i + 1) rest k2 (by omega) hk
  have F := Way.fld hf
  have hS := Qmg y (Qn2 F ((ST.flats ks).length + 1)) (Qg1 hf) n
  rw [Qc9]
  rw [Qg]
  simp only [k4, k1]
  have hw : pwN { x with size := ((ST.flats ks).length : Nat) + 1 } = pwN x := rfl
  rw [hw] at hS
  have hw2 : pwN x = 2000 + 20 * (x.key.length + x.val.length) := rfl
  unfold Je at hs
  by_cases e1 : x.kind = 23
  rw [if_pos e1]
  have := QiM y ks (i + 1) false [] n hK
  simp only [zf] at this
  omega
  rw [if_neg e1]
  rw [if_neg e1] at hs
  by_cases e2 : x.kind = 18 \/ x.kind = 19 \/ x.kind = 20
  rw [if_pos e2] at hs
  obtain ⟨⟨g, rfl, _⟩, _⟩ := hs
  rw [if_neg (by omega), if_neg (by omega), if_pos e2]
  have a1 := VS y (QU.getD (x.kind - 18).toNat []) n
  have s2 := QL (l := QU) (n := 8) (by decide) (x.kind - 18).toNat
  generalize hc : Qm y (QU.getD (x.kind - 18).toNat []) n = c at *
  have hcl : c.1.length <= 8 := by rw [<- hc, Qd]; exact s2
  have a3 := VF y c.2
  have a4 := Vs y c.2
  have a5 := hK.1 (Qh y c.2).2
  have e : (QF (i + 1) [g]).getD 0 0 = i + 1 := rfl
  rw [e]
  generalize hr' : Qg y m l (i + 1) (Qh y c.2).2 = r at *
  have a6 := VF y r.2
  have a7 := Vs y r.2
  have e3 : pwL (ST.flats [g]) = pwL g.flat := by rw [ST.flats, ST.flats, zC]
  rw [e3]
  simp only [zd, ze, zf]
  omega
  rw [if_neg e2] at hs
  by_cases e3 : x.kind = 21
  rw [if_neg (by omega), if_pos e3]
  have := QmZ (l := l) ks (i + 1) [] [] n hK
  have q := QmY y x.val ((QF (i + 1) ks).foldl (Vv l (Qg y m l)) (([], []), n))
  simp only [zf] at this
  omega
  rw [if_neg e3] at hs
  by_cases e4 : x.kind = 22
  rw [if_pos e4] at hs
  obtain ⟨a, b, rfl, _⟩ := hs
  rw [if_pos e4]
  have u0 : (QF (i + 1) [a, b]).getD 0 0 = i + 1 := rfl
  have u1 : (QF (i + 1) [a, b]).getD 1 0 = i + 1 + a.flat.length := rfl
  rw [u0, u1]
  have a1 := hK.1 n
  generalize hA : Qg y m l (i + 1) n = A at *
  have a2 := VF y A.2
  have a3 := Vs y A.2
  have a4 := hK.2.1 (Qh y A.2).2
  have a5 := VF y (Qh y A.2).2
  have a6 := Vs y (Qh y A.2).2
  have a7 := hK.2.1 (Qh y (Qh y A.2).2).2
  have s2 := QL (l := Qh3) (n := 1) (by decide) (x.op - 2).toNat
  have e3 : pwL (ST.flats [a, b]) = pwL a.flat + pwL b.flat := by rw [ST.flats, ST.flats, ST.flats, zC, Uh]
  rw [e3]
  by_cases e5 : x.op = 1
  rw [if_pos e5]
  simp only [zd, ze, zf]
  omega
  rw [if_neg e5]
  simp only [zd, ze, zf]
  omega
  rw [if_neg e4, if_neg e3, if_neg e2]
  omega
theorem WAt.pen {l : List SelD} {m i : Nat} (h : WAt l m i) (y : Bs) (n : Nat) : (Qg y m l i n).1.length + 100 <= pwL l /\ n <= (Qg y m l i n).2 /\ (Qg y m l i n).2 + 100 <= n + pwL l := by
 obtain ⟨T, rest, h1, h2, h3⟩ := h
 have q := QjU y m i n T rest h1 h2 h3
 have q2 := Qg4 l i
 rw [h1, Uh] at q2
 omega
theorem WAt.read {l : List SelD} {m i : Nat} (h : WAt l m i) : QE (l.getD i default).val 0 = true /\ 20 * ((l.getD i default).key.length + (l.getD i default).val.length) <= pwL l := by
 obtain ⟨⟨x, ks⟩, rest, h1, h2, h3⟩ := h
 obtain ⟨k1, k2, k3, k4, k5⟩ := Vd h1
 have q2 := Qg4 l i
 rw [h1, Uh, Qc9] at q2
 rw [k4]
 unfold pwN at q2
 exact ⟨Qg1 h3.1, by simp only; omega⟩
def pcJ (y : Bs) (m : Nat) (l : List SelD) (i n j : Nat) : (Bs × Bs) × Nat := ((Qa l i).take j).foldl (Vv l (Qg y m l)) (([], []), n)
theorem QjV {y : Bs} {m : Nat} {l : List SelD} {i n j : Nat} (h : j < (Qa l i).length) : pcJ y m l i n (j + 1) = Vv l (Qg y m l) (pcJ y m l i n j) ((Qa l i).getD j 0) := by
 unfold pcJ
 rw [zL, zi h, z7, List.foldl_append, za, zi h]
 rfl
theorem QfI {y : Bs} {m : Nat} {l : List SelD} {i n j : Nat} (h : j = (Qa l i).length) : pcJ y m l i n j = (Qa l i).foldl (Vv l (Qg y m l)) (([], []), n) := by
 unfold pcJ
 rw [zN (by omega)]
def pgJ (y : Bs) (m : Nat) (l : List SelD) (i n j : Nat) : Bool × Bs × Nat := ((Qa l i).take j).foldl (YW y (Qg y m l)) (false, [], n)
theorem QqS {y : Bs} {m : Nat} {l : List SelD} {i n j : Nat} (h : j < (Qa l i).length) : pgJ y m l i n (j + 1) = YW y (Qg y m l) (pgJ y m l i n j) ((Qa l i).getD j 0) := by
 unfold pgJ
 rw [zL, zi h, z7, List.foldl_append, za, zi h]
 rfl
theorem Qpf {y : Bs} {m : Nat} {l : List SelD} {i n j : Nat} (h : j = (Qa l i).length) : pgJ y m l i n j = (Qa l i).foldl (YW y (Qg y m l)) (false, [], n) := by
 unfold pgJ
 rw [zN (by omega)]
def Qdh (y : Bs) (m : Nat) (l : List SelD) (i n : Nat) : Bs × Nat := YX y (l.getD i default).val ((Qa l i).foldl (Vv l (Qg y m l)) (([], []), n))
theorem Qm1 {l : List SelD} {g : Nat -> Nat -> Bs × Nat} {f r : Bs} {q k : Nat} (h : knd l k = 2) : Vv l g ((f, r), q) k = (((g k q).1, r), (g k q).2) := by unfold Vv; rw [if_pos h]
theorem Qle {l : List SelD} {g : Nat -> Nat -> Bs × Nat} {f r : Bs} {q k : Nat} (h2 : ¬ knd l k = 2) (h : knd l k = 1) (e : f = []) : Vv l g ((f, r), q) k = (([42], r), q) := by unfold Vv; simp only; rw [if_neg h2, if_pos h, if_pos e]
theorem Qm2 {l : List SelD} {g : Nat -> Nat -> Bs × Nat} {f r : Bs} {q k : Nat} (h2 : ¬ knd l k = 2) (h : knd l k = 1) (e : ¬ f = []) : Vv l g ((f, r), q) k = ((f, r), q) := by unfold Vv; simp only; rw [if_neg h2, if_pos h, if_neg e]
theorem Qm3 {l : List SelD} {g : Nat -> Nat -> Bs × Nat} {f r : Bs} {q k : Nat} (h2 : ¬ knd l k = 2) (h : ¬ knd l k = 1) : Vv l g ((f, r), q) k = ((f, r ++ (g k q).1), (g k q).2) := by unfold Vv; simp only; rw [if_neg h2, if_neg h]
theorem QmW {y : Bs} {g : Nat -> Nat -> Bs × Nat} {o : Bs} {q k j : Nat} (h : 0 < j) : YW y g (decide (0 < j), o, q) k = (decide (0 < j + 1), (o ++ (((Qh y q).1 ++ [44]) ++ (Qh y (Qh y q).2).1)) ++ (g k (Qh y (Qh y q).2).2).1, (g k (Qh y (Qh y q).2).2).2) := by
 rw [decide_eq_true h, decide_eq_true (Nat.succ_pos j)]; rfl
theorem QmX {y : Bs} {g : Nat -> Nat -> Bs × Nat} {o : Bs} {q k j : Nat} (h : ¬ 0 < j) : YW y g (decide (0 < j), o, q) k = (decide (0 < j + 1), o ++ (g k q).1, (g k q).2) := by
 rw [decide_eq_false h, decide_eq_true (Nat.succ_pos j)]; rfl
theorem Qpi {y : Bs} {m : Nat} {l : List SelD} {i n : Nat} (h : knd l i = 23) : Qg y (m + 1) l i n = ((Qa l i).foldl (YW y (Qg y m l)) (false, [], n)).2 := by rw [Qg]; exact if_pos h
theorem QsL {y : Bs} {m : Nat} {l : List SelD} {i n : Nat} (h : knd l i = 22) (ho : (l.getD i default).op = 1) : Qg y (m + 1) l i n =
 (((((Qg y m l ((Qa l i).getD 0 0) n).1 ++ [32]) ++ (Qh y (Qg y m l ((Qa l i).getD 0 0) n).2).1) ++ (Qg y m l ((Qa l i).getD 1 0) (Qh y (Qg y m l ((Qa l i).getD 0 0) n).2).2).1), (Qg y m l ((Qa l i).getD 1 0) (Qh y (Qg y m l ((Qa l i).getD 0 0) n).2).2).2) := by
 have h' : (l.getD i default).kind = 22 := h
 rw [Qg]; simp only; rw [if_neg (by omega), if_pos h', if_pos ho]
def Qrh (y : Bs) (m : Nat) (l : List SelD) (i : Nat) (op : Int) (u : Bs) (q : Nat) : Bs × Nat :=
 let h := Qh y (Qh y q).2; let b := Qg y m l ((Qa l i).getD 1 0) h.2
 ((u ++ (((Qh y q).1 ++ Qh3.getD (op - 2).toNat []) ++ h.1)) ++ b.1, b.2)
theorem QsK {y : Bs} {m : Nat} {l : List SelD} {i n : Nat} (h : knd l i = 22) (ho : ¬ (l.getD i default).op = 1) : Qg y (m + 1) l i n =
 Qrh y m l i (l.getD i default).op (Qg y m l ((Qa l i).getD 0 0) n).1 (Qg y m l ((Qa l i).getD 0 0) n).2 := by
 have h' : (l.getD i default).kind = 22 := h
 rw [Qg]; simp only; rw [if_neg (by omega), if_pos h', if_neg ho]; rfl
theorem Qpj {y : Bs} {m : Nat} {l : List SelD} {i n : Nat} (h : knd l i = 21) : Qg y (m + 1) l i n = Qdh y m l i n := by
 have h' : (l.getD i default).kind = 21 := h
 rw [Qg]; simp only; rw [if_neg (by omega), if_neg (by omega), if_pos h']; rfl
theorem Qph {y : Bs} {m : Nat} {l : List SelD} {i n : Nat} (h : knd l i = 18 \/ knd l i = 19 \/ knd l i = 20) : Qg y (m + 1) l i n =
 (let c := Qm y (QU.getD ((l.getD i default).kind - 18).toNat []) n; let g := Qh y c.2; let r := Qg y m l ((Qa l i).getD 0 0) g.2
 ((((((([58] ++ c.1) ++ [40]) ++ g.1) ++ r.1) ++ (Qh y r.2).1) ++ [41]), (Qh y r.2).2)) := by
 have h' : (l.getD i default).kind = 18 \/ (l.getD i default).kind = 19 \/ (l.getD i default).kind = 20 := h
 rw [Qg]; simp only; rw [if_neg (by omega), if_neg (by omega), if_neg (by omega), if_pos h']; simp
theorem Qpg {y : Bs} {m : Nat} {l : List SelD} {i n : Nat} (h1 : ¬ knd l i = 23) (h2 : ¬ knd l i = 22) (h3 : ¬ knd l i = 21) (h4 : ¬ (knd l i = 18 \/ knd l i = 19 \/ knd l i = 20)) : Qg y (m + 1) l i n = Qu y (l.getD i default) n := by
 have h1' : ¬ (l.getD i default).kind = 23 := h1
 have h2' : ¬ (l.getD i default).kind = 22 := h2
 have h3' : ¬ (l.getD i default).kind = 21 := h3
 have h4' : ¬ ((l.getD i default).kind = 18 \/ (l.getD i default).kind = 19 \/ (l.getD i default).kind = 20) := h4
 rw [Qg]; simp only; rw [if_neg h1', if_neg h2', if_neg h3', if_neg h4']
end
section
open Go Go.RowKit
set_option maxRecDepth 20000
def Qfd (y : Bs) (x : SelD) (u : Bs) (m : Nat) : Bs × Nat :=
 if x.op = 1 then ((u ++ (Qh y m).1) ++ [93], (Qh y m).2)
 else
  let t := VJ y x.val (Qh y m).2; let w := (u ++ (Vj.getD x.op.toNat [] ++ (Qh y m).1)) ++ t.1
  if x.flag = 1 then
   let i := chc y t.2 2; let e := Qh y i.2
   (((w ++ ([32] ++ ([[105], [73]] : List Bs).getD i.1 [])) ++ e.1) ++ [93], e.2)
  else ((w ++ (Qh y t.2).1) ++ [93], (Qh y t.2).2)
theorem Qor (y : Bs) (x : SelD) (n : Nat) : ZA y x n = Qfd y x (((([91] : Bs) ++ (Qh y n).1) ++ (Qm y (Qr x.key) (Qh y n).2).1) ++ (Qh y (Qm y (Qr x.key) (Qh y n).2).2).1) (Qh y (Qm y (Qr x.key) (Qh y n).2).2).2 := by
 unfold ZA Qfd
 by_cases h1 : x.op = 1
 simp [h1]
 by_cases h2 : x.flag = 1 <;> simp [h1, h2]
theorem QgO {y : Bs} {x : SelD} {n : Nat} (h : x.kind = 5) : Qu y x n = ZA y x n := by
 unfold Qu
 rw [if_neg (by omega), if_neg (by omega), if_neg (by omega), if_neg (by omega), if_pos h]
def c61i (svs : List SV) (b : Option SB) : FR := match svs, b with
 | [.ptr 0 0, .agg [.int .i64 k, .int .i64 o, .str ke, .str va, .int .i64 a, .int .i64 bb, .int .i64 fl, .int .i64 sz]], some (.blk 62 [.sl (.sels l), .sl (.bytes y), .nat n]) => some ([Way.Fld (SelD.mk k o ke va a bb fl sz), Qo (SelD.mk k o ke va a bb fl sz).kind = true /\ ¬ ((SelD.mk k o ke va a bb fl sz).kind = 18 \/ (SelD.mk k o ke va a bb fl sz).kind = 19 \/ (SelD.mk k o ke va a bb fl sz).kind = 20), (SelD.mk k o ke va a bb fl sz).key.length + (SelD.mk k o ke va a bb fl sz).val.length <= 20000, QE (SelD.mk k o ke va a bb fl sz).val 0 = true, n <= 600000000000], .val (.str (Qu y (SelD.mk k o ke va a bb fl sz) n).1), some (.blk 62 [.sl (.sels l), .sl (.bytes y), .nat (Qu y (SelD.mk k o ke va a bb fl sz) n).2]))
 | _, _ => none
noncomputable def W61 : Wk := ⟨[(34, .fn c34), (57, .pure c57), (58, .fn c58), (60, .fn c60), (62, .pure c62), (81, .pure c81), (82, .pure c82), (85, .fn c85), (86, .fn c86), (87, .fn c87)], Qp Tryz.f61, true, false, [.tmp 4], [9], [(12, 41), (17, 33)], [12, 17]⟩
theorem has61 : Has 61 := hsf Tryz.f61
theorem YJ {p q : Prop} (k : q) (h : p := by first | omega | (unfold inI; omega) | exact Way.Qjk (by decide) | exact h01 | exact h05 | (simp; done) | (simp only [zd, ze, zf, Qd]; omega) | (simp only; omega) | (refine ⟨?_, ?_⟩ <;> (first | omega | (simp only [Qo, zh, decide_eq_true_eq]; omega)))) : p /\ q := ⟨h, k⟩
theorem Qrx : Sat 61 (fnS c61i) := by
 have hD : Qe W61.D := (Qe.cons Qkm QjI (Qe.cons Qq5 QqC (Qe.cons QeZ Qes (Qe.cons Qkl QjH (Qe.cons QeY Qer (Qe.cons Qq2 Qqz (Qe.cons QnI Qms (Qe.cons Qq0 Qqx (Qe.cons has86 sat86 (Qe.cons has87 sat87 Qe.nil))))))))))
 refine W61.sa hD Tryz.f61 fun svs b K hP => ?_
 obtain ⟨ps, o, b', e, hp, hk⟩ := YG hP
 unfold c61i at e
 split at e
 rename_i k o ke va a bb fl sz l y n
 cases e
 obtain ⟨h01, ⟨h02, h03⟩, h04, h05, h06, _⟩ := hp
 simp only [Qo, zh, decide_eq_true_eq] at h02 h03 h04 h05
 obtain ⟨r1, r2, r3, r4⟩ := h01.rng
 have f5 := h01.attr
 have f6 := h01.nth
 have f7 := h01.only
 simp only at r1 r2 r3 r4 f5 f6 f7
 have l1 := Vk ke
 have l2 := Vk va
 have l3 := Jz va
 have l4 := J8 (x := (SelD.mk k o ke va a bb fl sz)) (by simp only; omega) (by simp only; omega)
 simp only at l4
 have a1 := VF y n
 have a2 := Vs y n
 have a3 := VS y (Qr ke) (Qh y n).2
 have a4 := VF y (Qm y (Qr ke) (Qh y n).2).2
 have a5 := Vs y (Qm y (Qr ke) (Qh y n).2).2
 have b1 := QiU y n h05
 have b2 := VS y [108, 97, 110, 103] n
 have b3 := VF y (Qm y [108, 97, 110, 103] n).2
 have b4 := Vs y (Qm y [108, 97, 110, 103] n).2
 have b5 := VF y (Qh y (Qm y [108, 97, 110, 103] n).2).2
 have b6 := Vs y (Qh y (Qm y [108, 97, 110, 103] n).2).2
 have c2 := VS y [99, 111, 110, 116, 97, 105, 110, 115] n
 have c3 := VF y (Qm y [99, 111, 110, 116, 97, 105, 110, 115] n).2
 have c4 := Vs y (Qm y [99, 111, 110, 116, 97, 105, 110, 115] n).2
 have c5 := VF y (Qh y (Qm y [99, 111, 110, 116, 97, 105, 110, 115] n).2).2
 have c6 := Vs y (Qh y (Qm y [99, 111, 110, 116, 97, 105, 110, 115] n).2).2
 have d2 := VS y [99, 111, 110, 116, 97, 105, 110, 115, 111, 119, 110] n
 have d3 := VF y (Qm y [99, 111, 110, 116, 97, 105, 110, 115, 111, 119, 110] n).2
 have d4 := Vs y (Qm y [99, 111, 110, 116, 97, 105, 110, 115, 111, 119, 110] n).2
 have d5 := VF y (Qh y (Qm y [99, 111, 110, 116, 97, 105, 110, 115, 111, 119, 110] n).2).2
 have d6 := Vs y (Qh y (Qm y [99, 111, 110, 116, 97, 105, 110, 115, 111, 119, 110] n).2).2
 have L17 : ∀ (mm : Nat) (m : Nat) (u : List UInt8), 0 = mm -> (Qu y (SelD.mk k o ke va a bb fl sz) n = ((u ++ (Qh y m).1) ++ [93], (Qh y m).2) /\ u.length <= 1000000 /\ m <= n + 100000) -> W61.C K 17 (mkS 138 [(0, (.ptr 0 0)), (5, (.str u))] [(0, .blk 62 [(.sl (.sels l)), (.sl (.bytes y)), (.nat m)])] 1) := by
  intro mm
  induction mm using zl with
  | _ mm ih =>
   intro m u hm hI
   obtain ⟨k0, k1, k2⟩ := hI
   have g2 := VF y m
   have gL := Vs y m
   refine W61.aC hD ((m <= 900000000000) /\ (u.length + ((Qh y m).1).length <= 2305843009213693952) /\ ((u ++ ((Qh y m).1)).length + 1 <= 2305843009213693952) /\ K (.val (.str (u ++ ((Qh y m).1) ++ [93]))) (some (.blk 62 [(.sl (.sels l)), (.sl (.bytes y)), (.nat ((Qh y m).2))]))) ?_
   refine YJ (YJ (YJ ?_))
   exact Zt hk k0
 have L12 : ∀ (mm : Nat) (m : Nat) (u : List UInt8), 0 = mm -> (k = 5 /\ Qu y (SelD.mk k o ke va a bb fl sz) n = Qfd y (SelD.mk k o ke va a bb fl sz) u m /\ u.length <= 200000 /\ m <= n + 3) -> W61.C K 12 (mkS 138 [(0, (.ptr 0 0)), (3, (.ptr 1 0)), (5, (.str u))] [(0, .blk 62 [(.sl (.sels l)), (.sl (.bytes y)), (.nat m)]), (1, .blk 33 [(.int .i64 k), (.int .i64 o), (.str ke), (.str va), (.int .i64 a), (.int .i64 bb), (.int .i64 fl), (.int .i64 sz)])] 2) := by
  intro mm
  induction mm using zl with
  | _ mm ih =>
   intro m u hm hI
   obtain ⟨k5, k0, k1, k2⟩ := hI
   have f8 := f5 k5
   have g2 := VF y m
   have gL := Vs y m
   have t2 := Ql6 y (Qh y m).2 h05
   have i2 := YH y (VJ y va (Qh y m).2).2 2
   have s1 := QL (l := Vj) (n := 2) (by decide) o.toNat
   have s2 := QL (l := ([[105], [73]] : List Bs)) (n := 1) (by decide) (chc y (VJ y va (Qh y m).2).2 2).1
   refine W61.aC hD (have a0 := VJ y va ((Qh y m).2); have a1 := Vj.getD (o).toNat [] ++ ((Qh y m).1); have a2 := ([[105], [73]] : List (List UInt8)).getD ((chc y (a0.2) 2).1) []; cond (!(decide (o = (1 : Int)))) ((0 <= o /\ o < 9) /\ (m <= 900000000000) /\ ((Vj.getD (o).toNat []).length + ((Qh y m).1).length <= 2305843009213693952) /\ (u.length + a1.length <= 2305843009213693952) /\ ((Qh y m).2 <= 700000000000) /\ (va.length <= 90000) /\ (QE va 0 = true) /\ ((u ++ a1).length + (a0.1).length <= 2305843009213693952) /\ cond (decide (fl = (1 : Int))) ((0 < 2) /\ (a0.2 <= 1000000000000) /\ ((chc y (a0.2) 2).1 < 2) /\ ((chc y (a0.2) 2).1 < 2) /\ (1 + a2.length <= 2305843009213693952) /\ ((u ++ a1 ++ (a0.1)).length + ([32] ++ a2).length <= 2305843009213693952) /\ (W61).C K 17 (mkS 138 [(0, (.ptr 0 0)), (5, (.str (u ++ a1 ++ (a0.1) ++ ([32] ++ a2))))] [(2, .row (.strs [[105], [73]]) true), (0, .blk 62 [(.sl (.sels l)), (.sl (.bytes y)), (.nat ((chc y (a0.2) 2).2))]), (1, .blk 33 [(.int .i64 k), (.int .i64 o), (.str ke), (.str va), (.int .i64 a), (.int .i64 bb), (.int .i64 fl), (.int .i64 sz)])] 3)) ((W61).C K 17 (mkS 138 [(0, (.ptr 0 0)), (5, (.str (u ++ a1 ++ (a0.1))))] [(0, .blk 62 [(.sl (.sels l)), (.sl (.bytes y)), (.nat (a0.2))]), (1, .blk 33 [(.int .i64 k), (.int .i64 o), (.str ke), (.str va), (.int .i64 a), (.int .i64 bb), (.int .i64 fl), (.int .i64 sz)])] 2))) ((W61).C K 17 (mkS 138 [(0, (.ptr 0 0)), (5, (.str u))] [(0, .blk 62 [(.sl (.sels l)), (.sl (.bytes y)), (.nat m)]), (1, .blk 33 [(.int .i64 k), (.int .i64 o), (.str ke), (.str va), (.int .i64 a), (.int .i64 bb), (.int .i64 fl), (.int .i64 sz)])] 2))) ?_
   refine Qc ?_ ?_ <;> intro h1 <;> try simp [-za, -zb] at h1
   refine YJ (YJ (YJ (YJ (YJ (YJ (YJ (YJ ?_)))))))
   refine Qc ?_ ?_ <;> intro h2 <;> try simp [-za, -zb] at h2
   refine YJ (YJ (YJ (YJ (YJ (YJ ?_)))))
   exact Wk.C.rn [0] (L17 _ _ _ rfl ⟨k0.trans (by unfold Qfd; simp only; rw [if_neg (by omega), if_pos (by omega)]), by first | omega | (simp only [zd, ze, zf, Qd]; omega), by first | omega | (simp only; omega)⟩)
   exact Wk.C.rn [0] (L17 _ _ _ rfl ⟨k0.trans (by unfold Qfd; simp only; rw [if_neg (by omega), if_neg (by omega)]), by first | omega | (simp only [zd, ze, zf, Qd]; omega), by first | omega | (simp only; omega)⟩)
   exact Wk.C.rn [0] (L17 _ _ _ rfl ⟨k0.trans (by unfold Qfd; simp only; rw [if_pos (by omega)]), by first | omega | (simp only [zd, ze, zf, Qd]; omega), by first | omega | (simp only; omega)⟩)
 refine W61.en (have a0 := Qm y [99, 111, 110, 116, 97, 105, 110, 115, 111, 119, 110] n; have a1 := Qm y [99, 111, 110, 116, 97, 105, 110, 115] n; have a2 := Qm y [108, 97, 110, 103] n; have a3 := SelD.mk k o ke va a bb fl sz; have a4 := Qm y (Qr ke) ((Qh y n).2); have a5 : SV := .sl (.bytes y); have a6 := QO 4 (True) (.ptr 0 0); have a7 : SV := .sl (.sels l); have a11 := true = true -> True; have a12 := (True /\ True) /\ SV.lts 0 [(.str va)] = true /\ (va.length <= 100000) /\ True; have a13 := Qh y (a2.2); have a10 : SV := .str ([58] ++ (a2.1) ++ [40] ++ (a13.1) ++ (Qr va) ++ ((Qh y (a13.2)).1) ++ [41]); have a14 := Qh y (a1.2); have a8 : SV := .str ([58] ++ (a1.1) ++ [40] ++ (a14.1) ++ (QQ va) ++ ((Qh y (a14.2)).1) ++ [41]); have a15 := Qh y (a0.2); have a9 : SV := .str ([58] ++ (a0.1) ++ [40] ++ (a15.1) ++ (QQ va) ++ ((Qh y (a15.2)).1) ++ [41]); have a17 := n <= 900000000000; have a18 := V3 y va n; have a19 := True /\ True /\ True; have a20 := QO 4 (True) (.ptr 1 3); have a21 := (Qh y n).1; have a16 : SV := .str ([91] ++ a21 ++ (a4.1) ++ ((Qh y (a4.2)).1)); have a22 := QO 4 (True) (.str va); cond (decide (k = (1 : Int))) (K (.val (.str [42])) (some (.blk 62 [a7, a5, (.nat n)]))) (cond (decide (k = (2 : Int))) ((ke.length <= 100000) /\ a17 /\ ((Qr ke).length <= 1000000000) /\ K (.val (.str ((Qm y (Qr ke) n).1))) (some (.blk 62 [a7, a5, (.nat ((Qm y (Qr ke) n).2))]))) (cond (decide (k = (3 : Int))) ((n <= 800000000000) /\ (va.length <= 90000) /\ (QE va 0 = true) /\ (1 + (a18.1).length <= 2305843009213693952) /\ K (.val (.str ([46] ++ (a18.1)))) (some (.blk 62 [a7, a5, (.nat (a18.2))]))) (cond (decide (k = (4 : Int))) ((n <= 800000000000) /\ (va.length <= 90000) /\ (QE va 0 = true) /\ (1 + (a18.1).length <= 2305843009213693952) /\ K (.val (.str ([35] ++ (a18.1)))) (some (.blk 62 [a7, a5, (.nat (a18.2))]))) (cond (decide (k = (5 : Int))) (a6 /\ ((True /\ True) /\ (SV.lts 0 [] = true /\ SV.lts 0 [a7, a5, (.nat n)] = true /\ a17 /\ True) /\ True /\ a11) /\ (QO 4 ((1 + a21.length <= 2305843009213693952) /\ True) (.str ([91] ++ a21))) /\ a6 /\ (QO 4 (True) (.ptr 1 2)) /\ (QO 4 (True) (.str ke)) /\ (QO 4 ((True /\ True) /\ SV.lts 0 [(.str ke)] = true /\ (ke.length <= 100000) /\ True) (.str (Qr ke))) /\ (a19 /\ (SV.lts 0 [(.str (Qr ke))] = true /\ SV.lts 0 [a7, a5, (.nat ((Qh y n).2))] = true /\ ((Qh y n).2 <= 900000000000) /\ ((Qr ke).length <= 1000000000) /\ True) /\ True /\ a11) /\ (QO 4 ((([91] ++ a21).length + (a4.1).length <= 2305843009213693952) /\ True) (.str ([91] ++ a21 ++ (a4.1)))) /\ a6 /\ ((True /\ True) /\ (SV.lts 0 [] = true /\ SV.lts 0 [a7, a5, (.nat (a4.2))] = true /\ (a4.2 <= 900000000000) /\ True) /\ True /\ a11) /\ (QO 4 ((([91] ++ a21 ++ (a4.1)).length + ((Qh y (a4.2)).1).length <= 2305843009213693952) /\ True) a16) /\ (QO 4 (True) a16) /\ (W61).C K 12 (mkS 138 [(0, (.ptr 0 0)), (3, (.ptr 1 0)), (5, a16)] [(1, .blk 33 [(.int .i64 k), (.int .i64 o), (.str ke), (.str va), (.int .i64 a), (.int .i64 bb), (.int .i64 fl), (.int .i64 sz)]), (0, .blk 62 [a7, a5, (.nat ((Qh y (a4.2)).2))])] 2)) (cond (decide (k = (6 : Int))) ((-9999 <= a3.a /\ a3.a <= 9999 /\ -9999 <= a3.b /\ a3.b <= 9999) /\ (0 <= a3.flag /\ a3.flag <= 3) /\ (n <= 800000000000) /\ K (.val (.str ((Vr y a3 n).1))) (some (.blk 62 [a7, a5, (.nat ((Vr y a3 n).2))]))) (cond (decide (k = (15 : Int))) (a6 /\ (a19 /\ (SV.lts 0 [(.str [108, 97, 110, 103])] = true /\ SV.lts 0 [a7, a5, (.nat n)] = true /\ a17 /\ (4 <= 1000000000) /\ True) /\ True /\ a11) /\ (QO 4 ((1 + (a2.1).length <= 2305843009213693952) /\ True) (.str ([58] ++ (a2.1)))) /\ (QO 4 ((([58] ++ (a2.1)).length + 1 <= 2305843009213693952) /\ True) (.str ([58] ++ (a2.1) ++ [40]))) /\ a6 /\ ((True /\ True) /\ (SV.lts 0 [] = true /\ SV.lts 0 [a7, a5, (.nat (a2.2))] = true /\ (a2.2 <= 900000000000) /\ True) /\ True /\ a11) /\ (QO 4 ((([58] ++ (a2.1) ++ [40]).length + (a13.1).length <= 2305843009213693952) /\ True) (.str ([58] ++ (a2.1) ++ [40] ++ (a13.1)))) /\ a20 /\ a22 /\ (QO 4 a12 (.str (Qr va))) /\ (QO 4 ((([58] ++ (a2.1) ++ [40] ++ (a13.1)).length + (Qr va).length <= 2305843009213693952) /\ True) (.str ([58] ++ (a2.1) ++ [40] ++ (a13.1) ++ (Qr va)))) /\ a6 /\ ((True /\ True) /\ (SV.lts 0 [] = true /\ SV.lts 0 [a7, a5, (.nat (a13.2))] = true /\ (a13.2 <= 900000000000) /\ True) /\ True /\ a11) /\ (QO 4 ((([58] ++ (a2.1) ++ [40] ++ (a13.1) ++ (Qr va)).length + ((Qh y (a13.2)).1).length <= 2305843009213693952) /\ True) (.str ([58] ++ (a2.1) ++ [40] ++ (a13.1) ++ (Qr va) ++ ((Qh y (a13.2)).1)))) /\ (QO 4 ((([58] ++ (a2.1) ++ [40] ++ (a13.1) ++ (Qr va) ++ ((Qh y (a13.2)).1)).length + 1 <= 2305843009213693952) /\ True) a10) /\ (QO 4 (True) a10) /\ K (.val a10) (some (.blk 62 [a7, a5, (.nat ((Qh y (a13.2)).2))]))) (cond (decide (k = (16 : Int))) (a6 /\ (a19 /\ (SV.lts 0 [(.str [99, 111, 110, 116, 97, 105, 110, 115])] = true /\ SV.lts 0 [a7, a5, (.nat n)] = true /\ a17 /\ (8 <= 1000000000) /\ True) /\ True /\ a11) /\ (QO 4 ((1 + (a1.1).length <= 2305843009213693952) /\ True) (.str ([58] ++ (a1.1)))) /\ (QO 4 ((([58] ++ (a1.1)).length + 1 <= 2305843009213693952) /\ True) (.str ([58] ++ (a1.1) ++ [40]))) /\ a6 /\ ((True /\ True) /\ (SV.lts 0 [] = true /\ SV.lts 0 [a7, a5, (.nat (a1.2))] = true /\ (a1.2 <= 900000000000) /\ True) /\ True /\ a11) /\ (QO 4 ((([58] ++ (a1.1) ++ [40]).length + (a14.1).length <= 2305843009213693952) /\ True) (.str ([58] ++ (a1.1) ++ [40] ++ (a14.1)))) /\ a20 /\ a22 /\ (QO 4 a12 (.str (QQ va))) /\ (QO 4 ((([58] ++ (a1.1) ++ [40] ++ (a14.1)).length + (QQ va).length <= 2305843009213693952) /\ True) (.str ([58] ++ (a1.1) ++ [40] ++ (a14.1) ++ (QQ va)))) /\ a6 /\ ((True /\ True) /\ (SV.lts 0 [] = true /\ SV.lts 0 [a7, a5, (.nat (a14.2))] = true /\ (a14.2 <= 900000000000) /\ True) /\ True /\ a11) /\ (QO 4 ((([58] ++ (a1.1) ++ [40] ++ (a14.1) ++ (QQ va)).length + ((Qh y (a14.2)).1).length <= 2305843009213693952) /\ True) (.str ([58] ++ (a1.1) ++ [40] ++ (a14.1) ++ (QQ va) ++ ((Qh y (a14.2)).1)))) /\ (QO 4 ((([58] ++ (a1.1) ++ [40] ++ (a14.1) ++ (QQ va) ++ ((Qh y (a14.2)).1)).length + 1 <= 2305843009213693952) /\ True) a8) /\ (QO 4 (True) a8) /\ K (.val a8) (some (.blk 62 [a7, a5, (.nat ((Qh y (a14.2)).2))]))) (cond (decide (k = (17 : Int))) (a6 /\ (a19 /\ (SV.lts 0 [(.str [99, 111, 110, 116, 97, 105, 110, 115, 111, 119, 110])] = true /\ SV.lts 0 [a7, a5, (.nat n)] = true /\ a17 /\ (11 <= 1000000000) /\ True) /\ True /\ a11) /\ (QO 4 ((1 + (a0.1).length <= 2305843009213693952) /\ True) (.str ([58] ++ (a0.1)))) /\ (QO 4 ((([58] ++ (a0.1)).length + 1 <= 2305843009213693952) /\ True) (.str ([58] ++ (a0.1) ++ [40]))) /\ a6 /\ ((True /\ True) /\ (SV.lts 0 [] = true /\ SV.lts 0 [a7, a5, (.nat (a0.2))] = true /\ (a0.2 <= 900000000000) /\ True) /\ True /\ a11) /\ (QO 4 ((([58] ++ (a0.1) ++ [40]).length + (a15.1).length <= 2305843009213693952) /\ True) (.str ([58] ++ (a0.1) ++ [40] ++ (a15.1)))) /\ a20 /\ a22 /\ (QO 4 a12 (.str (QQ va))) /\ (QO 4 ((([58] ++ (a0.1) ++ [40] ++ (a15.1)).length + (QQ va).length <= 2305843009213693952) /\ True) (.str ([58] ++ (a0.1) ++ [40] ++ (a15.1) ++ (QQ va)))) /\ a6 /\ ((True /\ True) /\ (SV.lts 0 [] = true /\ SV.lts 0 [a7, a5, (.nat (a15.2))] = true /\ (a15.2 <= 900000000000) /\ True) /\ True /\ a11) /\ (QO 4 ((([58] ++ (a0.1) ++ [40] ++ (a15.1) ++ (QQ va)).length + ((Qh y (a15.2)).1).length <= 2305843009213693952) /\ True) (.str ([58] ++ (a0.1) ++ [40] ++ (a15.1) ++ (QQ va) ++ ((Qh y (a15.2)).1)))) /\ (QO 4 ((([58] ++ (a0.1) ++ [40] ++ (a15.1) ++ (QQ va) ++ ((Qh y (a15.2)).1)).length + 1 <= 2305843009213693952) /\ True) a9) /\ (QO 4 (True) a9) /\ K (.val a9) (some (.blk 62 [a7, a5, (.nat ((Qh y (a15.2)).2))]))) ((Way.Fld a3) /\ (Qo a3.kind = true /\ ¬ (a3.kind = 18 \/ a3.kind = 19 \/ a3.kind = 20)) /\ (a3.key.length + a3.val.length <= 100000) /\ a17 /\ ((Qs a3).length <= 1000000000) /\ K (.val (.str ((Qm y (Qs a3) n).1))) (some (.blk 62 [a7, a5, (.nat ((Qm y (Qs a3) n).2))])))))))))))) ?_
 refine Qc ?_ ?_ <;> intro h1 <;> try simp [-za, -zb] at h1
 refine Zt hk ?_
 unfold Qu
 simp [h1, Yt, YF, Q9, QH, -za]
 refine Qc (fun h2 => ?_) (fun h2 => ?_)
 try simp [-za, -zb] at h2
 refine YJ (YJ (YJ ?_))
 refine Zt hk ?_
 unfold Qu
 simp [h1, h2, Yt, YF, Q9, QH, -za]
 try simp [-za, -zb] at h2
 refine Qc ?_ ?_ <;> intro h3 <;> try simp [-za, -zb] at h3
 refine YJ (YJ (YJ (YJ ?_)))
 refine Zt hk ?_
 unfold Qu
 simp [h1, h2, h3, Yt, YF, Q9, QH, -za]
 refine Qc (fun h4 => ?_) (fun h4 => ?_)
 try simp [-za, -zb] at h4
 refine YJ (YJ (YJ (YJ ?_)))
 refine Zt hk ?_
 unfold Qu
 simp [h1, h2, h3, h4, Yt, YF, Q9, QH, -za]
 try simp [-za, -zb] at h4
 refine Qc ?_ ?_ <;> intro h5 <;> try simp [-za, -zb] at h5
 refine ⟨Qi trivial, ?_⟩
 refine ⟨⟨⟨trivial, trivial⟩, ⟨rfl, rfl, ⟨(by first | omega | (unfold inI; omega) | exact Way.Qjk (by decide) | exact h01 | exact h05 | (simp; done) | (simp only [zd, ze, zf, Qd]; omega) | (simp only; omega) | (refine ⟨?_, ?_⟩ <;> (first | omega | (simp only [Qo, zh, decide_eq_true_eq]; omega)))), trivial⟩⟩, trivial, fun _ => trivial⟩, ?_⟩
 refine ⟨Qi ⟨(by first | omega | (unfold inI; omega) | exact Way.Qjk (by decide) | exact h01 | exact h05 | (simp; done) | (simp only [zd, ze, zf, Qd]; omega) | (simp only; omega) | (refine ⟨?_, ?_⟩ <;> (first | omega | (simp only [Qo, zh, decide_eq_true_eq]; omega)))), trivial⟩, ?_⟩
 refine ⟨Qi trivial, ?_⟩
 refine ⟨Qi trivial, ?_⟩
 refine ⟨Qi trivial, ?_⟩
 refine ⟨Qi ⟨⟨trivial, trivial⟩, rfl, ⟨(by first | omega | (unfold inI; omega) | exact Way.Qjk (by decide) | exact h01 | exact h05 | (simp; done) | (simp only [zd, ze, zf, Qd]; omega) | (simp only; omega) | (refine ⟨?_, ?_⟩ <;> (first | omega | (simp only [Qo, zh, decide_eq_true_eq]; omega)))), trivial⟩⟩, ?_⟩
 refine ⟨⟨⟨trivial, trivial, trivial⟩, ⟨rfl, rfl, ⟨(by first | omega | (unfold inI; omega) | exact Way.Qjk (by decide) | exact h01 | exact h05 | (simp; done) | (simp only [zd, ze, zf, Qd]; omega) | (simp only; omega) | (refine ⟨?_, ?_⟩ <;> (first | omega | (simp only [Qo, zh, decide_eq_true_eq]; omega)))), (by first | omega | (unfold inI; omega) | exact Way.Qjk (by decide) | exact h01 | exact h05 | (simp; done) | (simp only [zd, ze, zf, Qd]; omega) | (simp only; omega) | (refine ⟨?_, ?_⟩ <;> (first | omega | (simp only [Qo, zh, decide_eq_true_eq]; omega)))), trivial⟩⟩, trivial, fun _ => trivial⟩, ?_⟩
 refine ⟨Qi ⟨(by first | omega | (unfold inI; omega) | exact Way.Qjk (by decide) | exact h01 | exact h05 | (simp; done) | (simp only [zd, ze, zf, Qd]; omega) | (simp only; omega) | (refine ⟨?_, ?_⟩ <;> (first | omega | (simp only [Qo, zh, decide_eq_true_eq]; omega)))), trivial⟩, ?_⟩
 refine ⟨Qi trivial, ?_⟩
 refine ⟨⟨⟨trivial, trivial⟩, ⟨rfl, rfl, ⟨(by first | omega | (unfold inI; omega) | exact Way.Qjk (by decide) | exact h01 | exact h05 | (simp; done) | (simp only [zd, ze, zf, Qd]; omega) | (simp only; omega) | (refine ⟨?_, ?_⟩ <;> (first | omega | (simp only [Qo, zh, decide_eq_true_eq]; omega)))), trivial⟩⟩, trivial, fun _ => trivial⟩, ?_⟩
 refine ⟨Qi ⟨(by first | omega | (unfold inI; omega) | exact Way.Qjk (by decide) | exact h01 | exact h05 | (simp; done) | (simp only [zd, ze, zf, Qd]; omega) | (simp only; omega) | (refine ⟨?_, ?_⟩ <;> (first | omega | (simp only [Qo, zh, decide_eq_true_eq]; omega)))), trivial⟩, ?_⟩
 refine ⟨Qi trivial, ?_⟩
 exact Wk.C.rn [0, 1] (L12 _ _ _ rfl ⟨h5, (QgO (x := (SelD.mk k o ke va a bb fl sz)) h5).trans (Qor y (SelD.mk k o ke va a bb fl sz) n), by first | omega | (simp only [zd, ze, zf, Qd]; omega), by first | omega | (simp only; omega)⟩)
 refine Qc (fun h6 => ?_) (fun h6 => ?_)
 try simp [-za, -zb] at h6
 refine YJ (YJ (YJ ?_))
 refine Zt hk ?_
 unfold Qu
 simp [h1, h2, h3, h4, h5, h6, Yt, YF, Q9, QH, -za]
 try simp [-za, -zb] at h6
 refine Qc ?_ ?_ <;> intro h7 <;> try simp [-za, -zb] at h7
 refine ⟨Qi trivial, ?_⟩
 refine ⟨⟨⟨trivial, trivial, trivial⟩, ⟨rfl, rfl, ⟨(by first | omega | (unfold inI; omega) | exact Way.Qjk (by decide) | exact h01 | exact h05 | (simp; done) | (simp only [zd, ze, zf, Qd]; omega) | (simp only; omega) | (refine ⟨?_, ?_⟩ <;> (first | omega | (simp only [Qo, zh, decide_eq_true_eq]; omega)))), (by first | omega | (unfold inI; omega) | exact Way.Qjk (by decide) | exact h01 | exact h05 | (simp; done) | (simp only [zd, ze, zf, Qd]; omega) | (simp only; omega) | (refine ⟨?_, ?_⟩ <;> (first | omega | (simp only [Qo, zh, decide_eq_true_eq]; omega)))), trivial⟩⟩, trivial, fun _ => trivial⟩, ?_⟩
 refine ⟨Qi ⟨(by first | omega | (unfold inI; omega) | exact Way.Qjk (by decide) | exact h01 | exact h05 | (simp; done) | (simp only [zd, ze, zf, Qd]; omega) | (simp only; omega) | (refine ⟨?_, ?_⟩ <;> (first | omega | (simp only [Qo, zh, decide_eq_true_eq]; omega)))), trivial⟩, ?_⟩
 refine ⟨Qi ⟨(by first | omega | (unfold inI; omega) | exact Way.Qjk (by decide) | exact h01 | exact h05 | (simp; done) | (simp only [zd, ze, zf, Qd]; omega) | (simp only; omega) | (refine ⟨?_, ?_⟩ <;> (first | omega | (simp only [Qo, zh, decide_eq_true_eq]; omega)))), trivial⟩, ?_⟩
 refine ⟨Qi trivial, ?_⟩
 refine ⟨⟨⟨trivial, trivial⟩, ⟨rfl, rfl, ⟨(by first | omega | (unfold inI; omega) | exact Way.Qjk (by decide) | exact h01 | exact h05 | (simp; done) | (simp only [zd, ze, zf, Qd]; omega) | (simp only; omega) | (refine ⟨?_, ?_⟩ <;> (first | omega | (simp only [Qo, zh, decide_eq_true_eq]; omega)))), trivial⟩⟩, trivial, fun _ => trivial⟩, ?_⟩
 refine ⟨Qi ⟨(by first | omega | (unfold inI; omega) | exact Way.Qjk (by decide) | exact h01 | exact h05 | (simp; done) | (simp only [zd, ze, zf, Qd]; omega) | (simp only; omega) | (refine ⟨?_, ?_⟩ <;> (first | omega | (simp only [Qo, zh, decide_eq_true_eq]; omega)))), trivial⟩, ?_⟩
 refine ⟨Qi trivial, ?_⟩
 refine ⟨Qi trivial, ?_⟩
 refine ⟨Qi ⟨⟨trivial, trivial⟩, rfl, ⟨(by first | omega | (unfold inI; omega) | exact Way.Qjk (by decide) | exact h01 | exact h05 | (simp; done) | (simp only [zd, ze, zf, Qd]; omega) | (simp only; omega) | (refine ⟨?_, ?_⟩ <;> (first | omega | (simp only [Qo, zh, decide_eq_true_eq]; omega)))), trivial⟩⟩, ?_⟩
 refine ⟨Qi ⟨(by first | omega | (unfold inI; omega) | exact Way.Qjk (by decide) | exact h01 | exact h05 | (simp; done) | (simp only [zd, ze, zf, Qd]; omega) | (simp only; omega) | (refine ⟨?_, ?_⟩ <;> (first | omega | (simp only [Qo, zh, decide_eq_true_eq]; omega)))), trivial⟩, ?_⟩
 refine ⟨Qi trivial, ?_⟩
 refine ⟨⟨⟨trivial, trivial⟩, ⟨rfl, rfl, ⟨(by first | omega | (unfold inI; omega) | exact Way.Qjk (by decide) | exact h01 | exact h05 | (simp; done) | (simp only [zd, ze, zf, Qd]; omega) | (simp only; omega) | (refine ⟨?_, ?_⟩ <;> (first | omega | (simp only [Qo, zh, decide_eq_true_eq]; omega)))), trivial⟩⟩, trivial, fun _ => trivial⟩, ?_⟩
 refine ⟨Qi ⟨(by first | omega | (unfold inI; omega) | exact Way.Qjk (by decide) | exact h01 | exact h05 | (simp; done) | (simp only [zd, ze, zf, Qd]; omega) | (simp only; omega) | (refine ⟨?_, ?_⟩ <;> (first | omega | (simp only [Qo, zh, decide_eq_true_eq]; omega)))), trivial⟩, ?_⟩
 refine ⟨Qi ⟨(by first | omega | (unfold inI; omega) | exact Way.Qjk (by decide) | exact h01 | exact h05 | (simp; done) | (simp only [zd, ze, zf, Qd]; omega) | (simp only; omega) | (refine ⟨?_, ?_⟩ <;> (first | omega | (simp only [Qo, zh, decide_eq_true_eq]; omega)))), trivial⟩, ?_⟩
 refine ⟨Qi trivial, ?_⟩
 refine Zt hk ?_
 unfold Qu
 simp [h1, h2, h3, h4, h5, h6, h7, Yt, YF, Q9, QH, -za]
 refine Qc (fun h8 => ?_) (fun h8 => ?_)
 try simp [-za, -zb] at h8
 refine ⟨Qi trivial, ?_⟩
 refine ⟨⟨⟨trivial, trivial, trivial⟩, ⟨rfl, rfl, ⟨(by first | omega | (unfold inI; omega) | exact Way.Qjk (by decide) | exact h01 | exact h05 | (simp; done) | (simp only [zd, ze, zf, Qd]; omega) | (simp only; omega) | (refine ⟨?_, ?_⟩ <;> (first | omega | (simp only [Qo, zh, decide_eq_true_eq]; omega)))), (by first | omega | (unfold inI; omega) | exact Way.Qjk (by decide) | exact h01 | exact h05 | (simp; done) | (simp only [zd, ze, zf, Qd]; omega) | (simp only; omega) | (refine ⟨?_, ?_⟩ <;> (first | omega | (simp only [Qo, zh, decide_eq_true_eq]; omega)))), trivial⟩⟩, trivial, fun _ => trivial⟩, ?_⟩
 refine ⟨Qi ⟨(by first | omega | (unfold inI; omega) | exact Way.Qjk (by decide) | exact h01 | exact h05 | (simp; done) | (simp only [zd, ze, zf, Qd]; omega) | (simp only; omega) | (refine ⟨?_, ?_⟩ <;> (first | omega | (simp only [Qo, zh, decide_eq_true_eq]; omega)))), trivial⟩, ?_⟩
 refine ⟨Qi ⟨(by first | omega | (unfold inI; omega) | exact Way.Qjk (by decide) | exact h01 | exact h05 | (simp; done) | (simp only [zd, ze, zf, Qd]; omega) | (simp only; omega) | (refine ⟨?_, ?_⟩ <;> (first | omega | (simp only [Qo, zh, decide_eq_true_eq]; omega)))), trivial⟩, ?_⟩
 refine ⟨Qi trivial, ?_⟩
 refine ⟨⟨⟨trivial, trivial⟩, ⟨rfl, rfl, ⟨(by first | omega | (unfold inI; omega) | exact Way.Qjk (by decide) | exact h01 | exact h05 | (simp; done) | (simp only [zd, ze, zf, Qd]; omega) | (simp only; omega) | (refine ⟨?_, ?_⟩ <;> (first | omega | (simp only [Qo, zh, decide_eq_true_eq]; omega)))), trivial⟩⟩, trivial, fun _ => trivial⟩, ?_⟩
 refine ⟨Qi ⟨(by first | omega | (unfold inI; omega) | exact Way.Qjk (by decide) | exact h01 | exact h05 | (simp; done) | (simp only [zd, ze, zf, Qd]; omega) | (simp only; omega) | (refine ⟨?_, ?_⟩ <;> (first | omega | (simp only [Qo, zh, decide_eq_true_eq]; omega)))), trivial⟩, ?_⟩
 refine ⟨Qi trivial, ?_⟩
 refine ⟨Qi trivial, ?_⟩
 refine ⟨Qi ⟨⟨trivial, trivial⟩, rfl, ⟨(by first | omega | (unfold inI; omega) | exact Way.Qjk (by decide) | exact h01 | exact h05 | (simp; done) | (simp only [zd, ze, zf, Qd]; omega) | (simp only; omega) | (refine ⟨?_, ?_⟩ <;> (first | omega | (simp only [Qo, zh, decide_eq_true_eq]; omega)))), trivial⟩⟩, ?_⟩
 refine ⟨Qi ⟨(by first | omega | (unfold inI; omega) | exact Way.Qjk (by decide) | exact h01 | exact h05 | (simp; done) | (simp only [zd, ze, zf, Qd]; omega) | (simp only; omega) | (refine ⟨?_, ?_⟩ <;> (first | omega | (simp only [Qo, zh, decide_eq_true_eq]; omega)))), trivial⟩, ?_⟩
 refine ⟨Qi trivial, ?_⟩
 refine ⟨⟨⟨trivial, trivial⟩, ⟨rfl, rfl, ⟨(by first | omega | (unfold inI; omega) | exact Way.Qjk (by decide) | exact h01 | exact h05 | (simp; done) | (simp only [zd, ze, zf, Qd]; omega) | (simp only; omega) | (refine ⟨?_, ?_⟩ <;> (first | omega | (simp only [Qo, zh, decide_eq_true_eq]; omega)))), trivial⟩⟩, trivial, fun _ => trivial⟩, ?_⟩
 refine ⟨Qi ⟨(by first | omega | (unfold inI; omega) | exact Way.Qjk (by decide) | exact h01 | exact h05 | (simp; done) | (simp only [zd, ze, zf, Qd]; omega) | (simp only; omega) | (refine ⟨?_, ?_⟩ <;> (first | omega | (simp only [Qo, zh, decide_eq_true_eq]; omega)))), trivial⟩, ?_⟩
 refine ⟨Qi ⟨(by first | omega | (unfold inI; omega) | exact Way.Qjk (by decide) | exact h01 | exact h05 | (simp; done) | (simp only [zd, ze, zf, Qd]; omega) | (simp only; omega) | (refine ⟨?_, ?_⟩ <;> (first | omega | (simp only [Qo, zh, decide_eq_true_eq]; omega)))), trivial⟩, ?_⟩
 refine ⟨Qi trivial, ?_⟩
 refine Zt hk ?_
 unfold Qu
 simp [h1, h2, h3, h4, h5, h6, h7, h8, Yt, YF, Q9, QH, -za]
 try simp [-za, -zb] at h8
 refine Qc ?_ ?_ <;> intro h9 <;> try simp [-za, -zb] at h9
 refine ⟨Qi trivial, ?_⟩
 refine ⟨⟨⟨trivial, trivial, trivial⟩, ⟨rfl, rfl, ⟨(by first | omega | (unfold inI; omega) | exact Way.Qjk (by decide) | exact h01 | exact h05 | (simp; done) | (simp only [zd, ze, zf, Qd]; omega) | (simp only; omega) | (refine ⟨?_, ?_⟩ <;> (first | omega | (simp only [Qo, zh, decide_eq_true_eq]; omega)))), (by first | omega | (unfold inI; omega) | exact Way.Qjk (by decide) | exact h01 | exact h05 | (simp; done) | (simp only [zd, ze, zf, Qd]; omega) | (simp only; omega) | (refine ⟨?_, ?_⟩ <;> (first | omega | (simp only [Qo, zh, decide_eq_true_eq]; omega)))), trivial⟩⟩, trivial, fun _ => trivial⟩, ?_⟩
 refine ⟨Qi ⟨(by first | omega | (unfold inI; omega) | exact Way.Qjk (by decide) | exact h01 | exact h05 | (simp; done) | (simp only [zd, ze, zf, Qd]; omega) | (simp only; omega) | (refine ⟨?_, ?_⟩ <;> (first | omega | (simp only [Qo, zh, decide_eq_true_eq]; omega)))), trivial⟩, ?_⟩
 refine ⟨Qi ⟨(by first | omega | (unfold inI; omega) | exact Way.Qjk (by decide) | exact h01 | exact h05 | (simp; done) | (simp only [zd, ze, zf, Qd]; omega) | (simp only; omega) | (refine ⟨?_, ?_⟩ <;> (first | omega | (simp only [Qo, zh, decide_eq_true_eq]; omega)))), trivial⟩, ?_⟩
 refine ⟨Qi trivial, ?_⟩
 refine ⟨⟨⟨trivial, trivial⟩, ⟨rfl, rfl, ⟨(by first | omega | (unfold inI; omega) | exact Way.Qjk (by decide) | exact h01 | exact h05 | (simp; done) | (simp only [zd, ze, zf, Qd]; omega) | (simp only; omega) | (refine ⟨?_, ?_⟩ <;> (first | omega | (simp only [Qo, zh, decide_eq_true_eq]; omega)))), trivial⟩⟩, trivial, fun _ => trivial⟩, ?_⟩
 refine ⟨Qi ⟨(by first | omega | (unfold inI; omega) | exact Way.Qjk (by decide) | exact h01 | exact h05 | (simp; done) | (simp only [zd, ze, zf, Qd]; omega) | (simp only; omega) | (refine ⟨?_, ?_⟩ <;> (first | omega | (simp only [Qo, zh, decide_eq_true_eq]; omega)))), trivial⟩, ?_⟩
 refine ⟨Qi trivial, ?_⟩
 refine ⟨Qi trivial, ?_⟩
 refine ⟨Qi ⟨⟨trivial, trivial⟩, rfl, ⟨(by first | omega | (unfold inI; omega) | exact Way.Qjk (by decide) | exact h01 | exact h05 | (simp; done) | (simp only [zd, ze, zf, Qd]; omega) | (simp only; omega) | (refine ⟨?_, ?_⟩ <;> (first | omega | (simp only [Qo, zh, decide_eq_true_eq]; omega)))), trivial⟩⟩, ?_⟩
 refine ⟨Qi ⟨(by first | omega | (unfold inI; omega) | exact Way.Qjk (by decide) | exact h01 | exact h05 | (simp; done) | (simp only [zd, ze, zf, Qd]; omega) | (simp only; omega) | (refine ⟨?_, ?_⟩ <;> (first | omega | (simp only [Qo, zh, decide_eq_true_eq]; omega)))), trivial⟩, ?_⟩
 refine ⟨Qi trivial, ?_⟩
 refine ⟨⟨⟨trivial, trivial⟩, ⟨rfl, rfl, ⟨(by first | omega | (unfold inI; omega) | exact Way.Qjk (by decide) | exact h01 | exact h05 | (simp; done) | (simp only [zd, ze, zf, Qd]; omega) | (simp only; omega) | (refine ⟨?_, ?_⟩ <;> (first | omega | (simp only [Qo, zh, decide_eq_true_eq]; omega)))), trivial⟩⟩, trivial, fun _ => trivial⟩, ?_⟩
 refine ⟨Qi ⟨(by first | omega | (unfold inI; omega) | exact Way.Qjk (by decide) | exact h01 | exact h05 | (simp; done) | (simp only [zd, ze, zf, Qd]; omega) | (simp only; omega) | (refine ⟨?_, ?_⟩ <;> (first | omega | (simp only [Qo, zh, decide_eq_true_eq]; omega)))), trivial⟩, ?_⟩
 refine ⟨Qi ⟨(by first | omega | (unfold inI; omega) | exact Way.Qjk (by decide) | exact h01 | exact h05 | (simp; done) | (simp only [zd, ze, zf, Qd]; omega) | (simp only; omega) | (refine ⟨?_, ?_⟩ <;> (first | omega | (simp only [Qo, zh, decide_eq_true_eq]; omega)))), trivial⟩, ?_⟩
 refine ⟨Qi trivial, ?_⟩
 refine Zt hk ?_
 unfold Qu
 simp [h1, h2, h3, h4, h5, h6, h7, h8, h9, Yt, YF, Q9, QH, -za]
 refine YJ (YJ (YJ (YJ (YJ ?_))))
 refine Zt hk ?_
 unfold Qu
 simp [h1, h2, h3, h4, h5, h6, h7, h8, h9, Yt, YF, Q9, QH, -za]
 cases e
def c61 (svs : List SV) (b : Option SB) : FR := match svs, b with
 | [.ptr 0 0, x], some (.blk 62 [.sl (.sels l), .sl (.bytes y), .nat n]) => match QbV x with
  | some x => some ([Way.Fld x, Qo x.kind = true /\ ¬ (x.kind = 18 \/ x.kind = 19 \/ x.kind = 20), x.key.length + x.val.length <= 20000, QE x.val 0 = true, n <= 600000000000], .val (.str (Qu y x n).1), some (.blk 62 [.sl (.sels l), .sl (.bytes y), .nat (Qu y x n).2]))
  | _ => none
 | _, _ => none
theorem sat61 : Sat 61 (fnS c61) := by
 refine Sat.wk Qrx fun svs b K h => ?_
 obtain ⟨ps, v, b', e, hp, hk⟩ := YG h
 unfold c61 at e
 split at e
 rename_i x l y n
 split at e
 rename_i x' hx
 cases e
 exact ⟨[.ptr 0 0, .agg (Vq x')], ⟨fun ω v h => h, fun ω v => Z8 hx, trivial⟩, hp.1, hp.2.1, hp.2.2.1, hp.2.2.2.1, hp.2.2.2.2.1, hk⟩
 cases e
 cases e
end
end Go.Proofs.YtengepcafdnalaaGreatDoor
