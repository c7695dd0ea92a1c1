/-
  Parts of the proof that the law FnPrintAgain holds for every input (texts Xj, Og, Oh, Oi). Conditions: none.
-/
import Derived.Test.YtengepcafdnalaaGreatDoorM34
import Derived.Lib.Join
import Derived.Lib.ItoaNum
import Derived.Shelf.Strconv.Itoa3
import Derived.Shelf.Strings.OnBuilder
import Derived.Lib.AppendIntMem
namespace Go.Proofs.YtengepcafdnalaaGreatDoor
open _root_.Array renaming getElem?_eq_getElem → zr, getElem?_eq_some_iff → zA
open _root_.Bool renaming false_or → xo
open _root_.List renaming length_append → zd, mem_cons → zz, length_cons → ze, length_nil → zf, flatten_cons → xm, replicate → zG, length_take → zk, length_replicate → zZ, take_add_one → zL, getElem?_eq_getElem → zi, getD_eq_getElem?_getD → za, take_of_length_le → zN, drop_eq_getElem_cons → zP, drop_eq_nil_of_le → xk, append_assoc → zo, length_eq_zero_iff → zK, append_nil → zC, getElem?_map → zD, getElem?_eq_some_iff → zy
open _root_.Nat renaming strongRecOn → zl, le_refl → zq
open _root_.Option renaming bind_some → zM, map_eq_some_iff → zm
open Go.Proofs.Tryz renaming prog → zg
open _root_.UInt8 renaming ofNat → zx, toNat_or → zb
section
set_option maxRecDepth 20000
mutual
def hgt : CSel -> Nat
 | .rel _ l => Qf7 l + 1
 | .compound l _ => Qf7 l + 1
 | .combined f _ s => max (hgt f) (hgt s) + 1
 | _ => 1
def Qf7 : List CSel -> Nat
 | [] => 0
 | x :: l => max (hgt x) (Qf7 l)
end
mutual
def okC : CSel -> Prop
 | .nth a b _ _ => (-9223372036854775808 <= a /\ a <= 9223372036854775807) /\ (-9223372036854775808 <= b /\ b <= 9223372036854775807)
 | .rel _ l => Qlg l
 | .compound l _ => Qlg l
 | .combined f _ s => okC f /\ okC s
 | _ => True
def Qlg : List CSel -> Prop
 | [] => True
 | x :: l => okC x /\ Qlg l
end
def okM (m : Nat) (x : CSel) : Prop := hgt x <= m /\ okC x /\ (pr x).length <= 1000000 /\ (QJ x).length <= 1000000
theorem Qh0 (l : List CSel) : l.length <= (Ve l).length := by
 have pos : ∀ x : CSel, 0 < (QJ x).length := by intro x; cases x <;> simp [QJ, QT]
 induction l with
 | nil => simp
 | cons x l ih => have := pos x; simp [Ve]; omega
theorem QhZ {l : List CSel} : ∀ y ∈ l, (QJ y).length <= (Ve l).length := by
 induction l with
 | nil => intro y hy; cases hy
 | cons x l ih =>
  intro y hy
  rw [Ve, zd]
  rcases zz.1 hy with e | e
  subst e; omega
  have := ih y e; omega
theorem QnG {l : List CSel} {m : Nat} (h : Qf7 l <= m) : ∀ y ∈ l, hgt y <= m := by
 induction l with
 | nil => intro y hy; cases hy
 | cons x l ih =>
  rw [Qf7] at h
  intro y hy
  rcases zz.1 hy with e | e
  subst e; omega
  exact ih (by omega) y e
theorem Qhr {l : List CSel} {m : Nat} (h : ∀ y ∈ l, hgt y <= m) : Qf7 l <= m := by
 induction l with
 | nil => simp [Qf7]
 | cons x l ih =>
  rw [Qf7]
  have := h x (by simp)
  have := ih fun y hy => h y (by simp [hy])
  omega
theorem Qm7 {l : List CSel} (h : Qlg l) : ∀ y ∈ l, okC y := by
 induction l with
 | nil => intro y hy; cases hy
 | cons x l ih =>
  intro y hy
  rcases zz.1 hy with e | e
  subst e; exact h.1
  exact ih h.2 y e
theorem Qhq {l : List CSel} (h : ∀ y ∈ l, okC y) : Qlg l := by
 induction l with
 | nil => trivial
 | cons x l ih => exact ⟨h x (by simp), ih fun y hy => h y (by simp [hy])⟩
theorem QpS (x : CSel) : 1 <= hgt x := by cases x <;> simp [hgt]
theorem Qrb : ∀ (m d c : Nat) (x : CSel), Way.Gd m d c x -> hgt x <= m + 1 /\ okC x
 | 0, d, c, x, h => by simp only [Way.Gd] at h
 | m + 1, d, c, x, h => by
  have ih := Qrb m
  cases x
  case rel n l =>
   simp only [Way.Gd] at h
   obtain ⟨_, _, d', _, h3⟩ := h
   rw [hgt, okC]
   exact ⟨Nat.succ_le_succ (Qhr fun y hy => (ih _ _ y (h3 y hy).1).1), Qhq fun y hy => (ih _ _ y (h3 y hy).1).2⟩
  case compound l pe =>
   simp only [Way.Gd] at h
   obtain ⟨_, _, _, h3, h4⟩ := h
   have all : ∀ y ∈ l, hgt y <= m + 1 /\ okC y := by
    intro y hy
    cases l with
    | nil => cases hy
    | cons z u =>
     rcases zz.1 hy with e | e
     subst e
     rcases h4 y rfl with q | ⟨k, rfl, _⟩
     exact ih _ _ _ q
     refine ⟨?_, by simp [okC]⟩
     simp [hgt]
     exact ih _ _ _ (h3 y e)
   rw [hgt, okC]
   exact ⟨Nat.succ_le_succ (Qhr fun y hy => (all y hy).1), Qhq fun y hy => (all y hy).2⟩
  case combined f o s =>
   simp only [Way.Gd] at h
   obtain ⟨_, _, h2, _, h4⟩ := h
   have q1 := ih _ _ _ h2
   have q2 := ih _ _ _ h4
   rw [hgt, okC]
   exact ⟨by omega, q1.2, q2.2⟩
  case nth a b l t =>
   simp only [Way.Gd, Way.ZW] at h
   refine ⟨by simp [hgt], ?_⟩
   simp only [okC]
   omega
  all_goals exact ⟨by simp [hgt], by simp [okC]⟩
theorem ZO : ∀ v : Bs, v.length <= (YR v).length /\ (YR v).length <= 2 * v.length
 | [] => by simp [YR]
 | c :: v => by
  have := ZO v
  rw [YR, zd, ze]
  unfold QhU
  split <;> simp <;> omega
theorem Ql1 {c : UInt8} (h : c = 32 \/ c = 62 \/ c = 43 \/ c = 126) : (YL c.toNat).length = 1 := by rcases h with rfl | rfl | rfl | rfl <;> decide
def prS : List CSel -> Nat
 | [] => 0
 | x :: l => (pr x).length + 2 + prS l
theorem Qg7 (l : List CSel) : (prG l).length <= prS l := by
 have key : ∀ l : List CSel, ((prs l).flatMap fun u => [44, 32] ++ u).length = prS l := by
  intro l
  induction l with
  | nil => rfl
  | cons x l ih =>
   rw [prs, List.flatMap_cons, zd, ih, prS]
   simp only [zd, ze, zf]; omega
 cases l with
 | nil => simp [prG, prs, Zn]
 | cons x l =>
  unfold prG
  rw [prs, Zn, zd, key, prS]
  omega
theorem QmQ (l : List CSel) : (prs l).flatten.length <= prS l := by
 induction l with
 | nil => simp [prs]
 | cons x l ih =>
  rw [prs, xm, zd, prS]; omega
theorem Qpb (a b : List CSel) : prS (a ++ b) = prS a + prS b := by
 induction a with
 | nil => simp [prS]
 | cons x a ih => rw [List.cons_append, prS, prS, ih]; omega
theorem QiK (p : CSel -> Bool) (l : List CSel) : prS (l.filter p) <= prS l := by
 induction l with
 | nil => simp
 | cons x l ih =>
  rw [List.filter_cons]
  split <;> simp only [prS] <;> omega
theorem Qpa {l : List CSel} : ∀ y ∈ l, (pr y).length + 2 <= prS l := by
 induction l with
 | nil => intro y hy; cases hy
 | cons x l ih =>
  intro y hy
  rw [prS]
  rcases zz.1 hy with e | e
  subst e; omega
  have := ih y e; omega
theorem Qpp {a b : Int} {l t : Bool} (ha : -9999 <= a /\ a <= 9999) (hb : -9999 <= b /\ b <= 9999) : (pr (.nth a b l t)).length <= 100 := by
 have h := Yy (a := a) (b := b) (by omega) (by omega)
 have h2 : ∀ l t : Bool, (Qbw l t).length <= 30 /\ (Way.YV l t).length <= 30 := by decide
 have := h2 l t
 rw [pr]
 split <;> simp only [zd, ze, zf] <;> omega
theorem Qnm {x : SelD} (F : Way.Fld x) : (pr (Qx x)).length + 10 <= 500 + 4 * (x.key.length + x.val.length) := by
 have r := F.rng
 have p : ∀ m : Fin 7, (Qq.getD m.val []).length <= 10 := by decide
 have s := QL (l := Vj) (n := 2) (by decide) x.op.toNat
 have e := ZO x.val
 have n := Qpp (a := x.a) (b := x.b) (l := decide (x.flag = 1 \/ x.flag = 3)) (t := decide (x.flag = 2 \/ x.flag = 3)) (by omega) (by omega)
 have p0 : (Qq.getD 0 []).length <= 10 := by decide
 have p1 : (Qq.getD 1 []).length <= 10 := by decide
 have p2 : (Qq.getD 2 []).length <= 10 := by decide
 have p3 : (Qq.getD 3 []).length <= 10 := by decide
 have p4 : (Qq.getD 4 []).length <= 10 := by decide
 have p5 : (Qq.getD 5 []).length <= 10 := by decide
 have p6 : (Qq.getD 6 []).length <= 10 := by decide
 have eL : YF.length = 4 := rfl
 unfold Qx
 refine Way.Qnu (P := fun y => (pr y).length + 10 <= 500 + 4 * (x.key.length + x.val.length)) (by simp [pr, prs]; omega) ?_
 refine Way.Qnu (P := fun y => (pr y).length + 10 <= 500 + 4 * (x.key.length + x.val.length)) (by rw [pr]; omega) ?_
 refine Way.Qnu (P := fun y => (pr y).length + 10 <= 500 + 4 * (x.key.length + x.val.length)) (by rw [pr, ze]; omega) ?_
 refine Way.Qnu (P := fun y => (pr y).length + 10 <= 500 + 4 * (x.key.length + x.val.length)) (by rw [pr, ze]; omega) ?_
 refine Way.Qnu (P := fun y => (pr y).length + 10 <= 500 + 4 * (x.key.length + x.val.length)) (by rw [pr]; simp only [zd, ze, zf]; split <;> split <;> simp only [zd, ze, zf] <;> omega) ?_
 refine Way.Qnu (P := fun y => (pr y).length + 10 <= 500 + 4 * (x.key.length + x.val.length)) (by omega) ?_
 refine Way.Qnu (P := fun y => (pr y).length + 10 <= 500 + 4 * (x.key.length + x.val.length)) (by rw [pr, ze]; split <;> simp only [ze, zf] <;> omega) ?_
 refine Way.Qnu (P := fun y => (pr y).length + 10 <= 500 + 4 * (x.key.length + x.val.length)) (by rw [pr, ze]; omega) ?_
 refine Way.Qnu (P := fun y => (pr y).length + 10 <= 500 + 4 * (x.key.length + x.val.length)) (by rw [pr, ze]; omega) ?_
 refine Way.Qnu (P := fun y => (pr y).length + 10 <= 500 + 4 * (x.key.length + x.val.length)) (by rw [pr, ze]; omega) ?_
 refine Way.Qnu (P := fun y => (pr y).length + 10 <= 500 + 4 * (x.key.length + x.val.length)) (by rw [pr, ze]; omega) ?_
 refine Way.Qnu (P := fun y => (pr y).length + 10 <= 500 + 4 * (x.key.length + x.val.length)) (by rw [pr, ze]; omega) ?_
 refine Way.Qnu (P := fun y => (pr y).length + 10 <= 500 + 4 * (x.key.length + x.val.length)) (by rw [pr, ze]; omega) ?_
 refine Way.Qnu (P := fun y => (pr y).length + 10 <= 500 + 4 * (x.key.length + x.val.length)) (by rw [pr, ze]; omega) ?_
 refine Way.Qnu (P := fun y => (pr y).length + 10 <= 500 + 4 * (x.key.length + x.val.length)) (by rw [pr]; simp only [zd, ze, zf]; omega) ?_
 refine Way.Qnu (P := fun y => (pr y).length + 10 <= 500 + 4 * (x.key.length + x.val.length)) (by rw [pr]; simp only [zd, ze, zf]; split <;> simp only [ze, zf] <;> omega) ?_
 rw [pr]
 simp only [zd, ze, zf]
 split <;> simp only [ze, zf] <;> omega
theorem Qiv (l : List CSel) (pe : Bs) : (pr (Vp l pe)).length <= prS l + pe.length + 3 := by
 by_cases e : ∃ y, l = [y] /\ pe = []
 obtain ⟨y, rfl, rfl⟩ := e
 show (pr y).length <= _
 simp only [prS]
 omega
 have h : Vp l pe = .compound l pe := by
  unfold Vp
  split
  exact absurd ⟨_, rfl, rfl⟩ e
  rfl
 have q2 := QmQ l
 rw [h, pr]
 split
 simp only [ze, zf]; omega
 rw [zd]
 split <;> simp only [ze, zf] <;> omega
mutual
theorem Qg6 : ∀ T : ST, VX T -> prS (cs T) <= wtL T.flat * 5
 | .mk x ks, ⟨hf, hz, hs, hk⟩ => by
  have F := Way.fld hf
  have hks := Qez ks hk
  have hl := Qnm F
  rw [QcM, cs]
  have hw : wtN x = 100 + 4 * (x.key.length + x.val.length) := rfl
  unfold Je at hs
  unfold VY
  by_cases h23 : x.kind = 23
  rw [if_pos h23]; omega
  rw [if_neg h23]
  rw [if_neg h23] at hs
  by_cases h18 : x.kind = 18 \/ x.kind = 19 \/ x.kind = 20
  rw [if_pos h18] at hs
  rw [if_neg (by omega), if_neg (by omega), if_pos h18]
  have s2 := QL (l := QU) (n := 8) (by decide) (x.kind - 18).toNat
  have q := Qg7 (css ks)
  rw [prS, prS, pr]
  unfold prG at q
  simp only [zd, ze, zf]
  omega
  rw [if_neg h18] at hs
  by_cases h21 : x.kind = 21
  rw [if_neg (by omega), if_pos h21]
  have hc : (pr (Vp ((css ks).filter fun y => !Yw y) x.val)).length <= prS (css ks) + x.val.length + 3 := by
   have q1 := QiK (fun y => !Yw y) (css ks)
   generalize (css ks).filter (fun y => !Yw y) = l at q1 ⊢
   have := Qiv l x.val
   omega
  rw [prS, prS]
  omega
  rw [if_neg h21] at hs
  by_cases h22 : x.kind = 22
  rw [if_pos h22] at hs
  obtain ⟨a, b, rfl, ha, hb, hb22, _⟩ := hs
  rw [if_pos h22]
  have ha23 : a.node.kind ≠ 23 := by simp [QI, Qo] at ha; omega
  have hb23 : b.node.kind ≠ 23 := by simp [QI, Qo] at hb; omega
  have ec : css [a, b] = [c1 a, c1 b] := by rw [css, css, css, VG ha23, VG hb23]; rfl
  rw [ec] at hks ⊢
  obtain ⟨o1, o2, _⟩ := F.comb h22
  have ho : x.op = 1 \/ x.op = 2 \/ x.op = 3 \/ x.op = 4 := by omega
  have hu : (YL (Qb6 x.op).toNat).length = 1 := Ql1 (by rcases ho with ho | ho | ho | ho <;> rw [ho] <;> decide)
  simp only [prS] at hks
  rw [prS, prS, pr]
  simp only [List.getD_cons_zero, List.getD_cons_succ, zd, ze, zf]
  omega
  rw [if_neg h22, if_neg h21, if_neg h18, prS, prS]
  omega
theorem Qez : ∀ ks : List ST, Zj ks -> prS (css ks) <= wtL (ST.flats ks) * 5
 | [], _ => by simp [css, prS]
 | t :: ks, ⟨h1, h2⟩ => by
  have q1 := Qg6 t h1
  have q2 := Qez ks h2
  rw [css, Qpb, ST.flats, Qab]
  omega
end
theorem QhC (l : List Bs) : Go.Lib.join l [44, 32] = Zn l := by
 cases l with
 | nil => rfl
 | cons x l => rw [Go.Lib.join_cons, Zn]; unfold Go.Lib.joinTail; rw [List.flatMap_def]
theorem Qai (l : List Bs) : Go.Lib.join l [] = l.flatten := by
 cases l with
 | nil => rfl
 | cons x l => rw [Go.Lib.join_cons, xm]; unfold Go.Lib.joinTail; simp
def prR (l : List CSel) (i : Nat) : List Bs := prs (l.take i) ++ zG (l.length - i) []
theorem Qct (l : List CSel) : (prs l).length = l.length := by rw [QfB, List.length_map]
theorem QjS (l : List CSel) (i : Nat) (h : i <= l.length) : (prR l i).length = l.length := by
 unfold prR
 rw [zd, Qct, zk, zZ]
 omega
theorem QqR {l : List CSel} {i : Nat} (h : i < l.length) : (prR l i).set i (pr (l.getD i default)) = prR l (i + 1) := by
 unfold prR
 have e : (prs (l.take i)).length = i := by rw [Qct, zk]; omega
 obtain ⟨k, hk⟩ : ∃ k, l.length - i = k + 1 := ⟨l.length - i - 1, by omega⟩
 rw [List.set_append_right _ _ (by omega), e, Nat.sub_self, hk, List.replicate_succ, List.set_cons_zero, zL, zi h, QfB, QfB, List.map_append, show l.length - (i + 1) = k by omega]
 simp [za, zi h]
theorem Qah {l : List CSel} {i : Nat} (h : l.length <= i) : prR l i = prs l := by
 unfold prR
 rw [zN h, show l.length - i = 0 by omega]
 simp
theorem QkA : ∀ n : Nat, Go.Lib.decDigits n = Vi n := by
 intro n
 induction n using zl with
 | _ n ih =>
  have d : ∀ m : Nat, m < 10 -> Vi m = [zx (48 + m)] := by
   intro m hm
   rw [Vi, if_pos hm]
   exact (Way.dig10 ⟨m, hm⟩).1
  by_cases h : n < 10
  rw [Go.Lib.decDigits, dif_pos h, d n h]
  rw [Go.Lib.decDigits, dif_neg h, Vi, if_neg h, ih (n / 10) (by omega), d (n % 10) (by omega)]
def itoa (n : Int) : Bs := if n < 0 then 45 :: Vi (-n).toNat else Vi n.toNat
theorem Qnt (n : Int) : Go.Lib.itoa n = itoa n := by
 unfold Go.Lib.itoa itoa
 split
 rw [QkA, show n.natAbs = (-n).toNat by omega]
 rw [QkA]
theorem QhD {n : Int} (h : -9223372036854775808 <= n /\ n <= 9223372036854775807) : (itoa n).length <= 30 := by
 unfold itoa
 split
 have := QcG 25 (-n).toNat (by omega) (by decide)
 rw [ze]; omega
 have := QcG 25 n.toNat (by omega) (by decide)
 omega
theorem JK {a b : Int} {l t : Bool} (h : ¬ (a = 0 /\ b = 1)) : pr (.nth a b l t) = 58 :: (Way.YV l t ++ (40 :: ((itoa a ++ (110 :: (if b < 0 then itoa b else 43 :: itoa b))) ++ [41]))) := by
 rw [pr, if_neg h]
 unfold QC itoa QN
 by_cases hb : b < 0
 simp only [if_pos hb]
 simp only [if_neg hb]
end
section
open Go Go.RowKit
set_option maxRecDepth 20000
def c36 (svs : List SV) (b : Option SB) : QR := match svs, b with
 | [.str s], none => some ([s.length <= 80000], .bool (JJ s))
 | _, _ => none
noncomputable def W36 : Wk := ⟨[(62, .pure c62)], Qp Tryz.f36, false, false, [.tmp 2], [4], [], []⟩
theorem has36 : Has 36 := hsf Tryz.f36
theorem ogz1 {c0 p0 q : Prop} (k : q) (h : c0 -> p0 /\ True := by intro g0; (try simp at g0); exact ⟨(by first | omega | (simp; omega) | (simp only [zd, ze, zf]; omega)), trivial⟩) : (c0 -> p0 /\ True) /\ q := ⟨h, k⟩
theorem ogz0 {p q : Prop} (k : q) (h : p := by first | omega | (simp; omega) | (simp only [zd, ze, zf]; omega)) : p /\ q := ⟨h, k⟩
theorem sat36 : Sat 36 (Qv c36) := by
 have hD : Qe W36.D := (Qe.cons QeY Qer Qe.nil)
 refine W36.sa hD Tryz.f36 fun svs b K hP => ?_
 obtain ⟨ps, v, e, hp, hk⟩ := Qk hP
 unfold c36 at e
 split at e
 rename_i s
 cases e
 obtain ⟨h01, _⟩ := hp
 have n1 := Vk s
 have n2 := Vk (120 :: s)
 rw [ze] at n2
 refine W36.en (have a0 := (decide (Qr s = s)) = true -> (1 + s.length <= 2305843009213693952) /\ True; (s.length <= 100000) /\ a0 /\ ((decide (Qr s = s)) = true -> (([120] ++ s).length <= 100000) /\ True) /\ a0 /\ K (.val (.bool ((decide (Qr s = s)) && (decide (Qr ([120] ++ s) = [120] ++ s))))) none) ?_
 refine ogz0 (ogz1 (ogz1 (ogz1 ?_)))
 refine Vb hk ?_
 unfold JJ
 cases decide (Qr s = s) <;> simp
 cases e
theorem QbP {p : UInt8 -> Bool} {s : Bs} {i : Nat} (h : i < s.length) : (s.take (i + 1)).any p = ((s.take i).any p || p (s.getD i 0)) := by
 rw [zL, zi h, List.any_append]
 simp [za, zi h]
theorem Qgt {p : UInt8 -> Bool} {s : Bs} {i : Nat} (h : i < s.length) (hp : p (s.getD i 0) = true) : s.any p = true := by
 rw [List.any_eq_true]
 refine ⟨s[i], List.getElem_mem h, ?_⟩
 rwa [za, zi h] at hp
theorem Qjl {a b : UInt8} (h : a.toNat = b.toNat) : a = b := UInt8.toNat_inj.1 h
def c37 (svs : List SV) (b : Option SB) : QR := match svs, b with
 | [.str s, .str t], none => some ([s.length <= 1000000000 /\ t.length <= 1000000000], .bool (Zi s t))
 | _, _ => none
noncomputable def W37 : Wk := ⟨[], Qp Tryz.f37, false, false, [.tmp 4], [4], [(2, 35), (5, 99)], []⟩
theorem has37 : Has 37 := hsf Tryz.f37
theorem ogz2 {p q : Prop} (k : q) (h : p := by first | omega | (simp; done)) : p /\ q := ⟨h, k⟩
theorem sat37 : Sat 37 (Qv c37) := by
 have hD : Qe W37.D := Qe.nil
 refine W37.sa hD Tryz.f37 fun svs b K hP => ?_
 obtain ⟨ps, v, e, hp, hk⟩ := Qk hP
 unfold c37 at e
 split at e
 rename_i s t
 cases e
 obtain ⟨⟨h01, h02⟩, _⟩ := hp
 have LL : ∀ mm : Nat, (∀ (i : Nat), (s.length - i) * (t.length + 2) + (t.length + 1) = mm -> (i <= s.length /\ Zi (s.take i) t = false) -> W37.L K 2 (mkS 26 [(0, (.str s)), (1, (.str t)), (5, (.nat i))] [] 1)) /\ (∀ (i k : Nat), (s.length - i) * (t.length + 2) + (t.length - k) = mm -> (i < s.length /\ k <= t.length /\ Zi (s.take i) t = false /\ ((t.take k).any fun e => decide (s.getD i 0 = e)) = false) -> W37.L K 5 (mkS 26 [(0, (.str s)), (1, (.str t)), (5, (.nat i)), (6, (.nat k))] [] 1)) := by
  intro mm
  induction mm using zl with
  | _ mm ihh =>
   have i2 : ∀ (i : Nat), (s.length - i) * (t.length + 2) + (t.length + 1) < mm -> (i <= s.length /\ Zi (s.take i) t = false) -> W37.L K 2 (mkS 26 [(0, (.str s)), (1, (.str t)), (5, (.nat i))] [] 1) := fun i h hI => (ihh _ h).1 i rfl hI
   have i5 : ∀ (i k : Nat), (s.length - i) * (t.length + 2) + (t.length - k) < mm -> (i < s.length /\ k <= t.length /\ Zi (s.take i) t = false /\ ((t.take k).any fun e => decide (s.getD i 0 = e)) = false) -> W37.L K 5 (mkS 26 [(0, (.str s)), (1, (.str t)), (5, (.nat i)), (6, (.nat k))] [] 1) := fun i k h hI => (ihh _ h).2 i k rfl hI
   refine ⟨?_, ?_⟩
   intro i hm hI
   obtain ⟨k1, k2⟩ := hI
   refine W37.aL hD (cond (decide (i < s.length)) ((W37).L K 5 (mkS 26 [(0, (.str s)), (1, (.str t)), (5, (.nat i)), (6, (.nat 0))] [] 1)) (K (.val (.bool false)) none)) ?_
   refine Qc ?_ ?_ <;> intro h1 <;> try simp [-za, -zb] at h1
   exact i5 i 0 (by omega) ⟨h1, by omega, k2, by simp⟩
   refine Vb hk ?_
   rw [zN (by omega)] at k2
   exact k2
   intro i k hm hI
   obtain ⟨k1, k2, k3, k4⟩ := hI
   refine W37.aL hD (cond (decide (k < t.length)) ((i < s.length) /\ (k < t.length) /\ cond (decide (bat s i = bat t k)) (K (.val (.bool true)) none) ((k + 1 <= 9223372036854775807) /\ (W37).L K 5 (mkS 26 [(0, (.str s)), (1, (.str t)), (5, (.nat i)), (6, (.nat (k + 1)))] [] 1))) ((i + 1 <= 9223372036854775807) /\ (W37).L K 2 (mkS 26 [(0, (.str s)), (1, (.str t)), (5, (.nat (i + 1)))] [] 1))) ?_
   refine Qc ?_ ?_ <;> intro h1 <;> try simp [-za, -zb] at h1
   refine ogz2 (ogz2 ?_)
   refine Qc ?_ ?_ <;> intro h2 <;> try simp [-za, -zb] at h2
   refine Vb hk ?_
   unfold Zi
   exact Qgt k1 (Qgt h1 (decide_eq_true (Qjl h2)))
   refine ogz2 ?_
   exact i5 i (k + 1) (by omega) ⟨k1, by omega, k3, by rw [QbP h1, k4, xo, decide_eq_false (fun q => h2 (by show (s.getD i 0).toNat = (t.getD k 0).toNat; rw [q]))]⟩
   refine ogz2 ?_
   exact i2 (i + 1) (by have e : (s.length - i) * (t.length + 2) = (s.length - (i + 1)) * (t.length + 2) + (t.length + 2) := by { rw [<- Nat.succ_mul]; congr 1; omega }; omega) ⟨by omega, by unfold Zi at k3 ⊢; rw [QbP k1, k3, xo]; rwa [zN (by omega)] at k4⟩
 have L2 : ∀ (mm : Nat) (i : Nat), (s.length - i) * (t.length + 2) + (t.length + 1) = mm -> (i <= s.length /\ Zi (s.take i) t = false) -> W37.L K 2 (mkS 26 [(0, (.str s)), (1, (.str t)), (5, (.nat i))] [] 1) := fun mm i h hI => (LL mm).1 i h hI
 have L5 : ∀ (mm : Nat) (i k : Nat), (s.length - i) * (t.length + 2) + (t.length - k) = mm -> (i < s.length /\ k <= t.length /\ Zi (s.take i) t = false /\ ((t.take k).any fun e => decide (s.getD i 0 = e)) = false) -> W37.L K 5 (mkS 26 [(0, (.str s)), (1, (.str t)), (5, (.nat i)), (6, (.nat k))] [] 1) := fun mm i k h hI => (LL mm).2 i k h hI
 refine W37.en ((W37).L K 2 (mkS 26 [(0, (.str s)), (1, (.str t)), (5, (.nat 0))] [] 1)) ?_
 exact L2 _ 0 rfl ⟨by omega, by simp [Zi]⟩
 cases e
def c38 (svs : List SV) (b : Option SB) : QR := match svs, b with
 | [.str s], none => some ([s.length <= 1000000000], .bool (Qed s))
 | _, _ => none
noncomputable def W38 : Wk := ⟨[], Qp Tryz.f38, false, false, [.tmp 2], [4], [(2, 9)], []⟩
theorem has38 : Has 38 := hsf Tryz.f38
theorem ogz4 {c0 p0 q : Prop} (k : q) (h : c0 -> p0 /\ True := by intro g0; (try simp at g0); exact ⟨(by first | omega | (simp; done) | exact fun _ => ⟨by omega, trivial⟩), trivial⟩) : (c0 -> p0 /\ True) /\ q := ⟨h, k⟩
theorem ogz3 {p q : Prop} (k : q) (h : p := by first | omega | (simp; done) | exact fun _ => ⟨by omega, trivial⟩) : p /\ q := ⟨h, k⟩
theorem sat38 : Sat 38 (Qv c38) := by
 have hD : Qe W38.D := Qe.nil
 refine W38.sa hD Tryz.f38 fun svs b K hP => ?_
 obtain ⟨ps, v, e, hp, hk⟩ := Qk hP
 unfold c38 at e
 split at e
 rename_i s
 cases e
 obtain ⟨h01, _⟩ := hp
 have L2 : ∀ (mm : Nat) (i : Nat), s.length - i = mm -> (i <= s.length /\ Qed (s.take i) = false) -> W38.L K 2 (mkS 20 [(0, (.str s)), (3, (.nat i))] [] 1) := by
  intro mm
  induction mm using zl with
  | _ mm ih =>
   intro i hm hI
   obtain ⟨k1, k2⟩ := hI
   refine W38.aL hD (cond (decide (i < s.length)) ((i < s.length) /\ ((decide (bat s i < 32)) = false -> (i < s.length) /\ True) /\ cond ((decide (bat s i < 32)) || (decide (bat s i = 127))) (K (.val (.bool true)) none) ((i + 1 <= 9223372036854775807) /\ (W38).L K 2 (mkS 20 [(0, (.str s)), (3, (.nat (i + 1)))] [] 1))) (K (.val (.bool false)) none)) ?_
   refine Qc ?_ ?_ <;> intro h1 <;> try simp [-za, -zb] at h1
   refine ogz3 (ogz4 ?_)
   refine Qc ?_ ?_ <;> intro h2 <;> try simp [-za, -zb] at h2
   refine Vb hk ?_
   unfold Qed
   refine Qgt h1 ?_
   have h2' : (s.getD i 0).toNat < 32 \/ (s.getD i 0).toNat = 127 := by first | exact h2 | (have := h2; simpa using this)
   simpa using h2'
   refine ogz3 ?_
   exact ih _ (by omega) (i + 1) rfl ⟨by omega, by unfold Qed at k2 ⊢; rw [QbP h1, k2, xo]; have h3 : ¬ ((s.getD i 0).toNat < 32) /\ ¬ ((s.getD i 0).toNat = 127) := by { have e : bat s i = (s.getD i 0).toNat := rfl; omega }; simp only [Bool.or_eq_false_iff, decide_eq_false_iff_not]; exact h3⟩
   refine Vb hk ?_
   rw [zN (by omega)] at k2
   exact k2
 refine W38.en ((W38).L K 2 (mkS 20 [(0, (.str s)), (3, (.nat 0))] [] 1)) ?_
 exact L2 _ 0 rfl ⟨by omega, by simp [Qed]⟩
 cases e
theorem QhX {s : Bs} {i : Nat} (h : i < s.length) : Qch (s.drop i) = if bat s i = 45 then Qch (s.drop (i + 1)) else Qw (bat s i) := by
 rw [zP h, Qch]
 have e : bat s i = s[i].toNat := by simp [bat, za, zi h]
 rw [e]
def c39 (svs : List SV) (b : Option SB) : QR := match svs, b with
 | [.str s], none => some ([s.length <= 1000000000], .bool (Qch s))
 | _, _ => none
noncomputable def W39 : Wk := ⟨[], Qp Tryz.f39, false, false, [.tmp 2], [4], [(2, 9)], []⟩
theorem has39 : Has 39 := hsf Tryz.f39
theorem sat39 : Sat 39 (Qv c39) := by
 have hD : Qe W39.D := Qe.nil
 refine W39.sa hD Tryz.f39 fun svs b K hP => ?_
 obtain ⟨ps, v, e, hp, hk⟩ := Qk hP
 unfold c39 at e
 split at e
 rename_i s
 cases e
 obtain ⟨h01, _⟩ := hp
 have L2 : ∀ (mm : Nat) (i : Nat), s.length - i = mm -> (i <= s.length /\ Qch (s.drop i) = Qch s) -> W39.L K 2 (mkS 32 [(0, (.str s)), (3, (.nat i))] [] 1) := by
  intro mm
  induction mm using zl with
  | _ mm ih =>
   intro i hm hI
   obtain ⟨k1, k2⟩ := hI
   refine W39.aL hD (have a0 := decide (i < s.length); (a0 = true -> (i < s.length) /\ True) /\ cond (a0 && (decide (bat s i = 45))) ((i + 1 <= 9223372036854775807) /\ (W39).L K 2 (mkS 32 [(0, (.str s)), (3, (.nat (i + 1)))] [] 1)) ((a0 = true -> (i < s.length) /\ True) /\ ((a0 && (decide (48 <= bat s i))) = true -> (i < s.length) /\ True) /\ K (.val (.bool ((a0 && (decide (48 <= bat s i))) && (decide (bat s i <= 57))))) none)) ?_
   refine ogz4 ?_
   refine Qc ?_ ?_ <;> intro h1 <;> try simp [-za, -zb] at h1
   refine ogz3 ?_
   exact ih _ (by omega) (i + 1) rfl ⟨by omega, by rw [<- k2, QhX h1.1, if_pos h1.2]⟩
   refine ogz4 (ogz4 ?_)
   refine Vb hk ?_
   rw [<- k2]
   by_cases h2 : i < s.length
   rw [QhX h2, if_neg (fun q => h1 h2 q)]
   unfold Qw
   simp [h2]
   rw [xk (by omega)]
   simp [Qch, h2]
 refine W39.en ((W39).L K 2 (mkS 32 [(0, (.str s)), (3, (.nat 0))] [] 1)) ?_
 exact L2 _ 0 rfl ⟨by omega, rfl⟩
 cases e
theorem QaV {l : List SelD} {i : Nat} (h : i < l.length) (hp : Y5 (l.getD i default) = false) : Qlc l = false := by
 unfold Qlc
 rw [List.all_eq_false]
 refine ⟨l[i], List.getElem_mem h, ?_⟩
 rw [za, zi h] at hp
 simpa using hp
theorem JI {l : List SelD} {i : Nat} (h : i < l.length) (k : (l.take i).all Y5 = true) (hp : Y5 (l.getD i default) = true) : (l.take (i + 1)).all Y5 = true := by
 rw [zL, zi h, List.all_append, k]
 rw [za, zi h] at hp
 simpa using hp
def c20 (svs : List SV) (b : Option SB) : QR := match svs, b with
 | [.sl (.sels l)], none => some ([l.length <= 1000000000 /\ ∀ j, j < l.length -> (l.getD j default).key.length <= 80000 /\ (l.getD j default).val.length <= 80000], .bool (Qlc l))
 | _, _ => none
noncomputable def W20 : Wk := ⟨[(36, .pure c36), (37, .pure c37), (38, .pure c38), (39, .pure c39)], Qp Tryz.f20, false, false, [.tmp 2], [4], [(2, 9)], []⟩
theorem has20 : Has 20 := hsf Tryz.f20
theorem ogz7 {c0 c1 p0 q : Prop} (k : q) (h : c0 -> c1 -> p0 /\ True := by intro g0 g1; (try simp at g0); (try simp at g1); exact ⟨(by first | omega | (have := f (by omega); omega) | exact fun _ => ⟨by have := f (by omega); omega, trivial⟩ | (have := f (by omega); simp; omega) | (simp; done)), trivial⟩) : (c0 -> c1 -> p0 /\ True) /\ q := ⟨h, k⟩
theorem Qlj {c0 p0 q : Prop} (k : q) (h : c0 -> p0 /\ True := by intro g0; (try simp at g0); exact ⟨(by first | omega | (have := f (by omega); omega) | exact fun _ => ⟨by have := f (by omega); omega, trivial⟩ | (have := f (by omega); simp; omega) | (simp; done)), trivial⟩) : (c0 -> p0 /\ True) /\ q := ⟨h, k⟩
theorem Qbz {p q : Prop} (k : q) (h : p := by first | omega | (have := f (by omega); omega) | exact fun _ => ⟨by have := f (by omega); omega, trivial⟩ | (have := f (by omega); simp; omega) | (simp; done)) : p /\ q := ⟨h, k⟩
theorem sat20 : Sat 20 (Qv c20) := by
 have hD : Qe W20.D := (Qe.cons has36 sat36 (Qe.cons has37 sat37 (Qe.cons has38 sat38 (Qe.cons has39 sat39 Qe.nil))))
 refine W20.sa hD Tryz.f20 fun svs b K hP => ?_
 obtain ⟨ps, v, e, hp, hk⟩ := Qk hP
 unfold c20 at e
 split at e
 rename_i l
 cases e
 obtain ⟨⟨h01, h02⟩, _⟩ := hp
 have L2 : ∀ (mm : Nat) (i : Nat), l.length - i = mm -> (i <= l.length /\ (l.take i).all Y5 = true) -> W20.L K 2 (mkS 63 [(0, (.sl (.sels l))), (3, (.nat i))] [] 1) := by
  intro mm
  induction mm using zl with
  | _ mm ih =>
   intro i hm hI
   obtain ⟨k1, k2⟩ := hI
   have f : i < l.length -> (l.getD i default).key.length <= 80000 /\ (l.getD i default).val.length <= 80000 := fun h => h02 i h
   refine W20.aL hD (have a1 := l.getD i default; have a0 := mkS 63 [(0, (.sl (.sels l))), (3, (.nat (i + 1)))] [(1, .blk 33 [(.int .i64 (a1.kind)), (.int .i64 (a1.op)), (.str (a1.key)), (.str (a1.val)), (.int .i64 (a1.a)), (.int .i64 (a1.b)), (.int .i64 (a1.flag)), (.int .i64 (a1.size))])] 2; have a2 := (decide (a1.kind = (5 : Int))) && (!(JJ (a1.key))); have a3 := i + 1 <= 9223372036854775807; have a4 := (decide (a1.kind = (5 : Int))) = true -> ((a1.key).length <= 80000) /\ True; have a5 := a2 = false -> ((a1.val).length <= 1000000000 /\ 6 <= 1000000000) /\ True; have a6 := (Qed (a1.val)) = false -> (decide (a1.kind = (3 : Int))) = true -> ((a1.val).length <= 1000000000) /\ True; have a7 : Out := .val (.bool false); have a8 := a2 || (Zi (a1.val) [34, 39, 92, 10, 13, 12]); have a9 := (Qed (a1.val)) || ((decide (a1.kind = (3 : Int))) && (Qch (a1.val))); cond (decide (i < l.length)) ((i < l.length) /\ cond (decide (a1.kind = (2 : Int))) (((a1.key).length <= 80000) /\ cond (!(JJ (a1.key))) (K a7 none) (a3 /\ (W20).L K 2 a0)) (cond (decide (a1.kind = (15 : Int))) (((a1.val).length <= 80000) /\ cond (!(JJ (a1.val))) (K a7 none) (a3 /\ (W20).L K 2 a0)) (cond (decide (a1.kind = (5 : Int))) (a4 /\ a5 /\ cond a8 (K a7 none) (a3 /\ (W20).L K 2 a0)) (cond (decide (a1.kind = (16 : Int))) (a4 /\ a5 /\ cond a8 (K a7 none) (a3 /\ (W20).L K 2 a0)) (cond (decide (a1.kind = (17 : Int))) (a4 /\ a5 /\ cond a8 (K a7 none) (a3 /\ (W20).L K 2 a0)) (cond (decide (a1.kind = (3 : Int))) (((a1.val).length <= 1000000000) /\ a6 /\ cond a9 (K a7 none) (a3 /\ (W20).L K 2 a0)) (cond (decide (a1.kind = (4 : Int))) (((a1.val).length <= 1000000000) /\ a6 /\ cond a9 (K a7 none) (a3 /\ (W20).L K 2 a0)) (a3 /\ (W20).L K 2 a0)))))))) (K (.val (.bool true)) none)) ?_
   refine Qc ?_ ?_ <;> intro h1 <;> try simp [-za, -zb] at h1
   refine Qbz ?_
   refine Qc ?_ ?_ <;> intro h2 <;> try simp [-za, -zb] at h2
   refine Qbz ?_
   refine Qc ?_ ?_ <;> intro h3 <;> try simp [-za, -zb] at h3
   . refine Vb hk ?_
     refine QaV h1 ?_
     unfold Y5
     simp_all [UH, -za]
     all_goals grind
   refine Qbz ?_
   exact Wk.L.rn [0] (ih _ (by omega) (i + 1) rfl ⟨by omega, JI h1 k2 (by unfold Y5; simp_all [UH, -za])⟩)
   refine Qc (fun h3 => ?_) (fun h3 => ?_)
   try simp [-za, -zb] at h3
   refine Qbz ?_
   refine Qc ?_ ?_ <;> intro h4 <;> try simp [-za, -zb] at h4
   . refine Vb hk ?_
     refine QaV h1 ?_
     unfold Y5
     simp_all [UH, -za]
     all_goals grind
   refine Qbz ?_
   exact Wk.L.rn [0] (ih _ (by omega) (i + 1) rfl ⟨by omega, JI h1 k2 (by unfold Y5; simp_all [UH, -za])⟩)
   try simp [-za, -zb] at h3
   refine Qc ?_ ?_ <;> intro h4 <;> try simp [-za, -zb] at h4
   refine Qlj (Qlj ?_)
   refine Qc ?_ ?_ <;> intro h5 <;> try simp [-za, -zb] at h5
   . refine Vb hk ?_
     refine QaV h1 ?_
     unfold Y5
     simp_all [UH, -za]
     all_goals grind
   refine Qbz ?_
   exact Wk.L.rn [0] (ih _ (by omega) (i + 1) rfl ⟨by omega, JI h1 k2 (by unfold Y5; simp_all [UH, -za])⟩)
   refine Qc (fun h5 => ?_) (fun h5 => ?_)
   try simp [-za, -zb] at h5
   refine Qlj (Qlj ?_)
   refine Qc ?_ ?_ <;> intro h6 <;> try simp [-za, -zb] at h6
   . refine Vb hk ?_
     refine QaV h1 ?_
     unfold Y5
     simp_all [UH, -za]
     all_goals grind
   refine Qbz ?_
   exact Wk.L.rn [0] (ih _ (by omega) (i + 1) rfl ⟨by omega, JI h1 k2 (by unfold Y5; simp_all [UH, -za])⟩)
   try simp [-za, -zb] at h5
   refine Qc ?_ ?_ <;> intro h6 <;> try simp [-za, -zb] at h6
   refine Qlj (Qlj ?_)
   refine Qc ?_ ?_ <;> intro h7 <;> try simp [-za, -zb] at h7
   . refine Vb hk ?_
     refine QaV h1 ?_
     unfold Y5
     simp_all [UH, -za]
     all_goals grind
   refine Qbz ?_
   exact Wk.L.rn [0] (ih _ (by omega) (i + 1) rfl ⟨by omega, JI h1 k2 (by unfold Y5; simp_all [UH, -za])⟩)
   refine Qc (fun h7 => ?_) (fun h7 => ?_)
   try simp [-za, -zb] at h7
   refine Qbz (ogz7 ?_)
   refine Qc ?_ ?_ <;> intro h8 <;> try simp [-za, -zb] at h8
   . refine Vb hk ?_
     refine QaV h1 ?_
     unfold Y5
     simp_all [UH, -za]
     all_goals grind
   refine Qbz ?_
   exact Wk.L.rn [0] (ih _ (by omega) (i + 1) rfl ⟨by omega, JI h1 k2 (by unfold Y5; simp_all [UH, -za])⟩)
   try simp [-za, -zb] at h7
   refine Qc ?_ ?_ <;> intro h8 <;> try simp [-za, -zb] at h8
   refine Qbz (ogz7 ?_)
   refine Qc ?_ ?_ <;> intro h9 <;> try simp [-za, -zb] at h9
   . refine Vb hk ?_
     refine QaV h1 ?_
     unfold Y5
     simp_all [UH, -za]
     all_goals grind
   refine Qbz ?_
   exact Wk.L.rn [0] (ih _ (by omega) (i + 1) rfl ⟨by omega, JI h1 k2 (by unfold Y5; simp_all [UH, -za])⟩)
   refine Qbz ?_
   exact Wk.L.rn [0] (ih _ (by omega) (i + 1) rfl ⟨by omega, JI h1 k2 (by unfold Y5; simp_all [UH, -za])⟩)
   refine Vb hk ?_
   rw [zN (by omega)] at k2
   exact k2
 refine W20.en ((W20).L K 2 (mkS 63 [(0, (.sl (.sels l))), (3, (.nat 0))] [] 1)) ?_
 exact L2 _ 0 rfl ⟨by omega, by simp⟩
 cases e
theorem QhS : ∀ a b : Bs, YR (a ++ b) = YR a ++ YR b
 | [], b => rfl
 | c :: a, b => by rw [List.cons_append, YR, YR, QhS a b, zo]
theorem Qn7 {s : Bs} {i : Nat} (h : i < s.length) : YR (s.take (i + 1)) = YR (s.take i) ++ QhU (s.getD i 0) := by
 rw [zL, zi h, QhS]
 simp [YR, za, zi h]
theorem Qp5 : ∀ j : Fin 32, escL.getD j.val 0 ∉ escL.take j.val := by decide
theorem Qjf {j : Nat} (h : j < 32) {c : UInt8} : c ∈ escL.take (j + 1) ↔ c ∈ escL.take j \/ c = escL.getD j 0 := by
 rw [zL, zi (show j < escL.length from h), List.mem_append]
 simp [za, zi (show j < escL.length from h)]
def UG (c : UInt8) (j : Nat) : Bs := if c ∈ escL.take j then [92] else []
theorem Qn8 {c : UInt8} {j : Nat} (h : j < 32) (e : c = escL.getD j 0) : UG c j = [] /\ UG c (j + 1) = [92] := by
 unfold UG
 rw [if_pos ((Qjf h).2 (.inr e)), if_neg (by rw [e]; exact Qp5 ⟨j, h⟩)]
 exact ⟨rfl, rfl⟩
theorem Qn9 {c : UInt8} {j : Nat} (h : j < 32) (e : ¬ c = escL.getD j 0) : UG c (j + 1) = UG c j := by
 unfold UG
 by_cases q : c ∈ escL.take j
 rw [if_pos q, if_pos ((Qjf h).2 (.inl q))]
 rw [if_neg q, if_neg (fun r => ((Qjf h).1 r).elim q e)]
theorem Qoa (c : UInt8) : UG c 32 ++ [c] = QhU c := by
 unfold UG QhU
 have : escL.take 32 = escL := rfl
 rw [this]
 split <;> rfl
def c204 (svs : List SV) (b : Option SB) : QR := match svs, b with
 | [.str s], none => some ([s.length <= 1000000], .str (YR s))
 | _, _ => none
noncomputable def Zl : Wk := ⟨[], Qp Tryz.f204, false, false, [.tmp 2], [9], [(3, 25), (6, 114713)], []⟩
theorem QnO : Has 204 := hsf Tryz.f204
theorem JV {p q : Prop} (k : q) (h : p := by first | omega | (simp; done) | (simp [escL]; done) | (simp only [zd, ze, zf]; omega)) : p /\ q := ⟨h, k⟩
theorem Qmv : Sat 204 (Qv c204) := by
 have hD : Qe Zl.D := Qe.nil
 refine Zl.sa hD Tryz.f204 fun svs b K hP => ?_
 obtain ⟨ps, v, e, hp, hk⟩ := Qk hP
 unfold c204 at e
 split at e
 rename_i s
 cases e
 obtain ⟨h01, _⟩ := hp
 have LL : ∀ mm : Nat, (∀ (i : Nat) (o : List UInt8), (s.length - i) * 34 + 33 = mm -> (i <= s.length /\ o = YR (s.take i)) -> Zl.L K 3 (mkS 37 [(0, (.str s)), (3, (.own 1)), (4, (.nat i))] [(1, .row (.bytes o) true)] 2)) /\ (∀ (i : Nat), (s.length - i) * 34 + 33 = mm -> (i = 0) -> Zl.L K 3 (mkS 37 [(0, (.str s)), (3, .nilsl), (4, (.nat i))] [] 1)) /\ (∀ (i j : Nat) (o : List UInt8), (s.length - i) * 34 + (32 - j) = mm -> (i < s.length /\ j <= 32 /\ o = YR (s.take i) ++ UG (s.getD i 0) j) -> Zl.L K 6 (mkS 37 [(0, (.str s)), (3, (.own 1)), (4, (.nat i)), (14, (.own 2)), (15, (.nat 32)), (16, (.nat j))] [(1, .row (.bytes o) true), (2, .row (.bytes escL) false)] 3)) /\ (∀ (i j : Nat), (s.length - i) * 34 + (32 - j) = mm -> (i = 0 /\ i < s.length /\ j <= 32 /\ UG (s.getD i 0) j = []) -> Zl.L K 6 (mkS 37 [(0, (.str s)), (3, .nilsl), (4, (.nat i)), (14, (.own 1)), (15, (.nat 32)), (16, (.nat j))] [(1, .row (.bytes escL) false)] 2)) := by
  intro mm
  induction mm using zl with
  | _ mm ihh =>
   have i3b : ∀ (i : Nat) (o : List UInt8), (s.length - i) * 34 + 33 < mm -> (i <= s.length /\ o = YR (s.take i)) -> Zl.L K 3 (mkS 37 [(0, (.str s)), (3, (.own 1)), (4, (.nat i))] [(1, .row (.bytes o) true)] 2) := fun i o h hI => (ihh _ h).1 i o rfl hI
   have i3 : ∀ (i : Nat), (s.length - i) * 34 + 33 < mm -> (i = 0) -> Zl.L K 3 (mkS 37 [(0, (.str s)), (3, .nilsl), (4, (.nat i))] [] 1) := fun i h hI => (ihh _ h).2.1 i rfl hI
   have i6b : ∀ (i j : Nat) (o : List UInt8), (s.length - i) * 34 + (32 - j) < mm -> (i < s.length /\ j <= 32 /\ o = YR (s.take i) ++ UG (s.getD i 0) j) -> Zl.L K 6 (mkS 37 [(0, (.str s)), (3, (.own 1)), (4, (.nat i)), (14, (.own 2)), (15, (.nat 32)), (16, (.nat j))] [(1, .row (.bytes o) true), (2, .row (.bytes escL) false)] 3) := fun i j o h hI => (ihh _ h).2.2.1 i j o rfl hI
   have i6 : ∀ (i j : Nat), (s.length - i) * 34 + (32 - j) < mm -> (i = 0 /\ i < s.length /\ j <= 32 /\ UG (s.getD i 0) j = []) -> Zl.L K 6 (mkS 37 [(0, (.str s)), (3, .nilsl), (4, (.nat i)), (14, (.own 1)), (15, (.nat 32)), (16, (.nat j))] [(1, .row (.bytes escL) false)] 2) := fun i j h hI => (ihh _ h).2.2.2 i j rfl hI
   refine ⟨?_, ?_, ?_, ?_⟩
   intro i o hm hI
   obtain ⟨k1, k2⟩ := hI
   have k3 := ZO (s.take i)
   rw [<- k2, zk] at k3
   refine Zl.aL hD (cond (decide (i < s.length)) ((0 < 32) /\ (Zl).L K 6 (mkS 37 [(0, (.str s)), (3, (.own 1)), (4, (.nat i)), (14, (.own 2)), (15, (.nat 32)), (16, (.nat 0))] [(2, .row (.bytes [44, 33, 34, 35, 36, 37, 38, 39, 40, 41, 42, 43, 32, 45, 46, 47, 58, 59, 60, 61, 62, 63, 64, 91, 92, 93, 94, 96, 123, 124, 125, 126]) false), (1, .row (.bytes o) true)] 3)) (K (.val (.str o)) none)) ?_
   refine Qc ?_ ?_ <;> intro h1 <;> try simp [-za, -zb] at h1
   refine JV ?_
   exact Wk.L.rn [0, 1, 2] (i6b i 0 o (by omega) ⟨h1, by omega, by rw [k2]; simp [UG]⟩)
   refine Vf hk ?_
   rw [k2, zN (by omega)]
   intro i hm hI
   refine Zl.aL hD (cond (decide (i < s.length)) ((0 < 32) /\ (Zl).L K 6 (mkS 37 [(0, (.str s)), (3, .nilsl), (4, (.nat i)), (14, (.own 1)), (15, (.nat 32)), (16, (.nat 0))] [(1, .row (.bytes [44, 33, 34, 35, 36, 37, 38, 39, 40, 41, 42, 43, 32, 45, 46, 47, 58, 59, 60, 61, 62, 63, 64, 91, 92, 93, 94, 96, 123, 124, 125, 126]) false)] 2)) (K (.val (.str [])) none)) ?_
   refine Qc ?_ ?_ <;> intro h1 <;> try simp [-za, -zb] at h1
   refine JV ?_
   exact i6 i 0 (by omega) ⟨hI, h1, by omega, by simp [UG]⟩
   refine Vf hk ?_
   rw [show s = [] from zK.1 (by omega)]
   rfl
   intro i j o hm hI
   obtain ⟨k1, k2, k4⟩ := hI
   have k3 := ZO (s.take i)
   have k5 : o.length <= 2 * s.length + 1 := by { rw [k4, zd]; rw [zk] at k3; have : (UG (s.getD i 0) j).length <= 1 := by { unfold UG; split <;> simp }; omega }
   have kL : escL.length = 32 := rfl
   refine Zl.aL hD (cond (decide (j < 32)) ((j < escL.length) /\ (j < escL.length) /\ (i < s.length) /\ cond (decide (bat s i = bat escL j)) ((o.length + 1 <= 1099511627776) /\ (j + 1 <= 9223372036854775807) /\ (Zl).L K 6 (mkS 37 [(0, (.str s)), (3, (.own 4)), (4, (.nat i)), (14, (.own 2)), (15, (.nat 32)), (16, (.nat (j + 1)))] [(4, .row (.bytes (o ++ [92])) true), (2, .row (.bytes escL) false)] 5)) ((j + 1 <= 9223372036854775807) /\ (Zl).L K 6 (mkS 37 [(0, (.str s)), (3, (.own 1)), (4, (.nat i)), (14, (.own 2)), (15, (.nat 32)), (16, (.nat (j + 1)))] [(1, .row (.bytes o) true), (2, .row (.bytes escL) false)] 3))) ((i < s.length) /\ (o.length + 1 <= 1099511627776) /\ (i + 1 <= 9223372036854775807) /\ (Zl).L K 3 (mkS 37 [(0, (.str s)), (3, (.own 4)), (4, (.nat (i + 1)))] [(4, .row (.bytes (o ++ [s.getD i 0])) true), (2, .row (.bytes escL) false)] 5))) ?_
   refine Qc ?_ ?_ <;> intro h1 <;> try simp [-za, -zb] at h1
   refine JV (JV (JV ?_))
   refine Qc ?_ ?_ <;> intro h2 <;> try simp [-za, -zb] at h2
   refine JV (JV ?_)
   have q := Qn8 h1 (Qjl h2)
   exact Wk.L.rn [0, 4, 2] (i6b i (j + 1) (o ++ [92]) (by omega) ⟨k1, by omega, by rw [k4, q.1, q.2, zC]⟩)
   refine JV ?_
   exact i6b i (j + 1) o (by omega) ⟨k1, by omega, by rw [k4, Qn9 h1 (fun q => h2 (by show (s.getD i 0).toNat = (escL.getD j 0).toNat; rw [q]))]⟩
   refine JV (JV (JV ?_))
   have ej : j = 32 := by omega
   exact Wk.L.rn [0, 4] (i3b (i + 1) (o ++ [s.getD i 0]) (by omega) ⟨by omega, by rw [k4, ej, zo, Qoa, Qn7 k1]⟩)
   intro i j hm hI
   obtain ⟨k0, k1, k2, k4⟩ := hI
   have kL : escL.length = 32 := rfl
   refine Zl.aL hD (cond (decide (j < 32)) ((j < escL.length) /\ (j < escL.length) /\ (i < s.length) /\ cond (decide (bat s i = bat escL j)) ((0 + 1 <= 1099511627776) /\ (j + 1 <= 9223372036854775807) /\ (Zl).L K 6 (mkS 37 [(0, (.str s)), (3, (.own 3)), (4, (.nat i)), (14, (.own 1)), (15, (.nat 32)), (16, (.nat (j + 1)))] [(3, .row (.bytes ([] ++ [92])) true), (1, .row (.bytes escL) false)] 4)) ((j + 1 <= 9223372036854775807) /\ (Zl).L K 6 (mkS 37 [(0, (.str s)), (3, .nilsl), (4, (.nat i)), (14, (.own 1)), (15, (.nat 32)), (16, (.nat (j + 1)))] [(1, .row (.bytes escL) false)] 2))) ((i < s.length) /\ (0 + 1 <= 1099511627776) /\ (i + 1 <= 9223372036854775807) /\ (Zl).L K 3 (mkS 37 [(0, (.str s)), (3, (.own 3)), (4, (.nat (i + 1)))] [(3, .row (.bytes ([] ++ [s.getD i 0])) true), (1, .row (.bytes escL) false)] 4))) ?_
   refine Qc ?_ ?_ <;> intro h1 <;> try simp [-za, -zb] at h1
   refine JV (JV (JV ?_))
   refine Qc ?_ ?_ <;> intro h2 <;> try simp [-za, -zb] at h2
   refine JV (JV ?_)
   have q := Qn8 h1 (Qjl h2)
   exact Wk.L.rn [0, 3, 1] (i6b i (j + 1) ([] ++ [92]) (by omega) ⟨k1, by omega, by rw [q.2, k0]; rfl⟩)
   refine JV ?_
   exact i6 i (j + 1) (by omega) ⟨k0, k1, by omega, by rw [Qn9 h1 (fun q => h2 (by show (s.getD i 0).toNat = (escL.getD j 0).toNat; rw [q]))]; exact k4⟩
   refine JV (JV (JV ?_))
   have ej : j = 32 := by omega
   exact Wk.L.rn [0, 3] (i3b (i + 1) ([] ++ [s.getD i 0]) (by omega) ⟨by omega, by have e := Qoa (s.getD i 0); rw [<- ej, k4] at e; rw [Qn7 k1, <- e, k0]; rfl⟩)
 have L3b : ∀ (mm : Nat) (i : Nat) (o : List UInt8), (s.length - i) * 34 + 33 = mm -> (i <= s.length /\ o = YR (s.take i)) -> Zl.L K 3 (mkS 37 [(0, (.str s)), (3, (.own 1)), (4, (.nat i))] [(1, .row (.bytes o) true)] 2) := fun mm i o h hI => (LL mm).1 i o h hI
 have L3 : ∀ (mm : Nat) (i : Nat), (s.length - i) * 34 + 33 = mm -> (i = 0) -> Zl.L K 3 (mkS 37 [(0, (.str s)), (3, .nilsl), (4, (.nat i))] [] 1) := fun mm i h hI => (LL mm).2.1 i h hI
 have L6b : ∀ (mm : Nat) (i j : Nat) (o : List UInt8), (s.length - i) * 34 + (32 - j) = mm -> (i < s.length /\ j <= 32 /\ o = YR (s.take i) ++ UG (s.getD i 0) j) -> Zl.L K 6 (mkS 37 [(0, (.str s)), (3, (.own 1)), (4, (.nat i)), (14, (.own 2)), (15, (.nat 32)), (16, (.nat j))] [(1, .row (.bytes o) true), (2, .row (.bytes escL) false)] 3) := fun mm i j o h hI => (LL mm).2.2.1 i j o h hI
 have L6 : ∀ (mm : Nat) (i j : Nat), (s.length - i) * 34 + (32 - j) = mm -> (i = 0 /\ i < s.length /\ j <= 32 /\ UG (s.getD i 0) j = []) -> Zl.L K 6 (mkS 37 [(0, (.str s)), (3, .nilsl), (4, (.nat i)), (14, (.own 1)), (15, (.nat 32)), (16, (.nat j))] [(1, .row (.bytes escL) false)] 2) := fun mm i j h hI => (LL mm).2.2.2 i j h hI
 refine Zl.en ((Zl).L K 3 (mkS 37 [(0, (.str s)), (3, .nilsl), (4, (.nat 0))] [] 1)) ?_
 exact L3 _ 0 rfl rfl
 cases e
end
section
open Go Go.RowKit Go.Shelf
set_option maxRecDepth 20000
theorem QpE : Go.Proofs.LaysM.n171 zg lays172_ren := { QfW with }
def lays156_ren : Go.Shelf.Ren := ⟨fun | 156 => 63 | 105 => 143 | 212 => 149 | 99 => 113 | 165 => 90 | 166 => 91 | 170 => 150 | 169 => 92 | 263 => 154 | 264 => 155 | 206 => 128 | 240 => 105 | 241 => 106 | 276 => 120 | 277 => 121 | n => n, fun | 31 => 83 | 9 => 9 | 3 => 3 | 4 => 4 | 20 => 20 | 0 => 0 | 46 => 88 | 109 => 179 | 5 => 5 | 72 => 139 | 76 => 141 | 51 => 185 | 146 => 186 | 53 => 182 | 148 => 188 | 70 => 137 | 37 => 37 | 75 => 71 | 127 => 149 | 164 => 161 | 80 => 63 | n => n, fun | n => n⟩
theorem Qka : Go.Proofs.Lays.n156 zg lays156_ren := {
 mixed := by kernel_rfl,
 f165 := Tryz.func90.trans (congrArg some (by kernel_rfl)),
 f166 := Tryz.func91.trans (congrArg some (by kernel_rfl)),
 f169 := Tryz.func92.trans (congrArg some (by kernel_rfl)),
 f240 := Tryz.func105.trans (congrArg some (by kernel_rfl)),
 f241 := Tryz.func106.trans (congrArg some (by kernel_rfl)),
 f276 := Tryz.func120.trans (congrArg some (by kernel_rfl)),
 f277 := Tryz.func121.trans (congrArg some (by kernel_rfl)),
 t0 := Tryz.underlying0,
 a0 := Tryz.isAgg0,
 z0 := Tryz.sizeOf0,
 v0 := Tryz.zeroValue0,
 t3 := Tryz.underlying3,
 a3 := Tryz.isAgg3,
 z3 := Tryz.sizeOf3,
 v3 := Tryz.zeroValue3,
 t4 := Tryz.underlying4,
 a4 := Tryz.isAgg4,
 z4 := Tryz.sizeOf4,
 v4 := Tryz.zeroValue4,
 t9 := Tryz.underlying9,
 a9 := Tryz.isAgg9,
 z9 := Tryz.sizeOf9,
 v9 := Tryz.zeroValue9,
 t20 := Tryz.underlying20,
 a20 := Tryz.isAgg20,
 z20 := Tryz.sizeOf20,
 v20 := Tryz.zeroValue20,
 t37 := Tryz.underlying37,
 a37 := Tryz.isAgg37,
 z37 := Tryz.sizeOf37,
 v37 := Tryz.zeroValue37,
 t70 := Tryz.underlying137,
 a70 := Tryz.isAgg137,
 z70 := Tryz.sizeOf137,
 v70 := Tryz.zeroValue137,
 t72 := Tryz.underlying139,
 a72 := Tryz.isAgg139,
 z72 := Tryz.sizeOf139,
 v72 := Tryz.zeroValue139,
 t75 := Tryz.underlying71,
 a75 := Tryz.isAgg71,
 z75 := Tryz.sizeOf71,
 v75 := Tryz.zeroValue71,
 t76 := Tryz.underlying141,
 a76 := Tryz.isAgg141,
 z76 := Tryz.sizeOf141,
 v76 := Tryz.zeroValue141,
 t127 := Tryz.underlying149,
 a127 := Tryz.isAgg149,
 z127 := Tryz.sizeOf149,
 v127 := Tryz.zeroValue149,
 t164 := Tryz.underlying161,
 a164 := Tryz.isAgg161,
 z164 := Tryz.sizeOf161,
 v164 := Tryz.zeroValue161,
 f156 := Tryz.func63.trans (congrArg some (by kernel_rfl)),
 t31 := Tryz.underlying83,
 a31 := Tryz.isAgg83,
 z31 := Tryz.sizeOf83,
 v31 := Tryz.zeroValue83 }
theorem QhR : Builder.Extra zg lays156_ren := {
 sizeBuilder := by kernel_rfl,
 liesBuilder := by kernel_rfl,
 t5 := Z2.t5,
 a5 := Z2.a5,
 z5 := Z2.z5,
 v5 := Z2.v5,
 infoByte := by kernel_rfl,
 cellsByte := by kernel_rfl,
 sizeByte := by kernel_rfl,
 neB5 := by decide }
theorem Sat.libT {f : FuncId} {P : Spec} (h : ∀ (w : World) (ω : Wit) (svs : List SV) (args : Array Value) (b : Option SB) (K : Out -> Option SB -> Prop),
 (∀ c v T, ω.Γ c = some (v, T) -> ∃ fr, w.heap[c]? = some (.cells v T fr)) -> Lib.TabIs zg w "internal/strconv.uint64pow10" .u64 Lib.pow10Tab ->
 args.size = svs.length -> (∀ (i : Nat) (s : SV) (v : Value), svs[i]? = some s -> args[i]? = some v -> Rel ω s v) -> P svs b K ->
 b = none /\ Calls zg f args w fun e w' => ∃ v s, e = .returned v /\ K (.val s) none /\ s.lt 0 = true /\ Rel ω s v /\ Below w.heap.size w w') : Sat f P := by
 intro g0 w M ω svs args b K hS hn hr hP
 have ht : Lib.TabIs zg w "internal/strconv.uint64pow10" .u64 Lib.pow10Tab := by
  obtain ⟨T, hG⟩ := g0.tab
  obtain ⟨fr, hh⟩ := hS.gam 6 _ _ (hS.gl _ _ hG)
  unfold Lib.TabIs World.var?
  rw [show zg.globalNamed "internal/strconv.uint64pow10" = some 6 by kernel_rfl]
  simp only [zM, hh]
  unfold Lib.pow10Tab
  rw [List.map_map]
  rfl
 obtain ⟨rfl, hc⟩ := h w ω svs args b K (fun c v T e => hS.gam c v T e) ht hn hr hP
 refine hc.mono ?_
 rintro e w' ⟨v, s, he, hk, hl, hv, hb⟩
 refine ⟨v, .val s, none, he, hk, ω, loc none, ?_, (fun c e => by cases e), hl, hv⟩
 have := hS.grow (Wit.le.refl ω) hb.os hb.tape hb.output hb.size hb.block (fun b c T e => .inl e)
 rw [hS.wn] at this
 exact this
def c167 (svs : List SV) (b : Option SB) : QR := match svs, b with
 | [.int .i64 n], none => some ([-9223372036854775808 <= n /\ n <= 9223372036854775807], .str (itoa n))
 | _, _ => none
theorem Qtn : Has 167 := hsf Tryz.f167
theorem QrW : Sat 167 (Qv c167) := by
 refine Sat.libT fun w ω svs args b K hg ht hn hr hP => ?_
 obtain ⟨ps, v, e, hp, hk⟩ := Qk hP
 unfold c167 at e
 split at e
 rename_i n
 cases e
 refine ⟨rfl, ?_⟩
 obtain ⟨xs⟩ := args
 match xs, hn with
 | [x], _ =>
  have hx := (hr 0 _ x rfl rfl).int_inv
  subst hx
  refine (Any.strconv_Itoa QpE n hp.1.1 hp.1.2 w ht).mono ?_
  rintro e w' ⟨he, k, os, rfl⟩
  rw [Qnt] at he
  exact ⟨_, _, he, hk, rfl, .str _, Lib.below_grow _ w (zq _) k os⟩
 cases e
def c63 (svs : List SV) (b : Option SB) : QR := match svs, b with
 | [.sl (.strs xs), .str sep], none => some ([xs.length <= 1000000000 /\ (Lib.join xs sep).length <= 1000000000], .str (Lib.join xs sep))
 | _, _ => none
theorem Qq4 : Has 63 := hsf Tryz.f63
theorem QqB : Sat 63 (Qv c63) := by
 refine Sat.libT fun w ω svs args b K hg ht hn hr hP => ?_
 obtain ⟨ps, v, e, hp, hk⟩ := Qk hP
 unfold c63 at e
 split at e
 rename_i xs sep
 cases e
 refine ⟨rfl, ?_⟩
 obtain ⟨aa⟩ := args
 match aa, hn with
 | [x, y], _ =>
  have hx := hr 0 _ x rfl rfl
  have hy := (hr 1 _ y rfl rfl).str_inv
  subst hy
  obtain ⟨hp1, hp2⟩ := hp.1
  cases hx with
  | slz _ a c h0 =>
   have h0' : xs = [] := zK.1 h0
   subst h0'
   refine (Any.strings_Join_none Qka QhR a c ⟨sep.toArray⟩ w).mono ?_
   rintro e w' ⟨he, rfl⟩
   exact ⟨_, _, he, hk, rfl, .str _, Below.refl _ _⟩
  | sl _ b o c vs T hΓ hn hc h =>
   obtain ⟨fr, hh⟩ := hg _ _ _ hΓ
   have hcell : ∀ (j : Nat) (x : ByteArray), (xs.map fun l => (⟨l.toArray⟩ : ByteArray))[j]? = some x -> w.cell? ⟨b, o + j, Option.none⟩ = some (.string x) := by
    intro j x e
    rw [zD] at e
    obtain ⟨l, e1, rfl⟩ := zm.1 e
    have hj : j < xs.length := (zy.1 e1).1
    have hsz : o + j < vs.size := by
     have : o + xs.length * 1 <= vs.size := hn
     omega
    have q := h j 0 (.str (xs.getD j [])) vs[o + j] hj rfl (by show vs[o + (j * 1 + 0)]? = _; rw [show o + (j * 1 + 0) = o + j by omega, zr hsz])
    have e2 := q.str_inv
    rw [za, e1] at e2
    rw [ZD hh, zr hsz, e2]
    rfl
   have hm : (xs.map fun l => (⟨l.toArray⟩ : ByteArray)).map (·.data.toList) = xs := by
    rw [List.map_map]
    conv => rhs; rw [<- List.map_id xs]
    rfl
   have hb : b < w.heap.size := (zA.1 hh).1
   have hA := Any.strings_Join Qka QhR b o c (xs.map fun l => (⟨l.toArray⟩ : ByteArray)) ⟨sep.toArray⟩ w hcell hb (by rw [List.length_map]; omega) (by rw [List.length_map]; exact hc) (by rw [hm]; show (Lib.join xs sep).length <= _; omega)
   rw [hm, List.length_map] at hA
   refine hA.mono ?_
   rintro e w' ⟨he, hw⟩
   exact ⟨_, _, he, hk, rfl, .str _, hw⟩
 cases e
end
section
open Go Go.RowKit
set_option maxRecDepth 20000
def c199 (svs : List SV) (b : Option SB) : QR := match svs, b with
 | [.agg [.str k]], none => some ([], .str (pr (.tag k)))
 | _, _ => none
noncomputable def W199 : Wk := ⟨[], Qp Tryz.f199, false, false, [.tmp 2], [9], [], []⟩
theorem Qdz : Has 199 := hsf Tryz.f199
theorem QrV : Sat 199 (Qv c199) := by
 have hD : Qe W199.D := Qe.nil
 refine W199.sa hD Tryz.f199 fun svs b K hP => ?_
 obtain ⟨ps, v, e, hp, hk⟩ := Qk hP
 unfold c199 at e
 split at e
 rename_i k
 cases e
 refine W199.en (K (.val (.str k)) none) ?_
 refine Vf hk ?_
 simp [pr]
 cases e
def c203 (svs : List SV) (b : Option SB) : QR := match svs, b with
 | [.agg [.str k]], none => some ([k.length <= 1000000], .str (pr (.cls k)))
 | _, _ => none
noncomputable def W203 : Wk := ⟨[(204, .pure c204)], Qp Tryz.f203, false, false, [.tmp 2], [9], [], []⟩
theorem Qtm : Has 203 := hsf Tryz.f203
theorem Qz {p q : Prop} (k : q) (h : p := by first | omega | (simp; done) | (simp only [zd, ze, zf]; omega)) : p /\ q := ⟨h, k⟩
theorem QrU : Sat 203 (Qv c203) := by
 have hD : Qe W203.D := (Qe.cons QnO Qmv Qe.nil)
 refine W203.sa hD Tryz.f203 fun svs b K hP => ?_
 obtain ⟨ps, v, e, hp, hk⟩ := Qk hP
 unfold c203 at e
 split at e
 rename_i k
 cases e
 obtain ⟨h01, _⟩ := hp
 have e := ZO k
 refine W203.en ((k.length <= 1000000) /\ (1 + (YR k).length <= 2305843009213693952) /\ K (.val (.str ([46] ++ (YR k)))) none) ?_
 refine Qz (Qz ?_)
 refine Vf hk ?_
 simp [pr]
 cases e
def c208 (svs : List SV) (b : Option SB) : QR := match svs, b with
 | [.agg [.str k]], none => some ([k.length <= 1000000], .str (pr (.idn k)))
 | _, _ => none
noncomputable def W208 : Wk := ⟨[(204, .pure c204)], Qp Tryz.f208, false, false, [.tmp 2], [9], [], []⟩
theorem Qtl : Has 208 := hsf Tryz.f208
theorem QrT : Sat 208 (Qv c208) := by
 have hD : Qe W208.D := (Qe.cons QnO Qmv Qe.nil)
 refine W208.sa hD Tryz.f208 fun svs b K hP => ?_
 obtain ⟨ps, v, e, hp, hk⟩ := Qk hP
 unfold c208 at e
 split at e
 rename_i k
 cases e
 obtain ⟨h01, _⟩ := hp
 have e := ZO k
 refine W208.en ((k.length <= 1000000) /\ (1 + (YR k).length <= 2305843009213693952) /\ K (.val (.str ([35] ++ (YR k)))) none) ?_
 refine Qz (Qz ?_)
 refine Vf hk ?_
 simp [pr]
 cases e
def c212 (svs : List SV) (b : Option SB) : QR := match svs, b with
 | [.agg [.str k, .str v, .str o, .bool i]], none => some ([k.length <= 1000000 /\ v.length <= 1000000 /\ o.length <= 1000000], .str (pr (.attr k v o i)))
 | _, _ => none
noncomputable def W212 : Wk := ⟨[], Qp Tryz.f212, false, false, [.tmp 2], [9], [], []⟩
theorem Qtk : Has 212 := hsf Tryz.f212
theorem QrS : Sat 212 (Qv c212) := by
 have hD : Qe W212.D := Qe.nil
 refine W212.sa hD Tryz.f212 fun svs b K hP => ?_
 obtain ⟨ps, v, e, hp, hk⟩ := Qk hP
 unfold c212 at e
 split at e
 rename_i k v o i
 cases e
 obtain ⟨⟨h01, h02, h03⟩, _⟩ := hp
 refine W212.en (have a0 := ([91] ++ k).length + o.length <= 2305843009213693952; have a1 := ([91] ++ k ++ o).length + ([34] ++ v ++ [34]).length <= 2305843009213693952; have a2 := ([91] ++ k ++ o).length + v.length <= 2305843009213693952; cond (!(decide (o = []))) ((1 + v.length <= 2305843009213693952) /\ (([34] ++ v).length + 1 <= 2305843009213693952) /\ cond i ((1 + k.length <= 2305843009213693952) /\ a0 /\ a1 /\ (([91] ++ k ++ o ++ ([34] ++ v ++ [34])).length + 2 <= 2305843009213693952) /\ (([91] ++ k ++ o ++ ([34] ++ v ++ [34]) ++ [32, 105]).length + 1 <= 2305843009213693952) /\ K (.val (.str ([91] ++ k ++ o ++ ([34] ++ v ++ [34]) ++ [32, 105] ++ [93]))) none) ((1 + k.length <= 2305843009213693952) /\ a0 /\ a1 /\ (([91] ++ k ++ o ++ ([34] ++ v ++ [34])).length + 0 <= 2305843009213693952) /\ (([91] ++ k ++ o ++ ([34] ++ v ++ [34]) ++ []).length + 1 <= 2305843009213693952) /\ K (.val (.str ([91] ++ k ++ o ++ ([34] ++ v ++ [34]) ++ [] ++ [93]))) none)) (cond i ((1 + k.length <= 2305843009213693952) /\ a0 /\ a2 /\ (([91] ++ k ++ o ++ v).length + 2 <= 2305843009213693952) /\ (([91] ++ k ++ o ++ v ++ [32, 105]).length + 1 <= 2305843009213693952) /\ K (.val (.str ([91] ++ k ++ o ++ v ++ [32, 105] ++ [93]))) none) ((1 + k.length <= 2305843009213693952) /\ a0 /\ a2 /\ (([91] ++ k ++ o ++ v).length + 0 <= 2305843009213693952) /\ (([91] ++ k ++ o ++ v ++ []).length + 1 <= 2305843009213693952) /\ K (.val (.str ([91] ++ k ++ o ++ v ++ [] ++ [93]))) none))) ?_
 refine Qc ?_ ?_ <;> intro h1 <;> try simp [-za, -zb] at h1
 refine Qz (Qz ?_)
 refine Qc ?_ ?_ <;> intro h2 <;> try simp [-za, -zb] at h2
 refine Qz (Qz (Qz (Qz (Qz ?_))))
 refine Vf hk ?_
 simp [pr, h1, h2]
 refine Qz (Qz (Qz (Qz (Qz ?_))))
 refine Vf hk ?_
 simp [pr, h1, h2]
 refine Qc (fun h2 => ?_) (fun h2 => ?_)
 try simp [-za, -zb] at h2
 refine Qz (Qz (Qz (Qz (Qz ?_))))
 refine Vf hk ?_
 simp [pr, h1, h2]
 try simp [-za, -zb] at h2
 refine Qz (Qz (Qz (Qz (Qz ?_))))
 refine Vf hk ?_
 simp [pr, h1, h2]
 cases e
def c216 (svs : List SV) (b : Option SB) : QR := match svs, b with
 | [.agg [.int .i64 a, .int .i64 b, .bool l, .bool t]], none => some ([(-9223372036854775808 <= a /\ a <= 9223372036854775807) /\ (-9223372036854775808 <= b /\ b <= 9223372036854775807)], .str (pr (.nth a b l t)))
 | _, _ => none
noncomputable def W216 : Wk := ⟨[(167, .pure c167)], Qp Tryz.f216, false, false, [.tmp 2], [9], [], []⟩
theorem Qtj : Has 216 := hsf Tryz.f216
theorem QrR : Sat 216 (Qv c216) := by
 have hD : Qe W216.D := (Qe.cons Qtn QrW Qe.nil)
 refine W216.sa hD Tryz.f216 fun svs b K hP => ?_
 obtain ⟨ps, v, e, hp, hk⟩ := Qk hP
 unfold c216 at e
 split at e
 rename_i a b l t
 cases e
 obtain ⟨⟨h01, h02⟩, _⟩ := hp
 have n1 := QhD h01
 have n2 := QhD h02
 refine W216.en (have a0 := ([58] ++ [110, 116, 104, 45, 108, 97, 115, 116, 45, 111, 102, 45, 116, 121, 112, 101] ++ [40]).length + (itoa a).length <= 2305843009213693952; have a1 := ([58] ++ [110, 116, 104, 45, 108, 97, 115, 116, 45, 111, 102, 45, 116, 121, 112, 101] ++ [40] ++ (itoa a)).length + 1 <= 2305843009213693952; have a2 := ([58] ++ [110, 116, 104, 45, 108, 97, 115, 116, 45, 99, 104, 105, 108, 100] ++ [40]).length + (itoa a).length <= 2305843009213693952; have a3 := ([58] ++ [110, 116, 104, 45, 108, 97, 115, 116, 45, 99, 104, 105, 108, 100] ++ [40] ++ (itoa a)).length + 1 <= 2305843009213693952; have a4 := ([58] ++ [110, 116, 104, 45, 108, 97, 115, 116, 45, 111, 102, 45, 116, 121, 112, 101]).length + 1 <= 2305843009213693952; have a5 := ([58] ++ [110, 116, 104, 45, 111, 102, 45, 116, 121, 112, 101] ++ [40]).length + (itoa a).length <= 2305843009213693952; have a6 := ([58] ++ [110, 116, 104, 45, 111, 102, 45, 116, 121, 112, 101] ++ [40] ++ (itoa a)).length + 1 <= 2305843009213693952; have a7 := ([58] ++ [110, 116, 104, 45, 108, 97, 115, 116, 45, 99, 104, 105, 108, 100]).length + 1 <= 2305843009213693952; have a8 := ([58] ++ [110, 116, 104, 45, 99, 104, 105, 108, 100] ++ [40]).length + (itoa a).length <= 2305843009213693952; have a9 := ([58] ++ [110, 116, 104, 45, 99, 104, 105, 108, 100] ++ [40] ++ (itoa a)).length + 1 <= 2305843009213693952; have a10 := ([58] ++ [110, 116, 104, 45, 111, 102, 45, 116, 121, 112, 101]).length + 1 <= 2305843009213693952; have a11 := ([58] ++ [110, 116, 104, 45, 99, 104, 105, 108, 100]).length + 1 <= 2305843009213693952; have a12 := decide (b < (0 : Int)); have a13 := ([58] ++ [] ++ [40]).length + (itoa a).length <= 2305843009213693952; have a14 := ([58] ++ [] ++ [40] ++ (itoa a)).length + 1 <= 2305843009213693952; have a15 := ([58] ++ []).length + 1 <= 2305843009213693952; cond ((decide (a = (0 : Int))) && (decide (b = (1 : Int)))) (cond l (cond t ((6 + 7 <= 2305843009213693952) /\ K (.val (.str ([58, 108, 97, 115, 116, 45] ++ [111, 102, 45, 116, 121, 112, 101]))) none) ((6 + 5 <= 2305843009213693952) /\ K (.val (.str ([58, 108, 97, 115, 116, 45] ++ [99, 104, 105, 108, 100]))) none)) (cond t ((7 + 7 <= 2305843009213693952) /\ K (.val (.str ([58, 102, 105, 114, 115, 116, 45] ++ [111, 102, 45, 116, 121, 112, 101]))) none) ((7 + 5 <= 2305843009213693952) /\ K (.val (.str ([58, 102, 105, 114, 115, 116, 45] ++ [99, 104, 105, 108, 100]))) none))) (cond ((decide (l = true)) && (decide (t = true))) ((-9223372036854775808 <= b /\ b <= 9223372036854775807) /\ (1 + (itoa b).length <= 2305843009213693952) /\ cond a12 ((-9223372036854775808 <= b /\ b <= 9223372036854775807) /\ (1 + 16 <= 2305843009213693952) /\ a4 /\ (-9223372036854775808 <= a /\ a <= 9223372036854775807) /\ a0 /\ a1 /\ (([58] ++ [110, 116, 104, 45, 108, 97, 115, 116, 45, 111, 102, 45, 116, 121, 112, 101] ++ [40] ++ (itoa a) ++ [110]).length + (itoa b).length <= 2305843009213693952) /\ (([58] ++ [110, 116, 104, 45, 108, 97, 115, 116, 45, 111, 102, 45, 116, 121, 112, 101] ++ [40] ++ (itoa a) ++ [110] ++ (itoa b)).length + 1 <= 2305843009213693952) /\ K (.val (.str ([58] ++ [110, 116, 104, 45, 108, 97, 115, 116, 45, 111, 102, 45, 116, 121, 112, 101] ++ [40] ++ (itoa a) ++ [110] ++ (itoa b) ++ [41]))) none) ((1 + 16 <= 2305843009213693952) /\ a4 /\ (-9223372036854775808 <= a /\ a <= 9223372036854775807) /\ a0 /\ a1 /\ (([58] ++ [110, 116, 104, 45, 108, 97, 115, 116, 45, 111, 102, 45, 116, 121, 112, 101] ++ [40] ++ (itoa a) ++ [110]).length + ([43] ++ (itoa b)).length <= 2305843009213693952) /\ (([58] ++ [110, 116, 104, 45, 108, 97, 115, 116, 45, 111, 102, 45, 116, 121, 112, 101] ++ [40] ++ (itoa a) ++ [110] ++ ([43] ++ (itoa b))).length + 1 <= 2305843009213693952) /\ K (.val (.str ([58] ++ [110, 116, 104, 45, 108, 97, 115, 116, 45, 111, 102, 45, 116, 121, 112, 101] ++ [40] ++ (itoa a) ++ [110] ++ ([43] ++ (itoa b)) ++ [41]))) none)) (cond ((decide (l = true)) && (decide (t = false))) ((-9223372036854775808 <= b /\ b <= 9223372036854775807) /\ (1 + (itoa b).length <= 2305843009213693952) /\ cond a12 ((-9223372036854775808 <= b /\ b <= 9223372036854775807) /\ (1 + 14 <= 2305843009213693952) /\ a7 /\ (-9223372036854775808 <= a /\ a <= 9223372036854775807) /\ a2 /\ a3 /\ (([58] ++ [110, 116, 104, 45, 108, 97, 115, 116, 45, 99, 104, 105, 108, 100] ++ [40] ++ (itoa a) ++ [110]).length + (itoa b).length <= 2305843009213693952) /\ (([58] ++ [110, 116, 104, 45, 108, 97, 115, 116, 45, 99, 104, 105, 108, 100] ++ [40] ++ (itoa a) ++ [110] ++ (itoa b)).length + 1 <= 2305843009213693952) /\ K (.val (.str ([58] ++ [110, 116, 104, 45, 108, 97, 115, 116, 45, 99, 104, 105, 108, 100] ++ [40] ++ (itoa a) ++ [110] ++ (itoa b) ++ [41]))) none) ((1 + 14 <= 2305843009213693952) /\ a7 /\ (-9223372036854775808 <= a /\ a <= 9223372036854775807) /\ a2 /\ a3 /\ (([58] ++ [110, 116, 104, 45, 108, 97, 115, 116, 45, 99, 104, 105, 108, 100] ++ [40] ++ (itoa a) ++ [110]).length + ([43] ++ (itoa b)).length <= 2305843009213693952) /\ (([58] ++ [110, 116, 104, 45, 108, 97, 115, 116, 45, 99, 104, 105, 108, 100] ++ [40] ++ (itoa a) ++ [110] ++ ([43] ++ (itoa b))).length + 1 <= 2305843009213693952) /\ K (.val (.str ([58] ++ [110, 116, 104, 45, 108, 97, 115, 116, 45, 99, 104, 105, 108, 100] ++ [40] ++ (itoa a) ++ [110] ++ ([43] ++ (itoa b)) ++ [41]))) none)) (cond ((decide (l = false)) && (decide (t = true))) ((-9223372036854775808 <= b /\ b <= 9223372036854775807) /\ (1 + (itoa b).length <= 2305843009213693952) /\ cond a12 ((-9223372036854775808 <= b /\ b <= 9223372036854775807) /\ (1 + 11 <= 2305843009213693952) /\ a10 /\ (-9223372036854775808 <= a /\ a <= 9223372036854775807) /\ a5 /\ a6 /\ (([58] ++ [110, 116, 104, 45, 111, 102, 45, 116, 121, 112, 101] ++ [40] ++ (itoa a) ++ [110]).length + (itoa b).length <= 2305843009213693952) /\ (([58] ++ [110, 116, 104, 45, 111, 102, 45, 116, 121, 112, 101] ++ [40] ++ (itoa a) ++ [110] ++ (itoa b)).length + 1 <= 2305843009213693952) /\ K (.val (.str ([58] ++ [110, 116, 104, 45, 111, 102, 45, 116, 121, 112, 101] ++ [40] ++ (itoa a) ++ [110] ++ (itoa b) ++ [41]))) none) ((1 + 11 <= 2305843009213693952) /\ a10 /\ (-9223372036854775808 <= a /\ a <= 9223372036854775807) /\ a5 /\ a6 /\ (([58] ++ [110, 116, 104, 45, 111, 102, 45, 116, 121, 112, 101] ++ [40] ++ (itoa a) ++ [110]).length + ([43] ++ (itoa b)).length <= 2305843009213693952) /\ (([58] ++ [110, 116, 104, 45, 111, 102, 45, 116, 121, 112, 101] ++ [40] ++ (itoa a) ++ [110] ++ ([43] ++ (itoa b))).length + 1 <= 2305843009213693952) /\ K (.val (.str ([58] ++ [110, 116, 104, 45, 111, 102, 45, 116, 121, 112, 101] ++ [40] ++ (itoa a) ++ [110] ++ ([43] ++ (itoa b)) ++ [41]))) none)) (cond ((decide (l = false)) && (decide (t = false))) ((-9223372036854775808 <= b /\ b <= 9223372036854775807) /\ (1 + (itoa b).length <= 2305843009213693952) /\ cond a12 ((-9223372036854775808 <= b /\ b <= 9223372036854775807) /\ (1 + 9 <= 2305843009213693952) /\ a11 /\ (-9223372036854775808 <= a /\ a <= 9223372036854775807) /\ a8 /\ a9 /\ (([58] ++ [110, 116, 104, 45, 99, 104, 105, 108, 100] ++ [40] ++ (itoa a) ++ [110]).length + (itoa b).length <= 2305843009213693952) /\ (([58] ++ [110, 116, 104, 45, 99, 104, 105, 108, 100] ++ [40] ++ (itoa a) ++ [110] ++ (itoa b)).length + 1 <= 2305843009213693952) /\ K (.val (.str ([58] ++ [110, 116, 104, 45, 99, 104, 105, 108, 100] ++ [40] ++ (itoa a) ++ [110] ++ (itoa b) ++ [41]))) none) ((1 + 9 <= 2305843009213693952) /\ a11 /\ (-9223372036854775808 <= a /\ a <= 9223372036854775807) /\ a8 /\ a9 /\ (([58] ++ [110, 116, 104, 45, 99, 104, 105, 108, 100] ++ [40] ++ (itoa a) ++ [110]).length + ([43] ++ (itoa b)).length <= 2305843009213693952) /\ (([58] ++ [110, 116, 104, 45, 99, 104, 105, 108, 100] ++ [40] ++ (itoa a) ++ [110] ++ ([43] ++ (itoa b))).length + 1 <= 2305843009213693952) /\ K (.val (.str ([58] ++ [110, 116, 104, 45, 99, 104, 105, 108, 100] ++ [40] ++ (itoa a) ++ [110] ++ ([43] ++ (itoa b)) ++ [41]))) none)) ((-9223372036854775808 <= b /\ b <= 9223372036854775807) /\ (1 + (itoa b).length <= 2305843009213693952) /\ cond a12 ((-9223372036854775808 <= b /\ b <= 9223372036854775807) /\ (1 + 0 <= 2305843009213693952) /\ a15 /\ (-9223372036854775808 <= a /\ a <= 9223372036854775807) /\ a13 /\ a14 /\ (([58] ++ [] ++ [40] ++ (itoa a) ++ [110]).length + (itoa b).length <= 2305843009213693952) /\ (([58] ++ [] ++ [40] ++ (itoa a) ++ [110] ++ (itoa b)).length + 1 <= 2305843009213693952) /\ K (.val (.str ([58] ++ [] ++ [40] ++ (itoa a) ++ [110] ++ (itoa b) ++ [41]))) none) ((1 + 0 <= 2305843009213693952) /\ a15 /\ (-9223372036854775808 <= a /\ a <= 9223372036854775807) /\ a13 /\ a14 /\ (([58] ++ [] ++ [40] ++ (itoa a) ++ [110]).length + ([43] ++ (itoa b)).length <= 2305843009213693952) /\ (([58] ++ [] ++ [40] ++ (itoa a) ++ [110] ++ ([43] ++ (itoa b))).length + 1 <= 2305843009213693952) /\ K (.val (.str ([58] ++ [] ++ [40] ++ (itoa a) ++ [110] ++ ([43] ++ (itoa b)) ++ [41]))) none))))))) ?_
 refine Qc ?_ ?_ <;> intro h1 <;> try simp [-za, -zb] at h1
 refine Qc (fun h2 => ?_) (fun h2 => ?_)
 try simp [-za, -zb] at h2
 refine Qc ?_ ?_ <;> intro h3 <;> try simp [-za, -zb] at h3
 refine Qz ?_
 refine Vf hk ?_
 rw [pr, if_pos h1]
 simp [Qbw, h2, h3]
 refine Qz ?_
 refine Vf hk ?_
 rw [pr, if_pos h1]
 simp [Qbw, h2, h3]
 try simp [-za, -zb] at h2
 refine Qc ?_ ?_ <;> intro h3 <;> try simp [-za, -zb] at h3
 refine Qz ?_
 refine Vf hk ?_
 rw [pr, if_pos h1]
 simp [Qbw, h2, h3]
 refine Qz ?_
 refine Vf hk ?_
 rw [pr, if_pos h1]
 simp [Qbw, h2, h3]
 refine Qc (fun h2 => ?_) (fun h2 => ?_)
 try simp [-za, -zb] at h2
 refine Qz (Qz ?_)
 refine Qc ?_ ?_ <;> intro h3 <;> try simp [-za, -zb] at h3
 refine Qz (Qz (Qz (Qz (Qz (Qz (Qz (Qz ?_)))))))
 have hn : ¬ (a = 0 /\ b = 1) := fun q => h1 q.1 q.2
 refine Vf hk ?_
 rw [JK hn]
 first
  | rw [if_pos (by omega)]
  | rw [if_neg (by omega)]
 cases l <;> cases t <;> first | (simp [Way.YV, VH, QP, VL, QW]; done) | (simp at h2; done) | (simp at h3; done) | (simp at h4; done) | (simp at h5; done) | (simp at h6; done) | (simp at h2 h3; done) | (simp at h2 h3 h4; done) | (simp at h2 h3 h4 h5; done)
 refine Qz (Qz (Qz (Qz (Qz (Qz (Qz ?_))))))
 have hn : ¬ (a = 0 /\ b = 1) := fun q => h1 q.1 q.2
 refine Vf hk ?_
 rw [JK hn]
 first
  | rw [if_pos (by omega)]
  | rw [if_neg (by omega)]
 cases l <;> cases t <;> first | (simp [Way.YV, VH, QP, VL, QW]; done) | (simp at h2; done) | (simp at h3; done) | (simp at h4; done) | (simp at h5; done) | (simp at h6; done) | (simp at h2 h3; done) | (simp at h2 h3 h4; done) | (simp at h2 h3 h4 h5; done)
 try simp [-za, -zb] at h2
 refine Qc ?_ ?_ <;> intro h3 <;> try simp [-za, -zb] at h3
 refine Qz (Qz ?_)
 refine Qc ?_ ?_ <;> intro h4 <;> try simp [-za, -zb] at h4
 refine Qz (Qz (Qz (Qz (Qz (Qz (Qz (Qz ?_)))))))
 have hn : ¬ (a = 0 /\ b = 1) := fun q => h1 q.1 q.2
 refine Vf hk ?_
 rw [JK hn]
 first
  | rw [if_pos (by omega)]
  | rw [if_neg (by omega)]
 cases l <;> cases t <;> first | (simp [Way.YV, VH, QP, VL, QW]; done) | (simp at h2; done) | (simp at h3; done) | (simp at h4; done) | (simp at h5; done) | (simp at h6; done) | (simp at h2 h3; done) | (simp at h2 h3 h4; done) | (simp at h2 h3 h4 h5; done)
 refine Qz (Qz (Qz (Qz (Qz (Qz (Qz ?_))))))
 have hn : ¬ (a = 0 /\ b = 1) := fun q => h1 q.1 q.2
 refine Vf hk ?_
 rw [JK hn]
 first
  | rw [if_pos (by omega)]
  | rw [if_neg (by omega)]
 cases l <;> cases t <;> first | (simp [Way.YV, VH, QP, VL, QW]; done) | (simp at h2; done) | (simp at h3; done) | (simp at h4; done) | (simp at h5; done) | (simp at h6; done) | (simp at h2 h3; done) | (simp at h2 h3 h4; done) | (simp at h2 h3 h4 h5; done)
 refine Qc (fun h4 => ?_) (fun h4 => ?_)
 try simp [-za, -zb] at h4
 refine Qz (Qz ?_)
 refine Qc ?_ ?_ <;> intro h5 <;> try simp [-za, -zb] at h5
 refine Qz (Qz (Qz (Qz (Qz (Qz (Qz (Qz ?_)))))))
 have hn : ¬ (a = 0 /\ b = 1) := fun q => h1 q.1 q.2
 refine Vf hk ?_
 rw [JK hn]
 first
  | rw [if_pos (by omega)]
  | rw [if_neg (by omega)]
 cases l <;> cases t <;> first | (simp [Way.YV, VH, QP, VL, QW]; done) | (simp at h2; done) | (simp at h3; done) | (simp at h4; done) | (simp at h5; done) | (simp at h6; done) | (simp at h2 h3; done) | (simp at h2 h3 h4; done) | (simp at h2 h3 h4 h5; done)
 refine Qz (Qz (Qz (Qz (Qz (Qz (Qz ?_))))))
 have hn : ¬ (a = 0 /\ b = 1) := fun q => h1 q.1 q.2
 refine Vf hk ?_
 rw [JK hn]
 first
  | rw [if_pos (by omega)]
  | rw [if_neg (by omega)]
 cases l <;> cases t <;> first | (simp [Way.YV, VH, QP, VL, QW]; done) | (simp at h2; done) | (simp at h3; done) | (simp at h4; done) | (simp at h5; done) | (simp at h6; done) | (simp at h2 h3; done) | (simp at h2 h3 h4; done) | (simp at h2 h3 h4 h5; done)
 try simp [-za, -zb] at h4
 refine Qc ?_ ?_ <;> intro h5 <;> try simp [-za, -zb] at h5
 refine Qz (Qz ?_)
 refine Qc ?_ ?_ <;> intro h6 <;> try simp [-za, -zb] at h6
 refine Qz (Qz (Qz (Qz (Qz (Qz (Qz (Qz ?_)))))))
 have hn : ¬ (a = 0 /\ b = 1) := fun q => h1 q.1 q.2
 refine Vf hk ?_
 rw [JK hn]
 first
  | rw [if_pos (by omega)]
  | rw [if_neg (by omega)]
 cases l <;> cases t <;> first | (simp [Way.YV, VH, QP, VL, QW]; done) | (simp at h2; done) | (simp at h3; done) | (simp at h4; done) | (simp at h5; done) | (simp at h6; done) | (simp at h2 h3; done) | (simp at h2 h3 h4; done) | (simp at h2 h3 h4 h5; done)
 refine Qz (Qz (Qz (Qz (Qz (Qz (Qz ?_))))))
 have hn : ¬ (a = 0 /\ b = 1) := fun q => h1 q.1 q.2
 refine Vf hk ?_
 rw [JK hn]
 first
  | rw [if_pos (by omega)]
  | rw [if_neg (by omega)]
 cases l <;> cases t <;> first | (simp [Way.YV, VH, QP, VL, QW]; done) | (simp at h2; done) | (simp at h3; done) | (simp at h4; done) | (simp at h5; done) | (simp at h6; done) | (simp at h2 h3; done) | (simp at h2 h3 h4; done) | (simp at h2 h3 h4 h5; done)
 refine Qz (Qz ?_)
 refine Qc ?_ ?_ <;> intro h6 <;> try simp [-za, -zb] at h6
 refine Qz (Qz (Qz (Qz (Qz (Qz (Qz (Qz ?_)))))))
 have hn : ¬ (a = 0 /\ b = 1) := fun q => h1 q.1 q.2
 refine Vf hk ?_
 rw [JK hn]
 first
  | rw [if_pos (by omega)]
  | rw [if_neg (by omega)]
 cases l <;> cases t <;> first | (simp [Way.YV, VH, QP, VL, QW]; done) | (simp at h2; done) | (simp at h3; done) | (simp at h4; done) | (simp at h5; done) | (simp at h6; done) | (simp at h2 h3; done) | (simp at h2 h3 h4; done) | (simp at h2 h3 h4 h5; done)
 refine Qz (Qz (Qz (Qz (Qz (Qz (Qz ?_))))))
 have hn : ¬ (a = 0 /\ b = 1) := fun q => h1 q.1 q.2
 refine Vf hk ?_
 rw [JK hn]
 first
  | rw [if_pos (by omega)]
  | rw [if_neg (by omega)]
 cases l <;> cases t <;> first | (simp [Way.YV, VH, QP, VL, QW]; done) | (simp at h2; done) | (simp at h3; done) | (simp at h4; done) | (simp at h5; done) | (simp at h6; done) | (simp at h2 h3; done) | (simp at h2 h3 h4; done) | (simp at h2 h3 h4 h5; done)
 cases e
def c218 (svs : List SV) (b : Option SB) : QR := match svs, b with
 | [.agg [.bool t]], none => some ([], .str (pr (.only t)))
 | _, _ => none
noncomputable def W218 : Wk := ⟨[], Qp Tryz.f218, false, false, [.tmp 2], [9], [], []⟩
theorem Qti : Has 218 := hsf Tryz.f218
theorem QrQ : Sat 218 (Qv c218) := by
 have hD : Qe W218.D := Qe.nil
 refine W218.sa hD Tryz.f218 fun svs b K hP => ?_
 obtain ⟨ps, v, e, hp, hk⟩ := Qk hP
 unfold c218 at e
 split at e
 rename_i t
 cases e
 refine W218.en (cond t (K (.val (.str [58, 111, 110, 108, 121, 45, 111, 102, 45, 116, 121, 112, 101])) none) (K (.val (.str [58, 111, 110, 108, 121, 45, 99, 104, 105, 108, 100])) none)) ?_
 refine Qc ?_ ?_ <;> intro h1 <;> try simp [-za, -zb] at h1
 refine Vf hk ?_
 simp [pr, h1]
 refine Vf hk ?_
 simp [pr, h1]
 cases e
def c220 (svs : List SV) (b : Option SB) : QR := match svs, b with
 | [.agg []], none => some ([], .str (pr (CSel.empty)))
 | _, _ => none
noncomputable def W220 : Wk := ⟨[], Qp Tryz.f220, false, false, [.tmp 2], [9], [], []⟩
theorem Qth : Has 220 := hsf Tryz.f220
theorem QrP : Sat 220 (Qv c220) := by
 have hD : Qe W220.D := Qe.nil
 refine W220.sa hD Tryz.f220 fun svs b K hP => ?_
 obtain ⟨ps, v, e, hp, hk⟩ := Qk hP
 unfold c220 at e
 split at e
 cases e
 refine W220.en (K (.val (.str [58, 101, 109, 112, 116, 121])) none) ?_
 exact hk
 cases e
def c222 (svs : List SV) (b : Option SB) : QR := match svs, b with
 | [.agg []], none => some ([], .str (pr (CSel.root)))
 | _, _ => none
noncomputable def W222 : Wk := ⟨[], Qp Tryz.f222, false, false, [.tmp 2], [9], [], []⟩
theorem Qtg : Has 222 := hsf Tryz.f222
theorem QrO : Sat 222 (Qv c222) := by
 have hD : Qe W222.D := Qe.nil
 refine W222.sa hD Tryz.f222 fun svs b K hP => ?_
 obtain ⟨ps, v, e, hp, hk⟩ := Qk hP
 unfold c222 at e
 split at e
 cases e
 refine W222.en (K (.val (.str [58, 114, 111, 111, 116])) none) ?_
 exact hk
 cases e
def c224 (svs : List SV) (b : Option SB) : QR := match svs, b with
 | [.agg []], none => some ([], .str (pr (CSel.input)))
 | _, _ => none
noncomputable def W224 : Wk := ⟨[], Qp Tryz.f224, false, false, [.tmp 2], [9], [], []⟩
theorem Qtf : Has 224 := hsf Tryz.f224
theorem QrN : Sat 224 (Qv c224) := by
 have hD : Qe W224.D := Qe.nil
 refine W224.sa hD Tryz.f224 fun svs b K hP => ?_
 obtain ⟨ps, v, e, hp, hk⟩ := Qk hP
 unfold c224 at e
 split at e
 cases e
 refine W224.en (K (.val (.str [58, 105, 110, 112, 117, 116])) none) ?_
 exact hk
 cases e
def c226 (svs : List SV) (b : Option SB) : QR := match svs, b with
 | [.agg []], none => some ([], .str (pr (CSel.link)))
 | _, _ => none
noncomputable def W226 : Wk := ⟨[], Qp Tryz.f226, false, false, [.tmp 2], [9], [], []⟩
theorem Qte : Has 226 := hsf Tryz.f226
theorem QrM : Sat 226 (Qv c226) := by
 have hD : Qe W226.D := Qe.nil
 refine W226.sa hD Tryz.f226 fun svs b K hP => ?_
 obtain ⟨ps, v, e, hp, hk⟩ := Qk hP
 unfold c226 at e
 split at e
 cases e
 refine W226.en (K (.val (.str [58, 108, 105, 110, 107])) none) ?_
 exact hk
 cases e
def c228 (svs : List SV) (b : Option SB) : QR := match svs, b with
 | [.agg []], none => some ([], .str (pr (CSel.enabled)))
 | _, _ => none
noncomputable def W228 : Wk := ⟨[], Qp Tryz.f228, false, false, [.tmp 2], [9], [], []⟩
theorem Qtd : Has 228 := hsf Tryz.f228
theorem QrL : Sat 228 (Qv c228) := by
 have hD : Qe W228.D := Qe.nil
 refine W228.sa hD Tryz.f228 fun svs b K hP => ?_
 obtain ⟨ps, v, e, hp, hk⟩ := Qk hP
 unfold c228 at e
 split at e
 cases e
 refine W228.en (K (.val (.str [58, 101, 110, 97, 98, 108, 101, 100])) none) ?_
 exact hk
 cases e
def c230 (svs : List SV) (b : Option SB) : QR := match svs, b with
 | [.agg []], none => some ([], .str (pr (CSel.disabled)))
 | _, _ => none
noncomputable def W230 : Wk := ⟨[], Qp Tryz.f230, false, false, [.tmp 2], [9], [], []⟩
theorem Qtc : Has 230 := hsf Tryz.f230
theorem QrK : Sat 230 (Qv c230) := by
 have hD : Qe W230.D := Qe.nil
 refine W230.sa hD Tryz.f230 fun svs b K hP => ?_
 obtain ⟨ps, v, e, hp, hk⟩ := Qk hP
 unfold c230 at e
 split at e
 cases e
 refine W230.en (K (.val (.str [58, 100, 105, 115, 97, 98, 108, 101, 100])) none) ?_
 exact hk
 cases e
def c232 (svs : List SV) (b : Option SB) : QR := match svs, b with
 | [.agg []], none => some ([], .str (pr (CSel.checked)))
 | _, _ => none
noncomputable def W232 : Wk := ⟨[], Qp Tryz.f232, false, false, [.tmp 2], [9], [], []⟩
theorem Qtb : Has 232 := hsf Tryz.f232
theorem QrJ : Sat 232 (Qv c232) := by
 have hD : Qe W232.D := Qe.nil
 refine W232.sa hD Tryz.f232 fun svs b K hP => ?_
 obtain ⟨ps, v, e, hp, hk⟩ := Qk hP
 unfold c232 at e
 split at e
 cases e
 refine W232.en (K (.val (.str [58, 99, 104, 101, 99, 107, 101, 100])) none) ?_
 exact hk
 cases e
def c234 (svs : List SV) (b : Option SB) : QR := match svs, b with
 | [.agg [.str v]], none => some ([v.length <= 1000000], .str (pr (.lang v)))
 | _, _ => none
noncomputable def W234 : Wk := ⟨[], Qp Tryz.f234, false, false, [.tmp 2], [9], [], []⟩
theorem Qta : Has 234 := hsf Tryz.f234
theorem QrI : Sat 234 (Qv c234) := by
 have hD : Qe W234.D := Qe.nil
 refine W234.sa hD Tryz.f234 fun svs b K hP => ?_
 obtain ⟨ps, v, e, hp, hk⟩ := Qk hP
 unfold c234 at e
 split at e
 rename_i v
 cases e
 obtain ⟨h01, _⟩ := hp
 refine W234.en ((6 + v.length <= 2305843009213693952) /\ (([58, 108, 97, 110, 103, 40] ++ v).length + 1 <= 2305843009213693952) /\ K (.val (.str ([58, 108, 97, 110, 103, 40] ++ v ++ [41]))) none) ?_
 refine Qz (Qz ?_)
 refine Vf hk ?_
 simp [pr, YF]
 cases e
def c236 (svs : List SV) (b : Option SB) : QR := match svs, b with
 | [.agg [.str v, .bool o]], none => some ([v.length <= 1000000], .str (pr (.contains v o)))
 | _, _ => none
noncomputable def W236 : Wk := ⟨[], Qp Tryz.f236, false, false, [.tmp 2], [9], [], []⟩
theorem Qs9 : Has 236 := hsf Tryz.f236
theorem QrH : Sat 236 (Qv c236) := by
 have hD : Qe W236.D := Qe.nil
 refine W236.sa hD Tryz.f236 fun svs b K hP => ?_
 obtain ⟨ps, v, e, hp, hk⟩ := Qk hP
 unfold c236 at e
 split at e
 rename_i v o
 cases e
 obtain ⟨h01, _⟩ := hp
 refine W236.en (cond o ((8 + 3 <= 2305843009213693952) /\ (1 + ([99, 111, 110, 116, 97, 105, 110, 115] ++ [79, 119, 110]).length <= 2305843009213693952) /\ (([58] ++ ([99, 111, 110, 116, 97, 105, 110, 115] ++ [79, 119, 110])).length + 2 <= 2305843009213693952) /\ (([58] ++ ([99, 111, 110, 116, 97, 105, 110, 115] ++ [79, 119, 110]) ++ [40, 34]).length + v.length <= 2305843009213693952) /\ (([58] ++ ([99, 111, 110, 116, 97, 105, 110, 115] ++ [79, 119, 110]) ++ [40, 34] ++ v).length + 2 <= 2305843009213693952) /\ K (.val (.str ([58] ++ ([99, 111, 110, 116, 97, 105, 110, 115] ++ [79, 119, 110]) ++ [40, 34] ++ v ++ [34, 41]))) none) ((1 + 8 <= 2305843009213693952) /\ (([58] ++ [99, 111, 110, 116, 97, 105, 110, 115]).length + 2 <= 2305843009213693952) /\ (([58] ++ [99, 111, 110, 116, 97, 105, 110, 115] ++ [40, 34]).length + v.length <= 2305843009213693952) /\ (([58] ++ [99, 111, 110, 116, 97, 105, 110, 115] ++ [40, 34] ++ v).length + 2 <= 2305843009213693952) /\ K (.val (.str ([58] ++ [99, 111, 110, 116, 97, 105, 110, 115] ++ [40, 34] ++ v ++ [34, 41]))) none)) ?_
 refine Qc ?_ ?_ <;> intro h1 <;> try simp [-za, -zb] at h1
 refine Qz (Qz (Qz (Qz (Qz ?_))))
 refine Vf hk ?_
 simp [pr, h1]
 refine Qz (Qz (Qz (Qz ?_)))
 refine Vf hk ?_
 simp [pr, h1]
 cases e
def c240 (svs : List SV) (b : Option SB) : QR := match svs, b with
 | [.agg [.str v]], none => some ([], .str (pr (.never v)))
 | _, _ => none
noncomputable def W240 : Wk := ⟨[], Qp Tryz.f240, false, false, [.tmp 2], [9], [], []⟩
theorem Qs8 : Has 240 := hsf Tryz.f240
theorem QrG : Sat 240 (Qv c240) := by
 have hD : Qe W240.D := Qe.nil
 refine W240.sa hD Tryz.f240 fun svs b K hP => ?_
 obtain ⟨ps, v, e, hp, hk⟩ := Qk hP
 unfold c240 at e
 split at e
 rename_i v
 cases e
 refine W240.en (K (.val (.str v)) none) ?_
 refine Vf hk ?_
 simp [pr]
 cases e
end
end Go.Proofs.YtengepcafdnalaaGreatDoor
