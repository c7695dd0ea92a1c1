/-
  Parts of the proof that the law FnPrintAgain holds for every input (texts Wh, Wi, Wj, Xa). Conditions: none.
-/
import Derived.Test.YtengepcafdnalaaGreatDoorM25
namespace Go.Proofs.YtengepcafdnalaaGreatDoor
open _root_.Bool renaming and_eq_true → zh, not_eq_true' → zU, and_eq_false_imp → zW, or_eq_true → zw
open _root_.List renaming range → zH, drop_eq_getElem_cons → zP, getD_eq_getElem?_getD → za, getElem?_eq_getElem → zi, drop_drop → xj, length_append → zd, length_take → zk, length_drop → zj, length_cons → ze, append_assoc → zo, map_cons → zJ, getElem?_map → zD, length_eq_zero_iff → zK, length_nil → zf, foldl_cons → zR, mem_cons → zz, exists_cons_of_ne_nil → zB, take_add_one → zL, take_of_length_le → zN
open _root_.Nat renaming strongRecOn → zl, le_refl → zq
open _root_.Option renaming map_some → zO, toList_some → z7
open _root_.UInt8 renaming ofNat → zx
section
set_option maxRecDepth 20000
theorem Uu {n j : Nat} {p : Nat -> Bool} (h : j < n) (e : p j = false) : (zH n).all p = false := by
 rw [List.all_eq_false]
 exact ⟨j, List.mem_range.2 h, by simp [e]⟩
theorem J6 {n : Nat} {p : Nat -> Bool} (e : ∀ j, j < n -> p j = true) : (zH n).all p = true := by
 rw [List.all_eq_true]
 exact fun j hj => e j (List.mem_range.1 hj)
theorem J7 {n : Nat} {p : Nat -> Bool} : (zH n).all p = true ↔ ∀ j, j < n -> p j = true := by
 rw [List.all_eq_true]
 exact ⟨fun h j hj => h j (List.mem_range.2 hj), fun h j hj => h j (List.mem_range.1 hj)⟩
def QgG (f : Nat -> Int -> Bool) (l : List SelD) (fin : Int) (k : Nat) : Bool :=
 if (k : Int) < fin then
  (if f k fin = true then (if 1 <= (l.getD k default).size then QgG f l fin (k + (l.getD k default).size.toNat) else false) else false)
 else true
 termination_by (fin - k).toNat
 decreasing_by omega
def szB : Nat -> List SelD -> Nat -> Int -> Bool
 | 0, _, _, _ => false
 | m + 1, l, i, e => if (l.getD i default).size < 1 \/ e - i < (l.getD i default).size then false else QgG (szB m l) l (i + (l.getD i default).size) (i + 1)
theorem UK {m : Nat} {l : List SelD} {i : Nat} {e : Int} (h : szB m l i e = true) : 1 <= (l.getD i default).size /\ (i : Int) + (l.getD i default).size <= e := by
 cases m with
 | zero => simp [szB] at h
 | succ m =>
  rw [szB] at h
  split at h
  cases h
  omega
def noSz (x : SelD) : SelD := { x with size := 0 }
theorem Qp1 {l : List SelD} {i n : Nat} {ks : List ST} (hi : i < l.length) (hn : n = (ST.flats ks).length + 1) (hs : (l.getD i default).size = (n : Int)) (hk : (l.drop (i + 1)).take (n - 1) = ST.flats ks) :
 (l.drop i).take n = (ST.mk (noSz (l.getD i default)) ks).flat := by
 have e : l.drop i = l.getD i default :: l.drop (i + 1) := by
  rw [zP hi]
  simp [za, zi hi]
 rw [e, hn, List.take_succ_cons, ST.flat, QT]
 rw [hn] at hk hs
 simp only [Nat.add_sub_cancel] at hk
 rw [hk]
 congr 1
 generalize l.getD i default = y at hs
 obtain ⟨_, _, _, _, _, _, _, _⟩ := y
 simp only [noSz]
 simp only at hs
 rw [hs]
 simp
mutual
def Zs : ST -> Prop
 | .mk x ks => x.size = 0 /\ Zss ks
def Zss : List ST -> Prop
 | [] => True
 | t :: l => Zs t /\ Zss l
end
theorem QcQ {l : List SelD} : ∀ (m i : Nat) (e : Int), szB m l i e = true -> e <= l.length -> ∃ T : ST, (l.drop i).take (l.getD i default).size.toNat = T.flat /\ Zs T /\ (l.getD i default).size.toNat = T.flat.length
 | 0, i, e, h, _ => by simp [szB] at h
 | m + 1, i, e, h, he => by
  obtain ⟨q1, q2⟩ := UK h
  rw [szB] at h
  split at h
  cases h
  rename_i h0
  have kids : ∀ (d k : Nat), (i + (l.getD i default).size - k).toNat = d -> (k : Int) <= i + (l.getD i default).size -> QgG (szB m l) l (i + (l.getD i default).size) k = true ->
   ∃ ks : List ST, (l.drop k).take d = ST.flats ks /\ Zss ks /\ d = (ST.flats ks).length := by
   intro d
   induction d using zl with
   | _ d ih =>
    intro k hd hk hg
    rw [QgG] at hg
    split at hg
    . rename_i hlt
      split at hg
      . rename_i hf
        obtain ⟨s1, s2⟩ := UK hf
        obtain ⟨T, t1, t2, t3⟩ := QcQ m k _ hf (by omega)
        rw [if_pos s1] at hg
        obtain ⟨ks, k1, k2, k3⟩ := ih (d - (l.getD k default).size.toNat) (by omega) (k + (l.getD k default).size.toNat) (by omega) (by omega) hg
        refine ⟨T :: ks, ?_, ⟨t2, k2⟩, ?_⟩
        . rw [ST.flats, <- t1, <- k1, <- xj]
          rw [show d = (l.getD k default).size.toNat + (d - (l.getD k default).size.toNat) by omega, List.take_add]
          congr 2
          omega
        rw [ST.flats, zd]; omega
      cases hg
    refine ⟨[], ?_, trivial, ?_⟩
    . rw [show d = 0 by omega]; simp [ST.flats]
    simp [ST.flats]; omega
  obtain ⟨ks, k1, k2, k3⟩ := kids ((l.getD i default).size.toNat - 1) (i + 1) (by omega) (by omega) h
  have hfl := Qp1 (l := l) (i := i) (n := (l.getD i default).size.toNat) (ks := ks) (by omega) (by omega) (by omega) k1
  refine ⟨_, hfl, ⟨rfl, k2⟩, ?_⟩
  rw [<- hfl, zk, zj]
  omega
def JM (l : List SelD) (i : Nat) : Prop := ∃ (T : ST) (rest : List SelD), l.drop i = T.flat ++ rest
mutual
theorem QjZ {l : List SelD} : ∀ (T : ST) (i : Nat) (rest : List SelD), l.drop i = T.flat ++ rest -> ∀ j, i <= j -> j < i + T.flat.length -> JM l j
 | .mk x ks, i, rest, h, j, h1, h2 => by
  by_cases e : j = i
  subst e; exact ⟨_, rest, h⟩
  obtain ⟨_, hd, _, _, _⟩ := Vd h
  rw [ST.flat, QT, ze] at h2
  exact Qhk ks (i + 1) rest hd j (by omega) (by omega)
theorem Qhk {l : List SelD} : ∀ (ks : List ST) (i : Nat) (rest : List SelD), l.drop i = ST.flats ks ++ rest -> ∀ j, i <= j -> j < i + (ST.flats ks).length -> JM l j
 | [], i, rest, h, j, h1, h2 => by simp [ST.flats] at h2; omega
 | t :: ks, i, rest, h, j, h1, h2 => by
  rw [ST.flats, zo] at h
  rw [ST.flats, zd] at h2
  by_cases e : j < i + t.flat.length
  exact QjZ t i _ h j h1 e
  exact Qhk ks _ rest (YB h) j (by omega) (by omega)
end
theorem JM.kids {l : List SelD} {i : Nat} (h : JM l i) : i < l.length /\ (0 <= (l.getD i default).size /\ (i : Int) + (l.getD i default).size <= l.length) /\ (∀ k, k ∈ Qa l i -> k < l.length /\ (l.getD k default).size <= l.length /\ 0 <= (l.getD k default).size /\ (k : Int) + (l.getD k default).size <= l.length /\ JM l k) /\ (Qa l i).length <= l.length := by
 obtain ⟨⟨x, ks⟩, rest, h⟩ := h
 obtain ⟨q1, q2, q3, q4, q5⟩ := Vd h
 refine ⟨q3, ?_, fun k hk => ?_, ?_⟩
 rw [q4]; simp only; omega
 . rw [q1] at hk
   obtain ⟨⟨y, ys⟩, r, hT, _⟩ := Qby ks (i + 1) rest q2 (zq _) k hk
   obtain ⟨p1, p2, p3, p4, p5⟩ := Vd hT
   refine ⟨p3, ?_, ?_, ?_, ⟨_, r, hT⟩⟩
   all_goals rw [p4]
   all_goals simp only
   all_goals omega
 have := Qdq l (i + (l.getD i default).size) (i + 1)
 unfold Qa; omega
def knd (l : List SelD) (k : Nat) : Int := (l.getD k default).kind
def shB (l : List SelD) (i : Nat) : Bool :=
 if knd l i = 23 then (zH (Qa l i).length).all (fun j => QI (knd l ((Qa l i).getD j 0))) && decide (0 < (Qa l i).length)
 else if knd l i = 18 \/ knd l i = 19 \/ knd l i = 20 then decide ((Qa l i).length = 1) && decide (knd l ((Qa l i).getD 0 0) = 23) && !((Yo l i).any V7)
 else if knd l i = 21 then (zH (Qa l i).length).all (fun j => Qo (knd l ((Qa l i).getD j 0)) && !(decide (knd l ((Qa l i).getD j 0) = 2) && decide (0 < j)))
 else if knd l i = 22 then decide ((Qa l i).length = 2) && QI (knd l ((Qa l i).getD 0 0)) && QI (knd l ((Qa l i).getD 1 0)) && !decide (knd l ((Qa l i).getD 1 0) = 22) && !((Yo l ((Qa l i).getD 0 0)).any V7)
 else Qo (knd l i) && decide ((Qa l i).length = 0)
def UR (l : List SelD) : Bool :=
 if l.length = 0 \/ (l.getD 0 default).size ≠ (l.length : Nat) \/ szB 2000 l 0 (l.length : Nat) = false then false
 else (zH l.length).all (fun i => Z4 (l.getD i default) && shB l i) && (decide (knd l 0 = 23) || QI (knd l 0))
theorem Qbt {l : List SelD} {i : Nat} {T : ST} {rest : List SelD} (h : l.drop i = T.flat ++ rest) : Yo l i = T.flat := by
 obtain ⟨x, ks⟩ := T
 obtain ⟨q1, q2, q3, q4, q5⟩ := Vd h
 have hl : (ST.mk x ks).flat.length = (ST.flats ks).length + 1 := by simp [ST.flat, QT]
 unfold Yo
 rw [if_neg (by omega), q4]
 simp only
 rw [show ((i : Int) + (((ST.flats ks).length : Nat) + 1)).toNat = i + (ST.mk x ks).flat.length by omega]
 rw [List.drop_take, h, Nat.add_sub_cancel_left, List.take_left]
theorem JB {l : List SelD} : ∀ (ks : List ST) (k : Nat) (rest : List SelD), l.drop k = ST.flats ks ++ rest -> (QF k ks).map (knd l) = ks.map fun t => t.node.kind
 | [], k, rest, h => by simp [QF]
 | t :: ks, k, rest, h => by
  rw [ST.flats, zo] at h
  obtain ⟨x, r, e1, e2, e3⟩ := QbJ t
  have h0 : l.drop k = x :: (r ++ (ST.flats ks ++ rest)) := by rw [h, e1]; rfl
  rw [QF, zJ, zJ, JB ks _ rest (YB h)]
  congr 1
  unfold knd
  rw [Qar h0, e3]
theorem Ja {l : List SelD} {K : List Nat} {ks : List ST} (h : K.map (knd l) = ks.map fun t => t.node.kind) {j : Nat} (hj : j < ks.length) : knd l (K.getD j 0) = (ks[j]).node.kind := by
 have hl : K.length = ks.length := by simpa using congrArg List.length h
 have := congrArg (fun q => q[j]?) h
 simp only [zD, zi hj, zi (show j < K.length by omega), zO, Option.some.injEq] at this
 simpa [za, zi (show j < K.length by omega)] using this
theorem JY {l : List SelD} {i : Nat} {x : SelD} {ks : List ST} {rest : List SelD} (h : l.drop i = (ST.mk x ks).flat ++ rest) : knd l i = x.kind := by
 unfold knd; rw [(Vd h).2.2.2.1]
theorem shB_T {l : List SelD} {i : Nat} {x : SelD} {ks : List ST} {rest : List SelD} (h : l.drop i = (ST.mk x ks).flat ++ rest) (hb : shB l i = true) : Je x ks := by
 obtain ⟨q1, q2, q3, q4, q5⟩ := Vd h
 have hk := JB ks (i + 1) rest q2
 rw [<- q1] at hk
 have hl : (Qa l i).length = ks.length := by simpa using congrArg List.length hk
 unfold shB at hb
 rw [JY h, hl] at hb
 unfold Je
 by_cases h23 : x.kind = 23
 rw [if_pos h23] at hb ⊢
 rw [zh, J7, decide_eq_true_eq] at hb
 refine ⟨fun k hkm => ?_, fun e => by rw [e] at hb; simp at hb⟩
 obtain ⟨j, hj, rfl⟩ := List.getElem_of_mem hkm
 have := hb.1 j hj
 rwa [Ja hk hj] at this
 rw [if_neg h23] at hb ⊢
 by_cases h18 : x.kind = 18 \/ x.kind = 19 \/ x.kind = 20
 rw [if_pos h18] at hb ⊢
 simp only [zh, decide_eq_true_eq, zU] at hb
 obtain ⟨⟨b1, b2⟩, b3⟩ := hb
 obtain ⟨g, rfl⟩ := List.length_eq_one_iff.1 b1
 rw [Ja hk (by simp)] at b2
 refine ⟨⟨g, rfl, b2⟩, ?_⟩
 rw [Qbt h, ST.flat, QT, List.any_cons, Bool.or_eq_false_iff] at b3
 exact b3.2
 rw [if_neg h18] at hb ⊢
 by_cases h21 : x.kind = 21
 rw [if_pos h21] at hb ⊢
 rw [J7] at hb
 refine ⟨fun k hkm => ?_, fun k hkm => ?_⟩
 obtain ⟨j, hj, rfl⟩ := List.getElem_of_mem hkm
 have := hb j hj
 rw [Ja hk hj, zh] at this
 exact this.1
 obtain ⟨j, hj, rfl⟩ := List.getElem_of_mem hkm
 have hj' : j + 1 < ks.length := by rw [List.length_tail] at hj; omega
 have := hb (j + 1) hj'
 rw [Ja hk hj', zh] at this
 have := this.2
 simp only [zU, zW, decide_eq_true_eq, decide_eq_false_iff_not] at this
 intro e
 refine this ?_ (by omega)
 simpa [List.getElem_tail] using e
 rw [if_neg h21] at hb ⊢
 by_cases h22 : x.kind = 22
 rw [if_pos h22] at hb ⊢
 simp only [zh, decide_eq_true_eq, zU, decide_eq_false_iff_not] at hb
 obtain ⟨⟨⟨⟨b1, b2⟩, b3⟩, b4⟩, b5⟩ := hb
 obtain ⟨a, b, rfl⟩ : ∃ a b, ks = [a, b] := by
  match ks, b1 with
  | [a, b], _ => exact ⟨a, b, rfl⟩
 rw [Ja hk (by simp)] at b2
 rw [Ja hk (by simp)] at b3 b4
 refine ⟨a, b, rfl, b2, b3, b4, ?_⟩
 have e0 : (Qa l i).getD 0 0 = i + 1 := by rw [q1]; rfl
 rw [e0] at b5
 rw [ST.flats, zo] at q2
 rw [Qbt q2] at b5
 exact b5
 rw [if_neg h22] at hb ⊢
 simp only [zh, decide_eq_true_eq] at hb
 exact ⟨hb.1, zK.1 hb.2⟩
mutual
theorem QjJ {l : List SelD} (hall : ∀ j, j < l.length -> Z4 (l.getD j default) = true /\ shB l j = true) : ∀ (T : ST) (i : Nat) (rest : List SelD), l.drop i = T.flat ++ rest -> Zs T -> VX T
 | .mk x ks, i, rest, h, hz => by
  obtain ⟨q1, q2, q3, q4, q5⟩ := Vd h
  obtain ⟨a1, a2⟩ := hall i q3
  refine ⟨?_, hz.1, shB_T h a2, QgY hall ks (i + 1) rest q2 hz.2⟩
  rw [q4] at a1
  exact a1
theorem QgY {l : List SelD} (hall : ∀ j, j < l.length -> Z4 (l.getD j default) = true /\ shB l j = true) : ∀ (ks : List ST) (i : Nat) (rest : List SelD), l.drop i = ST.flats ks ++ rest -> Zss ks -> Zj ks
 | [], _, _, _, _ => trivial
 | t :: ks, i, rest, h, hz => by
  rw [ST.flats, zo] at h
  exact ⟨QjJ hall t i _ h hz.1, QgY hall ks _ rest (YB h) hz.2⟩
end
theorem QmC {l : List SelD} (h : UR l = true) : ∃ T : ST, l = T.flat /\ VX T /\ (T.node.kind = 23 \/ QI T.node.kind = true) := by
 unfold UR at h
 split at h
 cases h
 rename_i h0
 simp only [not_or, Decidable.not_not, Bool.not_eq_false] at h0
 obtain ⟨h1, h2, h3⟩ := h0
 rw [zh, J7, zw, decide_eq_true_eq] at h
 obtain ⟨T, t1, t2, t3⟩ := QcQ 2000 0 _ h3 (Int.le_refl _)
 rw [h2] at t1
 have e : l = T.flat := by simpa using t1
 have e' : l.drop 0 = T.flat ++ [] := by simpa using e
 refine ⟨T, e, QjJ (fun j hj => by have := h.1 j hj; rwa [zh] at this) T 0 [] e' t2, ?_⟩
 obtain ⟨x, ks⟩ := T
 have := h.2
 rw [JY e'] at this
 exact this
theorem QkV {l : List SelD} (h2 : (l.getD 0 default).size = (l.length : Nat)) (h3 : szB 2000 l 0 (l.length : Nat) = true) : ∀ j, j < l.length -> JM l j := by
 intro j hj
 obtain ⟨T, t1, t2, t3⟩ := QcQ 2000 0 _ h3 (Int.le_refl _)
 rw [h2] at t1
 have e : l = T.flat := by simpa using t1
 exact QjZ T 0 [] (by simpa using e) j (by omega) (by rw [<- e]; omega)
end
section
set_option maxRecDepth 20000
def wtN (x : SelD) : Nat := 100 + 4 * (x.key.length + x.val.length)
def wtL : List SelD -> Nat
 | [] => 0
 | x :: l => wtN x + wtL l
theorem Qab : ∀ (a b : List SelD), wtL (a ++ b) = wtL a + wtL b
 | [], b => by simp [wtL]
 | x :: a, b => by simp only [List.cons_append, wtL, Qab a b]; omega
theorem Qgz (l : List SelD) (i : Nat) : wtL (l.drop i) <= wtL l := by
 have := Qab (l.take i) (l.drop i)
 rw [List.take_append_drop] at this
 omega
theorem QcM (x : SelD) (ks : List ST) : wtL (ST.mk x ks).flat = wtN x + wtL (ST.flats ks) := by
 rw [ST.flat, QT, wtL]; rfl
theorem Y1 {c : Nat} (h : c < 256) : (VQ c).length <= 4 := by
 obtain ⟨ds, e1, _, _, _, e5⟩ := Way.QlD c 2 [] (by simpa using h)
 unfold VQ
 rw [e1]
 simp; omega
theorem QcI (c : UInt8) : c.toNat < 256 := c.toNat_lt
theorem Qpq (h i : Nat) (c : UInt8) : (nmP h i c).length <= 4 := by
 unfold nmP
 have := Y1 (QcI c)
 split
 exact this
 split <;> simp
theorem Qj1 (h : Nat) : ∀ (i : Nat) (u : Bs), (nmF h i u).length <= 4 * u.length
 | _, [] => by simp [nmF]
 | i, c :: u => by
  have := Qpq h i c
  have := Qj1 h (i + 1) u
  rw [nmF, zd, ze]; omega
theorem Vk (s : Bs) : (Qr s).length <= 4 * s.length := by
 unfold Qr
 split
 rename_i h; subst h; simp
 exact Qj1 _ 0 s
theorem Qss (c : UInt8) : (qP c).length <= 4 := by
 unfold qP
 have := Y1 (QcI c)
 split
 exact this
 split <;> simp
theorem QmM : ∀ u : Bs, (qF u).length <= 4 * u.length
 | [] => by simp [qF]
 | c :: u => by
  have := Qss c
  have := QmM u
  rw [qF, zd, ze]; omega
theorem Jz (s : Bs) : (QQ s).length <= 4 * s.length + 2 := by
 have := QmM s
 unfold QQ
 simp; omega
theorem QcG : ∀ (k n : Nat), n < 10 ^ k -> 1 <= k -> (Vi n).length <= k
 | 0, n, _, h => by omega
 | k + 1, n, h, _ => by
  rw [Vi]
  split
  simp; omega
  rename_i hn
  rw [Nat.pow_succ] at h
  have hk : 1 <= k := by
   rcases k with _ | k
   simp at h; omega
   omega
  have h1 := QcG k (n / 10) (by omega) hk
  have h2 : (Vi (n % 10)).length <= 1 := by rw [Vi, if_pos (Nat.mod_lt _ (by decide))]; simp; omega
  rw [zd]; omega
theorem YA {n : Nat} (h : n <= 1000000000000000000) : (Vi n).length <= 19 := QcG 19 n (by omega) (by decide)
theorem ZH {n : Int} (h : -100000000000000000 <= n /\ n <= 100000000000000000) : (QN n).length <= 20 := by
 unfold QN
 split
 have := YA (n := (-n).toNat) (by omega)
 simp; omega
 have := YA (n := n.toNat) (by omega)
 simp; omega
theorem Yy {a b : Int} (ha : -100000000000000000 <= a /\ a <= 100000000000000000) (hb : -100000000000000000 <= b /\ b <= 100000000000000000) : (QC a b).length <= 41 := by
 have h1 := ZH hb
 have h2 := YA (n := (-a).toNat) (by omega)
 have h3 := YA (n := a.toNat) (by omega)
 unfold QC
 split <;> simp <;> omega
theorem QL {l : List Bs} {n : Nat} (h : ∀ t ∈ l, t.length <= n) (i : Nat) : (l.getD i []).length <= n := by
 rw [za]
 by_cases hi : i < l.length
 rw [zi hi]; exact h _ (List.getElem_mem hi)
 rw [List.getElem?_eq_none (by omega)]; simp
theorem J8 {x : SelD} (h : -100000000000000000 <= x.a /\ x.a <= 100000000000000000) (h' : -100000000000000000 <= x.b /\ x.b <= 100000000000000000) : (Qs x).length + 10 <= 100 + 4 * (x.key.length + x.val.length) := by
 have k1 := Vk x.key
 have k2 := Vk x.val
 have k3 := Jz x.val
 have k4 := Yy h h'
 have s1 := QL (l := Vj) (n := 2) (by decide) x.op.toNat
 have s2 := QL (l := ([[], [32, 105]] : List Bs)) (n := 2) (by decide) x.flag.toNat
 have s3 := QL (l := Q7) (n := 12) (by decide) x.flag.toNat
 have s4 := QL (l := VO) (n := 7) (by decide) x.flag.toNat
 have s5 := QL (l := Qq) (n := 8) (by decide) (x.kind - 8).toNat
 unfold Qs
 repeat' split
 all_goals (first | omega | (simp only [zd, ze, zf]; omega))
def ZF : List (Int × Bs) -> Nat
 | [] => 0
 | t :: l => t.2.length + 2 + ZF l
theorem QaN (t : Bs) (l : List Bs) : Zn (t :: l) = t ++ l.flatMap fun u => [44, 32] ++ u := rfl
theorem Qe2 : ∀ l : List (Int × Bs), ((l.map Prod.snd).flatMap fun u => [44, 32] ++ u).length = ZF l
 | [] => rfl
 | t :: l => by
  have := Qe2 l
  rw [zJ, List.flatMap_cons, zd, this, ZF]
  simp only [zd, ze, zf]; omega
theorem QeP (l : List (Int × Bs)) : (Zn (l.map Prod.snd)).length <= ZF l := by
 match l with
 | [] => simp [Zn]
 | t :: l =>
  rw [zJ, QaN, zd, Qe2, ZF]; omega
theorem QdD : ∀ (l : List (Int × Bs)) (p : Bs × Bs), (l.foldl Vu p).1.length + (l.foldl Vu p).2.length <= p.1.length + p.2.length + ZF l
 | [], p => by simp [ZF]
 | t :: l, p => by
  have := QdD l (Vu p t)
  have hs : (Vu p t).1.length + (Vu p t).2.length <= p.1.length + p.2.length + t.2.length + 2 := by
   unfold Vu
   split
   simp only; omega
   split
   simp only
   by_cases h : p.1 = []
   rw [if_pos h]; simp
   omega
   rw [if_neg h]; omega
   simp only [zd]; omega
  rw [zR, ZF]
  omega
theorem Qjj (val : Bs) (p : Bs × Bs) : (Jq val p).length <= p.1.length + p.2.length + 4 * val.length + 3 := by
 have := Vk val
 have hX : (if val = [] then p.2 else p.2 ++ ([58, 58] ++ Qr val)).length <= p.2.length + 4 * val.length + 2 := by
  by_cases h : val = []
  rw [if_pos h]; omega
  rw [if_neg h]; simp only [zd, ze, zf]; omega
 unfold Jq
 generalize (if val = [] then p.2 else p.2 ++ ([58, 58] ++ Qr val)) = X at hX ⊢
 split
 simp only [ze, zf]; omega
 rw [zd]; omega
theorem Qem (l : List (Int × Bs)) : ∀ j, ZF (l.take j) <= ZF l := by
 induction l with
 | nil => simp [ZF]
 | cons t l ih =>
  intro j
  cases j with
  | zero => simp [ZF]
  | succ j => have := ih j; rw [List.take_succ_cons, ZF, ZF]; omega
theorem Ql9 {l : List (Int × Bs)} : (l.getD 0 (0, [])).2.length + (l.getD 1 (0, [])).2.length <= ZF l := by
 match l with
 | [] => simp
 | [t] => first | (simp [ZF]; done) | (simp [ZF]; omega)
 | t :: u :: l => first | (simp [ZF]; done) | (simp [ZF]; omega)
theorem Qik {x : SelD} {ts : List (Int × Bs)} (h : -100000000000000000 <= x.a /\ x.a <= 100000000000000000) (h' : -100000000000000000 <= x.b /\ x.b <= 100000000000000000) : (Yj x ts).length + 10 <= wtN x + ZF ts := by
 have k1 := QeP ts
 have k2 := J8 h h'
 have k3 := Qjj x.val (ts.foldl Vu ([], []))
 have k4 := QdD ts ([], [])
 have s1 := QL (l := Qbr) (n := 3) (by decide) x.op.toNat
 have s2 := QL (l := QU) (n := 8) (by decide) (x.kind - 18).toNat
 have a0 := Ql9 (l := ts)
 unfold Yj QbU wtN
 simp only [zf] at k4
 repeat' split
 all_goals (first | omega | (simp only [zd, ze, zf]; omega))
end
section
set_option maxRecDepth 20000
def sWr : Nat -> List SelD -> Nat -> Bs
 | 0, _, _ => []
 | n + 1, l, i => Yj (l.getD i default) ((Qa l i).map fun k => (knd l k, sWr n l k))
def Ju (n : Nat) (l : List SelD) (i : Nat) : List (Int × Bs) := (Qa l i).map fun k => (knd l k, sWr n l k)
theorem Ud (n : Nat) (l : List SelD) (i : Nat) : sWr (n + 1) l i = Yj (l.getD i default) (Ju n l i) := rfl
def WAt (l : List SelD) (n k : Nat) : Prop := ∃ (T : ST) (rest : List SelD), l.drop k = T.flat ++ rest /\ T.ht <= n /\ VX T
theorem Qjw {l : List SelD} {n : Nat} : ∀ (ks : List ST) (k : Nat) (rest : List SelD), l.drop k = ST.flats ks ++ rest -> ST.hts ks <= n -> Zj ks -> ∀ p ∈ QF k ks, WAt l n p
 | [], k, rest, h, hn, hr, p, hp => by simp [QF] at hp
 | t :: ks, k, rest, h, hn, hr, p, hp => by
  rw [ST.flats, zo] at h
  rw [ST.hts] at hn
  simp only [QF, zz] at hp
  rcases hp with hp | hp
  subst hp; exact ⟨t, _, h, by omega, hr.1⟩
  exact Qjw ks _ rest (YB h) (by omega) hr.2 p hp
theorem QaJ {l : List SelD} {n : Nat} (ih : ∀ i T rest, l.drop i = ST.flat T ++ rest -> T.ht <= n -> sWr n l i = wr T) : ∀ (ks : List ST) (k : Nat) (rest : List SelD), l.drop k = ST.flats ks ++ rest -> ST.hts ks <= n ->
 ((QF k ks).map fun k => (knd l k, sWr n l k)) = wrs ks
 | [], k, rest, h, hn => by simp [QF, wrs]
 | t :: ks, k, rest, h, hn => by
  rw [ST.flats, zo] at h
  rw [ST.hts] at hn
  obtain ⟨x, xs⟩ := t
  simp only [QF, wrs, zJ]
  rw [ih k _ _ h (by omega), QaJ ih ks _ rest (YB h) (by omega), JY h]
  rfl
theorem Qfs (l : List SelD) : ∀ (n i : Nat) (T : ST) (rest : List SelD), l.drop i = T.flat ++ rest -> T.ht <= n -> sWr n l i = wr T
 | 0, i, T, rest, h, hn => by obtain ⟨x, ks⟩ := T; simp [ST.ht] at hn
 | n + 1, i, .mk x ks, rest, h, hn => by
  obtain ⟨h1, h2, h3, h4, h5⟩ := Vd h
  rw [ST.ht] at hn
  have h6 := QaJ (l := l) (n := n) (fun i T rest => Qfs l n i T rest) ks (i + 1) rest h2 (by omega)
  rw [sWr, h1, h6, h4, wr]
  rfl
theorem Qo4 {l : List SelD} {n i : Nat} {x : SelD} {ks : List ST} {rest : List SelD} (h : l.drop i = (ST.mk x ks).flat ++ rest) (hn : ST.hts ks <= n) : Ju n l i = wrs ks := by
 obtain ⟨h1, h2, h3, h4, h5⟩ := Vd h
 unfold Ju
 rw [h1]
 exact QaJ (fun i T rest => Qfs l n i T rest) ks (i + 1) rest h2 hn
mutual
theorem Qij : ∀ T : ST, VX T -> (wr T).length + 10 <= wtL T.flat
 | .mk x ks, ⟨hf, _, _, hk⟩ => by
  have h1 := Qfi ks hk
  have hr := (Way.fld hf).rng
  have h2 := Qik (x := x) (ts := wrs ks) (by omega) (by omega)
  rw [QcM, wr]
  omega
theorem Qfi : ∀ ks : List ST, Zj ks -> ZF (wrs ks) <= wtL (ST.flats ks)
 | [], _ => by simp [wrs, ZF]
 | t :: ks, ⟨ht, hk⟩ => by
  have h1 := Qij t ht
  have h2 := Qfi ks hk
  rw [wrs, ZF, ST.flats, Qab]
  simp only
  omega
end
theorem WAt.len {l : List SelD} {n k : Nat} (h : WAt l n k) : (sWr n l k).length <= wtL l := by
 obtain ⟨T, rest, h1, h2, h3⟩ := h
 have q := Qij T h3
 have q2 := Qgz l k
 rw [h1, Qab] at q2
 rw [Qfs l n k T rest h1 h2]
 omega
theorem WAt.kids {l : List SelD} {n i : Nat} (h : WAt l (n + 1) i) : JM l i /\ (∀ k ∈ Qa l i, WAt l n k) /\ ZF (Ju n l i) <= wtL l /\ Way.Fld (l.getD i default) /\ (l.getD i default).key.length + (l.getD i default).val.length <= wtL l /\
 (knd l i = 22 -> (Qa l i).length = 2) /\ ((knd l i = 18 \/ knd l i = 19 \/ knd l i = 20) -> (Qa l i).length = 1) /\ (knd l i ≠ 23 -> knd l i ≠ 22 -> knd l i ≠ 21 -> ¬ (knd l i = 18 \/ knd l i = 19 \/ knd l i = 20) -> Qo (knd l i) = true) := by
 obtain ⟨⟨x, ks⟩, rest, h1, h2, h3⟩ := h
 have hn : JM l i := ⟨_, rest, h1⟩
 obtain ⟨q1, q2, q3, q4, q5⟩ := Vd h1
 rw [ST.ht] at h2
 obtain ⟨hf, hz, hs, hk⟩ := h3
 have F := Way.fld hf
 have q6 := Qgz l i
 rw [h1, Qab, QcM] at q6
 have hkl : (Qa l i).length = ks.length := by
  have := JB ks (i + 1) rest q2
  rw [<- q1] at this
  simpa using congrArg List.length this
 refine ⟨hn, ?_, ?_, ?_, ?_, ?_, ?_, ?_⟩
 rw [q1]; exact Qjw ks (i + 1) rest q2 (by omega) hk
 rw [Qo4 h1 (by omega)]
 have := Qfi ks hk
 omega
 rw [q4]
 exact { kz := F.kz, vz := F.vz, low := F.low, key := F.key, nokey := F.nokey, name := F.name, val := F.val, num := F.num, rng := F.rng, attr := F.attr, comb := F.comb, nth := F.nth, only := F.only, other := F.other }
 rw [q4]; simp only
 unfold wtN at q6
 omega
 intro e
 rw [JY h1] at e
 unfold Je at hs
 rw [if_neg (by omega), if_neg (by omega), if_neg (by omega), if_pos e] at hs
 obtain ⟨a, b, rfl, _⟩ := hs
 rw [hkl]; rfl
 intro e
 rw [JY h1] at e
 unfold Je at hs
 rw [if_neg (by omega), if_pos e] at hs
 obtain ⟨⟨g, rfl, _⟩, _⟩ := hs
 rw [hkl]; rfl
 intro e1 e2 e3 e4
 rw [JY h1] at e1 e2 e3 e4 ⊢
 unfold Je at hs
 rw [if_neg e1, if_neg e4, if_neg e3, if_neg e2] at hs
 exact hs.1
theorem JR (n : Nat) (l : List SelD) (i : Nat) : (Ju n l i).length = (Qa l i).length := by simp [Ju]
theorem Qfv {n : Nat} {l : List SelD} {i j : Nat} (h : j < (Qa l i).length) : (Ju n l i)[j]'(by rw [JR]; exact h) = (knd l ((Qa l i).getD j 0), sWr n l ((Qa l i).getD j 0)) := by
 simp [Ju, za, zi h]
theorem UP {n : Nat} {l : List SelD} {i j : Nat} (h : j < (Qa l i).length) : (Ju n l i).getD j (0, []) = (knd l ((Qa l i).getD j 0), sWr n l ((Qa l i).getD j 0)) := by
 rw [za, zi (by rw [JR]; exact h), Qfv h]
 rfl
def Qbg (n : Nat) (l : List SelD) (i j : Nat) : Bs := Zn (((Ju n l i).take j).map Prod.snd)
theorem Qi6 (l : List Bs) (t : Bs) (h : l ≠ []) : Zn (l ++ [t]) = Zn l ++ ([44, 32] ++ t) := by
 obtain ⟨a, l, rfl⟩ := zB h
 rw [List.cons_append, QaN, QaN, List.flatMap_append]
 simp
theorem Qkd {n : Nat} {l : List SelD} {i j : Nat} (h : j < (Qa l i).length) : Qbg n l i (j + 1) = (if 0 < j then Qbg n l i j ++ [44, 32] else Qbg n l i j) ++ sWr n l ((Qa l i).getD j 0) := by
 unfold Qbg
 have hl : j < (Ju n l i).length := by rw [JR]; exact h
 rw [zL, zi hl, Qfv h, z7, List.map_append]
 simp only [zJ, List.map_nil]
 by_cases hj : 0 < j
 rw [if_pos hj, Qi6 _ _ (by intro e; have := congrArg List.length e; rw [List.length_map, zk, zf] at this; omega)]
 simp
 rw [if_neg hj, show j = 0 by omega]
 simp [Zn]
theorem Qlz {n : Nat} {l : List SelD} {i j : Nat} : (Qbg n l i j).length <= ZF (Ju n l i) := by
 have := QeP ((Ju n l i).take j)
 have := Qem (Ju n l i) j
 unfold Qbg; omega
theorem QlA {n : Nat} {l : List SelD} {i j : Nat} (h : j = (Qa l i).length) : Qbg n l i j = Zn ((Ju n l i).map Prod.snd) := by
 unfold Qbg
 rw [zN (by rw [JR]; omega)]
def Qgk (n : Nat) (l : List SelD) (i j : Nat) : Bs × Bs := ((Ju n l i).take j).foldl Vu ([], [])
theorem Qgj {n : Nat} {l : List SelD} {i j : Nat} (h : j < (Qa l i).length) : Qgk n l i (j + 1) = Vu (Qgk n l i j) (knd l ((Qa l i).getD j 0), sWr n l ((Qa l i).getD j 0)) := by
 unfold Qgk
 have hl : j < (Ju n l i).length := by rw [JR]; exact h
 rw [zL, zi hl, Qfv h, z7, List.foldl_append]
 rfl
theorem Qok {n : Nat} {l : List SelD} {i j : Nat} : (Qgk n l i j).1.length + (Qgk n l i j).2.length <= ZF (Ju n l i) := by
 have := QdD ((Ju n l i).take j) ([], [])
 have := Qem (Ju n l i) j
 unfold Qgk; simp only [zf] at *; omega
theorem QdP {n : Nat} {l : List SelD} {i j : Nat} (h : j = (Qa l i).length) : Qgk n l i j = (Ju n l i).foldl Vu ([], []) := by
 unfold Qgk
 rw [zN (by rw [JR]; omega)]
def QgW (n : Nat) (l : List SelD) (i : Nat) : Bs := QbU (l.getD i default).val (Ju n l i)
def Yz (l : List SelD) : Bs := if l.length = 0 then [] else sWr 2000 l 0
end
section
set_option maxRecDepth 20000
def chc (y : Bs) (n k : Nat) : Nat × Nat :=
 if y = [] then (0, n) else ((y.getD ((n + 1) % y.length) 0 + zx ((n + 1) / y.length)).toNat % k, n + 1)
def QdB : List Bs := [[], [], [], [32], [32, 32], [10], [9], [13, 10], [12]]
def Qh (y : Bs) (n : Nat) : Bs × Nat := (QdB.getD (chc y n 9).1 [], (chc y n 9).2)
def upB (c : UInt8) : UInt8 := if 97 <= c.toNat /\ c.toNat <= 122 then c - 32 else c
def upp (l : Bs) : Bs := l.map upB
def Qm (y s : Bs) (n : Nat) : Bs × Nat := (if (chc y n 4).1 = 1 then upp s else s, (chc y n 4).2)
def Zb (s : Bs) (i k : Nat) : Bs :=
 if i = 0 then (if s = [45] then [92, 45] else (Qr (s.take k ++ [120])).take ((Qr (s.take k ++ [120])).length - 1))
 else if bat s i = 45 \/ Qw (bat s i) = true then VQ (bat s i)
 else (Qr (120 :: (s.take (i + k)).drop i)).drop 1
def pnP (s : Bs) (i c k : Nat) (e : Bool) : Bs :=
 if e = true then VQ c else if i = 0 \/ (i = 1 /\ bat s 0 = 45) then Zb s i k else (Qr (120 :: (s.take (i + k)).drop i)).drop 1
def UU (y s : Bs) (i n : Nat) (out : Bs) : Bs × Nat :=
 if i < s.length /\ (Ql s i).2 ≠ 0 then
  UU y s (i + (Ql s i).2) (chc y n 6).2 (out ++ pnP s i (Ql s i).1 (Ql s i).2 (decide ((chc y n 6).1 = 1)))
 else (out, n)
 termination_by s.length - i
 decreasing_by omega
def V3 (y s : Bs) (n : Nat) : Bs × Nat := (if s = [45] then [92, 45] else (UU y s 0 n []).1, (UU y s 0 n []).2)
def ptP (y s : Bs) (q : UInt8) (i n : Nat) : Bs × Nat :=
 if (Ql s i).1 < 32 \/ (Ql s i).1 = 127 then (VQ (Ql s i).1, n)
 else if (chc y n 8).1 = 1 then (VQ (Ql s i).1, (chc y n 8).2)
 else if (Ql s i).1 = q.toNat \/ (Ql s i).1 = 92 then ([92, zx (Ql s i).1], (chc y n 8).2)
 else ((s.take (i + (Ql s i).2)).drop i, (chc y n 8).2)
def Qav (y s : Bs) (q : UInt8) (i n : Nat) (out : Bs) : Bs × Nat :=
 if i < s.length /\ (Ql s i).2 ≠ 0 then Qav y s q (i + (Ql s i).2) (ptP y s q i n).2 (out ++ (ptP y s q i n).1) else (out, n)
 termination_by s.length - i
 decreasing_by omega
def YS (y s : Bs) (q : UInt8) (n : Nat) : Bs × Nat := ((Qav y s q 0 n [q]).1 ++ [q], (Qav y s q 0 n [q]).2)
def VJ (y s : Bs) (n : Nat) : Bs × Nat :=
 if (chc y n 3).1 = 1 then YS y s 39 (chc y n 3).2
 else if (chc y n 3).1 = 2 /\ s ≠ [] then V3 y s (chc y n 3).2
 else YS y s 34 (chc y n 3).2
def ZI : List Bs := [[102, 105, 114, 115, 116, 45, 99, 104, 105, 108, 100], [108, 97, 115, 116, 45, 99, 104, 105, 108, 100], [102, 105, 114, 115, 116, 45, 111, 102, 45, 116, 121, 112, 101], [108, 97, 115, 116, 45, 111, 102, 45, 116, 121, 112, 101]]
def Y3 (y : Bs) (a b : Int) (way n : Nat) : Bs × Nat :=
 if a = 2 /\ b = 1 /\ way = 1 then Qm y [111, 100, 100] n
 else if a = 2 /\ b = 0 /\ way = 1 then Qm y [101, 118, 101, 110] n
 else if a = 0 /\ way = 1 then
  (if b < 0 then (45 :: Vi (0 - b).toNat, n) else (([[], [43]] : List Bs).getD (chc y n 2).1 [] ++ Vi b.toNat, (chc y n 2).2))
 else if b = 0 /\ way = 1 then ((QC a 0).take ((QC a 0).length - 2), n)
 else if (a = 1 \/ a = -1) /\ way = 2 then
  let c := chc y n 2; let g := Qh y c.2; let h := Qh y g.2
  (((((([[45], [], []] : List Bs).getD (a + 1).toNat [] ++ ([[110], [78]] : List Bs).getD c.1 []) ++ g.1) ++ (QN b).take 1) ++ h.1) ++ (QN b).drop 1, h.2)
 else
  let f := (QC a b).length - (QN b).length
  let g := Qh y n; let h := Qh y g.2
  (((((QC a b).take f ++ g.1) ++ ((QC a b).take (f + 1)).drop f) ++ h.1) ++ (QC a b).drop (f + 1), h.2)
def Vr (y : Bs) (x : SelD) (n : Nat) : Bs × Nat :=
 let z := if x.a = 0 /\ x.b = 1 then chc y n 2 else (0, n)
 if x.a = 0 /\ x.b = 1 /\ z.1 = 1 then (58 :: (Qm y (ZI.getD x.flag.toNat []) z.2).1, (Qm y (ZI.getD x.flag.toNat []) z.2).2)
 else
  let c := Qm y ([110, 116, 104, 45] ++ Q7.getD x.flag.toNat []) z.2; let g := Qh y c.2; let w := chc y g.2 3
  let t := Y3 y x.a x.b w.1 w.2; let h := Qh y t.2
  (58 :: (c.1 ++ (40 :: (g.1 ++ (t.1 ++ (h.1 ++ [41]))))), h.2)
def ZA (y : Bs) (x : SelD) (n : Nat) : Bs × Nat :=
 let g := Qh y n; let c := Qm y (Qr x.key) g.2; let h := Qh y c.2
 if x.op = 1 then
  let e := Qh y h.2
  (91 :: (g.1 ++ (c.1 ++ (h.1 ++ (e.1 ++ [93])))), e.2)
 else
  let v := Qh y h.2; let t := VJ y x.val v.2
  if x.flag = 1 then
   let i := chc y t.2 2; let e := Qh y i.2
   (91 :: (g.1 ++ (c.1 ++ (h.1 ++ (Vj.getD x.op.toNat [] ++ (v.1 ++ (t.1 ++ ([32] ++ (([[105], [73]] : List Bs).getD i.1 [] ++ (e.1 ++ [93]))))))))), e.2)
  else
   let e := Qh y t.2
   (91 :: (g.1 ++ (c.1 ++ (h.1 ++ (Vj.getD x.op.toNat [] ++ (v.1 ++ (t.1 ++ (e.1 ++ [93]))))))), e.2)
def Yt (y name t : Bs) (n : Nat) : Bs × Nat :=
 let c := Qm y name n; let g := Qh y c.2; let h := Qh y g.2
 (58 :: (c.1 ++ (40 :: (g.1 ++ (t ++ (h.1 ++ [41]))))), h.2)
def Qu (y : Bs) (x : SelD) (n : Nat) : Bs × Nat :=
 if x.kind = 1 then ([42], n)
 else if x.kind = 2 then Qm y (Qr x.key) n
 else if x.kind = 3 then (46 :: (V3 y x.val n).1, (V3 y x.val n).2)
 else if x.kind = 4 then (35 :: (V3 y x.val n).1, (V3 y x.val n).2)
 else if x.kind = 5 then ZA y x n
 else if x.kind = 6 then Vr y x n
 else if x.kind = 15 then Yt y YF (Qr x.val) n
 else if x.kind = 16 then Yt y Q9 (QQ x.val) n
 else if x.kind = 17 then Yt y QH (QQ x.val) n
 else Qm y (Qs x) n
def YW (y : Bs) (f : Nat -> Nat -> Bs × Nat) (st : Bool × Bs × Nat) (k : Nat) : Bool × Bs × Nat :=
 if st.1 = true then
  let g := Qh y st.2.2; let h := Qh y g.2; let r := f k h.2
  (true, (st.2.1 ++ ((g.1 ++ [44]) ++ h.1)) ++ r.1, r.2)
 else (true, st.2.1 ++ (f k st.2.2).1, (f k st.2.2).2)
def Vv (l : List SelD) (f : Nat -> Nat -> Bs × Nat) (st : (Bs × Bs) × Nat) (k : Nat) : (Bs × Bs) × Nat :=
 if knd l k = 2 then (((f k st.2).1, st.1.2), (f k st.2).2)
 else if knd l k = 1 then ((if st.1.1 = [] then [42] else st.1.1, st.1.2), st.2)
 else ((st.1.1, st.1.2 ++ (f k st.2).1), (f k st.2).2)
def QaA (t : Bs) : Bs := if t = [] then [42] else t
def YX (y : Bs) (val : Bs) (st : (Bs × Bs) × Nat) : Bs × Nat :=
 if val = [] then (QaA (st.1.1 ++ st.1.2), st.2) else (QaA (st.1.1 ++ (st.1.2 ++ ([58, 58] ++ (Qm y val st.2).1))), (Qm y val st.2).2)
def Qh3 : List Bs := [[62], [43], [126]]
def Qg (y : Bs) : Nat -> List SelD -> Nat -> Nat -> Bs × Nat
 | 0, _, _, n => ([], n)
 | m + 1, l, i, n =>
  let x := l.getD i default
  let f := Qg y m l
  if x.kind = 23 then ((Qa l i).foldl (YW y f) (false, [], n)).2
  else if x.kind = 22 then
   let a := f ((Qa l i).getD 0 0) n
   let g := Qh y a.2
   if x.op = 1 then
    let b := f ((Qa l i).getD 1 0) g.2
    (((a.1 ++ [32]) ++ g.1) ++ b.1, b.2)
   else
    let h := Qh y g.2
    let b := f ((Qa l i).getD 1 0) h.2
    ((a.1 ++ ((g.1 ++ Qh3.getD (x.op - 2).toNat []) ++ h.1)) ++ b.1, b.2)
  else if x.kind = 21 then YX y x.val ((Qa l i).foldl (Vv l f) (([], []), n))
  else if x.kind = 18 \/ x.kind = 19 \/ x.kind = 20 then
   let c := Qm y (QU.getD (x.kind - 18).toNat []) n; let g := Qh y c.2; let r := f ((Qa l i).getD 0 0) g.2; let h := Qh y r.2
   (58 :: (c.1 ++ (40 :: (g.1 ++ (r.1 ++ (h.1 ++ [41]))))), h.2)
  else Qu y x n
def VK (y : Bs) (l : List SelD) : Bs :=
 if l.length = 0 then []
 else
  let g := Qh y 0; let r := Qg y 2000 l 0 g.2; let h := Qh y r.2
  (g.1 ++ r.1) ++ h.1
end
end Go.Proofs.YtengepcafdnalaaGreatDoor
