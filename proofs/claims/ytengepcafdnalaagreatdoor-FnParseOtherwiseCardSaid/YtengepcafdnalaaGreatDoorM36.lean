/-
  Parts of the proof that the law FnParseOtherwise holds for every input (texts Wh, Wi, Wj, Xa). Conditions: none.
-/
import Derived.Test.YtengepcafdnalaaGreatDoorM35
namespace Go.Proofs.YtengepcafdnalaaGreatDoor
section
set_option maxRecDepth 20000
theorem Ur {n j : Nat} {p : Nat -> Bool} (h : j < n) (e : p j = false) : (List.range n).all p = false := by
 rw [List.all_eq_false]
 exact ⟨j, List.mem_range.2 h, by simp [e]⟩
theorem J1 {n : Nat} {p : Nat -> Bool} (e : ∀ j, j < n -> p j = true) : (List.range n).all p = true := by
 rw [List.all_eq_true]
 exact fun j hj => e j (List.mem_range.1 hj)
theorem J2 {n : Nat} {p : Nat -> Bool} : (List.range n).all p = true ↔ ∀ j, j < n -> p j = true := by
 rw [List.all_eq_true]
 exact ⟨fun h j hj => h j (List.mem_range.2 hj), fun h j hj => h j (List.mem_range.1 hj)⟩
def Qgx (f : Nat -> Int -> Bool) (l : List SelD) (fin : Int) (k : Nat) : Bool :=
 if (k : Int) < fin then
  (if f k fin = true then (if 1 <= (l.getD k default).size then Qgx f l fin (k + (l.getD k default).size.toNat) else false) else false)
 else true
 termination_by (fin - k).toNat
 decreasing_by omega
def szB : Nat -> List SelD -> Nat -> Int -> Bool
 | 0, _, _, _ => false
 | m + 1, l, i, e => if (l.getD i default).size < 1 \/ e - i < (l.getD i default).size then false else Qgx (szB m l) l (i + (l.getD i default).size) (i + 1)
theorem UF {m : Nat} {l : List SelD} {i : Nat} {e : Int} (h : szB m l i e = true) : 1 <= (l.getD i default).size /\ (i : Int) + (l.getD i default).size <= e := by
 cases m with
 | zero => simp [szB] at h
 | succ m =>
  rw [szB] at h
  split at h
  cases h
  omega
def noSz (x : SelD) : SelD := { x with size := 0 }
theorem Qpl {l : List SelD} {i n : Nat} {ks : List ST} (hi : i < l.length) (hn : n = (ST.flats ks).length + 1) (hs : (l.getD i default).size = (n : Int)) (hk : (l.drop (i + 1)).take (n - 1) = ST.flats ks) :
 (l.drop i).take n = (ST.mk (noSz (l.getD i default)) ks).flat := by
 have e : l.drop i = l.getD i default :: l.drop (i + 1) := by
  rw [List.drop_eq_getElem_cons hi]
  simp [List.getD_eq_getElem?_getD, List.getElem?_eq_getElem hi]
 rw [e, hn, List.take_succ_cons, ST.flat, QB]
 rw [hn] at hk hs
 simp only [Nat.add_sub_cancel] at hk
 rw [hk]
 congr 1
 generalize l.getD i default = y at hs
 obtain ⟨_, _, _, _, _, _, _, _⟩ := y
 simp only [noSz]
 simp only at hs
 rw [hs]
 simp
mutual
def Zs : ST -> Prop
 | .mk x ks => x.size = 0 /\ Zss ks
def Zss : List ST -> Prop
 | [] => True
 | t :: l => Zs t /\ Zss l
end
theorem QcE {l : List SelD} : ∀ (m i : Nat) (e : Int), szB m l i e = true -> e <= l.length -> ∃ T : ST, (l.drop i).take (l.getD i default).size.toNat = T.flat /\ Zs T /\ (l.getD i default).size.toNat = T.flat.length
 | 0, i, e, h, _ => by simp [szB] at h
 | m + 1, i, e, h, he => by
  obtain ⟨q1, q2⟩ := UF h
  rw [szB] at h
  split at h
  cases h
  rename_i h0
  have kids : ∀ (d k : Nat), (i + (l.getD i default).size - k).toNat = d -> (k : Int) <= i + (l.getD i default).size -> Qgx (szB m l) l (i + (l.getD i default).size) k = true ->
   ∃ ks : List ST, (l.drop k).take d = ST.flats ks /\ Zss ks /\ d = (ST.flats ks).length := by
   intro d
   induction d using Nat.strongRecOn with
   | _ d ih =>
    intro k hd hk hg
    rw [Qgx] at hg
    split at hg
    . rename_i hlt
      split at hg
      . rename_i hf
        obtain ⟨s1, s2⟩ := UF hf
        obtain ⟨T, t1, t2, t3⟩ := QcE m k _ hf (by omega)
        rw [if_pos s1] at hg
        obtain ⟨ks, k1, k2, k3⟩ := ih (d - (l.getD k default).size.toNat) (by omega) (k + (l.getD k default).size.toNat) (by omega) (by omega) hg
        refine ⟨T :: ks, ?_, ⟨t2, k2⟩, ?_⟩
        . rw [ST.flats, <- t1, <- k1, <- List.drop_drop]
          rw [show d = (l.getD k default).size.toNat + (d - (l.getD k default).size.toNat) by omega, List.take_add]
          congr 2
          omega
        rw [ST.flats, List.length_append]; omega
      cases hg
    refine ⟨[], ?_, trivial, ?_⟩
    . rw [show d = 0 by omega]; simp [ST.flats]
    simp [ST.flats]; omega
  obtain ⟨ks, k1, k2, k3⟩ := kids ((l.getD i default).size.toNat - 1) (i + 1) (by omega) (by omega) h
  have hfl := Qpl (l := l) (i := i) (n := (l.getD i default).size.toNat) (ks := ks) (by omega) (by omega) (by omega) k1
  refine ⟨_, hfl, ⟨rfl, k2⟩, ?_⟩
  rw [<- hfl, List.length_take, List.length_drop]
  omega
def JH (l : List SelD) (i : Nat) : Prop := ∃ (T : ST) (rest : List SelD), l.drop i = T.flat ++ rest
mutual
theorem QjB {l : List SelD} : ∀ (T : ST) (i : Nat) (rest : List SelD), l.drop i = T.flat ++ rest -> ∀ j, i <= j -> j < i + T.flat.length -> JH l j
 | .mk x ks, i, rest, h, j, h1, h2 => by
  by_cases e : j = i
  subst e; exact ⟨_, rest, h⟩
  obtain ⟨_, hd, _, _, _⟩ := Vd h
  rw [ST.flat, QB, List.length_cons] at h2
  exact Qg7 ks (i + 1) rest hd j (by omega) (by omega)
theorem Qg7 {l : List SelD} : ∀ (ks : List ST) (i : Nat) (rest : List SelD), l.drop i = ST.flats ks ++ rest -> ∀ j, i <= j -> j < i + (ST.flats ks).length -> JH l j
 | [], i, rest, h, j, h1, h2 => by simp [ST.flats] at h2; omega
 | t :: ks, i, rest, h, j, h1, h2 => by
  rw [ST.flats, List.append_assoc] at h
  rw [ST.flats, List.length_append] at h2
  by_cases e : j < i + t.flat.length
  exact QjB t i _ h j h1 e
  exact Qg7 ks _ rest (YE h) j (by omega) (by omega)
end
theorem JH.kids {l : List SelD} {i : Nat} (h : JH l i) : i < l.length /\ (0 <= (l.getD i default).size /\ (i : Int) + (l.getD i default).size <= l.length) /\ (∀ k, k ∈ Qc l i -> k < l.length /\ (l.getD k default).size <= l.length /\ 0 <= (l.getD k default).size /\ (k : Int) + (l.getD k default).size <= l.length /\ JH l k) /\ (Qc l i).length <= l.length := by
 obtain ⟨⟨x, ks⟩, rest, h⟩ := h
 obtain ⟨q1, q2, q3, q4, q5⟩ := Vd h
 refine ⟨q3, ?_, fun k hk => ?_, ?_⟩
 rw [q4]; simp only; omega
 . rw [q1] at hk
   obtain ⟨⟨y, ys⟩, r, hT, _⟩ := Qbv ks (i + 1) rest q2 (Nat.le_refl _) k hk
   obtain ⟨p1, p2, p3, p4, p5⟩ := Vd hT
   refine ⟨p3, ?_, ?_, ?_, ⟨_, r, hT⟩⟩
   all_goals rw [p4]
   all_goals simp only
   all_goals omega
 have := Qdh l (i + (l.getD i default).size) (i + 1)
 unfold Qc; omega
def knd (l : List SelD) (k : Nat) : Int := (l.getD k default).kind
def shB (l : List SelD) (i : Nat) : Bool :=
 if knd l i = 23 then (List.range (Qc l i).length).all (fun j => Q9 (knd l ((Qc l i).getD j 0))) && decide (0 < (Qc l i).length)
 else if knd l i = 18 \/ knd l i = 19 \/ knd l i = 20 then decide ((Qc l i).length = 1) && decide (knd l ((Qc l i).getD 0 0) = 23) && !((Ys l i).any Yi)
 else if knd l i = 21 then (List.range (Qc l i).length).all (fun j => Qp (knd l ((Qc l i).getD j 0)) && !(decide (knd l ((Qc l i).getD j 0) = 2) && decide (0 < j)))
 else if knd l i = 22 then decide ((Qc l i).length = 2) && Q9 (knd l ((Qc l i).getD 0 0)) && Q9 (knd l ((Qc l i).getD 1 0)) && !decide (knd l ((Qc l i).getD 1 0) = 22) && !((Ys l ((Qc l i).getD 0 0)).any Yi)
 else Qp (knd l i) && decide ((Qc l i).length = 0)
def UM (l : List SelD) : Bool :=
 if l.length = 0 \/ (l.getD 0 default).size ≠ (l.length : Nat) \/ szB 2000 l 0 (l.length : Nat) = false then false
 else (List.range l.length).all (fun i => Z7 (l.getD i default) && shB l i) && (decide (knd l 0 = 23) || Q9 (knd l 0))
theorem Qbp {l : List SelD} {i : Nat} {T : ST} {rest : List SelD} (h : l.drop i = T.flat ++ rest) : Ys l i = T.flat := by
 obtain ⟨x, ks⟩ := T
 obtain ⟨q1, q2, q3, q4, q5⟩ := Vd h
 have hl : (ST.mk x ks).flat.length = (ST.flats ks).length + 1 := by simp [ST.flat, QB]
 unfold Ys
 rw [if_neg (by omega), q4]
 simp only
 rw [show ((i : Int) + (((ST.flats ks).length : Nat) + 1)).toNat = i + (ST.mk x ks).flat.length by omega]
 rw [List.drop_take, h, Nat.add_sub_cancel_left, List.take_left]
theorem Jx {l : List SelD} : ∀ (ks : List ST) (k : Nat) (rest : List SelD), l.drop k = ST.flats ks ++ rest -> (QH k ks).map (knd l) = ks.map fun t => t.node.kind
 | [], k, rest, h => by simp [QH]
 | t :: ks, k, rest, h => by
  rw [ST.flats, List.append_assoc] at h
  obtain ⟨x, r, e1, e2, e3⟩ := QbF t
  have h0 : l.drop k = x :: (r ++ (ST.flats ks ++ rest)) := by rw [h, e1]; rfl
  rw [QH, List.map_cons, List.map_cons, Jx ks _ rest (YE h)]
  congr 1
  unfold knd
  rw [Qan h0, e3]
theorem Jd {l : List SelD} {K : List Nat} {ks : List ST} (h : K.map (knd l) = ks.map fun t => t.node.kind) {j : Nat} (hj : j < ks.length) : knd l (K.getD j 0) = (ks[j]).node.kind := by
 have hl : K.length = ks.length := by simpa using congrArg List.length h
 have := congrArg (fun q => q[j]?) h
 simp only [List.getElem?_map, List.getElem?_eq_getElem hj, List.getElem?_eq_getElem (show j < K.length by omega), Option.map_some, Option.some.injEq] at this
 simpa [List.getD_eq_getElem?_getD, List.getElem?_eq_getElem (show j < K.length by omega)] using this
theorem JS {l : List SelD} {i : Nat} {x : SelD} {ks : List ST} {rest : List SelD} (h : l.drop i = (ST.mk x ks).flat ++ rest) : knd l i = x.kind := by
 unfold knd; rw [(Vd h).2.2.2.1]
theorem shB_T {l : List SelD} {i : Nat} {x : SelD} {ks : List ST} {rest : List SelD} (h : l.drop i = (ST.mk x ks).flat ++ rest) (hb : shB l i = true) : UB x ks := by
 obtain ⟨q1, q2, q3, q4, q5⟩ := Vd h
 have hk := Jx ks (i + 1) rest q2
 rw [<- q1] at hk
 have hl : (Qc l i).length = ks.length := by simpa using congrArg List.length hk
 unfold shB at hb
 rw [JS h, hl] at hb
 unfold UB
 by_cases h23 : x.kind = 23
 rw [if_pos h23] at hb ⊢
 rw [Bool.and_eq_true, J2, decide_eq_true_eq] at hb
 refine ⟨fun k hkm => ?_, fun e => by rw [e] at hb; simp at hb⟩
 obtain ⟨j, hj, rfl⟩ := List.getElem_of_mem hkm
 have := hb.1 j hj
 rwa [Jd hk hj] at this
 rw [if_neg h23] at hb ⊢
 by_cases h18 : x.kind = 18 \/ x.kind = 19 \/ x.kind = 20
 rw [if_pos h18] at hb ⊢
 simp only [Bool.and_eq_true, decide_eq_true_eq, Bool.not_eq_true'] at hb
 obtain ⟨⟨b1, b2⟩, b3⟩ := hb
 obtain ⟨g, rfl⟩ := List.length_eq_one_iff.1 b1
 rw [Jd hk (by simp)] at b2
 refine ⟨⟨g, rfl, b2⟩, ?_⟩
 rw [Qbp h, ST.flat, QB, List.any_cons, Bool.or_eq_false_iff] at b3
 exact b3.2
 rw [if_neg h18] at hb ⊢
 by_cases h21 : x.kind = 21
 rw [if_pos h21] at hb ⊢
 rw [J2] at hb
 refine ⟨fun k hkm => ?_, fun k hkm => ?_⟩
 obtain ⟨j, hj, rfl⟩ := List.getElem_of_mem hkm
 have := hb j hj
 rw [Jd hk hj, Bool.and_eq_true] at this
 exact this.1
 obtain ⟨j, hj, rfl⟩ := List.getElem_of_mem hkm
 have hj' : j + 1 < ks.length := by rw [List.length_tail] at hj; omega
 have := hb (j + 1) hj'
 rw [Jd hk hj', Bool.and_eq_true] at this
 have := this.2
 simp only [Bool.not_eq_true', Bool.and_eq_false_imp, decide_eq_true_eq, decide_eq_false_iff_not] at this
 intro e
 refine this ?_ (by omega)
 simpa [List.getElem_tail] using e
 rw [if_neg h21] at hb ⊢
 by_cases h22 : x.kind = 22
 rw [if_pos h22] at hb ⊢
 simp only [Bool.and_eq_true, decide_eq_true_eq, Bool.not_eq_true', decide_eq_false_iff_not] at hb
 obtain ⟨⟨⟨⟨b1, b2⟩, b3⟩, b4⟩, b5⟩ := hb
 obtain ⟨a, b, rfl⟩ : ∃ a b, ks = [a, b] := by
  match ks, b1 with
  | [a, b], _ => exact ⟨a, b, rfl⟩
 rw [Jd hk (by simp)] at b2
 rw [Jd hk (by simp)] at b3 b4
 refine ⟨a, b, rfl, b2, b3, b4, ?_⟩
 have e0 : (Qc l i).getD 0 0 = i + 1 := by rw [q1]; rfl
 rw [e0] at b5
 rw [ST.flats, List.append_assoc] at q2
 rw [Qbp q2] at b5
 exact b5
 rw [if_neg h22] at hb ⊢
 simp only [Bool.and_eq_true, decide_eq_true_eq] at hb
 exact ⟨hb.1, List.length_eq_zero_iff.1 hb.2⟩
mutual
theorem Qjl {l : List SelD} (hall : ∀ j, j < l.length -> Z7 (l.getD j default) = true /\ shB l j = true) : ∀ (T : ST) (i : Nat) (rest : List SelD), l.drop i = T.flat ++ rest -> Zs T -> Yl T
 | .mk x ks, i, rest, h, hz => by
  obtain ⟨q1, q2, q3, q4, q5⟩ := Vd h
  obtain ⟨a1, a2⟩ := hall i q3
  refine ⟨?_, hz.1, shB_T h a2, QgP hall ks (i + 1) rest q2 hz.2⟩
  rw [q4] at a1
  exact a1
theorem QgP {l : List SelD} (hall : ∀ j, j < l.length -> Z7 (l.getD j default) = true /\ shB l j = true) : ∀ (ks : List ST) (i : Nat) (rest : List SelD), l.drop i = ST.flats ks ++ rest -> Zss ks -> ZI ks
 | [], _, _, _, _ => trivial
 | t :: ks, i, rest, h, hz => by
  rw [ST.flats, List.append_assoc] at h
  exact ⟨Qjl hall t i _ h hz.1, QgP hall ks _ rest (YE h) hz.2⟩
end
theorem Qmf {l : List SelD} (h : UM l = true) : ∃ T : ST, l = T.flat /\ Yl T /\ (T.node.kind = 23 \/ Q9 T.node.kind = true) := by
 unfold UM at h
 split at h
 cases h
 rename_i h0
 simp only [not_or, Decidable.not_not, Bool.not_eq_false] at h0
 obtain ⟨h1, h2, h3⟩ := h0
 rw [Bool.and_eq_true, J2, Bool.or_eq_true, decide_eq_true_eq] at h
 obtain ⟨T, t1, t2, t3⟩ := QcE 2000 0 _ h3 (Int.le_refl _)
 rw [h2] at t1
 have e : l = T.flat := by simpa using t1
 have e' : l.drop 0 = T.flat ++ [] := by simpa using e
 refine ⟨T, e, Qjl (fun j hj => by have := h.1 j hj; rwa [Bool.and_eq_true] at this) T 0 [] e' t2, ?_⟩
 obtain ⟨x, ks⟩ := T
 have := h.2
 rw [JS e'] at this
 exact this
theorem QkB {l : List SelD} (h2 : (l.getD 0 default).size = (l.length : Nat)) (h3 : szB 2000 l 0 (l.length : Nat) = true) : ∀ j, j < l.length -> JH l j := by
 intro j hj
 obtain ⟨T, t1, t2, t3⟩ := QcE 2000 0 _ h3 (Int.le_refl _)
 rw [h2] at t1
 have e : l = T.flat := by simpa using t1
 exact QjB T 0 [] (by simpa using e) j (by omega) (by rw [<- e]; omega)
end
section
set_option maxRecDepth 20000
def wtN (x : SelD) : Nat := 100 + 4 * (x.key.length + x.val.length)
def wtL : List SelD -> Nat
 | [] => 0
 | x :: l => wtN x + wtL l
theorem QaU : ∀ (a b : List SelD), wtL (a ++ b) = wtL a + wtL b
 | [], b => by simp [wtL]
 | x :: a, b => by simp only [List.cons_append, wtL, QaU a b]; omega
theorem Qgp (l : List SelD) (i : Nat) : wtL (l.drop i) <= wtL l := by
 have := QaU (l.take i) (l.drop i)
 rw [List.take_append_drop] at this
 omega
theorem Qgo (x : SelD) (ks : List ST) : wtL (ST.mk x ks).flat = wtN x + wtL (ST.flats ks) := by
 rw [ST.flat, QB, wtL]; rfl
theorem Y9 {c : Nat} (h : c < 256) : (VR c).length <= 4 := by
 obtain ⟨ds, e1, _, _, _, e5⟩ := Way.Qlg c 2 [] (by simpa using h)
 unfold VR
 rw [e1]
 simp; omega
theorem Qcx (c : UInt8) : c.toNat < 256 := c.toNat_lt
theorem QoN (h i : Nat) (c : UInt8) : (nmP h i c).length <= 4 := by
 unfold nmP
 have := Y9 (Qcx c)
 split
 exact this
 split <;> simp
theorem QjE (h : Nat) : ∀ (i : Nat) (u : Bs), (nmF h i u).length <= 4 * u.length
 | _, [] => by simp [nmF]
 | i, c :: u => by
  have := QoN h i c
  have := QjE h (i + 1) u
  rw [nmF, List.length_append, List.length_cons]; omega
theorem VL (s : Bs) : (Qs s).length <= 4 * s.length := by
 unfold Qs
 split
 rename_i h; subst h; simp
 exact QjE _ 0 s
theorem Qrs (c : UInt8) : (qP c).length <= 4 := by
 unfold qP
 have := Y9 (Qcx c)
 split
 exact this
 split <;> simp
theorem Qmo : ∀ u : Bs, (qF u).length <= 4 * u.length
 | [] => by simp [qF]
 | c :: u => by
  have := Qrs c
  have := Qmo u
  rw [qF, List.length_append, List.length_cons]; omega
theorem Jw (s : Bs) : (QQ s).length <= 4 * s.length + 2 := by
 have := Qmo s
 unfold QQ
 simp; omega
theorem Qkf : ∀ (k n : Nat), n < 10 ^ k -> 1 <= k -> (Vs n).length <= k
 | 0, n, _, h => by omega
 | k + 1, n, h, _ => by
  rw [Vs]
  split
  simp; omega
  rename_i hn
  rw [Nat.pow_succ] at h
  have hk : 1 <= k := by
   rcases k with _ | k
   simp at h; omega
   omega
  have h1 := Qkf k (n / 10) (by omega) hk
  have h2 : (Vs (n % 10)).length <= 1 := by rw [Vs, if_pos (Nat.mod_lt _ (by decide))]; simp; omega
  rw [List.length_append]; omega
theorem YD {n : Nat} (h : n <= 1000000000000000000) : (Vs n).length <= 19 := Qkf 19 n (by omega) (by decide)
theorem ZK {n : Int} (h : -100000000000000000 <= n /\ n <= 100000000000000000) : (QP n).length <= 20 := by
 unfold QP
 split
 have := YD (n := (-n).toNat) (by omega)
 simp; omega
 have := YD (n := n.toNat) (by omega)
 simp; omega
theorem YR {a b : Int} (ha : -100000000000000000 <= a /\ a <= 100000000000000000) (hb : -100000000000000000 <= b /\ b <= 100000000000000000) : (QF a b).length <= 41 := by
 have h1 := ZK hb
 have h2 := YD (n := (-a).toNat) (by omega)
 have h3 := YD (n := a.toNat) (by omega)
 unfold QF
 split <;> simp <;> omega
theorem QY {l : List Bs} {n : Nat} (h : ∀ t ∈ l, t.length <= n) (i : Nat) : (l.getD i []).length <= n := by
 rw [List.getD_eq_getElem?_getD]
 by_cases hi : i < l.length
 rw [List.getElem?_eq_getElem hi]; exact h _ (List.getElem_mem hi)
 rw [List.getElem?_eq_none (by omega)]; simp
theorem J3 {x : SelD} (h : -100000000000000000 <= x.a /\ x.a <= 100000000000000000) (h' : -100000000000000000 <= x.b /\ x.b <= 100000000000000000) : (Qq x).length + 10 <= 100 + 4 * (x.key.length + x.val.length) := by
 have k1 := VL x.key
 have k2 := VL x.val
 have k3 := Jw x.val
 have k4 := YR h h'
 have s1 := QY (l := Vz) (n := 2) (by decide) x.op.toNat
 have s2 := QY (l := ([[], [32, 105]] : List Bs)) (n := 2) (by decide) x.flag.toNat
 have s3 := QY (l := Q3) (n := 12) (by decide) x.flag.toNat
 have s4 := QY (l := VP) (n := 7) (by decide) x.flag.toNat
 have s5 := QY (l := Qw) (n := 8) (by decide) (x.kind - 8).toNat
 unfold Qq
 repeat' split
 all_goals (first | omega | (simp only [List.length_append, List.length_cons, List.length_nil]; omega))
def UA : List (Int × Bs) -> Nat
 | [] => 0
 | t :: l => t.2.length + 2 + UA l
theorem QiF (t : Bs) (l : List Bs) : QjS (t :: l) = t ++ l.flatMap fun u => [44, 32] ++ u := rfl
theorem QeN : ∀ l : List (Int × Bs), ((l.map Prod.snd).flatMap fun u => [44, 32] ++ u).length = UA l
 | [] => rfl
 | t :: l => by
  have := QeN l
  rw [List.map_cons, List.flatMap_cons, List.length_append, this, UA]
  simp only [List.length_append, List.length_cons, List.length_nil]; omega
theorem Qlc (l : List (Int × Bs)) : (QjS (l.map Prod.snd)).length <= UA l := by
 match l with
 | [] => simp [QjS]
 | t :: l =>
  rw [List.map_cons, QiF, List.length_append, QeN, UA]; omega
theorem Qhu : ∀ (l : List (Int × Bs)) (p : Bs × Bs), (l.foldl YH p).1.length + (l.foldl YH p).2.length <= p.1.length + p.2.length + UA l
 | [], p => by simp [UA]
 | t :: l, p => by
  have := Qhu l (YH p t)
  have hs : (YH p t).1.length + (YH p t).2.length <= p.1.length + p.2.length + t.2.length + 2 := by
   unfold YH
   split
   simp only; omega
   split
   simp only
   by_cases h : p.1 = []
   rw [if_pos h]; simp
   omega
   rw [if_neg h]; omega
   simp only [List.length_append]; omega
  rw [List.foldl_cons, UA]
  omega
theorem QiP (val : Bs) (p : Bs × Bs) : (QdG val p).length <= p.1.length + p.2.length + 4 * val.length + 3 := by
 have := VL val
 have hX : (if val = [] then p.2 else p.2 ++ ([58, 58] ++ Qs val)).length <= p.2.length + 4 * val.length + 2 := by
  by_cases h : val = []
  rw [if_pos h]; omega
  rw [if_neg h]; simp only [List.length_append, List.length_cons, List.length_nil]; omega
 unfold QdG
 generalize (if val = [] then p.2 else p.2 ++ ([58, 58] ++ Qs val)) = X at hX ⊢
 split
 simp only [List.length_cons, List.length_nil]; omega
 rw [List.length_append]; omega
theorem QlH {l : List (Int × Bs)} : (l.getD 0 (0, [])).2.length + (l.getD 1 (0, [])).2.length <= UA l := by
 match l with
 | [] => simp
 | [t] => first | (simp [UA]; done) | (simp [UA]; omega)
 | t :: u :: l => first | (simp [UA]; done) | (simp [UA]; omega)
theorem QhT {x : SelD} {ts : List (Int × Bs)} (h : -100000000000000000 <= x.a /\ x.a <= 100000000000000000) (h' : -100000000000000000 <= x.b /\ x.b <= 100000000000000000) : (ZW x ts).length + 10 <= wtN x + UA ts := by
 have k1 := Qlc ts
 have k2 := J3 h h'
 have k3 := QiP x.val (ts.foldl YH ([], []))
 have k4 := Qhu ts ([], [])
 have s1 := QY (l := Qf3) (n := 3) (by decide) x.op.toNat
 have s2 := QY (l := Vc) (n := 8) (by decide) (x.kind - 18).toNat
 have a0 := QlH (l := ts)
 unfold ZW Qi5 wtN
 simp only [List.length_nil] at k4
 repeat' split
 all_goals (first | omega | (simp only [List.length_append, List.length_cons, List.length_nil]; omega))
end
section
set_option maxRecDepth 20000
def sWr : Nat -> List SelD -> Nat -> Bs
 | 0, _, _ => []
 | n + 1, l, i => ZW (l.getD i default) ((Qc l i).map fun k => (knd l k, sWr n l k))
def rowT (n : Nat) (l : List SelD) (i : Nat) : List (Int × Bs) := (Qc l i).map fun k => (knd l k, sWr n l k)
def WAt (l : List SelD) (n k : Nat) : Prop := ∃ (T : ST) (rest : List SelD), l.drop k = T.flat ++ rest /\ T.ht <= n /\ Yl T
theorem Qi6 {l : List SelD} {n : Nat} : ∀ (ks : List ST) (k : Nat) (rest : List SelD), l.drop k = ST.flats ks ++ rest -> ST.hts ks <= n -> ZI ks -> ∀ p ∈ QH k ks, WAt l n p
 | [], k, rest, h, hn, hr, p, hp => by simp [QH] at hp
 | t :: ks, k, rest, h, hn, hr, p, hp => by
  rw [ST.flats, List.append_assoc] at h
  rw [ST.hts] at hn
  simp only [QH, List.mem_cons] at hp
  rcases hp with hp | hp
  subst hp; exact ⟨t, _, h, by omega, hr.1⟩
  exact Qi6 ks _ rest (YE h) (by omega) hr.2 p hp
theorem QaG {l : List SelD} {n : Nat} (ih : ∀ i T rest, l.drop i = ST.flat T ++ rest -> T.ht <= n -> sWr n l i = wr T) : ∀ (ks : List ST) (k : Nat) (rest : List SelD), l.drop k = ST.flats ks ++ rest -> ST.hts ks <= n ->
 ((QH k ks).map fun k => (knd l k, sWr n l k)) = wrs ks
 | [], k, rest, h, hn => by simp [QH, wrs]
 | t :: ks, k, rest, h, hn => by
  rw [ST.flats, List.append_assoc] at h
  rw [ST.hts] at hn
  obtain ⟨x, xs⟩ := t
  simp only [QH, wrs, List.map_cons]
  rw [ih k _ _ h (by omega), QaG ih ks _ rest (YE h) (by omega), JS h]
  rfl
theorem Qfi (l : List SelD) : ∀ (n i : Nat) (T : ST) (rest : List SelD), l.drop i = T.flat ++ rest -> T.ht <= n -> sWr n l i = wr T
 | 0, i, T, rest, h, hn => by obtain ⟨x, ks⟩ := T; simp [ST.ht] at hn
 | n + 1, i, .mk x ks, rest, h, hn => by
  obtain ⟨h1, h2, h3, h4, h5⟩ := Vd h
  rw [ST.ht] at hn
  have h6 := QaG (l := l) (n := n) (fun i T rest => Qfi l n i T rest) ks (i + 1) rest h2 (by omega)
  rw [sWr, h1, h6, h4, wr]
  rfl
theorem Qov {l : List SelD} {n i : Nat} {x : SelD} {ks : List ST} {rest : List SelD} (h : l.drop i = (ST.mk x ks).flat ++ rest) (hn : ST.hts ks <= n) : rowT n l i = wrs ks := by
 obtain ⟨h1, h2, h3, h4, h5⟩ := Vd h
 unfold rowT
 rw [h1]
 exact QaG (fun i T rest => Qfi l n i T rest) ks (i + 1) rest h2 hn
mutual
theorem QhS : ∀ T : ST, Yl T -> (wr T).length + 10 <= wtL T.flat
 | .mk x ks, ⟨hf, _, _, hk⟩ => by
  have h1 := Qe5 ks hk
  have hr := (Way.fld hf).rng
  have h2 := QhT (x := x) (ts := wrs ks) (by omega) (by omega)
  rw [Qgo, wr]
  omega
theorem Qe5 : ∀ ks : List ST, ZI ks -> UA (wrs ks) <= wtL (ST.flats ks)
 | [], _ => by simp [wrs, UA]
 | t :: ks, ⟨ht, hk⟩ => by
  have h1 := QhS t ht
  have h2 := Qe5 ks hk
  rw [wrs, UA, ST.flats, QaU]
  simp only
  omega
end
theorem WAt.len {l : List SelD} {n k : Nat} (h : WAt l n k) : (sWr n l k).length <= wtL l := by
 obtain ⟨T, rest, h1, h2, h3⟩ := h
 have q := QhS T h3
 have q2 := Qgp l k
 rw [h1, QaU] at q2
 rw [Qfi l n k T rest h1 h2]
 omega
theorem WAt.kids {l : List SelD} {n i : Nat} (h : WAt l (n + 1) i) : JH l i /\ (∀ k ∈ Qc l i, WAt l n k) /\ UA (rowT n l i) <= wtL l /\ Way.Fld (l.getD i default) /\ (l.getD i default).key.length + (l.getD i default).val.length <= wtL l /\
 (knd l i = 22 -> (Qc l i).length = 2) /\ ((knd l i = 18 \/ knd l i = 19 \/ knd l i = 20) -> (Qc l i).length = 1) /\ (knd l i ≠ 23 -> knd l i ≠ 22 -> knd l i ≠ 21 -> ¬ (knd l i = 18 \/ knd l i = 19 \/ knd l i = 20) -> Qp (knd l i) = true) := by
 obtain ⟨⟨x, ks⟩, rest, h1, h2, h3⟩ := h
 have hn : JH l i := ⟨_, rest, h1⟩
 obtain ⟨q1, q2, q3, q4, q5⟩ := Vd h1
 rw [ST.ht] at h2
 obtain ⟨hf, hz, hs, hk⟩ := h3
 have F := Way.fld hf
 have q6 := Qgp l i
 rw [h1, QaU, Qgo] at q6
 have hkl : (Qc l i).length = ks.length := by
  have := Jx ks (i + 1) rest q2
  rw [<- q1] at this
  simpa using congrArg List.length this
 refine ⟨hn, ?_, ?_, ?_, ?_, ?_, ?_, ?_⟩
 rw [q1]; exact Qi6 ks (i + 1) rest q2 (by omega) hk
 rw [Qov h1 (by omega)]
 have := Qe5 ks hk
 omega
 rw [q4]
 exact { kz := F.kz, vz := F.vz, low := F.low, key := F.key, nokey := F.nokey, name := F.name, val := F.val, num := F.num, rng := F.rng, attr := F.attr, comb := F.comb, nth := F.nth, only := F.only, other := F.other }
 rw [q4]; simp only
 unfold wtN at q6
 omega
 intro e
 rw [JS h1] at e
 unfold UB at hs
 rw [if_neg (by omega), if_neg (by omega), if_neg (by omega), if_pos e] at hs
 obtain ⟨a, b, rfl, _⟩ := hs
 rw [hkl]; rfl
 intro e
 rw [JS h1] at e
 unfold UB at hs
 rw [if_neg (by omega), if_pos e] at hs
 obtain ⟨⟨g, rfl, _⟩, _⟩ := hs
 rw [hkl]; rfl
 intro e1 e2 e3 e4
 rw [JS h1] at e1 e2 e3 e4 ⊢
 unfold UB at hs
 rw [if_neg e1, if_neg e4, if_neg e3, if_neg e2] at hs
 exact hs.1
def QcB (l : List SelD) : Bs := if l.length = 0 then [] else sWr 2000 l 0
end
section
set_option maxRecDepth 20000
def chc (y : Bs) (n k : Nat) : Nat × Nat :=
 if y = [] then (0, n) else ((y.getD ((n + 1) % y.length) 0 + UInt8.ofNat ((n + 1) / y.length)).toNat % k, n + 1)
def Qds : List Bs := [[], [], [], [32], [32, 32], [10], [9], [13, 10], [12]]
def Qh (y : Bs) (n : Nat) : Bs × Nat := (Qds.getD (chc y n 9).1 [], (chc y n 9).2)
def upB (c : UInt8) : UInt8 := if 97 <= c.toNat /\ c.toNat <= 122 then c - 32 else c
def upp (l : Bs) : Bs := l.map upB
def Ql (y s : Bs) (n : Nat) : Bs × Nat := (if (chc y n 4).1 = 1 then upp s else s, (chc y n 4).2)
def Zi (s : Bs) (i k : Nat) : Bs :=
 if i = 0 then (if s = [45] then [92, 45] else (Qs (s.take k ++ [120])).take ((Qs (s.take k ++ [120])).length - 1))
 else if bat s i = 45 \/ Qy (bat s i) = true then VR (bat s i)
 else (Qs (120 :: (s.take (i + k)).drop i)).drop 1
def pnP (s : Bs) (i c k : Nat) (e : Bool) : Bs :=
 if e = true then VR c else if i = 0 \/ (i = 1 /\ bat s 0 = 45) then Zi s i k else (Qs (120 :: (s.take (i + k)).drop i)).drop 1
def UO (y s : Bs) (i n : Nat) (out : Bs) : Bs × Nat :=
 if i < s.length /\ (Qk s i).2 ≠ 0 then
  UO y s (i + (Qk s i).2) (chc y n 6).2 (out ++ pnP s i (Qk s i).1 (Qk s i).2 (decide ((chc y n 6).1 = 1)))
 else (out, n)
 termination_by s.length - i
 decreasing_by omega
def V4 (y s : Bs) (n : Nat) : Bs × Nat := (if s = [45] then [92, 45] else (UO y s 0 n []).1, (UO y s 0 n []).2)
def ptP (y s : Bs) (q : UInt8) (i n : Nat) : Bs × Nat :=
 if (Qk s i).1 < 32 \/ (Qk s i).1 = 127 then (VR (Qk s i).1, n)
 else if (chc y n 8).1 = 1 then (VR (Qk s i).1, (chc y n 8).2)
 else if (Qk s i).1 = q.toNat \/ (Qk s i).1 = 92 then ([92, UInt8.ofNat (Qk s i).1], (chc y n 8).2)
 else ((s.take (i + (Qk s i).2)).drop i, (chc y n 8).2)
def Qar (y s : Bs) (q : UInt8) (i n : Nat) (out : Bs) : Bs × Nat :=
 if i < s.length /\ (Qk s i).2 ≠ 0 then Qar y s q (i + (Qk s i).2) (ptP y s q i n).2 (out ++ (ptP y s q i n).1) else (out, n)
 termination_by s.length - i
 decreasing_by omega
def YV (y s : Bs) (q : UInt8) (n : Nat) : Bs × Nat := ((Qar y s q 0 n [q]).1 ++ [q], (Qar y s q 0 n [q]).2)
def VK (y s : Bs) (n : Nat) : Bs × Nat :=
 if (chc y n 3).1 = 1 then YV y s 39 (chc y n 3).2
 else if (chc y n 3).1 = 2 /\ s ≠ [] then V4 y s (chc y n 3).2
 else YV y s 34 (chc y n 3).2
def ZL : List Bs := [[102, 105, 114, 115, 116, 45, 99, 104, 105, 108, 100], [108, 97, 115, 116, 45, 99, 104, 105, 108, 100], [102, 105, 114, 115, 116, 45, 111, 102, 45, 116, 121, 112, 101], [108, 97, 115, 116, 45, 111, 102, 45, 116, 121, 112, 101]]
def Zb (y : Bs) (a b : Int) (way n : Nat) : Bs × Nat :=
 if a = 2 /\ b = 1 /\ way = 1 then Ql y [111, 100, 100] n
 else if a = 2 /\ b = 0 /\ way = 1 then Ql y [101, 118, 101, 110] n
 else if a = 0 /\ way = 1 then
  (if b < 0 then (45 :: Vs (0 - b).toNat, n) else (([[], [43]] : List Bs).getD (chc y n 2).1 [] ++ Vs b.toNat, (chc y n 2).2))
 else if b = 0 /\ way = 1 then ((QF a 0).take ((QF a 0).length - 2), n)
 else if (a = 1 \/ a = -1) /\ way = 2 then
  let c := chc y n 2; let g := Qh y c.2; let h := Qh y g.2
  (((((([[45], [], []] : List Bs).getD (a + 1).toNat [] ++ ([[110], [78]] : List Bs).getD c.1 []) ++ g.1) ++ (QP b).take 1) ++ h.1) ++ (QP b).drop 1, h.2)
 else
  let f := (QF a b).length - (QP b).length
  let g := Qh y n; let h := Qh y g.2
  (((((QF a b).take f ++ g.1) ++ ((QF a b).take (f + 1)).drop f) ++ h.1) ++ (QF a b).drop (f + 1), h.2)
def Vr (y : Bs) (x : SelD) (n : Nat) : Bs × Nat :=
 let z := if x.a = 0 /\ x.b = 1 then chc y n 2 else (0, n)
 if x.a = 0 /\ x.b = 1 /\ z.1 = 1 then (58 :: (Ql y (ZL.getD x.flag.toNat []) z.2).1, (Ql y (ZL.getD x.flag.toNat []) z.2).2)
 else
  let c := Ql y ([110, 116, 104, 45] ++ Q3.getD x.flag.toNat []) z.2; let g := Qh y c.2; let w := chc y g.2 3
  let t := Zb y x.a x.b w.1 w.2; let h := Qh y t.2
  (58 :: (c.1 ++ (40 :: (g.1 ++ (t.1 ++ (h.1 ++ [41]))))), h.2)
def ZF (y : Bs) (x : SelD) (n : Nat) : Bs × Nat :=
 let g := Qh y n; let c := Ql y (Qs x.key) g.2; let h := Qh y c.2
 if x.op = 1 then
  let e := Qh y h.2
  (91 :: (g.1 ++ (c.1 ++ (h.1 ++ (e.1 ++ [93])))), e.2)
 else
  let v := Qh y h.2; let t := VK y x.val v.2
  if x.flag = 1 then
   let i := chc y t.2 2; let e := Qh y i.2
   (91 :: (g.1 ++ (c.1 ++ (h.1 ++ (Vz.getD x.op.toNat [] ++ (v.1 ++ (t.1 ++ ([32] ++ (([[105], [73]] : List Bs).getD i.1 [] ++ (e.1 ++ [93]))))))))), e.2)
  else
   let e := Qh y t.2
   (91 :: (g.1 ++ (c.1 ++ (h.1 ++ (Vz.getD x.op.toNat [] ++ (v.1 ++ (t.1 ++ (e.1 ++ [93]))))))), e.2)
def Yx (y name t : Bs) (n : Nat) : Bs × Nat :=
 let c := Ql y name n; let g := Qh y c.2; let h := Qh y g.2
 (58 :: (c.1 ++ (40 :: (g.1 ++ (t ++ (h.1 ++ [41]))))), h.2)
def Qv (y : Bs) (x : SelD) (n : Nat) : Bs × Nat :=
 if x.kind = 1 then ([42], n)
 else if x.kind = 2 then Ql y (Qs x.key) n
 else if x.kind = 3 then (46 :: (V4 y x.val n).1, (V4 y x.val n).2)
 else if x.kind = 4 then (35 :: (V4 y x.val n).1, (V4 y x.val n).2)
 else if x.kind = 5 then ZF y x n
 else if x.kind = 6 then Vr y x n
 else if x.kind = 15 then Yx y Y6 (Qs x.val) n
 else if x.kind = 16 then Yx y Q7 (QQ x.val) n
 else if x.kind = 17 then Yx y QI (QQ x.val) n
 else Ql y (Qq x) n
def Y0 (y : Bs) (f : Nat -> Nat -> Bs × Nat) (st : Bool × Bs × Nat) (k : Nat) : Bool × Bs × Nat :=
 if st.1 = true then
  let g := Qh y st.2.2; let h := Qh y g.2; let r := f k h.2
  (true, (st.2.1 ++ ((g.1 ++ [44]) ++ h.1)) ++ r.1, r.2)
 else (true, st.2.1 ++ (f k st.2.2).1, (f k st.2.2).2)
def Vu (l : List SelD) (f : Nat -> Nat -> Bs × Nat) (st : (Bs × Bs) × Nat) (k : Nat) : (Bs × Bs) × Nat :=
 if knd l k = 2 then (((f k st.2).1, st.1.2), (f k st.2).2)
 else if knd l k = 1 then ((if st.1.1 = [] then [42] else st.1.1, st.1.2), st.2)
 else ((st.1.1, st.1.2 ++ (f k st.2).1), (f k st.2).2)
def Qaw (t : Bs) : Bs := if t = [] then [42] else t
def Y1 (y : Bs) (val : Bs) (st : (Bs × Bs) × Nat) : Bs × Nat :=
 if val = [] then (Qaw (st.1.1 ++ st.1.2), st.2) else (Qaw (st.1.1 ++ (st.1.2 ++ ([58, 58] ++ (Ql y val st.2).1))), (Ql y val st.2).2)
def QhD : List Bs := [[62], [43], [126]]
def Qg (y : Bs) : Nat -> List SelD -> Nat -> Nat -> Bs × Nat
 | 0, _, _, n => ([], n)
 | m + 1, l, i, n =>
  let x := l.getD i default
  let f := Qg y m l
  if x.kind = 23 then ((Qc l i).foldl (Y0 y f) (false, [], n)).2
  else if x.kind = 22 then
   let a := f ((Qc l i).getD 0 0) n
   let g := Qh y a.2
   if x.op = 1 then
    let b := f ((Qc l i).getD 1 0) g.2
    (((a.1 ++ [32]) ++ g.1) ++ b.1, b.2)
   else
    let h := Qh y g.2
    let b := f ((Qc l i).getD 1 0) h.2
    ((a.1 ++ ((g.1 ++ QhD.getD (x.op - 2).toNat []) ++ h.1)) ++ b.1, b.2)
  else if x.kind = 21 then Y1 y x.val ((Qc l i).foldl (Vu l f) (([], []), n))
  else if x.kind = 18 \/ x.kind = 19 \/ x.kind = 20 then
   let c := Ql y (Vc.getD (x.kind - 18).toNat []) n; let g := Qh y c.2; let r := f ((Qc l i).getD 0 0) g.2; let h := Qh y r.2
   (58 :: (c.1 ++ (40 :: (g.1 ++ (r.1 ++ (h.1 ++ [41]))))), h.2)
  else Qv y x n
def YP (y : Bs) (l : List SelD) : Bs :=
 if l.length = 0 then []
 else
  let g := Qh y 0; let r := Qg y 2000 l 0 g.2; let h := Qh y r.2
  (g.1 ++ r.1) ++ h.1
end
end Go.Proofs.YtengepcafdnalaaGreatDoor
