/-
  Parts of the proof that the law FnParseOtherwise holds for every input (texts Kg, Ku, Kv). Conditions: none.
-/
import Derived.Test.YtengepcafdnalaaGreatDoorM18
namespace Go.Proofs.YtengepcafdnalaaGreatDoor
section
open Go Go.RowKit
set_option maxRecDepth 20000
theorem Qix (l : Bs) (i : Nat) (h : i < l.length) : (low (l.take i) ++ l.drop i).getD i 0 = l.getD i 0 := by
 have e : (low (l.take i)).length = i := by simp [low]; omega
 rw [List.getD_eq_getElem?_getD, List.getElem?_append_right (by omega), e, Nat.sub_self, List.getElem?_drop, Nat.add_zero, List.getD_eq_getElem?_getD]
theorem Qcq (l : Bs) (i : Nat) (h : i < l.length) : (low (l.take i) ++ l.drop i).set i (UT (l.getD i 0)) = low (l.take (i + 1)) ++ l.drop (i + 1) := by
 have e : (low (l.take i)).length = i := by simp [low]; omega
 rw [List.set_append_right _ _ (by omega), e, Nat.sub_self, List.take_add_one, List.drop_eq_getElem_cons h, List.set_cons_zero, List.getElem?_eq_getElem h]
 simp only [low, List.map_append, List.getD_eq_getElem?_getD, List.getElem?_eq_getElem h, Option.getD_some, Option.toList_some, List.map_cons, List.map_nil, List.append_assoc, List.singleton_append]
theorem Qa9 (l : Bs) (i : Nat) (h : i < l.length) (hc : UT (l.getD i 0) = l.getD i 0) : low (l.take i) ++ l.drop i = low (l.take (i + 1)) ++ l.drop (i + 1) := by
 have e : (low (l.take i)).length = i := by simp [low]; omega
 rw [List.take_add_one, List.drop_eq_getElem_cons h, List.getElem?_eq_getElem h]
 simp only [List.getD_eq_getElem?_getD, List.getElem?_eq_getElem h, Option.getD_some] at hc
 simp only [low, List.map_append, Option.toList_some, List.map_cons, List.map_nil, List.append_assoc, List.singleton_append, hc]
theorem Qcy (l : Bs) (i : Nat) (h : i < l.length) : bat (low (l.take i) ++ l.drop i) i = bat l i := by unfold bat; rw [Qix l i h]
def c77 (svs : List SV) (b : Option SB) : QR := match svs, b with
 | [.str l], none => some ([l.length <= 1000000000], .str (low l))
 | _, _ => none
noncomputable def W77 : Wk := ⟨[], Qm Tryz.f77, false, false, [.tmp 2], [9], [(3, 24)], []⟩
theorem has77 : Has 77 := hsf Tryz.f77
theorem kgz1 {c0 p0 q : Prop} (k : q) (h : c0 -> p0 /\ True := by intro g0; (try simp at g0); exact ⟨(by first | omega | (simp; done) | (simp; omega) | (simp; assumption)), trivial⟩) : (c0 -> p0 /\ True) /\ q := ⟨h, k⟩
theorem QfK {p q : Prop} (k : q) (h : p := by first | omega | (simp; done) | (simp; omega) | (simp; assumption)) : p /\ q := ⟨h, k⟩
theorem sat77 : Sat 77 (QC c77) := by
 have hD : Qe W77.D := Qe.nil
 refine W77.sa hD Tryz.f77 fun svs b K hP => ?_
 obtain ⟨ps, v, e, hp, hk⟩ := Qo hP
 unfold c77 at e
 split at e
 rename_i l
 cases e
 obtain ⟨h01, _⟩ := hp
 have L3 : ∀ (mm : Nat) (i : Nat), l.length - i = mm -> (i <= l.length) -> W77.L K 3 (mkS 33 [(3, (.own 1)), (4, (.nat i))] [(1, .row (.bytes (low (l.take i) ++ l.drop i)) false)] 2) := by
  intro mm
  induction mm using Nat.strongRecOn with
  | _ mm ih =>
   intro i hm hI
   have q : (low (l.take i) ++ l.drop i).length = l.length := by simp [low]; omega
   refine W77.aL hD (have a0 := low (l.take i) ++ l.drop i; have a1 := (decide (65 <= bat a0 i)) = true -> (i < a0.length) /\ True; cond (decide (i < a0.length)) ((i < a0.length) /\ (i < a0.length) /\ a1 /\ a1 /\ cond ((decide (65 <= bat a0 i)) && (decide (bat a0 i <= 90))) ((i < a0.length) /\ (i < a0.length) /\ (i < a0.length) /\ (i < a0.length) /\ (i + 1 <= 9223372036854775807) /\ (W77).L K 3 (mkS 33 [(3, (.own 1)), (4, (.nat (i + 1)))] [(1, .row (.bytes (a0.set i (a0.getD i 0 + 32))) false)] 2)) ((i + 1 <= 9223372036854775807) /\ (W77).L K 3 (mkS 33 [(3, (.own 1)), (4, (.nat (i + 1)))] [(1, .row (.bytes a0) false)] 2))) (K (.val (.str a0)) none)) ?_
   refine Qd ?_ ?_ <;> intro h1 <;> simp -failIfUnchanged [-List.getD_eq_getElem?_getD] at h1
   refine QfK (QfK (kgz1 (kgz1 ?_)))
   refine Qd ?_ ?_ <;> intro h2 <;> simp -failIfUnchanged [-List.getD_eq_getElem?_getD] at h2
   refine QfK (QfK (QfK (QfK (QfK ?_))))
   have h0 : i < l.length := by simp [low] at h1; omega
   rw [Qcy l i h0] at h2
   have e : ((low (l.take i) ++ l.drop i).set i ((low (l.take i) ++ l.drop i).getD i 0 + 32)) = low (l.take (i + 1)) ++ l.drop (i + 1) := by
    rw [<- Qcq l i h0, Qix l i h0]; unfold UT; rw [if_pos (show 65 <= (l.getD i 0).toNat /\ (l.getD i 0).toNat <= 90 from h2)]
   rw [e]
   exact ih _ (by omega) (i + 1) rfl (by omega)
   refine QfK ?_
   have h0 : i < l.length := by simp [low] at h1; omega
   rw [Qcy l i h0] at h2
   rw [Qa9 l i h0 (by unfold UT; rw [if_neg (fun h => by have := h2 h.1; have h3 : bat l i <= 90 := h.2; omega)])]
   exact ih _ (by omega) (i + 1) rfl (by omega)
   have h0 : i = l.length := by simp [low] at h1; omega
   rw [h0, List.take_length, List.drop_length, List.append_nil]
   exact hk
 refine W77.en ((l.length <= 1099511627776) /\ (W77).L K 3 (mkS 33 [(3, (.own 1)), (4, (.nat 0))] [(1, .row (.bytes l) false)] 2)) ?_
 refine QfK ?_
 exact L3 _ 0 rfl (by omega)
 cases e
theorem Qgy (l : List (List SelD)) (i : Nat) : (l.take i).flatten.length <= l.flatten.length := by
 conv => rhs; rw [<- List.take_append_drop i l, List.flatten_append, List.length_append]
 omega
theorem QeM (l : List (List SelD)) (i : Nat) (h : i < l.length) : (l.take (i + 1)).flatten = (l.take i).flatten ++ l.getD i [] := by
 rw [List.take_add_one, List.flatten_append, List.getElem?_eq_getElem h]
 simp [List.getD_eq_getElem?_getD, List.getElem?_eq_getElem h]
def c29i (svs : List SV) (b : Option SB) : FR := match svs, b with
 | [.agg [.int .i64 k, .int .i64 o, .str ke, .str va, .int .i64 a, .int .i64 bb, .int .i64 fl, .int .i64 sz], .sl (.selss l)], none => some ([l.length <= 1000000000, l.flatten.length <= 1000000000000], .row (.sels (VO ⟨k, o, ke, va, a, bb, fl, sz⟩ l.flatten)), none)
 | _, _ => none
noncomputable def W29 : Wk := ⟨[], Qm Tryz.f29, false, true, [.tmp 4], [22], [(3, 98)], []⟩
theorem Qqn : Has 29 := hsf Tryz.f29
theorem Qm1 {p q : Prop} (k : q) (h : p := by first | omega | (simp only [List.length_append]; have := q3 h1; omega)) : p /\ q := ⟨h, k⟩
theorem QqU : Sat 29 (fnS c29i) := by
 have hD : Qe W29.D := Qe.nil
 refine W29.sa hD Tryz.f29 fun svs b K hP => ?_
 obtain ⟨ps, o, b', e, hp, hk⟩ := Yp hP
 unfold c29i at e
 split at e
 rename_i k o ke va a bb fl sz l
 cases e
 obtain ⟨h01, h02, _⟩ := hp
 have L3 : ∀ (mm : Nat) (i : Nat) (r : List SelD), l.length - i = mm -> (i <= l.length /\ r = ⟨k, o, ke, va, a, bb, fl, sz⟩ :: (l.take i).flatten) -> W29.L K 3 (mkS 27 [(1, (.sl (.selss l))), (5, (.own 1)), (6, (.nat i))] [(1, .row (.sels r) true)] 2) := by
  intro mm
  induction mm using Nat.strongRecOn with
  | _ mm ih =>
   intro i r hm hI
   obtain ⟨k1, k2⟩ := hI
   have q1 := Qgy l i
   have q2 := Qgy l (i + 1)
   have q3 := fun h => congrArg List.length (QeM l i h)
   have q4 : r.length = (l.take i).flatten.length + 1 := by rw [k2]; simp
   simp only [List.length_append] at q3
   refine W29.aL hD (cond (decide (i < l.length)) ((i < l.length) /\ (r.length + (l.getD i []).length <= 1099511627776) /\ (i + 1 <= 9223372036854775807) /\ (W29).L K 3 (mkS 27 [(1, (.sl (.selss l))), (5, (.own 2)), (6, (.nat (i + 1)))] [(2, .row (.sels (r ++ (l.getD i []))) true)] 3)) ((0 < r.length) /\ (0 < r.length) /\ K (.row (.sels (r.set 0 { r.getD 0 default with size := ((r.length : Nat) : Int) }))) none)) ?_
   refine Qd ?_ ?_ <;> intro h1 <;> simp -failIfUnchanged [-List.getD_eq_getElem?_getD] at h1
   refine Qm1 (Qm1 (Qm1 ?_))
   exact Wk.L.rn [0, 2] (ih _ (by omega) (i + 1) (r ++ l.getD i []) rfl ⟨by omega, by rw [k2, QeM l i h1]; simp⟩)
   refine Qm1 (Qm1 ?_)
   refine keq hk ?_ rfl
   rw [k2, show i = l.length from by omega, List.take_length]
   simp [VO, QB]
 refine W29.en ((W29).L K 3 (mkS 27 [(1, (.sl (.selss l))), (5, (.own 2)), (6, (.nat 0))] [(2, .row (.sels [SelD.mk k o ke va a bb fl sz]) true), (1, .blk 33 [(.int .i64 k), (.int .i64 o), (.str ke), (.str va), (.int .i64 a), (.int .i64 bb), (.int .i64 fl), (.int .i64 sz)])] 3)) ?_
 exact Wk.L.rn [0, 2] (L3 _ 0 [⟨k, o, ke, va, a, bb, fl, sz⟩] rfl ⟨by omega, by simp⟩)
 cases e
def c29 (svs : List SV) (b : Option SB) : FR := match svs, b with
 | [x, k], none => match QaX x, Qe7 k with
  | some x, some l => some ([l.length <= 1000000000, l.flatten.length <= 1000000000000], .row (.sels (VO x l.flatten)), none)
  | _, _ => none
 | _, _ => none
theorem QpV : Sat 29 (fnS c29) := by
 refine Sat.wk QqU fun svs b K h => ?_
 obtain ⟨ps, o, b', e, hp, hk⟩ := Yp h
 unfold c29 at e
 split at e
 rename_i x k
 split at e
 rename_i x' l hx hl
 cases e
 refine ⟨[.agg (Vl x'), .sl (.selss l)], ⟨fun ω v => Zu hx, fun ω v => Qgs hl ω v, trivial⟩, ?_⟩
 exact ⟨hp.1, hp.2.1, hk⟩
 cases e
 cases e
def Ys (l : List SelD) (i : Nat) : List SelD := if l.length <= i then [] else (l.take ((i : Int) + (l.getD i default).size).toNat).drop i
def Jk (l : List SelD) (fin : Int) (k : Nat) : List Nat :=
 if (k : Int) < fin /\ k < l.length then k :: Jk l fin (k + (max 1 (l.getD k default).size).toNat) else []
 termination_by l.length - k
 decreasing_by have : 1 <= (max 1 (l.getD k default).size).toNat := by omega
               omega
theorem Qdh (l : List SelD) (fin : Int) (k : Nat) : (Jk l fin k).length <= l.length - k := by
 fun_induction Jk l fin k with
 | case1 k h ih => simp only [List.length_cons]; omega
 | case2 => simp
def Qc (l : List SelD) (i : Nat) : List Nat := Jk l ((i : Int) + (l.getD i default).size) (i + 1)
def c24 (svs : List SV) (b : Option SB) : QR := match svs, b with
 | [.sl (.sels l), .nat i], none => some ([i <= 1000000000000 /\ l.length <= 1000000000000, i < l.length -> 0 <= (l.getD i default).size /\ (i : Int) + (l.getD i default).size <= l.length], .sl (.sels (Ys l i)))
 | _, _ => none
noncomputable def W24 : Wk := ⟨[], Qm Tryz.f24, false, false, [.tmp 4], [22], [], []⟩
theorem has24 : Has 24 := hsf Tryz.f24
theorem kgz3 {p q : Prop} (k : q) (h : p := by first | omega | (have := h02 (by omega); unfold inI; omega) | (have := h02 (by omega); omega)) : p /\ q := ⟨h, k⟩
theorem sat24 : Sat 24 (QC c24) := by
 have hD : Qe W24.D := Qe.nil
 refine W24.sa hD Tryz.f24 fun svs b K hP => ?_
 obtain ⟨ps, v, e, hp, hk⟩ := Qo hP
 unfold c24 at e
 split at e
 rename_i l i
 cases e
 obtain ⟨h01, h02, _⟩ := hp
 refine W24.en (have a0 := ((i : Nat) : Int) + (l.getD i default).size; cond (decide (l.length <= i)) (K (.val (.sl (.sels []))) none) ((i < l.length) /\ (inI a0) /\ (0 <= a0) /\ (i <= (a0).toNat /\ (a0).toNat <= l.length) /\ K (.val (.sl (.sels ((l.take ((a0).toNat)).drop i)))) none)) ?_
 refine Qd ?_ ?_ <;> intro h1 <;> simp -failIfUnchanged [-List.getD_eq_getElem?_getD] at h1
 unfold Ys at hk
 rw [if_pos h1] at hk
 exact hk
 refine kgz3 (kgz3 (kgz3 (kgz3 ?_)))
 unfold Ys at hk
 rw [if_neg (by omega)] at hk
 exact hk
 cases e
def c17 (svs : List SV) (b : Option SB) : FR := match svs, b with
 | [.sl (.sels l), .nat i], none => some ([i < l.length /\ l.length <= 1000000000000, 0 <= (l.getD i default).size /\ (i : Int) + (l.getD i default).size <= l.length, ∀ k, k ∈ Qc l i -> (l.getD k default).size <= 1000000000000], .row (.ints (Qc l i)), none)
 | _, _ => none
noncomputable def W17 : Wk := ⟨[], Qm Tryz.f17, false, true, [.tmp 4], [34], [(3, 99)], []⟩
theorem Qj3 : Has 17 := hsf Tryz.f17
theorem Qlb {p q : Prop} (k : q) (h : p := by first | omega | (unfold inI; omega) | (have := h03 k (by rw [k1, Jk, if_pos ⟨h1, by omega⟩]; simp); unfold inI; omega) | (simp only [List.length_singleton]; omega)) : p /\ q := ⟨h, k⟩
theorem Qjk : Sat 17 (fnS c17) := by
 have hD : Qe W17.D := Qe.nil
 refine W17.sa hD Tryz.f17 fun svs b K hP => ?_
 obtain ⟨ps, o, b', e, hp, hk⟩ := Yp hP
 unfold c17 at e
 split at e
 rename_i l i
 cases e
 obtain ⟨h01, h02, h03, _⟩ := hp
 have L3 : ∀ (mm : Nat) (k : Nat) (r : List Nat), l.length - k = mm -> (Qc l i = r ++ Jk l ((i : Int) + (l.getD i default).size) k /\ r.length <= k) -> W17.L K 3 (mkS 31 [(0, (.sl (.sels l))), (1, (.nat i)), (5, (.own 1)), (6, (.nat k))] [(1, .row (.ints r) true)] 2) := by
  intro mm
  induction mm using Nat.strongRecOn with
  | _ mm ih =>
   intro k r hm hI
   obtain ⟨k1, k2⟩ := hI
   refine W17.aL hD (have a0 := ((k : Nat) : Int) + (max (1 : Int) ((l.getD k default).size)); (i < l.length) /\ (inI (((i : Nat) : Int) + (l.getD i default).size)) /\ cond (decide (((k : Nat) : Int) < (((i : Nat) : Int) + (l.getD i default).size))) ((r.length + 1 <= 1099511627776) /\ (k < l.length) /\ (inI a0) /\ (W17).L K 3 (mkS 31 [(0, (.sl (.sels l))), (1, (.nat i)), (5, (.own 3)), (6, (.int .i64 a0))] [(3, .row (.ints (r ++ [k])) true)] 4)) (K (.row (.ints r)) none)) ?_
   refine Qlb (Qlb ?_)
   refine Qd ?_ ?_ <;> intro h1 <;> simp -failIfUnchanged [-List.getD_eq_getElem?_getD] at h1
   refine Qlb (Qlb (Qlb ?_))
   have e0 : ((k : Int) + max 1 (l.getD k default).size) = ((k + (max 1 (l.getD k default).size).toNat : Nat) : Int) := by omega
   rw [e0]
   exact Wk.L.rn [0, 3] (ih _ (by omega) (k + (max 1 (l.getD k default).size).toNat) (r ++ [k]) rfl ⟨by
    rw [k1]
    conv => lhs; rw [Jk]
    rw [if_pos ⟨h1, by omega⟩]
    simp, by simp only [List.length_append, List.length_singleton]; omega⟩)
   rw [Jk, if_neg (by omega), List.append_nil] at k1
   rw [k1] at hk
   exact hk
 refine W17.en ((i + 1 <= 9223372036854775807) /\ (W17).L K 3 (mkS 31 [(0, (.sl (.sels l))), (1, (.nat i)), (5, .nilsl), (6, (.nat (i + 1)))] [] 1)) ?_
 refine Qlb ?_
 exact Wk.L.le (Yg.adopt 5 (T := 34) (x := .ints []) (by kernel_rfl) (by kernel_rfl)) (Wk.L.rn [0, 1] (L3 _ (i + 1) [] rfl ⟨rfl, by simp⟩))
 cases e
end
section
open Go Go.RowKit
set_option maxRecDepth 20000
theorem Sat.ex {f : FuncId} {P : Nat -> Spec} (h : ∀ m, Sat f (P m)) : Sat f fun svs b K => ∃ m, P m svs b K := by
 intro g0 w M ω svs args b K hS hn hr ⟨m, hP⟩
 exact h m g0 w M ω svs args b K hS hn hr hP
theorem Sat.imp {f : FuncId} {P P' : Spec} (h : Sat f P) (hw : ∀ svs b K, P' svs b K -> P svs b K) : Sat f P' :=
 fun g0 w M ω svs args b K hS hn hr hP => h g0 w M ω svs args b K hS hn hr (hw svs b K hP)
end
section
open Go Go.RowKit
mutual
def ST.ht : ST -> Nat
 | .mk _ ks => ST.hts ks + 1
def ST.hts : List ST -> Nat
 | [] => 0
 | t :: l => max t.ht (ST.hts l)
end
def Jz (x : SelD) (y : List SelD) : Bool := !(decide (x.kind = 21) && decide ((y.getD 0 default).kind = 1))
def anyL : List SelD := [⟨1, 0, [], [], 0, 0, 0, 1⟩]
def Ym : Nat -> List SelD -> Nat -> List SelD
 | 0, _, _ => []
 | n + 1, l, i =>
  let x := l.getD i default
  let ys := ((Qc l i).map (Ym n l)).filter (Jz x)
  if x.kind = 21 /\ x.val = [] then
   (if ys.length = 0 then anyL else if ys.length = 1 then ys.getD 0 [] else VO x ys.flatten)
  else VO x ys.flatten
theorem QbF (T : ST) : ∃ x rest, T.flat = x :: rest /\ x.size = (T.flat.length : Nat) /\ x = { T.node with size := x.size } := by
 obtain ⟨x, ks⟩ := T
 exact ⟨_, _, by rw [ST.flat, QB], by simp [ST.flat, QB], by simp [ST.node]⟩
theorem Qan {l : List SelD} {i : Nat} {x : SelD} {r : List SelD} (h : l.drop i = x :: r) : l.getD i default = x := by
 have : (l.drop i)[0]? = some x := by rw [h]; rfl
 rw [List.getElem?_drop] at this
 simp [List.getD_eq_getElem?_getD, show l[i]? = some x from this]
theorem Qke {l : List SelD} {i : Nat} {x : SelD} {r : List SelD} (h : l.drop i = x :: r) : i < l.length := by
 have := congrArg List.length h
 simp at this; omega
theorem YE {l : List SelD} {i : Nat} {a b : List SelD} (h : l.drop i = a ++ b) : l.drop (i + a.length) = b := by
 rw [<- List.drop_drop, h, List.drop_left]
def QH : Nat -> List ST -> List Nat
 | _, [] => []
 | k, t :: l => k :: QH (k + t.flat.length) l
theorem Qbc {l : List SelD} : ∀ (ks : List ST) (k : Nat) (rest : List SelD) (fin : Int), l.drop k = ST.flats ks ++ rest -> k <= l.length -> fin = ((k + (ST.flats ks).length : Nat) : Int) -> Jk l fin k = QH k ks
 | [], k, rest, fin, h, hk, hf => by
  rw [Jk, if_neg (by rw [hf]; simp [ST.flats])]; rfl
 | t :: ks, k, rest, fin, h, hk, hf => by
  obtain ⟨x, r, e1, e2, _⟩ := QbF t
  rw [ST.flats, List.append_assoc] at h
  have h0 : l.drop k = x :: (r ++ (ST.flats ks ++ rest)) := by rw [h, e1]; rfl
  have hlt := Qke h0
  have hn : t.flat.length = r.length + 1 := by rw [e1]; simp
  have hx : (l.getD k default).size = (t.flat.length : Nat) := by rw [Qan h0, e2]
  have hd := YE h
  have hlen := congrArg List.length h
  simp only [List.length_append, List.length_drop] at hlen
  rw [Jk, if_pos ⟨by rw [hf, ST.flats, List.length_append]; omega, hlt⟩, hx, QH,
   show (max 1 ((t.flat.length : Nat) : Int)).toNat = t.flat.length from by omega]
  rw [Qbc ks (k + t.flat.length) rest fin hd (by omega) (by rw [hf, ST.flats, List.length_append]; omega)]
theorem Vd {l : List SelD} {i : Nat} {x : SelD} {ks : List ST} {rest : List SelD} (h : l.drop i = (ST.mk x ks).flat ++ rest) :
 Qc l i = QH (i + 1) ks /\ l.drop (i + 1) = ST.flats ks ++ rest /\ i < l.length /\ l.getD i default = { x with size := ((ST.flats ks).length : Nat) + 1 } /\ i + (ST.flats ks).length + 1 <= l.length := by
 have h0 : l.drop i = { x with size := ((ST.flats ks).length : Nat) + 1 } :: (ST.flats ks ++ rest) := by rw [h, ST.flat, QB]; rfl
 have h1 : l.drop (i + 1) = ST.flats ks ++ rest := by rw [<- List.drop_drop, h0]; rfl
 have hlt := Qke h0
 have hlen := congrArg List.length h1
 simp only [List.length_append, List.length_drop] at hlen
 refine ⟨?_, h1, hlt, Qan h0, by omega⟩
 unfold Qc
 rw [Qan h0]
 exact Qbc ks (i + 1) rest _ h1 (by omega) (by simp only; omega)
def Uz (l : List SelD) (n : Nat) (k : Nat) : Prop := ∃ (T : ST) (rest : List SelD), l.drop k = T.flat ++ rest /\ T.ht <= n
theorem Qbv {l : List SelD} {n : Nat} : ∀ (ks : List ST) (k : Nat) (rest : List SelD), l.drop k = ST.flats ks ++ rest -> ST.hts ks <= n -> ∀ p ∈ QH k ks, Uz l n p
 | [], k, rest, h, hn, p, hp => by simp [QH] at hp
 | t :: ks, k, rest, h, hn, p, hp => by
  rw [ST.flats, List.append_assoc] at h
  rw [ST.hts] at hn
  simp only [QH, List.mem_cons] at hp
  rcases hp with hp | hp
  subst hp; exact ⟨t, _, h, by omega⟩
  exact Qbv ks _ rest (YE h) (by omega) p hp
theorem J6 {l : List SelD} {n : Nat} (ih : ∀ i T rest, l.drop i = ST.flat T ++ rest -> T.ht <= n -> Ym n l i = T.norm.flat) : ∀ (ks : List ST) (k : Nat) (rest : List SelD), l.drop k = ST.flats ks ++ rest -> ST.hts ks <= n ->
 (QH k ks).map (Ym n l) = (ST.norms ks).map ST.flat
 | [], k, rest, h, hn => by simp [QH, ST.norms]
 | t :: ks, k, rest, h, hn => by
  rw [ST.flats, List.append_assoc] at h
  rw [ST.hts] at hn
  simp only [QH, ST.norms, List.map_cons]
  rw [ih k t _ h (by omega), J6 ih ks _ rest (YE h) (by omega)]
theorem Qai : ∀ ks : List ST, ST.flats ks = (ks.map ST.flat).flatten
 | [] => by simp [ST.flats]
 | t :: ks => by simp [ST.flats, Qai ks]
theorem Qdi (x : SelD) (T : ST) : Jz x T.flat = !(decide (x.kind = 21) && QbD T) := by
 obtain ⟨y, r, e1, e2, e3⟩ := QbF T
 unfold Jz QbD
 rw [e1]
 simp only [List.getD_eq_getElem?_getD, List.getElem?_cons_zero, Option.getD_some]
 rw [e3]
theorem Qhi (x : SelD) (z : Int) (ks : List ST) : (ks.map ST.flat).filter (Jz { x with size := z }) = (Ze x ks).map ST.flat := by
 unfold Ze
 rw [List.filter_map]
 split
 rename_i h
 congr 1
 apply List.filter_congr
 intro t _
 simp [Qdi, h]
 rename_i h
 rw [List.filter_eq_self.2]
 intro t _
 simp [Qdi, h]
theorem Qa1 (l : List SelD) : ∀ (n i : Nat) (T : ST) (rest : List SelD), l.drop i = T.flat ++ rest -> T.ht <= n -> Ym n l i = T.norm.flat
 | 0, i, T, rest, h, hn => by obtain ⟨x, ks⟩ := T; simp [ST.ht] at hn
 | n + 1, i, .mk x ks, rest, h, hn => by
  obtain ⟨h1, h2, h3, h4, h5⟩ := Vd h
  rw [ST.ht] at hn
  have h6 := J6 (l := l) (n := n) (fun i T rest => Qa1 l n i T rest) ks (i + 1) rest h2 (by omega)
  rw [Ym]
  rw [h1, h4, h6, Qhi, ST.norm]; unfold JJ
  simp only [List.length_map]
  split
  generalize Ze x (ST.norms ks) = ys
  match ys with
  | [] => simp [ST.flat, ST.flats, QB, QnY, anyL]
  | [y] => simp
  | y :: y' :: ys => simp [ST.flat, VO, QB, Qai]
  simp [ST.flat, VO, QB, Qai]
theorem Uj (p : ST -> Bool) : ∀ ks : List ST, (ST.flats (ks.filter p)).length <= (ST.flats ks).length
 | [] => by simp
 | t :: ks => by
  have := Uj p ks
  rw [List.filter_cons]
  split <;> simp only [ST.flats, List.length_append] <;> omega
theorem Qkw (x : SelD) (ks : List ST) : (JJ x ks).flat.length <= (ST.flats ks).length + 1 := by
 unfold JJ
 split
 split <;> simp [ST.flat, ST.flats, QB]
 simp [ST.flat, QB]
mutual
theorem Qc7 : ∀ T : ST, T.norm.flat.length <= T.flat.length
 | .mk x ks => by
  have h1 := Qbx ks
  have h2 := Qkw x (Ze x (ST.norms ks))
  have h3 : (ST.flats (Ze x (ST.norms ks))).length <= (ST.flats (ST.norms ks)).length := by
   unfold Ze; split
   exact Uj _ _
   exact Nat.le_refl _
  rw [ST.norm, ST.flat, QB, List.length_cons]
  omega
theorem Qbx : ∀ ks : List ST, (ST.flats (ST.norms ks)).length <= (ST.flats ks).length
 | [] => by simp [ST.norms]
 | t :: ks => by
  have h1 := Qc7 t
  have h2 := Qbx ks
  simp only [ST.norms, ST.flats, List.length_append]
  omega
end
theorem JY (T : ST) : 0 < T.flat.length := by obtain ⟨x, ks⟩ := T; simp [ST.flat, QB]
mutual
theorem Qdo : ∀ T : ST, T.ht <= T.flat.length
 | .mk x ks => by have := QjX ks; simp only [ST.ht, ST.flat, QB, List.length_cons]; omega
theorem QjX : ∀ ks : List ST, ST.hts ks <= (ST.flats ks).length
 | [] => by simp [ST.hts]
 | t :: ks => by have := Qdo t; have := QjX ks; simp only [ST.hts, ST.flats, List.length_append]; omega
end
end
end Go.Proofs.YtengepcafdnalaaGreatDoor
