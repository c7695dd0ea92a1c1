/-
  Parts of the proof that the law FnParseOtherwise holds for every input (texts Wc, Wd, We). Conditions: none.
-/
import Derived.Test.YtengepcafdnalaaGreatDoorM33
namespace Go.Proofs.YtengepcafdnalaaGreatDoor
section
def QaK : Bs := [48, 49, 50, 51, 52, 53, 54, 55, 56, 57, 97, 98, 99, 100, 101, 102]
def Qd7 (c : Nat) (o : Bs) : Bs := if 0 < c then Qd7 (c / 16) ((QaK.take (c % 16 + 1)).drop (c % 16) ++ o) else o
 termination_by c
 decreasing_by omega
def VR (c : Nat) : Bs := 92 :: (Qd7 c [] ++ [32])
def nmP (h i : Nat) (c : UInt8) : Bs :=
 if c.toNat < 32 \/ c.toNat = 127 \/ (Qy c.toNat = true /\ (i = 0 \/ (i = 1 /\ h = 45))) \/ (c.toNat = 45 /\ i = 1 /\ h = 45) then VR c.toNat
 else if QO c.toNat = true then [c] else [92, c]
def nmF (h : Nat) : Nat -> Bs -> Bs
 | _, [] => []
 | i, c :: u => nmP h i c ++ nmF h (i + 1) u
def Qs (s : Bs) : Bs := if s = [45] then [92, 45] else nmF (bat s 0) 0 s
def qP (c : UInt8) : Bs := if c.toNat < 32 \/ c.toNat = 127 then VR c.toNat else if c.toNat = 34 \/ c.toNat = 92 then [92, c] else [c]
def qF : Bs -> Bs
 | [] => []
 | c :: u => qP c ++ qF u
def QQ (s : Bs) : Bs := 34 :: (qF s ++ [34])
def Vs (n : Nat) : Bs := if n < 10 then (([48, 49, 50, 51, 52, 53, 54, 55, 56, 57] : List UInt8).take (n + 1)).drop n else Vs (n / 10) ++ Vs (n % 10)
 termination_by n
 decreasing_by all_goals omega
def QP (n : Int) : Bs := if n < 0 then 45 :: Vs (-n).toNat else 43 :: Vs n.toNat
def QF (a b : Int) : Bs := (if a < 0 then 45 :: Vs (-a).toNat else Vs a.toNat) ++ (110 :: QP b)
def Vz : List Bs := [[], [], [61], [33, 61], [126, 61], [124, 61], [94, 61], [36, 61], [42, 61]]
def Q3 : List Bs := [[99, 104, 105, 108, 100], [108, 97, 115, 116, 45, 99, 104, 105, 108, 100], [111, 102, 45, 116, 121, 112, 101], [108, 97, 115, 116, 45, 111, 102, 45, 116, 121, 112, 101]]
def VP : List Bs := [[99, 104, 105, 108, 100], [], [111, 102, 45, 116, 121, 112, 101]]
def Qw : List Bs := [[101, 109, 112, 116, 121], [114, 111, 111, 116], [105, 110, 112, 117, 116], [108, 105, 110, 107], [101, 110, 97, 98, 108, 101, 100], [100, 105, 115, 97, 98, 108, 101, 100], [99, 104, 101, 99, 107, 101, 100]]
def Vc : List Bs := [UQ, UR, Vv]
def Qf3 : List Bs := [[], [32], [32, 62, 32], [32, 43, 32], [32, 126, 32]]
def Qq (x : SelD) : Bs :=
 if x.kind = 1 then [42]
 else if x.kind = 2 then Qs x.key
 else if x.kind = 3 then 46 :: Qs x.val
 else if x.kind = 4 then 35 :: Qs x.val
 else if x.kind = 5 then
  (if x.op = 1 then 91 :: (Qs x.key ++ [93])
  else 91 :: (Qs x.key ++ (Vz.getD x.op.toNat [] ++ (QQ x.val ++ ([[], [32, 105]].getD x.flag.toNat [] ++ [93])))))
 else if x.kind = 6 then [58, 110, 116, 104, 45] ++ (Q3.getD x.flag.toNat [] ++ (40 :: (QF x.a x.b ++ [41])))
 else if x.kind = 7 then [58, 111, 110, 108, 121, 45] ++ VP.getD x.flag.toNat []
 else if x.kind = 15 then [58, 108, 97, 110, 103, 40] ++ (Qs x.val ++ [41])
 else if x.kind = 16 then [58, 99, 111, 110, 116, 97, 105, 110, 115, 40] ++ (QQ x.val ++ [41])
 else if x.kind = 17 then [58, 99, 111, 110, 116, 97, 105, 110, 115, 79, 119, 110, 40] ++ (QQ x.val ++ [41])
 else 58 :: Qw.getD (x.kind - 8).toNat []
def QjS : List Bs -> Bs
 | [] => []
 | t :: l => t ++ l.flatMap fun u => [44, 32] ++ u
def YH (p : Bs × Bs) (t : Int × Bs) : Bs × Bs := if t.1 = 2 then (t.2, p.2) else if t.1 = 1 then ((if p.1 = [] then [42] else p.1), p.2) else (p.1, p.2 ++ t.2)
def QdG (val : Bs) (p : Bs × Bs) : Bs := if p.1 ++ (if val = [] then p.2 else p.2 ++ ([58, 58] ++ Qs val)) = [] then [42] else p.1 ++ (if val = [] then p.2 else p.2 ++ ([58, 58] ++ Qs val))
def Qi5 (val : Bs) (ts : List (Int × Bs)) : Bs := QdG val (ts.foldl YH ([], []))
def ZW (x : SelD) (ts : List (Int × Bs)) : Bs :=
 if x.kind = 23 then QjS (ts.map Prod.snd)
 else if x.kind = 22 then (ts.getD 0 (0, [])).2 ++ Qf3.getD x.op.toNat [] ++ (ts.getD 1 (0, [])).2
 else if x.kind = 21 then Qi5 x.val ts
 else if x.kind = 18 \/ x.kind = 19 \/ x.kind = 20 then 58 :: (Vc.getD (x.kind - 18).toNat [] ++ (40 :: ((ts.getD 0 (0, [])).2 ++ [41])))
 else Qq x
mutual
def wr : ST -> Bs
 | .mk x ks => ZW x (wrs ks)
def wrs : List ST -> List (Int × Bs)
 | [] => []
 | t :: l => (t.node.kind, wr t) :: wrs l
end
def Uv (l : List UInt8) : Bool := decide (l = [98, 101, 102, 111, 114, 101]) || decide (l = [97, 102, 116, 101, 114]) || decide (l = [102, 105, 114, 115, 116, 45, 108, 105, 110, 101]) || decide (l = [102, 105, 114, 115, 116, 45, 108, 101, 116, 116, 101, 114])
def Qp (n : Int) : Bool := decide (1 <= n) && decide (n <= 20)
def Q9 (n : Int) : Bool := Qp n || decide (n = 21) || decide (n = 22)
def Yi (x : SelD) : Bool := decide (x.kind = 21) && !decide (x.val = [])
def Z7 (x : SelD) : Bool :=
 let key := decide (x.kind = 2) || decide (x.kind = 5)
 let name := decide (x.kind = 3) || decide (x.kind = 4) || decide (x.kind = 15)
 let val := name || (decide (x.kind = 5) && !decide (x.op = 1)) || decide (x.kind = 16) || decide (x.kind = 17)
 QG x.key 0 && QG x.val 0 && decide (low x.key = x.key)
 && !(key == decide (x.key = [])) && !(name && decide (x.val = [])) && !(!val && !decide (x.val = []) && (!decide (x.kind = 21) || !Uv x.val))
 && !(!decide (x.kind = 6) && (!decide (x.a = 0) || !decide (x.b = 0))) && decide (x.a <= 9999) && decide (-9999 <= x.a) && decide (x.b <= 9999) && decide (-9999 <= x.b)
 && (if x.kind = 5 then decide (1 <= x.op) && decide (x.op <= 8) && decide (0 <= x.flag) && decide (x.flag <= 1) && (!decide (x.op = 1) || decide (x.flag = 0))
  else if x.kind = 22 then decide (1 <= x.op) && decide (x.op <= 4) && decide (x.flag = 0)
  else if x.kind = 6 then decide (x.op = 0) && decide (0 <= x.flag) && decide (x.flag <= 3)
  else if x.kind = 7 then decide (x.op = 0) && (decide (x.flag = 0) || decide (x.flag = 2))
  else decide (x.op = 0) && decide (x.flag = 0))
def UB (x : SelD) (ks : List ST) : Prop :=
 if x.kind = 23 then (∀ k ∈ ks, Q9 k.node.kind = true) /\ ks ≠ []
 else if x.kind = 18 \/ x.kind = 19 \/ x.kind = 20 then (∃ g, ks = [g] /\ g.node.kind = 23) /\ (ST.flats ks).any Yi = false
 else if x.kind = 21 then (∀ k ∈ ks, Qp k.node.kind = true) /\ (∀ k ∈ ks.tail, k.node.kind ≠ 2)
 else if x.kind = 22 then ∃ a b, ks = [a, b] /\ Q9 a.node.kind = true /\ Q9 b.node.kind = true /\ b.node.kind ≠ 22 /\ a.flat.any Yi = false
 else Qp x.kind = true /\ ks = []
mutual
def Yl : ST -> Prop
 | .mk x ks => Z7 x = true /\ x.size = 0 /\ UB x ks /\ ZI ks
def ZI : List ST -> Prop
 | [] => True
 | t :: l => Yl t /\ ZI l
end
theorem ZI.mem : ∀ {l : List ST}, ZI l -> ∀ t ∈ l, Yl t
 | [], _, t, h => by cases h
 | t :: l, ⟨h1, h2⟩, u, hu => by
  rcases List.mem_cons.1 hu with e | e
  subst e; exact h1
  exact ZI.mem h2 u e
def QeS (op : Int) : UInt8 := ([0, 32, 62, 43, 126] : List UInt8).getD op.toNat 0
def QM (x : SelD) : CSel :=
 if x.kind = 1 then .compound [] []
 else if x.kind = 2 then .tag x.key
 else if x.kind = 3 then .cls x.val
 else if x.kind = 4 then .idn x.val
 else if x.kind = 5 then .attr x.key x.val (Vz.getD x.op.toNat []) (decide (x.flag = 1))
 else if x.kind = 6 then .nth x.a x.b (decide (x.flag = 1 \/ x.flag = 3)) (decide (x.flag = 2 \/ x.flag = 3))
 else if x.kind = 7 then .only (decide (x.flag = 2))
 else if x.kind = 8 then .empty
 else if x.kind = 9 then .root
 else if x.kind = 10 then .input
 else if x.kind = 11 then .link
 else if x.kind = 12 then .enabled
 else if x.kind = 13 then .disabled
 else if x.kind = 14 then .checked
 else if x.kind = 15 then .lang x.val
 else if x.kind = 16 then .contains x.val false
 else .contains x.val true
def Zf : CSel -> Bool
 | .compound [] [] => true
 | _ => false
def YC (x : SelD) (l : List CSel) : List CSel :=
 if x.kind = 23 then l
 else if x.kind = 22 then [.combined (l.getD 0 default) (QeS x.op) (l.getD 1 default)]
 else if x.kind = 21 then [Yh (l.filter fun y => !Zf y) x.val]
 else if x.kind = 18 \/ x.kind = 19 \/ x.kind = 20 then [.rel (Vc.getD (x.kind - 18).toNat []) l]
 else [QM x]
mutual
def cs : ST -> List CSel
 | .mk x ks => YC x (css ks)
def css : List ST -> List CSel
 | [] => []
 | t :: l => cs t ++ css l
end
def c1 (T : ST) : CSel := (cs T).headD default
theorem YB {T : ST} (h : T.node.kind ≠ 23) : cs T = [c1 T] := by
 obtain ⟨x, ks⟩ := T
 have h' : x.kind ≠ 23 := h
 unfold c1
 rw [cs]
 unfold YC
 rw [if_neg h']
 repeat' split
 all_goals rfl
theorem Qkh : ∀ {ks : List ST}, (∀ k ∈ ks, k.node.kind ≠ 23) -> css ks = ks.map c1
 | [], _ => by simp [css]
 | t :: l, h => by
  rw [css, YB (h t (by simp)), Qkh (fun k hk => h k (by simp [hk]))]
  rfl
end
section
namespace Way
set_option maxRecDepth 20000
theorem dig16 : ∀ m : Fin 16, (QaK.take (m.val + 1)).drop m.val = [QaK.getD m.val 0] /\ Q2 (QaK.getD m.val 0).toNat = true /\ Yv (QaK.getD m.val 0).toNat = m.val := by decide
theorem Qlg : ∀ (c k : Nat) (o : Bs), c < 16 ^ k -> ∃ ds : Bs, Qd7 c o = ds ++ o /\ (∀ d ∈ ds, Q2 d.toNat = true) /\ VD ds = c /\ (c ≠ 0 -> ds ≠ []) /\ ds.length <= k := by
 intro c
 induction c using Nat.strongRecOn with
 | _ c ih =>
  intro k o hk
  by_cases h0 : 0 < c
  obtain ⟨d1, d2, d3⟩ := dig16 ⟨c % 16, Nat.mod_lt _ (by decide)⟩
  simp only at d1 d2 d3
  obtain ⟨k', rfl⟩ : ∃ k', k = k' + 1 := ⟨k - 1, by
   rcases k with _ | k
   simp at hk; omega
   rfl⟩
  obtain ⟨ds, e1, e2, e3, e4, e5⟩ := ih (c / 16) (by omega) k' ((QaK.take (c % 16 + 1)).drop (c % 16) ++ o) (by rw [Nat.pow_succ] at hk; omega)
  refine ⟨ds ++ [QaK.getD (c % 16) 0], ?_, ?_, ?_, by simp, by simpa using e5⟩
  rw [Qd7, if_pos h0, e1, d1]; simp
  intro d hd
  rcases List.mem_append.1 hd with hd | hd
  exact e2 d hd
  rw [List.mem_singleton.1 hd]; exact d2
  unfold VD at e3 ⊢
  rw [List.foldl_append, e3]
  simp only [List.foldl_cons, List.foldl_nil, d3]
  omega
  refine ⟨[], ?_, by simp, ?_, by omega, by simp⟩
  rw [Qd7, if_neg h0]; rfl
  simp [VD]; omega
theorem utf8_ne (n : Int) : YZ n ≠ [] := by
 unfold YZ Utf8.encode
 generalize (if Utf8.valid n = true then n.toNat else Utf8.runeError) = c
 by_cases h1 : c < 128
 simp [h1]
 by_cases h2 : c < 2048
 simp [h1, h2]
 by_cases h3 : c < 65536
 simp [h1, h2, h3]
 simp [h1, h2, h3]
theorem QcC {c : Nat} (h : c < 128) : YZ (c : Int) = [UInt8.ofNat c] := by
 have hv : Utf8.valid (c : Int) = true := by unfold Utf8.valid; simp; omega
 unfold YZ Utf8.encode
 simp only [hv, if_true, Int.toNat_natCast]
 rw [if_pos (by omega)]
theorem Qhw {c : Nat} (h0 : c ≠ 0) (h1 : c < 16777216) : Es (YZ (c : Int)) (VR c) := by
 obtain ⟨ds, e1, e2, e3, e4, e5⟩ := Qlg c 6 [] (by simpa using h1)
 unfold VR
 rw [e1, List.append_nil]
 have := Es.hex ds (e4 h0) e5 e2 (utf8_ne _)
 rwa [e3] at this
theorem Qkb {c : UInt8} (h0 : c.toNat ≠ 0) (h1 : c.toNat < 128) : Es [c] (VR c.toNat) := by
 have := Qhw h0 (by omega)
 rwa [QcC h1, UInt8.ofNat_toNat] at this
theorem Qk1 {c : Nat} (h : ¬ c < 32) : Y4 c = false := by simp [Y4]; omega
theorem Qiq {h i : Nat} {c : UInt8} (h0 : c.toNat ≠ 0) : (∃ k, nmP h i c = [c] /\ QO c.toNat = k /\ k = true) \/ Es [c] (nmP h i c) := by
 unfold nmP
 by_cases h1 : c.toNat < 32 \/ c.toNat = 127 \/ (Qy c.toNat = true /\ (i = 0 \/ (i = 1 /\ h = 45))) \/ (c.toNat = 45 /\ i = 1 /\ h = 45)
 rw [if_pos h1]
 refine .inr (Qkb h0 ?_)
 simp only [Qy, Bool.and_eq_true, decide_eq_true_eq] at h1
 omega
 rw [if_neg h1]
 by_cases h2 : QO c.toNat = true
 rw [if_pos h2]; exact .inl ⟨true, rfl, h2, rfl⟩
 rw [if_neg h2]
 refine .inr (.lit c ?_ (Qk1 fun q => h1 (.inl q)))
 simp only [QO, QE, Q2, Bool.not_eq_true, Bool.or_eq_false_iff, Bool.and_eq_false_imp, decide_eq_true_eq, decide_eq_false_iff_not] at h2 ⊢
 omega
theorem Qbz {h : Nat} : ∀ (i : Nat) (u : Bs), (∀ c ∈ u, c.toNat ≠ 0) -> NmW u (nmF h i u)
 | _, [], _ => .nil
 | i, c :: u, hz => by
  have ih := Qbz (h := h) (i + 1) u (fun c hc => hz c (by simp [hc]))
  rw [nmF]
  rcases Qiq (h := h) (i := i) (hz c (by simp)) with ⟨k, e, h1, h2⟩ | he
  rw [e]; exact .raw (h1.trans h2) ih
  exact .esc he ih
theorem QmP {s : Bs} (hz : ∀ c ∈ s, c.toNat ≠ 0) : NmW s (Qs s) := by
 unfold Qs
 split
 rename_i h; subst h
 exact .esc (.lit 45 (by decide) (by decide)) .nil
 exact Qbz 0 s hz
theorem Qqr {v t : Bs} (h : Es v t) : hd t = 92 := by
 obtain ⟨_, c, u, rfl, _⟩ := h.shape; rfl
theorem QgC {c : UInt8} (h1 : QO c.toNat = true) (h2 : Qy c.toNat = false) (h3 : c.toNat ≠ 45) : QE c.toNat = true := by
 simp only [QO, Qy, Bool.or_eq_true, Bool.and_eq_true, Bool.and_eq_false_imp, decide_eq_true_eq, decide_eq_false_iff_not] at h1 h2
 rcases h1 with (h1 | h1) | h1
 exact h1
 exact absurd h1 h3
 exact absurd h1.2 (h2 h1.1)
theorem QjD {h i : Nat} {c : UInt8} (hc : Qy c.toNat = true /\ (i = 0 \/ (i = 1 /\ h = 45)) \/ (c.toNat = 45 /\ i = 1 /\ h = 45)) : hd (nmP h i c) = 92 /\ nmP h i c ≠ [] := by
 unfold nmP
 rw [if_pos (by rcases hc with h | h; exact .inr (.inr (.inl h)); exact .inr (.inr (.inr h)))]
 exact ⟨rfl, by simp [VR]⟩
theorem Qby {h i : Nat} {c : UInt8} (h0 : c.toNat ≠ 0) (hi : i = 0 \/ (i = 1 /\ h = 45)) (hc : i = 0 -> c.toNat ≠ 45) : nmP h i c ≠ [] /\ (QE (hd (nmP h i c)) = true \/ hd (nmP h i c) = 92) := by
 by_cases hd' : Qy c.toNat = true
 have := QjD (h := h) (i := i) (c := c) (.inl ⟨hd', hi⟩)
 exact ⟨this.2, .inr this.1⟩
 by_cases h45 : c.toNat = 45
 . have : i = 1 /\ h = 45 := by
    rcases hi with hi | hi
    exact absurd h45 (hc hi)
    exact hi
   have := QjD (h := h) (i := i) (c := c) (.inr ⟨h45, this⟩)
   exact ⟨this.2, .inr this.1⟩
 rcases Qiq (h := h) (i := i) h0 with ⟨k, e, h1, h2⟩ | he
 rw [e]
 exact ⟨by simp, .inl (QgC (h1.trans h2) (by simpa using hd') h45)⟩
 have := Qqr he
 exact ⟨QbY (by omega), .inr this⟩
theorem ZN {s : Bs} (hz : ∀ c ∈ s, c.toNat ≠ 0) (hs : s ≠ []) : IdW s (Qs s) := by
 unfold Qs
 split
 rename_i h; subst h
 exact ⟨0, [45], [92, 45], rfl, rfl, .esc (.lit 45 (by decide) (by decide)) .nil, .inr rfl⟩
 rename_i hne
 obtain ⟨c, u, rfl⟩ := List.exists_cons_of_ne_nil hs
 have hb : bat (c :: u) 0 = c.toNat := rfl
 rw [hb, nmF]
 have hn := Qbz (h := c.toNat) 0 (c :: u) hz
 by_cases hc : c.toNat = 45
 have hc' : c = 45 := UInt8.toNat_inj.1 hc
 subst hc'
 obtain ⟨c1, u1, rfl⟩ : ∃ c1 u1, u = c1 :: u1 := by
  rcases u with _ | ⟨c1, u1⟩
  exact absurd rfl hne
  exact ⟨c1, u1, rfl⟩
 have e0 : nmP (45 : UInt8).toNat 0 45 = [45] := by decide
 have h1 := Qby (h := (45 : UInt8).toNat) (i := 1) (c := c1) (hz c1 (by simp)) (.inr ⟨rfl, rfl⟩) (fun q => by cases q)
 refine ⟨1, c1 :: u1, nmF (45 : UInt8).toNat 1 (c1 :: u1), rfl, by rw [e0]; rfl, Qbz 1 _ (fun c hc => hz c (by simp [hc])), ?_⟩
 rw [nmF, Q5 h1.1]
 exact h1.2
 have h1 := Qby (h := c.toNat) (i := 0) (c := c) (hz c (by simp)) (.inl rfl) (fun _ => hc)
 refine ⟨0, c :: u, nmP c.toNat 0 c ++ nmF c.toNat (0 + 1) u, rfl, rfl, hn, ?_⟩
 rw [Q5 h1.1]
 exact h1.2
theorem Qp3 : ∀ (u : Bs), (∀ c ∈ u, c.toNat ≠ 0) -> StW 34 u (qF u)
 | [], _ => .nil
 | c :: u, hz => by
  have ih := Qp3 u (fun c hc => hz c (by simp [hc]))
  have h0 := hz c (by simp)
  rw [qF]
  unfold qP
  by_cases h1 : c.toNat < 32 \/ c.toNat = 127
  rw [if_pos h1]
  exact .esc (a := [c]) (Qkb h0 (by omega)) ih
  rw [if_neg h1]
  by_cases h2 : c.toNat = 34 \/ c.toNat = 92
  rw [if_pos h2]
  refine .esc (a := [c]) (.lit c ?_ (Qk1 fun q => h1 (.inl q))) ih
  rcases h2 with h2 | h2 <;> rw [h2] <;> decide
  rw [if_neg h2]
  exact .raw ⟨fun q => h2 (.inl q), fun q => h2 (.inr q), Qk1 fun q => h1 (.inl q)⟩ ih
theorem Jh {s : Bs} (hz : ∀ c ∈ s, c.toNat ≠ 0) : Qgk s (QQ s) := .inr ⟨34, qF s, .inr rfl, Qp3 s hz, rfl⟩
theorem dig10 : ∀ m : Fin 10, ((([48, 49, 50, 51, 52, 53, 54, 55, 56, 57] : List UInt8).take (m.val + 1)).drop m.val) = [UInt8.ofNat (48 + m.val)] /\ Qy (UInt8.ofNat (48 + m.val)).toNat = true /\ (UInt8.ofNat (48 + m.val)).toNat - 48 = m.val := by decide
theorem QbI (n : Nat) : Vs n ≠ [] /\ (∀ c ∈ Vs n, Qy c.toNat = true) /\ YA (Vs n) = n := by
 induction n using Nat.strongRecOn with
 | _ n ih =>
  have one : ∀ m, m < 10 -> Vs m = [UInt8.ofNat (48 + m)] /\ Qy (UInt8.ofNat (48 + m)).toNat = true /\ (UInt8.ofNat (48 + m)).toNat - 48 = m := by
   intro m hm
   obtain ⟨e1, e2, e3⟩ := dig10 ⟨m, hm⟩
   refine ⟨?_, e2, e3⟩
   rw [Vs, if_pos hm]; exact e1
  by_cases h : n < 10
  obtain ⟨e1, e2, e3⟩ := one n h
  rw [e1]
  refine ⟨by simp, fun c hc => by rw [List.mem_singleton.1 hc]; exact e2, ?_⟩
  simp only [YA, List.foldl_cons, List.foldl_nil, e3]; omega
  obtain ⟨a1, a2, a3⟩ := ih (n / 10) (by omega)
  obtain ⟨b1, b2, b3⟩ := one (n % 10) (Nat.mod_lt _ (by decide))
  rw [Vs, if_neg h, b1]
  refine ⟨by simp, fun c hc => ?_, ?_⟩
  rcases List.mem_append.1 hc with hc | hc
  exact a2 c hc
  rw [List.mem_singleton.1 hc]; exact b2
  unfold YA at a3 ⊢
  rw [List.foldl_append, a3]
  simp only [List.foldl_cons, List.foldl_nil, b3]; omega
theorem Z8 {n : Nat} (h : n <= 9223372036854775807) : Qgm n (Vs n) := ⟨(QbI n).1, (QbI n).2.1, (QbI n).2.2, h⟩
theorem QaL {n : Nat} {ds : Bs} (h : Qgm n ds) : Qy (hd ds) = true := by
 obtain ⟨c, u, rfl⟩ := List.exists_cons_of_ne_nil h.1
 exact h.2.1 c (by simp)
theorem Um {c : Nat} (h : Qy c = true) : VM c = false /\ c ≠ 47 /\ c ≠ 45 /\ c ≠ 43 /\ isN c = false := by
 simp only [Qy, Bool.and_eq_true, decide_eq_true_eq] at h
 simp [VM, isN]; omega
section
variable {s : Bs}
theorem QcW {a b : Int} {n : Nat} {ds : Bs} (hd' : Qgm n ds) {c : UInt8} (hc : c.toNat = 43 /\ b = n \/ c.toNat = 45 /\ b = 0 - (n : Int)) {g1 g2 : Bs} (w1 : WsL g1) (w2 : WsL g2) {i : Nat} {r : Bs} (e : s.drop i = g1 ++ (c :: (g2 ++ (ds ++ r)))) (hr : Qy (hd r) = false) :
 Zg s a i = some (a, b, i + g1.length + 1 + g2.length + ds.length) := by
 have hsc : Yf (c :: (g2 ++ (ds ++ r))) := by
  unfold Yf
  show VM c.toNat = false /\ c.toNat ≠ 47
  rcases hc with hc | hc <;> rw [hc.1] <;> decide
 have q1 := Yr g1 i _ e w1 hsc
 obtain ⟨c1, c2, c3, c4⟩ := d1 (dA e)
 have hf := Um (QaL hd')
 have hsd : Yf (ds ++ r) := by unfold Yf; rw [Q5 hd'.1]; exact ⟨hf.1, hf.2.1⟩
 have q2 := Yr g2 _ _ c4 w2 hsd
 have q3 := Qcs hd' (dA c4) hr
 unfold Zg
 rw [q1, if_pos c1, c2]
 rcases hc with ⟨hc, hb⟩ | ⟨hc, hb⟩
 rw [hc, if_pos rfl, q2, q3, hb]; rfl
 rw [hc, if_neg (by decide), if_pos rfl, q2, q3, hb]; rfl
end
theorem QmK {a b : Int} {m n : Nat} {ds es : Bs} (neg : Bool) (h1 : Qgm m ds) (ha : a = if neg = true then 0 - (m : Int) else m) (h2 : Qgm n es) {x c : UInt8} (hx : isN x.toNat = true) (hc : c.toNat = 43 /\ b = n \/ c.toNat = 45 /\ b = 0 - (n : Int)) {g1 g2 : Bs} (w1 : WsL g1) (w2 : WsL g2) :
 Qea a b ((if neg = true then [45] else []) ++ (ds ++ (x :: (g1 ++ (c :: (g2 ++ es)))))) := by
 have hf := Um (QaL h1)
 have hdn := QaL h1
 refine ⟨?_, ?_, ?_, fun s i g r e wg => ⟨_, ?_, .inl rfl⟩⟩
 cases neg <;> simp
 cases neg
 show VM (hd (ds ++ _)) = false
 rw [Q5 h1.1]; exact hf.1
 show VM 45 = false; decide
 cases neg
 show hd (ds ++ _) ≠ 47
 rw [Q5 h1.1]; exact hf.2.1
 show 45 ≠ 47; decide
 have hr := QpH (r := r) wg
 generalize g ++ (41 :: r) = r at e hr
 have hrd : Qy (hd r) = false := by
  rcases hr with hr | hr
  simp only [VM, Bool.or_eq_true, decide_eq_true_eq] at hr
  rcases hr with (((hr | hr) | hr) | hr) | hr <;> rw [hr] <;> decide
  rw [hr]; decide
 have xd : Qy x.toNat = false := by
  simp only [isN, Bool.or_eq_true, decide_eq_true_eq] at hx
  rcases hx with hx | hx <;> rw [hx] <;> decide
 have common : ∀ j, s.drop j = ds ++ (x :: (g1 ++ (c :: (g2 ++ (es ++ r))))) -> Qdn s j = some ((m : Int), j + ds.length) /\
  (∀ a', ZA s a' (j + ds.length) = some (a', b, j + ds.length + 1 + g1.length + 1 + g2.length + es.length)) /\ j < s.length /\ Qy (bat s j) = true := by
  intro j ej
  have q := Qcs h1 ej xd
  obtain ⟨x1, x2, x3, x4⟩ := d1 (dA ej)
  refine ⟨q, fun a' => ?_, lhd ej (by simp [h1.1]), by rw [bhd ej, Q5 h1.1]; exact hdn⟩
  unfold ZA
  rw [if_pos x1, if_pos (by rw [x2]; exact hx), QcW h2 hc w1 w2 x4 hrd]
 cases neg with
 | false =>
  have e1 : s.drop i = ds ++ (x :: (g1 ++ (c :: (g2 ++ (es ++ r))))) := by rw [e]; simp
  obtain ⟨q1, q2, q3, q4⟩ := common i e1
  have hb := bhd e1
  rw [Q5 h1.1] at hb
  unfold VU
  rw [if_pos q3, if_neg (by rw [hb]; exact hf.2.2.1), if_neg (by rw [hb]; exact hf.2.2.2.1), if_pos q4]
  unfold VZ
  rw [if_pos q3, if_pos q4, q1]
  simp only [Option.bind_some]
  rw [q2, ha]
  simp; omega
 | true =>
  have e1 : s.drop i = 45 :: (ds ++ (x :: (g1 ++ (c :: (g2 ++ (es ++ r)))))) := by rw [e]; simp
  obtain ⟨c1, c2, c3, c4⟩ := d1 e1
  obtain ⟨q1, q2, q3, q4⟩ := common (i + 1) c4
  unfold VU
  rw [if_pos c1, if_pos (show bat s i = 45 from c2)]
  unfold V9
  rw [if_pos q3, if_pos q4, q1]
  simp only [Option.bind_some]
  rw [q2, ha]
  simp; omega
theorem Qlk {a b : Int} (ha : -9999 <= a /\ a <= 9999) (hb : -9999 <= b /\ b <= 9999) : Qea a b (QF a b) := by
 have key : ∀ (neg : Bool) (m : Nat), m <= 9999 -> a = (if neg = true then 0 - (m : Int) else m) -> Qea a b ((if neg = true then [45] else []) ++ (Vs m ++ (110 :: QP b))) := by
  intro neg m hm e
  unfold QP
  by_cases h : b < 0
  rw [if_pos h]
  exact QmK neg (Z8 (n := m) (by omega)) e (Z8 (n := (-b).toNat) (by omega)) (x := 110) (c := 45) (by decide) (.inr ⟨rfl, by omega⟩) (g1 := []) (g2 := []) .nil .nil
  rw [if_neg h]
  exact QmK neg (Z8 (n := m) (by omega)) e (Z8 (n := b.toNat) (by omega)) (x := 110) (c := 43) (by decide) (.inl ⟨rfl, by omega⟩) (g1 := []) (g2 := []) .nil .nil
 unfold QF
 by_cases h : a < 0
 rw [if_pos h]
 exact key true (-a).toNat (by omega) (by simp; omega)
 rw [if_neg h]
 exact key false a.toNat (by omega) (by simp; omega)
end Way
end
section
namespace Way
set_option maxRecDepth 20000
theorem Qa7 {s : Bs} {j : Nat} (h : bat s j < 128) : Qk s j = (bat s j, 1) := by unfold Qk; rw [if_pos h]
theorem Qc2 {s : Bs} : ∀ {k i c d : Nat}, VV s k i c = some d -> ∀ m, i <= m -> m < i + k -> bat s m ≠ 0
 | 0, i, c, d, h, m, h1, h2 => by omega
 | k + 1, i, c, d, h, m, h1, h2 => by
  rw [VV] at h
  split at h
  cases h
  rename_i h0
  by_cases e : m = i
  subst e; omega
  exact Qc2 h m (by omega) (by omega)
theorem Qms {s : Bs} {j : Nat} (h : (Qk s j).2 ≠ 0) (h1 : (Qk s j).1 ≠ 0) : 1 <= (Qk s j).2 /\ ∀ m, j <= m -> m < j + (Qk s j).2 -> bat s m ≠ 0 := by
 by_cases hb : bat s j < 128
 rw [Qa7 hb] at h h1 ⊢
 exact ⟨Nat.le_refl _, fun m h2 h3 => by rw [show m = j by simp only at h3; omega]; exact h1⟩
 unfold Qk at h h1 ⊢
 rw [if_neg hb] at h h1 ⊢
 split
 rename_i h2; rw [if_pos h2] at h; exact absurd rfl h
 rename_i h2
 rw [if_neg h2] at h h1
 split
 rename_i h3; rw [h3] at h; exact absurd rfl h
 rename_i d h3
 rw [h3] at h h1
 simp only at h h1
 split
 rename_i h4; rw [if_pos h4] at h; exact absurd rfl h
 refine ⟨by simp only; omega, fun m k1 k2 => ?_⟩
 simp only at k2
 by_cases e : m = j
 subst e; omega
 exact Qc2 h3 m (by omega) (by omega)
theorem Qel (s : Bs) : ∀ (n j : Nat), s.length - j <= n -> QG s j = true -> ∀ m, j <= m -> m < s.length -> bat s m ≠ 0
 | 0, j, hn, h, m, h1, h2 => by omega
 | n + 1, j, hn, h, m, h1, h2 => by
  rw [QG, if_pos (by omega)] at h
  split at h
  cases h
  rename_i h3
  simp only [not_or] at h3
  obtain ⟨q1, q2⟩ := Qms h3.1 h3.2.1
  by_cases e : m < j + (Qk s j).2
  exact q2 m h1 e
  exact Qel s n _ (by omega) h m (by omega) h2
theorem Qcj {s : Bs} (h : QG s 0 = true) : ∀ c ∈ s, c.toNat ≠ 0 := by
 intro c hc
 obtain ⟨i, hi, rfl⟩ := List.getElem_of_mem hc
 have := Qel s _ 0 (Nat.le_refl _) h i (Nat.zero_le _) hi
 simpa [bat, List.getD_eq_getElem?_getD, List.getElem?_eq_getElem hi] using this
structure Fld (x : SelD) : Prop where
 kz : ∀ c ∈ x.key, c.toNat ≠ 0
 vz : ∀ c ∈ x.val, c.toNat ≠ 0
 low : low x.key = x.key
 key : (x.kind = 2 \/ x.kind = 5) -> x.key ≠ []
 nokey : ¬ (x.kind = 2 \/ x.kind = 5) -> x.key = []
 name : (x.kind = 3 \/ x.kind = 4 \/ x.kind = 15) -> x.val ≠ []
 val : ¬ (x.kind = 3 \/ x.kind = 4 \/ x.kind = 15 \/ (x.kind = 5 /\ x.op ≠ 1) \/ x.kind = 16 \/ x.kind = 17) -> x.val = [] \/ (x.kind = 21 /\ Uv x.val = true)
 num : x.kind ≠ 6 -> x.a = 0 /\ x.b = 0
 rng : -9999 <= x.a /\ x.a <= 9999 /\ -9999 <= x.b /\ x.b <= 9999
 attr : x.kind = 5 -> 1 <= x.op /\ x.op <= 8 /\ (x.flag = 0 \/ x.flag = 1) /\ (x.op = 1 -> x.flag = 0)
 comb : x.kind = 22 -> 1 <= x.op /\ x.op <= 4 /\ x.flag = 0
 nth : x.kind = 6 -> x.op = 0 /\ 0 <= x.flag /\ x.flag <= 3
 only : x.kind = 7 -> x.op = 0 /\ (x.flag = 0 \/ x.flag = 2)
 other : x.kind ≠ 5 -> x.kind ≠ 22 -> x.kind ≠ 6 -> x.kind ≠ 7 -> x.op = 0 /\ x.flag = 0
theorem fld {x : SelD} (h : Z7 x = true) : Fld x := by
 unfold Z7 at h
 simp only [Bool.and_eq_true, decide_eq_true_eq] at h
 obtain ⟨⟨⟨⟨⟨⟨⟨⟨⟨⟨⟨h1, h2⟩, h3⟩, h4⟩, h5⟩, h6⟩, h7⟩, h8⟩, h9⟩, h10⟩, h11⟩, h12⟩ := h
 have k4 : (x.kind = 2 \/ x.kind = 5) ↔ x.key ≠ [] := by
  by_cases e : x.key = [] <;> by_cases e2 : x.kind = 2 <;> by_cases e5 : x.kind = 5 <;> simp_all
 refine { kz := Qcj h1, vz := Qcj h2, low := h3, key := k4.1, nokey := fun q => ?_, name := ?_, val := ?_, num := ?_, rng := ⟨h9, h8, h11, h10⟩, attr := ?_, comb := ?_, nth := ?_, only := ?_, other := ?_ }
 by_cases e : x.key = []
 exact e
 exact absurd (k4.2 e) q
 intro q e
 simp only [e, decide_true, Bool.and_true, Bool.not_eq_true', Bool.or_eq_false_iff, decide_eq_false_iff_not] at h5
 omega
 intro q
 by_cases e : x.val = []
 exact .inl e
 right
 have hn : (decide (x.kind = 3) || decide (x.kind = 4) || decide (x.kind = 15) || (decide (x.kind = 5) && !decide (x.op = 1)) || decide (x.kind = 16) || decide (x.kind = 17)) = false := by
  simp only [Bool.or_eq_false_iff, decide_eq_false_iff_not, Bool.and_eq_false_imp, decide_eq_true_eq, Bool.not_eq_false']
  simp only [not_or, not_and, Decidable.not_not] at q
  exact ⟨⟨⟨⟨⟨q.1, q.2.1⟩, q.2.2.1⟩, q.2.2.2.1⟩, q.2.2.2.2.1⟩, q.2.2.2.2.2⟩
 rw [hn] at h6
 simpa [e] using h6
 intro q
 simpa [q] using h7
 intro q; rw [if_pos q] at h12; simp at h12; omega
 intro q; rw [if_neg (by omega), if_pos q] at h12; simp at h12; omega
 intro q; rw [if_neg (by omega), if_neg (by omega), if_pos q] at h12; simp at h12; omega
 intro q; rw [if_neg (by omega), if_neg (by omega), if_neg (by omega), if_pos q] at h12; simp at h12; omega
 intro q1 q2 q3 q4; rw [if_neg q1, if_neg q2, if_neg q3, if_neg q4] at h12; simpa using h12
def UG (x : SelD) : Prop := (x.kind = 15 \/ x.kind = 16 \/ x.kind = 17) -> low x.val = x.val
theorem Qrq {t : Bs} (h : ∀ c ∈ t, QO c.toNat = true) (h0 : QE (hd t) = true) : IdW t t := by
 refine ⟨0, t, t, rfl, rfl, ?_, .inl h0⟩
 clear h0
 induction t with
 | nil => exact .nil
 | cons c t ih => exact .raw (h c (by simp)) (ih fun c hc => h c (by simp [hc]))
theorem YQ {t : Bs} (h : ((t.all fun c => QO c.toNat) && QE (hd t)) = true) : IdW t t := by
 simp only [Bool.and_eq_true, List.all_eq_true] at h
 exact Qrq h.1 h.2
theorem Ub : ∀ m : Fin 7, IdW (Qw.getD m.val []) (Qw.getD m.val []) /\ low (Qw.getD m.val []) = Qw.getD m.val [] := by
 intro m
 have h : ∀ m : Fin 7, (((Qw.getD m.val []).all fun c => QO c.toNat) && QE (hd (Qw.getD m.val []))) = true /\ low (Qw.getD m.val []) = Qw.getD m.val [] := by decide
 exact ⟨YQ (h m).1, (h m).2⟩
theorem QrW {x : SelD} (hf : Fld x) (hs : UG x) (hk : Qp x.kind = true) (h1 : x.kind ≠ 1) (h2 : x.kind ≠ 2) (hr : ¬ (x.kind = 18 \/ x.kind = 19 \/ x.kind = 20)) : Vt 0 (QM x) (Qq x) := by
 simp only [Qp, Bool.and_eq_true, decide_eq_true_eq] at hk
 have hcases : x.kind = 3 \/ x.kind = 4 \/ x.kind = 5 \/ x.kind = 6 \/ x.kind = 7 \/ x.kind = 8 \/ x.kind = 9 \/ x.kind = 10 \/ x.kind = 11 \/ x.kind = 12 \/ x.kind = 13 \/ x.kind = 14 \/ x.kind = 15 \/ x.kind = 16 \/ x.kind = 17 := by omega
 rcases hcases with e | e | e | e | e | e | e | e | e | e | e | e | e | e | e
 have q := Vt.cls (ZN hf.vz (hf.name (by omega)))
 simpa [QM, Qq, e] using q
 have hid := ZN hf.vz (hf.name (by omega))
 have q := Vt.idn (QmP hf.vz) hid.head.1
 simpa [QM, Qq, e] using q
 have hkid := ZN hf.kz (hf.key (by omega))
 obtain ⟨o1, o2, o3, o4⟩ := hf.attr e
 by_cases ho : x.op = 1
 have q := Vt.attr0 (g1 := []) (g2 := []) hkid .nil .nil
 have hv : x.val = [] := by
  rcases hf.val (by omega) with h | h
  exact h
  omega
 rw [hf.low] at q
 simpa [QM, Qq, e, ho, hv, o4 ho, Vz] using q
 have hop : Vz.getD x.op.toNat [] ∈ attrSigns := by
  obtain ⟨m, hm⟩ : ∃ m : Fin 9, x.op.toNat = m.val := ⟨⟨x.op.toNat, by omega⟩, rfl⟩
  have : ∀ m : Fin 9, 2 <= m.val -> Vz.getD m.val [] ∈ attrSigns := by decide
  rw [hm]; exact this m (by omega)
 have hfl : ∃ g4 f, ([[], [32, 105]] : List Bs).getD x.flag.toNat [] = g4 ++ f /\ WsL g4 /\ Qkr (decide (x.flag = 1)) f /\ (f = [] \/ g4 ≠ []) := by
  rcases o3 with h | h
  exact ⟨[], [], by rw [h]; rfl, .nil, .inl ⟨by rw [h]; rfl, rfl⟩, .inl rfl⟩
  exact ⟨[32], [105], by rw [h]; rfl, fun c hc => by rw [List.mem_singleton.1 hc]; decide, .inr ⟨by rw [h]; rfl, .inl rfl⟩, .inr (by simp)⟩
 obtain ⟨g4, f, e1, w4, hfw, hz⟩ := hfl
 have q := Vt.attr1 (g1 := []) (g2 := []) (g3 := []) (g5 := []) hkid .nil .nil hop .nil (Jh hf.vz) w4 hfw hz .nil
 rw [hf.low] at q
 have hw : Qq x = 91 :: ([] ++ (Qs x.key ++ ([] ++ (Vz.getD x.op.toNat [] ++ ([] ++ (QQ x.val ++ (g4 ++ (f ++ ([] ++ [93]))))))))) := by
  unfold Qq
  rw [if_neg (by omega), if_neg (by omega), if_neg (by omega), if_neg (by omega), if_pos e, if_neg ho, e1]
  simp
 have hl : QM x = .attr x.key x.val (Vz.getD x.op.toNat []) (decide (x.flag = 1)) := by
  unfold QM
  rw [if_neg (by omega), if_neg (by omega), if_neg (by omega), if_neg (by omega), if_pos e]
 rw [hw, hl]
 exact q
 obtain ⟨_, n1, n2⟩ := hf.nth e
 have hc := Qlk (a := x.a) (b := x.b) ⟨hf.rng.1, hf.rng.2.1⟩ ⟨hf.rng.2.2.1, hf.rng.2.2.2⟩
 have key : ∀ (nm : Bs) (l t : Bool), IdW nm nm -> low nm = Qco l t -> Vt 0 (.nth x.a x.b l t) (58 :: (nm ++ (40 :: (QF x.a x.b ++ [41])))) := by
  intro nm l t h1 h2
  have q := Vt.nth (g1 := []) (g2 := []) l t h1 h2 hc .nil .nil
  simpa using q
 have h4 : x.flag = 0 \/ x.flag = 1 \/ x.flag = 2 \/ x.flag = 3 := by omega
 rcases h4 with h | h | h | h
 have q := key Jb false false (YQ (by decide)) (by decide)
 simpa [QM, Qq, e, h, Q3, Jb] using q
 have q := key Yj true false (YQ (by decide)) (by decide)
 simpa [QM, Qq, e, h, Q3, Yj] using q
 have q := key Jj false true (YQ (by decide)) (by decide)
 simpa [QM, Qq, e, h, Q3, Jj] using q
 have q := key Yd true true (YQ (by decide)) (by decide)
 simpa [QM, Qq, e, h, Q3, Yd] using q
 obtain ⟨_, n1 | n1⟩ := hf.only e
 have q := Vt.plain (x := .only false) (YQ (t := [111, 110, 108, 121, 45, 99, 104, 105, 108, 100]) (by decide)) (fun G s j => rfl)
 simpa [QM, Qq, e, n1, VP] using q
 have q := Vt.plain (x := .only true) (YQ (t := [111, 110, 108, 121, 45, 111, 102, 45, 116, 121, 112, 101]) (by decide)) (fun G s j => rfl)
 simpa [QM, Qq, e, n1, VP] using q
 have q := Vt.plain (x := .empty) (show IdW (Qw.getD 0 []) (Qw.getD 0 []) from (Ub 0).1) (fun G s j => rfl)
 simpa [QM, Qq, e] using q
 have q := Vt.plain (x := .root) (show IdW (Qw.getD 1 []) (Qw.getD 1 []) from (Ub 1).1) (fun G s j => rfl)
 simpa [QM, Qq, e] using q
 have q := Vt.plain (x := .input) (show IdW (Qw.getD 2 []) (Qw.getD 2 []) from (Ub 2).1) (fun G s j => rfl)
 simpa [QM, Qq, e] using q
 have q := Vt.plain (x := .link) (show IdW (Qw.getD 3 []) (Qw.getD 3 []) from (Ub 3).1) (fun G s j => rfl)
 simpa [QM, Qq, e] using q
 have q := Vt.plain (x := .enabled) (show IdW (Qw.getD 4 []) (Qw.getD 4 []) from (Ub 4).1) (fun G s j => rfl)
 simpa [QM, Qq, e] using q
 have q := Vt.plain (x := .disabled) (show IdW (Qw.getD 5 []) (Qw.getD 5 []) from (Ub 5).1) (fun G s j => rfl)
 simpa [QM, Qq, e] using q
 have q := Vt.plain (x := .checked) (show IdW (Qw.getD 6 []) (Qw.getD 6 []) from (Ub 6).1) (fun G s j => rfl)
 simpa [QM, Qq, e] using q
 have q := Vt.lang (g1 := []) (g2 := []) (YQ (t := Y6) (by decide)) (by decide) (ZN hf.vz (hf.name (by omega))) .nil .nil
 rw [hs (by omega)] at q
 simpa [QM, Qq, e, Y6] using q
 have q := Vt.contains (g1 := []) (g2 := []) false (YQ (t := Q7) (by decide)) (by decide) (Jh hf.vz) .nil .nil
 rw [hs (by omega)] at q
 simpa [QM, Qq, e, Q7] using q
 have q := Vt.contains (g1 := []) (g2 := []) true (YQ (t := [99, 111, 110, 116, 97, 105, 110, 115, 79, 119, 110]) (by decide)) (by decide) (Jh hf.vz) .nil .nil
 rw [hs (by omega)] at q
 simpa [QM, Qq, e] using q
end Way
end
end Go.Proofs.YtengepcafdnalaaGreatDoor
