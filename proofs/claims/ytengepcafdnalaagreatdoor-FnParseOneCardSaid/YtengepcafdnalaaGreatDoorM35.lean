/-
  Parts of the proof that the law FnParseOne holds for every input (texts Wc, Wd, We). Conditions: none.
-/
import Derived.Test.YtengepcafdnalaaGreatDoorM34
namespace Go.Proofs.YtengepcafdnalaaGreatDoor
section
def digs16 : Bs := [48, 49, 50, 51, 52, 53, 54, 55, 56, 57, 97, 98, 99, 100, 101, 102]
def hexG (c : Nat) (o : Bs) : Bs := if 0 < c then hexG (c / 16) ((digs16.take (c % 16 + 1)).drop (c % 16) ++ o) else o
 termination_by c
 decreasing_by omega
def escOf (c : Nat) : Bs := 92 :: (hexG c [] ++ [32])
def nmP (h i : Nat) (c : UInt8) : Bs :=
 if c.toNat < 32 ∨ c.toNat = 127 ∨ (digB c.toNat = true ∧ (i = 0 ∨ (i = 1 ∧ h = 45))) ∨ (c.toNat = 45 ∧ i = 1 ∧ h = 45) then escOf c.toNat
 else if nmChar c.toNat = true then [c] else [92, c]
def nmF (h : Nat) : Nat → Bs → Bs
 | _, [] => []
 | i, c :: u => nmP h i c ++ nmF h (i + 1) u
def named (s : Bs) : Bs := if s = [45] then [92, 45] else nmF (bat s 0) 0 s
def qP (c : UInt8) : Bs := if c.toNat < 32 ∨ c.toNat = 127 then escOf c.toNat else if c.toNat = 34 ∨ c.toNat = 92 then [92, c] else [c]
def qF : Bs → Bs
 | [] => []
 | c :: u => qP c ++ qF u
def quotedS (s : Bs) : Bs := 34 :: (qF s ++ [34])
def decS (n : Nat) : Bs := if n < 10 then (([48, 49, 50, 51, 52, 53, 54, 55, 56, 57] : List UInt8).take (n + 1)).drop n else decS (n / 10) ++ decS (n % 10)
 termination_by n
 decreasing_by all_goals omega
def signedS (n : Int) : Bs := if n < 0 then 45 :: decS (-n).toNat else 43 :: decS n.toNat
def countedS (a b : Int) : Bs := (if a < 0 then 45 :: decS (-a).toNat else decS a.toNat) ++ (110 :: signedS b)
def signTxt : List Bs := [[], [], [61], [33, 61], [126, 61], [124, 61], [94, 61], [36, 61], [42, 61]]
def nthTxt : List Bs := [[99, 104, 105, 108, 100], [108, 97, 115, 116, 45, 99, 104, 105, 108, 100], [111, 102, 45, 116, 121, 112, 101], [108, 97, 115, 116, 45, 111, 102, 45, 116, 121, 112, 101]]
def onlyTxt : List Bs := [[99, 104, 105, 108, 100], [], [111, 102, 45, 116, 121, 112, 101]]
def plainTxt : List Bs := [[101, 109, 112, 116, 121], [114, 111, 111, 116], [105, 110, 112, 117, 116], [108, 105, 110, 107], [101, 110, 97, 98, 108, 101, 100], [100, 105, 115, 97, 98, 108, 101, 100], [99, 104, 101, 99, 107, 101, 100]]
def relTxt : List Bs := [nNot, nHas, nHasChild]
def combTxt : List Bs := [[], [32], [32, 62, 32], [32, 43, 32], [32, 126, 32]]
def wrSimple (x : SelD) : Bs :=
 if x.kind = 1 then [42]
 else if x.kind = 2 then named x.key
 else if x.kind = 3 then 46 :: named x.val
 else if x.kind = 4 then 35 :: named x.val
 else if x.kind = 5 then
  (if x.op = 1 then 91 :: (named x.key ++ [93])
  else 91 :: (named x.key ++ (signTxt.getD x.op.toNat [] ++ (quotedS x.val ++ ([[], [32, 105]].getD x.flag.toNat [] ++ [93])))))
 else if x.kind = 6 then [58, 110, 116, 104, 45] ++ (nthTxt.getD x.flag.toNat [] ++ (40 :: (countedS x.a x.b ++ [41])))
 else if x.kind = 7 then [58, 111, 110, 108, 121, 45] ++ onlyTxt.getD x.flag.toNat []
 else if x.kind = 15 then [58, 108, 97, 110, 103, 40] ++ (named x.val ++ [41])
 else if x.kind = 16 then [58, 99, 111, 110, 116, 97, 105, 110, 115, 40] ++ (quotedS x.val ++ [41])
 else if x.kind = 17 then [58, 99, 111, 110, 116, 97, 105, 110, 115, 79, 119, 110, 40] ++ (quotedS x.val ++ [41])
 else 58 :: plainTxt.getD (x.kind - 8).toNat []
def joinC : List Bs → Bs
 | [] => []
 | t :: l => t ++ l.flatMap fun u => [44, 32] ++ u
def cmpStep (p : Bs × Bs) (t : Int × Bs) : Bs × Bs := if t.1 = 2 then (t.2, p.2) else if t.1 = 1 then ((if p.1 = [] then [42] else p.1), p.2) else (p.1, p.2 ++ t.2)
def cmpEnd (val : Bs) (p : Bs × Bs) : Bs := if p.1 ++ (if val = [] then p.2 else p.2 ++ ([58, 58] ++ named val)) = [] then [42] else p.1 ++ (if val = [] then p.2 else p.2 ++ ([58, 58] ++ named val))
def wrCmp (val : Bs) (ts : List (Int × Bs)) : Bs := cmpEnd val (ts.foldl cmpStep ([], []))
def wrNode (x : SelD) (ts : List (Int × Bs)) : Bs :=
 if x.kind = 23 then joinC (ts.map Prod.snd)
 else if x.kind = 22 then (ts.getD 0 (0, [])).2 ++ combTxt.getD x.op.toNat [] ++ (ts.getD 1 (0, [])).2
 else if x.kind = 21 then wrCmp x.val ts
 else if x.kind = 18 ∨ x.kind = 19 ∨ x.kind = 20 then 58 :: (relTxt.getD (x.kind - 18).toNat [] ++ (40 :: ((ts.getD 0 (0, [])).2 ++ [41])))
 else wrSimple x
mutual
def wr : ST → Bs
 | .mk x ks => wrNode x (wrs ks)
def wrs : List ST → List (Int × Bs)
 | [] => []
 | t :: l => (t.node.kind, wr t) :: wrs l
end
def isElB (l : List UInt8) : Bool := decide (l = [98, 101, 102, 111, 114, 101]) || decide (l = [97, 102, 116, 101, 114]) || decide (l = [102, 105, 114, 115, 116, 45, 108, 105, 110, 101]) || decide (l = [102, 105, 114, 115, 116, 45, 108, 101, 116, 116, 101, 114])
def isSimB (n : Int) : Bool := decide (1 ≤ n) && decide (n ≤ 20)
def isCpxB (n : Int) : Bool := isSimB n || decide (n = 21) || decide (n = 22)
def psNode (x : SelD) : Bool := decide (x.kind = 21) && !decide (x.val = [])
def fldB (x : SelD) : Bool :=
 let key := decide (x.kind = 2) || decide (x.kind = 5)
 let name := decide (x.kind = 3) || decide (x.kind = 4) || decide (x.kind = 15)
 let val := name || (decide (x.kind = 5) && !decide (x.op = 1)) || decide (x.kind = 16) || decide (x.kind = 17)
 readGo x.key 0 && readGo x.val 0 && decide (low x.key = x.key)
 && !(key == decide (x.key = [])) && !(name && decide (x.val = [])) && !(!val && !decide (x.val = []) && (!decide (x.kind = 21) || !isElB x.val))
 && !(!decide (x.kind = 6) && (!decide (x.a = 0) || !decide (x.b = 0))) && decide (x.a ≤ 9999) && decide (-9999 ≤ x.a) && decide (x.b ≤ 9999) && decide (-9999 ≤ x.b)
 && (if x.kind = 5 then decide (1 ≤ x.op) && decide (x.op ≤ 8) && decide (0 ≤ x.flag) && decide (x.flag ≤ 1) && (!decide (x.op = 1) || decide (x.flag = 0))
  else if x.kind = 22 then decide (1 ≤ x.op) && decide (x.op ≤ 4) && decide (x.flag = 0)
  else if x.kind = 6 then decide (x.op = 0) && decide (0 ≤ x.flag) && decide (x.flag ≤ 3)
  else if x.kind = 7 then decide (x.op = 0) && (decide (x.flag = 0) || decide (x.flag = 2))
  else decide (x.op = 0) && decide (x.flag = 0))
def shpT (x : SelD) (ks : List ST) : Prop :=
 if x.kind = 23 then (∀ k ∈ ks, isCpxB k.node.kind = true) ∧ ks ≠ []
 else if x.kind = 18 ∨ x.kind = 19 ∨ x.kind = 20 then (∃ g, ks = [g] ∧ g.node.kind = 23) ∧ (ST.flats ks).any psNode = false
 else if x.kind = 21 then (∀ k ∈ ks, isSimB k.node.kind = true) ∧ (∀ k ∈ ks.tail, k.node.kind ≠ 2)
 else if x.kind = 22 then ∃ a b, ks = [a, b] ∧ isCpxB a.node.kind = true ∧ isCpxB b.node.kind = true ∧ b.node.kind ≠ 22 ∧ a.flat.any psNode = false
 else isSimB x.kind = true ∧ ks = []
mutual
def RightT : ST → Prop
 | .mk x ks => fldB x = true ∧ x.size = 0 ∧ shpT x ks ∧ RightTs ks
def RightTs : List ST → Prop
 | [] => True
 | t :: l => RightT t ∧ RightTs l
end
theorem RightTs.mem : ∀ {l : List ST}, RightTs l → ∀ t ∈ l, RightT t
 | [], _, t, h => by cases h
 | t :: l, ⟨h1, h2⟩, u, hu => by
  rcases List.mem_cons.1 hu with e | e
  · subst e; exact h1
  exact RightTs.mem h2 u e
def combB (op : Int) : UInt8 := ([0, 32, 62, 43, 126] : List UInt8).getD op.toNat 0
def leafC (x : SelD) : CSel :=
 if x.kind = 1 then .compound [] []
 else if x.kind = 2 then .tag x.key
 else if x.kind = 3 then .cls x.val
 else if x.kind = 4 then .idn x.val
 else if x.kind = 5 then .attr x.key x.val (signTxt.getD x.op.toNat []) (decide (x.flag = 1))
 else if x.kind = 6 then .nth x.a x.b (decide (x.flag = 1 ∨ x.flag = 3)) (decide (x.flag = 2 ∨ x.flag = 3))
 else if x.kind = 7 then .only (decide (x.flag = 2))
 else if x.kind = 8 then .empty
 else if x.kind = 9 then .root
 else if x.kind = 10 then .input
 else if x.kind = 11 then .link
 else if x.kind = 12 then .enabled
 else if x.kind = 13 then .disabled
 else if x.kind = 14 then .checked
 else if x.kind = 15 then .lang x.val
 else if x.kind = 16 then .contains x.val false
 else .contains x.val true
def isAnyC : CSel → Bool
 | .compound [] [] => true
 | _ => false
def nodeW (x : SelD) (l : List CSel) : List CSel :=
 if x.kind = 23 then l
 else if x.kind = 22 then [.combined (l.getD 0 default) (combB x.op) (l.getD 1 default)]
 else if x.kind = 21 then [seqEnd (l.filter fun y => !isAnyC y) x.val]
 else if x.kind = 18 ∨ x.kind = 19 ∨ x.kind = 20 then [.rel (relTxt.getD (x.kind - 18).toNat []) l]
 else [leafC x]
mutual
def cs : ST → List CSel
 | .mk x ks => nodeW x (css ks)
def css : List ST → List CSel
 | [] => []
 | t :: l => cs t ++ css l
end
def c1 (T : ST) : CSel := (cs T).headD default
theorem cs_one {T : ST} (h : T.node.kind ≠ 23) : cs T = [c1 T] := by
 obtain ⟨x, ks⟩ := T
 have h' : x.kind ≠ 23 := h
 unfold c1
 rw [cs]
 unfold nodeW
 rw [if_neg h']
 repeat' split
 all_goals rfl
theorem css_map : ∀ {ks : List ST}, (∀ k ∈ ks, k.node.kind ≠ 23) → css ks = ks.map c1
 | [], _ => by simp [css]
 | t :: l, h => by
  rw [css, cs_one (h t (by simp)), css_map (fun k hk => h k (by simp [hk]))]
  rfl
end
section
namespace Way
set_option maxRecDepth 20000
theorem dig16 : ∀ m : Fin 16, (digs16.take (m.val + 1)).drop m.val = [digs16.getD m.val 0] ∧ hexDig (digs16.getD m.val 0).toNat = true ∧ hexOf (digs16.getD m.val 0).toNat = m.val := by decide
theorem hexG_spec : ∀ (c k : Nat) (o : Bs), c < 16 ^ k → ∃ ds : Bs, hexG c o = ds ++ o ∧ (∀ d ∈ ds, hexDig d.toNat = true) ∧ hexVal ds = c ∧ (c ≠ 0 → ds ≠ []) ∧ ds.length ≤ k := by
 intro c
 induction c using Nat.strongRecOn with
 | _ c ih =>
  intro k o hk
  by_cases h0 : 0 < c
  · obtain ⟨d1, d2, d3⟩ := dig16 ⟨c % 16, Nat.mod_lt _ (by decide)⟩
    simp only at d1 d2 d3
    obtain ⟨k', rfl⟩ : ∃ k', k = k' + 1 := ⟨k - 1, by
     rcases k with _ | k
     · simp at hk; omega
     rfl⟩
    obtain ⟨ds, e1, e2, e3, e4, e5⟩ := ih (c / 16) (by omega) k' ((digs16.take (c % 16 + 1)).drop (c % 16) ++ o) (by rw [Nat.pow_succ] at hk; omega)
    refine ⟨ds ++ [digs16.getD (c % 16) 0], ?_, ?_, ?_, by simp, by simpa using e5⟩
    · rw [hexG, if_pos h0, e1, d1]; simp
    · intro d hd
      rcases List.mem_append.1 hd with hd | hd
      · exact e2 d hd
      rw [List.mem_singleton.1 hd]; exact d2
    unfold hexVal at e3 ⊢
    rw [List.foldl_append, e3]
    simp only [List.foldl_cons, List.foldl_nil, d3]
    omega
  refine ⟨[], ?_, by simp, ?_, by omega, by simp⟩
  · rw [hexG, if_neg h0]; rfl
  simp [hexVal]; omega
theorem utf8_ne (n : Int) : utf8 n ≠ [] := by
 unfold utf8 Utf8.encode
 generalize (if Utf8.valid n = true then n.toNat else Utf8.runeError) = c
 by_cases h1 : c < 128
 · simp [h1]
 by_cases h2 : c < 2048
 · simp [h1, h2]
 by_cases h3 : c < 65536
 · simp [h1, h2, h3]
 simp [h1, h2, h3]
theorem utf8_one {c : Nat} (h : c < 128) : utf8 (c : Int) = [UInt8.ofNat c] := by
 have hv : Utf8.valid (c : Int) = true := by unfold Utf8.valid; simp; omega
 unfold utf8 Utf8.encode
 simp only [hv, if_true, Int.toNat_natCast]
 rw [if_pos (by omega)]
theorem escOf_es {c : Nat} (h0 : c ≠ 0) (h1 : c < 16777216) : Es (utf8 (c : Int)) (escOf c) := by
 obtain ⟨ds, e1, e2, e3, e4, e5⟩ := hexG_spec c 6 [] (by simpa using h1)
 unfold escOf
 rw [e1, List.append_nil]
 have := Es.hex ds (e4 h0) e5 e2 (utf8_ne _)
 rwa [e3] at this
theorem escOf_b {c : UInt8} (h0 : c.toNat ≠ 0) (h1 : c.toNat < 128) : Es [c] (escOf c.toNat) := by
 have := escOf_es h0 (by omega)
 rwa [utf8_one h1, UInt8.ofNat_toNat] at this
theorem nonl {c : Nat} (h : ¬ c < 32) : isNl c = false := by simp [isNl]; omega
theorem nmP_pc {h i : Nat} {c : UInt8} (h0 : c.toNat ≠ 0) : (∃ k, nmP h i c = [c] ∧ nmChar c.toNat = k ∧ k = true) ∨ Es [c] (nmP h i c) := by
 unfold nmP
 by_cases h1 : c.toNat < 32 ∨ c.toNat = 127 ∨ (digB c.toNat = true ∧ (i = 0 ∨ (i = 1 ∧ h = 45))) ∨ (c.toNat = 45 ∧ i = 1 ∧ h = 45)
 · rw [if_pos h1]
   refine .inr (escOf_b h0 ?_)
   simp only [digB, Bool.and_eq_true, decide_eq_true_eq] at h1
   omega
 rw [if_neg h1]
 by_cases h2 : nmChar c.toNat = true
 · rw [if_pos h2]; exact .inl ⟨true, rfl, h2, rfl⟩
 rw [if_neg h2]
 refine .inr (.lit c ?_ (nonl fun q => h1 (.inl q)))
 simp only [nmChar, nmStart, hexDig, Bool.not_eq_true, Bool.or_eq_false_iff, Bool.and_eq_false_imp, decide_eq_true_eq, decide_eq_false_iff_not] at h2 ⊢
 omega
theorem nmF_nm {h : Nat} : ∀ (i : Nat) (u : Bs), (∀ c ∈ u, c.toNat ≠ 0) → NmW u (nmF h i u)
 | _, [], _ => .nil
 | i, c :: u, hz => by
  have ih := nmF_nm (h := h) (i + 1) u (fun c hc => hz c (by simp [hc]))
  rw [nmF]
  rcases nmP_pc (h := h) (i := i) (hz c (by simp)) with ⟨k, e, h1, h2⟩ | he
  · rw [e]; exact .raw (h1.trans h2) ih
  exact .esc he ih
theorem named_nm {s : Bs} (hz : ∀ c ∈ s, c.toNat ≠ 0) : NmW s (named s) := by
 unfold named
 split
 · rename_i h; subst h
   exact .esc (.lit 45 (by decide) (by decide)) .nil
 exact nmF_nm 0 s hz
theorem es_hd {v t : Bs} (h : Es v t) : hd t = 92 := by
 obtain ⟨_, c, u, rfl, _⟩ := h.shape; rfl
theorem start_of {c : UInt8} (h1 : nmChar c.toNat = true) (h2 : digB c.toNat = false) (h3 : c.toNat ≠ 45) : nmStart c.toNat = true := by
 simp only [nmChar, digB, Bool.or_eq_true, Bool.and_eq_true, Bool.and_eq_false_imp, decide_eq_true_eq, decide_eq_false_iff_not] at h1 h2
 rcases h1 with (h1 | h1) | h1
 · exact h1
 · exact absurd h1 h3
 exact absurd h1.2 (h2 h1.1)
theorem nmP_esc {h i : Nat} {c : UInt8} (hc : digB c.toNat = true ∧ (i = 0 ∨ (i = 1 ∧ h = 45)) ∨ (c.toNat = 45 ∧ i = 1 ∧ h = 45)) : hd (nmP h i c) = 92 ∧ nmP h i c ≠ [] := by
 unfold nmP
 rw [if_pos (by rcases hc with h | h; exact .inr (.inr (.inl h)); exact .inr (.inr (.inr h)))]
 exact ⟨rfl, by simp [escOf]⟩
theorem nmP_start {h i : Nat} {c : UInt8} (h0 : c.toNat ≠ 0) (hi : i = 0 ∨ (i = 1 ∧ h = 45)) (hc : i = 0 → c.toNat ≠ 45) : nmP h i c ≠ [] ∧ (nmStart (hd (nmP h i c)) = true ∨ hd (nmP h i c) = 92) := by
 by_cases hd' : digB c.toNat = true
 · have := nmP_esc (h := h) (i := i) (c := c) (.inl ⟨hd', hi⟩)
   exact ⟨this.2, .inr this.1⟩
 by_cases h45 : c.toNat = 45
 · have : i = 1 ∧ h = 45 := by
    rcases hi with hi | hi
    · exact absurd h45 (hc hi)
    exact hi
   have := nmP_esc (h := h) (i := i) (c := c) (.inr ⟨h45, this⟩)
   exact ⟨this.2, .inr this.1⟩
 rcases nmP_pc (h := h) (i := i) h0 with ⟨k, e, h1, h2⟩ | he
 · rw [e]
   exact ⟨by simp, .inl (start_of (h1.trans h2) (by simpa using hd') h45)⟩
 have := es_hd he
 exact ⟨hd_ne (by omega), .inr this⟩
theorem named_id {s : Bs} (hz : ∀ c ∈ s, c.toNat ≠ 0) (hs : s ≠ []) : IdW s (named s) := by
 unfold named
 split
 · rename_i h; subst h
   exact ⟨0, [45], [92, 45], rfl, rfl, .esc (.lit 45 (by decide) (by decide)) .nil, .inr rfl⟩
 rename_i hne
 obtain ⟨c, u, rfl⟩ := List.exists_cons_of_ne_nil hs
 have hb : bat (c :: u) 0 = c.toNat := rfl
 rw [hb, nmF]
 have hn := nmF_nm (h := c.toNat) 0 (c :: u) hz
 by_cases hc : c.toNat = 45
 · have hc' : c = 45 := UInt8.toNat_inj.1 hc
   subst hc'
   obtain ⟨c1, u1, rfl⟩ : ∃ c1 u1, u = c1 :: u1 := by
    rcases u with _ | ⟨c1, u1⟩
    · exact absurd rfl hne
    exact ⟨c1, u1, rfl⟩
   have e0 : nmP (45 : UInt8).toNat 0 45 = [45] := by decide
   have h1 := nmP_start (h := (45 : UInt8).toNat) (i := 1) (c := c1) (hz c1 (by simp)) (.inr ⟨rfl, rfl⟩) (fun q => by cases q)
   refine ⟨1, c1 :: u1, nmF (45 : UInt8).toNat 1 (c1 :: u1), rfl, by rw [e0]; rfl, nmF_nm 1 _ (fun c hc => hz c (by simp [hc])), ?_⟩
   rw [nmF, hd_app h1.1]
   exact h1.2
 have h1 := nmP_start (h := c.toNat) (i := 0) (c := c) (hz c (by simp)) (.inl rfl) (fun _ => hc)
 refine ⟨0, c :: u, nmP c.toNat 0 c ++ nmF c.toNat (0 + 1) u, rfl, rfl, hn, ?_⟩
 rw [hd_app h1.1]
 exact h1.2
theorem qF_st : ∀ (u : Bs), (∀ c ∈ u, c.toNat ≠ 0) → StW 34 u (qF u)
 | [], _ => .nil
 | c :: u, hz => by
  have ih := qF_st u (fun c hc => hz c (by simp [hc]))
  have h0 := hz c (by simp)
  rw [qF]
  unfold qP
  by_cases h1 : c.toNat < 32 ∨ c.toNat = 127
  · rw [if_pos h1]
    exact .esc (a := [c]) (escOf_b h0 (by omega)) ih
  rw [if_neg h1]
  by_cases h2 : c.toNat = 34 ∨ c.toNat = 92
  · rw [if_pos h2]
    refine .esc (a := [c]) (.lit c ?_ (nonl fun q => h1 (.inl q))) ih
    rcases h2 with h2 | h2 <;> rw [h2] <;> decide
  rw [if_neg h2]
  exact .raw ⟨fun q => h2 (.inl q), fun q => h2 (.inr q), nonl fun q => h1 (.inl q)⟩ ih
theorem quoted_val {s : Bs} (hz : ∀ c ∈ s, c.toNat ≠ 0) : ValW s (quotedS s) := .inr ⟨34, qF s, .inr rfl, qF_st s hz, rfl⟩
theorem dig10 : ∀ m : Fin 10, ((([48, 49, 50, 51, 52, 53, 54, 55, 56, 57] : List UInt8).take (m.val + 1)).drop m.val) = [UInt8.ofNat (48 + m.val)] ∧ digB (UInt8.ofNat (48 + m.val)).toNat = true ∧ (UInt8.ofNat (48 + m.val)).toNat - 48 = m.val := by decide
theorem decS_spec (n : Nat) : decS n ≠ [] ∧ (∀ c ∈ decS n, digB c.toNat = true) ∧ decVal (decS n) = n := by
 induction n using Nat.strongRecOn with
 | _ n ih =>
  have one : ∀ m, m < 10 → decS m = [UInt8.ofNat (48 + m)] ∧ digB (UInt8.ofNat (48 + m)).toNat = true ∧ (UInt8.ofNat (48 + m)).toNat - 48 = m := by
   intro m hm
   obtain ⟨e1, e2, e3⟩ := dig10 ⟨m, hm⟩
   refine ⟨?_, e2, e3⟩
   rw [decS, if_pos hm]; exact e1
  by_cases h : n < 10
  · obtain ⟨e1, e2, e3⟩ := one n h
    rw [e1]
    refine ⟨by simp, fun c hc => by rw [List.mem_singleton.1 hc]; exact e2, ?_⟩
    simp only [decVal, List.foldl_cons, List.foldl_nil, e3]; omega
  obtain ⟨a1, a2, a3⟩ := ih (n / 10) (by omega)
  obtain ⟨b1, b2, b3⟩ := one (n % 10) (Nat.mod_lt _ (by decide))
  rw [decS, if_neg h, b1]
  refine ⟨by simp, fun c hc => ?_, ?_⟩
  · rcases List.mem_append.1 hc with hc | hc
    · exact a2 c hc
    rw [List.mem_singleton.1 hc]; exact b2
  unfold decVal at a3 ⊢
  rw [List.foldl_append, a3]
  simp only [List.foldl_cons, List.foldl_nil, b3]; omega
theorem dec_dig {n : Nat} (h : n ≤ 9223372036854775807) : DigW n (decS n) := ⟨(decS_spec n).1, (decS_spec n).2.1, (decS_spec n).2.2, h⟩
theorem dig_hd {n : Nat} {ds : Bs} (h : DigW n ds) : digB (hd ds) = true := by
 obtain ⟨c, u, rfl⟩ := List.exists_cons_of_ne_nil h.1
 exact h.2.1 c (by simp)
theorem digB_facts {c : Nat} (h : digB c = true) : isWs c = false ∧ c ≠ 47 ∧ c ≠ 45 ∧ c ≠ 43 ∧ isN c = false := by
 simp only [digB, Bool.and_eq_true, decide_eq_true_eq] at h
 simp [isWs, isN]; omega
section
variable {s : Bs}
theorem readN_at {a b : Int} {n : Nat} {ds : Bs} (hd' : DigW n ds) {c : UInt8} (hc : c.toNat = 43 ∧ b = n ∨ c.toNat = 45 ∧ b = 0 - (n : Int)) {g1 g2 : Bs} (w1 : WsL g1) (w2 : WsL g2) {i : Nat} {r : Bs} (e : s.drop i = g1 ++ (c :: (g2 ++ (ds ++ r)))) (hr : digB (hd r) = false) :
 iReadN s a i = some (a, b, i + g1.length + 1 + g2.length + ds.length) := by
 have hsc : StopW (c :: (g2 ++ (ds ++ r))) := by
  unfold StopW
  show isWs c.toNat = false ∧ c.toNat ≠ 47
  rcases hc with hc | hc <;> rw [hc.1] <;> decide
 have q1 := iWs_at g1 i _ e w1 hsc
 obtain ⟨c1, c2, c3, c4⟩ := d1 (dA e)
 have hf := digB_facts (dig_hd hd')
 have hsd : StopW (ds ++ r) := by unfold StopW; rw [hd_app hd'.1]; exact ⟨hf.1, hf.2.1⟩
 have q2 := iWs_at g2 _ _ c4 w2 hsd
 have q3 := iInt_at hd' (dA c4) hr
 unfold iReadN
 rw [q1, if_pos c1, c2]
 rcases hc with ⟨hc, hb⟩ | ⟨hc, hb⟩
 · rw [hc, if_pos rfl, q2, q3, hb]; rfl
 rw [hc, if_neg (by decide), if_pos rfl, q2, q3, hb]; rfl
end
theorem nth_w {a b : Int} {m n : Nat} {ds es : Bs} (neg : Bool) (h1 : DigW m ds) (ha : a = if neg = true then 0 - (m : Int) else m) (h2 : DigW n es) {x c : UInt8} (hx : isN x.toNat = true) (hc : c.toNat = 43 ∧ b = n ∨ c.toNat = 45 ∧ b = 0 - (n : Int)) {g1 g2 : Bs} (w1 : WsL g1) (w2 : WsL g2) :
 NthW a b ((if neg = true then [45] else []) ++ (ds ++ (x :: (g1 ++ (c :: (g2 ++ es)))))) := by
 have hf := digB_facts (dig_hd h1)
 have hdn := dig_hd h1
 refine ⟨?_, ?_, ?_, fun s i g r e wg => ⟨_, ?_, .inl rfl⟩⟩
 · cases neg <;> simp
 · cases neg
   · show isWs (hd (ds ++ _)) = false
     rw [hd_app h1.1]; exact hf.1
   show isWs 45 = false; decide
 · cases neg
   · show hd (ds ++ _) ≠ 47
     rw [hd_app h1.1]; exact hf.2.1
   show 45 ≠ 47; decide
 have hr := ws_or (r := r) wg
 generalize g ++ (41 :: r) = r at e hr
 have hrd : digB (hd r) = false := by
  rcases hr with hr | hr
  · simp only [isWs, Bool.or_eq_true, decide_eq_true_eq] at hr
    rcases hr with (((hr | hr) | hr) | hr) | hr <;> rw [hr] <;> decide
  rw [hr]; decide
 have xd : digB x.toNat = false := by
  simp only [isN, Bool.or_eq_true, decide_eq_true_eq] at hx
  rcases hx with hx | hx <;> rw [hx] <;> decide
 have common : ∀ j, s.drop j = ds ++ (x :: (g1 ++ (c :: (g2 ++ (es ++ r))))) → iInt s j = some ((m : Int), j + ds.length) ∧
  (∀ a', iReadA s a' (j + ds.length) = some (a', b, j + ds.length + 1 + g1.length + 1 + g2.length + es.length)) ∧ j < s.length ∧ digB (bat s j) = true := by
  intro j ej
  have q := iInt_at h1 ej xd
  obtain ⟨x1, x2, x3, x4⟩ := d1 (dA ej)
  refine ⟨q, fun a' => ?_, lhd ej (by simp [h1.1]), by rw [bhd ej, hd_app h1.1]; exact hdn⟩
  unfold iReadA
  rw [if_pos x1, if_pos (by rw [x2]; exact hx), readN_at h2 hc w1 w2 x4 hrd]
 cases neg with
 | false =>
  have e1 : s.drop i = ds ++ (x :: (g1 ++ (c :: (g2 ++ (es ++ r))))) := by rw [e]; simp
  obtain ⟨q1, q2, q3, q4⟩ := common i e1
  have hb := bhd e1
  rw [hd_app h1.1] at hb
  unfold iNth
  rw [if_pos q3, if_neg (by rw [hb]; exact hf.2.2.1), if_neg (by rw [hb]; exact hf.2.2.2.1), if_pos q4]
  unfold iPosA
  rw [if_pos q3, if_pos q4, q1]
  simp only [Option.bind_some]
  rw [q2, ha]
  simp; omega
 | true =>
  have e1 : s.drop i = 45 :: (ds ++ (x :: (g1 ++ (c :: (g2 ++ (es ++ r)))))) := by rw [e]; simp
  obtain ⟨c1, c2, c3, c4⟩ := d1 e1
  obtain ⟨q1, q2, q3, q4⟩ := common (i + 1) c4
  unfold iNth
  rw [if_pos c1, if_pos (show bat s i = 45 from c2)]
  unfold iNegA
  rw [if_pos q3, if_pos q4, q1]
  simp only [Option.bind_some]
  rw [q2, ha]
  simp; omega
theorem counted_w {a b : Int} (ha : -9999 ≤ a ∧ a ≤ 9999) (hb : -9999 ≤ b ∧ b ≤ 9999) : NthW a b (countedS a b) := by
 have key : ∀ (neg : Bool) (m : Nat), m ≤ 9999 → a = (if neg = true then 0 - (m : Int) else m) → NthW a b ((if neg = true then [45] else []) ++ (decS m ++ (110 :: signedS b))) := by
  intro neg m hm e
  unfold signedS
  by_cases h : b < 0
  · rw [if_pos h]
    exact nth_w neg (dec_dig (n := m) (by omega)) e (dec_dig (n := (-b).toNat) (by omega)) (x := 110) (c := 45) (by decide) (.inr ⟨rfl, by omega⟩) (g1 := []) (g2 := []) .nil .nil
  rw [if_neg h]
  exact nth_w neg (dec_dig (n := m) (by omega)) e (dec_dig (n := b.toNat) (by omega)) (x := 110) (c := 43) (by decide) (.inl ⟨rfl, by omega⟩) (g1 := []) (g2 := []) .nil .nil
 unfold countedS
 by_cases h : a < 0
 · rw [if_pos h]
   exact key true (-a).toNat (by omega) (by simp; omega)
 rw [if_neg h]
 exact key false a.toNat (by omega) (by simp; omega)
end Way
end
section
namespace Way
set_option maxRecDepth 20000
theorem point_lo {s : Bs} {j : Nat} (h : bat s j < 128) : point s j = (bat s j, 1) := by unfold point; rw [if_pos h]
theorem pointGo_nz {s : Bs} : ∀ {k i c d : Nat}, pointGo s k i c = some d → ∀ m, i ≤ m → m < i + k → bat s m ≠ 0
 | 0, i, c, d, h, m, h1, h2 => by omega
 | k + 1, i, c, d, h, m, h1, h2 => by
  rw [pointGo] at h
  split at h
  · cases h
  rename_i h0
  by_cases e : m = i
  · subst e; omega
  exact pointGo_nz h m (by omega) (by omega)
theorem point_nz {s : Bs} {j : Nat} (h : (point s j).2 ≠ 0) (h1 : (point s j).1 ≠ 0) : 1 ≤ (point s j).2 ∧ ∀ m, j ≤ m → m < j + (point s j).2 → bat s m ≠ 0 := by
 by_cases hb : bat s j < 128
 · rw [point_lo hb] at h h1 ⊢
   exact ⟨Nat.le_refl _, fun m h2 h3 => by rw [show m = j by simp only at h3; omega]; exact h1⟩
 unfold point at h h1 ⊢
 rw [if_neg hb] at h h1 ⊢
 split
 · rename_i h2; rw [if_pos h2] at h; exact absurd rfl h
 rename_i h2
 rw [if_neg h2] at h h1
 split
 · rename_i h3; rw [h3] at h; exact absurd rfl h
 rename_i d h3
 rw [h3] at h h1
 simp only at h h1
 split
 · rename_i h4; rw [if_pos h4] at h; exact absurd rfl h
 refine ⟨by simp only; omega, fun m k1 k2 => ?_⟩
 simp only at k2
 by_cases e : m = j
 · subst e; omega
 exact pointGo_nz h3 m (by omega) (by omega)
theorem readGo_nz (s : Bs) : ∀ (n j : Nat), s.length - j ≤ n → readGo s j = true → ∀ m, j ≤ m → m < s.length → bat s m ≠ 0
 | 0, j, hn, h, m, h1, h2 => by omega
 | n + 1, j, hn, h, m, h1, h2 => by
  rw [readGo, if_pos (by omega)] at h
  split at h
  · cases h
  rename_i h3
  simp only [not_or] at h3
  obtain ⟨q1, q2⟩ := point_nz h3.1 h3.2.1
  by_cases e : m < j + (point s j).2
  · exact q2 m h1 e
  exact readGo_nz s n _ (by omega) h m (by omega) h2
theorem read_nz {s : Bs} (h : readGo s 0 = true) : ∀ c ∈ s, c.toNat ≠ 0 := by
 intro c hc
 obtain ⟨i, hi, rfl⟩ := List.getElem_of_mem hc
 have := readGo_nz s _ 0 (Nat.le_refl _) h i (Nat.zero_le _) hi
 simpa [bat, List.getD_eq_getElem?_getD, List.getElem?_eq_getElem hi] using this
structure Fld (x : SelD) : Prop where
 kz : ∀ c ∈ x.key, c.toNat ≠ 0
 vz : ∀ c ∈ x.val, c.toNat ≠ 0
 low : low x.key = x.key
 key : (x.kind = 2 ∨ x.kind = 5) → x.key ≠ []
 nokey : ¬ (x.kind = 2 ∨ x.kind = 5) → x.key = []
 name : (x.kind = 3 ∨ x.kind = 4 ∨ x.kind = 15) → x.val ≠ []
 val : ¬ (x.kind = 3 ∨ x.kind = 4 ∨ x.kind = 15 ∨ (x.kind = 5 ∧ x.op ≠ 1) ∨ x.kind = 16 ∨ x.kind = 17) → x.val = [] ∨ (x.kind = 21 ∧ isElB x.val = true)
 num : x.kind ≠ 6 → x.a = 0 ∧ x.b = 0
 rng : -9999 ≤ x.a ∧ x.a ≤ 9999 ∧ -9999 ≤ x.b ∧ x.b ≤ 9999
 attr : x.kind = 5 → 1 ≤ x.op ∧ x.op ≤ 8 ∧ (x.flag = 0 ∨ x.flag = 1) ∧ (x.op = 1 → x.flag = 0)
 comb : x.kind = 22 → 1 ≤ x.op ∧ x.op ≤ 4 ∧ x.flag = 0
 nth : x.kind = 6 → x.op = 0 ∧ 0 ≤ x.flag ∧ x.flag ≤ 3
 only : x.kind = 7 → x.op = 0 ∧ (x.flag = 0 ∨ x.flag = 2)
 other : x.kind ≠ 5 → x.kind ≠ 22 → x.kind ≠ 6 → x.kind ≠ 7 → x.op = 0 ∧ x.flag = 0
theorem fld {x : SelD} (h : fldB x = true) : Fld x := by
 unfold fldB at h
 simp only [Bool.and_eq_true, decide_eq_true_eq] at h
 obtain ⟨⟨⟨⟨⟨⟨⟨⟨⟨⟨⟨h1, h2⟩, h3⟩, h4⟩, h5⟩, h6⟩, h7⟩, h8⟩, h9⟩, h10⟩, h11⟩, h12⟩ := h
 have k4 : (x.kind = 2 ∨ x.kind = 5) ↔ x.key ≠ [] := by
  by_cases e : x.key = [] <;> by_cases e2 : x.kind = 2 <;> by_cases e5 : x.kind = 5 <;> simp_all
 refine { kz := read_nz h1, vz := read_nz h2, low := h3, key := k4.1, nokey := fun q => ?_, name := ?_, val := ?_, num := ?_, rng := ⟨h9, h8, h11, h10⟩, attr := ?_, comb := ?_, nth := ?_, only := ?_, other := ?_ }
 · by_cases e : x.key = []
   · exact e
   exact absurd (k4.2 e) q
 · intro q e
   simp only [e, decide_true, Bool.and_true, Bool.not_eq_true', Bool.or_eq_false_iff, decide_eq_false_iff_not] at h5
   omega
 · intro q
   by_cases e : x.val = []
   · exact .inl e
   right
   have hn : (decide (x.kind = 3) || decide (x.kind = 4) || decide (x.kind = 15) || (decide (x.kind = 5) && !decide (x.op = 1)) || decide (x.kind = 16) || decide (x.kind = 17)) = false := by
    simp only [Bool.or_eq_false_iff, decide_eq_false_iff_not, Bool.and_eq_false_imp, decide_eq_true_eq, Bool.not_eq_false']
    simp only [not_or, not_and, Decidable.not_not] at q
    exact ⟨⟨⟨⟨⟨q.1, q.2.1⟩, q.2.2.1⟩, q.2.2.2.1⟩, q.2.2.2.2.1⟩, q.2.2.2.2.2⟩
   rw [hn] at h6
   simpa [e] using h6
 · intro q
   simpa [q] using h7
 · intro q; rw [if_pos q] at h12; simp at h12; omega
 · intro q; rw [if_neg (by omega), if_pos q] at h12; simp at h12; omega
 · intro q; rw [if_neg (by omega), if_neg (by omega), if_pos q] at h12; simp at h12; omega
 · intro q; rw [if_neg (by omega), if_neg (by omega), if_neg (by omega), if_pos q] at h12; simp at h12; omega
 intro q1 q2 q3 q4; rw [if_neg q1, if_neg q2, if_neg q3, if_neg q4] at h12; simpa using h12
def smallT (x : SelD) : Prop := (x.kind = 15 ∨ x.kind = 16 ∨ x.kind = 17) → low x.val = x.val
theorem raw_id {t : Bs} (h : ∀ c ∈ t, nmChar c.toNat = true) (h0 : nmStart (hd t) = true) : IdW t t := by
 refine ⟨0, t, t, rfl, rfl, ?_, .inl h0⟩
 clear h0
 induction t with
 | nil => exact .nil
 | cons c t ih => exact .raw (h c (by simp)) (ih fun c hc => h c (by simp [hc]))
theorem raw_id' {t : Bs} (h : ((t.all fun c => nmChar c.toNat) && nmStart (hd t)) = true) : IdW t t := by
 simp only [Bool.and_eq_true, List.all_eq_true] at h
 exact raw_id h.1 h.2
theorem plain_w : ∀ m : Fin 7, IdW (plainTxt.getD m.val []) (plainTxt.getD m.val []) ∧ low (plainTxt.getD m.val []) = plainTxt.getD m.val [] := by
 intro m
 have h : ∀ m : Fin 7, (((plainTxt.getD m.val []).all fun c => nmChar c.toNat) && nmStart (hd (plainTxt.getD m.val []))) = true ∧ low (plainTxt.getD m.val []) = plainTxt.getD m.val [] := by decide
 exact ⟨raw_id' (h m).1, (h m).2⟩
theorem leaf_w {x : SelD} (hf : Fld x) (hs : smallT x) (hk : isSimB x.kind = true) (h1 : x.kind ≠ 1) (h2 : x.kind ≠ 2) (hr : ¬ (x.kind = 18 ∨ x.kind = 19 ∨ x.kind = 20)) : SimS 0 (leafC x) (wrSimple x) := by
 simp only [isSimB, Bool.and_eq_true, decide_eq_true_eq] at hk
 have hcases : x.kind = 3 ∨ x.kind = 4 ∨ x.kind = 5 ∨ x.kind = 6 ∨ x.kind = 7 ∨ x.kind = 8 ∨ x.kind = 9 ∨ x.kind = 10 ∨ x.kind = 11 ∨ x.kind = 12 ∨ x.kind = 13 ∨ x.kind = 14 ∨ x.kind = 15 ∨ x.kind = 16 ∨ x.kind = 17 := by omega
 rcases hcases with e | e | e | e | e | e | e | e | e | e | e | e | e | e | e
 · have q := SimS.cls (named_id hf.vz (hf.name (by omega)))
   simpa [leafC, wrSimple, e] using q
 · have hid := named_id hf.vz (hf.name (by omega))
   have q := SimS.idn (named_nm hf.vz) hid.head.1
   simpa [leafC, wrSimple, e] using q
 · have hkid := named_id hf.kz (hf.key (by omega))
   obtain ⟨o1, o2, o3, o4⟩ := hf.attr e
   by_cases ho : x.op = 1
   · have q := SimS.attr0 (g1 := []) (g2 := []) hkid .nil .nil
     have hv : x.val = [] := by
      rcases hf.val (by omega) with h | h
      · exact h
      omega
     rw [hf.low] at q
     simpa [leafC, wrSimple, e, ho, hv, o4 ho, signTxt] using q
   have hop : signTxt.getD x.op.toNat [] ∈ attrSigns := by
    obtain ⟨m, hm⟩ : ∃ m : Fin 9, x.op.toNat = m.val := ⟨⟨x.op.toNat, by omega⟩, rfl⟩
    have : ∀ m : Fin 9, 2 ≤ m.val → signTxt.getD m.val [] ∈ attrSigns := by decide
    rw [hm]; exact this m (by omega)
   have hfl : ∃ g4 f, ([[], [32, 105]] : List Bs).getD x.flag.toNat [] = g4 ++ f ∧ WsL g4 ∧ FlagW (decide (x.flag = 1)) f ∧ (f = [] ∨ g4 ≠ []) := by
    rcases o3 with h | h
    · exact ⟨[], [], by rw [h]; rfl, .nil, .inl ⟨by rw [h]; rfl, rfl⟩, .inl rfl⟩
    exact ⟨[32], [105], by rw [h]; rfl, fun c hc => by rw [List.mem_singleton.1 hc]; decide, .inr ⟨by rw [h]; rfl, .inl rfl⟩, .inr (by simp)⟩
   obtain ⟨g4, f, e1, w4, hfw, hz⟩ := hfl
   have q := SimS.attr1 (g1 := []) (g2 := []) (g3 := []) (g5 := []) hkid .nil .nil hop .nil (quoted_val hf.vz) w4 hfw hz .nil
   rw [hf.low] at q
   have hw : wrSimple x = 91 :: ([] ++ (named x.key ++ ([] ++ (signTxt.getD x.op.toNat [] ++ ([] ++ (quotedS x.val ++ (g4 ++ (f ++ ([] ++ [93]))))))))) := by
    unfold wrSimple
    rw [if_neg (by omega), if_neg (by omega), if_neg (by omega), if_neg (by omega), if_pos e, if_neg ho, e1]
    simp
   have hl : leafC x = .attr x.key x.val (signTxt.getD x.op.toNat []) (decide (x.flag = 1)) := by
    unfold leafC
    rw [if_neg (by omega), if_neg (by omega), if_neg (by omega), if_neg (by omega), if_pos e]
   rw [hw, hl]
   exact q
 · obtain ⟨_, n1, n2⟩ := hf.nth e
   have hc := counted_w (a := x.a) (b := x.b) ⟨hf.rng.1, hf.rng.2.1⟩ ⟨hf.rng.2.2.1, hf.rng.2.2.2⟩
   have key : ∀ (nm : Bs) (l t : Bool), IdW nm nm → low nm = nthName l t → SimS 0 (.nth x.a x.b l t) (58 :: (nm ++ (40 :: (countedS x.a x.b ++ [41])))) := by
    intro nm l t h1 h2
    have q := SimS.nth (g1 := []) (g2 := []) l t h1 h2 hc .nil .nil
    simpa using q
   have h4 : x.flag = 0 ∨ x.flag = 1 ∨ x.flag = 2 ∨ x.flag = 3 := by omega
   rcases h4 with h | h | h | h
   · have q := key nNthChild false false (raw_id' (by decide)) (by decide)
     simpa [leafC, wrSimple, e, h, nthTxt, nNthChild] using q
   · have q := key nNthLastChild true false (raw_id' (by decide)) (by decide)
     simpa [leafC, wrSimple, e, h, nthTxt, nNthLastChild] using q
   · have q := key nNthType false true (raw_id' (by decide)) (by decide)
     simpa [leafC, wrSimple, e, h, nthTxt, nNthType] using q
   have q := key nNthLastType true true (raw_id' (by decide)) (by decide)
   simpa [leafC, wrSimple, e, h, nthTxt, nNthLastType] using q
 · obtain ⟨_, n1 | n1⟩ := hf.only e
   · have q := SimS.plain (x := .only false) (raw_id' (t := [111, 110, 108, 121, 45, 99, 104, 105, 108, 100]) (by decide)) (fun G s j => rfl)
     simpa [leafC, wrSimple, e, n1, onlyTxt] using q
   have q := SimS.plain (x := .only true) (raw_id' (t := [111, 110, 108, 121, 45, 111, 102, 45, 116, 121, 112, 101]) (by decide)) (fun G s j => rfl)
   simpa [leafC, wrSimple, e, n1, onlyTxt] using q
 · have q := SimS.plain (x := .empty) (show IdW (plainTxt.getD 0 []) (plainTxt.getD 0 []) from (plain_w 0).1) (fun G s j => rfl)
   simpa [leafC, wrSimple, e] using q
 · have q := SimS.plain (x := .root) (show IdW (plainTxt.getD 1 []) (plainTxt.getD 1 []) from (plain_w 1).1) (fun G s j => rfl)
   simpa [leafC, wrSimple, e] using q
 · have q := SimS.plain (x := .input) (show IdW (plainTxt.getD 2 []) (plainTxt.getD 2 []) from (plain_w 2).1) (fun G s j => rfl)
   simpa [leafC, wrSimple, e] using q
 · have q := SimS.plain (x := .link) (show IdW (plainTxt.getD 3 []) (plainTxt.getD 3 []) from (plain_w 3).1) (fun G s j => rfl)
   simpa [leafC, wrSimple, e] using q
 · have q := SimS.plain (x := .enabled) (show IdW (plainTxt.getD 4 []) (plainTxt.getD 4 []) from (plain_w 4).1) (fun G s j => rfl)
   simpa [leafC, wrSimple, e] using q
 · have q := SimS.plain (x := .disabled) (show IdW (plainTxt.getD 5 []) (plainTxt.getD 5 []) from (plain_w 5).1) (fun G s j => rfl)
   simpa [leafC, wrSimple, e] using q
 · have q := SimS.plain (x := .checked) (show IdW (plainTxt.getD 6 []) (plainTxt.getD 6 []) from (plain_w 6).1) (fun G s j => rfl)
   simpa [leafC, wrSimple, e] using q
 · have q := SimS.lang (g1 := []) (g2 := []) (raw_id' (t := nLang) (by decide)) (by decide) (named_id hf.vz (hf.name (by omega))) .nil .nil
   rw [hs (by omega)] at q
   simpa [leafC, wrSimple, e, nLang] using q
 · have q := SimS.contains (g1 := []) (g2 := []) false (raw_id' (t := nContains) (by decide)) (by decide) (quoted_val hf.vz) .nil .nil
   rw [hs (by omega)] at q
   simpa [leafC, wrSimple, e, nContains] using q
 have q := SimS.contains (g1 := []) (g2 := []) true (raw_id' (t := [99, 111, 110, 116, 97, 105, 110, 115, 79, 119, 110]) (by decide)) (by decide) (quoted_val hf.vz) .nil .nil
 rw [hs (by omega)] at q
 simpa [leafC, wrSimple, e] using q
end Way
end
end Go.Proofs.YtengepcafdnalaaGreatDoor
