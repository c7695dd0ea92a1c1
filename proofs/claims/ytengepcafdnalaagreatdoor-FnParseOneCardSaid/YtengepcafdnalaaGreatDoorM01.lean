/-
  Parts of the proof that the law FnParseOne holds for every input (texts Pa, Pb, Pd). Conditions: none.
-/
import GoSem.Core.Utf8
namespace Go.Proofs.YtengepcafdnalaaGreatDoor
section
abbrev Bs := List UInt8
structure SelD where
 kind : Int
 op : Int
 key : List UInt8
 val : List UInt8
 a : Int
 b : Int
 flag : Int
 size : Int
instance : Inhabited SelD := ⟨⟨0, 0, [], [], 0, 0, 0, 0⟩⟩
inductive CSel where
 | tag (k : List UInt8)
 | cls (v : List UInt8)
 | idn (v : List UInt8)
 | attr (key val op : List UInt8) (ins : Bool)
 | nth (a b : Int) (last ofType : Bool)
 | only (ofType : Bool)
 | empty | root | input | link | enabled | disabled | checked
 | lang (v : List UInt8)
 | contains (v : List UInt8) (own : Bool)
 | never (v : List UInt8)
 | rel (name : List UInt8) (kids : List CSel)
 | compound (kids : List CSel) (pe : List UInt8)
 | combined (f : CSel) (c : UInt8) (s : CSel)
instance : Inhabited CSel := ⟨.empty⟩
def bat (s : Bs) (i : Nat) : Nat := (s.getD i 0).toNat
def hexDig (c : Nat) : Bool := (decide (48 ≤ c) && decide (c ≤ 57)) || (decide (97 ≤ c) && decide (c ≤ 102)) || (decide (65 ≤ c) && decide (c ≤ 70))
def nmStart (c : Nat) : Bool := (decide (97 ≤ c) && decide (c ≤ 122)) || (decide (65 ≤ c) && decide (c ≤ 90)) || decide (c = 95) || decide (127 < c)
def nmChar (c : Nat) : Bool := nmStart c || decide (c = 45) || (decide (48 ≤ c) && decide (c ≤ 57))
def isWs (c : Nat) : Bool := decide (c = 32) || decide (c = 9) || decide (c = 13) || decide (c = 10) || decide (c = 12)
def isNl (c : Nat) : Bool := decide (c = 13) || decide (c = 10) || decide (c = 12)
def digB (c : Nat) : Bool := decide (48 ≤ c) && decide (c ≤ 57)
def hexOf (c : Nat) : Nat := if c ≤ 57 then c - 48 else if c ≤ 70 then c - 55 else c - 87
def hexVal (l : Bs) : Nat := l.foldl (fun n c => 16 * n + hexOf c.toNat) 0
def hexEnd (s : Bs) : Nat → Nat → Nat
 | 0, i => i
 | k + 1, i => if i < s.length ∧ hexDig (bat s i) = true then hexEnd s k (i + 1) else i
def skipOne (s : Bs) (i : Nat) : Nat :=
 if i < s.length then
  if bat s i = 13 then (if i + 1 < s.length ∧ bat s (i + 1) = 10 then i + 2 else i + 1)
  else if isWs (bat s i) = true then i + 1 else i
 else i
def utf8 (n : Int) : List UInt8 := (Utf8.encode n).data.toList
def iEsc (s : Bs) (i : Nat) : Option (Bs × Nat) :=
 if s.length < i + 2 ∨ bat s i ≠ 92 then none
 else if isNl (bat s (i + 1)) = true then none
 else if hexDig (bat s (i + 1)) = true then
  some (utf8 (hexVal ((s.take (hexEnd s 6 (i + 1))).drop (i + 1))), skipOne s (hexEnd s 6 (i + 1)))
 else some ([s.getD (i + 1) 0], i + 2)
theorem hexEnd_ge (s : Bs) : ∀ k i, i ≤ hexEnd s k i
 | 0, i => Nat.le_refl _
 | k + 1, i => by
  unfold hexEnd
  split
  · exact Nat.le_trans (Nat.le_succ i) (hexEnd_ge s k (i + 1))
  exact Nat.le_refl _
theorem hexEnd_le (s : Bs) : ∀ k i, i ≤ s.length → hexEnd s k i ≤ s.length
 | 0, i, h => h
 | k + 1, i, h => by
  unfold hexEnd
  split
  · rename_i h1; exact hexEnd_le s k (i + 1) h1.1
  exact h
theorem hexEnd_lt (s : Bs) (k i : Nat) (h : i < s.length) (hd : hexDig (bat s i) = true) : i + 1 ≤ hexEnd s (k + 1) i := by
 unfold hexEnd; rw [if_pos ⟨h, hd⟩]; exact hexEnd_ge s k (i + 1)
theorem skipOne_ge (s : Bs) (i : Nat) : i ≤ skipOne s i := by unfold skipOne; repeat' split
                                                              all_goals omega
theorem skipOne_le (s : Bs) (i : Nat) (h : i ≤ s.length) : skipOne s i ≤ s.length := by
 unfold skipOne
 repeat' split
 all_goals (first | omega | (rename_i h1 h2; have := h2.1; omega) | skip)
theorem iEsc_some {s : Bs} {i : Nat} {r : Bs} {j : Nat} (h : iEsc s i = some (r, j)) : i + 2 ≤ j ∧ j ≤ s.length ∧ i + 1 < s.length ∧ bat s i = 92 := by
 unfold iEsc at h
 split at h
 · cases h
 rename_i h0
 simp only [not_or, Decidable.not_not] at h0
 split at h
 · cases h
 split at h
 · rename_i hd
   simp only [Option.some.injEq, Prod.mk.injEq] at h
   obtain ⟨_, rfl⟩ := h
   have h1 : i + 1 + 1 ≤ hexEnd s 6 (i + 1) := hexEnd_lt s 5 (i + 1) (by omega) hd
   have h2 := hexEnd_le s 6 (i + 1) (by omega)
   have h3 := skipOne_ge s (hexEnd s 6 (i + 1))
   have h4 := skipOne_le s (hexEnd s 6 (i + 1)) h2
   exact ⟨by omega, h4, by omega, h0.2⟩
 simp only [Option.some.injEq, Prod.mk.injEq] at h
 obtain ⟨_, rfl⟩ := h
 exact ⟨by omega, by omega, by omega, h0.2⟩
def nameGo (s : Bs) (i : Nat) (acc : Bs) : Option (Bs × Nat) :=
 if i < s.length then
  if nmChar (bat s i) = true then nameGo s (i + 1) (acc ++ [s.getD i 0])
  else if bat s i = 92 then
   match h : iEsc s i with
   | none => none
   | some (v, j) => nameGo s j (acc ++ v)
  else some (acc, i)
 else some (acc, i)
 termination_by s.length - i
 decreasing_by
  · omega
  have := iEsc_some h; omega
def iName (s : Bs) (i : Nat) : Option (Bs × Nat) :=
 match nameGo s i [] with
 | some ([], _) => none
 | r => r
def hyEnd (s : Bs) (i : Nat) : Nat :=
 if i < s.length ∧ bat s i = 45 then hyEnd s (i + 1) else i
 termination_by s.length - i
def iIdent (s : Bs) (i : Nat) : Option (Bs × Nat) :=
 if hyEnd s i < s.length ∧ (nmStart (bat s (hyEnd s i)) = true ∨ bat s (hyEnd s i) = 92) then
  match iName s (hyEnd s i) with
  | none => none
  | some (r, j) => some (List.replicate (hyEnd s i - i) 45 ++ r, j)
 else none
def strGo (s : Bs) (q i : Nat) (acc : Bs) : Option (Bs × Nat) :=
 if i < s.length then
  if bat s i = 92 then
   if i + 1 < s.length ∧ bat s (i + 1) = 13 then
    (if i + 2 < s.length ∧ bat s (i + 2) = 10 then strGo s q (i + 3) acc else strGo s q (i + 2) acc)
   else if i + 1 < s.length ∧ (bat s (i + 1) = 10 ∨ bat s (i + 1) = 12) then strGo s q (i + 2) acc
   else match h : iEsc s i with
    | none => none
    | some (v, j) => strGo s q j (acc ++ v)
  else if bat s i = q then some (acc, i + 1)
  else if isNl (bat s i) = true then none
  else strGo s q (i + 1) (acc ++ [s.getD i 0])
 else none
 termination_by s.length - i
 decreasing_by
  all_goals (first | omega | (have := iEsc_some h; omega))
def iStr (s : Bs) (i : Nat) : Option (Bs × Nat) :=
 if s.length < i + 2 then none else strGo s (bat s i) (i + 1) []
def cmtEnd (s : Bs) (i : Nat) : Option Nat :=
 if i + 2 ≤ s.length then
  if bat s i = 42 ∧ bat s (i + 1) = 47 then some (i + 2) else cmtEnd s (i + 1)
 else none
 termination_by s.length - i
theorem cmtEnd_some (s : Bs) (i : Nat) {j : Nat} (h : cmtEnd s i = some j) : i + 2 ≤ j ∧ j ≤ s.length := by
 fun_induction cmtEnd s i with
 | case1 i h1 h2 => simp at h; omega
 | case2 i h1 h2 ih => have := ih h; omega
 | case3 i h1 => cases h
def iWs (s : Bs) (i : Nat) : Nat :=
 if i < s.length then
  if isWs (bat s i) = true then iWs s (i + 1)
  else if i + 2 ≤ s.length ∧ bat s i = 47 ∧ bat s (i + 1) = 42 then
   match h : cmtEnd s (i + 2) with
   | some j => iWs s j
   | none => i
  else i
 else i
 termination_by s.length - i
 decreasing_by
  · omega
  have := cmtEnd_some _ _ h; omega
theorem iWs_ge (s : Bs) (i : Nat) : i ≤ iWs s i := by
 fun_induction iWs s i with
 | case1 i h1 h2 ih => omega
 | case2 i h1 h2 h3 j hj ih => have := cmtEnd_some _ _ hj; omega
 | case3 => omega
 | case4 => omega
 | case5 => omega
theorem iWs_le (s : Bs) (i : Nat) (h : i ≤ s.length) : iWs s i ≤ s.length := by
 fun_induction iWs s i with
 | case1 i h1 h2 ih => exact ih (by omega)
 | case2 i h1 h2 h3 j hj ih => exact ih (cmtEnd_some _ _ hj).2
 | case3 => omega
 | case4 => omega
 | case5 => omega
def lowB (c : UInt8) : UInt8 := if 65 ≤ c.toNat ∧ c.toNat ≤ 90 then c + 32 else c
def low (l : Bs) : Bs := l.map lowB
def iOpen (s : Bs) (i : Nat) : Option Nat := if i < s.length ∧ bat s i = 40 then some (iWs s (i + 1)) else none
def iClose (s : Bs) (i : Nat) : Option Nat := if iWs s i < s.length ∧ bat s (iWs s i) = 41 then some (iWs s i + 1) else none
def elNames : List Bs := [[97, 102, 116, 101, 114], [98, 97, 99, 107, 100, 114, 111, 112], [98, 101, 102, 111, 114, 101], [99, 117, 101], [102, 105, 114, 115, 116, 45, 108, 101, 116, 116, 101, 114], [102, 105, 114, 115, 116, 45, 108, 105, 110, 101], [103, 114, 97, 109, 109, 97, 114, 45, 101, 114, 114, 111, 114], [109, 97, 114, 107, 101, 114], [112, 108, 97, 99, 101, 104, 111, 108, 100, 101, 114], [115, 101, 108, 101, 99, 116, 105, 111, 110], [115, 112, 101, 108, 108, 105, 110, 103, 45, 101, 114, 114, 111, 114]]
def attrSigns : List Bs := [[61], [33, 61], [126, 61], [124, 61], [94, 61], [36, 61], [42, 61]]
def iAttr (s : Bs) (i : Nat) : Option (CSel × Nat) :=
 match iIdent s (iWs s (i + 1)) with
 | none => none
 | some (key, j) =>
  if iWs s j < s.length then
   if bat s (iWs s j) = 93 then some (.attr (low key) [] [] false, iWs s j + 1)
   else if iWs s j + 2 < s.length ∧ (bat s (iWs s j) = 61 ∨ bat s (iWs s j + 1) = 61) then
    iAttrV s (low key) (if bat s (iWs s j) = 61 then [61] else [s.getD (iWs s j) 0, s.getD (iWs s j + 1) 0])
     (iWs s (iWs s j + (if bat s (iWs s j) = 61 then 1 else 2)))
   else none
  else none
where
 iAttrV (s key op : Bs) (k : Nat) : Option (CSel × Nat) :=
  if k < s.length then
   match (if bat s k = 39 ∨ bat s k = 34 then iStr s k else iIdent s k) with
   | none => none
   | some (val, m) =>
    if iWs s m < s.length then
     iAttrE s key op val (decide (bat s (iWs s m) = 105 ∨ bat s (iWs s m) = 73))
      (iWs s (if bat s (iWs s m) = 105 ∨ bat s (iWs s m) = 73 then iWs s m + 1 else iWs s m))
    else none
  else none
 iAttrE (s key op val : Bs) (ign : Bool) (m : Nat) : Option (CSel × Nat) :=
  if m < s.length ∧ bat s m = 93 ∧ op ∈ attrSigns then some (.attr key val op ign, m + 1) else none
def decVal (l : Bs) : Nat := l.foldl (fun n c => 10 * n + (c.toNat - 48)) 0
def digEnd (s : Bs) (i : Nat) : Nat :=
 if i < s.length ∧ digB (bat s i) = true then digEnd s (i + 1) else i
 termination_by s.length - i
def iInt (s : Bs) (i : Nat) : Option (Int × Nat) :=
 if digEnd s i = i then none
 else if decVal ((s.take (digEnd s i)).drop i) ≤ 9223372036854775807 then some ((decVal ((s.take (digEnd s i)).drop i) : Nat), digEnd s i) else none
def isN (c : Nat) : Bool := decide (c = 110) || decide (c = 78)
def iReadN (s : Bs) (a : Int) (i : Nat) : Option (Int × Int × Nat) :=
 if iWs s i < s.length then
  if bat s (iWs s i) = 43 then (iInt s (iWs s (iWs s i + 1))).map fun p => (a, p.1, p.2)
  else if bat s (iWs s i) = 45 then (iInt s (iWs s (iWs s i + 1))).map fun p => (a, 0 - p.1, p.2)
  else some (a, 0, iWs s i)
 else none
def iReadA (s : Bs) (a : Int) (i : Nat) : Option (Int × Int × Nat) :=
 if i < s.length then
  if isN (bat s i) = true then iReadN s a (i + 1) else some (0, a, i)
 else none
def iPosA (s : Bs) (i : Nat) : Option (Int × Int × Nat) :=
 if i < s.length then
  if digB (bat s i) = true then (iInt s i).bind fun p => iReadA s p.1 p.2
  else if isN (bat s i) = true then iReadN s 1 (i + 1)
  else none
 else none
def iNegA (s : Bs) (i : Nat) : Option (Int × Int × Nat) :=
 if i < s.length then
  if digB (bat s i) = true then (iInt s i).bind fun p => iReadA s (0 - p.1) p.2
  else if isN (bat s i) = true then iReadN s (-1) (i + 1)
  else none
 else none
def isOE (c : Nat) : Bool := decide (c = 111) || decide (c = 79) || decide (c = 101) || decide (c = 69)
def iNth (s : Bs) (i : Nat) : Option (Int × Int × Nat) :=
 if i < s.length then
  if bat s i = 45 then iNegA s (i + 1)
  else if bat s i = 43 then iPosA s (i + 1)
  else if digB (bat s i) = true then iPosA s i
  else if isN (bat s i) = true then iReadN s 1 (i + 1)
  else if isOE (bat s i) = true then
   match iName s i with
   | none => none
   | some (w, j) => if low w = [111, 100, 100] then some (2, 1, j) else if low w = [101, 118, 101, 110] then some (2, 0, j) else none
  else none
 else none
def iArgG (G : Nat → Option (List CSel × Nat)) (s : Bs) (name : Bs) (i : Nat) : Option (CSel × Nat) :=
 match iOpen s i with
 | none => none
 | some k => match G k with
  | none => none
  | some (l, m) => (iClose s m).map fun e => (.rel name l, e)
def iArgV (s : Bs) (own : Bool) (i : Nat) : Option (CSel × Nat) :=
 match iOpen s i with
 | none => none
 | some k => if k < s.length then
  match (if bat s k = 39 ∨ bat s k = 34 then iStr s k else iIdent s k) with
  | none => none
  | some (v, m) => (iClose s m).map fun e => (.contains (low v) own, e)
  else none
def iArgN (s : Bs) (last ofType : Bool) (i : Nat) : Option (CSel × Nat) :=
 match iOpen s i with
 | none => none
 | some k => match iNth s k with
  | none => none
  | some (a, b, m) => (iClose s m).map fun e => (.nth a b last ofType, e)
def iArgL (s : Bs) (i : Nat) : Option (CSel × Nat) :=
 match iOpen s i with
 | none => none
 | some k => if k < s.length then
  match iIdent s k with
  | none => none
  | some (v, m) => (iClose s m).map fun e => (.lang (low v), e)
  else none
def nNot : Bs := [110, 111, 116]
def nHas : Bs := [104, 97, 115]
def nHasChild : Bs := [104, 97, 115, 99, 104, 105, 108, 100]
def nContains : Bs := [99, 111, 110, 116, 97, 105, 110, 115]
def nContainsOwn : Bs := [99, 111, 110, 116, 97, 105, 110, 115, 111, 119, 110]
def nNthChild : Bs := [110, 116, 104, 45, 99, 104, 105, 108, 100]
def nNthLastChild : Bs := [110, 116, 104, 45, 108, 97, 115, 116, 45, 99, 104, 105, 108, 100]
def nNthType : Bs := [110, 116, 104, 45, 111, 102, 45, 116, 121, 112, 101]
def nNthLastType : Bs := [110, 116, 104, 45, 108, 97, 115, 116, 45, 111, 102, 45, 116, 121, 112, 101]
def nLang : Bs := [108, 97, 110, 103]
def neverNames : List Bs := [[118, 105, 115, 105, 116, 101, 100], [104, 111, 118, 101, 114], [97, 99, 116, 105, 118, 101], [102, 111, 99, 117, 115], [116, 97, 114, 103, 101, 116]]
def plainI (n : Bs) : Option CSel :=
 if n = [102, 105, 114, 115, 116, 45, 99, 104, 105, 108, 100] then some (.nth 0 1 false false)
 else if n = [108, 97, 115, 116, 45, 99, 104, 105, 108, 100] then some (.nth 0 1 true false)
 else if n = [102, 105, 114, 115, 116, 45, 111, 102, 45, 116, 121, 112, 101] then some (.nth 0 1 false true)
 else if n = [108, 97, 115, 116, 45, 111, 102, 45, 116, 121, 112, 101] then some (.nth 0 1 true true)
 else if n = [111, 110, 108, 121, 45, 99, 104, 105, 108, 100] then some (.only false)
 else if n = [111, 110, 108, 121, 45, 111, 102, 45, 116, 121, 112, 101] then some (.only true)
 else if n = [105, 110, 112, 117, 116] then some (.input)
 else if n = [101, 109, 112, 116, 121] then some (.empty)
 else if n = [114, 111, 111, 116] then some (.root)
 else if n = [108, 105, 110, 107] then some (.link)
 else if n = [101, 110, 97, 98, 108, 101, 100] then some (.enabled)
 else if n = [100, 105, 115, 97, 98, 108, 101, 100] then some (.disabled)
 else if n = [99, 104, 101, 99, 107, 101, 100] then some (.checked)
 else if n ∈ neverNames then some (.never (58 :: n))
 else none
def iPsN (G : Nat → Option (List CSel × Nat)) (s : Bs) (n : Bs) (j : Nat) : Option (Option CSel × Bs × Nat) :=
 if n = nNot ∨ n = nHas ∨ n = nHasChild then (iArgG G s n j).map fun p => (some p.1, [], p.2)
 else if n = nContains ∨ n = nContainsOwn then (iArgV s (decide (n = nContainsOwn)) j).map fun p => (some p.1, [], p.2)
 else if n = nNthChild ∨ n = nNthLastChild ∨ n = nNthType ∨ n = nNthLastType then
  (iArgN s (decide (n = nNthLastChild ∨ n = nNthLastType)) (decide (n = nNthType ∨ n = nNthLastType)) j).map fun p => (some p.1, [], p.2)
 else if n = nLang then (iArgL s j).map fun p => (some p.1, [], p.2)
 else match plainI n with
  | some x => some (some x, [], j)
  | none => if n ∈ elNames then some (none, n, j) else none
def iPs (G : Nat → Option (List CSel × Nat)) (s : Bs) (i : Nat) : Option (Option CSel × Bs × Nat) :=
 if i + 1 < s.length then
  match iIdent s (if bat s (i + 1) = 58 then i + 2 else i + 1) with
  | none => none
  | some (n, j) => if bat s (i + 1) = 58 ∧ low n ∉ elNames then none else iPsN G s (low n) j
 else none
def iSimple (G : Nat → Option (List CSel × Nat)) (s : Bs) (i : Nat) : Option (Option CSel × Bs × Nat) :=
 if bat s i = 35 then (iName s (i + 1)).map fun p => (some (.idn p.1), [], p.2)
 else if bat s i = 46 then (iIdent s (i + 1)).map fun p => (some (.cls p.1), [], p.2)
 else if bat s i = 91 then (iAttr s i).map fun p => (some p.1, [], p.2)
 else iPs G s i
def isSim (c : Nat) : Bool := decide (c = 35) || decide (c = 46) || decide (c = 91) || decide (c = 58)
def seqEnd (l : List CSel) (pe : Bs) : CSel :=
 match l, pe with
 | [x], [] => x
 | l, pe => .compound l pe
def iSeqGo (G : Nat → Option (List CSel × Nat)) (s : Bs) (acc : Bool) (i : Nat) (l : List CSel) (pe : Bs) : Option (CSel × Nat) :=
 if i < s.length ∧ isSim (bat s i) = true then
  match iSimple G s i with
  | none => none
  | some (x, n, j) =>
   if i < j then
    match x with
    | none => if pe = [] ∧ acc = true then iSeqGo G s acc j l n else none
    | some x => if pe = [] then iSeqGo G s acc j (l ++ [x]) pe else none
   else none
 else some (seqEnd l pe, i)
 termination_by s.length - i
def iSeq (G : Nat → Option (List CSel × Nat)) (s : Bs) (acc : Bool) (i : Nat) : Option (CSel × Nat) :=
 if i < s.length then
  if bat s i = 42 then iSeqGo G s acc (if i + 3 < s.length ∧ bat s (i + 1) = 124 ∧ bat s (i + 2) = 42 then i + 3 else i + 1) [] []
  else if isSim (bat s i) = true then iSeqGo G s acc i [] []
  else match iIdent s i with
   | none => none
   | some (t, j) => iSeqGo G s acc j [.tag (low t)] []
 else none
def isComb (c : Nat) : Bool := decide (c = 43) || decide (c = 62) || decide (c = 126)
def iSelGo (G : Nat → Option (List CSel × Nat)) (s : Bs) (acc : Bool) (x : CSel) (j : Nat) : Option (CSel × Nat) :=
 if iWs s j < s.length then
  if isComb (bat s (iWs s j)) = true then
   match iSeq G s acc (iWs s (iWs s j + 1)) with
   | none => none
   | some (y, m) => if j < m then iSelGo G s acc (.combined x (s.getD (iWs s j) 0) y) m else none
  else if bat s (iWs s j) = 44 ∨ bat s (iWs s j) = 41 ∨ iWs s j = j then some (x, iWs s j)
  else match iSeq G s acc (iWs s j) with
   | none => none
   | some (y, m) => if j < m then iSelGo G s acc (.combined x 32 y) m else none
 else some (x, iWs s j)
 termination_by s.length - j
 decreasing_by all_goals (have := iWs_ge s j; omega)
def iSel (G : Nat → Option (List CSel × Nat)) (s : Bs) (acc : Bool) (i : Nat) : Option (CSel × Nat) :=
 match iSeq G s acc (iWs s i) with
 | none => none
 | some (x, j) => iSelGo G s acc x j
def iGrpGo (G : Nat → Option (List CSel × Nat)) (s : Bs) (acc : Bool) (l : List CSel) (j : Nat) : Option (List CSel × Nat) :=
 if j < s.length ∧ bat s j = 44 then
  match iSel G s acc (j + 1) with
  | none => none
  | some (y, m) => if j < m then iGrpGo G s acc (l ++ [y]) m else none
 else some (l, j)
 termination_by s.length - j
def iGrp (s : Bs) (acc : Bool) : Nat → Nat → Option (List CSel × Nat)
 | 0, _ => none
 | k + 1, i => match iSel (iGrp s acc k) s acc i with
  | none => none
  | some (x, j) => iGrpGo (iGrp s acc k) s acc [x] j
def iParse (s : Bs) (many pseudo : Bool) : Option (List CSel) :=
 if many = true then
  match iGrp s pseudo 1001 0 with
  | some (l, j) => if j < s.length then none else some l
  | none => none
 else
  match iSel (iGrp s pseudo 1001) s pseudo 0 with
  | some (x, j) => if j < s.length then none else some [x]
  | none => none
def b2i (b : Bool) (n : Int) : Int := if b = true then n else 0
def signAt (l : List Bs) (x : Bs) : Int := if l.idxOf x < l.length then (l.idxOf x : Nat) + 1 else 0
def nodeOf : CSel → SelD
 | .tag k => ⟨2, 0, k, [], 0, 0, 0, 0⟩
 | .cls v => ⟨3, 0, [], v, 0, 0, 0, 0⟩
 | .idn v => ⟨4, 0, [], v, 0, 0, 0, 0⟩
 | .attr k v o i => ⟨5, signAt ([] :: attrSigns) o, k, v, 0, 0, b2i i 1, 0⟩
 | .nth a b l t => ⟨6, 0, [], [], a, b, b2i l 1 + b2i t 2, 0⟩
 | .only t => ⟨7, 0, [], [], 0, 0, b2i t 2, 0⟩
 | .empty => ⟨8, 0, [], [], 0, 0, 0, 0⟩
 | .root => ⟨9, 0, [], [], 0, 0, 0, 0⟩
 | .input => ⟨10, 0, [], [], 0, 0, 0, 0⟩
 | .link => ⟨11, 0, [], [], 0, 0, 0, 0⟩
 | .enabled => ⟨12, 0, [], [], 0, 0, 0, 0⟩
 | .disabled => ⟨13, 0, [], [], 0, 0, 0, 0⟩
 | .checked => ⟨14, 0, [], [], 0, 0, 0, 0⟩
 | .lang v => ⟨15, 0, [], v, 0, 0, 0, 0⟩
 | .contains v o => ⟨16 + b2i o 1, 0, [], v, 0, 0, 0, 0⟩
 | .never v => ⟨24, 0, [], v, 0, 0, 0, 0⟩
 | .rel n _ => ⟨17 + signAt [nNot, nHas, nHasChild] n, 0, [], [], 0, 0, 0, 0⟩
 | .compound _ pe => ⟨21, 0, [], pe, 0, 0, 0, 0⟩
 | .combined _ c _ => ⟨22, signAt [[32], [62], [43], [126]] (utf8 c.toNat), [], [], 0, 0, 0, 0⟩
def sizedD (x : SelD) (l : List SelD) : List SelD := { x with size := (l.length : Nat) + 1 } :: l
def grpNode : SelD := ⟨23, 0, [], [], 0, 0, 0, 0⟩
mutual
def dataOf : CSel → List SelD
 | .rel n ks => sizedD (nodeOf (.rel n ks)) (sizedD grpNode (dataAll ks))
 | .compound ks pe => sizedD (nodeOf (.compound ks pe)) (dataAll ks)
 | .combined f c s => sizedD (nodeOf (.combined f c s)) (dataOf f ++ dataOf s)
 | x => sizedD (nodeOf x) []
def dataAll : List CSel → List SelD
 | [] => []
 | x :: l => dataOf x ++ dataAll l
end
def parseData (many : Bool) (l : List CSel) : List SelD :=
 if many = true then sizedD grpNode (dataAll l) else dataOf (l.headD default)
end
section
structure RS where
 p : Nat
 bad : Bool
 un : Bool
def RS.go (t : RS) (p : Nat) : RS := { t with p := p }
def RS.no (t : RS) : RS := { t with bad := true }
def selMade (x : SelD) (kids : List SelD) : List SelD := sizedD x kids
def nodeK (k : Int) : SelD := ⟨k, 0, [], [], 0, 0, 0, 0⟩
def escF (s : Bs) (i : Nat) : Bool := decide (i + 1 < s.length) && decide (bat s i = 92) && !isNl (bat s (i + 1))
def nmAt (s : Bs) (i : Nat) : Nat := if i < s.length ∧ bat s i = 45 then i + 1 else i
def nmFollow (s : Bs) (i : Nat) : Bool := (decide (nmAt s i < s.length) && nmStart (bat s (nmAt s i))) || escF s (nmAt s i)
def nmUn (s : Bs) (i : Nat) : Bool := decide (i < s.length ∧ bat s i = 45 ∧ i + 1 < s.length ∧ bat s (i + 1) = 45)
def pointM (b : Nat) : Nat × Nat × Nat :=
 if 194 ≤ b ∧ b < 224 then (b - 192, 2, 128) else if 224 ≤ b ∧ b < 240 then (b - 224, 3, 2048) else if 240 ≤ b ∧ b < 245 then (b - 240, 4, 65536) else (0, 0, 0)
def pointGo (s : Bs) : Nat → Nat → Nat → Option Nat
 | 0, _, c => some c
 | k + 1, i, c => if bat s i < 128 ∨ 191 < bat s i then none else pointGo s k (i + 1) (c * 64 + bat s i - 128)
def point (s : Bs) (i : Nat) : Nat × Nat :=
 if bat s i < 128 then (bat s i, 1)
 else
  if (pointM (bat s i)).2.1 = 0 ∨ s.length < i + (pointM (bat s i)).2.1 then (0, 0)
  else match pointGo s ((pointM (bat s i)).2.1 - 1) (i + 1) (pointM (bat s i)).1 with
   | none => (0, 0)
   | some c => if c < (pointM (bat s i)).2.2 ∨ 1114111 < c ∨ (55296 ≤ c ∧ c < 57344) then (0, 0) else (c, (pointM (bat s i)).2.1)
def readGo (s : Bs) (i : Nat) : Bool :=
 if i < s.length then
  if h : (point s i).2 = 0 ∨ (point s i).1 = 0 ∨ (point s i).1 = 65279 then false else readGo s (i + (point s i).2)
 else true
 termination_by s.length - i
 decreasing_by simp only [not_or] at h; omega
def sSign (s : Bs) (i : Nat) : Int × Nat :=
 if bat s i = 61 then (2, 1)
 else if bat s (i + 1) = 61 then
  (if bat s i = 33 then (3, 2) else if bat s i = 126 then (4, 2) else if bat s i = 124 then (5, 2) else if bat s i = 94 then (6, 2) else if bat s i = 36 then (7, 2) else if bat s i = 42 then (8, 2) else (1, 0))
 else (1, 0)
end
section
inductive ST where
 | mk (x : SelD) (ks : List ST)
mutual
def ST.flat : ST → List SelD
 | .mk x ks => sizedD x (ST.flats ks)
def ST.flats : List ST → List SelD
 | [] => []
 | t :: l => t.flat ++ ST.flats l
end
def ST.node : ST → SelD
 | .mk x _ => x
def anyN : SelD := ⟨1, 0, [], [], 0, 0, 0, 0⟩
def isAnyT (t : ST) : Bool := decide (t.node.kind = 1)
def wrapT (x : SelD) (ks : List ST) : ST :=
 if x.kind = 21 ∧ x.val = [] then
  match ks with
  | [] => .mk anyN []
  | [k] => k
  | ks => .mk x ks
 else .mk x ks
def keepT (x : SelD) (ks : List ST) : List ST := if x.kind = 21 then ks.filter (fun t => !isAnyT t) else ks
mutual
def ST.norm : ST → ST
 | .mk x ks => wrapT x (keepT x (ST.norms ks))
def ST.norms : List ST → List ST
 | [] => []
 | t :: l => t.norm :: ST.norms l
end
mutual
def treeOf : CSel → ST
 | .rel n ks => .mk (nodeOf (.rel n ks)) [.mk grpNode (treesOf ks)]
 | .compound ks pe => .mk (nodeOf (.compound ks pe)) (treesOf ks)
 | .combined f c s => .mk (nodeOf (.combined f c s)) [treeOf f, treeOf s]
 | x => .mk (nodeOf x) []
def treesOf : List CSel → List ST
 | [] => []
 | x :: l => treeOf x :: treesOf l
end
theorem flats_append : ∀ a b, ST.flats (a ++ b) = ST.flats a ++ ST.flats b
 | [], b => by simp [ST.flats]
 | t :: a, b => by simp [ST.flats, flats_append a b]
theorem norms_append : ∀ a b, ST.norms (a ++ b) = ST.norms a ++ ST.norms b
 | [], b => by simp [ST.norms]
 | t :: a, b => by simp [ST.norms, norms_append a b]
theorem treesOf_append : ∀ a b, treesOf (a ++ b) = treesOf a ++ treesOf b
 | [], b => by simp [treesOf]
 | t :: a, b => by simp [treesOf, treesOf_append a b]
mutual
theorem flat_treeOf : ∀ x, (treeOf x).flat = dataOf x
 | .rel n ks => by simp [treeOf, ST.flat, ST.flats, dataOf, flats_treesOf ks]
 | .compound ks pe => by simp [treeOf, ST.flat, dataOf, flats_treesOf ks]
 | .combined f c s => by simp [treeOf, ST.flat, ST.flats, dataOf, flat_treeOf f, flat_treeOf s]
 | .tag k => by simp [treeOf, ST.flat, ST.flats, dataOf]
 | .cls v => by simp [treeOf, ST.flat, ST.flats, dataOf]
 | .idn v => by simp [treeOf, ST.flat, ST.flats, dataOf]
 | .attr a b c d => by simp [treeOf, ST.flat, ST.flats, dataOf]
 | .nth a b c d => by simp [treeOf, ST.flat, ST.flats, dataOf]
 | .only a => by simp [treeOf, ST.flat, ST.flats, dataOf]
 | .empty => by simp [treeOf, ST.flat, ST.flats, dataOf]
 | .root => by simp [treeOf, ST.flat, ST.flats, dataOf]
 | .input => by simp [treeOf, ST.flat, ST.flats, dataOf]
 | .link => by simp [treeOf, ST.flat, ST.flats, dataOf]
 | .enabled => by simp [treeOf, ST.flat, ST.flats, dataOf]
 | .disabled => by simp [treeOf, ST.flat, ST.flats, dataOf]
 | .checked => by simp [treeOf, ST.flat, ST.flats, dataOf]
 | .lang a => by simp [treeOf, ST.flat, ST.flats, dataOf]
 | .contains a b => by simp [treeOf, ST.flat, ST.flats, dataOf]
 | .never a => by simp [treeOf, ST.flat, ST.flats, dataOf]
theorem flats_treesOf : ∀ l, ST.flats (treesOf l) = dataAll l
 | [] => by simp [treesOf, ST.flats, dataAll]
 | x :: l => by simp [treesOf, ST.flats, dataAll, flat_treeOf x, flats_treesOf l]
end
def MT (x : CSel) (l : List SelD) : Prop := ∃ T : ST, l = T.flat ∧ T.norm = (treeOf x).norm
def MTs (xs : List CSel) (l : List SelD) : Prop := ∃ Ts : List ST, l = ST.flats Ts ∧ ST.norms Ts = ST.norms (treesOf xs)
def Smp : CSel → Prop
 | .compound _ _ => False
 | _ => True
theorem sign3 (n : Bs) : (17 + signAt [nNot, nHas, nHasChild] n ≠ 1) ∧ (17 + signAt [nNot, nHas, nHasChild] n ≠ 21) ∧ (17 + signAt [nNot, nHas, nHasChild] n ≠ 23) := by
 have h : 0 ≤ signAt [nNot, nHas, nHasChild] n ∧ signAt [nNot, nHas, nHasChild] n ≤ 3 := by
  unfold signAt
  split
  · rename_i h
    simp only [List.length_cons, List.length_nil] at h
    omega
  omega
 omega
theorem node_kind (x : CSel) : (nodeOf x).kind ≠ 1 ∧ (Smp x → (nodeOf x).kind ≠ 21) ∧ (nodeOf x).kind ≠ 23 := by
 cases x <;> simp [nodeOf, Smp]
 · rename_i v o; cases o <;> simp [b2i]
 rename_i n ks; exact sign3 n
theorem treeOf_mk (x : CSel) : ∃ ks, treeOf x = .mk (nodeOf x) ks := by
 cases x <;> simp [treeOf]
theorem smp_norm {x : CSel} (h : Smp x) : isAnyT (treeOf x).norm = false := by
 obtain ⟨ks, e⟩ := treeOf_mk x
 obtain ⟨h1, h2, _⟩ := node_kind x
 have h3 := h2 h
 rw [e, ST.norm]; unfold wrapT; rw [if_neg (fun h => h3 h.1)]
 simp [isAnyT, ST.node, h1]
theorem keep_smps {x : SelD} : ∀ {l : List CSel}, (∀ y ∈ l, Smp y) → keepT x (ST.norms (treesOf l)) = ST.norms (treesOf l) := by
 intro l h
 unfold keepT
 split
 · induction l with
   | nil => simp [treesOf, ST.norms]
   | cons y l ih =>
    rw [treesOf, ST.norms, List.filter_cons_of_pos (by simp [smp_norm (h y (by simp))]), ih (fun z hz => h z (by simp [hz]))]
 rfl
theorem MTs.nil : MTs [] [] := ⟨[], by simp [ST.flats], by simp [treesOf]⟩
theorem MTs.snoc {xs : List CSel} {l : List SelD} {x : CSel} {m : List SelD} (h : MTs xs l) (k : MT x m) : MTs (xs ++ [x]) (l ++ m) := by
 obtain ⟨Ts, rfl, e⟩ := h
 obtain ⟨T, rfl, e'⟩ := k
 exact ⟨Ts ++ [T], by rw [flats_append]; simp [ST.flats], by rw [norms_append, treesOf_append, norms_append, e]; simp [ST.norms, treesOf, e']⟩
theorem MTs.one {x : CSel} {m : List SelD} (k : MT x m) : MTs [x] m := by simpa using MTs.snoc MTs.nil k
theorem MTs.seq {xs : List CSel} {l : List SelD} (pe : Bs) (hs : ∀ y ∈ xs, Smp y) (h : MTs xs l) : MT (seqEnd xs pe) (selMade ⟨21, 0, [], pe, 0, 0, 0, 0⟩ l) := by
 obtain ⟨Ts, rfl, e⟩ := h
 refine ⟨.mk ⟨21, 0, [], pe, 0, 0, 0, 0⟩ Ts, by rw [ST.flat, selMade], ?_⟩
 rw [ST.norm, e]
 have hc : (treeOf (.compound xs pe)).norm = wrapT ⟨21, 0, [], pe, 0, 0, 0, 0⟩ (keepT ⟨21, 0, [], pe, 0, 0, 0, 0⟩ (ST.norms (treesOf xs))) := by
  rw [treeOf, ST.norm, nodeOf]
 unfold seqEnd
 split
 · rename_i x
   rw [keep_smps hs]
   simp [treesOf, ST.norms, wrapT]
 exact hc.symm
theorem MT.comb {f s : CSel} {c : UInt8} {op : Int} {a b : List SelD} (hf : MT f a) (hs : MT s b) (ho : signAt [[32], [62], [43], [126]] (utf8 c.toNat) = op) :
 MT (.combined f c s) (selMade ⟨22, op, [], [], 0, 0, 0, 0⟩ (a ++ b)) := by
 obtain ⟨A, rfl, ea⟩ := hf
 obtain ⟨B, rfl, eb⟩ := hs
 refine ⟨.mk ⟨22, op, [], [], 0, 0, 0, 0⟩ [A, B], by simp [ST.flat, ST.flats, selMade], ?_⟩
 rw [treeOf, ST.norm, ST.norm]
 simp only [ST.norms, ea, eb, nodeOf, ho]
theorem MT.rel {n : Bs} {ks : List CSel} {l : List SelD} {k : Int} (h : MTs ks l) (hk : 17 + signAt [nNot, nHas, nHasChild] n = k) : MT (.rel n ks) (selMade (nodeK k) (selMade grpNode l)) := by
 obtain ⟨Ts, rfl, e⟩ := h
 refine ⟨.mk (nodeK k) [.mk grpNode Ts], by simp [ST.flat, ST.flats, selMade], ?_⟩
 rw [treeOf, ST.norm, ST.norm]
 simp only [ST.norms, ST.norm, e, nodeOf, hk, nodeK]
end
end Go.Proofs.YtengepcafdnalaaGreatDoor
