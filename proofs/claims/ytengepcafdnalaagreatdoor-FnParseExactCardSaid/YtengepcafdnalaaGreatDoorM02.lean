/-
  Parts of the proof that the law FnParseExact holds for every input (texts Pb, Pc, Pd). Conditions: none.
-/
import Derived.Test.YtengepcafdnalaaGreatDoorM01
namespace Go.Proofs.YtengepcafdnalaaGreatDoor
section
structure RS where
 p : Nat
 bad : Bool
 un : Bool
def RS.go (t : RS) (p : Nat) : RS := { t with p := p }
def RS.unI (t : RS) (b : Bool) : RS := { t with un := t.un || b }
def RS.no (t : RS) : RS := { t with bad := true }
def selMade (x : SelD) (kids : List SelD) : List SelD := sizedD x kids
def failL : List SelD := [⟨1, 0, [], [], 0, 0, 0, 1⟩]
def nodeK (k : Int) : SelD := ⟨k, 0, [], [], 0, 0, 0, 0⟩
def sSp (s : Bs) (t : RS) : RS :=
 if t.bad = false ∧ t.p < s.length then
  if isWs (bat s t.p) = true then sSp s (t.go (t.p + 1))
  else if t.p + 2 ≤ s.length ∧ bat s t.p = 47 ∧ bat s (t.p + 1) = 42 then
   match h : cmtEnd s (t.p + 2) with
   | some j => sSp s (t.go j)
   | none => (t.unI true).no
  else t
 else t
 termination_by s.length - t.p
 decreasing_by
  · simp only [RS.go]; omega
  have := cmtEnd_some _ _ h; simp only [RS.go]; omega
def escF (s : Bs) (i : Nat) : Bool := decide (i + 1 < s.length) && decide (bat s i = 92) && !isNl (bat s (i + 1))
def nmAt (s : Bs) (i : Nat) : Nat := if i < s.length ∧ bat s i = 45 then i + 1 else i
def nmFollow (s : Bs) (i : Nat) : Bool := (decide (nmAt s i < s.length) && nmStart (bat s (nmAt s i))) || escF s (nmAt s i)
def nmUn (s : Bs) (i : Nat) : Bool := decide (i < s.length ∧ bat s i = 45 ∧ i + 1 < s.length ∧ bat s (i + 1) = 45)
def pointM (b : Nat) : Nat × Nat × Nat :=
 if 194 ≤ b ∧ b < 224 then (b - 192, 2, 128) else if 224 ≤ b ∧ b < 240 then (b - 224, 3, 2048) else if 240 ≤ b ∧ b < 245 then (b - 240, 4, 65536) else (0, 0, 0)
def pointGo (s : Bs) : Nat → Nat → Nat → Option Nat
 | 0, _, c => some c
 | k + 1, i, c => if bat s i < 128 ∨ 191 < bat s i then none else pointGo s k (i + 1) (c * 64 + bat s i - 128)
def point (s : Bs) (i : Nat) : Nat × Nat :=
 if bat s i < 128 then (bat s i, 1)
 else
  if (pointM (bat s i)).2.1 = 0 ∨ s.length < i + (pointM (bat s i)).2.1 then (0, 0)
  else match pointGo s ((pointM (bat s i)).2.1 - 1) (i + 1) (pointM (bat s i)).1 with
   | none => (0, 0)
   | some c => if c < (pointM (bat s i)).2.2 ∨ 1114111 < c ∨ (55296 ≤ c ∧ c < 57344) then (0, 0) else (c, (pointM (bat s i)).2.1)
def readGo (s : Bs) (i : Nat) : Bool :=
 if i < s.length then
  if h : (point s i).2 = 0 ∨ (point s i).1 = 0 ∨ (point s i).1 = 65279 then false else readGo s (i + (point s i).2)
 else true
 termination_by s.length - i
 decreasing_by simp only [not_or] at h; omega
def cpOk (n : Nat) : Bool := !(decide (n = 0) || decide (n = 65279) || decide (1114111 < n) || (decide (55296 ≤ n) && decide (n < 57344)))
def sEsc (s : Bs) (t : RS) : Bs × RS :=
 if hexEnd s 6 (t.p + 1) = t.p + 1 then
  ((s.take (t.p + 1 + (point s (t.p + 1)).2)).drop (t.p + 1), t.go (t.p + 1 + (point s (t.p + 1)).2))
 else if cpOk (hexVal ((s.take (hexEnd s 6 (t.p + 1))).drop (t.p + 1))) = true then
  (utf8 (hexVal ((s.take (hexEnd s 6 (t.p + 1))).drop (t.p + 1))), t.go (skipOne s (hexEnd s 6 (t.p + 1))))
 else ([], (t.go (skipOne s (hexEnd s 6 (t.p + 1)))).unI true)
theorem sEsc_p (s : Bs) (t : RS) : t.p + 1 ≤ (sEsc s t).2.p := by
 have h1 := hexEnd_ge s 6 (t.p + 1)
 have h2 := skipOne_ge s (hexEnd s 6 (t.p + 1))
 unfold sEsc
 repeat' split
 all_goals (simp only [RS.go, RS.unI]; omega)
def sRest (s : Bs) (t : RS) (acc : Bs) : Bs × RS :=
 if t.p < s.length ∧ t.bad = false then
  if nmChar (bat s t.p) = true then sRest s (t.go (t.p + 1)) (acc ++ [s.getD t.p 0])
  else if escF s t.p = true then sRest s (sEsc s t).2 (acc ++ (sEsc s t).1)
  else (acc, t)
 else (acc, t)
 termination_by s.length - t.p
 decreasing_by
  · simp only [RS.go]; omega
  have := sEsc_p s t; omega
def sName (s : Bs) (t : RS) : Bs × RS :=
 if nmFollow s t.p = true then sRest s (t.unI (nmUn s t.p)) [] else ([], (t.unI (nmUn s t.p)).no)
def sHash (s : Bs) (t : RS) : Bs × RS :=
 if nmFollow s t.p = true then (if t.bad = true then ([], t.unI (nmUn s t.p)) else sRest s (t.unI (nmUn s t.p)) [])
 else if t.bad = true ∨ nmChar (bat s t.p) = false then ([], (t.unI (nmUn s t.p || nmChar (bat s t.p))).no)
 else sRest s (t.unI true) []
def sStrGo (s : Bs) (q : Nat) (t : RS) (acc : Bs) : Bs × RS :=
 if t.p < s.length then
  if bat s t.p = q then (acc, t.go (t.p + 1))
  else if isNl (bat s t.p) = true then ([], t.no)
  else if bat s t.p ≠ 92 then sStrGo s q (t.go (t.p + 1)) (acc ++ [s.getD t.p 0])
  else if escF s t.p = true then sStrGo s q (sEsc s t).2 (acc ++ (sEsc s t).1)
  else sStrGo s q (t.go (if bat s (t.p + 1) = 13 ∧ bat s (t.p + 2) = 10 ∧ t.p + 3 ≤ s.length then t.p + 3 else t.p + 2)) acc
 else ([], t.no)
 termination_by s.length - t.p
 decreasing_by
  · simp only [RS.go]; omega
  · have := sEsc_p s t; omega
  simp only [RS.go]; split <;> omega
def sQuoted (s : Bs) (t : RS) : Bs × RS := sStrGo s (bat s t.p) (t.go (t.p + 1)) []
def isQ (c : Nat) : Bool := decide (c = 34) || decide (c = 39)
def sValue (s : Bs) (t : RS) : Bs × RS :=
 if isQ (bat s t.p) = true then sQuoted s t
 else sName s (t.unI (nmUn s t.p || (!nmFollow s t.p && (nmChar (bat s t.p) || decide (128 ≤ bat s t.p)))))
def sSign (s : Bs) (i : Nat) : Int × Nat :=
 if bat s i = 61 then (2, 1)
 else if bat s (i + 1) = 61 then
  (if bat s i = 33 then (3, 2) else if bat s i = 126 then (4, 2) else if bat s i = 124 then (5, 2) else if bat s i = 94 then (6, 2) else if bat s i = 36 then (7, 2) else if bat s i = 42 then (8, 2) else (1, 0))
 else (1, 0)
def sEnd (s : Bs) (c : Nat) (x : SelD) (kids : List SelD) (t : RS) : List SelD × RS :=
 if bat s t.p = c then (selMade x kids, t.go (t.p + 1)) else (failL, t.no)
def sAttrE (s : Bs) (key : Bs) (op : Int) (val : Bs) (t : RS) : List SelD × RS :=
 if t.bad = false ∧ (bat s t.p = 105 ∨ bat s t.p = 73) then sEnd s 93 ⟨5, op, key, val, 0, 0, 1, 0⟩ [] (sSp s (t.go (t.p + 1)))
 else sEnd s 93 ⟨5, op, key, val, 0, 0, 0, 0⟩ [] (t.unI (decide (bat s t.p = 115) || decide (bat s t.p = 83)))
def sAttrV (s : Bs) (key : Bs) (t : RS) : List SelD × RS :=
 if (sSign s t.p).1 = 1 then (failL, (t.unI (decide (bat s t.p = 124) || decide (bat s t.p = 35))).no)
 else sAttrE s key (sSign s t.p).1 (sValue s (sSp s (t.go (t.p + (sSign s t.p).2)))).1 (sSp s (sValue s (sSp s (t.go (t.p + (sSign s t.p).2)))).2)
def sAttr (s : Bs) (t : RS) : List SelD × RS :=
 let n := sName s (sSp s t)
 let t2 := sSp s n.2
 if t2.bad = true then (failL, t2.no)
 else if bat s t2.p = 93 then (selMade ⟨5, 1, low n.1, [], 0, 0, 0, 0⟩ [], t2.go (t2.p + 1))
 else sAttrV s (low n.1) t2
def sPlain (n : Bs) : Option SelD :=
 if n = [102, 105, 114, 115, 116, 45, 99, 104, 105, 108, 100] then some (⟨6, 0, [], [], 0, 1, 0, 0⟩)
 else if n = [108, 97, 115, 116, 45, 99, 104, 105, 108, 100] then some (⟨6, 0, [], [], 0, 1, 1, 0⟩)
 else if n = [102, 105, 114, 115, 116, 45, 111, 102, 45, 116, 121, 112, 101] then some (⟨6, 0, [], [], 0, 1, 2, 0⟩)
 else if n = [108, 97, 115, 116, 45, 111, 102, 45, 116, 121, 112, 101] then some (⟨6, 0, [], [], 0, 1, 3, 0⟩)
 else if n = [111, 110, 108, 121, 45, 99, 104, 105, 108, 100] then some (⟨7, 0, [], [], 0, 0, 0, 0⟩)
 else if n = [111, 110, 108, 121, 45, 111, 102, 45, 116, 121, 112, 101] then some (⟨7, 0, [], [], 0, 0, 2, 0⟩)
 else if n = [101, 109, 112, 116, 121] then some (nodeK 8)
 else if n = [114, 111, 111, 116] then some (nodeK 9)
 else if n = [105, 110, 112, 117, 116] then some (nodeK 10)
 else if n = [108, 105, 110, 107] then some (nodeK 11)
 else if n = [101, 110, 97, 98, 108, 101, 100] then some (nodeK 12)
 else if n = [100, 105, 115, 97, 98, 108, 101, 100] then some (nodeK 13)
 else if n = [99, 104, 101, 99, 107, 101, 100] then some (nodeK 14)
 else none
def openNames : List Bs := [[118, 105, 115, 105, 116, 101, 100], [104, 111, 118, 101, 114], [97, 99, 116, 105, 118, 101], [102, 111, 99, 117, 115], [116, 97, 114, 103, 101, 116], [109, 97, 116, 99, 104, 101, 115], [109, 97, 116, 99, 104, 101, 115, 111, 119, 110], [105, 115], [119, 104, 101, 114, 101], [115, 99, 111, 112, 101], [102, 105, 114, 115, 116, 45, 108, 105, 110, 101], [102, 105, 114, 115, 116, 45, 108, 101, 116, 116, 101, 114], [98, 101, 102, 111, 114, 101], [97, 102, 116, 101, 114], [97, 110, 121, 45, 108, 105, 110, 107], [102, 111, 99, 117, 115, 45, 119, 105, 116, 104, 105, 110], [102, 111, 99, 117, 115, 45, 118, 105, 115, 105, 98, 108, 101], [114, 101, 113, 117, 105, 114, 101, 100], [111, 112, 116, 105, 111, 110, 97, 108], [114, 101, 97, 100, 45, 111, 110, 108, 121], [114, 101, 97, 100, 45, 119, 114, 105, 116, 101], [100, 101, 102, 97, 117, 108, 116], [118, 97, 108, 105, 100], [105, 110, 118, 97, 108, 105, 100], [105, 110, 100, 101, 116, 101, 114, 109, 105, 110, 97, 116, 101], [100, 101, 102, 105, 110, 101, 100], [102, 117, 108, 108, 115, 99, 114, 101, 101, 110], [104, 111, 115, 116], [108, 111, 99, 97, 108, 45, 108, 105, 110, 107], [99, 117, 114, 114, 101, 110, 116], [112, 97, 115, 116], [102, 117, 116, 117, 114, 101], [100, 105, 114], [110, 116, 104, 45, 99, 111, 108], [110, 116, 104, 45, 108, 97, 115, 116, 45, 99, 111, 108], [112, 108, 97, 99, 101, 104, 111, 108, 100, 101, 114, 45, 115, 104, 111, 119, 110], [105, 110, 45, 114, 97, 110, 103, 101], [111, 117, 116, 45, 111, 102, 45, 114, 97, 110, 103, 101], [112, 97, 114, 101, 110, 116], [98, 97, 99, 107, 100, 114, 111, 112], [99, 117, 101], [103, 114, 97, 109, 109, 97, 114, 45, 101, 114, 114, 111, 114], [109, 97, 114, 107, 101, 114], [112, 108, 97, 99, 101, 104, 111, 108, 100, 101, 114], [115, 101, 108, 101, 99, 116, 105, 111, 110], [115, 112, 101, 108, 108, 105, 110, 103, 45, 101, 114, 114, 111, 114], [104, 101, 97, 100, 101, 114], [98, 117, 116, 116, 111, 110], [99, 104, 101, 99, 107, 98, 111, 120], [114, 97, 100, 105, 111], [115, 117, 98, 109, 105, 116], [116, 101, 120, 116], [105, 109, 97, 103, 101], [102, 105, 108, 101], [112, 97, 115, 115, 119, 111, 114, 100], [114, 101, 115, 101, 116], [115, 101, 108, 101, 99, 116, 101, 100], [104, 105, 100, 100, 101, 110], [118, 105, 115, 105, 98, 108, 101], [102, 105, 114, 115, 116], [108, 97, 115, 116], [101, 118, 101, 110], [111, 100, 100], [101, 113], [103, 116], [108, 116]]
def nthFlagS (n : Bs) : Int := if n = nNthChild then 0 else if n = nNthLastChild then 1 else if n = nNthType then 2 else if n = nNthLastType then 3 else -1
def kindS (n : Bs) : Int := if n = nNot then 18 else if n = nHas then 19 else if n = nHasChild then 20 else if n = nContains then 16 else if n = nContainsOwn then 17 else if n = nLang then 15 else 0
def digS (s : Bs) (t : RS) (n : Nat) (is : Bool) : Nat × Bool × RS :=
 if digB (bat s t.p) = true ∧ t.p < s.length then digS s (t.go (t.p + 1)) (min (10 * n + (bat s t.p - 48)) 100000) true
 else (n, is, t.unI (decide (n = 100000)))
 termination_by s.length - t.p
 decreasing_by simp only [RS.go]; omega
def wordS (s : Bs) (w : Bs) (i : Nat) : Bool :=
 decide (i + w.length ≤ s.length) && decide (low ((s.take (i + w.length)).drop i) = w) && !(decide (i + w.length < s.length) && (nmChar (bat s (i + w.length)) || decide (bat s (i + w.length) = 92)))
def bsNear (s : Bs) (i : Nat) : Bool := decide (bat s i = 92) || decide (bat s (i + 1) = 92) || decide (bat s (i + 2) = 92) || decide (bat s (i + 3) = 92)
def sCountN (s : Bs) (a : Int) (t : RS) : (Int × Int) × RS :=
 let t1 := sSp s t
 let c := bat s t1.p
 if c = 43 ∨ c = 45 then
  let d := digS s (sSp s (t1.go (t1.p + 1))) 0 false
  ((a, if c = 45 then 0 - (d.1 : Int) else (d.1 : Int)), if d.2.1 = true then d.2.2 else d.2.2.no)
 else ((a, 0), t1.unI ((decide (t1.p = t.p) && (nmChar c || decide (c = 92))) || decide (c = 111) || decide (c = 79) || digB c))
def sCountA (s : Bs) (sign : Int) (t : RS) : (Int × Int) × RS :=
 let d := digS s t 0 false
 let t1 := d.2.2
 if isN (bat s t1.p) = true then sCountN s (if d.2.1 = true then sign * d.1 else sign) (t1.go (t1.p + 1))
 else ((0, sign * d.1), (if d.2.1 = true then t1 else t1.no).unI (bsNear s t1.p || (decide (bat s t1.p = 111) && decide (bat s (t1.p + 1) = 102))))
def sCount (s : Bs) (t : RS) : (Int × Int) × RS :=
 if wordS s [111, 100, 100] t.p = true then ((2, 1), t.go (t.p + 3))
 else if wordS s [101, 118, 101, 110] t.p = true then ((2, 0), t.go (t.p + 4))
 else if bat s t.p = 45 then sCountA s (-1) (t.go (t.p + 1))
 else if bat s t.p = 43 then sCountA s 1 (t.go (t.p + 1))
 else sCountA s 1 t
def hiB (l : Bs) : Bool := l.any fun c => decide (128 ≤ c.toNat)
def sArg (G : RS → List SelD × RS) (s : Bs) (kind flag : Int) (t : RS) : List SelD × RS :=
 let t1 := sSp s t
 let c := bat s t1.p
 if 0 ≤ flag then
  let n := sCount s t1
  let t2 := sSp s n.2
  if t2.bad = true then (failL, t2.no) else sEnd s 41 ⟨6, 0, [], [], n.1.1, n.1.2, flag, 0⟩ [] t2
 else if 18 ≤ kind then
  let g := G (t1.unI (decide (c = 62) || decide (c = 43) || decide (c = 126)))
  if g.2.bad = true then (failL, g.2.no) else sEnd s 41 (nodeK kind) g.1 g.2
 else if kind = 15 then
  let v := sName s (t1.unI (isQ c || decide (c = 42)))
  let t2 := sSp s (v.2.unI (hiB v.1))
  let t3 := t2.unI (decide (bat s t2.p = 44))
  if t3.bad = true then (failL, t3.no) else sEnd s 41 ⟨15, 0, [], low v.1, 0, 0, 0, 0⟩ [] t3
 else
  let v := sValue s t1
  let t2 := sSp s (v.2.unI (hiB v.1))
  if t2.bad = true then (failL, t2.no) else sEnd s 41 ⟨kind, 0, [], low v.1, 0, 0, 0, 0⟩ [] t2
def sPseudo (G : RS → List SelD × RS) (s : Bs) (t : RS) : List SelD × RS :=
 let v := sName s t
 let n := low v.1
 if v.2.bad = true then (failL, v.2.no)
 else match sPlain n with
  | some x => if bat s v.2.p = 40 then (failL, (v.2.unI true).no) else (selMade x [], v.2)
  | none =>
   if n ∈ openNames then (failL, (v.2.unI true).no)
   else if (nthFlagS n < 0 ∧ kindS n = 0) ∨ bat s v.2.p ≠ 40 then (failL, v.2.no)
   else sArg G s (kindS n) (nthFlagS n) (v.2.go (v.2.p + 1))
def elderNames : List Bs := [[98, 101, 102, 111, 114, 101], [97, 102, 116, 101, 114], [102, 105, 114, 115, 116, 45, 108, 105, 110, 101], [102, 105, 114, 115, 116, 45, 108, 101, 116, 116, 101, 114]]
def sElem (s : Bs) (t : RS) : Bs × RS :=
 let v := sName s t
 (low v.1, v.2.unI (!decide (low v.1 ∈ elderNames) || decide (bat s v.2.p = 40)))
def sSimple (G : RS → List SelD × RS) (s : Bs) (t : RS) : (List SelD × Bs) × RS :=
 if bat s t.p = 46 then
  let v := sName s (t.go (t.p + 1))
  ((selMade ⟨3, 0, [], v.1, 0, 0, 0, 0⟩ [], []), v.2)
 else if bat s t.p = 35 then
  let v := sHash s (t.go (t.p + 1))
  ((selMade ⟨4, 0, [], v.1, 0, 0, 0, 0⟩ [], []), v.2)
 else if bat s t.p = 91 then
  let v := sAttr s (t.go (t.p + 1))
  ((v.1, []), v.2)
 else if bat s (t.p + 1) = 58 then
  let v := sElem s (t.go (t.p + 2))
  (([], v.1), v.2)
 else
  let v := sPseudo G s (t.go (t.p + 1))
  ((v.1, []), v.2)
def sCmpGo (G : RS → List SelD × RS) (s : Bs) (ps pseudo : Bool) (t : RS) (l : List SelD) (pe : Bs) (many : Nat) : List SelD × RS :=
 if t.bad = false ∧ t.p < s.length ∧ isSim (bat s t.p) = true then
  let v := sSimple G s t
  if v.1.2 ≠ [] then
   if pseudo = false then (failL, (v.2.unI ps).no)
   else if pe ≠ [] then (failL, (v.2.unI true).no)
   else if t.p < v.2.p then sCmpGo G s ps pseudo v.2 l v.1.2 (many + 1) else (failL, v.2.no)
  else if t.p < v.2.p then sCmpGo G s ps pseudo (v.2.unI (decide (pe ≠ []))) (l ++ v.1.1) pe (many + 1) else (failL, v.2.no)
 else
  let t1 := t.unI (decide (bat s t.p = 124) || decide (bat s t.p = 42))
  if many = 0 then (failL, t1.no) else (selMade ⟨21, 0, [], pe, 0, 0, 0, 0⟩ l, t1)
 termination_by s.length - t.p
 decreasing_by all_goals (try simp only [RS.unI]); all_goals exact (by omega : s.length - v.2.p < s.length - t.p)
def sCmp (G : RS → List SelD × RS) (s : Bs) (ps pseudo : Bool) (t : RS) : List SelD × RS :=
 if bat s t.p = 42 then sCmpGo G s ps pseudo (t.go (t.p + 1)) [] [] 1
 else if nmFollow s t.p = true then
  let v := sName s (t.unI (nmUn s t.p))
  sCmpGo G s ps pseudo v.2 (selMade ⟨2, 0, low v.1, [], 0, 0, 0, 0⟩ []) [] 1
 else sCmpGo G s ps pseudo (t.unI (nmUn s t.p)) [] [] 0
def lastPe (l : List SelD) : Nat → Nat → Bs
 | 0, _ => []
 | n + 1, i =>
  let x := l.getD i default
  if x.kind = 22 then lastPe l n (lastKid l (i + x.size.toNat) (i + 1) (i + 1) n)
  else if x.kind = 21 then x.val else []
where
 /-- The last of the kids that begin ahead of a place. -/
 lastKid (l : List SelD) (fin k last : Nat) : Nat → Nat
 | 0 => last
 | n + 1 => if k < fin then lastKid l fin (k + max 1 (l.getD k default).size.toNat) k n else last
def endsPe (l : List SelD) : Bool :=
 let x := l.getD 0 default
 (decide (x.kind = 21) && decide (x.val ≠ [])) || (decide (x.kind = 22) && decide (lastPe l (l.length + 1) 0 ≠ []))
def combOp (c : Nat) : Int := if c = 62 then 2 else if c = 43 then 3 else if c = 126 then 4 else 0
def sCpxGo (G : RS → List SelD × RS) (s : Bs) (ps pseudo : Bool) (t : RS) (left : List SelD) : List SelD × RS :=
 if t.bad = true then (left, t)
 else
  let t1 := sSp s t
  let c := bat s t1.p
  let op := if combOp c ≠ 0 then combOp c else 1
  let t2 := if combOp c ≠ 0 then sSp s (t1.go (t1.p + 1)) else t1
  if combOp c = 0 ∧ (s.length ≤ t1.p ∨ c = 44 ∨ c = 41 ∨ t1.p ≤ t.p) then (left, t1)
  else if endsPe left = true then (failL, (t2.unI true).no)
  else
   let r := sCmp G s ps pseudo t2
   if t.p < r.2.p ∧ t.p < s.length then sCpxGo G s ps pseudo r.2 (selMade ⟨22, op, [], [], 0, 0, 0, 0⟩ (left ++ r.1))
   else (selMade ⟨22, op, [], [], 0, 0, 0, 0⟩ (left ++ r.1), r.2)
 termination_by s.length - t.p
 decreasing_by exact (by omega : s.length - r.2.p < s.length - t.p)
def sCpx (G : RS → List SelD × RS) (s : Bs) (ps pseudo : Bool) (t : RS) : List SelD × RS :=
 let r := sCmp G s ps pseudo (sSp s t)
 sCpxGo G s ps pseudo r.2 r.1
def sGrpGo (G : RS → List SelD × RS) (s : Bs) (ps pseudo : Bool) (t : RS) (l : List SelD) : List SelD × RS :=
 if t.bad = false ∧ t.p < s.length ∧ bat s t.p = 44 then
  let r := sCpx G s ps pseudo (t.go (t.p + 1))
  if t.p < r.2.p then sGrpGo G s ps pseudo r.2 (l ++ r.1) else (l ++ r.1, r.2)
 else (l, t)
 termination_by s.length - t.p
 decreasing_by exact (by omega : s.length - r.2.p < s.length - t.p)
def sGrp1 (G : RS → List SelD × RS) (s : Bs) (ps many pseudo : Bool) (t : RS) : List SelD × RS :=
 let r := sCpx G s ps pseudo t
 let g := if many = true then sGrpGo G s ps pseudo r.2 r.1 else r
 (selMade grpNode g.1, g.2)
def sGrp (s : Bs) (ps : Bool) : Nat → RS → List SelD × RS
 | 0, t => (failL, t.no)
 | n + 1, t => sGrp1 (sGrp s ps n) s ps true false t
def sParsed (s : Bs) (many pseudo : Bool) : List SelD × Bool × Bool :=
 if readGo s 0 = true then
  let g := sGrp1 (sGrp s pseudo (s.length + 1)) s pseudo many pseudo ⟨0, false, false⟩
  if g.2.bad = true ∨ g.2.p < s.length then ([], false, !g.2.un)
  else (if many = true then g.1 else (g.1.drop 1).take (g.1.getD 1 default).size.toNat, true, !g.2.un)
 else ([], false, false)
end
section
@[simp] theorem RS.go_p (t : RS) (p : Nat) : (t.go p).p = p := rfl
@[simp] theorem RS.go_bad (t : RS) (p : Nat) : (t.go p).bad = t.bad := rfl
@[simp] theorem RS.go_un (t : RS) (p : Nat) : (t.go p).un = t.un := rfl
@[simp] theorem RS.unI_p (t : RS) (b : Bool) : (t.unI b).p = t.p := rfl
@[simp] theorem RS.unI_bad (t : RS) (b : Bool) : (t.unI b).bad = t.bad := rfl
@[simp] theorem RS.unI_un (t : RS) (b : Bool) : (t.unI b).un = (t.un || b) := rfl
@[simp] theorem RS.no_p (t : RS) : t.no.p = t.p := rfl
@[simp] theorem RS.no_bad (t : RS) : t.no.bad = true := rfl
@[simp] theorem RS.no_un (t : RS) : t.no.un = t.un := rfl
@[simp] theorem RS.unI_f (t : RS) : t.unI false = t := by cases t; simp [RS.unI]
theorem RS.ext' {a b : RS} (h1 : a.p = b.p) (h2 : a.bad = b.bad) (h3 : a.un = b.un) : a = b := by cases a; cases b; simp_all
/-! ### What is unsure stays unsure -/
theorem sSp_un (s : Bs) (t : RS) (h : t.un = true) : (sSp s t).un = true := by
 fun_induction sSp s t with
 | case1 t h1 h2 ih => exact ih h
 | case2 t h1 h2 h3 j hj ih => exact ih h
 | case3 t h1 h2 h3 hj => simp
 | case4 t h1 h2 h3 => exact h
 | case5 t h1 => exact h
theorem sEsc_un (s : Bs) (t : RS) (h : t.un = true) : (sEsc s t).2.un = true := by
 unfold sEsc; repeat' split
 all_goals simp [h]
theorem sRest_un (s : Bs) (t : RS) (acc : Bs) (h : t.un = true) : (sRest s t acc).2.un = true := by
 fun_induction sRest s t acc with
 | case1 t acc h1 h2 ih => exact ih h
 | case2 t acc h1 h2 h3 ih => exact ih (sEsc_un s t h)
 | case3 t acc h1 h2 h3 => exact h
 | case4 t acc h1 => exact h
theorem sName_un (s : Bs) (t : RS) (h : t.un = true) : (sName s t).2.un = true := by
 unfold sName; split
 · exact sRest_un s _ _ (by simp [h])
 simp [h]
theorem sHash_un (s : Bs) (t : RS) (h : t.un = true) : (sHash s t).2.un = true := by
 unfold sHash; repeat' split
 all_goals first | exact sRest_un s _ _ (by simp [h]) | simp [h]
theorem sStrGo_un (s : Bs) (q : Nat) (t : RS) (acc : Bs) (h : t.un = true) : (sStrGo s q t acc).2.un = true := by
 fun_induction sStrGo s q t acc <;> first | exact h | (rename_i ih; exact ih (sEsc_un s _ h)) | (rename_i ih; exact ih h)
theorem sValue_un (s : Bs) (t : RS) (h : t.un = true) : (sValue s t).2.un = true := by
 unfold sValue; split
 · exact sStrGo_un s _ _ _ h
 exact sName_un s _ (by simp [h])
theorem sEnd_un (s : Bs) (c : Nat) (x : SelD) (k : List SelD) (t : RS) (h : t.un = true) : (sEnd s c x k t).2.un = true := by
 unfold sEnd; split <;> exact h
theorem sAttrE_un (s key val : Bs) (op : Int) (t : RS) (h : t.un = true) : (sAttrE s key op val t).2.un = true := by
 unfold sAttrE; split
 · exact sEnd_un _ _ _ _ _ (sSp_un _ _ h)
 exact sEnd_un _ _ _ _ _ (by simp [h])
theorem sAttrV_un (s key : Bs) (t : RS) (h : t.un = true) : (sAttrV s key t).2.un = true := by
 unfold sAttrV; split
 · simp [h]
 exact sAttrE_un _ _ _ _ _ (sSp_un _ _ (sValue_un _ _ (sSp_un _ _ h)))
theorem sAttr_un (s : Bs) (t : RS) (h : t.un = true) : (sAttr s t).2.un = true := by
 have h1 := sSp_un s _ (sName_un s _ (sSp_un s t h))
 unfold sAttr; simp only; repeat' split
 · exact h1
 · exact h1
 exact sAttrV_un _ _ _ h1
theorem digS_un (s : Bs) (t : RS) (n : Nat) (is : Bool) (h : t.un = true) : (digS s t n is).2.2.un = true := by
 fun_induction digS s t n is with
 | case1 t n is h1 ih => exact ih h
 | case2 t n is h1 => simp [h]
theorem sCountN_un (s : Bs) (a : Int) (t : RS) (h : t.un = true) : (sCountN s a t).2.un = true := by
 have h1 := sSp_un s t h
 unfold sCountN; simp only; repeat' split
 all_goals first | exact digS_un _ _ _ _ (sSp_un _ _ h1) | simp [h1]
theorem sCountA_un (s : Bs) (g : Int) (t : RS) (h : t.un = true) : (sCountA s g t).2.un = true := by
 have h1 := digS_un s t 0 false h
 unfold sCountA; simp only; repeat' split
 all_goals first | exact sCountN_un _ _ _ h1 | simp [h1]
theorem sCount_un (s : Bs) (t : RS) (h : t.un = true) : (sCount s t).2.un = true := by
 unfold sCount; repeat' split
 all_goals first | exact sCountA_un _ _ _ h | exact h
theorem sArg_un {G : RS → List SelD × RS} (hG : ∀ t, t.un = true → (G t).2.un = true) (s : Bs) (k f : Int) (t : RS) (h : t.un = true) : (sArg G s k f t).2.un = true := by
 have h1 := sSp_un s t h
 have h2 := sSp_un s _ (sCount_un s _ h1)
 have h3 := fun b => hG ((sSp s t).unI b) (by simp [h1])
 have h4 := fun b c => sSp_un s ((sName s ((sSp s t).unI b)).2.unI c) (by simp [sName_un s ((sSp s t).unI b) (by simp [h1])])
 have h5 := fun c => sSp_un s ((sValue s (sSp s t)).2.unI c) (by simp [sValue_un s (sSp s t) h1])
 unfold sArg; simp only
 split
 · split
   · exact h2
   exact sEnd_un _ _ _ _ _ h2
 split
 · split
   · exact h3 _
   exact sEnd_un _ _ _ _ _ (h3 _)
 split
 · split
   · simp [h4]
   exact sEnd_un _ _ _ _ _ (by simp [h4])
 split
 · exact h5 _
 exact sEnd_un _ _ _ _ _ (h5 _)
theorem sPseudo_un {G : RS → List SelD × RS} (hG : ∀ t, t.un = true → (G t).2.un = true) (s : Bs) (t : RS) (h : t.un = true) : (sPseudo G s t).2.un = true := by
 have h1 := sName_un s t h
 unfold sPseudo; simp only; repeat' split
 all_goals first | exact sArg_un hG _ _ _ _ h1 | simp [h1]
theorem sElem_un (s : Bs) (t : RS) (h : t.un = true) : (sElem s t).2.un = true := by
 simp [sElem, sName_un s t h]
theorem sSimple_un {G : RS → List SelD × RS} (hG : ∀ t, t.un = true → (G t).2.un = true) (s : Bs) (t : RS) (h : t.un = true) : (sSimple G s t).2.un = true := by
 unfold sSimple; simp only; repeat' split
 · exact sName_un _ _ h
 · exact sHash_un _ _ h
 · exact sAttr_un _ _ h
 · exact sElem_un _ _ h
 exact sPseudo_un hG _ _ h
theorem sCmpGo_un {G : RS → List SelD × RS} (hG : ∀ t, t.un = true → (G t).2.un = true) (s : Bs) (ps pseudo : Bool) (t : RS) (l : List SelD) (pe : Bs) (m : Nat) (h : t.un = true) : (sCmpGo G s ps pseudo t l pe m).2.un = true := by
 fun_induction sCmpGo G s ps pseudo t l pe m <;>
  (have hv := sSimple_un hG s _ h
   first
   | (simp +zetaDelta [hv]; done)
   | (rename_i ih; exact ih hv)
   | (rename_i ih; exact ih (by simp +zetaDelta [hv]))
   | (simp +zetaDelta [h]; done))
theorem sCmp_un {G : RS → List SelD × RS} (hG : ∀ t, t.un = true → (G t).2.un = true) (s : Bs) (ps pseudo : Bool) (t : RS) (h : t.un = true) : (sCmp G s ps pseudo t).2.un = true := by
 unfold sCmp; simp only; repeat' split
 · exact sCmpGo_un hG _ _ _ _ _ _ _ h
 · exact sCmpGo_un hG _ _ _ _ _ _ _ (sName_un _ _ (by simp [h]))
 exact sCmpGo_un hG _ _ _ _ _ _ _ (by simp [h])
theorem sCpxGo_un {G : RS → List SelD × RS} (hG : ∀ t, t.un = true → (G t).2.un = true) (s : Bs) (ps pseudo : Bool) (t : RS) (left : List SelD) (h : t.un = true) : (sCpxGo G s ps pseudo t left).2.un = true := by
 fun_induction sCpxGo G s ps pseudo t left with
 | case1 => exact h
 | case2 => exact sSp_un _ _ h
 | case3 => simp
 | case4 t left h1 t1 c op t2 h2 h3 r h4 ih =>
  refine ih (sCmp_un hG _ _ _ _ ?_)
  show (if _ then _ else _ : RS).un = true
  split
  · exact sSp_un _ _ (sSp_un _ _ h)
  exact sSp_un _ _ h
 | case5 t left h1 t1 c op t2 h2 h3 r h4 =>
  refine sCmp_un hG _ _ _ _ ?_
  show (if _ then _ else _ : RS).un = true
  split
  · exact sSp_un _ _ (sSp_un _ _ h)
  exact sSp_un _ _ h
theorem sCpx_un {G : RS → List SelD × RS} (hG : ∀ t, t.un = true → (G t).2.un = true) (s : Bs) (ps pseudo : Bool) (t : RS) (h : t.un = true) : (sCpx G s ps pseudo t).2.un = true :=
 sCpxGo_un hG _ _ _ _ _ (sCmp_un hG _ _ _ _ (sSp_un _ _ h))
theorem sGrpGo_un {G : RS → List SelD × RS} (hG : ∀ t, t.un = true → (G t).2.un = true) (s : Bs) (ps pseudo : Bool) (t : RS) (l : List SelD) (h : t.un = true) : (sGrpGo G s ps pseudo t l).2.un = true := by
 fun_induction sGrpGo G s ps pseudo t l with
 | case1 t l h1 r h2 ih => exact ih (sCpx_un hG _ _ _ _ h)
 | case2 t l h1 r h2 => exact sCpx_un hG _ _ _ _ h
 | case3 => exact h
theorem sGrp1_un {G : RS → List SelD × RS} (hG : ∀ t, t.un = true → (G t).2.un = true) (s : Bs) (ps many pseudo : Bool) (t : RS) (h : t.un = true) : (sGrp1 G s ps many pseudo t).2.un = true := by
 unfold sGrp1; simp only; split
 · exact sGrpGo_un hG _ _ _ _ _ (sCpx_un hG _ _ _ _ h)
 exact sCpx_un hG _ _ _ _ h
theorem sGrp_un (s : Bs) (ps : Bool) : ∀ (n : Nat) (t : RS), t.un = true → (sGrp s ps n t).2.un = true
 | 0, t, h => h
 | n + 1, t, h => sGrp1_un (sGrp_un s ps n) _ _ _ _ _ h
end
section
inductive ST where
 | mk (x : SelD) (ks : List ST)
mutual
def ST.flat : ST → List SelD
 | .mk x ks => sizedD x (ST.flats ks)
def ST.flats : List ST → List SelD
 | [] => []
 | t :: l => t.flat ++ ST.flats l
end
def ST.node : ST → SelD
 | .mk x _ => x
def anyN : SelD := ⟨1, 0, [], [], 0, 0, 0, 0⟩
def isAnyT (t : ST) : Bool := decide (t.node.kind = 1)
def wrapT (x : SelD) (ks : List ST) : ST :=
 if x.kind = 21 ∧ x.val = [] then
  match ks with
  | [] => .mk anyN []
  | [k] => k
  | ks => .mk x ks
 else .mk x ks
def keepT (x : SelD) (ks : List ST) : List ST := if x.kind = 21 then ks.filter (fun t => !isAnyT t) else ks
mutual
def ST.norm : ST → ST
 | .mk x ks => wrapT x (keepT x (ST.norms ks))
def ST.norms : List ST → List ST
 | [] => []
 | t :: l => t.norm :: ST.norms l
end
mutual
def treeOf : CSel → ST
 | .rel n ks => .mk (nodeOf (.rel n ks)) [.mk grpNode (treesOf ks)]
 | .compound ks pe => .mk (nodeOf (.compound ks pe)) (treesOf ks)
 | .combined f c s => .mk (nodeOf (.combined f c s)) [treeOf f, treeOf s]
 | x => .mk (nodeOf x) []
def treesOf : List CSel → List ST
 | [] => []
 | x :: l => treeOf x :: treesOf l
end
theorem flats_append : ∀ a b, ST.flats (a ++ b) = ST.flats a ++ ST.flats b
 | [], b => by simp [ST.flats]
 | t :: a, b => by simp [ST.flats, flats_append a b]
theorem norms_append : ∀ a b, ST.norms (a ++ b) = ST.norms a ++ ST.norms b
 | [], b => by simp [ST.norms]
 | t :: a, b => by simp [ST.norms, norms_append a b]
theorem treesOf_append : ∀ a b, treesOf (a ++ b) = treesOf a ++ treesOf b
 | [], b => by simp [treesOf]
 | t :: a, b => by simp [treesOf, treesOf_append a b]
mutual
theorem flat_treeOf : ∀ x, (treeOf x).flat = dataOf x
 | .rel n ks => by simp [treeOf, ST.flat, ST.flats, dataOf, flats_treesOf ks]
 | .compound ks pe => by simp [treeOf, ST.flat, dataOf, flats_treesOf ks]
 | .combined f c s => by simp [treeOf, ST.flat, ST.flats, dataOf, flat_treeOf f, flat_treeOf s]
 | .tag k => by simp [treeOf, ST.flat, ST.flats, dataOf]
 | .cls v => by simp [treeOf, ST.flat, ST.flats, dataOf]
 | .idn v => by simp [treeOf, ST.flat, ST.flats, dataOf]
 | .attr a b c d => by simp [treeOf, ST.flat, ST.flats, dataOf]
 | .nth a b c d => by simp [treeOf, ST.flat, ST.flats, dataOf]
 | .only a => by simp [treeOf, ST.flat, ST.flats, dataOf]
 | .empty => by simp [treeOf, ST.flat, ST.flats, dataOf]
 | .root => by simp [treeOf, ST.flat, ST.flats, dataOf]
 | .input => by simp [treeOf, ST.flat, ST.flats, dataOf]
 | .link => by simp [treeOf, ST.flat, ST.flats, dataOf]
 | .enabled => by simp [treeOf, ST.flat, ST.flats, dataOf]
 | .disabled => by simp [treeOf, ST.flat, ST.flats, dataOf]
 | .checked => by simp [treeOf, ST.flat, ST.flats, dataOf]
 | .lang a => by simp [treeOf, ST.flat, ST.flats, dataOf]
 | .contains a b => by simp [treeOf, ST.flat, ST.flats, dataOf]
 | .never a => by simp [treeOf, ST.flat, ST.flats, dataOf]
theorem flats_treesOf : ∀ l, ST.flats (treesOf l) = dataAll l
 | [] => by simp [treesOf, ST.flats, dataAll]
 | x :: l => by simp [treesOf, ST.flats, dataAll, flat_treeOf x, flats_treesOf l]
end
def MT (x : CSel) (l : List SelD) : Prop := ∃ T : ST, l = T.flat ∧ T.norm = (treeOf x).norm
def MTs (xs : List CSel) (l : List SelD) : Prop := ∃ Ts : List ST, l = ST.flats Ts ∧ ST.norms Ts = ST.norms (treesOf xs)
def Smp : CSel → Prop
 | .compound _ _ => False
 | _ => True
theorem sign3 (n : Bs) : (17 + signAt [nNot, nHas, nHasChild] n ≠ 1) ∧ (17 + signAt [nNot, nHas, nHasChild] n ≠ 21) ∧ (17 + signAt [nNot, nHas, nHasChild] n ≠ 23) := by
 have h : 0 ≤ signAt [nNot, nHas, nHasChild] n ∧ signAt [nNot, nHas, nHasChild] n ≤ 3 := by
  unfold signAt
  split
  · rename_i h
    simp only [List.length_cons, List.length_nil] at h
    omega
  omega
 omega
theorem node_kind (x : CSel) : (nodeOf x).kind ≠ 1 ∧ (Smp x → (nodeOf x).kind ≠ 21) ∧ (nodeOf x).kind ≠ 23 := by
 cases x <;> simp [nodeOf, Smp]
 · rename_i v o; cases o <;> simp [b2i]
 rename_i n ks; exact sign3 n
theorem treeOf_mk (x : CSel) : ∃ ks, treeOf x = .mk (nodeOf x) ks := by
 cases x <;> simp [treeOf]
theorem smp_norm {x : CSel} (h : Smp x) : isAnyT (treeOf x).norm = false := by
 obtain ⟨ks, e⟩ := treeOf_mk x
 obtain ⟨h1, h2, _⟩ := node_kind x
 have h3 := h2 h
 rw [e, ST.norm]; unfold wrapT; rw [if_neg (fun h => h3 h.1)]
 simp [isAnyT, ST.node, h1]
theorem keep_smps {x : SelD} : ∀ {l : List CSel}, (∀ y ∈ l, Smp y) → keepT x (ST.norms (treesOf l)) = ST.norms (treesOf l) := by
 intro l h
 unfold keepT
 split
 · induction l with
   | nil => simp [treesOf, ST.norms]
   | cons y l ih =>
    rw [treesOf, ST.norms, List.filter_cons_of_pos (by simp [smp_norm (h y (by simp))]), ih (fun z hz => h z (by simp [hz]))]
 rfl
theorem MTs.nil : MTs [] [] := ⟨[], by simp [ST.flats], by simp [treesOf]⟩
theorem MTs.snoc {xs : List CSel} {l : List SelD} {x : CSel} {m : List SelD} (h : MTs xs l) (k : MT x m) : MTs (xs ++ [x]) (l ++ m) := by
 obtain ⟨Ts, rfl, e⟩ := h
 obtain ⟨T, rfl, e'⟩ := k
 exact ⟨Ts ++ [T], by rw [flats_append]; simp [ST.flats], by rw [norms_append, treesOf_append, norms_append, e]; simp [ST.norms, treesOf, e']⟩
theorem MTs.one {x : CSel} {m : List SelD} (k : MT x m) : MTs [x] m := by simpa using MTs.snoc MTs.nil k
theorem MTs.seq {xs : List CSel} {l : List SelD} (pe : Bs) (hs : ∀ y ∈ xs, Smp y) (h : MTs xs l) : MT (seqEnd xs pe) (selMade ⟨21, 0, [], pe, 0, 0, 0, 0⟩ l) := by
 obtain ⟨Ts, rfl, e⟩ := h
 refine ⟨.mk ⟨21, 0, [], pe, 0, 0, 0, 0⟩ Ts, by rw [ST.flat, selMade], ?_⟩
 rw [ST.norm, e]
 have hc : (treeOf (.compound xs pe)).norm = wrapT ⟨21, 0, [], pe, 0, 0, 0, 0⟩ (keepT ⟨21, 0, [], pe, 0, 0, 0, 0⟩ (ST.norms (treesOf xs))) := by
  rw [treeOf, ST.norm, nodeOf]
 unfold seqEnd
 split
 · rename_i x
   rw [keep_smps hs]
   simp [treesOf, ST.norms, wrapT]
 exact hc.symm
theorem MT.comb {f s : CSel} {c : UInt8} {op : Int} {a b : List SelD} (hf : MT f a) (hs : MT s b) (ho : signAt [[32], [62], [43], [126]] (utf8 c.toNat) = op) :
 MT (.combined f c s) (selMade ⟨22, op, [], [], 0, 0, 0, 0⟩ (a ++ b)) := by
 obtain ⟨A, rfl, ea⟩ := hf
 obtain ⟨B, rfl, eb⟩ := hs
 refine ⟨.mk ⟨22, op, [], [], 0, 0, 0, 0⟩ [A, B], by simp [ST.flat, ST.flats, selMade], ?_⟩
 rw [treeOf, ST.norm, ST.norm]
 simp only [ST.norms, ea, eb, nodeOf, ho]
theorem MT.rel {n : Bs} {ks : List CSel} {l : List SelD} {k : Int} (h : MTs ks l) (hk : 17 + signAt [nNot, nHas, nHasChild] n = k) : MT (.rel n ks) (selMade (nodeK k) (selMade grpNode l)) := by
 obtain ⟨Ts, rfl, e⟩ := h
 refine ⟨.mk (nodeK k) [.mk grpNode Ts], by simp [ST.flat, ST.flats, selMade], ?_⟩
 rw [treeOf, ST.norm, ST.norm]
 simp only [ST.norms, ST.norm, e, nodeOf, hk, nodeK]
theorem MT.leaf {x : CSel} (y : SelD) (h : dataOf x = sizedD y []) (e : nodeOf x = y) (k : treeOf x = .mk (nodeOf x) []) : MT x (selMade y []) := by
 refine ⟨.mk y [], by simp [ST.flat, ST.flats, selMade], ?_⟩
 rw [k, e]
end
end Go.Proofs.YtengepcafdnalaaGreatDoor
