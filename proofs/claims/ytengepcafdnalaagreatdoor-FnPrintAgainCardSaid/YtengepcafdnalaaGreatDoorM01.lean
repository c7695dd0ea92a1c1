/-
  Parts of the proof that the law FnPrintAgain holds for every input (texts Pa, Pb, Pd). Conditions: none.
-/
import GoSem.Core.Utf8
namespace Go.Proofs.YtengepcafdnalaaGreatDoor
open _root_.List renaming replicate → zG, length_cons → ze, length_nil → zf
open _root_.Nat renaming le_refl → zq
section
abbrev Bs := List UInt8
structure SelD where
 kind : Int
 op : Int
 key : List UInt8
 val : List UInt8
 a : Int
 b : Int
 flag : Int
 size : Int
instance : Inhabited SelD := ⟨⟨0, 0, [], [], 0, 0, 0, 0⟩⟩
inductive CSel where
 | tag (k : List UInt8)
 | cls (v : List UInt8)
 | idn (v : List UInt8)
 | attr (key val op : List UInt8) (ins : Bool)
 | nth (a b : Int) (last ofType : Bool)
 | only (ofType : Bool)
 | empty | root | input | link | enabled | disabled | checked
 | lang (v : List UInt8)
 | contains (v : List UInt8) (own : Bool)
 | never (v : List UInt8)
 | rel (name : List UInt8) (kids : List CSel)
 | compound (kids : List CSel) (pe : List UInt8)
 | combined (f : CSel) (c : UInt8) (s : CSel)
instance : Inhabited CSel := ⟨.empty⟩
def bat (s : Bs) (i : Nat) : Nat := (s.getD i 0).toNat
def Q3 (c : Nat) : Bool := (decide (48 <= c) && decide (c <= 57)) || (decide (97 <= c) && decide (c <= 102)) || (decide (65 <= c) && decide (c <= 70))
def QA (c : Nat) : Bool := (decide (97 <= c) && decide (c <= 122)) || (decide (65 <= c) && decide (c <= 90)) || decide (c = 95) || decide (127 < c)
def QG (c : Nat) : Bool := QA c || decide (c = 45) || (decide (48 <= c) && decide (c <= 57))
def VM (c : Nat) : Bool := decide (c = 32) || decide (c = 9) || decide (c = 13) || decide (c = 10) || decide (c = 12)
def YN (c : Nat) : Bool := decide (c = 13) || decide (c = 10) || decide (c = 12)
def Qw (c : Nat) : Bool := decide (48 <= c) && decide (c <= 57)
def Yr (c : Nat) : Nat := if c <= 57 then c - 48 else if c <= 70 then c - 55 else c - 87
def VB (l : Bs) : Nat := l.foldl (fun n c => 16 * n + Yr c.toNat) 0
def VN (s : Bs) : Nat -> Nat -> Nat
 | 0, i => i
 | k + 1, i => if i < s.length /\ Q3 (bat s i) = true then VN s k (i + 1) else i
def Vy (s : Bs) (i : Nat) : Nat :=
 if i < s.length then
  if bat s i = 13 then (if i + 1 < s.length /\ bat s (i + 1) = 10 then i + 2 else i + 1)
  else if VM (bat s i) = true then i + 1 else i
 else i
def YL (n : Int) : List UInt8 := (Utf8.encode n).data.toList
def ZL (s : Bs) (i : Nat) : Option (Bs × Nat) :=
 if s.length < i + 2 \/ bat s i ≠ 92 then none
 else if YN (bat s (i + 1)) = true then none
 else if Q3 (bat s (i + 1)) = true then
  some (YL (VB ((s.take (VN s 6 (i + 1))).drop (i + 1))), Vy s (VN s 6 (i + 1)))
 else some ([s.getD (i + 1) 0], i + 2)
theorem QeU (s : Bs) : ∀ k i, i <= VN s k i
 | 0, i => zq _
 | k + 1, i => by
  unfold VN
  split
  exact Nat.le_trans (Nat.le_succ i) (QeU s k (i + 1))
  exact zq _
theorem QeT (s : Bs) : ∀ k i, i <= s.length -> VN s k i <= s.length
 | 0, i, h => h
 | k + 1, i, h => by
  unfold VN
  split
  rename_i h1; exact QeT s k (i + 1) h1.1
  exact h
theorem QeS (s : Bs) (k i : Nat) (h : i < s.length) (hd : Q3 (bat s i) = true) : i + 1 <= VN s (k + 1) i := by
 unfold VN; rw [if_pos ⟨h, hd⟩]; exact QeU s k (i + 1)
theorem Qis (s : Bs) (i : Nat) : i <= Vy s i := by
 unfold Vy; repeat' split
 all_goals omega
theorem Qir (s : Bs) (i : Nat) (h : i <= s.length) : Vy s i <= s.length := by
 unfold Vy
 repeat' split
 all_goals (first | omega | (rename_i h1 h2; have := h2.1; omega) | skip)
theorem J0 {s : Bs} {i : Nat} {r : Bs} {j : Nat} (h : ZL s i = some (r, j)) : i + 2 <= j /\ j <= s.length /\ i + 1 < s.length /\ bat s i = 92 := by
 unfold ZL at h
 split at h
 cases h
 rename_i h0
 simp only [not_or, Decidable.not_not] at h0
 split at h
 cases h
 split at h
 rename_i hd
 simp only [Option.some.injEq, Prod.mk.injEq] at h
 obtain ⟨_, rfl⟩ := h
 have h1 : i + 1 + 1 <= VN s 6 (i + 1) := QeS s 5 (i + 1) (by omega) hd
 have h2 := QeT s 6 (i + 1) (by omega)
 have h3 := Qis s (VN s 6 (i + 1))
 have h4 := Qir s (VN s 6 (i + 1)) h2
 exact ⟨by omega, h4, by omega, h0.2⟩
 simp only [Option.some.injEq, Prod.mk.injEq] at h
 obtain ⟨_, rfl⟩ := h
 exact ⟨by omega, by omega, by omega, h0.2⟩
def Vl (s : Bs) (i : Nat) (acc : Bs) : Option (Bs × Nat) :=
 if i < s.length then
  if QG (bat s i) = true then Vl s (i + 1) (acc ++ [s.getD i 0])
  else if bat s i = 92 then
   match h : ZL s i with
   | none => none
   | some (v, j) => Vl s j (acc ++ v)
  else some (acc, i)
 else some (acc, i)
 termination_by s.length - i
 decreasing_by
  . omega
  have := J0 h; omega
def V1 (s : Bs) (i : Nat) : Option (Bs × Nat) :=
 match Vl s i [] with
 | some ([], _) => none
 | r => r
def Yg (s : Bs) (i : Nat) : Nat :=
 if i < s.length /\ bat s i = 45 then Yg s (i + 1) else i
 termination_by s.length - i
def QM (s : Bs) (i : Nat) : Option (Bs × Nat) :=
 if Yg s i < s.length /\ (QA (bat s (Yg s i)) = true \/ bat s (Yg s i) = 92) then
  match V1 s (Yg s i) with
  | none => none
  | some (r, j) => some (zG (Yg s i - i) 45 ++ r, j)
 else none
def VI (s : Bs) (q i : Nat) (acc : Bs) : Option (Bs × Nat) :=
 if i < s.length then
  if bat s i = 92 then
   if i + 1 < s.length /\ bat s (i + 1) = 13 then
    (if i + 2 < s.length /\ bat s (i + 2) = 10 then VI s q (i + 3) acc else VI s q (i + 2) acc)
   else if i + 1 < s.length /\ (bat s (i + 1) = 10 \/ bat s (i + 1) = 12) then VI s q (i + 2) acc
   else match h : ZL s i with
    | none => none
    | some (v, j) => VI s q j (acc ++ v)
  else if bat s i = q then some (acc, i + 1)
  else if YN (bat s i) = true then none
  else VI s q (i + 1) (acc ++ [s.getD i 0])
 else none
 termination_by s.length - i
 decreasing_by
  all_goals (first | omega | (have := J0 h; omega))
def Jk (s : Bs) (i : Nat) : Option (Bs × Nat) :=
 if s.length < i + 2 then none else VI s (bat s i) (i + 1) []
def Zy (s : Bs) (i : Nat) : Option Nat :=
 if i + 2 <= s.length then
  if bat s i = 42 /\ bat s (i + 1) = 47 then some (i + 2) else Zy s (i + 1)
 else none
 termination_by s.length - i
theorem JF (s : Bs) (i : Nat) {j : Nat} (h : Zy s i = some j) : i + 2 <= j /\ j <= s.length := by
 fun_induction Zy s i with
 | case1 i h1 h2 => simp at h; omega
 | case2 i h1 h2 ih => have := ih h; omega
 | case3 i h1 => cases h
def iWs (s : Bs) (i : Nat) : Nat :=
 if i < s.length then
  if VM (bat s i) = true then iWs s (i + 1)
  else if i + 2 <= s.length /\ bat s i = 47 /\ bat s (i + 1) = 42 then
   match h : Zy s (i + 2) with
   | some j => iWs s j
   | none => i
  else i
 else i
 termination_by s.length - i
 decreasing_by
  . omega
  have := JF _ _ h; omega
theorem VA (s : Bs) (i : Nat) : i <= iWs s i := by
 fun_induction iWs s i with
 | case1 i h1 h2 ih => omega
 | case2 i h1 h2 h3 j hj ih => have := JF _ _ hj; omega
 | case3 => omega
 | case4 => omega
 | case5 => omega
theorem Vm (s : Bs) (i : Nat) (h : i <= s.length) : iWs s i <= s.length := by
 fun_induction iWs s i with
 | case1 i h1 h2 ih => exact ih (by omega)
 | case2 i h1 h2 h3 j hj ih => exact ih (JF _ _ hj).2
 | case3 => omega
 | case4 => omega
 | case5 => omega
def UX (c : UInt8) : UInt8 := if 65 <= c.toNat /\ c.toNat <= 90 then c + 32 else c
def low (l : Bs) : Bs := l.map UX
def Vx (s : Bs) (i : Nat) : Option Nat := if i < s.length /\ bat s i = 40 then some (iWs s (i + 1)) else none
def QV (s : Bs) (i : Nat) : Option Nat := if iWs s i < s.length /\ bat s (iWs s i) = 41 then some (iWs s i + 1) else none
def elNames : List Bs := [[97, 102, 116, 101, 114], [98, 97, 99, 107, 100, 114, 111, 112], [98, 101, 102, 111, 114, 101], [99, 117, 101], [102, 105, 114, 115, 116, 45, 108, 101, 116, 116, 101, 114], [102, 105, 114, 115, 116, 45, 108, 105, 110, 101], [103, 114, 97, 109, 109, 97, 114, 45, 101, 114, 114, 111, 114], [109, 97, 114, 107, 101, 114], [112, 108, 97, 99, 101, 104, 111, 108, 100, 101, 114], [115, 101, 108, 101, 99, 116, 105, 111, 110], [115, 112, 101, 108, 108, 105, 110, 103, 45, 101, 114, 114, 111, 114]]
def attrSigns : List Bs := [[61], [33, 61], [126, 61], [124, 61], [94, 61], [36, 61], [42, 61]]
def ZX (s : Bs) (i : Nat) : Option (CSel × Nat) :=
 match QM s (iWs s (i + 1)) with
 | none => none
 | some (key, j) =>
  if iWs s j < s.length then
   if bat s (iWs s j) = 93 then some (.attr (low key) [] [] false, iWs s j + 1)
   else if iWs s j + 2 < s.length /\ (bat s (iWs s j) = 61 \/ bat s (iWs s j + 1) = 61) then
    iAttrV s (low key) (if bat s (iWs s j) = 61 then [61] else [s.getD (iWs s j) 0, s.getD (iWs s j + 1) 0])
     (iWs s (iWs s j + (if bat s (iWs s j) = 61 then 1 else 2)))
   else none
  else none
where
 iAttrV (s key op : Bs) (k : Nat) : Option (CSel × Nat) :=
  if k < s.length then
   match (if bat s k = 39 \/ bat s k = 34 then Jk s k else QM s k) with
   | none => none
   | some (val, m) =>
    if iWs s m < s.length then
     iAttrE s key op val (decide (bat s (iWs s m) = 105 \/ bat s (iWs s m) = 73))
      (iWs s (if bat s (iWs s m) = 105 \/ bat s (iWs s m) = 73 then iWs s m + 1 else iWs s m))
    else none
  else none
 iAttrE (s key op val : Bs) (ign : Bool) (m : Nat) : Option (CSel × Nat) :=
  if m < s.length /\ bat s m = 93 /\ op ∈ attrSigns then some (.attr key val op ign, m + 1) else none
def Yx (l : Bs) : Nat := l.foldl (fun n c => 10 * n + (c.toNat - 48)) 0
def V9 (s : Bs) (i : Nat) : Nat :=
 if i < s.length /\ Qw (bat s i) = true then V9 s (i + 1) else i
 termination_by s.length - i
def Qdw (s : Bs) (i : Nat) : Option (Int × Nat) :=
 if V9 s i = i then none
 else if Yx ((s.take (V9 s i)).drop i) <= 9223372036854775807 then some ((Yx ((s.take (V9 s i)).drop i) : Nat), V9 s i) else none
def isN (c : Nat) : Bool := decide (c = 110) || decide (c = 78)
def Y8 (s : Bs) (a : Int) (i : Nat) : Option (Int × Int × Nat) :=
 if iWs s i < s.length then
  if bat s (iWs s i) = 43 then (Qdw s (iWs s (iWs s i + 1))).map fun p => (a, p.1, p.2)
  else if bat s (iWs s i) = 45 then (Qdw s (iWs s (iWs s i + 1))).map fun p => (a, 0 - p.1, p.2)
  else some (a, 0, iWs s i)
 else none
def Zv (s : Bs) (a : Int) (i : Nat) : Option (Int × Int × Nat) :=
 if i < s.length then
  if isN (bat s i) = true then Y8 s a (i + 1) else some (0, a, i)
 else none
def V0 (s : Bs) (i : Nat) : Option (Int × Int × Nat) :=
 if i < s.length then
  if Qw (bat s i) = true then (Qdw s i).bind fun p => Zv s p.1 p.2
  else if isN (bat s i) = true then Y8 s 1 (i + 1)
  else none
 else none
def V4 (s : Bs) (i : Nat) : Option (Int × Int × Nat) :=
 if i < s.length then
  if Qw (bat s i) = true then (Qdw s i).bind fun p => Zv s (0 - p.1) p.2
  else if isN (bat s i) = true then Y8 s (-1) (i + 1)
  else none
 else none
def ZU (c : Nat) : Bool := decide (c = 111) || decide (c = 79) || decide (c = 101) || decide (c = 69)
def VU (s : Bs) (i : Nat) : Option (Int × Int × Nat) :=
 if i < s.length then
  if bat s i = 45 then V4 s (i + 1)
  else if bat s i = 43 then V0 s (i + 1)
  else if Qw (bat s i) = true then V0 s i
  else if isN (bat s i) = true then Y8 s 1 (i + 1)
  else if ZU (bat s i) = true then
   match V1 s i with
   | none => none
   | some (w, j) => if low w = [111, 100, 100] then some (2, 1, j) else if low w = [101, 118, 101, 110] then some (2, 0, j) else none
  else none
 else none
def J2 (G : Nat -> Option (List CSel × Nat)) (s : Bs) (name : Bs) (i : Nat) : Option (CSel × Nat) :=
 match Vx s i with
 | none => none
 | some k => match G k with
  | none => none
  | some (l, m) => (QV s m).map fun e => (.rel name l, e)
def ZY (s : Bs) (own : Bool) (i : Nat) : Option (CSel × Nat) :=
 match Vx s i with
 | none => none
 | some k => if k < s.length then
  match (if bat s k = 39 \/ bat s k = 34 then Jk s k else QM s k) with
  | none => none
  | some (v, m) => (QV s m).map fun e => (.contains (low v) own, e)
  else none
def JD (s : Bs) (last ofType : Bool) (i : Nat) : Option (CSel × Nat) :=
 match Vx s i with
 | none => none
 | some k => match VU s k with
  | none => none
  | some (a, b, m) => (QV s m).map fun e => (.nth a b last ofType, e)
def Jl (s : Bs) (i : Nat) : Option (CSel × Nat) :=
 match Vx s i with
 | none => none
 | some k => if k < s.length then
  match QM s k with
  | none => none
  | some (v, m) => (QV s m).map fun e => (.lang (low v), e)
  else none
def Jv : Bs := [110, 111, 116]
def Jw : Bs := [104, 97, 115]
def nHasChild : Bs := [104, 97, 115, 99, 104, 105, 108, 100]
def Q9 : Bs := [99, 111, 110, 116, 97, 105, 110, 115]
def QH : Bs := [99, 111, 110, 116, 97, 105, 110, 115, 111, 119, 110]
def VH : Bs := [110, 116, 104, 45, 99, 104, 105, 108, 100]
def QP : Bs := [110, 116, 104, 45, 108, 97, 115, 116, 45, 99, 104, 105, 108, 100]
def VL : Bs := [110, 116, 104, 45, 111, 102, 45, 116, 121, 112, 101]
def QW : Bs := [110, 116, 104, 45, 108, 97, 115, 116, 45, 111, 102, 45, 116, 121, 112, 101]
def YF : Bs := [108, 97, 110, 103]
def Qdj : List Bs := [[118, 105, 115, 105, 116, 101, 100], [104, 111, 118, 101, 114], [97, 99, 116, 105, 118, 101], [102, 111, 99, 117, 115], [116, 97, 114, 103, 101, 116]]
def QfG (n : Bs) : Option CSel :=
 if n = [102, 105, 114, 115, 116, 45, 99, 104, 105, 108, 100] then some (.nth 0 1 false false)
 else if n = [108, 97, 115, 116, 45, 99, 104, 105, 108, 100] then some (.nth 0 1 true false)
 else if n = [102, 105, 114, 115, 116, 45, 111, 102, 45, 116, 121, 112, 101] then some (.nth 0 1 false true)
 else if n = [108, 97, 115, 116, 45, 111, 102, 45, 116, 121, 112, 101] then some (.nth 0 1 true true)
 else if n = [111, 110, 108, 121, 45, 99, 104, 105, 108, 100] then some (.only false)
 else if n = [111, 110, 108, 121, 45, 111, 102, 45, 116, 121, 112, 101] then some (.only true)
 else if n = [105, 110, 112, 117, 116] then some (.input)
 else if n = [101, 109, 112, 116, 121] then some (.empty)
 else if n = [114, 111, 111, 116] then some (.root)
 else if n = [108, 105, 110, 107] then some (.link)
 else if n = [101, 110, 97, 98, 108, 101, 100] then some (.enabled)
 else if n = [100, 105, 115, 97, 98, 108, 101, 100] then some (.disabled)
 else if n = [99, 104, 101, 99, 107, 101, 100] then some (.checked)
 else if n ∈ Qdj then some (.never (58 :: n))
 else none
def Y9 (G : Nat -> Option (List CSel × Nat)) (s : Bs) (n : Bs) (j : Nat) : Option (Option CSel × Bs × Nat) :=
 if n = Jv \/ n = Jw \/ n = nHasChild then (J2 G s n j).map fun p => (some p.1, [], p.2)
 else if n = Q9 \/ n = QH then (ZY s (decide (n = QH)) j).map fun p => (some p.1, [], p.2)
 else if n = VH \/ n = QP \/ n = VL \/ n = QW then
  (JD s (decide (n = QP \/ n = QW)) (decide (n = VL \/ n = QW)) j).map fun p => (some p.1, [], p.2)
 else if n = YF then (Jl s j).map fun p => (some p.1, [], p.2)
 else match QfG n with
  | some x => some (some x, [], j)
  | none => if n ∈ elNames then some (none, n, j) else none
def iPs (G : Nat -> Option (List CSel × Nat)) (s : Bs) (i : Nat) : Option (Option CSel × Bs × Nat) :=
 if i + 1 < s.length then
  match QM s (if bat s (i + 1) = 58 then i + 2 else i + 1) with
  | none => none
  | some (n, j) => if bat s (i + 1) = 58 /\ low n ∉ elNames then none else Y9 G s (low n) j
 else none
def Vo (G : Nat -> Option (List CSel × Nat)) (s : Bs) (i : Nat) : Option (Option CSel × Bs × Nat) :=
 if bat s i = 35 then (V1 s (i + 1)).map fun p => (some (.idn p.1), [], p.2)
 else if bat s i = 46 then (QM s (i + 1)).map fun p => (some (.cls p.1), [], p.2)
 else if bat s i = 91 then (ZX s i).map fun p => (some p.1, [], p.2)
 else iPs G s i
def Q0 (c : Nat) : Bool := decide (c = 35) || decide (c = 46) || decide (c = 91) || decide (c = 58)
def Vp (l : List CSel) (pe : Bs) : CSel :=
 match l, pe with
 | [x], [] => x
 | l, pe => .compound l pe
def Vn (G : Nat -> Option (List CSel × Nat)) (s : Bs) (acc : Bool) (i : Nat) (l : List CSel) (pe : Bs) : Option (CSel × Nat) :=
 if i < s.length /\ Q0 (bat s i) = true then
  match Vo G s i with
  | none => none
  | some (x, n, j) =>
   if i < j then
    match x with
    | none => if pe = [] /\ acc = true then Vn G s acc j l n else none
    | some x => if pe = [] then Vn G s acc j (l ++ [x]) pe else none
   else none
 else some (Vp l pe, i)
 termination_by s.length - i
def YK (G : Nat -> Option (List CSel × Nat)) (s : Bs) (acc : Bool) (i : Nat) : Option (CSel × Nat) :=
 if i < s.length then
  if bat s i = 42 then Vn G s acc (if i + 3 < s.length /\ bat s (i + 1) = 124 /\ bat s (i + 2) = 42 then i + 3 else i + 1) [] []
  else if Q0 (bat s i) = true then Vn G s acc i [] []
  else match QM s i with
   | none => none
   | some (t, j) => Vn G s acc j [.tag (low t)] []
 else none
def Vh (c : Nat) : Bool := decide (c = 43) || decide (c = 62) || decide (c = 126)
def VE (G : Nat -> Option (List CSel × Nat)) (s : Bs) (acc : Bool) (x : CSel) (j : Nat) : Option (CSel × Nat) :=
 if iWs s j < s.length then
  if Vh (bat s (iWs s j)) = true then
   match YK G s acc (iWs s (iWs s j + 1)) with
   | none => none
   | some (y, m) => if j < m then VE G s acc (.combined x (s.getD (iWs s j) 0) y) m else none
  else if bat s (iWs s j) = 44 \/ bat s (iWs s j) = 41 \/ iWs s j = j then some (x, iWs s j)
  else match YK G s acc (iWs s j) with
   | none => none
   | some (y, m) => if j < m then VE G s acc (.combined x 32 y) m else none
 else some (x, iWs s j)
 termination_by s.length - j
 decreasing_by all_goals (have := VA s j; omega)
def Zk (G : Nat -> Option (List CSel × Nat)) (s : Bs) (acc : Bool) (i : Nat) : Option (CSel × Nat) :=
 match YK G s acc (iWs s i) with
 | none => none
 | some (x, j) => VE G s acc x j
def YC (G : Nat -> Option (List CSel × Nat)) (s : Bs) (acc : Bool) (l : List CSel) (j : Nat) : Option (List CSel × Nat) :=
 if j < s.length /\ bat s j = 44 then
  match Zk G s acc (j + 1) with
  | none => none
  | some (y, m) => if j < m then YC G s acc (l ++ [y]) m else none
 else some (l, j)
 termination_by s.length - j
def QD (s : Bs) (acc : Bool) : Nat -> Nat -> Option (List CSel × Nat)
 | 0, _ => none
 | k + 1, i => match Zk (QD s acc k) s acc i with
  | none => none
  | some (x, j) => YC (QD s acc k) s acc [x] j
def Q2 (s : Bs) (many pseudo : Bool) : Option (List CSel) :=
 if many = true then
  match QD s pseudo 1001 0 with
  | some (l, j) => if j < s.length then none else some l
  | none => none
 else
  match Zk (QD s pseudo 1001) s pseudo 0 with
  | some (x, j) => if j < s.length then none else some [x]
  | none => none
def b2i (b : Bool) (n : Int) : Int := if b = true then n else 0
def ZS (l : List Bs) (x : Bs) : Int := if l.idxOf x < l.length then (l.idxOf x : Nat) + 1 else 0
def VD : CSel -> SelD
 | .tag k => ⟨2, 0, k, [], 0, 0, 0, 0⟩
 | .cls v => ⟨3, 0, [], v, 0, 0, 0, 0⟩
 | .idn v => ⟨4, 0, [], v, 0, 0, 0, 0⟩
 | .attr k v o i => ⟨5, ZS ([] :: attrSigns) o, k, v, 0, 0, b2i i 1, 0⟩
 | .nth a b l t => ⟨6, 0, [], [], a, b, b2i l 1 + b2i t 2, 0⟩
 | .only t => ⟨7, 0, [], [], 0, 0, b2i t 2, 0⟩
 | .empty => ⟨8, 0, [], [], 0, 0, 0, 0⟩
 | .root => ⟨9, 0, [], [], 0, 0, 0, 0⟩
 | .input => ⟨10, 0, [], [], 0, 0, 0, 0⟩
 | .link => ⟨11, 0, [], [], 0, 0, 0, 0⟩
 | .enabled => ⟨12, 0, [], [], 0, 0, 0, 0⟩
 | .disabled => ⟨13, 0, [], [], 0, 0, 0, 0⟩
 | .checked => ⟨14, 0, [], [], 0, 0, 0, 0⟩
 | .lang v => ⟨15, 0, [], v, 0, 0, 0, 0⟩
 | .contains v o => ⟨16 + b2i o 1, 0, [], v, 0, 0, 0, 0⟩
 | .never v => ⟨24, 0, [], v, 0, 0, 0, 0⟩
 | .rel n _ => ⟨17 + ZS [Jv, Jw, nHasChild] n, 0, [], [], 0, 0, 0, 0⟩
 | .compound _ pe => ⟨21, 0, [], pe, 0, 0, 0, 0⟩
 | .combined _ c _ => ⟨22, ZS [[32], [62], [43], [126]] (YL c.toNat), [], [], 0, 0, 0, 0⟩
def QT (x : SelD) (l : List SelD) : List SelD := { x with size := (l.length : Nat) + 1 } :: l
def Yd : SelD := ⟨23, 0, [], [], 0, 0, 0, 0⟩
mutual
def QJ : CSel -> List SelD
 | .rel n ks => QT (VD (.rel n ks)) (QT Yd (Ve ks))
 | .compound ks pe => QT (VD (.compound ks pe)) (Ve ks)
 | .combined f c s => QT (VD (.combined f c s)) (QJ f ++ QJ s)
 | x => QT (VD x) []
def Ve : List CSel -> List SelD
 | [] => []
 | x :: l => QJ x ++ Ve l
end
def Yl (many : Bool) (l : List CSel) : List SelD :=
 if many = true then QT Yd (Ve l) else QJ (l.headD default)
end
section
structure RS where
 p : Nat
 bad : Bool
 un : Bool
def RS.go (t : RS) (p : Nat) : RS := { t with p := p }
def RS.no (t : RS) : RS := { t with bad := true }
def YE (x : SelD) (kids : List SelD) : List SelD := QT x kids
def Qna (k : Int) : SelD := ⟨k, 0, [], [], 0, 0, 0, 0⟩
def escF (s : Bs) (i : Nat) : Bool := decide (i + 1 < s.length) && decide (bat s i = 92) && !YN (bat s (i + 1))
def nmAt (s : Bs) (i : Nat) : Nat := if i < s.length /\ bat s i = 45 then i + 1 else i
def Qnb (s : Bs) (i : Nat) : Bool := (decide (nmAt s i < s.length) && QA (bat s (nmAt s i))) || escF s (nmAt s i)
def nmUn (s : Bs) (i : Nat) : Bool := decide (i < s.length /\ bat s i = 45 /\ i + 1 < s.length /\ bat s (i + 1) = 45)
def Vz (b : Nat) : Nat × Nat × Nat :=
 if 194 <= b /\ b < 224 then (b - 192, 2, 128) else if 224 <= b /\ b < 240 then (b - 224, 3, 2048) else if 240 <= b /\ b < 245 then (b - 240, 4, 65536) else (0, 0, 0)
def VV (s : Bs) : Nat -> Nat -> Nat -> Option Nat
 | 0, _, c => some c
 | k + 1, i, c => if bat s i < 128 \/ 191 < bat s i then none else VV s k (i + 1) (c * 64 + bat s i - 128)
def Ql (s : Bs) (i : Nat) : Nat × Nat :=
 if bat s i < 128 then (bat s i, 1)
 else
  if (Vz (bat s i)).2.1 = 0 \/ s.length < i + (Vz (bat s i)).2.1 then (0, 0)
  else match VV s ((Vz (bat s i)).2.1 - 1) (i + 1) (Vz (bat s i)).1 with
   | none => (0, 0)
   | some c => if c < (Vz (bat s i)).2.2 \/ 1114111 < c \/ (55296 <= c /\ c < 57344) then (0, 0) else (c, (Vz (bat s i)).2.1)
def QE (s : Bs) (i : Nat) : Bool :=
 if i < s.length then
  if h : (Ql s i).2 = 0 \/ (Ql s i).1 = 0 \/ (Ql s i).1 = 65279 then false else QE s (i + (Ql s i).2)
 else true
 termination_by s.length - i
 decreasing_by simp only [not_or] at h; omega
def QqJ (s : Bs) (i : Nat) : Int × Nat :=
 if bat s i = 61 then (2, 1)
 else if bat s (i + 1) = 61 then
  (if bat s i = 33 then (3, 2) else if bat s i = 126 then (4, 2) else if bat s i = 124 then (5, 2) else if bat s i = 94 then (6, 2) else if bat s i = 36 then (7, 2) else if bat s i = 42 then (8, 2) else (1, 0))
 else (1, 0)
end
section
inductive ST where
 | mk (x : SelD) (ks : List ST)
mutual
def ST.flat : ST -> List SelD
 | .mk x ks => QT x (ST.flats ks)
def ST.flats : List ST -> List SelD
 | [] => []
 | t :: l => t.flat ++ ST.flats l
end
def ST.node : ST -> SelD
 | .mk x _ => x
def Qoy : SelD := ⟨1, 0, [], [], 0, 0, 0, 0⟩
def QbG (t : ST) : Bool := decide (t.node.kind = 1)
def JN (x : SelD) (ks : List ST) : ST :=
 if x.kind = 21 /\ x.val = [] then
  match ks with
  | [] => .mk Qoy []
  | [k] => k
  | ks => .mk x ks
 else .mk x ks
def Y7 (x : SelD) (ks : List ST) : List ST := if x.kind = 21 then ks.filter (fun t => !QbG t) else ks
mutual
def ST.norm : ST -> ST
 | .mk x ks => JN x (Y7 x (ST.norms ks))
def ST.norms : List ST -> List ST
 | [] => []
 | t :: l => t.norm :: ST.norms l
end
mutual
def QS : CSel -> ST
 | .rel n ks => .mk (VD (.rel n ks)) [.mk Yd (Q1 ks)]
 | .compound ks pe => .mk (VD (.compound ks pe)) (Q1 ks)
 | .combined f c s => .mk (VD (.combined f c s)) [QS f, QS s]
 | x => .mk (VD x) []
def Q1 : List CSel -> List ST
 | [] => []
 | x :: l => QS x :: Q1 l
end
theorem Qbo : ∀ a b, ST.flats (a ++ b) = ST.flats a ++ ST.flats b
 | [], b => by simp [ST.flats]
 | t :: a, b => by simp [ST.flats, Qbo a b]
theorem Uj : ∀ a b, ST.norms (a ++ b) = ST.norms a ++ ST.norms b
 | [], b => by simp [ST.norms]
 | t :: a, b => by simp [ST.norms, Uj a b]
theorem UI : ∀ a b, Q1 (a ++ b) = Q1 a ++ Q1 b
 | [], b => by simp [Q1]
 | t :: a, b => by simp [Q1, UI a b]
mutual
theorem U4 : ∀ x, (QS x).flat = QJ x
 | .rel n ks => by simp [QS, ST.flat, ST.flats, QJ, ZC ks]
 | .compound ks pe => by simp [QS, ST.flat, QJ, ZC ks]
 | .combined f c s => by simp [QS, ST.flat, ST.flats, QJ, U4 f, U4 s]
 | .tag k => by simp [QS, ST.flat, ST.flats, QJ]
 | .cls v => by simp [QS, ST.flat, ST.flats, QJ]
 | .idn v => by simp [QS, ST.flat, ST.flats, QJ]
 | .attr a b c d => by simp [QS, ST.flat, ST.flats, QJ]
 | .nth a b c d => by simp [QS, ST.flat, ST.flats, QJ]
 | .only a => by simp [QS, ST.flat, ST.flats, QJ]
 | .empty => by simp [QS, ST.flat, ST.flats, QJ]
 | .root => by simp [QS, ST.flat, ST.flats, QJ]
 | .input => by simp [QS, ST.flat, ST.flats, QJ]
 | .link => by simp [QS, ST.flat, ST.flats, QJ]
 | .enabled => by simp [QS, ST.flat, ST.flats, QJ]
 | .disabled => by simp [QS, ST.flat, ST.flats, QJ]
 | .checked => by simp [QS, ST.flat, ST.flats, QJ]
 | .lang a => by simp [QS, ST.flat, ST.flats, QJ]
 | .contains a b => by simp [QS, ST.flat, ST.flats, QJ]
 | .never a => by simp [QS, ST.flat, ST.flats, QJ]
theorem ZC : ∀ l, ST.flats (Q1 l) = Ve l
 | [] => by simp [Q1, ST.flats, Ve]
 | x :: l => by simp [Q1, ST.flats, Ve, U4 x, ZC l]
end
def MT (x : CSel) (l : List SelD) : Prop := ∃ T : ST, l = T.flat /\ T.norm = (QS x).norm
def MTs (xs : List CSel) (l : List SelD) : Prop := ∃ Ts : List ST, l = ST.flats Ts /\ ST.norms Ts = ST.norms (Q1 xs)
def Smp : CSel -> Prop
 | .compound _ _ => False
 | _ => True
theorem sign3 (n : Bs) : (17 + ZS [Jv, Jw, nHasChild] n ≠ 1) /\ (17 + ZS [Jv, Jw, nHasChild] n ≠ 21) /\ (17 + ZS [Jv, Jw, nHasChild] n ≠ 23) := by
 have h : 0 <= ZS [Jv, Jw, nHasChild] n /\ ZS [Jv, Jw, nHasChild] n <= 3 := by
  unfold ZS
  split
  rename_i h
  simp only [ze, zf] at h
  omega
  omega
 omega
theorem Qlm (x : CSel) : (VD x).kind ≠ 1 /\ (Smp x -> (VD x).kind ≠ 21) /\ (VD x).kind ≠ 23 := by
 cases x <;> simp [VD, Smp]
 rename_i v o; cases o <;> simp [b2i]
 rename_i n ks; exact sign3 n
theorem QkU (x : CSel) : ∃ ks, QS x = .mk (VD x) ks := by
 cases x <;> simp [QS]
theorem QgL {x : CSel} (h : Smp x) : QbG (QS x).norm = false := by
 obtain ⟨ks, e⟩ := QkU x
 obtain ⟨h1, h2, _⟩ := Qlm x
 have h3 := h2 h
 rw [e, ST.norm]; unfold JN; rw [if_neg (fun h => h3 h.1)]
 simp [QbG, ST.node, h1]
theorem QeM {x : SelD} : ∀ {l : List CSel}, (∀ y ∈ l, Smp y) -> Y7 x (ST.norms (Q1 l)) = ST.norms (Q1 l) := by
 intro l h
 unfold Y7
 split
 . induction l with
   | nil => simp [Q1, ST.norms]
   | cons y l ih =>
    rw [Q1, ST.norms, List.filter_cons_of_pos (by simp [QgL (h y (by simp))]), ih (fun z hz => h z (by simp [hz]))]
 rfl
theorem MTs.nil : MTs [] [] := ⟨[], by simp [ST.flats], by simp [Q1]⟩
theorem MTs.snoc {xs : List CSel} {l : List SelD} {x : CSel} {m : List SelD} (h : MTs xs l) (k : MT x m) : MTs (xs ++ [x]) (l ++ m) := by
 obtain ⟨Ts, rfl, e⟩ := h
 obtain ⟨T, rfl, e'⟩ := k
 exact ⟨Ts ++ [T], by rw [Qbo]; simp [ST.flats], by rw [Uj, UI, Uj, e]; simp [ST.norms, Q1, e']⟩
theorem MTs.one {x : CSel} {m : List SelD} (k : MT x m) : MTs [x] m := by simpa using MTs.snoc MTs.nil k
theorem MTs.seq {xs : List CSel} {l : List SelD} (pe : Bs) (hs : ∀ y ∈ xs, Smp y) (h : MTs xs l) : MT (Vp xs pe) (YE ⟨21, 0, [], pe, 0, 0, 0, 0⟩ l) := by
 obtain ⟨Ts, rfl, e⟩ := h
 refine ⟨.mk ⟨21, 0, [], pe, 0, 0, 0, 0⟩ Ts, by rw [ST.flat, YE], ?_⟩
 rw [ST.norm, e]
 have hc : (QS (.compound xs pe)).norm = JN ⟨21, 0, [], pe, 0, 0, 0, 0⟩ (Y7 ⟨21, 0, [], pe, 0, 0, 0, 0⟩ (ST.norms (Q1 xs))) := by
  rw [QS, ST.norm, VD]
 unfold Vp
 split
 rename_i x
 rw [QeM hs]
 simp [Q1, ST.norms, JN]
 exact hc.symm
theorem MT.comb {f s : CSel} {c : UInt8} {op : Int} {a b : List SelD} (hf : MT f a) (hs : MT s b) (ho : ZS [[32], [62], [43], [126]] (YL c.toNat) = op) :
 MT (.combined f c s) (YE ⟨22, op, [], [], 0, 0, 0, 0⟩ (a ++ b)) := by
 obtain ⟨A, rfl, ea⟩ := hf
 obtain ⟨B, rfl, eb⟩ := hs
 refine ⟨.mk ⟨22, op, [], [], 0, 0, 0, 0⟩ [A, B], by simp [ST.flat, ST.flats, YE], ?_⟩
 rw [QS, ST.norm, ST.norm]
 simp only [ST.norms, ea, eb, VD, ho]
theorem MT.rel {n : Bs} {ks : List CSel} {l : List SelD} {k : Int} (h : MTs ks l) (hk : 17 + ZS [Jv, Jw, nHasChild] n = k) : MT (.rel n ks) (YE (Qna k) (YE Yd l)) := by
 obtain ⟨Ts, rfl, e⟩ := h
 refine ⟨.mk (Qna k) [.mk Yd Ts], by simp [ST.flat, ST.flats, YE], ?_⟩
 rw [QS, ST.norm, ST.norm]
 simp only [ST.norms, ST.norm, e, VD, hk, Qna]
end
end Go.Proofs.YtengepcafdnalaaGreatDoor
