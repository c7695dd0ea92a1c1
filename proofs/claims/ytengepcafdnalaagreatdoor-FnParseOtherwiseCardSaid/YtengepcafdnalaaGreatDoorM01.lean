/-
  Parts of the proof that the law FnParseOtherwise holds for every input (texts Pa, Pb, Pd). Conditions: none.
-/
import GoSem.Core.Utf8
namespace Go.Proofs.YtengepcafdnalaaGreatDoor
section
abbrev Bs := List UInt8
structure SelD where
 kind : Int
 op : Int
 key : List UInt8
 val : List UInt8
 a : Int
 b : Int
 flag : Int
 size : Int
instance : Inhabited SelD := ⟨⟨0, 0, [], [], 0, 0, 0, 0⟩⟩
inductive CSel where
 | tag (k : List UInt8)
 | cls (v : List UInt8)
 | idn (v : List UInt8)
 | attr (key val op : List UInt8) (ins : Bool)
 | nth (a b : Int) (last ofType : Bool)
 | only (ofType : Bool)
 | empty | root | input | link | enabled | disabled | checked
 | lang (v : List UInt8)
 | contains (v : List UInt8) (own : Bool)
 | never (v : List UInt8)
 | rel (name : List UInt8) (kids : List CSel)
 | compound (kids : List CSel) (pe : List UInt8)
 | combined (f : CSel) (c : UInt8) (s : CSel)
instance : Inhabited CSel := ⟨.empty⟩
def bat (s : Bs) (i : Nat) : Nat := (s.getD i 0).toNat
def Q2 (c : Nat) : Bool := (decide (48 <= c) && decide (c <= 57)) || (decide (97 <= c) && decide (c <= 102)) || (decide (65 <= c) && decide (c <= 70))
def QE (c : Nat) : Bool := (decide (97 <= c) && decide (c <= 122)) || (decide (65 <= c) && decide (c <= 90)) || decide (c = 95) || decide (127 < c)
def QO (c : Nat) : Bool := QE c || decide (c = 45) || (decide (48 <= c) && decide (c <= 57))
def VM (c : Nat) : Bool := decide (c = 32) || decide (c = 9) || decide (c = 13) || decide (c = 10) || decide (c = 12)
def Y4 (c : Nat) : Bool := decide (c = 13) || decide (c = 10) || decide (c = 12)
def Qy (c : Nat) : Bool := decide (48 <= c) && decide (c <= 57)
def Yv (c : Nat) : Nat := if c <= 57 then c - 48 else if c <= 70 then c - 55 else c - 87
def VD (l : Bs) : Nat := l.foldl (fun n c => 16 * n + Yv c.toNat) 0
def VN (s : Bs) : Nat -> Nat -> Nat
 | 0, i => i
 | k + 1, i => if i < s.length /\ Q2 (bat s i) = true then VN s k (i + 1) else i
def Vy (s : Bs) (i : Nat) : Nat :=
 if i < s.length then
  if bat s i = 13 then (if i + 1 < s.length /\ bat s (i + 1) = 10 then i + 2 else i + 1)
  else if VM (bat s i) = true then i + 1 else i
 else i
def YZ (n : Int) : List UInt8 := (Utf8.encode n).data.toList
def ZQ (s : Bs) (i : Nat) : Option (Bs × Nat) :=
 if s.length < i + 2 \/ bat s i ≠ 92 then none
 else if Y4 (bat s (i + 1)) = true then none
 else if Q2 (bat s (i + 1)) = true then
  some (YZ (VD ((s.take (VN s 6 (i + 1))).drop (i + 1))), Vy s (VN s 6 (i + 1)))
 else some ([s.getD (i + 1) 0], i + 2)
theorem QeD (s : Bs) : ∀ k i, i <= VN s k i
 | 0, i => Nat.le_refl _
 | k + 1, i => by
  unfold VN
  split
  exact Nat.le_trans (Nat.le_succ i) (QeD s k (i + 1))
  exact Nat.le_refl _
theorem QeC (s : Bs) : ∀ k i, i <= s.length -> VN s k i <= s.length
 | 0, i, h => h
 | k + 1, i, h => by
  unfold VN
  split
  rename_i h1; exact QeC s k (i + 1) h1.1
  exact h
theorem QeB (s : Bs) (k i : Nat) (h : i < s.length) (hd : Q2 (bat s i) = true) : i + 1 <= VN s (k + 1) i := by
 unfold VN; rw [if_pos ⟨h, hd⟩]; exact QeD s k (i + 1)
theorem Qh2 (s : Bs) (i : Nat) : i <= Vy s i := by
 unfold Vy; repeat' split
 all_goals omega
theorem Qh1 (s : Bs) (i : Nat) (h : i <= s.length) : Vy s i <= s.length := by
 unfold Vy
 repeat' split
 all_goals (first | omega | (rename_i h1 h2; have := h2.1; omega) | skip)
theorem JU {s : Bs} {i : Nat} {r : Bs} {j : Nat} (h : ZQ s i = some (r, j)) : i + 2 <= j /\ j <= s.length /\ i + 1 < s.length /\ bat s i = 92 := by
 unfold ZQ at h
 split at h
 cases h
 rename_i h0
 simp only [not_or, Decidable.not_not] at h0
 split at h
 cases h
 split at h
 rename_i hd
 simp only [Option.some.injEq, Prod.mk.injEq] at h
 obtain ⟨_, rfl⟩ := h
 have h1 : i + 1 + 1 <= VN s 6 (i + 1) := QeB s 5 (i + 1) (by omega) hd
 have h2 := QeC s 6 (i + 1) (by omega)
 have h3 := Qh2 s (VN s 6 (i + 1))
 have h4 := Qh1 s (VN s 6 (i + 1)) h2
 exact ⟨by omega, h4, by omega, h0.2⟩
 simp only [Option.some.injEq, Prod.mk.injEq] at h
 obtain ⟨_, rfl⟩ := h
 exact ⟨by omega, by omega, by omega, h0.2⟩
def Vm (s : Bs) (i : Nat) (acc : Bs) : Option (Bs × Nat) :=
 if i < s.length then
  if QO (bat s i) = true then Vm s (i + 1) (acc ++ [s.getD i 0])
  else if bat s i = 92 then
   match h : ZQ s i with
   | none => none
   | some (v, j) => Vm s j (acc ++ v)
  else some (acc, i)
 else some (acc, i)
 termination_by s.length - i
 decreasing_by
  . omega
  have := JU h; omega
def V0 (s : Bs) (i : Nat) : Option (Bs × Nat) :=
 match Vm s i [] with
 | some ([], _) => none
 | r => r
def Yn (s : Bs) (i : Nat) : Nat :=
 if i < s.length /\ bat s i = 45 then Yn s (i + 1) else i
 termination_by s.length - i
def QL (s : Bs) (i : Nat) : Option (Bs × Nat) :=
 if Yn s i < s.length /\ (QE (bat s (Yn s i)) = true \/ bat s (Yn s i) = 92) then
  match V0 s (Yn s i) with
  | none => none
  | some (r, j) => some (List.replicate (Yn s i - i) 45 ++ r, j)
 else none
def VH (s : Bs) (q i : Nat) (acc : Bs) : Option (Bs × Nat) :=
 if i < s.length then
  if bat s i = 92 then
   if i + 1 < s.length /\ bat s (i + 1) = 13 then
    (if i + 2 < s.length /\ bat s (i + 2) = 10 then VH s q (i + 3) acc else VH s q (i + 2) acc)
   else if i + 1 < s.length /\ (bat s (i + 1) = 10 \/ bat s (i + 1) = 12) then VH s q (i + 2) acc
   else match h : ZQ s i with
    | none => none
    | some (v, j) => VH s q j (acc ++ v)
  else if bat s i = q then some (acc, i + 1)
  else if Y4 (bat s i) = true then none
  else VH s q (i + 1) (acc ++ [s.getD i 0])
 else none
 termination_by s.length - i
 decreasing_by
  all_goals (first | omega | (have := JU h; omega))
def Jl (s : Bs) (i : Nat) : Option (Bs × Nat) :=
 if s.length < i + 2 then none else VH s (bat s i) (i + 1) []
def ZD (s : Bs) (i : Nat) : Option Nat :=
 if i + 2 <= s.length then
  if bat s i = 42 /\ bat s (i + 1) = 47 then some (i + 2) else ZD s (i + 1)
 else none
 termination_by s.length - i
theorem JC (s : Bs) (i : Nat) {j : Nat} (h : ZD s i = some j) : i + 2 <= j /\ j <= s.length := by
 fun_induction ZD s i with
 | case1 i h1 h2 => simp at h; omega
 | case2 i h1 h2 ih => have := ih h; omega
 | case3 i h1 => cases h
def iWs (s : Bs) (i : Nat) : Nat :=
 if i < s.length then
  if VM (bat s i) = true then iWs s (i + 1)
  else if i + 2 <= s.length /\ bat s i = 47 /\ bat s (i + 1) = 42 then
   match h : ZD s (i + 2) with
   | some j => iWs s j
   | none => i
  else i
 else i
 termination_by s.length - i
 decreasing_by
  . omega
  have := JC _ _ h; omega
theorem VB (s : Bs) (i : Nat) : i <= iWs s i := by
 fun_induction iWs s i with
 | case1 i h1 h2 ih => omega
 | case2 i h1 h2 h3 j hj ih => have := JC _ _ hj; omega
 | case3 => omega
 | case4 => omega
 | case5 => omega
theorem Vn (s : Bs) (i : Nat) (h : i <= s.length) : iWs s i <= s.length := by
 fun_induction iWs s i with
 | case1 i h1 h2 ih => exact ih (by omega)
 | case2 i h1 h2 h3 j hj ih => exact ih (JC _ _ hj).2
 | case3 => omega
 | case4 => omega
 | case5 => omega
def UT (c : UInt8) : UInt8 := if 65 <= c.toNat /\ c.toNat <= 90 then c + 32 else c
def low (l : Bs) : Bs := l.map UT
def Vw (s : Bs) (i : Nat) : Option Nat := if i < s.length /\ bat s i = 40 then some (iWs s (i + 1)) else none
def QT (s : Bs) (i : Nat) : Option Nat := if iWs s i < s.length /\ bat s (iWs s i) = 41 then some (iWs s i + 1) else none
def ZH : List Bs := [[97, 102, 116, 101, 114], [98, 97, 99, 107, 100, 114, 111, 112], [98, 101, 102, 111, 114, 101], [99, 117, 101], [102, 105, 114, 115, 116, 45, 108, 101, 116, 116, 101, 114], [102, 105, 114, 115, 116, 45, 108, 105, 110, 101], [103, 114, 97, 109, 109, 97, 114, 45, 101, 114, 114, 111, 114], [109, 97, 114, 107, 101, 114], [112, 108, 97, 99, 101, 104, 111, 108, 100, 101, 114], [115, 101, 108, 101, 99, 116, 105, 111, 110], [115, 112, 101, 108, 108, 105, 110, 103, 45, 101, 114, 114, 111, 114]]
def attrSigns : List Bs := [[61], [33, 61], [126, 61], [124, 61], [94, 61], [36, 61], [42, 61]]
def Z0 (s : Bs) (i : Nat) : Option (CSel × Nat) :=
 match QL s (iWs s (i + 1)) with
 | none => none
 | some (key, j) =>
  if iWs s j < s.length then
   if bat s (iWs s j) = 93 then some (.attr (low key) [] [] false, iWs s j + 1)
   else if iWs s j + 2 < s.length /\ (bat s (iWs s j) = 61 \/ bat s (iWs s j + 1) = 61) then
    iAttrV s (low key) (if bat s (iWs s j) = 61 then [61] else [s.getD (iWs s j) 0, s.getD (iWs s j + 1) 0])
     (iWs s (iWs s j + (if bat s (iWs s j) = 61 then 1 else 2)))
   else none
  else none
where
 iAttrV (s key op : Bs) (k : Nat) : Option (CSel × Nat) :=
  if k < s.length then
   match (if bat s k = 39 \/ bat s k = 34 then Jl s k else QL s k) with
   | none => none
   | some (val, m) =>
    if iWs s m < s.length then
     iAttrE s key op val (decide (bat s (iWs s m) = 105 \/ bat s (iWs s m) = 73))
      (iWs s (if bat s (iWs s m) = 105 \/ bat s (iWs s m) = 73 then iWs s m + 1 else iWs s m))
    else none
  else none
 iAttrE (s key op val : Bs) (ign : Bool) (m : Nat) : Option (CSel × Nat) :=
  if m < s.length /\ bat s m = 93 /\ op ∈ attrSigns then some (.attr key val op ign, m + 1) else none
def YA (l : Bs) : Nat := l.foldl (fun n c => 10 * n + (c.toNat - 48)) 0
def Yb (s : Bs) (i : Nat) : Nat :=
 if i < s.length /\ Qy (bat s i) = true then Yb s (i + 1) else i
 termination_by s.length - i
def Qdn (s : Bs) (i : Nat) : Option (Int × Nat) :=
 if Yb s i = i then none
 else if YA ((s.take (Yb s i)).drop i) <= 9223372036854775807 then some ((YA ((s.take (Yb s i)).drop i) : Nat), Yb s i) else none
def isN (c : Nat) : Bool := decide (c = 110) || decide (c = 78)
def Zg (s : Bs) (a : Int) (i : Nat) : Option (Int × Int × Nat) :=
 if iWs s i < s.length then
  if bat s (iWs s i) = 43 then (Qdn s (iWs s (iWs s i + 1))).map fun p => (a, p.1, p.2)
  else if bat s (iWs s i) = 45 then (Qdn s (iWs s (iWs s i + 1))).map fun p => (a, 0 - p.1, p.2)
  else some (a, 0, iWs s i)
 else none
def ZA (s : Bs) (a : Int) (i : Nat) : Option (Int × Int × Nat) :=
 if i < s.length then
  if isN (bat s i) = true then Zg s a (i + 1) else some (0, a, i)
 else none
def VZ (s : Bs) (i : Nat) : Option (Int × Int × Nat) :=
 if i < s.length then
  if Qy (bat s i) = true then (Qdn s i).bind fun p => ZA s p.1 p.2
  else if isN (bat s i) = true then Zg s 1 (i + 1)
  else none
 else none
def V9 (s : Bs) (i : Nat) : Option (Int × Int × Nat) :=
 if i < s.length then
  if Qy (bat s i) = true then (Qdn s i).bind fun p => ZA s (0 - p.1) p.2
  else if isN (bat s i) = true then Zg s (-1) (i + 1)
  else none
 else none
def ZY (c : Nat) : Bool := decide (c = 111) || decide (c = 79) || decide (c = 101) || decide (c = 69)
def VU (s : Bs) (i : Nat) : Option (Int × Int × Nat) :=
 if i < s.length then
  if bat s i = 45 then V9 s (i + 1)
  else if bat s i = 43 then VZ s (i + 1)
  else if Qy (bat s i) = true then VZ s i
  else if isN (bat s i) = true then Zg s 1 (i + 1)
  else if ZY (bat s i) = true then
   match V0 s i with
   | none => none
   | some (w, j) => if low w = [111, 100, 100] then some (2, 1, j) else if low w = [101, 118, 101, 110] then some (2, 0, j) else none
  else none
 else none
def JW (G : Nat -> Option (List CSel × Nat)) (s : Bs) (name : Bs) (i : Nat) : Option (CSel × Nat) :=
 match Vw s i with
 | none => none
 | some k => match G k with
  | none => none
  | some (l, m) => (QT s m).map fun e => (.rel name l, e)
def Z1 (s : Bs) (own : Bool) (i : Nat) : Option (CSel × Nat) :=
 match Vw s i with
 | none => none
 | some k => if k < s.length then
  match (if bat s k = 39 \/ bat s k = 34 then Jl s k else QL s k) with
  | none => none
  | some (v, m) => (QT s m).map fun e => (.contains (low v) own, e)
  else none
def JA (s : Bs) (last ofType : Bool) (i : Nat) : Option (CSel × Nat) :=
 match Vw s i with
 | none => none
 | some k => match VU s k with
  | none => none
  | some (a, b, m) => (QT s m).map fun e => (.nth a b last ofType, e)
def Jm (s : Bs) (i : Nat) : Option (CSel × Nat) :=
 match Vw s i with
 | none => none
 | some k => if k < s.length then
  match QL s k with
  | none => none
  | some (v, m) => (QT s m).map fun e => (.lang (low v), e)
  else none
def UQ : Bs := [110, 111, 116]
def UR : Bs := [104, 97, 115]
def Vv : Bs := [104, 97, 115, 99, 104, 105, 108, 100]
def Q7 : Bs := [99, 111, 110, 116, 97, 105, 110, 115]
def QI : Bs := [99, 111, 110, 116, 97, 105, 110, 115, 111, 119, 110]
def Jb : Bs := [110, 116, 104, 45, 99, 104, 105, 108, 100]
def Yj : Bs := [110, 116, 104, 45, 108, 97, 115, 116, 45, 99, 104, 105, 108, 100]
def Jj : Bs := [110, 116, 104, 45, 111, 102, 45, 116, 121, 112, 101]
def Yd : Bs := [110, 116, 104, 45, 108, 97, 115, 116, 45, 111, 102, 45, 116, 121, 112, 101]
def Y6 : Bs := [108, 97, 110, 103]
def Qc8 : List Bs := [[118, 105, 115, 105, 116, 101, 100], [104, 111, 118, 101, 114], [97, 99, 116, 105, 118, 101], [102, 111, 99, 117, 115], [116, 97, 114, 103, 101, 116]]
def Qft (n : Bs) : Option CSel :=
 if n = [102, 105, 114, 115, 116, 45, 99, 104, 105, 108, 100] then some (.nth 0 1 false false)
 else if n = [108, 97, 115, 116, 45, 99, 104, 105, 108, 100] then some (.nth 0 1 true false)
 else if n = [102, 105, 114, 115, 116, 45, 111, 102, 45, 116, 121, 112, 101] then some (.nth 0 1 false true)
 else if n = [108, 97, 115, 116, 45, 111, 102, 45, 116, 121, 112, 101] then some (.nth 0 1 true true)
 else if n = [111, 110, 108, 121, 45, 99, 104, 105, 108, 100] then some (.only false)
 else if n = [111, 110, 108, 121, 45, 111, 102, 45, 116, 121, 112, 101] then some (.only true)
 else if n = [105, 110, 112, 117, 116] then some (.input)
 else if n = [101, 109, 112, 116, 121] then some (.empty)
 else if n = [114, 111, 111, 116] then some (.root)
 else if n = [108, 105, 110, 107] then some (.link)
 else if n = [101, 110, 97, 98, 108, 101, 100] then some (.enabled)
 else if n = [100, 105, 115, 97, 98, 108, 101, 100] then some (.disabled)
 else if n = [99, 104, 101, 99, 107, 101, 100] then some (.checked)
 else if n ∈ Qc8 then some (.never (58 :: n))
 else none
def ZB (G : Nat -> Option (List CSel × Nat)) (s : Bs) (n : Bs) (j : Nat) : Option (Option CSel × Bs × Nat) :=
 if n = UQ \/ n = UR \/ n = Vv then (JW G s n j).map fun p => (some p.1, [], p.2)
 else if n = Q7 \/ n = QI then (Z1 s (decide (n = QI)) j).map fun p => (some p.1, [], p.2)
 else if n = Jb \/ n = Yj \/ n = Jj \/ n = Yd then
  (JA s (decide (n = Yj \/ n = Yd)) (decide (n = Jj \/ n = Yd)) j).map fun p => (some p.1, [], p.2)
 else if n = Y6 then (Jm s j).map fun p => (some p.1, [], p.2)
 else match Qft n with
  | some x => some (some x, [], j)
  | none => if n ∈ ZH then some (none, n, j) else none
def iPs (G : Nat -> Option (List CSel × Nat)) (s : Bs) (i : Nat) : Option (Option CSel × Bs × Nat) :=
 if i + 1 < s.length then
  match QL s (if bat s (i + 1) = 58 then i + 2 else i + 1) with
  | none => none
  | some (n, j) => if bat s (i + 1) = 58 /\ low n ∉ ZH then none else ZB G s (low n) j
 else none
def Vq (G : Nat -> Option (List CSel × Nat)) (s : Bs) (i : Nat) : Option (Option CSel × Bs × Nat) :=
 if bat s i = 35 then (V0 s (i + 1)).map fun p => (some (.idn p.1), [], p.2)
 else if bat s i = 46 then (QL s (i + 1)).map fun p => (some (.cls p.1), [], p.2)
 else if bat s i = 91 then (Z0 s i).map fun p => (some p.1, [], p.2)
 else iPs G s i
def QX (c : Nat) : Bool := decide (c = 35) || decide (c = 46) || decide (c = 91) || decide (c = 58)
def Yh (l : List CSel) (pe : Bs) : CSel :=
 match l, pe with
 | [x], [] => x
 | l, pe => .compound l pe
def Vo (G : Nat -> Option (List CSel × Nat)) (s : Bs) (acc : Bool) (i : Nat) (l : List CSel) (pe : Bs) : Option (CSel × Nat) :=
 if i < s.length /\ QX (bat s i) = true then
  match Vq G s i with
  | none => none
  | some (x, n, j) =>
   if i < j then
    match x with
    | none => if pe = [] /\ acc = true then Vo G s acc j l n else none
    | some x => if pe = [] then Vo G s acc j (l ++ [x]) pe else none
   else none
 else some (Yh l pe, i)
 termination_by s.length - i
def YL (G : Nat -> Option (List CSel × Nat)) (s : Bs) (acc : Bool) (i : Nat) : Option (CSel × Nat) :=
 if i < s.length then
  if bat s i = 42 then Vo G s acc (if i + 3 < s.length /\ bat s (i + 1) = 124 /\ bat s (i + 2) = 42 then i + 3 else i + 1) [] []
  else if QX (bat s i) = true then Vo G s acc i [] []
  else match QL s i with
   | none => none
   | some (t, j) => Vo G s acc j [.tag (low t)] []
 else none
def Vh (c : Nat) : Bool := decide (c = 43) || decide (c = 62) || decide (c = 126)
def VF (G : Nat -> Option (List CSel × Nat)) (s : Bs) (acc : Bool) (x : CSel) (j : Nat) : Option (CSel × Nat) :=
 if iWs s j < s.length then
  if Vh (bat s (iWs s j)) = true then
   match YL G s acc (iWs s (iWs s j + 1)) with
   | none => none
   | some (y, m) => if j < m then VF G s acc (.combined x (s.getD (iWs s j) 0) y) m else none
  else if bat s (iWs s j) = 44 \/ bat s (iWs s j) = 41 \/ iWs s j = j then some (x, iWs s j)
  else match YL G s acc (iWs s j) with
   | none => none
   | some (y, m) => if j < m then VF G s acc (.combined x 32 y) m else none
 else some (x, iWs s j)
 termination_by s.length - j
 decreasing_by all_goals (have := VB s j; omega)
def Zp (G : Nat -> Option (List CSel × Nat)) (s : Bs) (acc : Bool) (i : Nat) : Option (CSel × Nat) :=
 match YL G s acc (iWs s i) with
 | none => none
 | some (x, j) => VF G s acc x j
def YF (G : Nat -> Option (List CSel × Nat)) (s : Bs) (acc : Bool) (l : List CSel) (j : Nat) : Option (List CSel × Nat) :=
 if j < s.length /\ bat s j = 44 then
  match Zp G s acc (j + 1) with
  | none => none
  | some (y, m) => if j < m then YF G s acc (l ++ [y]) m else none
 else some (l, j)
 termination_by s.length - j
def QD (s : Bs) (acc : Bool) : Nat -> Nat -> Option (List CSel × Nat)
 | 0, _ => none
 | k + 1, i => match Zp (QD s acc k) s acc i with
  | none => none
  | some (x, j) => YF (QD s acc k) s acc [x] j
def Va (s : Bs) (many pseudo : Bool) : Option (List CSel) :=
 if many = true then
  match QD s pseudo 1001 0 with
  | some (l, j) => if j < s.length then none else some l
  | none => none
 else
  match Zp (QD s pseudo 1001) s pseudo 0 with
  | some (x, j) => if j < s.length then none else some [x]
  | none => none
def b2i (b : Bool) (n : Int) : Int := if b = true then n else 0
def Zc (l : List Bs) (x : Bs) : Int := if l.idxOf x < l.length then (l.idxOf x : Nat) + 1 else 0
def Q4 : CSel -> SelD
 | .tag k => ⟨2, 0, k, [], 0, 0, 0, 0⟩
 | .cls v => ⟨3, 0, [], v, 0, 0, 0, 0⟩
 | .idn v => ⟨4, 0, [], v, 0, 0, 0, 0⟩
 | .attr k v o i => ⟨5, Zc ([] :: attrSigns) o, k, v, 0, 0, b2i i 1, 0⟩
 | .nth a b l t => ⟨6, 0, [], [], a, b, b2i l 1 + b2i t 2, 0⟩
 | .only t => ⟨7, 0, [], [], 0, 0, b2i t 2, 0⟩
 | .empty => ⟨8, 0, [], [], 0, 0, 0, 0⟩
 | .root => ⟨9, 0, [], [], 0, 0, 0, 0⟩
 | .input => ⟨10, 0, [], [], 0, 0, 0, 0⟩
 | .link => ⟨11, 0, [], [], 0, 0, 0, 0⟩
 | .enabled => ⟨12, 0, [], [], 0, 0, 0, 0⟩
 | .disabled => ⟨13, 0, [], [], 0, 0, 0, 0⟩
 | .checked => ⟨14, 0, [], [], 0, 0, 0, 0⟩
 | .lang v => ⟨15, 0, [], v, 0, 0, 0, 0⟩
 | .contains v o => ⟨16 + b2i o 1, 0, [], v, 0, 0, 0, 0⟩
 | .never v => ⟨24, 0, [], v, 0, 0, 0, 0⟩
 | .rel n _ => ⟨17 + Zc [UQ, UR, Vv] n, 0, [], [], 0, 0, 0, 0⟩
 | .compound _ pe => ⟨21, 0, [], pe, 0, 0, 0, 0⟩
 | .combined _ c _ => ⟨22, Zc [[32], [62], [43], [126]] (YZ c.toNat), [], [], 0, 0, 0, 0⟩
def QB (x : SelD) (l : List SelD) : List SelD := { x with size := (l.length : Nat) + 1 } :: l
def Vg : SelD := ⟨23, 0, [], [], 0, 0, 0, 0⟩
mutual
def Qu : CSel -> List SelD
 | .rel n ks => QB (Q4 (.rel n ks)) (QB Vg (Qt ks))
 | .compound ks pe => QB (Q4 (.compound ks pe)) (Qt ks)
 | .combined f c s => QB (Q4 (.combined f c s)) (Qu f ++ Qu s)
 | x => QB (Q4 x) []
def Qt : List CSel -> List SelD
 | [] => []
 | x :: l => Qu x ++ Qt l
end
def Vb (many : Bool) (l : List CSel) : List SelD :=
 if many = true then QB Vg (Qt l) else Qu (l.headD default)
end
section
structure RS where
 p : Nat
 bad : Bool
 un : Bool
def RS.go (t : RS) (p : Nat) : RS := { t with p := p }
def RS.no (t : RS) : RS := { t with bad := true }
def VO (x : SelD) (kids : List SelD) : List SelD := QB x kids
def QmL (k : Int) : SelD := ⟨k, 0, [], [], 0, 0, 0, 0⟩
def escF (s : Bs) (i : Nat) : Bool := decide (i + 1 < s.length) && decide (bat s i = 92) && !Y4 (bat s (i + 1))
def nmAt (s : Bs) (i : Nat) : Nat := if i < s.length /\ bat s i = 45 then i + 1 else i
def QmM (s : Bs) (i : Nat) : Bool := (decide (nmAt s i < s.length) && QE (bat s (nmAt s i))) || escF s (nmAt s i)
def nmUn (s : Bs) (i : Nat) : Bool := decide (i < s.length /\ bat s i = 45 /\ i + 1 < s.length /\ bat s (i + 1) = 45)
def VA (b : Nat) : Nat × Nat × Nat :=
 if 194 <= b /\ b < 224 then (b - 192, 2, 128) else if 224 <= b /\ b < 240 then (b - 224, 3, 2048) else if 240 <= b /\ b < 245 then (b - 240, 4, 65536) else (0, 0, 0)
def VV (s : Bs) : Nat -> Nat -> Nat -> Option Nat
 | 0, _, c => some c
 | k + 1, i, c => if bat s i < 128 \/ 191 < bat s i then none else VV s k (i + 1) (c * 64 + bat s i - 128)
def Qk (s : Bs) (i : Nat) : Nat × Nat :=
 if bat s i < 128 then (bat s i, 1)
 else
  if (VA (bat s i)).2.1 = 0 \/ s.length < i + (VA (bat s i)).2.1 then (0, 0)
  else match VV s ((VA (bat s i)).2.1 - 1) (i + 1) (VA (bat s i)).1 with
   | none => (0, 0)
   | some c => if c < (VA (bat s i)).2.2 \/ 1114111 < c \/ (55296 <= c /\ c < 57344) then (0, 0) else (c, (VA (bat s i)).2.1)
def QG (s : Bs) (i : Nat) : Bool :=
 if i < s.length then
  if h : (Qk s i).2 = 0 \/ (Qk s i).1 = 0 \/ (Qk s i).1 = 65279 then false else QG s (i + (Qk s i).2)
 else true
 termination_by s.length - i
 decreasing_by simp only [not_or] at h; omega
def QpX (s : Bs) (i : Nat) : Int × Nat :=
 if bat s i = 61 then (2, 1)
 else if bat s (i + 1) = 61 then
  (if bat s i = 33 then (3, 2) else if bat s i = 126 then (4, 2) else if bat s i = 124 then (5, 2) else if bat s i = 94 then (6, 2) else if bat s i = 36 then (7, 2) else if bat s i = 42 then (8, 2) else (1, 0))
 else (1, 0)
end
section
inductive ST where
 | mk (x : SelD) (ks : List ST)
mutual
def ST.flat : ST -> List SelD
 | .mk x ks => QB x (ST.flats ks)
def ST.flats : List ST -> List SelD
 | [] => []
 | t :: l => t.flat ++ ST.flats l
end
def ST.node : ST -> SelD
 | .mk x _ => x
def QnY : SelD := ⟨1, 0, [], [], 0, 0, 0, 0⟩
def QbD (t : ST) : Bool := decide (t.node.kind = 1)
def JJ (x : SelD) (ks : List ST) : ST :=
 if x.kind = 21 /\ x.val = [] then
  match ks with
  | [] => .mk QnY []
  | [k] => k
  | ks => .mk x ks
 else .mk x ks
def Ze (x : SelD) (ks : List ST) : List ST := if x.kind = 21 then ks.filter (fun t => !QbD t) else ks
mutual
def ST.norm : ST -> ST
 | .mk x ks => JJ x (Ze x (ST.norms ks))
def ST.norms : List ST -> List ST
 | [] => []
 | t :: l => t.norm :: ST.norms l
end
mutual
def QS : CSel -> ST
 | .rel n ks => .mk (Q4 (.rel n ks)) [.mk Vg (QZ ks)]
 | .compound ks pe => .mk (Q4 (.compound ks pe)) (QZ ks)
 | .combined f c s => .mk (Q4 (.combined f c s)) [QS f, QS s]
 | x => .mk (Q4 x) []
def QZ : List CSel -> List ST
 | [] => []
 | x :: l => QS x :: QZ l
end
theorem Qbk : ∀ a b, ST.flats (a ++ b) = ST.flats a ++ ST.flats b
 | [], b => by simp [ST.flats]
 | t :: a, b => by simp [ST.flats, Qbk a b]
theorem Ud : ∀ a b, ST.norms (a ++ b) = ST.norms a ++ ST.norms b
 | [], b => by simp [ST.norms]
 | t :: a, b => by simp [ST.norms, Ud a b]
theorem UD : ∀ a b, QZ (a ++ b) = QZ a ++ QZ b
 | [], b => by simp [QZ]
 | t :: a, b => by simp [QZ, UD a b]
mutual
theorem U0 : ∀ x, (QS x).flat = Qu x
 | .rel n ks => by simp [QS, ST.flat, ST.flats, Qu, ZG ks]
 | .compound ks pe => by simp [QS, ST.flat, Qu, ZG ks]
 | .combined f c s => by simp [QS, ST.flat, ST.flats, Qu, U0 f, U0 s]
 | .tag k => by simp [QS, ST.flat, ST.flats, Qu]
 | .cls v => by simp [QS, ST.flat, ST.flats, Qu]
 | .idn v => by simp [QS, ST.flat, ST.flats, Qu]
 | .attr a b c d => by simp [QS, ST.flat, ST.flats, Qu]
 | .nth a b c d => by simp [QS, ST.flat, ST.flats, Qu]
 | .only a => by simp [QS, ST.flat, ST.flats, Qu]
 | .empty => by simp [QS, ST.flat, ST.flats, Qu]
 | .root => by simp [QS, ST.flat, ST.flats, Qu]
 | .input => by simp [QS, ST.flat, ST.flats, Qu]
 | .link => by simp [QS, ST.flat, ST.flats, Qu]
 | .enabled => by simp [QS, ST.flat, ST.flats, Qu]
 | .disabled => by simp [QS, ST.flat, ST.flats, Qu]
 | .checked => by simp [QS, ST.flat, ST.flats, Qu]
 | .lang a => by simp [QS, ST.flat, ST.flats, Qu]
 | .contains a b => by simp [QS, ST.flat, ST.flats, Qu]
 | .never a => by simp [QS, ST.flat, ST.flats, Qu]
theorem ZG : ∀ l, ST.flats (QZ l) = Qt l
 | [] => by simp [QZ, ST.flats, Qt]
 | x :: l => by simp [QZ, ST.flats, Qt, U0 x, ZG l]
end
def MT (x : CSel) (l : List SelD) : Prop := ∃ T : ST, l = T.flat /\ T.norm = (QS x).norm
def MTs (xs : List CSel) (l : List SelD) : Prop := ∃ Ts : List ST, l = ST.flats Ts /\ ST.norms Ts = ST.norms (QZ xs)
def Smp : CSel -> Prop
 | .compound _ _ => False
 | _ => True
theorem sign3 (n : Bs) : (17 + Zc [UQ, UR, Vv] n ≠ 1) /\ (17 + Zc [UQ, UR, Vv] n ≠ 21) /\ (17 + Zc [UQ, UR, Vv] n ≠ 23) := by
 have h : 0 <= Zc [UQ, UR, Vv] n /\ Zc [UQ, UR, Vv] n <= 3 := by
  unfold Zc
  split
  rename_i h
  simp only [List.length_cons, List.length_nil] at h
  omega
  omega
 omega
theorem Qk2 (x : CSel) : (Q4 x).kind ≠ 1 /\ (Smp x -> (Q4 x).kind ≠ 21) /\ (Q4 x).kind ≠ 23 := by
 cases x <;> simp [Q4, Smp]
 rename_i v o; cases o <;> simp [b2i]
 rename_i n ks; exact sign3 n
theorem Qkz (x : CSel) : ∃ ks, QS x = .mk (Q4 x) ks := by
 cases x <;> simp [QS]
theorem QgD {x : CSel} (h : Smp x) : QbD (QS x).norm = false := by
 obtain ⟨ks, e⟩ := Qkz x
 obtain ⟨h1, h2, _⟩ := Qk2 x
 have h3 := h2 h
 rw [e, ST.norm]; unfold JJ; rw [if_neg (fun h => h3 h.1)]
 simp [QbD, ST.node, h1]
theorem Qex {x : SelD} : ∀ {l : List CSel}, (∀ y ∈ l, Smp y) -> Ze x (ST.norms (QZ l)) = ST.norms (QZ l) := by
 intro l h
 unfold Ze
 split
 . induction l with
   | nil => simp [QZ, ST.norms]
   | cons y l ih =>
    rw [QZ, ST.norms, List.filter_cons_of_pos (by simp [QgD (h y (by simp))]), ih (fun z hz => h z (by simp [hz]))]
 rfl
theorem MTs.nil : MTs [] [] := ⟨[], by simp [ST.flats], by simp [QZ]⟩
theorem MTs.snoc {xs : List CSel} {l : List SelD} {x : CSel} {m : List SelD} (h : MTs xs l) (k : MT x m) : MTs (xs ++ [x]) (l ++ m) := by
 obtain ⟨Ts, rfl, e⟩ := h
 obtain ⟨T, rfl, e'⟩ := k
 exact ⟨Ts ++ [T], by rw [Qbk]; simp [ST.flats], by rw [Ud, UD, Ud, e]; simp [ST.norms, QZ, e']⟩
theorem MTs.one {x : CSel} {m : List SelD} (k : MT x m) : MTs [x] m := by simpa using MTs.snoc MTs.nil k
theorem MTs.seq {xs : List CSel} {l : List SelD} (pe : Bs) (hs : ∀ y ∈ xs, Smp y) (h : MTs xs l) : MT (Yh xs pe) (VO ⟨21, 0, [], pe, 0, 0, 0, 0⟩ l) := by
 obtain ⟨Ts, rfl, e⟩ := h
 refine ⟨.mk ⟨21, 0, [], pe, 0, 0, 0, 0⟩ Ts, by rw [ST.flat, VO], ?_⟩
 rw [ST.norm, e]
 have hc : (QS (.compound xs pe)).norm = JJ ⟨21, 0, [], pe, 0, 0, 0, 0⟩ (Ze ⟨21, 0, [], pe, 0, 0, 0, 0⟩ (ST.norms (QZ xs))) := by
  rw [QS, ST.norm, Q4]
 unfold Yh
 split
 rename_i x
 rw [Qex hs]
 simp [QZ, ST.norms, JJ]
 exact hc.symm
theorem MT.comb {f s : CSel} {c : UInt8} {op : Int} {a b : List SelD} (hf : MT f a) (hs : MT s b) (ho : Zc [[32], [62], [43], [126]] (YZ c.toNat) = op) :
 MT (.combined f c s) (VO ⟨22, op, [], [], 0, 0, 0, 0⟩ (a ++ b)) := by
 obtain ⟨A, rfl, ea⟩ := hf
 obtain ⟨B, rfl, eb⟩ := hs
 refine ⟨.mk ⟨22, op, [], [], 0, 0, 0, 0⟩ [A, B], by simp [ST.flat, ST.flats, VO], ?_⟩
 rw [QS, ST.norm, ST.norm]
 simp only [ST.norms, ea, eb, Q4, ho]
theorem MT.rel {n : Bs} {ks : List CSel} {l : List SelD} {k : Int} (h : MTs ks l) (hk : 17 + Zc [UQ, UR, Vv] n = k) : MT (.rel n ks) (VO (QmL k) (VO Vg l)) := by
 obtain ⟨Ts, rfl, e⟩ := h
 refine ⟨.mk (QmL k) [.mk Vg Ts], by simp [ST.flat, ST.flats, VO], ?_⟩
 rw [QS, ST.norm, ST.norm]
 simp only [ST.norms, ST.norm, e, Q4, hk, QmL]
end
end Go.Proofs.YtengepcafdnalaaGreatDoor
