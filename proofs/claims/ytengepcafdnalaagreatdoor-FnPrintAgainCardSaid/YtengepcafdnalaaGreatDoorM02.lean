/-
  Parts of the proof that the law FnPrintAgain holds for every input (texts Pe, Pf, Ea, Eb). Conditions: none.
-/
import Derived.Test.YtengepcafdnalaaGreatDoorM01
import Derived.Test.YtengepcafdnalaaGreatDoorProg
import Derived.WalkKit
import Derived.KernelRfl
namespace Go.Proofs.YtengepcafdnalaaGreatDoor
open _root_.Array renaming getElem?_eq_some_iff → zA
open _root_.Bool renaming false_ne_true → zE, or_eq_true → zw, and_eq_true → zh
open _root_.List renaming getD_eq_getElem?_getD → za, take_add_one → zL, length_take → zk, getElem?_eq_getElem → zi, append_assoc → zo, append_nil → zC, range → zH
open _root_.Nat renaming le_refl → zq, lt_of_lt_of_le → zS
open _root_.Option renaming map_some → zO
section
namespace Law
def RD (s : Bs) : Prop := ∀ i, i + 1 < s.length -> bat s i < 128 -> (Ql s (i + 1)).2 ≠ 0
theorem Qde {s : Bs} : ∀ {k i c d : Nat}, VV s k i c = some d -> ∀ m, i <= m -> m < i + k -> 128 <= bat s m
 | 0, i, c, d, h, m, h1, h2 => by omega
 | k + 1, i, c, d, h, m, h1, h2 => by
  rw [VV] at h
  split at h
  cases h
  rename_i h0
  by_cases e : m = i
  subst e; omega
  exact Qde h m (by omega) (by omega)
theorem point_shape {s : Bs} {j : Nat} (h0 : j < s.length) (h : (Ql s j).2 ≠ 0) : 1 <= (Ql s j).2 /\ j + (Ql s j).2 <= s.length /\
 (∀ m, j < m -> m < j + (Ql s j).2 -> 128 <= bat s m) /\ (bat s j < 128 -> (Ql s j).2 = 1) := by
 unfold Ql at h ⊢
 split
 refine ⟨by omega, by omega, fun m h1 h2 => ?_, fun _ => rfl⟩
 simp only at h2; omega
 rename_i h1
 rw [if_neg h1] at h
 split
 rename_i h2; rw [if_pos h2] at h; exact absurd rfl h
 rename_i h2
 rw [if_neg h2] at h
 simp only [not_or] at h2
 split
 rename_i h3; rw [h3] at h; exact absurd rfl h
 rename_i d h3
 rw [h3] at h
 simp only at h
 split
 rename_i h4; rw [if_pos h4] at h; exact absurd rfl h
 refine ⟨by simp only; omega, by simp only; omega, fun m k1 k2 => ?_, fun k => absurd k h1⟩
 simp only at k2
 exact Qde h3 m (by omega) (by omega)
theorem readGo_step {s : Bs} {j : Nat} (h : QE s j = true) (hj : j < s.length) : (Ql s j).2 ≠ 0 /\ QE s (j + (Ql s j).2) = true := by
 rw [QE, if_pos hj] at h
 split at h
 cases h
 rename_i h1; simp only [not_or] at h1; exact ⟨h1.1, h⟩
theorem bat_out {s : Bs} {i : Nat} (h : s.length <= i) : bat s i = 0 := by
 simp [bat, za, List.getElem?_eq_none h]
theorem Quu {s : Bs} {i : Nat} (h : bat s i ≠ 0) : i < s.length := by
 by_cases e : i < s.length
 exact e
 exact absurd (bat_out (by omega)) h
theorem QpR {c : Nat} (h : 128 <= c) : QG c = true := by simp [QG, QA]; omega
def Dead (s : Bs) (t : RS) : Prop := t.bad = true \/ bat s t.p = 92
def Sim {α β : Type} (s : Bs) (R : α -> β -> Prop) (f : Option (α × Nat)) (g : β × RS) : Prop :=
 g.2.un = true \/ (∃ a, f = some (a, g.2.p) /\ g.2.bad = false /\ R a g.1) \/ (f = none /\ Dead s g.2)
section
variable {α β : Type} {s : Bs} {R : α -> β -> Prop} {f : Option (α × Nat)} {g : β × RS}
theorem Sim.un (h : g.2.un = true) : Sim s R f g := .inl h
theorem Sim.ok (a : α) (h : f = some (a, g.2.p)) (hb : g.2.bad = false) (hr : R a g.1) : Sim s R f g := .inr (.inl ⟨a, h, hb, hr⟩)
theorem Sim.no (h : f = none) (hd : Dead s g.2) : Sim s R f g := .inr (.inr ⟨h, hd⟩)
theorem Sim.bad (h : f = none) (hd : g.2.bad = true) : Sim s R f g := .inr (.inr ⟨h, .inl hd⟩)
end
theorem iWs_fix (s : Bs) (i : Nat) : iWs s (iWs s i) = iWs s i := by
 fun_induction iWs s i with
 | case1 i h1 h2 ih => exact ih
 | case2 i h1 h2 h3 j hj ih => exact ih
 | case3 i h1 h2 h3 hj =>
  rw [iWs, if_pos h1, if_neg h2, if_pos h3]
  split
  rename_i j' hj'; rw [hj] at hj'; cases hj'
  rfl
 | case4 i h1 h2 h3 => rw [iWs, if_pos h1, if_neg h2, if_neg h3]
 | case5 i h1 => rw [iWs, if_neg h1]
theorem nameGo_stop {s : Bs} {i : Nat} {acc : Bs} (h : ¬ i < s.length \/ (QG (bat s i) = false /\ bat s i ≠ 92)) : Vl s i acc = some (acc, i) := by
 rw [Vl]
 rcases h with h | h
 rw [if_neg h]
 split
 rw [if_neg (by rw [h.1]; exact zE), if_neg h.2]
 rfl
theorem Uk {s : Bs} {i : Nat} {acc : Bs} (h : i < s.length) (hc : QG (bat s i) = true) : Vl s i acc = Vl s (i + 1) (acc ++ [s.getD i 0]) := by
 rw [Vl, if_pos h, if_pos hc]
theorem QqW : QG 92 = false := by decide
theorem nameGo_esc {s : Bs} {i : Nat} {acc : Bs} (h : i < s.length) (hc : bat s i = 92) {v : Bs} {j : Nat} (he : ZL s i = some (v, j)) : Vl s i acc = Vl s j (acc ++ v) := by
 rw [Vl, if_pos h, if_neg (by rw [hc, QqW]; exact zE), if_pos hc]
 split
 rename_i k; rw [he] at k; cases k
 rename_i v' j' k; rw [he] at k; cases k; rfl
theorem nameGo_none {s : Bs} {i : Nat} {acc : Bs} (h : i < s.length) (hc : bat s i = 92) (he : ZL s i = none) : Vl s i acc = none := by
 rw [Vl, if_pos h, if_neg (by rw [hc, QqW]; exact zE), if_pos hc]
 split
 rfl
 rename_i v' j' k; rw [he] at k; cases k
theorem drop_take_succ (s : Bs) (i k : Nat) (h : i + k < s.length) : (s.take (i + (k + 1))).drop i = (s.take (i + k)).drop i ++ [s.getD (i + k) 0] := by
 rw [show i + (k + 1) = (i + k) + 1 from rfl, zL, List.drop_append]
 simp only [zk]
 rw [show i - min (i + k) s.length = 0 from by omega, zi h]
 simp [za, zi h]
theorem nameGo_run (s : Bs) (i : Nat) (acc : Bs) : ∀ k, i + k <= s.length -> (∀ m, i <= m -> m < i + k -> QG (bat s m) = true) -> Vl s i acc = Vl s (i + k) (acc ++ (s.take (i + k)).drop i)
 | 0, h, hc => by simp
 | k + 1, h, hc => by
  rw [nameGo_run s i acc k (by omega) (fun m h1 h2 => hc m h1 (by omega)), Uk (by omega) (hc (i + k) (by omega) (by omega)),
   drop_take_succ s i k (by omega), zo]
  rfl
theorem QiW (s : Bs) (i : Nat) (acc a : Bs) : Vl s i (a ++ acc) = (Vl s i acc).map fun p => (a ++ p.1, p.2) := by
 fun_induction Vl s i acc with
 | case1 i acc h1 h2 ih => rw [Uk h1 h2, zo, ih]
 | case2 i acc h1 h2 h3 h4 => rw [nameGo_none h1 h3 h4]; rfl
 | case3 i acc h1 h2 h3 v j h4 ih => rw [nameGo_esc h1 h3 h4, zo, ih]
 | case4 i acc h1 h2 h3 => rw [nameGo_stop (.inr ⟨by simpa using h2, h3⟩)]; rfl
 | case5 i acc h1 => rw [nameGo_stop (.inl h1)]; rfl
theorem Qdl {s : Bs} {i : Nat} {acc r : Bs} {j : Nat} (h : Vl s i acc = some (r, j)) : acc.length <= r.length := by
 have e := QiW s i [] acc
 rw [zC, h] at e
 cases e2 : Vl s i [] with
 | none => rw [e2] at e; cases e
 | some p =>
  rw [e2] at e
  simp only [zO, Option.some.injEq, Prod.mk.injEq] at e
  rw [e.1]; simp
theorem QbF {s : Bs} {i : Nat} {acc : Bs} : ∀ {r : Bs} {j : Nat}, Vl s i acc = some (r, j) -> i <= j /\ (i <= s.length -> j <= s.length) := by
 fun_induction Vl s i acc with
 | case1 i acc h1 h2 ih => intro r j h; have := ih h; omega
 | case2 i acc h1 h2 h3 h4 => intro r j h; cases h
 | case3 i acc h1 h2 h3 v k h4 ih => intro r j h; have := ih h; have := J0 h4; omega
 | case4 i acc h1 h2 h3 => intro r j h; cases h; omega
 | case5 i acc h1 => intro r j h; cases h; omega
theorem utf8_ne (n : Int) : YL n ≠ [] := by
 unfold YL Utf8.encode
 simp only
 generalize (if Utf8.valid n = true then n.toNat else Utf8.runeError) = c
 split
 simp
 split
 simp
 split <;> simp
theorem Qpr {c : Nat} (h : QG c = true) : YN c = false := by
 simp only [QG, QA, YN, zw, zh, decide_eq_true_eq, Bool.or_eq_false_iff, decide_eq_false_iff_not] at *
 omega
theorem QiV {s : Bs} {i : Nat} (h : i < s.length) (hc : QG (bat s i) = true \/ bat s i = 92) {r : Bs} {j : Nat} (k : Vl s i [] = some (r, j)) : r ≠ [] := by
 intro e
 subst e
 rcases hc with hc | hc
 rw [Uk h hc] at k; have := Qdl k; simp at this
 cases he : ZL s i with
 | none => rw [nameGo_none h hc he] at k; cases k
 | some p =>
  obtain ⟨v, j'⟩ := p
  rw [nameGo_esc h hc he] at k
  have := Qdl k
  have hv : v ≠ [] := by
   unfold ZL at he
   split at he
   cases he
   split at he
   cases he
   split at he <;> (simp only [Option.some.injEq, Prod.mk.injEq] at he; rw [<- he.1])
   exact utf8_ne _
   simp
  simp at this
  exact hv this
theorem QnB {s : Bs} {i : Nat} (h : i < s.length) (hc : QG (bat s i) = true \/ bat s i = 92) : V1 s i = Vl s i [] := by
 unfold V1
 split
 rename_i j h1; exact absurd rfl (QiV h hc h1)
 rfl
theorem QhF {s : Bs} {i : Nat} (h : ¬ i < s.length \/ (QG (bat s i) = false /\ bat s i ≠ 92)) : V1 s i = none := by
 unfold V1
 rw [nameGo_stop h]
theorem strGo_chr {s : Bs} {q i : Nat} {acc : Bs} (h : i < s.length) (h1 : bat s i ≠ 92) (h2 : bat s i ≠ q) (h3 : YN (bat s i) = false) : VI s q i acc = VI s q (i + 1) (acc ++ [s.getD i 0]) := by
 rw [VI, if_pos h, if_neg h1, if_neg h2, if_neg (by rw [h3]; exact zE)]
theorem nl_hi {c : Nat} (h : 128 <= c) : YN c = false := Qpr (QpR h)
theorem strGo_run (s : Bs) (q i : Nat) (hq : q < 128) (acc : Bs) : ∀ k, i + k <= s.length -> (∀ m, i <= m -> m < i + k -> 128 <= bat s m) -> VI s q i acc = VI s q (i + k) (acc ++ (s.take (i + k)).drop i)
 | 0, h, hc => by simp
 | k + 1, h, hc => by
  have h5 := hc (i + k) (by omega) (by omega)
  rw [strGo_run s q i hq acc k (by omega) (fun m h1 h2 => hc m h1 (by omega)), strGo_chr (by omega) (by omega) (by omega) (nl_hi h5),
   drop_take_succ s i k (by omega), zo]
  rfl
theorem QnC (s : Bs) (i : Nat) : i <= Yg s i := by
 fun_induction Yg s i with
 | case1 i h ih => omega
 | case2 => omega
theorem iName_lt {s : Bs} {i : Nat} {r : Bs} {j : Nat} (h : V1 s i = some (r, j)) : i < j /\ j <= s.length := by
 by_cases h0 : i < s.length
 by_cases hc : QG (bat s i) = true \/ bat s i = 92
 rw [QnB h0 hc] at h
 have h1 := QbF h
 refine ⟨?_, h1.2 (by omega)⟩
 rcases hc with hc | hc
 rw [Uk h0 hc] at h; have := QbF h; omega
 cases he : ZL s i with
 | none => rw [nameGo_none h0 hc he] at h; cases h
 | some p => obtain ⟨v, k⟩ := p; rw [nameGo_esc h0 hc he] at h; have := QbF h; have := J0 he; omega
 simp only [not_or, Bool.not_eq_true] at hc
 rw [QhF (.inr hc)] at h; cases h
 rw [QhF (.inl h0)] at h; cases h
theorem iIdent_lt {s : Bs} {i : Nat} {r : Bs} {j : Nat} (h : QM s i = some (r, j)) : i < j /\ j <= s.length := by
 unfold QM at h
 split at h
 split at h
 cases h
 rename_i r' j' h1
 cases h
 have := iName_lt h1
 have := QnC s i
 omega
 cases h
end Law
end
section
namespace Law
def iAttr2 (s : Bs) (i : Nat) : Option (CSel × Nat) :=
 match QM s (iWs s (i + 1)) with
 | none => none
 | some (key, j) =>
  if bat s (iWs s j) = 93 then some (.attr (low key) [] [] false, iWs s j + 1)
  else if (QqJ s (iWs s j)).1 ≠ 1 then
   ZX.iAttrV s (low key) (if bat s (iWs s j) = 61 then [61] else [s.getD (iWs s j) 0, s.getD (iWs s j + 1) 0])
    (iWs s (iWs s j + (QqJ s (iWs s j)).2))
  else none
theorem iNth_oe {s : Bs} {i : Nat} (h : ZU (bat s i) = true) : VU s i = match V1 s i with
      | none => none
      | some (w, j) => if low w = [111, 100, 100] then some (2, 1, j) else if low w = [101, 118, 101, 110] then some (2, 0, j) else none := by
 have hc : bat s i = 111 \/ bat s i = 79 \/ bat s i = 101 \/ bat s i = 69 := by simp only [ZU, zw, decide_eq_true_eq] at h; omega
 unfold VU
 rw [if_pos (Quu (by omega)), if_neg (by omega), if_neg (by omega), if_neg (by simp [Qw]; omega), if_neg (by simp [isN]; omega), if_pos h]
 rfl
section
variable {s : Bs}
variable (hr : RD s) (t : RS) (hb : t.bad = false) (j : Nat) (hj : t.p = j + 1) (h40 : bat s j = 40) {G : RS -> List SelD × RS}
include hr hb hj h40
end
end Law
end
section
open Go Go.RowKit
inductive RV where
 | sels (xs : List SelD)
 | ints (xs : List Nat)
 | strs (xs : List (List UInt8))
 | bytes (xs : List UInt8)
 | selss (xs : List (List SelD))
 | csels (xs : List CSel)
 | runes (xs : List Int)
inductive SV where
 | undef
 | int (k : IntKind) (n : Int)
 | bool (b : Bool)
 | str (l : List UInt8)
 | ptr (r o : Nat)
 | nilptr
 | agg (cs : List SV)
 | tup (vs : List SV)
 | iface (t : TypeId) (v : SV)
 | nilif
 | ifx
 | nilsl
 | sl (x : RV)
 | cp (cs : List SV)
 | own (r : Nat)
 | rp (r i z o : Nat)
 | cs (x : CSel)
 | gd (c : Bool) (s : SV)
 | op (v : Value)
 | nat (n : Nat)
 | byt (c : UInt8)
 | gk (j : Nat) (b : Bool) (s : SV)
instance : Inhabited SV := ⟨.undef⟩
def RV.len : RV -> Nat
 | .sels xs => xs.length
 | .ints xs => xs.length
 | .strs xs => xs.length
 | .bytes xs => xs.length
 | .selss xs => xs.length
 | .csels xs => xs.length
 | .runes xs => xs.length
def RV.elem : RV -> TypeId
 | .sels _ => 33
 | .ints _ => 3
 | .strs _ => 9
 | .bytes _ => 5
 | .selss _ => 22
 | .csels _ => 56
 | .runes _ => 21
def RV.z : RV -> Nat
 | .sels _ => 8
 | _ => 1
def Vq (x : SelD) : List SV := [.int .i64 x.kind, .int .i64 x.op, .str x.key, .str x.val, .int .i64 x.a, .int .i64 x.b, .int .i64 x.flag, .int .i64 x.size]
def RV.cell : RV -> Nat -> List SV
 | .sels xs, i => Vq (xs.getD i default)
 | .ints xs, i => [.nat (xs.getD i 0)]
 | .strs xs, i => [.str (xs.getD i [])]
 | .bytes xs, i => [.byt (xs.getD i 0)]
 | .selss xs, i => [.sl (.sels (xs.getD i []))]
 | .csels xs, i => [.cs (xs.getD i default)]
 | .runes xs, i => [.int .i32 (xs.getD i 0)]
theorem RV.cell_length (x : RV) (i : Nat) : (x.cell i).length = x.z := by cases x <;> rfl
def CSel.ty : CSel -> TypeId
 | .tag _ => 99
 | .cls _ => 101
 | .idn _ => 103
 | .attr .. => 105
 | .nth .. => 109
 | .only _ => 111
 | .empty => 113
 | .root => 114
 | .input => 115
 | .link => 116
 | .enabled => 117
 | .disabled => 118
 | .checked => 119
 | .lang _ => 121
 | .contains .. => 123
 | .never _ => 125
 | .rel .. => 127
 | .compound .. => 129
 | .combined .. => 131
def CSel.cells : CSel -> List SV
 | .tag k => [.str k]
 | .cls v => [.str v]
 | .idn v => [.str v]
 | .attr k v o i => [.str k, .str v, .str o, .bool i]
 | .nth a b l t => [.int .i64 a, .int .i64 b, .bool l, .bool t]
 | .only t => [.bool t]
 | .lang v => [.str v]
 | .contains v o => [.str v, .bool o]
 | .never v => [.str v]
 | .rel n ks => [.str n, .sl (.csels ks)]
 | .compound ks pe => [.sl (.csels ks), .str pe]
 | .combined f c s => [.cs f, .byt c, .cs s]
 | _ => []
def CSel.enc (x : CSel) : SV := .iface x.ty (.agg x.cells)
structure Wit where
 Γ : Nat -> Option (Array Value × TypeId)
 ρ : Nat -> Nat
 σ : Nat -> Value
 n : Nat
inductive Rel (ω : Wit) : SV -> Value -> Prop
 | undef (v : Value) : Rel ω .undef v
 | int (k : IntKind) (n : Int) : Rel ω (.int k n) (.int k n)
 | bool (b : Bool) : Rel ω (.bool b) (.bool b)
 | str (l : List UInt8) : Rel ω (.str l) (.string ⟨l.toArray⟩)
 | ptr (r o : Nat) (hr : r < ω.n) : Rel ω (.ptr r o) (.pointer (some ⟨ω.ρ r, o, none⟩))
 | nilptr : Rel ω .nilptr (.pointer none)
 | agg (cs : List SV) (vs : Array Value) (hn : vs.size = cs.length) (h : ∀ (i : Nat) (s : SV) (v : Value), cs[i]? = some s -> vs[i]? = some v -> Rel ω s v) : Rel ω (.agg cs) (.agg vs)
 | tup (cs : List SV) (vs : Array Value) (hn : vs.size = cs.length) (h : ∀ (i : Nat) (s : SV) (v : Value), cs[i]? = some s -> vs[i]? = some v -> Rel ω s v) : Rel ω (.tup cs) (.tuple vs)
 | iface (t : TypeId) (s : SV) (v : Value) (h : Rel ω s v) : Rel ω (.iface t s) (.iface t v)
 | nilif : Rel ω .nilif .nilIface
 | ifx (t : TypeId) (v : Value) : Rel ω .ifx (.iface t v)
 | nilsl : Rel ω .nilsl (.slice none 0 0)
 | slz (x : RV) (a : Option Addr) (c : Nat) (h : x.len = 0) : Rel ω (.sl x) (.slice a 0 c)
 | sl (x : RV) (b o c : Nat) (vs : Array Value) (T : TypeId) (hΓ : ω.Γ b = some (vs, T)) (hn : o + x.len * x.z <= vs.size) (hc : x.len <= c)
  (h : ∀ (i j : Nat) (s : SV) (v : Value), i < x.len -> (x.cell i)[j]? = some s -> vs[o + (i * x.z + j)]? = some v -> Rel ω s v) : Rel ω (.sl x) (.slice (some ⟨b, o, none⟩) x.len c)
 | cp (cs : List SV) (b o : Nat) (vs : Array Value) (T : TypeId) (hΓ : ω.Γ b = some (vs, T)) (hn : o + cs.length <= vs.size)
  (h : ∀ (j : Nat) (s : SV) (v : Value), cs[j]? = some s -> vs[o + j]? = some v -> Rel ω s v) : Rel ω (.cp cs) (.pointer (some ⟨b, o, none⟩))
 | own (r : Nat) (hr : r < ω.n) : Rel ω (.own r) (ω.σ r)
 | rp (r i z o : Nat) (hr : r < ω.n) : Rel ω (.rp r i z o) (.pointer (some ⟨ω.ρ r, i * z + o, none⟩))
 | cs (x : CSel) (v : Value) (h : Rel ω x.enc v) : Rel ω (.cs x) v
 | gd (c : Bool) (s : SV) (v : Value) (h : c = true -> Rel ω s v) (h' : c = false -> v = Go.undef) : Rel ω (.gd c s) v
 | op (v : Value) : Rel ω (.op v) v
 | nat (n : Nat) : Rel ω (.nat n) (.int .i64 n)
 | byt (c : UInt8) : Rel ω (.byt c) (.int .u8 c.toNat)
 | gk (j : Nat) (b : Bool) (s : SV) (v : Value) : Rel ω (.gk j b s) v
theorem Rel.nat_inv {ω : Wit} {n : Nat} {v : Value} (h : Rel ω (.nat n) v) : v = .int .i64 n := by cases h; rfl
theorem Rel.byt_inv {ω : Wit} {c : UInt8} {v : Value} (h : Rel ω (.byt c) v) : v = .int .u8 c.toNat := by cases h; rfl
structure Wit.le (ω ω' : Wit) : Prop where
 Γ : ∀ b x, ω.Γ b = some x -> ω'.Γ b = some x
 n : ω.n <= ω'.n
 ρ : ∀ r, r < ω.n -> ω'.ρ r = ω.ρ r
 σ : ∀ r, r < ω.n -> ω'.σ r = ω.σ r
theorem Wit.le.refl (ω : Wit) : ω.le ω := ⟨fun _ _ h => h, zq _, fun _ _ => rfl, fun _ _ => rfl⟩
theorem Wit.le.trans {a b c : Wit} (h : a.le b) (k : b.le c) : a.le c :=
 ⟨fun _ _ e => k.Γ _ _ (h.Γ _ _ e), Nat.le_trans h.n k.n, fun r hr => (k.ρ r (zS hr h.n)).trans (h.ρ r hr),
  fun r hr => (k.σ r (zS hr h.n)).trans (h.σ r hr)⟩
theorem Rel.mono {ω ω' : Wit} (hl : ω.le ω') {s : SV} {v : Value} (h : Rel ω s v) : Rel ω' s v := by
 induction h with
 | undef v => exact .undef v
 | int k n => exact .int k n
 | bool b => exact .bool b
 | str l => exact .str l
 | ptr r o hr => rw [<- hl.ρ r hr]; exact .ptr r o (zS hr hl.n)
 | nilptr => exact .nilptr
 | agg cs vs hn _ ih => exact .agg cs vs hn fun i s v h1 h2 => ih i s v h1 h2
 | tup cs vs hn _ ih => exact .tup cs vs hn fun i s v h1 h2 => ih i s v h1 h2
 | iface t s v _ ih => exact .iface t s v ih
 | nilif => exact .nilif
 | ifx t v => exact .ifx t v
 | nilsl => exact .nilsl
 | slz x a c h => exact .slz x a c h
 | sl x b o c vs T hΓ hn hc _ ih => exact .sl x b o c vs T (hl.Γ _ _ hΓ) hn hc fun i j s v h0 h1 h2 => ih i j s v h0 h1 h2
 | cp cs b o vs T hΓ hn _ ih => exact .cp cs b o vs T (hl.Γ _ _ hΓ) hn fun j s v h1 h2 => ih j s v h1 h2
 | own r hr => rw [<- hl.σ r hr]; exact .own r (zS hr hl.n)
 | rp r i z o hr => rw [<- hl.ρ r hr]; exact .rp r i z o (zS hr hl.n)
 | cs x v _ ih => exact .cs x v ih
 | gd c s v _ hu ih => exact .gd c s v (fun hc => ih hc) hu
 | op v => exact .op v
 | nat n => exact .nat n
 | byt c => exact .byt c
 | gk j b s v => exact .gk j b s v
mutual
def SV.lt (n : Nat) : SV -> Bool
 | .ptr r _ => decide (r < n)
 | .own r => decide (r < n)
 | .rp r _ _ _ => decide (r < n)
 | .agg l => SV.lts n l
 | .tup l => SV.lts n l
 | .cp l => SV.lts n l
 | .iface _ v => v.lt n
 | .gd _ s => s.lt n
 | _ => true
def SV.lts (n : Nat) : List SV -> Bool
 | [] => true
 | x :: l => x.lt n && SV.lts n l
end
theorem SV.lts_get {n : Nat} : ∀ {l : List SV}, SV.lts n l = true -> ∀ (i : Nat) (s : SV), l[i]? = some s -> s.lt n = true
 | [], _, i, s, h => by simp at h
 | x :: l, hl, i, s, h => by
  simp only [SV.lts, zh] at hl
  cases i with
  | zero => simp at h; rw [<- h]; exact hl.1
  | succ i => exact SV.lts_get hl.2 i s (by simpa using h)
theorem RV.cell_lts (n : Nat) (x : RV) (i : Nat) : SV.lts n (x.cell i) = true := by cases x <;> simp [RV.cell, Vq, SV.lts, SV.lt]
theorem CSel.enc_lt (n : Nat) (x : CSel) : x.enc.lt n = true := by cases x <;> simp [CSel.enc, CSel.cells, SV.lts, SV.lt]
theorem Rel.lower {ω : Wit} {m : Nat} {s : SV} {v : Value} (h : Rel ω s v) (hs : s.lt m = true) : Rel { ω with n := m } s v := by
 induction h with
 | undef v => exact .undef v
 | int k n => exact .int k n
 | bool b => exact .bool b
 | str l => exact .str l
 | ptr r o hr => exact .ptr (ω := { ω with n := m }) r o (by simpa [SV.lt] using hs)
 | nilptr => exact .nilptr
 | agg cs vs hn _ ih => exact .agg cs vs hn fun i s v h1 h2 => ih i s v h1 h2 (SV.lts_get (by simpa [SV.lt] using hs) i s h1)
 | tup cs vs hn _ ih => exact .tup cs vs hn fun i s v h1 h2 => ih i s v h1 h2 (SV.lts_get (by simpa [SV.lt] using hs) i s h1)
 | iface t s v _ ih => exact .iface t s v (ih (by simpa [SV.lt] using hs))
 | nilif => exact .nilif
 | ifx t v => exact .ifx t v
 | nilsl => exact .nilsl
 | slz x a c h => exact .slz x a c h
 | sl x b o c vs T hΓ hn hc _ ih => exact .sl x b o c vs T hΓ hn hc fun i j s v h0 h1 h2 => ih i j s v h0 h1 h2 (SV.lts_get (RV.cell_lts m x i) j s h1)
 | cp cs b o vs T hΓ hn _ ih => exact .cp cs b o vs T hΓ hn fun j s v h1 h2 => ih j s v h1 h2 (SV.lts_get (by simpa [SV.lt] using hs) j s h1)
 | own r hr => exact .own (ω := { ω with n := m }) r (by simpa [SV.lt] using hs)
 | rp r i z o hr => exact .rp (ω := { ω with n := m }) r i z o (by simpa [SV.lt] using hs)
 | cs x v _ ih => exact .cs x v (ih (CSel.enc_lt m x))
 | gd c s v _ hu ih => exact .gd c s v (fun hc => ih hc (by simpa [SV.lt] using hs)) hu
 | op v => exact .op v
 | nat n => exact .nat n
 | byt c => exact .byt c
 | gk j b s v => exact .gk j b s v
end
section
open Go Go.RowKit
abbrev Env := List (List SV)
def lk1 : List SV -> Nat -> Option SV
 | [], _ => none
 | x :: _, 0 => some x
 | _ :: l, n + 1 => lk1 l n
def lk2 : Env -> Nat -> Nat -> Option SV
 | [], _, _ => none
 | x :: _, 0, j => lk1 x j
 | _ :: l, n + 1, j => lk2 l n j
def pt1 : List SV -> Nat -> SV -> List SV
 | [], _, _ => []
 | _ :: l, 0, v => v :: l
 | x :: l, n + 1, v => x :: pt1 l n v
def pt2 : Env -> Nat -> Nat -> SV -> Env
 | [], _, _, _ => []
 | x :: l, 0, j, v => pt1 x j v :: l
 | x :: l, n + 1, j, v => x :: pt2 l n j v
def elk (e : Env) (i : Nat) : Option SV := lk2 e (i / 16) (i % 16)
def ept (e : Env) (i : Nat) (v : SV) : Env := pt2 e (i / 16) (i % 16) v
def Qlk : Option SV -> SV
 | some s => s
 | none => .undef
def Zf (e : Env) (i : Nat) : SV := Qlk (elk e i)
theorem QpA (l : List SV) : ∀ (i j : Nat) (v s : SV), lk1 (pt1 l i v) j = some s -> (i = j /\ s = v) \/ (i ≠ j /\ lk1 l j = some s) := by
 induction l with
 | nil => intro i j v s h; simp [pt1, lk1] at h
 | cons x l ih =>
  intro i j v s h
  cases i with
  | zero => cases j with
   | zero => simp [pt1, lk1] at h; exact .inl ⟨rfl, h.symm⟩
   | succ j => simp [pt1, lk1] at h; exact .inr ⟨by omega, h⟩
  | succ i => cases j with
   | zero => simp [pt1, lk1] at h; exact .inr ⟨by omega, by simp [lk1, h]⟩
   | succ j =>
    simp [pt1, lk1] at h
    rcases ih i j v s h with ⟨h1, h2⟩ | ⟨h1, h2⟩
    . exact .inl ⟨by omega, h2⟩
    exact .inr ⟨by omega, h2⟩
theorem Qpy (l : Env) : ∀ (i i' j j' : Nat) (v s : SV), lk2 (pt2 l i i' v) j j' = some s -> (i = j /\ i' = j' /\ s = v) \/ (¬ (i = j /\ i' = j') /\ lk2 l j j' = some s) := by
 induction l with
 | nil => intro i i' j j' v s h; simp [pt2, lk2] at h
 | cons x l ih =>
  intro i i' j j' v s h
  cases i with
  | zero => cases j with
   | zero =>
    simp [pt2, lk2] at h
    rcases QpA x i' j' v s h with ⟨h1, h2⟩ | ⟨h1, h2⟩
    . exact .inl ⟨rfl, h1, h2⟩
    exact .inr ⟨by omega, h2⟩
   | succ j => simp [pt2, lk2] at h; exact .inr ⟨by omega, h⟩
  | succ i => cases j with
   | zero => simp [pt2, lk2] at h; exact .inr ⟨by omega, by simp [lk2, h]⟩
   | succ j =>
    simp [pt2, lk2] at h
    rcases ih i i' j j' v s h with ⟨h1, h2⟩ | ⟨h1, h2⟩
    . exact .inl ⟨by omega, h2⟩
    exact .inr ⟨by omega, h2⟩
theorem QcF {e : Env} {i j : Nat} {v s : SV} (h : elk (ept e i v) j = some s) : (i = j /\ s = v) \/ (i ≠ j /\ elk e j = some s) := by
 rcases Qpy e _ _ _ _ v s h with ⟨h1, h2, h3⟩ | ⟨h1, h2⟩
 exact .inl ⟨by omega, h3⟩
 exact .inr ⟨by rintro rfl; exact h1 ⟨rfl, rfl⟩, h2⟩
theorem QfU (l : List SV) : ∀ (i j : Nat) (v s : SV), lk1 (pt1 l i v) j = some s -> ∃ s', lk1 l j = some s' := by
 induction l with
 | nil => intro i j v s h; simp [pt1, lk1] at h
 | cons x l ih =>
  intro i j v s h
  cases i <;> cases j <;> simp [pt1, lk1] at h ⊢
  exact ⟨_, h⟩
  exact ih _ _ _ _ h
theorem QfS (l : Env) : ∀ (i i' j j' : Nat) (v s : SV), lk2 (pt2 l i i' v) j j' = some s -> ∃ s', lk2 l j j' = some s' := by
 induction l with
 | nil => intro i i' j j' v s h; simp [pt2, lk2] at h
 | cons x l ih =>
  intro i i' j j' v s h
  cases i <;> cases j <;> simp [pt2, lk2] at h ⊢
  exact QfU _ _ _ _ _ h
  exact ⟨_, h⟩
  exact ⟨_, h⟩
  exact ih _ _ _ _ _ _ h
theorem Ze {e : Env} {i j : Nat} {v s : SV} (h : elk (ept e i v) j = some s) : ∃ s', elk e j = some s' := QfS e _ _ _ _ v s h
def Qjg (f : SV -> SV) (e : Env) : Env := e.map (·.map f)
theorem QpB (f : SV -> SV) (l : List SV) : ∀ j, lk1 (l.map f) j = (lk1 l j).map f := by
 induction l with
 | nil => intro j; rfl
 | cons x l ih => intro j; cases j <;> simp [lk1, ih]
theorem Qpz (f : SV -> SV) (l : Env) : ∀ i j, lk2 (l.map (·.map f)) i j = (lk2 l i j).map f := by
 induction l with
 | nil => intro i j; rfl
 | cons x l ih => intro i j; cases i <;> simp [lk2, ih, QpB]
theorem YO (f : SV -> SV) (e : Env) (j : Nat) : elk (Qjg f e) j = (elk e j).map f := Qpz f e _ _
inductive SB where
 | blk (T : TypeId) (cs : List SV)
 | row (x : RV) (app : Bool)
abbrev Heap := List (Nat × SB)
def hlk : Heap -> Nat -> Option SB
 | [], _ => none
 | (r, b) :: h, q => if r = q then some b else hlk h q
def hpt : Heap -> Nat -> SB -> Heap
 | [], _, _ => []
 | (r, b) :: h, q, b' => if r = q then (r, b') :: h else (r, b) :: hpt h q b'
def ZM : Heap -> Nat -> Heap
 | [], _ => []
 | (r, b) :: h, q => if r = q then ZM h q else (r, b) :: ZM h q
theorem Qf6 {h : Heap} {q r : Nat} {b s : SB} (e : hlk (hpt h q b) r = some s) : (q = r /\ s = b /\ ∃ b0, hlk h r = some b0) \/ (q ≠ r /\ hlk h r = some s) := by
 induction h with
 | nil => simp [hpt, hlk] at e
 | cons x h ih =>
  obtain ⟨r', b'⟩ := x
  simp only [hpt] at e
  split at e
  rename_i hq
  subst hq
  simp only [hlk] at e ⊢
  split at e
  rename_i hr
  subst hr
  exact .inl ⟨rfl, by simpa using e.symm, b', by simp⟩
  rename_i hr
  rw [if_neg hr]
  exact .inr ⟨hr, e⟩
  rename_i hq
  simp only [hlk] at e ⊢
  split at e
  rename_i hr
  subst hr
  rw [if_pos rfl]
  exact .inr ⟨fun h => hq h.symm, e⟩
  rename_i hr
  rw [if_neg hr]
  exact ih e
theorem V2 {h : Heap} {q r : Nat} {s : SB} (e : hlk (ZM h q) r = some s) : q ≠ r /\ hlk h r = some s := by
 induction h with
 | nil => simp [ZM, hlk] at e
 | cons x h ih =>
  obtain ⟨r', b'⟩ := x
  simp only [ZM] at e
  split at e
  rename_i hq
  subst hq
  obtain ⟨h1, h2⟩ := ih e
  exact ⟨h1, by simp only [hlk]; rw [if_neg h1]; exact h2⟩
  rename_i hq
  simp only [hlk] at e ⊢
  split at e
  rename_i hr
  subst hr
  exact ⟨fun h => hq h.symm, by rw [if_pos rfl]; exact e⟩
  rename_i hr
  obtain ⟨h1, h2⟩ := ih e
  exact ⟨h1, by rw [if_neg hr]; exact h2⟩
def UQ (ω : Wit) (w : World) (v : Value) (x : RV) (app : Bool) : Prop :=
 (v = .slice none 0 0 /\ x.len = 0) \/
 ∃ g cap cur fr, v = .slice (some ⟨g, 0, none⟩) x.len cap /\ w.heap[g]? = some (.cells cur x.elem fr) /\ (if app then fr = (0, 0) else (fr = (0, 0) \/ cur.size <= fr.1)) /\
  x.len <= cap /\ cap <= maxLen /\ cur.size = cap * x.z /\
  ∀ (i j : Nat) (s : SV) (u : Value), i < x.len -> (x.cell i)[j]? = some s -> cur[i * x.z + j]? = some u -> Rel ω s u
def QkI (ω : Wit) (w : World) (b : Nat) (T : TypeId) (cs : List SV) : Prop :=
 ∃ vs : Array Value, w.heap[b]? = some (.cells vs T) /\ vs.size = cs.length /\ ∀ (i : Nat) (s : SV) (u : Value), cs[i]? = some s -> vs[i]? = some u -> Rel ω s u
def Qcl (ω : Wit) (w : World) (r : Nat) : SB -> Prop
 | .blk T cs => QkI ω w (ω.ρ r) T cs
 | .row x app => UQ ω w (ω.σ r) x app /\ ∀ b, (ω.σ r).ownBlock = some b -> ω.ρ r = b
def bl (ω : Wit) (r : Nat) : SB -> Option Nat
 | .blk _ _ => some (ω.ρ r)
 | .row _ _ => (ω.σ r).ownBlock
structure SS where
 env : Env
 heap : Heap
 nx : Nat
structure Frame (w0 : World) (M : Nat -> Prop) (w : World) : Prop where
 os : w.os = w0.os
 tape : w.tape = w0.tape
 output : w.output = w0.output
 size : w0.heap.size <= w.heap.size
 block : ∀ k, k < w0.heap.size -> ¬ M k -> w.heap[k]? = w0.heap[k]?
theorem Frame.refl (w : World) (M : Nat -> Prop) : Frame w M w := ⟨rfl, rfl, rfl, zq _, fun _ _ _ => rfl⟩
def QhV (g : Nat) : Bool := decide (g < 3) || decide (g = 4) || decide (g = 5)
structure Glob where
 G : Nat -> Option (Array Value × TypeId)
 err : ∀ g, QhV g = true -> ∃ t v T, G g = some (#[.iface t v], T)
 D : List Deferred
 tab : ∃ T, G 6 = some (((zH 20).map fun i => Value.int .u64 ((10 ^ i : Nat) : Int)).toArray, T)
structure Sim (g0 : Glob) (w0 : World) (M : Nat -> Prop) (ω : Wit) (S : SS) (a : Act) (w : World) : Prop where
 env : ∀ i s, elk S.env i = some s -> ∃ v, a.tmps[i]? = some v /\ Rel ω s v
 heap : ∀ r b, hlk S.heap r = some b -> Qcl ω w r b
 sep : ∀ r r' b b' k, hlk S.heap r = some b -> hlk S.heap r' = some b' -> bl ω r b = some k -> bl ω r' b' = some k -> r = r'
 ng : ∀ r b k, hlk S.heap r = some b -> bl ω r b = some k -> ω.Γ k = none
 mine : ∀ r b k, hlk S.heap r = some b -> bl ω r b = some k -> M k \/ w0.heap.size <= k
 nx : ∀ r b, hlk S.heap r = some b -> r < S.nx
 wn : ω.n = S.nx
 gam : ∀ b c T, ω.Γ b = some (c, T) -> ∃ fr, w.heap[b]? = some (.cells c T fr)
 fr : Frame w0 M w
 df : a.defers = g0.D
 gl : ∀ b x, g0.G b = some x -> ω.Γ b = some x
 gn : ∀ b x, ω.Γ b = some x -> g0.G b = some x \/ M b \/ w0.heap.size <= b
 pin : ∀ k, M k -> ω.ρ 0 = k
 n0 : 0 < S.nx
theorem Act.put_some (a : Act) (d : Nat) (v : Value) : (a.put (some d) v).tmps = a.tmps.setIfInBounds d v := rfl
theorem Sim.put {g0 : Glob} {w0 : World} {M : Nat -> Prop} {ω : Wit} {S : SS} {a : Act} {w : World} (h : Sim g0 w0 M ω S a w) {s : SV} {v : Value} (hr : Rel ω s v) (d : Nat) :
 Sim g0 w0 M ω { S with env := ept S.env d s } (a.put (some d) v) w := by
 refine { h with env := fun i t ht => ?_, df := h.df }
 rcases QcF ht with ⟨rfl, rfl⟩ | ⟨hne, ht'⟩
 obtain ⟨s', hs'⟩ := Ze ht
 obtain ⟨v', hv', _⟩ := h.env _ _ hs'
 have hlt : d < a.tmps.size := (zA.1 hv').1
 exact ⟨v, by simp [Act.put_some, hlt], hr⟩
 obtain ⟨v', hv', hr'⟩ := h.env _ _ ht'
 exact ⟨v', by rw [Act.put_some, Array.getElem?_setIfInBounds_ne hne]; exact hv', hr'⟩
end
end Go.Proofs.YtengepcafdnalaaGreatDoor
