/-
  Parts of the proof that the law FnParseOne holds for every input (texts Eu, Ev). Conditions: none.
-/
import Derived.Test.YtengepcafdnalaaGreatDoorM10
namespace Go.Proofs.YtengepcafdnalaaGreatDoor
section
open Go Go.RowKit
abbrev FR := Option (List Prop × Out × Option SB)
inductive CSpec where
 | plain (P : Spec)
 | pure (f : List SV → Option SB → QR)
 | fn (f : List SV → Option SB → FR)
 | own (E : TypeId) (P : Spec)
def fnP (f : List SV → Option SB → FR) (svs : List SV) (c : Option SB) : Prop :=
 match f svs c with
 | some (ps, _) => andl ps
 | none => False
def fnO (f : List SV → Option SB → FR) (svs : List SV) (c : Option SB) : Out :=
 match f svs c with
 | some (_, o, _) => o
 | none => .val .undef
def fnB (f : List SV → Option SB → FR) (svs : List SV) (c : Option SB) : Option SB :=
 match f svs c with
 | some (_, _, b) => b
 | none => none
def pureP (f : List SV → Option SB → QR) (svs : List SV) (c : Option SB) : Prop :=
 match f svs c with
 | some (ps, _) => andl ps
 | none => False
def pureR (f : List SV → Option SB → QR) (svs : List SV) (c : Option SB) : SV :=
 match f svs c with
 | some (_, v) => v
 | none => .undef
def ands : List Prop → Prop → Prop
 | [], q => q
 | p :: l, q => p ∧ ands l q
theorem ands_ok {l : List Prop} {q : Prop} (h : ands l q) : andl l ∧ q := by
 induction l with
 | nil => exact ⟨trivial, h⟩
 | cons p l ih => exact ⟨⟨h.1, (ih h.2).1⟩, (ih h.2).2⟩
def fnS (f : List SV → Option SB → FR) : Spec := fun svs c K =>
 match f svs c with
 | some (ps, o, b) => ands ps (K o b)
 | none => False
def pureS (f : List SV → Option SB → QR) : Spec := fun svs c K =>
 match f svs c with
 | some (ps, v) => ands ps (K (.val v) c)
 | none => False
abbrev Cx := List (Nat × CSpec)
def clk : Cx → Nat → Option CSpec
 | [], _ => none
 | (f, c) :: D, g => if f = g then some c else clk D g
def Has (f : FuncId) : Prop := ∃ fn c, Tryz.prog.funcs[f]? = some fn ∧ (fn.name == "runtime.NumGoroutine") = false ∧ fn.body = some c
def SatC (f : FuncId) : CSpec → Prop
 | .plain P => Sat f P
 | .pure g => Sat f (pureS g)
 | .fn g => Sat f (fnS g)
 | .own _ P => Sat f P
def CxOk (D : Cx) : Prop := ∀ f c, clk D f = some c → Has f ∧ SatC f c
theorem CxOk.nil : CxOk [] := fun _ _ h => by cases h
theorem CxOk.cons {D : Cx} {f : Nat} {c : CSpec} (hf : Has f) (hc : SatC f c) (hD : CxOk D) : CxOk ((f, c) :: D) := by
 intro g d h
 simp only [clk] at h
 split at h
 · rename_i hg; subst hg; cases h; exact ⟨hf, hc⟩
 exact hD g d h
def bb (b : Bool) (p : Prop) : Prop := cond b p False
theorem bb_ok {b : Bool} {p : Prop} (h : bb b p) : b = true ∧ p := by cases b <;> first | exact h.elim | exact ⟨rfl, h⟩
def callC (S : SS) (P : Spec) (svs : List SV) (K : SV → SS → Prop) : Prop :=
 match svs with
 | .ptr r 0 :: rest => match hlk (pubS S rest).2.heap r with
  | some (.blk T cs) => bb (SV.lts 0 (pubS S rest).1 && SV.lts 0 cs) (P (.ptr 0 0 :: (pubS S rest).1) (some (.blk T cs)) fun o b => match b with
   | some (.blk T' cs') => outK { (pubS S rest).2 with heap := hpt (pubS S rest).2.heap r (.blk T' cs') } o K
   | _ => False)
  | _ => False
 | svs => bb (SV.lts 0 (pubS S svs).1) (P (pubS S svs).1 none fun o _ => outK (pubS S svs).2 o K)
theorem callC_ok {S : SS} {P : Spec} {svs : List SV} {K : SV → SS → Prop} (h : callC S P svs K) : callK S P svs K := by
 unfold callC at h
 unfold callK
 split at h
 · split at h
   · rename_i e
     simp only [e]
     obtain ⟨h1, h2⟩ := bb_ok h
     rw [Bool.and_eq_true] at h1
     exact ⟨h1.1, h1.2, h2⟩
   exact h.elim
 split
 · exfalso
   simp_all
 obtain ⟨h1, h2⟩ := bb_ok h
 exact ⟨h1, h2⟩
theorem callC_of {S : SS} {P : Spec} {svs : List SV} {K : SV → SS → Prop} (h : callK S P svs K) : callC S P svs K := by
 have mk : ∀ {b : Bool} {p : Prop}, b = true → p → bb b p := fun {b p} hb hp => by subst hb; exact hp
 unfold callK at h
 unfold callC
 split at h
 · split at h
   · rename_i e
     simp only [e]
     exact mk (by rw [h.1, h.2.1]; rfl) h.2.2
   exact h.elim
 split
 · exfalso
   simp_all
 exact mk h.1 h.2
def own2C (S : SS) (E : TypeId) (P : Spec) (svs : List SV) (K : SV → SS → Prop) : Prop :=
 match svs with
 | [s, .own r] => match hlk (pubS S [s]).2.heap r with
  | some (.row x true) => bb (SV.lts 0 (pubS S [s]).1) (P ((pubS S [s]).1 ++ [.own 0]) (some (.row x true)) fun o _ => outK { (pubS S [s]).2 with heap := hdel (pubS S [s]).2.heap r } o K)
  | _ => False
 | [s, .nilsl] => match emptyRV E with
  | some x => bb (SV.lts 0 (pubS S [s]).1) (P ((pubS S [s]).1 ++ [.own 0]) (some (.row x true)) fun o _ => outK { (pubS S [s]).2 with nx := (pubS S [s]).2.nx + 1 } o K)
  | none => False
 | _ => False
theorem own2C_ok {S : SS} {E : TypeId} {P : Spec} {svs : List SV} {K : SV → SS → Prop} (h : own2C S E P svs K) : own2K S E P svs K := by
 unfold own2C at h
 unfold own2K
 split at h
 · split at h
   · rename_i e; simp only [e]; exact bb_ok h
   exact h.elim
 · split at h
   · rename_i e; simp only [e]; exact bb_ok h
   exact h.elim
 exact h.elim
def ownC (S : SS) (E : TypeId) (P : Spec) (svs : List SV) (K : SV → SS → Prop) : Prop :=
 match svs with
 | .own r :: rest => match hlk (pubS S rest).2.heap r with
  | some (.row x true) => bb (SV.lts 0 (pubS S rest).1) (P (.own 0 :: (pubS S rest).1) (some (.row x true)) fun o _ => outK { (pubS S rest).2 with heap := hdel (pubS S rest).2.heap r } o K)
  | _ => False
 | .nilsl :: rest => match emptyRV E with
  | some x => bb (SV.lts 0 (pubS S rest).1) (P (.own 0 :: (pubS S rest).1) (some (.row x true)) fun o _ => outK { (pubS S rest).2 with nx := (pubS S rest).2.nx + 1 } o K)
  | none => False
 | svs => own2C S E P svs K
theorem ownC_ok {S : SS} {E : TypeId} {P : Spec} {svs : List SV} {K : SV → SS → Prop} (h : ownC S E P svs K) : callOwnK S E P svs K := by
 unfold ownC at h
 unfold callOwnK
 split at h
 · split at h
   · rename_i e; simp only [e]; exact bb_ok h
   exact h.elim
 · split at h
   · rename_i e; simp only [e]; exact bb_ok h
   exact h.elim
 have := own2C_ok h
 split <;> first | exact this | (exfalso; simp_all)
def callF (D : Cx) (S : SS) (f : Nat) (svs : List SV) (K : SV → SS → Prop) : Prop :=
 match clk D f with
 | some (.plain P) => callC S P svs K
 | some (.pure g) => callC S (pureS g) svs K
 | some (.fn g) => callC S (fnS g) svs K
 | some (.own E P) => ownC S E P svs K
 | none => False
def fnOf : SV → Option Nat
 | .op (.func (.func k) a b) => if a.size = 0 ∧ b.size = 0 then some k else none
 | _ => none
def cndL (e : Env) : List Operand → Prop
 | [] => True
 | x :: l => cnd (ev e x) ∧ cndL e l
def ungd : SV → Bool
 | .gd _ _ => false
 | _ => true
theorem ungd_ok {s : SV} (h : ungd s = true) : cnd s ∧ unw s = s := by
 cases s <;> first | exact ⟨trivial, rfl⟩ | cases h
def ungds (e : Env) : List Operand → Bool
 | [] => true
 | x :: l => ungd (ev e x) && ungds e l
theorem ungds_ok {e : Env} : ∀ {l : List Operand}, ungds e l = true → cndL e l ∧ (l.map fun x => unw (ev e x)) = l.map fun x => ev e x
 | [], _ => ⟨trivial, rfl⟩
 | x :: l, h => by
  simp only [ungds, Bool.and_eq_true] at h
  obtain ⟨h1, h2⟩ := ungd_ok h.1
  obtain ⟨h3, h4⟩ := ungds_ok h.2
  exact ⟨⟨h1, h3⟩, by simp only [List.map_cons, h2, h4]⟩
abbrev HR := Option (List Prop × SV × SS)
def hArg (e : Env) (x : Operand) (f : SV → HR) : HR := cond (ungd (ev e x)) (f (ev e x)) none
def hStore (S : SS) (T : TypeId) (sa sx : SV) : HR :=
 match sa with
 | .ptr r o => match hlk S.heap r, boxCells sx, shp T with
  | some (.blk T' cs), some l, some (_, z) => cond (l.length == z && decide (o + z ≤ cs.length) && l.all flat) (some ([], .undef, { S with heap := hpt S.heap r (.blk T' (setMany cs o l)) })) none
  | _, _, _ => none
 | .rp r i z o => match hlk S.heap r with
  | some (.row x app) => match setRV x i o (fitS x sx) with
   | some x' => cond (z == x.z && (match shp T with | some (false, 1) => true | _ => false)) (some ([i < x.len], .undef, { S with heap := hpt S.heap r (.row x' app) })) none
   | none => none
  | _ => none
 | _ => none
def hApp (S : SS) (T T' : TypeId) (s x : SV) : HR :=
 match dstOf (pub1 S.heap x).2 T s, srcOf T T' (pub1 S.heap x).1 with
 | some (ro, y), some (some z) => match y.app z with
  | some r => cond (sltB T y.elem y.z) (some ([y.len + z.len ≤ 1099511627776], .own S.nx, { S with heap := (S.nx, .row r true) :: hdelO (pub1 S.heap x).2 ro, nx := S.nx + 1 })) none
  | none => none
 | some (ro, y), some none => cond (sltB T y.elem y.z) (some ([], .own S.nx, { S with heap := (S.nx, .row y true) :: hdelO (pub1 S.heap x).2 ro, nx := S.nx + 1 })) none
 | _, _ => none
def hCpy (S : SS) (T T' : TypeId) (s x : SV) : HR :=
 match s, x with
 | .own r, .str t => match hlk S.heap r with
  | some (.row (.bytes l) true) => cond (T == 37 && T' == 9) (some ([l.length = t.length], .nat t.length, { S with heap := hpt S.heap r (.row (.bytes t) true) })) none
  | _ => none
 | _, _ => none
def he (S : SS) (op : Op) : HR :=
 match op with
 | .alloc T => (zt T).map fun z => ([], .ptr S.nx 0, { S with heap := (S.nx, .blk T z) :: S.heap, nx := S.nx + 1 })
 | .box T x => hArg S.env x fun s => (boxCells (pub1 S.heap s).1).map fun l => ([], .ptr S.nx 0, { S with heap := (S.nx, .blk T l) :: (pub1 S.heap s).2, nx := S.nx + 1 })
 | .store T x y => hArg S.env x fun sx => hArg S.env y fun sy => hStore S T sx sy
 | .buildSlice T n ps => cond (decide ((ps.toList.map fun p => (p.1, ev S.env p.2)).map (·.1) = List.range' 0 n) && decide (0 < n) && decide (n ≤ 1000))
  ((rowOf' T (pubL S.heap ((ps.toList.map fun p => (p.1, ev S.env p.2)).map (·.2))).1).map fun x =>
   ([], .own S.nx, { S with heap := (S.nx, .row x true) :: (pubL S.heap ((ps.toList.map fun p => (p.1, ev S.env p.2)).map (·.2))).2, nx := S.nx + 1 })) none
 | .convert s d x => hArg S.env x fun u => match u with
  | .str l => cond (s == 9 && d == 37) (some ([l.length ≤ 1099511627776], .own S.nx, { S with heap := (S.nx, .row (.bytes l) false) :: S.heap, nx := S.nx + 1 })) none
  | _ => none
 | .makeSlice T l c => hArg S.env l fun sl => hArg S.env c fun sc => match sl, sc with
  | .nat n, .nat m => (zeroRow T n).map fun x => ([n = m, n ≤ 1099511627776], .own S.nx, { S with heap := (S.nx, .row x true) :: S.heap, nx := S.nx + 1 })
  | _, _ => none
 | .call c => match c.callee, c.args.toList, c.argTypes.toList with
  | .builtin .append, [x, y], [T, T'] => hArg S.env x fun sx => hArg S.env y fun sy => hApp S T T' sx sy
  | .builtin .copy, [x, y], [T, T'] => hArg S.env x fun sx => hArg S.env y fun sy => hCpy S T T' sx sy
  | _, _, _ => none
 | _ => none
theorem hArg_some {e : Env} {x : Operand} {f : SV → HR} {r : List Prop × SV × SS} (h : hArg e x f = some r) : f (ev e x) = some r ∧ cnd (ev e x) ∧ unw (ev e x) = ev e x := by
 unfold hArg at h
 cases hu : ungd (ev e x) with
 | false => rw [hu] at h; cases h
 | true => rw [hu] at h; exact ⟨h, ungd_ok hu⟩
theorem hArg_arg {e : Env} {x : Operand} {f : SV → HR} {r : List Prop × SV × SS} {K : SV → Prop} (h : hArg e x f = some r) (hk : f (ev e x) = some r → K (ev e x)) : arg e x K := by
 obtain ⟨h1, h2, h3⟩ := hArg_some h
 exact ⟨h2, by rw [h3]; exact hk h1⟩
theorem cond_some {α : Type} {b : Bool} {x : Option α} {y : α} (h : cond b x none = some y) : b = true ∧ x = some y := by
 cases b
 · cases h
 exact ⟨rfl, h⟩
theorem he_ok {S : SS} {op : Op} {ps : List Prop} {v : SV} {S' : SS} (h : he S op = some (ps, v, S')) (hp : andl ps) : hv S op fun s R => s = v ∧ R = S' := by
 cases op <;> simp only [he, reduceCtorEq] at h <;> simp only [hv]
 case alloc T =>
  simp only [Option.map_eq_some_iff] at h
  obtain ⟨z, h1, h2⟩ := h
  cases h2
  simp only [allocK, h1]
  exact ⟨trivial, trivial⟩
 case box T x =>
  refine hArg_arg h fun h => ?_
  simp only [Option.map_eq_some_iff] at h
  obtain ⟨l, h1, h2⟩ := h
  cases h2
  simp only [h1]
  exact ⟨trivial, trivial⟩
 case store T x y =>
  refine hArg_arg h fun h => hArg_arg h fun h => ?_
  generalize ev S.env x = sa at h ⊢
  generalize ev S.env y = sy at h ⊢
  unfold hStore at h
  unfold storeK
  split at h
  · split at h
    · rename_i e1 e2 e3
      simp only [e1, e2, e3]
      obtain ⟨h1, h2⟩ := cond_some h
      cases h2
      simp only [Bool.and_eq_true, beq_iff_eq, decide_eq_true_eq] at h1
      exact ⟨h1.1.1, h1.1.2, h1.2, rfl, rfl⟩
    cases h
  · split at h
    · rename_i e1
      split at h
      · rename_i e2
        simp only [e1, e2]
        obtain ⟨h1, h2⟩ := cond_some h
        cases h2
        simp only [Bool.and_eq_true, beq_iff_eq] at h1
        refine ⟨hp.1, h1.1, ?_, rfl, rfl⟩
        have h3 := h1.2
        split at h3
        · rename_i e; exact e
        cases h3
      cases h
    cases h
  cases h
 case buildSlice T n qs =>
  obtain ⟨h1, h2⟩ := cond_some h
  simp only [Option.map_eq_some_iff] at h2
  obtain ⟨x, h3, h4⟩ := h2
  cases h4
  simp only [Bool.and_eq_true, decide_eq_true_eq] at h1
  refine ⟨h1.1.1, h1.1.2, h1.2, ?_⟩
  simp only [h3]
  exact ⟨trivial, trivial⟩
 case convert s d x =>
  refine hArg_arg h fun h => ?_
  generalize ev S.env x = sa at h ⊢
  unfold bytesK
  split at h
  · rename_i l
    simp only
    obtain ⟨h1, h2⟩ := cond_some h
    cases h2
    simp only [Bool.and_eq_true, beq_iff_eq] at h1
    exact ⟨h1.1, h1.2, hp.1, rfl, rfl⟩
  cases h
 case makeSlice T l c =>
  refine hArg_arg h fun h => hArg_arg h fun h => ?_
  generalize ev S.env l = sl at h ⊢
  generalize ev S.env c = sc at h ⊢
  unfold makeSK
  split at h
  · rename_i n m
    simp only [Option.map_eq_some_iff] at h
    obtain ⟨x, h1, h2⟩ := h
    cases h2
    refine ⟨hp.1, hp.2.1, ?_⟩
    simp only [h1]
    exact ⟨trivial, trivial⟩
  cases h
 case call c =>
  split at h
  · rename_i x y T T' e1 e2 e3
    simp only [e1, e2, e3]
    refine hArg_arg h fun h => hArg_arg h fun h => ?_
    unfold hApp at h
    unfold appK
    split at h
    · rename_i e1 e2
      simp only [e1, e2]
      split at h
      · rename_i e3
        simp only [e3]
        obtain ⟨h1, h2⟩ := cond_some h
        cases h2
        exact ⟨sltB_ok h1, hp.1, rfl, rfl⟩
      cases h
    · rename_i e1 e2
      simp only [e1, e2]
      obtain ⟨h1, h2⟩ := cond_some h
      cases h2
      exact ⟨sltB_ok h1, rfl, rfl⟩
    cases h
  · rename_i x y T T' e1 e2 e3
    simp only [e1, e2, e3]
    refine hArg_arg h fun h => hArg_arg h fun h => ?_
    unfold hCpy at h
    unfold copyK
    split at h
    · rename_i e1 e2
      simp only [e1, e2]
      split at h
      · rename_i e3
        simp only [e3]
        obtain ⟨h1, h2⟩ := cond_some h
        cases h2
        simp only [Bool.and_eq_true, beq_iff_eq] at h1
        exact ⟨h1.1, h1.2, hp.1, rfl, rfl⟩
      cases h
    cases h
  cases h
def bPub (S : SS) (T : TypeId) (ps : List (Nat × SV)) : HR :=
 (qBuild T ((ps.map (·.1)).zip (pubS S (ps.map (·.2))).1)).map fun r => (r.1, r.2, (pubS S (ps.map (·.2))).2)
def hasOwn : List (Nat × SV) → Bool
 | [] => false
 | (_, .own _) :: _ => true
 | _ :: l => hasOwn l
def oe (S : SS) (op : Op) : HR :=
 match op with
 | .alloc T => he S (.alloc T)
 | .box T x => he S (.box T x)
 | .store T x y => he S (.store T x y)
 | .buildSlice T n ps => he S (.buildSlice T n ps)
 | .makeSlice T l c => he S (.makeSlice T l c)
 | .convert s d x => cond (d == 37) (he S (.convert s d x)) ((qe S (.convert s d x)).map fun r => (r.1, r.2, S))
 | .build T ps => cond (hasOwn (ps.toList.map fun p => (p.1, ev S.env p.2))) (bPub S T (ps.toList.map fun p => (p.1, ev S.env p.2))) ((qe S (.build T ps)).map fun r => (r.1, r.2, S))
 | .call c => match c.callee with
  | .builtin .append => he S (.call c)
  | .builtin .copy => he S (.call c)
  | _ => (qe S (.call c)).map fun r => (r.1, r.2, S)
 | op => (qe S op).map fun r => (r.1, r.2, S)
def ov (D : Cx) (S : SS) (op : Op) (K : SV → SS → Prop) : Prop :=
 match op with
 | .call c => match c.callee with
  | .value f => match fnOf (ev S.env f) with
   | some k => bb (ungds S.env c.args.toList) (callF D S k (c.args.toList.map fun x => ev S.env x) K)
   | none => False
  | _ => match oe S (.call c) with
   | some (ps, s, S') => ands ps (K s S')
   | none => False
 | op => match oe S op with
  | some (ps, s, S') => ands ps (K s S')
  | none => False
def putD (S : SS) (d : Option Tmp) (s : SV) : SS :=
 match d with
 | some d => { S with env := ept S.env d s }
 | none => S
section
variable {g0 : Glob} {w0 : World} {M : Nat → Prop} {ω : Wit} {S : SS} {a : Act} {w : World}
theorem Sim.putD (h : Sim g0 w0 M ω S a w) {s : SV} {v : Value} (hr : Rel ω s v) (d : Option Tmp) : Sim g0 w0 M ω (putD S d s) (a.put d v) w := by
 cases d with
 | none => exact h
 | some d => exact h.put hr d
def Nx (g0 : Glob) (w0 : World) (M : Nat → Prop) (K : SS → Prop) (a : Act) (w : World) : Prop := ∃ ω S, K S ∧ Sim g0 w0 M ω S a w
theorem qe_wp (hS : Sim g0 w0 M ω S a w) {o : Oper} {ps : List Prop} {v : SV} (h : qe S o.op = some (ps, v)) (hp : andl ps) {Q : Exit → Act → World → Prop} :
 o.wp Tryz.prog a w (Nx g0 w0 M fun S'' => S'' = YtengepcafdnalaaGreatDoor.putD S o.dst v) Q := by
 obtain ⟨u, h2, h3⟩ := qe_ok hS h hp
 unfold Oper.wp
 rw [h3, Oper.upon_value]
 exact ⟨ω, _, rfl, hS.putD h2 _⟩
theorem hv_wp (hS : Sim g0 w0 M ω S a w) {o : Oper} {K : SV → SS → Prop} (h : hv S o.op K) {Q : Exit → Act → World → Prop} :
 o.wp Tryz.prog a w (Nx g0 w0 M fun S'' => ∃ s S', K s S' ∧ S'' = YtengepcafdnalaaGreatDoor.putD S' o.dst s) Q := by
 obtain ⟨ω', s, S', w', v, h1, h2, h3, h4⟩ := hv_ok hS h
 unfold Oper.wp
 rcases h4 with h4 | ⟨h4, rfl⟩
 · rw [h4, Oper.upon_value]
   exact ⟨ω', _, ⟨s, S', h1, rfl⟩, h2.putD h3 _⟩
 rw [h4, Oper.upon_skip]
 exact ⟨ω', _, ⟨s, S', h1, rfl⟩, h2.putD h3 _⟩
theorem he_wp (hS : Sim g0 w0 M ω S a w) {o : Oper} {ps : List Prop} {v : SV} {S' : SS} (h : he S o.op = some (ps, v, S')) (hp : andl ps) {Q : Exit → Act → World → Prop} :
 o.wp Tryz.prog a w (Nx g0 w0 M fun S'' => S'' = YtengepcafdnalaaGreatDoor.putD S' o.dst v) Q := by
 refine Oper.wp_mono (fun a' w' ⟨ω', S'', ⟨s, R, ⟨h1, h2⟩, h3⟩, h4⟩ => ⟨ω', S'', ?_, h4⟩) (hv_wp hS (he_ok h hp))
 subst h1; subst h2; exact h3
theorem bPub_wp (hS : Sim g0 w0 M ω S a w) {o : Oper} {T : TypeId} {qs : Array (Nat × Operand)} (ho : o.op = .build T qs) {ps : List Prop} {v : SV} {S' : SS}
 (h : bPub S T (qs.toList.map fun p => (p.1, YtengepcafdnalaaGreatDoor.ev S.env p.2)) = some (ps, v, S')) (hp : andl ps) {Q : Exit → Act → World → Prop} :
 o.wp Tryz.prog a w (Nx g0 w0 M fun S'' => S'' = YtengepcafdnalaaGreatDoor.putD S' o.dst v) Q := by
 unfold bPub at h
 simp only [Option.map_eq_some_iff] at h
 obtain ⟨⟨ps', v'⟩, h1, h2⟩ := h
 cases h2
 obtain ⟨ω', hl, hpl, hpr, h2⟩ := Sim.pubS ((qs.toList.map fun p => (p.1, YtengepcafdnalaaGreatDoor.ev S.env p.2)).map (·.2)) S ω hS (qs.toList.map fun p => a.eval p.2) (by simp) (fun i s v e1 e2 => by
  simp only [List.getElem?_map] at e1 e2
  cases hq : qs.toList[i]? with
  | none => rw [hq] at e1; cases e1
  | some p =>
   rw [hq] at e1 e2
   simp only [Option.map_some, Option.some.injEq] at e1 e2
   rw [← e1, ← e2]
   exact hS.ev p.2)
 obtain ⟨s, u, k1, k2, k3⟩ := build_ok (ω := ω') (vs := qs.map fun (i, x) => (i, a.eval x)) (by
  rw [List.length_zip, hpl]; simp) (fun i x y e1 e2 => by
  rw [List.getElem?_zip_eq_some] at e1
  rw [Array.toList_map, List.getElem?_map] at e2
  obtain ⟨e3, e4⟩ := e1
  simp only [List.getElem?_map] at e3
  cases hq : qs.toList[i]? with
  | none => rw [hq] at e3; cases e3
  | some p =>
   rw [hq] at e2 e3
   simp only [Option.map_some, Option.some.injEq] at e2 e3
   rw [← e2]
   refine ⟨e3.symm, hpr i x.2 _ e4 ?_⟩
   rw [List.getElem?_map, hq]
   rfl) (qBuild_K h1) w
 subst k1
 unfold Oper.wp
 have hrun : (execOp a.eval o).run Tryz.prog w = .ok (.value u) w := by
  unfold execOp
  rw [ho]
  exact val_of k3
 rw [hrun, Oper.upon_value]
 exact ⟨ω', _, rfl, h2.putD k2 _⟩
theorem oe_wp (hS : Sim g0 w0 M ω S a w) {o : Oper} {ps : List Prop} {v : SV} {S' : SS} (h : oe S o.op = some (ps, v, S')) (hp : andl ps) {Q : Exit → Act → World → Prop} :
 o.wp Tryz.prog a w (Nx g0 w0 M fun S'' => S'' = YtengepcafdnalaaGreatDoor.putD S' o.dst v) Q := by
 have quiet : ((qe S o.op).map fun r => (r.1, r.2, S)) = some (ps, v, S') → o.wp Tryz.prog a w (Nx g0 w0 M fun S'' => S'' = YtengepcafdnalaaGreatDoor.putD S' o.dst v) Q := by
  intro h
  simp only [Option.map_eq_some_iff] at h
  obtain ⟨⟨ps', v'⟩, h1, h2⟩ := h
  cases h2
  exact qe_wp hS h1 hp
 obtain ⟨op, hop⟩ : ∃ op, o.op = op := ⟨_, rfl⟩
 rw [hop] at h quiet
 cases op
 case alloc T => exact he_wp hS (by rw [hop]; exact h) hp
 case box T x => exact he_wp hS (by rw [hop]; exact h) hp
 case store T x y => exact he_wp hS (by rw [hop]; exact h) hp
 case buildSlice T n qs => exact he_wp hS (by rw [hop]; exact h) hp
 case makeSlice T l c => exact he_wp hS (by rw [hop]; exact h) hp
 case convert s d x =>
  simp only [oe] at h
  cases hd : (d == 37) with
  | true => rw [hd] at h; exact he_wp hS (by rw [hop]; exact h) hp
  | false => rw [hd] at h; exact quiet h
 case build T qs =>
  simp only [oe] at h
  cases hd : hasOwn (qs.toList.map fun p => (p.1, YtengepcafdnalaaGreatDoor.ev S.env p.2)) with
  | true => rw [hd] at h; exact bPub_wp hS hop h hp
  | false => rw [hd] at h; exact quiet h
 case call c =>
  obtain ⟨callee, args, tys⟩ := c
  cases callee with
  | builtin b =>
   by_cases hb : b = .append
   · subst hb; exact he_wp hS (by rw [hop]; exact h) hp
   by_cases hc : b = .copy
   · subst hc; exact he_wp hS (by rw [hop]; exact h) hp
   refine quiet ?_
   cases b <;> first | exact absurd rfl hb | exact absurd rfl hc | exact h
  | invoke r m => exact quiet h
  | value f => exact quiet h
 all_goals exact quiet h
theorem cndL_rel (hS : Sim g0 w0 M ω S a w) : ∀ {l : List Operand}, cndL S.env l → ∀ (i : Nat) (s : SV) (v : Value), (l.map fun x => unw (ev S.env x))[i]? = some s → (l.map a.eval)[i]? = some v → Rel ω s v
 | [], _, i, s, v, e, _ => by simp at e
 | x :: l, h, 0, s, v, e1, e2 => by
  simp only [List.map_cons, List.getElem?_cons_zero, Option.some.injEq] at e1 e2
  rw [← e1, ← e2]
  exact rel_unw (hS.ev x) h.1
 | x :: l, h, i + 1, s, v, e1, e2 => cndL_rel hS h.2 i s v (by simpa using e1) (by simpa using e2)
theorem callF_ok {D : Cx} (hD : CxOk D) (hS : Sim g0 w0 M ω S a w) {f : Nat} {svs : List SV} {args : Array Value} (hn : args.size = svs.length)
 (hr : ∀ (i : Nat) (s : SV) (v : Value), svs[i]? = some s → args[i]? = some v → Rel ω s v) {K : SV → SS → Prop} (hk : callF D S f svs K) :
 Has f ∧ Calls Tryz.prog f args w fun e w' => ∃ v, e = .returned v ∧ OGood g0 w0 M a K v w' := by
 unfold callF at hk
 split at hk
 · rename_i P hc
   obtain ⟨h1, h2⟩ := hD f _ hc
   exact ⟨h1, Sat.call h2 hS hn hr (callC_ok hk)⟩
 · rename_i g hc
   obtain ⟨h1, h2⟩ := hD f _ hc
   exact ⟨h1, Sat.call h2 hS hn hr (callC_ok hk)⟩
 · rename_i g hc
   obtain ⟨h1, h2⟩ := hD f _ hc
   exact ⟨h1, Sat.call h2 hS hn hr (callC_ok hk)⟩
 · rename_i E P hc
   obtain ⟨h1, h2⟩ := hD f _ hc
   exact ⟨h1, Sat.callOwn h2 hS hn hr (ownC_ok hk)⟩
 exact hk.elim
theorem Rel.op_inv {u v : Value} (h : Rel ω (.op v) u) : u = v := by cases h; rfl
theorem call_wp {D : Cx} (hD : CxOk D) (hS : Sim g0 w0 M ω S a w) {o : Oper} {c : Call} (ho : o.op = .call c) {f : Operand} (hf : c.callee = .value f) {k : Nat} (hk : fnOf (ev S.env f) = some k) (hc : cndL S.env c.args.toList)
 {K : SV → SS → Prop} (h : callF D S k (c.args.toList.map fun x => unw (ev S.env x)) K) {Q : Exit → Act → World → Prop} :
 o.wp Tryz.prog a w (Nx g0 w0 M fun S'' => ∃ s S', K s S' ∧ S'' = YtengepcafdnalaaGreatDoor.putD S' o.dst s) Q := by
 have hv := hS.ev f
 have hval : a.eval f = .func (.func k) #[] #[] := by
  unfold fnOf at hk
  split at hk
  · rename_i k' x y he
    split at hk
    · rename_i hsz
      cases hk
      rw [he] at hv
      rw [hv.op_inv]
      have h1 : x = #[] := Array.eq_empty_of_size_eq_zero hsz.1
      have h2 : y = #[] := Array.eq_empty_of_size_eq_zero hsz.2
      rw [h1, h2]
    cases hk
  cases hk
 obtain ⟨⟨fn, code, k1, k2, k3⟩, h2⟩ := callF_ok hD hS (args := c.args.map a.eval) (by simp) (fun i s v e1 e2 => cndL_rel hS hc i s v e1 (by rw [← Array.toList_map]; simpa using e2)) h
 have hrun : (execOp a.eval o).run Tryz.prog w = .ok (.enter k (c.args.map a.eval)) w := by
  have hne : fn.name ≠ "runtime.NumGoroutine" := by simpa using k2
  unfold execOp
  rw [ho]
  simp [resolve, hf, hval, Deferred.ofValue, invoke, callFunc, k1, k3, hne]
 unfold Oper.wp
 rw [hrun, Oper.upon_enter]
 refine h2.mono fun e w' ⟨v, he, ω', s, S', q1, q2, q3⟩ => ?_
 subst he
 exact ⟨ω', _, ⟨s, S', q1, rfl⟩, q2.putD q3 _⟩
theorem ov_wp {D : Cx} (hD : CxOk D) (hS : Sim g0 w0 M ω S a w) {o : Oper} {K : SV → SS → Prop} (h : ov D S o.op K) {Q : Exit → Act → World → Prop} :
 o.wp Tryz.prog a w (Nx g0 w0 M fun S'' => ∃ s S', K s S' ∧ S'' = YtengepcafdnalaaGreatDoor.putD S' o.dst s) Q := by
 have gen : (match oe S o.op with | some (ps, s, S') => ands ps (K s S') | none => False) → o.wp Tryz.prog a w (Nx g0 w0 M fun S'' => ∃ s S', K s S' ∧ S'' = YtengepcafdnalaaGreatDoor.putD S' o.dst s) Q := by
  intro h
  split at h
  · rename_i ps s S' e
    obtain ⟨h1, h2⟩ := ands_ok h
    exact Oper.wp_mono (fun a' w' ⟨ω', S'', h3, h4⟩ => ⟨ω', S'', ⟨s, S', h2, h3⟩, h4⟩) (oe_wp hS e h1)
  exact h.elim
 obtain ⟨op, hop⟩ : ∃ op, o.op = op := ⟨_, rfl⟩
 rw [hop] at h gen
 cases op
 case call c =>
  obtain ⟨callee, args, tys⟩ := c
  cases callee with
  | builtin b => exact gen h
  | invoke r m => exact gen h
  | value f =>
   simp only [ov] at h
   split at h
   · rename_i k hk
     obtain ⟨h1, h2⟩ := bb_ok h
     obtain ⟨h3, h4⟩ := ungds_ok h1
     exact call_wp hD hS hop rfl hk h3 (by rw [h4]; exact h2)
   exact h.elim
 all_goals exact gen h
end
end
section
open Go Go.RowKit
def gArgs (hp : Heap) (svs : List SV) : List SV × Option SB :=
 match svs with
 | .ptr r 0 :: rest => (.ptr 0 0 :: rest, hlk hp r)
 | svs => (svs, none)
def dstAt : List (Option Tmp) → Nat → Option Tmp
 | [], _ => none
 | d :: _, 0 => d
 | _ :: l, n + 1 => dstAt l n
def gslot (ds : List (Option Tmp)) (S : SS) (j : Nat) : SV :=
 match dstAt ds j with
 | some d => eget S.env d
 | none => .undef
section
theorem lk1_pt1_self (l : List SV) : ∀ (i : Nat) (v s : SV), lk1 l i = some s → lk1 (pt1 l i v) i = some v := by
 induction l with
 | nil => intro i v s h; cases h
 | cons x l ih => intro i v s h; cases i with
  | zero => rfl
  | succ i => exact ih i v s h
theorem lk2_pt2_self (l : Env) : ∀ (i j : Nat) (v s : SV), lk2 l i j = some s → lk2 (pt2 l i j v) i j = some v := by
 induction l with
 | nil => intro i j v s h; cases h
 | cons x l ih => intro i j v s h; cases i with
  | zero => exact lk1_pt1_self x j v s h
  | succ i => exact ih i j v s h
theorem elk_ept_self {e : Env} {d : Nat} {s : SV} (h : elk e d = some s) (t : SV) : elk (ept e d t) d = some t := lk2_pt2_self e _ _ t s h
theorem lk1_pt1_ne (l : List SV) : ∀ (i j : Nat) (v : SV), i ≠ j → lk1 (pt1 l i v) j = lk1 l j := by
 induction l with
 | nil => intro i j v h; rfl
 | cons x l ih =>
  intro i j v h
  cases i <;> cases j
  · exact absurd rfl h
  · rfl
  · rfl
  exact ih _ _ v (fun e => h (by rw [e]))
theorem lk2_pt2_ne (l : Env) : ∀ (i i' j j' : Nat) (v : SV), ¬ (i = j ∧ i' = j') → lk2 (pt2 l i i' v) j j' = lk2 l j j' := by
 induction l with
 | nil => intro i i' j j' v h; rfl
 | cons x l ih =>
  intro i i' j j' v h
  cases i <;> cases j
  · exact lk1_pt1_ne x _ _ v (fun e => h ⟨rfl, e⟩)
  · rfl
  · rfl
  exact ih _ _ _ _ v (fun e => h ⟨by rw [e.1], e.2⟩)
theorem elk_ept_ne {e : Env} {d i : Nat} (hne : d ≠ i) (t : SV) : elk (ept e d t) i = elk e i := lk2_pt2_ne e _ _ _ _ t (fun h => hne (by omega))
theorem dstAt_eq (ops : Array Oper) : ∀ (l : List Oper) (k j : Nat), (∀ i, l[i]? = ops[k + i]?) → dstAt (l.map (·.dst)) j = (ops[k + j]?).bind (·.dst)
 | [], k, j, h => by
  have := h j
  rw [← this]
  rfl
 | o :: l, k, 0, h => by
  have := h 0
  rw [← this]
  rfl
 | o :: l, k, j + 1, h => by
  have := dstAt_eq ops l (k + 1) j (fun i => by have := h (i + 1); simpa [Nat.add_assoc, Nat.add_comm 1 i] using this)
  simp only [List.map_cons, dstAt, this]
  congr 2
  omega
end
end
end Go.Proofs.YtengepcafdnalaaGreatDoor
