/-
  Parts of the proof that the law FnParseOtherwise holds for every input (texts Hc, Hd, He, Ka). Conditions: none.
-/
import Derived.Test.YtengepcafdnalaaGreatDoorM16
namespace Go.Proofs.YtengepcafdnalaaGreatDoor
section
open Go Go.RowKit
inductive Fr where
 | sq (y : Code)
 | bk (id : Nat)
 | lp (c : Code)
 | sc (c : Code)
def den : List Fr -> (Exit -> SS -> Prop) -> Exit -> SS -> Prop
 | [], Q => Q
 | .sq y :: s, Q => Qgu (fun S' => VC y S' (den s Q)) (den s Q)
 | .bk id :: s, Q => blkQ id (den s Q)
 | .lp c :: s, Q => Qgu (fun S' => VLp c S' (den s Q)) (den s Q)
 | .sc c :: s, Q => scQ c (den s Q)
def Qdt : Code -> Nat
 | .region id _ _ => id
 | .seq a _ => Qdt a
 | .block _ c => Qdt c
 | .loop c => Qdt c
 | .scope c => Qdt c
 | _ => 1000000
def QjR : Nat -> List SV -> List SV
 | _, [] => []
 | m, x :: l => cond (m % 2 == 1) x .undef :: QjR (m / 2) l
def Qm2 : Nat -> Env -> Env
 | _, [] => []
 | m, x :: l => QjR (m % 65536) x :: Qm2 (m / 65536) l
def QjQ (m : Nat) (S : SS) : SS := { S with env := Qm2 m S.env }
def mlk : List (Nat × Nat) -> Nat -> Nat
 | [], _ => 0
 | (i, m) :: l, j => cond (i == j) m (mlk l j)
def rdR (S : SS) : ResultVar -> Option SV
 | .tmp t => cond (Qkx (Zm S.env t)) (some (Zm S.env t)) none
 | .cell t T => cond (Qkx (Zm S.env t)) (match Qjr S.heap T (Zm S.env t) with
  | some ([], v) => some v
  | _ => none) none
def rdRs (S : SS) : List ResultVar -> Option (List SV)
 | [] => some []
 | r :: l => match rdR S r, rdRs S l with
  | some s, some ss => some (s :: ss)
  | _, _ => none
def QjK : Option SB -> Bool
 | some c => c.low
 | none => true
def QkU (hb rowR : Bool) (rs : List ResultVar) (Ts : List TypeId) (S : SS) : Option (Out × Option SB) :=
 match rdRs S rs with
 | some ss => match rowR with
  | true => match ss, Ts with
   | [.own r], _ => match hlk S.heap r with
    | some (.row x true) => cond (QjK (b0 hb S)) (some (.row x, b0 hb S)) none
    | _ => none
   | [.nilsl], [T] => cond (QjK (b0 hb S)) ((Zk T).map fun x => (.row x, b0 hb S)) none
   | _, _ => none
  | false => cond (SV.lts 0 (fixRs S Ts ss).1 && QjK (b0 hb (fixRs S Ts ss).2)) (some (.val (Qky (fixRs S Ts ss).1), b0 hb (fixRs S Ts ss).2)) none
 | none => none
theorem Qdc {b : Option SB} (h : QjK b = true) : lowO b := by
 cases b with
 | none => trivial
 | some c => exact h
theorem Qjo {S : SS} : ∀ {l : List ResultVar} {ss : List SV} {K : List SV -> Prop}, rdRs S l = some ss -> K ss -> QeL S l K
 | [], ss, K, h, hk => by cases h; exact hk
 | r :: l, ss, K, h, hk => by
  simp only [rdRs] at h
  split at h
  rename_i s ss' h1 h2
  cases h
  refine (?_ : getR S r fun s => QeL S l fun ss => K (s :: ss))
  have rec' : QeL S l fun ss => K (s :: ss) := Qjo h2 hk
  cases r with
  | tmp t =>
   obtain ⟨h3, h4⟩ := VX h1
   cases h4
   obtain ⟨h5, h6⟩ := Qcg h3
   exact ⟨h5, by rw [h6]; exact rec'⟩
  | cell t T =>
   obtain ⟨h3, h4⟩ := VX h1
   obtain ⟨h5, h6⟩ := Qcg h3
   refine ⟨h5, ?_⟩
   rw [h6]
   split at h4
   rename_i v hq
   cases h4
   have := Qjq hq trivial
   have mono : ∀ {P Q : SV -> Prop}, (∀ r, P r -> Q r) -> Qaz S.heap T (Zm S.env t) P -> Qaz S.heap T (Zm S.env t) Q := by
    intro P Q hPQ hl
    have lk : ∀ {cs : List SV} {o : Nat}, Qay T cs o P -> Qay T cs o Q := by
     intro cs o hl
     unfold Qay at hl ⊢
     split at hl
     split at hl
     exact hPQ _ hl
     exact hl
     exact ⟨hl.1, hPQ _ hl.2⟩
     exact hl
    unfold Qaz at hl ⊢
    split at hl
    split at hl
    exact lk hl
    exact hl
    exact lk hl
    split at hl
    exact ⟨hl.1, hl.2.1, lk hl.2.2⟩
    exact hl
    exact hl
   exact mono (fun r hr => by rw [hr]; exact rec') this
   cases h4
  cases h
theorem Qjm {hb rowR : Bool} {rs : List ResultVar} {Ts : List TypeId} {S : SS} {o : Out} {b : Option SB} (h : QkU hb rowR rs Ts S = some (o, b)) {K : Out -> Option SB -> Prop} (hk : K o b) : Qmg hb rowR rs Ts K S := by
 unfold QkU at h
 split at h
 rename_i ss hss
 refine Qjo hss ?_
 cases rowR with
 | true =>
  simp only at h ⊢
  unfold Qid
  split at h
  split at h
  rename_i hx
  obtain ⟨h0, h⟩ := VX h
  cases h
  simp only [hx]
  exact ⟨Qdc h0, hk⟩
  cases h
  obtain ⟨h0, h⟩ := VX h
  simp only [Option.map_eq_some_iff] at h
  obtain ⟨x, h1, h2⟩ := h
  cases h2
  simp only [h1]
  exact ⟨Qdc h0, hk⟩
  cases h
 | false =>
  simp only at h ⊢
  obtain ⟨h1, h2⟩ := VX h
  cases h2
  rw [Bool.and_eq_true] at h1
  exact ⟨h1.1, Qdc h1.2, hk⟩
 cases h
section
variable (D : Cx) (R : SS -> Option (Out × Option SB)) (Qf : Exit -> SS -> Prop) (K : Out -> Option SB -> Prop) (ms : List (Nat × Nat)) (cuts : List Nat)
def Qie (S : SS) : Prop :=
 match R S with
 | some (o, b) => K o b
 | none => False
def nxt (G : Code -> List Fr -> SS -> Prop) : List Fr -> Exit -> SS -> Prop
 | [], .normal, S => Qie R K S
 | _, .ret, S => Qie R K S
 | .sq y :: s, .normal, S => cond (cuts.contains (Qdt y)) (VC y (QjQ (mlk ms (Qdt y)) S) (den s Qf)) (G y s S)
 | .bk _ :: s, .normal, S => nxt G s .normal S
 | .bk id :: s, .exit i, S => cond (i == id) (nxt G s .normal S) (nxt G s (.exit i) S)
 | .lp c :: s, .normal, S => VLp c (QjQ (mlk ms (Qdt c)) S) (den s Qf)
 | .sc c :: s, .goto l, S => match findLabel c l with
  | some rest => G rest (.sc c :: s) S
  | none => nxt G s (.goto l) S
 | _ :: s, e, S => nxt G s e S
 | [], _, _ => False
def vcDr (l : List Oper) (S : SS) (k : SS -> Prop) : Prop :=
 cond (Qk3 D l) (QdX D (l.map (·.dst)) l S k) (vcD D (l.map (·.dst)) ((S.heap, S.nx) :: Qbg D (l.map (·.dst)) l S) l S k)
def setB (o : Operand) (b : Bool) (S : SS) : SS :=
 match o with
 | .tmp t => { S with env := ept S.env t (.bool b) }
 | _ => S
def go : Nat -> Code -> List Fr -> SS -> Prop
 | 0, _, _, _ => False
 | n + 1, c, stk, S => match c with
  | .skip => nxt R Qf K ms cuts (go n) stk .normal S
  | .label _ => nxt R Qf K ms cuts (go n) stk .normal S
  | .region _ ops false => vcQ D ops.toList S fun S' => nxt R Qf K ms cuts (go n) stk .normal S'
  | .region _ ops true => bb (ordB D ops) (vcDr D ops.toList S fun S' => nxt R Qf K ms cuts (go n) stk .normal S')
  | .seq x y => go n x (.sq y :: stk) S
  | .cond o x y => match ev S.env o with
   | .bool b => cond b (go n x stk (setB o true S)) (go n y stk (setB o false S))
   | _ => False
  | .block id x => go n x (.bk id :: stk) S
  | .loop x => VLp x (QjQ (mlk ms (Qdt x)) S) (den stk Qf)
  | .scope x => go n x (.sc x :: stk) S
  | .exit i => nxt R Qf K ms cuts (go n) stk (.exit i) S
  | .goto l => nxt R Qf K ms cuts (go n) stk (.goto l) S
  | .ret => Qie R K S
  | _ => False
end
theorem Qez : ∀ {l : List SV} {m i : Nat} {s : SV}, lk1 (QjR m l) i = some s -> ∃ t, lk1 l i = some t /\ (s = .undef \/ s = t)
 | x :: l, m, 0, s, h => by
  simp only [QjR, lk1, Option.some.injEq] at h
  refine ⟨x, rfl, ?_⟩
  cases hb : (m % 2 == 1) with
  | true => rw [hb] at h; exact .inr h.symm
  | false => rw [hb] at h; exact .inl h.symm
 | x :: l, m, i + 1, s, h => Qez (l := l) (m := m / 2) h
 | [], m, i, s, h => by cases h
theorem Qey : ∀ {e : Env} {m i j : Nat} {s : SV}, lk2 (Qm2 m e) i j = some s -> ∃ t, lk2 e i j = some t /\ (s = .undef \/ s = t)
 | x :: l, m, 0, j, s, h => Qez (l := x) h
 | x :: l, m, i + 1, j, s, h => Qey (e := l) (m := m / 65536) h
 | [], m, i, j, s, h => by cases h
theorem Yg.keep (m : Nat) (S : SS) : Yg S (QjQ m S) := by
 intro g0 w0 M ω a w hS
 refine ⟨ω, hS.weak rfl rfl fun i s hs => ?_⟩
 obtain ⟨t, h1, h2⟩ := Qey hs
 refine ⟨t, h1, fun v _ hr => ?_⟩
 rcases h2 with rfl | rfl
 exact .undef _
 exact hr
section
variable {D : Cx} {R : SS -> Option (Out × Option SB)} {Qf : Exit -> SS -> Prop} {K : Out -> Option SB -> Prop} {ms : List (Nat × Nat)} {cuts : List Nat}
theorem Qjf {o : Operand} {b : Bool} {S : SS} (h : ev S.env o = .bool b) : Yg S (setB o b S) := by
 unfold setB
 split
 rename_i t
 intro g0 w0 M ω a w hS
 have hx := Qam (e := S.env) (d := t) h (by simp)
 obtain ⟨v, h1, h2⟩ := hS.env t _ hx
 have h3 := hS.put h2 t
 rw [Qa3 h1] at h3
 exact ⟨ω, h3⟩
 exact Yg.refl _
theorem Qao : ∀ (s : List Fr) (S : SS), Qf .ret S -> den s Qf .ret S
 | [], S, h => h
 | .sq _ :: s, S, h => Qao s S h
 | .bk _ :: s, S, h => Qao s S h
 | .lp _ :: s, S, h => Qao s S h
 | .sc _ :: s, S, h => Qao s S h
theorem QrO (hR : ∀ S o b, R S = some (o, b) -> K o b -> Qf .ret S /\ Qf .normal S) {G : Code -> List Fr -> SS -> Prop} (hG : ∀ c s S, G c s S -> VC c S (den s Qf)) :
 ∀ (s : List Fr) (e : Exit) (S : SS), nxt R Qf K ms cuts G s e S -> den s Qf e S := by
 have ret : ∀ S, Qie R K S -> Qf .ret S /\ Qf .normal S := by
  intro S h
  unfold Qie at h
  split at h
  rename_i o b e; exact hR S o b e h
  exact h.elim
 intro s
 induction s with
 | nil =>
  intro e S h
  cases e <;> simp only [nxt] at h <;> first | exact (ret S h).2 | exact (ret S h).1 | exact h.elim
 | cons f s ih =>
  intro e S h
  cases e with
  | ret => exact Qao _ S (ret S (by cases f <;> simpa only [nxt] using h)).1
  | normal =>
   cases f with
   | sq y =>
    simp only [nxt] at h
    simp only [den, Qgu]
    cases hc : cuts.contains (Qdt y) with
    | true => rw [hc] at h; exact VC.le (Yg.keep _ _) h
    | false => rw [hc] at h; exact hG _ _ _ h
   | bk id => simp only [nxt] at h; exact ih _ _ h
   | lp c => simp only [nxt] at h; exact VLp.le (Yg.keep _ _) h
   | sc c => simp only [nxt] at h; exact ih _ _ h
  | exit i =>
   cases f with
   | sq y => simp only [nxt] at h; exact ih _ _ h
   | bk id =>
    simp only [nxt] at h
    simp only [den, blkQ]
    cases hc : (i == id) with
    | true => rw [hc] at h; rw [if_pos (by simpa using hc)]; exact ih _ _ h
    | false => rw [hc] at h; rw [if_neg (by simpa using hc)]; exact ih _ _ h
   | lp c => simp only [nxt] at h; exact ih _ _ h
   | sc c => simp only [nxt] at h; exact ih _ _ h
  | goto l =>
   cases f with
   | sq y => simp only [nxt] at h; exact ih _ _ h
   | bk id => simp only [nxt] at h; exact ih _ _ h
   | lp c => simp only [nxt] at h; exact ih _ _ h
   | sc c =>
    simp only [nxt] at h
    simp only [den, scQ]
    split at h
    rename_i rest hf
    simp only [hf]
    exact VSp.step (hG _ _ _ h)
    rename_i hf
    simp only [hf]
    exact ih _ _ h
  | panic ch => cases f <;> (simp only [nxt] at h; exact ih _ _ h)
  | outgrown => cases f <;> (simp only [nxt] at h; exact ih _ _ h)
theorem JN (hD : Qe D) {id : Nat} {ops : Array Oper} {S : SS} {Q : Exit -> SS -> Prop} (h : vcQ D ops.toList S (Q .normal)) : VC (.region id ops false) S Q := by
 intro g0 w0 M ω a w hS
 refine wp_region_list ?_
 exact QqB hD (ops := ops) (K := Q .normal) (fun a w ⟨ω', S', h1, h2⟩ => ⟨S', h1, ω', h2⟩) hS h
theorem Qif (hD : Qe D) {id : Nat} {ops : Array Oper} {S : SS} {Q : Exit -> SS -> Prop} (hB : ordB D ops = true) (h : vcDr D ops.toList S (Q .normal)) : VC (.region id ops true) S Q := by
 intro g0 w0 M ω a w hS
 have hR : vcR D ops.toList S (Q .normal) := by
  unfold vcDr at h
  unfold vcR
  cases hn : Qk3 D ops.toList with
  | true => rw [hn] at h; exact Qi7 h
  | false => rw [hn] at h; exact h
 exact QqA hD hB hS (K := Q .normal) hR (fun a w ⟨ω', S', h1, h2⟩ => ⟨S', h1, ω', h2⟩) (by kernel_rfl) id
theorem Qj7 (hD : Qe D) (hR : ∀ S o b, R S = some (o, b) -> K o b -> Qf .ret S /\ Qf .normal S) : ∀ (n : Nat) (c : Code) (s : List Fr) (S : SS), go D R Qf K ms cuts n c s S -> VC c S (den s Qf)
 | 0, _, _, _, h => h.elim
 | n + 1, c, s, S, h => by
  have ih := Qj7 hD hR n
  have nx := QrO (ms := ms) (cuts := cuts) hR ih
  have ret : ∀ S, Qie R K S -> Qf .ret S := by
   intro S h
   unfold Qie at h
   split at h
   rename_i o b e; exact (hR S o b e h).1
   exact h.elim
  cases c with
  | skip => exact VC.skip (nx s .normal S h)
  | label l => exact VC.label (nx s .normal S h)
  | region id ops d =>
   cases d with
   | false =>
    refine VC.mono (Q := fun e S' => match e with
     | .normal => nxt R Qf K ms cuts (go D R Qf K ms cuts n) s .normal S'
     | _ => False) (JN hD h) fun e S' h' => ?_
    cases e <;> first | exact nx s .normal S' h' | exact h'.elim
   | true =>
    obtain ⟨h1, h2⟩ := JE h
    refine VC.mono (Q := fun e S' => match e with
     | .normal => nxt R Qf K ms cuts (go D R Qf K ms cuts n) s .normal S'
     | _ => False) (Qif hD h1 h2) fun e S' h' => ?_
    cases e <;> first | exact nx s .normal S' h' | exact h'.elim
  | seq x y => exact VC.seq (ih _ _ _ h)
  | cond o x y =>
   simp only [go] at h
   split at h
   rename_i b he
   refine VC.cond ?_
   unfold arg
   rw [he]
   refine ⟨trivial, fun hb => ?_, fun hb => ?_⟩
   rw [hb] at h he; exact VC.le (Qjf he) (ih _ _ _ h)
   rw [hb] at h he; exact VC.le (Qjf he) (ih _ _ _ h)
   exact h.elim
  | block id x => exact VC.block (ih _ _ _ h)
  | loop x => exact VC.ofLp (VLp.le (Yg.keep _ _) h)
  | scope x => exact VC.ofSp (VSp.step (ih _ _ _ h))
  | exit i => exact VC.exit (nx s (.exit i) S h)
  | goto l => exact VC.goto (nx s (.goto l) S h)
  | ret => exact VC.ret (Qao s S (ret S h))
  | _ => exact h.elim
end
end
section
open Go Go.RowKit
def Qm (fn : Func) : Code :=
 match fn.body with
 | some c => c
 | none => .skip
def pos : Code -> List Fr -> Nat -> Option (Code × List Fr)
 | .seq x y, s, id => match pos x (.sq y :: s) id with
  | some r => some r
  | none => pos y s id
 | .cond _ x y, s, id => match pos x s id with
  | some r => some r
  | none => pos y s id
 | .block i x, s, id => pos x (.bk i :: s) id
 | .loop x, s, id => cond (Qdt x == id) (some (x, s)) (pos x (.lp x :: s) id)
 | .scope x, s, id => pos x (.sc x :: s) id
 | _, _, _ => none
def Qc0 : Code -> List Fr -> Nat -> Option (Code × List Fr)
 | .seq x y, s, id => cond (Qdt y == id) (some (y, s)) (match Qc0 x (.sq y :: s) id with
  | some r => some r
  | none => Qc0 y s id)
 | .cond _ x y, s, id => match Qc0 x s id with
  | some r => some r
  | none => Qc0 y s id
 | .block i x, s, id => Qc0 x (.bk i :: s) id
 | .loop x, s, id => Qc0 x (.lp x :: s) id
 | .scope x, s, id => Qc0 x (.sc x :: s) id
 | _, _, _ => none
def AtL (B : Code) (Q : Exit -> SS -> Prop) (id : Nat) (S : SS) : Prop :=
 match pos B [] id with
 | some (c, s) => VLp c S (den s Q)
 | none => False
def AtC (B : Code) (Q : Exit -> SS -> Prop) (id : Nat) (S : SS) : Prop :=
 match Qc0 B [] id with
 | some (c, s) => VC c S (den s Q)
 | none => False
structure Wk where
 D : Cx
 B : Code
 hb : Bool
 rowR : Bool
 rs : List ResultVar
 Ts : List TypeId
 ms : List (Nat × Nat)
 cuts : List Nat
def Wk.Q (W : Wk) (K : Out -> Option SB -> Prop) : Exit -> SS -> Prop := retQ W.hb W.rowR W.rs W.Ts K
def Wk.L (W : Wk) (K : Out -> Option SB -> Prop) (id : Nat) (S : SS) : Prop := AtL W.B (W.Q K) id S
def Wk.C (W : Wk) (K : Out -> Option SB -> Prop) (id : Nat) (S : SS) : Prop := AtC W.B (W.Q K) id S
def Wk.go0 (W : Wk) (K : Out -> Option SB -> Prop) (S : SS) : Prop :=
 go W.D (QkU W.hb W.rowR W.rs W.Ts) (W.Q K) K W.ms W.cuts 1000 W.B [] S
def Wk.goL (W : Wk) (K : Out -> Option SB -> Prop) (id : Nat) (S : SS) : Prop :=
 match pos W.B [] id with
 | some (c, s) => go W.D (QkU W.hb W.rowR W.rs W.Ts) (W.Q K) K W.ms W.cuts 1000 c (.lp c :: s) S
 | none => False
def Wk.goC (W : Wk) (K : Out -> Option SB -> Prop) (id : Nat) (S : SS) : Prop :=
 match Qc0 W.B [] id with
 | some (c, s) => go W.D (QkU W.hb W.rowR W.rs W.Ts) (W.Q K) K W.ms W.cuts 1000 c s S
 | none => False
theorem Wk.hR (W : Wk) (K : Out -> Option SB -> Prop) : ∀ S o b, QkU W.hb W.rowR W.rs W.Ts S = some (o, b) -> K o b -> W.Q K .ret S /\ W.Q K .normal S :=
 fun _ _ _ h hk => ⟨Qjm h hk, Qjm h hk⟩
theorem Wk.atL (W : Wk) (hD : Qe W.D) {K : Out -> Option SB -> Prop} {id : Nat} {S : SS} {X : Prop} (e : W.goL K id S = X) (h : X) : W.L K id S := by
 rw [<- e] at h
 unfold Wk.goL at h
 unfold Wk.L AtL
 cases hp : pos W.B [] id with
 | some r => rw [hp] at h; exact VLp.step (Qj7 hD (W.hR K) _ _ _ _ h)
 | none => rw [hp] at h; exact h.elim
theorem Wk.atC (W : Wk) (hD : Qe W.D) {K : Out -> Option SB -> Prop} {id : Nat} {S : SS} {X : Prop} (e : W.goC K id S = X) (h : X) : W.C K id S := by
 rw [<- e] at h
 unfold Wk.goC at h
 unfold Wk.C AtC
 cases hp : Qc0 W.B [] id with
 | some r => rw [hp] at h; exact Qj7 hD (W.hR K) _ _ _ _ h
 | none => rw [hp] at h; exact h.elim
theorem Wk.L.le {W : Wk} {K : Out -> Option SB -> Prop} {id : Nat} {S S' : SS} (hl : Yg S S') (h : W.L K id S') : W.L K id S := by
 unfold Wk.L AtL at *
 split at h
 exact VLp.le hl h
 exact h.elim
theorem Wk.C.le {W : Wk} {K : Out -> Option SB -> Prop} {id : Nat} {S S' : SS} (hl : Yg S S') (h : W.C K id S') : W.C K id S := by
 unfold Wk.C AtC at *
 split at h
 exact VC.le hl h
 exact h.elim
theorem Wk.sat (W : Wk) (hD : Qe W.D) {f : FuncId} {fn : Func} {P : Spec} (hf : Tryz.prog.funcs[f]? = some fn) (hb : fn.body = some W.B) (hl : fn.results = W.rs.toArray) (h4 : W.rs.length <= 4)
 (h : ∀ svs b K, P svs b K -> b.isSome = W.hb /\ W.go0 K ⟨JQ fn.ntmps svs, (loc b).heap, 1⟩) : Sat f P := by
 refine Sat.of_vc W.rowR W.rs W.Ts hf hb hl h4 fun svs b K hP => ?_
 obtain ⟨e, hg⟩ := h svs b K hP
 rw [e]
 have hn : (loc b).nx = 1 := by cases b <;> rfl
 rw [hn]
 exact Qj7 hD (W.hR K) _ _ _ _ hg
theorem Wk.start {W : Wk} {K : Out -> Option SB -> Prop} {S : SS} {X : Prop} (e : W.go0 K S = X) (h : X) : W.go0 K S := by rw [e]; exact h
theorem Wk.entry (W : Wk) {n : Nat} {svs : List SV} {b : Option SB} {K : Out -> Option SB -> Prop} (hb : b.isSome = W.hb) {X : Prop} (e : W.go0 K ⟨JQ n svs, (loc b).heap, 1⟩ = X) (h : X) :
 b.isSome = W.hb /\ W.go0 K ⟨JQ n svs, (loc b).heap, 1⟩ := ⟨hb, by rw [e]; exact h⟩
theorem Qo {f : List SV -> Option SB -> QR} {svs : List SV} {b : Option SB} {K : Out -> Option SB -> Prop} (h : QC f svs b K) : ∃ ps v, f svs b = some (ps, v) /\ V3 ps /\ K (.val v) b := by
 unfold QC at h
 split at h
 rename_i ps v e; obtain ⟨h1, h2⟩ := Qaq h; exact ⟨ps, v, e, h1, h2⟩
 exact h.elim
theorem Yp {f : List SV -> Option SB -> FR} {svs : List SV} {b : Option SB} {K : Out -> Option SB -> Prop} (h : fnS f svs b K) : ∃ ps o b', f svs b = some (ps, o, b') /\ V3 ps /\ K o b' := by
 unfold fnS at h
 split at h
 rename_i ps o b' e; obtain ⟨h1, h2⟩ := Qaq h; exact ⟨ps, o, b', e, h1, h2⟩
 exact h.elim
theorem Qd {b : Bool} {p q : Prop} (h1 : b = true -> p) (h2 : b = false -> q) : cond b p q := by cases b <;> first | exact h2 rfl | exact h1 rfl
def Qx {α : Type} (x : Option α) (f : α -> Prop) (q : Prop) : Prop :=
 match x with
 | some y => f y
 | none => q
theorem QJ {α : Type} {x : Option α} {f : α -> Prop} {q : Prop} (h1 : ∀ y, x = some y -> f y) (h2 : x = none -> q) : Qx x f q := by
 unfold Qx
 split
 exact h1 _ rfl
 exact h2 rfl
def mkS (n : Nat) (l : List (Nat × SV)) (h : Heap) (nx : Nat) : SS := ⟨l.foldl (fun e p => ept e p.1 p.2) (JQ n []), h, nx⟩
theorem keq {K : Out -> Option SB -> Prop} {o o' : Out} {b b' : Option SB} (h : K o b) (e1 : o = o') (e2 : b = b') : K o' b' := by rw [<- e1, <- e2]; exact h
theorem Has.of {f : FuncId} {fn : Func} (hf : Tryz.prog.funcs[f]? = some fn) (hn : (fn.name == "runtime.NumGoroutine") = false) (hb : fn.body = some (Qm fn)) : Has f := ⟨fn, _, hf, hn, hb⟩
theorem Wk.sa (W : Wk) (hD : Qe W.D) {f : FuncId} (fn : Func) {P : Spec} (h : ∀ svs b K, P svs b K -> b.isSome = W.hb /\ W.go0 K ⟨JQ fn.ntmps svs, (loc b).heap, 1⟩) (hf : Tryz.prog.funcs[f]? = some fn := by kernel_rfl) (hb : fn.body = some W.B := by kernel_rfl) (hl : fn.results = W.rs.toArray := by kernel_rfl) (h4 : Nat.ble W.rs.length 4 = true := by kernel_rfl) : Sat f P := W.sat hD hf hb hl (Nat.le_of_ble_eq_true h4) h
theorem Wk.aL (W : Wk) (hD : Qe W.D) {K : Out -> Option SB -> Prop} {id : Nat} {S : SS} (X : Prop) (h : X) (e : W.goL K id S = X := by kernel_rfl) : W.L K id S := W.atL hD e h
theorem Wk.aC (W : Wk) (hD : Qe W.D) {K : Out -> Option SB -> Prop} {id : Nat} {S : SS} (X : Prop) (h : X) (e : W.goC K id S = X := by kernel_rfl) : W.C K id S := W.atC hD e h
theorem Wk.en (W : Wk) {n : Nat} {svs : List SV} {b : Option SB} {K : Out -> Option SB -> Prop} (X : Prop) (h : X) (hb : b.isSome = W.hb := by rfl) (e : W.go0 K ⟨JQ n svs, (loc b).heap, 1⟩ = X := by kernel_rfl) : b.isSome = W.hb /\ W.go0 K ⟨JQ n svs, (loc b).heap, 1⟩ := W.entry hb e h
theorem hsf {f : FuncId} (fn : Func) (hf : Tryz.prog.funcs[f]? = some fn := by kernel_rfl) (hn : (fn.name == "runtime.NumGoroutine") = false := by kernel_rfl) (hb : fn.body = some (Qm fn) := by kernel_rfl) : Has f := Has.of hf hn hb
end
section
open Go Go.RowKit
def QgQ (π : List Nat) : SV -> SV
 | .own r => .own (pim π r)
 | .ptr r o => .ptr (pim π r) o
 | s => s
def canN : SV -> SV
 | .int .i64 (.ofNat n) => .nat n
 | s => s
def canL (x : RV) : SV -> SV
 | .nilsl => cond (x.len == 0) (.sl x) .nilsl
 | s => s
def canI : SV -> SV
 | .nat n => .int .i64 n
 | s => s
def mskV : SV -> SV -> SV
 | .undef, _ => .undef
 | .int .i64 _, s => canI s
 | .nat _, s => canN s
 | .sl x, s => canL x s
 | _, s => s
def Qiv : List SV -> List SV -> List SV
 | [], [] => []
 | s' :: l', s :: l => mskV s' s :: Qiv l' l
 | [], _ => [.undef]
 | _, [] => []
def Qb8 : Env -> Env -> Env
 | [], [] => []
 | s' :: l', s :: l => Qiv s' s :: Qb8 l' l
 | [], _ => [[]]
 | _, [] => []
def isBx : SV -> Bool
 | .cp [.ptr 0 0] => true
 | _ => false
theorem Qo6 {s : SV} (h : isBx s = true) : s = .cp [.ptr 0 0] := by
 unfold isBx at h
 split at h
 rfl
 cases h
theorem Yy {π : List Nat} {n : Nat} (h5 : pim π 0 = 0) (h6 : 0 < n) {s : SV} (h : (s.lt 0 || isBx s) = true) : s.lt 0 = true \/ s = .cp [.ptr 0 0] /\ pim π 0 = 0 /\ 0 < n := by
 rw [Bool.or_eq_true] at h
 exact h.imp id fun q => ⟨Qo6 q, h5, h6⟩
def okV (n : Nat) : SV -> Bool
 | .undef => true
 | .own r => decide (r < n)
 | .ptr r _ => decide (r < n)
 | s => s.lt 0 || isBx s
def okB (π : List Nat) (S : SS) : Bool :=
 S.env.all (fun l => l.all (okV S.nx)) && (S.heap.all (fun p => decide (p.1 < S.nx) && p.2.low) && (QiG π && (decide (S.nx <= π.length) && (pim π 0 == 0 && decide (0 < S.nx)))))
theorem QmQ (s' : SV) {s : SV} {ω : Wit} {v : Value} (h : Rel ω s v) : Rel ω (mskV s' s) v := by
 unfold mskV
 split
 exact .undef _
 unfold canI
 split
 rw [h.nat_inv]; exact .int _ _
 exact h
 unfold canN
 split
 rw [h.int_inv]; exact .nat _
 exact h
 unfold canL
 split
 rename_i x s
 cases hx : (x.len == 0) with
 | true => rw [h.nilsl_inv]; exact .slz _ _ _ (by simpa using hx)
 | false => exact h
 exact h
 exact h
theorem Qg9 : ∀ {l' l : List SV} {i : Nat} {s : SV}, lk1 (Qiv l' l) i = some s -> ∃ t, lk1 l i = some t /\ ∀ ω v, Rel ω t v -> Rel ω s v
 | [], [], i, s, h => by cases h
 | s' :: l', x :: l, 0, s, h => by
  simp only [Qiv, lk1, Option.some.injEq] at h
  subst h
  exact ⟨x, rfl, fun ω v hr => QmQ s' hr⟩
 | s' :: l', x :: l, i + 1, s, h => Qg9 (l' := l') (l := l) h
 | [], x :: l, 0, s, h => by
  simp only [Qiv, lk1, Option.some.injEq] at h
  subst h
  exact ⟨x, rfl, fun ω v _ => .undef _⟩
 | [], x :: l, i + 1, s, h => by cases i <;> simp [Qiv, lk1] at h
 | s' :: l', [], i, s, h => by simp [Qiv, lk1] at h
theorem Qha : ∀ {l' l : Env} {i j : Nat} {s : SV}, lk2 (Qb8 l' l) i j = some s -> ∃ t, lk2 l i j = some t /\ ∀ ω v, Rel ω t v -> Rel ω s v
 | [], [], i, j, s, h => by cases h
 | s' :: l', x :: l, 0, j, s, h => Qg9 (l' := s') (l := x) h
 | s' :: l', x :: l, i + 1, j, s, h => Qha (l' := l') (l := l) h
 | [], x :: l, 0, j, s, h => by simp [Qb8, lk2, lk1] at h
 | [], x :: l, i + 1, j, s, h => by cases i <;> simp [Qb8, lk2] at h
 | s' :: l', [], i, j, s, h => by simp [Qb8, lk2] at h
theorem Yg.msk (e' : Env) (S : SS) : Yg S { S with env := Qb8 e' S.env } := by
 intro g0 w0 M ω a w hS
 refine ⟨ω, hS.weak rfl rfl fun i s hs => ?_⟩
 obtain ⟨t, h1, h2⟩ := Qha hs
 exact ⟨t, h1, fun v _ hr => h2 _ _ hr⟩
theorem QrY {π : List Nat} {n : Nat} (h5 : pim π 0 = 0) (h6 : 0 < n) {s' : SV} (h2 : okV n s' = true) : leV π n (QgQ π s') s' := by
 cases s' with
 | undef => trivial
 | own r => exact ⟨by simpa [okV] using h2, rfl⟩
 | ptr r o => exact ⟨by simpa [okV] using h2, rfl⟩
 | int k m => exact ⟨rfl, Yy h5 h6 h2⟩
 | bool b => exact ⟨rfl, Yy h5 h6 h2⟩
 | str l => exact ⟨rfl, Yy h5 h6 h2⟩
 | nilptr => exact ⟨rfl, Yy h5 h6 h2⟩
 | agg l => exact ⟨rfl, Yy h5 h6 h2⟩
 | tup l => exact ⟨rfl, Yy h5 h6 h2⟩
 | iface t v => exact ⟨rfl, Yy h5 h6 h2⟩
 | nilif => exact ⟨rfl, Yy h5 h6 h2⟩
 | ifx => exact ⟨rfl, Yy h5 h6 h2⟩
 | nilsl => exact ⟨rfl, Yy h5 h6 h2⟩
 | sl x => exact ⟨rfl, Yy h5 h6 h2⟩
 | cp l => exact ⟨rfl, Yy h5 h6 h2⟩
 | rp r i z o => exact ⟨rfl, Yy h5 h6 h2⟩
 | cs x => exact ⟨rfl, Yy h5 h6 h2⟩
 | gd c s => exact ⟨rfl, Yy h5 h6 h2⟩
 | op v => exact ⟨rfl, Yy h5 h6 h2⟩
 | nat m => exact ⟨rfl, Yy h5 h6 h2⟩
 | byt c => exact ⟨rfl, Yy h5 h6 h2⟩
 | gk j b s => exact ⟨rfl, Yy h5 h6 h2⟩
theorem QmX {π : List Nat} {n : Nat} (h5 : pim π 0 = 0) (h6 : 0 < n) : ∀ {l' : List SV}, l'.all (okV n) = true -> leR π n (l'.map (QgQ π)) l'
 | [], _ => trivial
 | s' :: l', h2 => by
  simp only [List.all_cons, Bool.and_eq_true] at h2
  exact ⟨QrY h5 h6 h2.1, QmX h5 h6 h2.2⟩
theorem QmZ {π : List Nat} {n : Nat} (h5 : pim π 0 = 0) (h6 : 0 < n) : ∀ {l' : Env}, l'.all (fun x => x.all (okV n)) = true -> leE π n (l'.map fun x => x.map (QgQ π)) l'
 | [], _ => trivial
 | s' :: l', h2 => by
  simp only [List.all_cons, Bool.and_eq_true] at h2
  exact ⟨QmX h5 h6 h2.1, QmZ h5 h6 h2.2⟩
theorem QmY {π : List Nat} {hp : Heap} {n : Nat} : ∀ {h : Heap}, h.map (fun p => hlk hp (pim π p.1)) = h.map (fun p => some p.2) -> h.all (fun p => decide (p.1 < n) && p.2.low) = true -> leH π hp n h
 | [], _, _ => trivial
 | (r, b) :: h, e, h2 => by
  simp only [List.map_cons, List.cons.injEq] at e
  simp only [List.all_cons, Bool.and_eq_true, decide_eq_true_eq] at h2
  exact ⟨⟨h2.1.1, e.1, h2.1.2⟩, QmY e.2 h2.2⟩
theorem Yg.ren {S S' : SS} (π : List Nat) (e1 : Qb8 S'.env S.env = S'.env.map (fun x => x.map (QgQ π))) (e2 : S'.heap.map (fun p => hlk S.heap (pim π p.1)) = S'.heap.map (fun p => some p.2))
 (e3 : okB π S' = true) : Yg S S' := by
 unfold okB at e3
 simp only [Bool.and_eq_true, decide_eq_true_eq, beq_iff_eq] at e3
 obtain ⟨h1, h2, h3, h4, h5, h6⟩ := e3
 refine Yg.trans (Yg.msk S'.env S) (Yg.of π ⟨?_, QmY e2 h2, h3, h4, h5, h6⟩)
 show leE π S'.nx (Qb8 S'.env S.env) S'.env
 rw [e1]
 exact QmZ h5 h6 h1
def wkL : List SV -> List SV -> Prop
 | [], [] => True
 | s :: l, s' :: l' => (∀ ω v, Rel ω s v -> Rel ω s' v) /\ wkL l l'
 | _, _ => False
theorem QhU : ∀ {l l' : List SV}, wkL l l' -> l.length = l'.length /\ ∀ (i : Nat) (s' : SV), l'[i]? = some s' -> ∃ s, l[i]? = some s /\ ∀ ω v, Rel ω s v -> Rel ω s' v
 | [], [], _ => ⟨rfl, fun i s' e => by simp at e⟩
 | s :: l, s' :: l', h => by
  obtain ⟨h1, h2⟩ := QhU h.2
  refine ⟨by simp [h1], fun i t e => ?_⟩
  cases i with
  | zero => simp at e; subst e; exact ⟨s, rfl, h.1⟩
  | succ i => simpa using h2 i t (by simpa using e)
 | s :: l, [], h => h.elim
 | [], s' :: l', h => h.elim
theorem Sat.wk {f : FuncId} {P P' : Spec} (h : Sat f P) (hw : ∀ svs b K, P' svs b K -> ∃ svs', wkL svs svs' /\ P svs' b K) : Sat f P' := by
 intro g0 w M ω svs args b K hS hn hr hP
 obtain ⟨svs', h1, h2⟩ := hw svs b K hP
 obtain ⟨h3, h4⟩ := QhU h1
 refine h g0 w M ω svs' args b K hS (by omega) (fun i s' v e e' => ?_) h2
 obtain ⟨s, e0, h5⟩ := h4 i s' e
 exact h5 ω v (hr i s v e0 e')
theorem Sat.outW {f : FuncId} {P P' : Spec} (h : Sat f P)
 (hw : ∀ svs b K, P' svs b K -> P svs b fun o b' => ∃ s s', o = .val s /\ s'.lt 0 = true /\ (∀ ω v, Rel ω s v -> Rel ω s' v) /\ K (.val s') b') : Sat f P' := by
 intro g0 w M ω svs args b K hS hn hr hP
 refine (h g0 w M ω svs args b _ hS hn hr (hw svs b K hP)).mono ?_
 rintro e w' ⟨v, o, b', he, ⟨s, s', rfl, hl, hrel, hk⟩, ω', S', h1, h2, h3⟩
 exact ⟨v, .val s', b', he, hk, ω', S', h1, h2, hl, hrel _ _ h3.2⟩
def Qe7 : SV -> Option (List (List SelD))
 | .sl (.selss l) => some l
 | .nilsl => some []
 | _ => none
theorem Qgs {s : SV} {l : List (List SelD)} (h : Qe7 s = some l) (ω : Wit) (v : Value) (hr : Rel ω s v) : Rel ω (.sl (.selss l)) v := by
 unfold Qe7 at h
 split at h
 cases h; exact hr
 cases h; rw [hr.nilsl_inv]; exact .slz _ _ _ rfl
 cases h
theorem Wk.L.ren {W : Wk} {K : Out -> Option SB -> Prop} {id : Nat} {S S' : SS} (π : List Nat) (e1 : Qb8 S'.env S.env = S'.env.map (fun x => x.map (QgQ π)))
 (e2 : S'.heap.map (fun p => hlk S.heap (pim π p.1)) = S'.heap.map (fun p => some p.2)) (e3 : okB π S' = true) (h : W.L K id S') : W.L K id S := Wk.L.le (Yg.ren π e1 e2 e3) h
theorem Wk.C.ren {W : Wk} {K : Out -> Option SB -> Prop} {id : Nat} {S S' : SS} (π : List Nat) (e1 : Qb8 S'.env S.env = S'.env.map (fun x => x.map (QgQ π)))
 (e2 : S'.heap.map (fun p => hlk S.heap (pim π p.1)) = S'.heap.map (fun p => some p.2)) (e3 : okB π S' = true) (h : W.C K id S') : W.C K id S := Wk.C.le (Yg.ren π e1 e2 e3) h
theorem Wk.L.rn {W : Wk} {K : Out -> Option SB -> Prop} {id : Nat} {S S' : SS} (π : List Nat) (h : W.L K id S') (e1 : Qb8 S'.env S.env = S'.env.map (fun x => x.map (QgQ π)) := by kernel_rfl) (e2 : S'.heap.map (fun p => hlk S.heap (pim π p.1)) = S'.heap.map (fun p => some p.2) := by kernel_rfl) (e3 : okB π S' = true := by kernel_rfl) : W.L K id S := Wk.L.ren π e1 e2 e3 h
theorem Wk.C.rn {W : Wk} {K : Out -> Option SB -> Prop} {id : Nat} {S S' : SS} (π : List Nat) (h : W.C K id S') (e1 : Qb8 S'.env S.env = S'.env.map (fun x => x.map (QgQ π)) := by kernel_rfl) (e2 : S'.heap.map (fun p => hlk S.heap (pim π p.1)) = S'.heap.map (fun p => some p.2) := by kernel_rfl) (e3 : okB π S' = true := by kernel_rfl) : W.C K id S := Wk.C.ren π e1 e2 e3 h
end
section
open Go Go.RowKit
set_option maxRecDepth 20000
def c142 (svs : List SV) (b : Option SB) : QR := match svs, b with
 | [.byt c], none => some ([], .bool (QE c.toNat))
 | _, _ => none
noncomputable def W142 : Wk := ⟨[], Qm Tryz.f142, false, false, [.tmp 2], [4], [], []⟩
theorem Qsd : Has 142 := hsf Tryz.f142
theorem Qq6 : Sat 142 (QC c142) := by
 refine W142.sat Qe.nil (fn := Tryz.f142) (by kernel_rfl) (by kernel_rfl) (by kernel_rfl) (by decide) fun svs b K hP => ?_
 obtain ⟨ps, v, e, hp, hk⟩ := Qo hP
 unfold c142 at e
 split at e
 rename_i c
 cases e
 clear hp
 refine W142.en (K (.val (.bool (((((decide (97 <= c.toNat)) && (decide (c.toNat <= 122))) || ((decide (65 <= c.toNat)) && (decide (c.toNat <= 90)))) || (decide (c.toNat = 95))) || (decide (127 < c.toNat))))) none) ?_
 exact keq hk (by simp [QE]) rfl
 cases e
def c144 (svs : List SV) (b : Option SB) : QR := match svs, b with
 | [.byt c], none => some ([], .bool (QO c.toNat))
 | _, _ => none
noncomputable def W144 : Wk := ⟨[], Qm Tryz.f144, false, false, [.tmp 2], [4], [], []⟩
theorem Qsb : Has 144 := hsf Tryz.f144
theorem Qq4 : Sat 144 (QC c144) := by
 refine W144.sat Qe.nil (fn := Tryz.f144) (by kernel_rfl) (by kernel_rfl) (by kernel_rfl) (by decide) fun svs b K hP => ?_
 obtain ⟨ps, v, e, hp, hk⟩ := Qo hP
 unfold c144 at e
 split at e
 rename_i c
 cases e
 clear hp
 refine W144.en (K (.val (.bool (((((((decide (97 <= c.toNat)) && (decide (c.toNat <= 122))) || ((decide (65 <= c.toNat)) && (decide (c.toNat <= 90)))) || (decide (c.toNat = 95))) || (decide (127 < c.toNat))) || (decide (c.toNat = 45))) || ((decide (48 <= c.toNat)) && (decide (c.toNat <= 57)))))) none) ?_
 exact keq hk (by simp [QO, QE]) rfl
 cases e
def c151 (svs : List SV) (b : Option SB) : QR := match svs, b with
 | [.byt c], none => some ([], .bool (Q2 c.toNat))
 | _, _ => none
noncomputable def W151 : Wk := ⟨[], Qm Tryz.f151, false, false, [.tmp 2], [4], [], []⟩
theorem Qr9 : Has 151 := hsf Tryz.f151
theorem Qq2 : Sat 151 (QC c151) := by
 refine W151.sat Qe.nil (fn := Tryz.f151) (by kernel_rfl) (by kernel_rfl) (by kernel_rfl) (by decide) fun svs b K hP => ?_
 obtain ⟨ps, v, e, hp, hk⟩ := Qo hP
 unfold c151 at e
 split at e
 rename_i c
 cases e
 clear hp
 refine W151.en (K (.val (.bool ((((decide (48 <= c.toNat)) && (decide (c.toNat <= 57))) || ((decide (97 <= c.toNat)) && (decide (c.toNat <= 102)))) || ((decide (65 <= c.toNat)) && (decide (c.toNat <= 70)))))) none) ?_
 exact keq hk (by simp [Q2]) rfl
 cases e
def c104 (svs : List SV) (b : Option SB) : QR := match svs, b with
 | [.byt c], none => some ([], .bool (QE c.toNat))
 | _, _ => none
noncomputable def W104 : Wk := ⟨[], Qm Tryz.f104, false, false, [.tmp 2], [4], [], []⟩
theorem Qsq : Has 104 := hsf Tryz.f104
theorem Qrj : Sat 104 (QC c104) := by
 refine W104.sat Qe.nil (fn := Tryz.f104) (by kernel_rfl) (by kernel_rfl) (by kernel_rfl) (by decide) fun svs b K hP => ?_
 obtain ⟨ps, v, e, hp, hk⟩ := Qo hP
 unfold c104 at e
 split at e
 rename_i c
 cases e
 clear hp
 refine W104.en (K (.val (.bool (((((decide (97 <= c.toNat)) && (decide (c.toNat <= 122))) || ((decide (65 <= c.toNat)) && (decide (c.toNat <= 90)))) || (decide (c.toNat = 95))) || (decide (128 <= c.toNat))))) none) ?_
 exact keq hk (by unfold QE; congr 4) rfl
 cases e
def c89 (svs : List SV) (b : Option SB) : QR := match svs, b with
 | [.byt c], none => some ([], .bool (QO c.toNat))
 | _, _ => none
noncomputable def W89 : Wk := ⟨[(104, .pure c104)], Qm Tryz.f89, false, false, [.tmp 2], [4], [], []⟩
theorem has89 : Has 89 := hsf Tryz.f89
theorem sat89 : Sat 89 (QC c89) := by
 refine W89.sat (Qe.cons Qsq Qrj Qe.nil) (fn := Tryz.f89) (by kernel_rfl) (by kernel_rfl) (by kernel_rfl) (by decide) fun svs b K hP => ?_
 obtain ⟨ps, v, e, hp, hk⟩ := Qo hP
 unfold c89 at e
 split at e
 rename_i c
 cases e
 clear hp
 refine W89.en (K (.val (.bool (((QE c.toNat) || (decide (c.toNat = 45))) || ((decide (48 <= c.toNat)) && (decide (c.toNat <= 57)))))) none) ?_
 exact keq hk (by simp [QO]) rfl
 cases e
end
end Go.Proofs.YtengepcafdnalaaGreatDoor
