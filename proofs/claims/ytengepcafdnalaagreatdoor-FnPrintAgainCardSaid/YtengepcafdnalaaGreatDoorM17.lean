/-
  Parts of the proof that the law FnPrintAgain holds for every input (texts Hc, Hd, He, Ka, Kb, Kd, Ke, Kg, Ku, Kv, Kw). Conditions: none.
-/
import Derived.Test.YtengepcafdnalaaGreatDoorM16
namespace Go.Proofs.YtengepcafdnalaaGreatDoor
open _root_.Bool renaming and_eq_true → zh, or_eq_true → zw
open _root_.List renaming map_cons → zJ, getD_eq_getElem?_getD → za, drop_eq_getElem_cons → zP, getElem?_eq_getElem → zi, length_drop → zj, length_cons → ze, length_nil → zf, drop_drop → xj, take_add_one → zL, append_assoc → zo, singleton_append → zT, append_nil → zC, length_append → zd, mem_cons → zz, getElem?_cons_zero → zF
open _root_.Nat renaming strongRecOn → zl, lt_of_lt_of_le → zS, pow_le_pow_right → xu, le_refl → zq
open _root_.Option renaming map_eq_some_iff → zm, map_some → zO, toList_some → z7
open Go.Proofs.Tryz renaming prog → zg
section
open Go Go.RowKit
inductive Fr where
 | sq (y : Code)
 | bk (id : Nat)
 | lp (c : Code)
 | sc (c : Code)
def den : List Fr -> (Exit -> SS -> Prop) -> Exit -> SS -> Prop
 | [], Q => Q
 | .sq y :: s, Q => QgD (fun S' => VC y S' (den s Q)) (den s Q)
 | .bk id :: s, Q => blkQ id (den s Q)
 | .lp c :: s, Q => QgD (fun S' => VLp c S' (den s Q)) (den s Q)
 | .sc c :: s, Q => scQ c (den s Q)
def QdC : Code -> Nat
 | .region id _ _ => id
 | .seq a _ => QdC a
 | .block _ c => QdC c
 | .loop c => QdC c
 | .scope c => QdC c
 | _ => 1000000
def Qkc : Nat -> List SV -> List SV
 | _, [] => []
 | m, x :: l => cond (m % 2 == 1) x .undef :: Qkc (m / 2) l
def Qnr : Nat -> Env -> Env
 | _, [] => []
 | m, x :: l => Qkc (m % 65536) x :: Qnr (m / 65536) l
def Qkb (m : Nat) (S : SS) : SS := { S with env := Qnr m S.env }
def mlk : List (Nat × Nat) -> Nat -> Nat
 | [], _ => 0
 | (i, m) :: l, j => cond (i == j) m (mlk l j)
def rdR (S : SS) : ResultVar -> Option SV
 | .tmp t => cond (QkS (Zf S.env t)) (some (Zf S.env t)) none
 | .cell t T => cond (QkS (Zf S.env t)) (match QjP S.heap T (Zf S.env t) with
  | some ([], v) => some v
  | _ => none) none
def rdRs (S : SS) : List ResultVar -> Option (List SV)
 | [] => some []
 | r :: l => match rdR S r, rdRs S l with
  | some s, some ss => some (s :: ss)
  | _, _ => none
def Qj6 : Option SB -> Bool
 | some c => c.low
 | none => true
def Qk8 (hb rowR : Bool) (rs : List ResultVar) (Ts : List TypeId) (S : SS) : Option (Out × Option SB) :=
 match rdRs S rs with
 | some ss => match rowR with
  | true => match ss, Ts with
   | [.own r], _ => match hlk S.heap r with
    | some (.row x true) => cond (Qj6 (b0 hb S)) (some (.row x, b0 hb S)) none
    | _ => none
   | [.nilsl], [T] => cond (Qj6 (b0 hb S)) ((Zd T).map fun x => (.row x, b0 hb S)) none
   | _, _ => none
  | false => cond (SV.lts 0 (fixRs S Ts ss).1 && Qj6 (b0 hb (fixRs S Ts ss).2)) (some (.val (QkT (fixRs S Ts ss).1), b0 hb (fixRs S Ts ss).2)) none
 | none => none
theorem Qdn {b : Option SB} (h : Qj6 b = true) : lowO b := by
 cases b with
 | none => trivial
 | some c => exact h
theorem QjM {S : SS} : ∀ {l : List ResultVar} {ss : List SV} {K : List SV -> Prop}, rdRs S l = some ss -> K ss -> Qe1 S l K
 | [], ss, K, h, hk => by cases h; exact hk
 | r :: l, ss, K, h, hk => by
  simp only [rdRs] at h
  split at h
  rename_i s ss' h1 h2
  cases h
  refine (?_ : getR S r fun s => Qe1 S l fun ss => K (s :: ss))
  have rec' : Qe1 S l fun ss => K (s :: ss) := QjM h2 hk
  cases r with
  | tmp t =>
   obtain ⟨h3, h4⟩ := VR h1
   cases h4
   obtain ⟨h5, h6⟩ := Qco h3
   exact ⟨h5, by rw [h6]; exact rec'⟩
  | cell t T =>
   obtain ⟨h3, h4⟩ := VR h1
   obtain ⟨h5, h6⟩ := Qco h3
   refine ⟨h5, ?_⟩
   rw [h6]
   split at h4
   rename_i v hq
   cases h4
   have := QjO hq trivial
   have mono : ∀ {P Q : SV -> Prop}, (∀ r, P r -> Q r) -> QaE S.heap T (Zf S.env t) P -> QaE S.heap T (Zf S.env t) Q := by
    intro P Q hPQ hl
    have lk : ∀ {cs : List SV} {o : Nat}, QaD T cs o P -> QaD T cs o Q := by
     intro cs o hl
     unfold QaD at hl ⊢
     split at hl
     split at hl
     exact hPQ _ hl
     exact hl
     exact ⟨hl.1, hPQ _ hl.2⟩
     exact hl
    unfold QaE at hl ⊢
    split at hl
    split at hl
    exact lk hl
    exact hl
    exact lk hl
    split at hl
    exact ⟨hl.1, hl.2.1, lk hl.2.2⟩
    exact hl
    exact hl
   exact mono (fun r hr => by rw [hr]; exact rec') this
   cases h4
  cases h
theorem QjK {hb rowR : Bool} {rs : List ResultVar} {Ts : List TypeId} {S : SS} {o : Out} {b : Option SB} (h : Qk8 hb rowR rs Ts S = some (o, b)) {K : Out -> Option SB -> Prop} (hk : K o b) : QmD hb rowR rs Ts K S := by
 unfold Qk8 at h
 split at h
 rename_i ss hss
 refine QjM hss ?_
 cases rowR with
 | true =>
  simp only at h ⊢
  unfold QiC
  split at h
  split at h
  rename_i hx
  obtain ⟨h0, h⟩ := VR h
  cases h
  simp only [hx]
  exact ⟨Qdn h0, hk⟩
  cases h
  obtain ⟨h0, h⟩ := VR h
  simp only [zm] at h
  obtain ⟨x, h1, h2⟩ := h
  cases h2
  simp only [h1]
  exact ⟨Qdn h0, hk⟩
  cases h
 | false =>
  simp only at h ⊢
  obtain ⟨h1, h2⟩ := VR h
  cases h2
  rw [zh] at h1
  exact ⟨h1.1, Qdn h1.2, hk⟩
 cases h
section
variable (D : Cx) (R : SS -> Option (Out × Option SB)) (Qf : Exit -> SS -> Prop) (K : Out -> Option SB -> Prop) (ms : List (Nat × Nat)) (cuts : List Nat)
def QiD (S : SS) : Prop :=
 match R S with
 | some (o, b) => K o b
 | none => False
def nxt (G : Code -> List Fr -> SS -> Prop) : List Fr -> Exit -> SS -> Prop
 | [], .normal, S => QiD R K S
 | _, .ret, S => QiD R K S
 | .sq y :: s, .normal, S => cond (cuts.contains (QdC y)) (VC y (Qkb (mlk ms (QdC y)) S) (den s Qf)) (G y s S)
 | .bk _ :: s, .normal, S => nxt G s .normal S
 | .bk id :: s, .exit i, S => cond (i == id) (nxt G s .normal S) (nxt G s (.exit i) S)
 | .lp c :: s, .normal, S => VLp c (Qkb (mlk ms (QdC c)) S) (den s Qf)
 | .sc c :: s, .goto l, S => match findLabel c l with
  | some rest => G rest (.sc c :: s) S
  | none => nxt G s (.goto l) S
 | _ :: s, e, S => nxt G s e S
 | [], _, _ => False
def vcDr (l : List Oper) (S : SS) (k : SS -> Prop) : Prop :=
 cond (Qln D l) (Qd3 D (l.map (·.dst)) l S k) (vcD D (l.map (·.dst)) ((S.heap, S.nx) :: Qbk D (l.map (·.dst)) l S) l S k)
def setB (o : Operand) (b : Bool) (S : SS) : SS :=
 match o with
 | .tmp t => { S with env := ept S.env t (.bool b) }
 | _ => S
def go : Nat -> Code -> List Fr -> SS -> Prop
 | 0, _, _, _ => False
 | n + 1, c, stk, S => match c with
  | .skip => nxt R Qf K ms cuts (go n) stk .normal S
  | .label _ => nxt R Qf K ms cuts (go n) stk .normal S
  | .region _ ops false => vcQ D ops.toList S fun S' => nxt R Qf K ms cuts (go n) stk .normal S'
  | .region _ ops true => bb (ordB D ops) (vcDr D ops.toList S fun S' => nxt R Qf K ms cuts (go n) stk .normal S')
  | .seq x y => go n x (.sq y :: stk) S
  | .cond o x y => match ev S.env o with
   | .bool b => cond b (go n x stk (setB o true S)) (go n y stk (setB o false S))
   | _ => False
  | .block id x => go n x (.bk id :: stk) S
  | .loop x => VLp x (Qkb (mlk ms (QdC x)) S) (den stk Qf)
  | .scope x => go n x (.sc x :: stk) S
  | .exit i => nxt R Qf K ms cuts (go n) stk (.exit i) S
  | .goto l => nxt R Qf K ms cuts (go n) stk (.goto l) S
  | .ret => QiD R K S
  | _ => False
end
theorem QeO : ∀ {l : List SV} {m i : Nat} {s : SV}, lk1 (Qkc m l) i = some s -> ∃ t, lk1 l i = some t /\ (s = .undef \/ s = t)
 | x :: l, m, 0, s, h => by
  simp only [Qkc, lk1, Option.some.injEq] at h
  refine ⟨x, rfl, ?_⟩
  cases hb : (m % 2 == 1) with
  | true => rw [hb] at h; exact .inr h.symm
  | false => rw [hb] at h; exact .inl h.symm
 | x :: l, m, i + 1, s, h => QeO (l := l) (m := m / 2) h
 | [], m, i, s, h => by cases h
theorem QeN : ∀ {e : Env} {m i j : Nat} {s : SV}, lk2 (Qnr m e) i j = some s -> ∃ t, lk2 e i j = some t /\ (s = .undef \/ s = t)
 | x :: l, m, 0, j, s, h => QeO (l := x) h
 | x :: l, m, i + 1, j, s, h => QeN (e := l) (m := m / 65536) h
 | [], m, i, j, s, h => by cases h
theorem Yf.keep (m : Nat) (S : SS) : Yf S (Qkb m S) := by
 intro g0 w0 M ω a w hS
 refine ⟨ω, hS.weak rfl rfl fun i s hs => ?_⟩
 obtain ⟨t, h1, h2⟩ := QeN hs
 refine ⟨t, h1, fun v _ hr => ?_⟩
 rcases h2 with rfl | rfl
 exact .undef _
 exact hr
section
variable {D : Cx} {R : SS -> Option (Out × Option SB)} {Qf : Exit -> SS -> Prop} {K : Out -> Option SB -> Prop} {ms : List (Nat × Nat)} {cuts : List Nat}
theorem QjF {o : Operand} {b : Bool} {S : SS} (h : ev S.env o = .bool b) : Yf S (setB o b S) := by
 unfold setB
 split
 rename_i t
 intro g0 w0 M ω a w hS
 have hx := Qaq (e := S.env) (d := t) h (by simp)
 obtain ⟨v, h1, h2⟩ := hS.env t _ hx
 have h3 := hS.put h2 t
 rw [Qa5 h1] at h3
 exact ⟨ω, h3⟩
 exact Yf.refl _
theorem Qas : ∀ (s : List Fr) (S : SS), Qf .ret S -> den s Qf .ret S
 | [], S, h => h
 | .sq _ :: s, S, h => Qas s S h
 | .bk _ :: s, S, h => Qas s S h
 | .lp _ :: s, S, h => Qas s S h
 | .sc _ :: s, S, h => Qas s S h
theorem QsP (hR : ∀ S o b, R S = some (o, b) -> K o b -> Qf .ret S /\ Qf .normal S) {G : Code -> List Fr -> SS -> Prop} (hG : ∀ c s S, G c s S -> VC c S (den s Qf)) :
 ∀ (s : List Fr) (e : Exit) (S : SS), nxt R Qf K ms cuts G s e S -> den s Qf e S := by
 have ret : ∀ S, QiD R K S -> Qf .ret S /\ Qf .normal S := by
  intro S h
  unfold QiD at h
  split at h
  rename_i o b e; exact hR S o b e h
  exact h.elim
 intro s
 induction s with
 | nil =>
  intro e S h
  cases e <;> simp only [nxt] at h <;> first | exact (ret S h).2 | exact (ret S h).1 | exact h.elim
 | cons f s ih =>
  intro e S h
  cases e with
  | ret => exact Qas _ S (ret S (by cases f <;> simpa only [nxt] using h)).1
  | normal =>
   cases f with
   | sq y =>
    simp only [nxt] at h
    simp only [den, QgD]
    cases hc : cuts.contains (QdC y) with
    | true => rw [hc] at h; exact VC.le (Yf.keep _ _) h
    | false => rw [hc] at h; exact hG _ _ _ h
   | bk id => simp only [nxt] at h; exact ih _ _ h
   | lp c => simp only [nxt] at h; exact VLp.le (Yf.keep _ _) h
   | sc c => simp only [nxt] at h; exact ih _ _ h
  | exit i =>
   cases f with
   | sq y => simp only [nxt] at h; exact ih _ _ h
   | bk id =>
    simp only [nxt] at h
    simp only [den, blkQ]
    cases hc : (i == id) with
    | true => rw [hc] at h; rw [if_pos (by simpa using hc)]; exact ih _ _ h
    | false => rw [hc] at h; rw [if_neg (by simpa using hc)]; exact ih _ _ h
   | lp c => simp only [nxt] at h; exact ih _ _ h
   | sc c => simp only [nxt] at h; exact ih _ _ h
  | goto l =>
   cases f with
   | sq y => simp only [nxt] at h; exact ih _ _ h
   | bk id => simp only [nxt] at h; exact ih _ _ h
   | lp c => simp only [nxt] at h; exact ih _ _ h
   | sc c =>
    simp only [nxt] at h
    simp only [den, scQ]
    split at h
    rename_i rest hf
    simp only [hf]
    exact VSp.step (hG _ _ _ h)
    rename_i hf
    simp only [hf]
    exact ih _ _ h
  | panic ch => cases f <;> (simp only [nxt] at h; exact ih _ _ h)
  | outgrown => cases f <;> (simp only [nxt] at h; exact ih _ _ h)
theorem JS (hD : Qe D) {id : Nat} {ops : Array Oper} {S : SS} {Q : Exit -> SS -> Prop} (h : vcQ D ops.toList S (Q .normal)) : VC (.region id ops false) S Q := by
 intro g0 w0 M ω a w hS
 refine wp_region_list ?_
 exact Qrm hD (ops := ops) (K := Q .normal) (fun a w ⟨ω', S', h1, h2⟩ => ⟨S', h1, ω', h2⟩) hS h
theorem QiE (hD : Qe D) {id : Nat} {ops : Array Oper} {S : SS} {Q : Exit -> SS -> Prop} (hB : ordB D ops = true) (h : vcDr D ops.toList S (Q .normal)) : VC (.region id ops true) S Q := by
 intro g0 w0 M ω a w hS
 have hR : vcR D ops.toList S (Q .normal) := by
  unfold vcDr at h
  unfold vcR
  cases hn : Qln D ops.toList with
  | true => rw [hn] at h; exact Qjx h
  | false => rw [hn] at h; exact h
 exact Qrl hD hB hS (K := Q .normal) hR (fun a w ⟨ω', S', h1, h2⟩ => ⟨S', h1, ω', h2⟩) (by kernel_rfl) id
theorem Qkq (hD : Qe D) (hR : ∀ S o b, R S = some (o, b) -> K o b -> Qf .ret S /\ Qf .normal S) : ∀ (n : Nat) (c : Code) (s : List Fr) (S : SS), go D R Qf K ms cuts n c s S -> VC c S (den s Qf)
 | 0, _, _, _, h => h.elim
 | n + 1, c, s, S, h => by
  have ih := Qkq hD hR n
  have nx := QsP (ms := ms) (cuts := cuts) hR ih
  have ret : ∀ S, QiD R K S -> Qf .ret S := by
   intro S h
   unfold QiD at h
   split at h
   rename_i o b e; exact (hR S o b e h).1
   exact h.elim
  cases c with
  | skip => exact VC.skip (nx s .normal S h)
  | label l => exact VC.label (nx s .normal S h)
  | region id ops d =>
   cases d with
   | false =>
    refine VC.mono (Q := fun e S' => match e with
     | .normal => nxt R Qf K ms cuts (go D R Qf K ms cuts n) s .normal S'
     | _ => False) (JS hD h) fun e S' h' => ?_
    cases e <;> first | exact nx s .normal S' h' | exact h'.elim
   | true =>
    obtain ⟨h1, h2⟩ := JH h
    refine VC.mono (Q := fun e S' => match e with
     | .normal => nxt R Qf K ms cuts (go D R Qf K ms cuts n) s .normal S'
     | _ => False) (QiE hD h1 h2) fun e S' h' => ?_
    cases e <;> first | exact nx s .normal S' h' | exact h'.elim
  | seq x y => exact VC.seq (ih _ _ _ h)
  | cond o x y =>
   simp only [go] at h
   split at h
   rename_i b he
   refine VC.cond ?_
   unfold arg
   rw [he]
   refine ⟨trivial, fun hb => ?_, fun hb => ?_⟩
   rw [hb] at h he; exact VC.le (QjF he) (ih _ _ _ h)
   rw [hb] at h he; exact VC.le (QjF he) (ih _ _ _ h)
   exact h.elim
  | block id x => exact VC.block (ih _ _ _ h)
  | loop x => exact VC.ofLp (VLp.le (Yf.keep _ _) h)
  | scope x => exact VC.ofSp (VSp.step (ih _ _ _ h))
  | exit i => exact VC.exit (nx s (.exit i) S h)
  | goto l => exact VC.goto (nx s (.goto l) S h)
  | ret => exact VC.ret (Qas s S (ret S h))
  | _ => exact h.elim
end
end
section
open Go Go.RowKit
def Qp (fn : Func) : Code :=
 match fn.body with
 | some c => c
 | none => .skip
def pos : Code -> List Fr -> Nat -> Option (Code × List Fr)
 | .seq x y, s, id => match pos x (.sq y :: s) id with
  | some r => some r
  | none => pos y s id
 | .cond _ x y, s, id => match pos x s id with
  | some r => some r
  | none => pos y s id
 | .block i x, s, id => pos x (.bk i :: s) id
 | .loop x, s, id => cond (QdC x == id) (some (x, s)) (pos x (.lp x :: s) id)
 | .scope x, s, id => pos x (.sc x :: s) id
 | _, _, _ => none
def Qdb : Code -> List Fr -> Nat -> Option (Code × List Fr)
 | .seq x y, s, id => cond (QdC y == id) (some (y, s)) (match Qdb x (.sq y :: s) id with
  | some r => some r
  | none => Qdb y s id)
 | .cond _ x y, s, id => match Qdb x s id with
  | some r => some r
  | none => Qdb y s id
 | .block i x, s, id => Qdb x (.bk i :: s) id
 | .loop x, s, id => Qdb x (.lp x :: s) id
 | .scope x, s, id => Qdb x (.sc x :: s) id
 | _, _, _ => none
def AtL (B : Code) (Q : Exit -> SS -> Prop) (id : Nat) (S : SS) : Prop :=
 match pos B [] id with
 | some (c, s) => VLp c S (den s Q)
 | none => False
def AtC (B : Code) (Q : Exit -> SS -> Prop) (id : Nat) (S : SS) : Prop :=
 match Qdb B [] id with
 | some (c, s) => VC c S (den s Q)
 | none => False
structure Wk where
 D : Cx
 B : Code
 hb : Bool
 rowR : Bool
 rs : List ResultVar
 Ts : List TypeId
 ms : List (Nat × Nat)
 cuts : List Nat
def Wk.Q (W : Wk) (K : Out -> Option SB -> Prop) : Exit -> SS -> Prop := retQ W.hb W.rowR W.rs W.Ts K
def Wk.L (W : Wk) (K : Out -> Option SB -> Prop) (id : Nat) (S : SS) : Prop := AtL W.B (W.Q K) id S
def Wk.C (W : Wk) (K : Out -> Option SB -> Prop) (id : Nat) (S : SS) : Prop := AtC W.B (W.Q K) id S
def Wk.go0 (W : Wk) (K : Out -> Option SB -> Prop) (S : SS) : Prop :=
 go W.D (Qk8 W.hb W.rowR W.rs W.Ts) (W.Q K) K W.ms W.cuts 1000 W.B [] S
def Wk.goL (W : Wk) (K : Out -> Option SB -> Prop) (id : Nat) (S : SS) : Prop :=
 match pos W.B [] id with
 | some (c, s) => go W.D (Qk8 W.hb W.rowR W.rs W.Ts) (W.Q K) K W.ms W.cuts 1000 c (.lp c :: s) S
 | none => False
def Wk.goC (W : Wk) (K : Out -> Option SB -> Prop) (id : Nat) (S : SS) : Prop :=
 match Qdb W.B [] id with
 | some (c, s) => go W.D (Qk8 W.hb W.rowR W.rs W.Ts) (W.Q K) K W.ms W.cuts 1000 c s S
 | none => False
theorem Wk.hR (W : Wk) (K : Out -> Option SB -> Prop) : ∀ S o b, Qk8 W.hb W.rowR W.rs W.Ts S = some (o, b) -> K o b -> W.Q K .ret S /\ W.Q K .normal S :=
 fun _ _ _ h hk => ⟨QjK h hk, QjK h hk⟩
theorem Wk.atL (W : Wk) (hD : Qe W.D) {K : Out -> Option SB -> Prop} {id : Nat} {S : SS} {X : Prop} (e : W.goL K id S = X) (h : X) : W.L K id S := by
 rw [<- e] at h
 unfold Wk.goL at h
 unfold Wk.L AtL
 cases hp : pos W.B [] id with
 | some r => rw [hp] at h; exact VLp.step (Qkq hD (W.hR K) _ _ _ _ h)
 | none => rw [hp] at h; exact h.elim
theorem Wk.atC (W : Wk) (hD : Qe W.D) {K : Out -> Option SB -> Prop} {id : Nat} {S : SS} {X : Prop} (e : W.goC K id S = X) (h : X) : W.C K id S := by
 rw [<- e] at h
 unfold Wk.goC at h
 unfold Wk.C AtC
 cases hp : Qdb W.B [] id with
 | some r => rw [hp] at h; exact Qkq hD (W.hR K) _ _ _ _ h
 | none => rw [hp] at h; exact h.elim
theorem Wk.L.le {W : Wk} {K : Out -> Option SB -> Prop} {id : Nat} {S S' : SS} (hl : Yf S S') (h : W.L K id S') : W.L K id S := by
 unfold Wk.L AtL at *
 split at h
 exact VLp.le hl h
 exact h.elim
theorem Wk.C.le {W : Wk} {K : Out -> Option SB -> Prop} {id : Nat} {S S' : SS} (hl : Yf S S') (h : W.C K id S') : W.C K id S := by
 unfold Wk.C AtC at *
 split at h
 exact VC.le hl h
 exact h.elim
theorem Wk.sat (W : Wk) (hD : Qe W.D) {f : FuncId} {fn : Func} {P : Spec} (hf : zg.funcs[f]? = some fn) (hb : fn.body = some W.B) (hl : fn.results = W.rs.toArray) (h4 : W.rs.length <= 4)
 (h : ∀ svs b K, P svs b K -> b.isSome = W.hb /\ W.go0 K ⟨JW fn.ntmps svs, (loc b).heap, 1⟩) : Sat f P := by
 refine Sat.of_vc W.rowR W.rs W.Ts hf hb hl h4 fun svs b K hP => ?_
 obtain ⟨e, hg⟩ := h svs b K hP
 rw [e]
 have hn : (loc b).nx = 1 := by cases b <;> rfl
 rw [hn]
 exact Qkq hD (W.hR K) _ _ _ _ hg
theorem Wk.start {W : Wk} {K : Out -> Option SB -> Prop} {S : SS} {X : Prop} (e : W.go0 K S = X) (h : X) : W.go0 K S := by rw [e]; exact h
theorem Wk.entry (W : Wk) {n : Nat} {svs : List SV} {b : Option SB} {K : Out -> Option SB -> Prop} (hb : b.isSome = W.hb) {X : Prop} (e : W.go0 K ⟨JW n svs, (loc b).heap, 1⟩ = X) (h : X) :
 b.isSome = W.hb /\ W.go0 K ⟨JW n svs, (loc b).heap, 1⟩ := ⟨hb, by rw [e]; exact h⟩
theorem Qk {f : List SV -> Option SB -> QR} {svs : List SV} {b : Option SB} {K : Out -> Option SB -> Prop} (h : Qv f svs b K) : ∃ ps v, f svs b = some (ps, v) /\ VZ ps /\ K (.val v) b := by
 unfold Qv at h
 split at h
 rename_i ps v e; obtain ⟨h1, h2⟩ := Qau h; exact ⟨ps, v, e, h1, h2⟩
 exact h.elim
theorem YG {f : List SV -> Option SB -> FR} {svs : List SV} {b : Option SB} {K : Out -> Option SB -> Prop} (h : fnS f svs b K) : ∃ ps o b', f svs b = some (ps, o, b') /\ VZ ps /\ K o b' := by
 unfold fnS at h
 split at h
 rename_i ps o b' e; obtain ⟨h1, h2⟩ := Qau h; exact ⟨ps, o, b', e, h1, h2⟩
 exact h.elim
theorem Qc {b : Bool} {p q : Prop} (h1 : b = true -> p) (h2 : b = false -> q) : cond b p q := by cases b <;> first | exact h2 rfl | exact h1 rfl
def Qy {α : Type} (x : Option α) (f : α -> Prop) (q : Prop) : Prop :=
 match x with
 | some y => f y
 | none => q
theorem QK {α : Type} {x : Option α} {f : α -> Prop} {q : Prop} (h1 : ∀ y, x = some y -> f y) (h2 : x = none -> q) : Qy x f q := by
 unfold Qy
 split
 exact h1 _ rfl
 exact h2 rfl
def mkS (n : Nat) (l : List (Nat × SV)) (h : Heap) (nx : Nat) : SS := ⟨l.foldl (fun e p => ept e p.1 p.2) (JW n []), h, nx⟩
theorem keq {K : Out -> Option SB -> Prop} {o o' : Out} {b b' : Option SB} (h : K o b) (e1 : o = o') (e2 : b = b') : K o' b' := by rw [<- e1, <- e2]; exact h
theorem Has.of {f : FuncId} {fn : Func} (hf : zg.funcs[f]? = some fn) (hn : (fn.name == "runtime.NumGoroutine") = false) (hb : fn.body = some (Qp fn)) : Has f := ⟨fn, _, hf, hn, hb⟩
theorem Wk.sa (W : Wk) (hD : Qe W.D) {f : FuncId} (fn : Func) {P : Spec} (h : ∀ svs b K, P svs b K -> b.isSome = W.hb /\ W.go0 K ⟨JW fn.ntmps svs, (loc b).heap, 1⟩) (hf : zg.funcs[f]? = some fn := by kernel_rfl) (hb : fn.body = some W.B := by kernel_rfl) (hl : fn.results = W.rs.toArray := by kernel_rfl) (h4 : Nat.ble W.rs.length 4 = true := by kernel_rfl) : Sat f P := W.sat hD hf hb hl (Nat.le_of_ble_eq_true h4) h
theorem Wk.aL (W : Wk) (hD : Qe W.D) {K : Out -> Option SB -> Prop} {id : Nat} {S : SS} (X : Prop) (h : X) (e : W.goL K id S = X := by kernel_rfl) : W.L K id S := W.atL hD e h
theorem Wk.aC (W : Wk) (hD : Qe W.D) {K : Out -> Option SB -> Prop} {id : Nat} {S : SS} (X : Prop) (h : X) (e : W.goC K id S = X := by kernel_rfl) : W.C K id S := W.atC hD e h
theorem Wk.en (W : Wk) {n : Nat} {svs : List SV} {b : Option SB} {K : Out -> Option SB -> Prop} (X : Prop) (h : X) (hb : b.isSome = W.hb := by rfl) (e : W.go0 K ⟨JW n svs, (loc b).heap, 1⟩ = X := by kernel_rfl) : b.isSome = W.hb /\ W.go0 K ⟨JW n svs, (loc b).heap, 1⟩ := W.entry hb e h
theorem hsf {f : FuncId} (fn : Func) (hf : zg.funcs[f]? = some fn := by kernel_rfl) (hn : (fn.name == "runtime.NumGoroutine") = false := by kernel_rfl) (hb : fn.body = some (Qp fn) := by kernel_rfl) : Has f := Has.of hf hn hb
end
section
open Go Go.RowKit
def QgZ (π : List Nat) : SV -> SV
 | .own r => .own (pim π r)
 | .ptr r o => .ptr (pim π r) o
 | s => s
def canN : SV -> SV
 | .int .i64 (.ofNat n) => .nat n
 | s => s
def canL (x : RV) : SV -> SV
 | .nilsl => cond (x.len == 0) (.sl x) .nilsl
 | s => s
def canI : SV -> SV
 | .nat n => .int .i64 n
 | s => s
def mskV : SV -> SV -> SV
 | .undef, _ => .undef
 | .int .i64 _, s => canI s
 | .nat _, s => canN s
 | .sl x, s => canL x s
 | _, s => s
def QiX : List SV -> List SV -> List SV
 | [], [] => []
 | s' :: l', s :: l => mskV s' s :: QiX l' l
 | [], _ => [.undef]
 | _, [] => []
def Qce : Env -> Env -> Env
 | [], [] => []
 | s' :: l', s :: l => QiX s' s :: Qce l' l
 | [], _ => [[]]
 | _, [] => []
def isBx : SV -> Bool
 | .cp [.ptr 0 0] => true
 | _ => false
theorem QpK {s : SV} (h : isBx s = true) : s = .cp [.ptr 0 0] := by
 unfold isBx at h
 split at h
 rfl
 cases h
theorem Yu {π : List Nat} {n : Nat} (h5 : pim π 0 = 0) (h6 : 0 < n) {s : SV} (h : (s.lt 0 || isBx s) = true) : s.lt 0 = true \/ s = .cp [.ptr 0 0] /\ pim π 0 = 0 /\ 0 < n := by
 rw [zw] at h
 exact h.imp id fun q => ⟨QpK q, h5, h6⟩
def okV (n : Nat) : SV -> Bool
 | .undef => true
 | .own r => decide (r < n)
 | .ptr r _ => decide (r < n)
 | s => s.lt 0 || isBx s
def okB (π : List Nat) (S : SS) : Bool :=
 S.env.all (fun l => l.all (okV S.nx)) && (S.heap.all (fun p => decide (p.1 < S.nx) && p.2.low) && (Qi7 π && (decide (S.nx <= π.length) && (pim π 0 == 0 && decide (0 < S.nx)))))
theorem Qnf (s' : SV) {s : SV} {ω : Wit} {v : Value} (h : Rel ω s v) : Rel ω (mskV s' s) v := by
 unfold mskV
 split
 exact .undef _
 unfold canI
 split
 rw [h.nat_inv]; exact .int _ _
 exact h
 unfold canN
 split
 rw [h.int_inv]; exact .nat _
 exact h
 unfold canL
 split
 rename_i x s
 cases hx : (x.len == 0) with
 | true => rw [h.nilsl_inv]; exact .slz _ _ _ (by simpa using hx)
 | false => exact h
 exact h
 exact h
theorem Qho : ∀ {l' l : List SV} {i : Nat} {s : SV}, lk1 (QiX l' l) i = some s -> ∃ t, lk1 l i = some t /\ ∀ ω v, Rel ω t v -> Rel ω s v
 | [], [], i, s, h => by cases h
 | s' :: l', x :: l, 0, s, h => by
  simp only [QiX, lk1, Option.some.injEq] at h
  subst h
  exact ⟨x, rfl, fun ω v hr => Qnf s' hr⟩
 | s' :: l', x :: l, i + 1, s, h => Qho (l' := l') (l := l) h
 | [], x :: l, 0, s, h => by
  simp only [QiX, lk1, Option.some.injEq] at h
  subst h
  exact ⟨x, rfl, fun ω v _ => .undef _⟩
 | [], x :: l, i + 1, s, h => by cases i <;> simp [QiX, lk1] at h
 | s' :: l', [], i, s, h => by simp [QiX, lk1] at h
theorem Qhp : ∀ {l' l : Env} {i j : Nat} {s : SV}, lk2 (Qce l' l) i j = some s -> ∃ t, lk2 l i j = some t /\ ∀ ω v, Rel ω t v -> Rel ω s v
 | [], [], i, j, s, h => by cases h
 | s' :: l', x :: l, 0, j, s, h => Qho (l' := s') (l := x) h
 | s' :: l', x :: l, i + 1, j, s, h => Qhp (l' := l') (l := l) h
 | [], x :: l, 0, j, s, h => by simp [Qce, lk2, lk1] at h
 | [], x :: l, i + 1, j, s, h => by cases i <;> simp [Qce, lk2] at h
 | s' :: l', [], i, j, s, h => by simp [Qce, lk2] at h
theorem Yf.msk (e' : Env) (S : SS) : Yf S { S with env := Qce e' S.env } := by
 intro g0 w0 M ω a w hS
 refine ⟨ω, hS.weak rfl rfl fun i s hs => ?_⟩
 obtain ⟨t, h1, h2⟩ := Qhp hs
 exact ⟨t, h1, fun v _ hr => h2 _ _ hr⟩
theorem Qs1 {π : List Nat} {n : Nat} (h5 : pim π 0 = 0) (h6 : 0 < n) {s' : SV} (h2 : okV n s' = true) : leV π n (QgZ π s') s' := by
 cases s' with
 | undef => trivial
 | own r => exact ⟨by simpa [okV] using h2, rfl⟩
 | ptr r o => exact ⟨by simpa [okV] using h2, rfl⟩
 | int k m => exact ⟨rfl, Yu h5 h6 h2⟩
 | bool b => exact ⟨rfl, Yu h5 h6 h2⟩
 | str l => exact ⟨rfl, Yu h5 h6 h2⟩
 | nilptr => exact ⟨rfl, Yu h5 h6 h2⟩
 | agg l => exact ⟨rfl, Yu h5 h6 h2⟩
 | tup l => exact ⟨rfl, Yu h5 h6 h2⟩
 | iface t v => exact ⟨rfl, Yu h5 h6 h2⟩
 | nilif => exact ⟨rfl, Yu h5 h6 h2⟩
 | ifx => exact ⟨rfl, Yu h5 h6 h2⟩
 | nilsl => exact ⟨rfl, Yu h5 h6 h2⟩
 | sl x => exact ⟨rfl, Yu h5 h6 h2⟩
 | cp l => exact ⟨rfl, Yu h5 h6 h2⟩
 | rp r i z o => exact ⟨rfl, Yu h5 h6 h2⟩
 | cs x => exact ⟨rfl, Yu h5 h6 h2⟩
 | gd c s => exact ⟨rfl, Yu h5 h6 h2⟩
 | op v => exact ⟨rfl, Yu h5 h6 h2⟩
 | nat m => exact ⟨rfl, Yu h5 h6 h2⟩
 | byt c => exact ⟨rfl, Yu h5 h6 h2⟩
 | gk j b s => exact ⟨rfl, Yu h5 h6 h2⟩
theorem Qnn {π : List Nat} {n : Nat} (h5 : pim π 0 = 0) (h6 : 0 < n) : ∀ {l' : List SV}, l'.all (okV n) = true -> leR π n (l'.map (QgZ π)) l'
 | [], _ => trivial
 | s' :: l', h2 => by
  simp only [List.all_cons, zh] at h2
  exact ⟨Qs1 h5 h6 h2.1, Qnn h5 h6 h2.2⟩
theorem Qnp {π : List Nat} {n : Nat} (h5 : pim π 0 = 0) (h6 : 0 < n) : ∀ {l' : Env}, l'.all (fun x => x.all (okV n)) = true -> leE π n (l'.map fun x => x.map (QgZ π)) l'
 | [], _ => trivial
 | s' :: l', h2 => by
  simp only [List.all_cons, zh] at h2
  exact ⟨Qnn h5 h6 h2.1, Qnp h5 h6 h2.2⟩
theorem Qno {π : List Nat} {hp : Heap} {n : Nat} : ∀ {h : Heap}, h.map (fun p => hlk hp (pim π p.1)) = h.map (fun p => some p.2) -> h.all (fun p => decide (p.1 < n) && p.2.low) = true -> leH π hp n h
 | [], _, _ => trivial
 | (r, b) :: h, e, h2 => by
  simp only [zJ, List.cons.injEq] at e
  simp only [List.all_cons, zh, decide_eq_true_eq] at h2
  exact ⟨⟨h2.1.1, e.1, h2.1.2⟩, Qno e.2 h2.2⟩
theorem Yf.ren {S S' : SS} (π : List Nat) (e1 : Qce S'.env S.env = S'.env.map (fun x => x.map (QgZ π))) (e2 : S'.heap.map (fun p => hlk S.heap (pim π p.1)) = S'.heap.map (fun p => some p.2))
 (e3 : okB π S' = true) : Yf S S' := by
 unfold okB at e3
 simp only [zh, decide_eq_true_eq, beq_iff_eq] at e3
 obtain ⟨h1, h2, h3, h4, h5, h6⟩ := e3
 refine Yf.trans (Yf.msk S'.env S) (Yf.of π ⟨?_, Qno e2 h2, h3, h4, h5, h6⟩)
 show leE π S'.nx (Qce S'.env S.env) S'.env
 rw [e1]
 exact Qnp h5 h6 h1
def wkL : List SV -> List SV -> Prop
 | [], [] => True
 | s :: l, s' :: l' => (∀ ω v, Rel ω s v -> Rel ω s' v) /\ wkL l l'
 | _, _ => False
theorem QlY : ∀ {l l' : List SV}, wkL l l' -> l.length = l'.length /\ ∀ (i : Nat) (s' : SV), l'[i]? = some s' -> ∃ s, l[i]? = some s /\ ∀ ω v, Rel ω s v -> Rel ω s' v
 | [], [], _ => ⟨rfl, fun i s' e => by simp at e⟩
 | s :: l, s' :: l', h => by
  obtain ⟨h1, h2⟩ := QlY h.2
  refine ⟨by simp [h1], fun i t e => ?_⟩
  cases i with
  | zero => simp at e; subst e; exact ⟨s, rfl, h.1⟩
  | succ i => simpa using h2 i t (by simpa using e)
 | s :: l, [], h => h.elim
 | [], s' :: l', h => h.elim
theorem Sat.wk {f : FuncId} {P P' : Spec} (h : Sat f P) (hw : ∀ svs b K, P' svs b K -> ∃ svs', wkL svs svs' /\ P svs' b K) : Sat f P' := by
 intro g0 w M ω svs args b K hS hn hr hP
 obtain ⟨svs', h1, h2⟩ := hw svs b K hP
 obtain ⟨h3, h4⟩ := QlY h1
 refine h g0 w M ω svs' args b K hS (by omega) (fun i s' v e e' => ?_) h2
 obtain ⟨s, e0, h5⟩ := h4 i s' e
 exact h5 ω v (hr i s v e0 e')
theorem Sat.outW {f : FuncId} {P P' : Spec} (h : Sat f P)
 (hw : ∀ svs b K, P' svs b K -> P svs b fun o b' => ∃ s s', o = .val s /\ s'.lt 0 = true /\ (∀ ω v, Rel ω s v -> Rel ω s' v) /\ K (.val s') b') : Sat f P' := by
 intro g0 w M ω svs args b K hS hn hr hP
 refine (h g0 w M ω svs args b _ hS hn hr (hw svs b K hP)).mono ?_
 rintro e w' ⟨v, o, b', he, ⟨s, s', rfl, hl, hrel, hk⟩, ω', S', h1, h2, h3⟩
 exact ⟨v, .val s', b', he, hk, ω', S', h1, h2, hl, hrel _ _ h3.2⟩
theorem Wk.L.ren {W : Wk} {K : Out -> Option SB -> Prop} {id : Nat} {S S' : SS} (π : List Nat) (e1 : Qce S'.env S.env = S'.env.map (fun x => x.map (QgZ π)))
 (e2 : S'.heap.map (fun p => hlk S.heap (pim π p.1)) = S'.heap.map (fun p => some p.2)) (e3 : okB π S' = true) (h : W.L K id S') : W.L K id S := Wk.L.le (Yf.ren π e1 e2 e3) h
theorem Wk.C.ren {W : Wk} {K : Out -> Option SB -> Prop} {id : Nat} {S S' : SS} (π : List Nat) (e1 : Qce S'.env S.env = S'.env.map (fun x => x.map (QgZ π)))
 (e2 : S'.heap.map (fun p => hlk S.heap (pim π p.1)) = S'.heap.map (fun p => some p.2)) (e3 : okB π S' = true) (h : W.C K id S') : W.C K id S := Wk.C.le (Yf.ren π e1 e2 e3) h
theorem Wk.L.rn {W : Wk} {K : Out -> Option SB -> Prop} {id : Nat} {S S' : SS} (π : List Nat) (h : W.L K id S') (e1 : Qce S'.env S.env = S'.env.map (fun x => x.map (QgZ π)) := by kernel_rfl) (e2 : S'.heap.map (fun p => hlk S.heap (pim π p.1)) = S'.heap.map (fun p => some p.2) := by kernel_rfl) (e3 : okB π S' = true := by kernel_rfl) : W.L K id S := Wk.L.ren π e1 e2 e3 h
theorem Wk.C.rn {W : Wk} {K : Out -> Option SB -> Prop} {id : Nat} {S S' : SS} (π : List Nat) (h : W.C K id S') (e1 : Qce S'.env S.env = S'.env.map (fun x => x.map (QgZ π)) := by kernel_rfl) (e2 : S'.heap.map (fun p => hlk S.heap (pim π p.1)) = S'.heap.map (fun p => some p.2) := by kernel_rfl) (e3 : okB π S' = true := by kernel_rfl) : W.C K id S := Wk.C.ren π e1 e2 e3 h
end
section
open Go Go.RowKit
set_option maxRecDepth 20000
def c142 (svs : List SV) (b : Option SB) : QR := match svs, b with
 | [.byt c], none => some ([], .bool (QA c.toNat))
 | _, _ => none
noncomputable def W142 : Wk := ⟨[], Qp Tryz.f142, false, false, [.tmp 2], [4], [], []⟩
theorem Qtx : Has 142 := hsf Tryz.f142
theorem Qr6 : Sat 142 (Qv c142) := by
 refine W142.sat Qe.nil (fn := Tryz.f142) (by kernel_rfl) (by kernel_rfl) (by kernel_rfl) (by decide) fun svs b K hP => ?_
 obtain ⟨ps, v, e, hp, hk⟩ := Qk hP
 unfold c142 at e
 split at e
 rename_i c
 cases e
 clear hp
 refine W142.en (K (.val (.bool (((((decide (97 <= c.toNat)) && (decide (c.toNat <= 122))) || ((decide (65 <= c.toNat)) && (decide (c.toNat <= 90)))) || (decide (c.toNat = 95))) || (decide (127 < c.toNat))))) none) ?_
 exact keq hk (by simp [QA]) rfl
 cases e
def c144 (svs : List SV) (b : Option SB) : QR := match svs, b with
 | [.byt c], none => some ([], .bool (QG c.toNat))
 | _, _ => none
noncomputable def W144 : Wk := ⟨[], Qp Tryz.f144, false, false, [.tmp 2], [4], [], []⟩
theorem Qtv : Has 144 := hsf Tryz.f144
theorem Qr4 : Sat 144 (Qv c144) := by
 refine W144.sat Qe.nil (fn := Tryz.f144) (by kernel_rfl) (by kernel_rfl) (by kernel_rfl) (by decide) fun svs b K hP => ?_
 obtain ⟨ps, v, e, hp, hk⟩ := Qk hP
 unfold c144 at e
 split at e
 rename_i c
 cases e
 clear hp
 refine W144.en (K (.val (.bool (((((((decide (97 <= c.toNat)) && (decide (c.toNat <= 122))) || ((decide (65 <= c.toNat)) && (decide (c.toNat <= 90)))) || (decide (c.toNat = 95))) || (decide (127 < c.toNat))) || (decide (c.toNat = 45))) || ((decide (48 <= c.toNat)) && (decide (c.toNat <= 57)))))) none) ?_
 exact keq hk (by simp [QG, QA]) rfl
 cases e
def c151 (svs : List SV) (b : Option SB) : QR := match svs, b with
 | [.byt c], none => some ([], .bool (Q3 c.toNat))
 | _, _ => none
noncomputable def W151 : Wk := ⟨[], Qp Tryz.f151, false, false, [.tmp 2], [4], [], []⟩
theorem Qtt : Has 151 := hsf Tryz.f151
theorem Qr2 : Sat 151 (Qv c151) := by
 refine W151.sat Qe.nil (fn := Tryz.f151) (by kernel_rfl) (by kernel_rfl) (by kernel_rfl) (by decide) fun svs b K hP => ?_
 obtain ⟨ps, v, e, hp, hk⟩ := Qk hP
 unfold c151 at e
 split at e
 rename_i c
 cases e
 clear hp
 refine W151.en (K (.val (.bool ((((decide (48 <= c.toNat)) && (decide (c.toNat <= 57))) || ((decide (97 <= c.toNat)) && (decide (c.toNat <= 102)))) || ((decide (65 <= c.toNat)) && (decide (c.toNat <= 70)))))) none) ?_
 exact keq hk (by simp [Q3]) rfl
 cases e
def c104 (svs : List SV) (b : Option SB) : QR := match svs, b with
 | [.byt c], none => some ([], .bool (QA c.toNat))
 | _, _ => none
noncomputable def W104 : Wk := ⟨[], Qp Tryz.f104, false, false, [.tmp 2], [4], [], []⟩
theorem QtK : Has 104 := hsf Tryz.f104
theorem Qsj : Sat 104 (Qv c104) := by
 refine W104.sat Qe.nil (fn := Tryz.f104) (by kernel_rfl) (by kernel_rfl) (by kernel_rfl) (by decide) fun svs b K hP => ?_
 obtain ⟨ps, v, e, hp, hk⟩ := Qk hP
 unfold c104 at e
 split at e
 rename_i c
 cases e
 clear hp
 refine W104.en (K (.val (.bool (((((decide (97 <= c.toNat)) && (decide (c.toNat <= 122))) || ((decide (65 <= c.toNat)) && (decide (c.toNat <= 90)))) || (decide (c.toNat = 95))) || (decide (128 <= c.toNat))))) none) ?_
 exact keq hk (by unfold QA; congr 4) rfl
 cases e
def c89 (svs : List SV) (b : Option SB) : QR := match svs, b with
 | [.byt c], none => some ([], .bool (QG c.toNat))
 | _, _ => none
noncomputable def W89 : Wk := ⟨[(104, .pure c104)], Qp Tryz.f89, false, false, [.tmp 2], [4], [], []⟩
theorem has89 : Has 89 := hsf Tryz.f89
theorem sat89 : Sat 89 (Qv c89) := by
 refine W89.sat (Qe.cons QtK Qsj Qe.nil) (fn := Tryz.f89) (by kernel_rfl) (by kernel_rfl) (by kernel_rfl) (by decide) fun svs b K hP => ?_
 obtain ⟨ps, v, e, hp, hk⟩ := Qk hP
 unfold c89 at e
 split at e
 rename_i c
 cases e
 clear hp
 refine W89.en (K (.val (.bool (((QA c.toNat) || (decide (c.toNat = 45))) || ((decide (48 <= c.toNat)) && (decide (c.toNat <= 57)))))) none) ?_
 exact keq hk (by simp [QG]) rfl
 cases e
end
section
open Go Go.RowKit
set_option maxRecDepth 20000
def c71 (svs : List SV) (b : Option SB) : QR := match svs, b with
 | [.str _], none => some ([], .ifx)
 | _, _ => none
noncomputable def W71 : Wk := ⟨[], Qp Tryz.f71, false, false, [.tmp 2], [71], [], []⟩
theorem Zo : Has 71 := hsf Tryz.f71
theorem Zm : Sat 71 (Qv c71) := by
 have hD : Qe W71.D := Qe.nil
 refine W71.sat hD (fn := Tryz.f71) (by kernel_rfl) (by kernel_rfl) (by kernel_rfl) (by decide) fun svs b K hP => ?_
 obtain ⟨ps, v, e, hp, hk⟩ := Qk hP
 unfold c71 at e
 split at e
 rename_i l
 cases e
 refine W71.en (K (.val .ifx) none) ?_
 exact hk
 cases e
def c128 (svs : List SV) (b : Option SB) : QR := match svs, b with
 | [.str s, .str p], none => some ([], .bool (decide (p.length <= s.length) && decide (s.take p.length = p)))
 | _, _ => none
noncomputable def W128 : Wk := ⟨[], Qp Tryz.f128, false, false, [.tmp 4], [4], [], []⟩
theorem QtC : Has 128 := hsf Tryz.f128
theorem kbz0 {c0 p0 q : Prop} (k : q) (h : c0 -> p0 /\ True := by intro g0; (try simp at g0); exact ⟨(by first | omega | (simp; done) | (simp; omega) | (simp; assumption)), trivial⟩) : (c0 -> p0 /\ True) /\ q := ⟨h, k⟩
theorem Qsb : Sat 128 (Qv c128) := by
 have hD : Qe W128.D := Qe.nil
 refine W128.sat hD (fn := Tryz.f128) (by kernel_rfl) (by kernel_rfl) (by kernel_rfl) (by decide) fun svs b K hP => ?_
 obtain ⟨ps, v, e, hp, hk⟩ := Qk hP
 unfold c128 at e
 split at e
 rename_i s p
 cases e
 refine W128.en (((decide (p.length <= s.length)) = true -> (p.length <= s.length) /\ True) /\ K (.val (.bool ((decide (p.length <= s.length)) && (decide (s.take p.length = p))))) none) ?_
 refine kbz0 ?_
 exact hk
 cases e
def c113 (svs : List SV) (b : Option SB) : QR := match svs, b with
 | [.str s, .str p], none => some ([], .bool (decide (p.length <= s.length) && decide (s.take p.length = p)))
 | _, _ => none
noncomputable def W113 : Wk := ⟨[(128, .pure c128)], Qp Tryz.f113, false, false, [.tmp 4], [4], [], []⟩
theorem QtJ : Has 113 := hsf Tryz.f113
theorem Qsi : Sat 113 (Qv c113) := by
 have hD : Qe W113.D := (Qe.cons QtC Qsb Qe.nil)
 refine W113.sat hD (fn := Tryz.f113) (by kernel_rfl) (by kernel_rfl) (by kernel_rfl) (by decide) fun svs b K hP => ?_
 obtain ⟨ps, v, e, hp, hk⟩ := Qk hP
 unfold c113 at e
 split at e
 rename_i s p
 cases e
 refine W113.en (K (.val (.bool (decide (p.length <= s.length) && decide (s.take p.length = p)))) none) ?_
 exact hk
 cases e
def UC (s p : Bs) (i : Nat) : Option Nat :=
 if i + p.length <= s.length then
  if (s.take (i + p.length)).drop i = p then some i else UC s p (i + 1)
 else none
 termination_by s.length + 1 - i
def c114 : Spec := fun svs b K => match svs, b with
 | [.str s, .str p], none => (s.length <= 1000000 /\ p.length <= 1000000) /\ Qy (UC s p 0) (fun j => j + p.length <= s.length -> K (.val (.nat j)) none) (K (.val (.int .i64 (-1))) none)
 | _, _ => False
noncomputable def Qjv : Wk := ⟨[], Qp Tryz.f114, false, false, [.tmp 4], [3], [(2, 35)], []⟩
theorem QtI : Has 114 := hsf Tryz.f114
theorem kbz1 {p q : Prop} (k : q) (h : p := by first | omega | (simp; done) | (simp; omega) | (simp; assumption)) : p /\ q := ⟨h, k⟩
theorem Qsh : Sat 114 c114 := by
 have hD : Qe Qjv.D := Qe.nil
 refine Qjv.sat hD (fn := Tryz.f114) (by kernel_rfl) (by kernel_rfl) (by kernel_rfl) (by decide) fun svs b K hP => ?_
 unfold c114 at hP
 split at hP
 rename_i s p
 obtain ⟨⟨h01, h02⟩, hk⟩ := hP
 have L2 : ∀ (mm : Nat) (i : Nat), s.length + 1 - i = mm -> i <= s.length + 1 /\ UC s p i = UC s p 0 -> Qjv.L K 2 (mkS 25 [(0, (.str s)), (1, (.str p)), (5, (.nat i))] [] 1) := by
  intro mm
  induction mm using zl with
  | _ mm ih =>
   intro i hm hI
   refine Qjv.aL hD ((i + p.length <= 9223372036854775807) /\ cond (decide (i + p.length <= s.length)) ((i + p.length <= 9223372036854775807) /\ (i <= i + p.length /\ i + p.length <= s.length) /\ cond (decide ((s.take (i + p.length)).drop i = p)) (K (.val (.nat i)) none) ((i + 1 <= 9223372036854775807) /\ (Qjv).L K 2 (mkS 25 [(0, (.str s)), (1, (.str p)), (5, (.nat (i + 1)))] [] 1))) (K (.val (.int .i64 (-1))) none)) ?_
   refine kbz1 ?_
   refine Qc ?_ ?_ <;> intro h1 <;> try simp [-za] at h1
   refine kbz1 (kbz1 ?_)
   refine Qc ?_ ?_ <;> intro h2 <;> try simp [-za] at h2
   rw [<- hI.2] at hk; unfold UC at hk; rw [if_pos (by omega), if_pos (by assumption)] at hk; exact hk (by omega)
   refine kbz1 ?_
   refine ih _ (by omega) _ rfl ⟨by omega, ?_⟩
   rw [<- hI.2]
   conv => rhs; unfold UC
   rw [if_pos (by omega), if_neg (by assumption)]
   rw [<- hI.2] at hk; unfold UC at hk; rw [if_neg (by omega)] at hk; exact hk
 refine Qjv.en ((Qjv).L K 2 (mkS 25 [(0, (.str s)), (1, (.str p)), (5, (.nat 0))] [] 1)) ?_
 exact L2 _ _ rfl ⟨by omega, rfl⟩
 exact hP.elim
theorem UJ (s : Bs) (i : Nat) (a b : UInt8) (h : i + 2 <= s.length) : (s.drop i).take 2 = [a, b] ↔ bat s i = a.toNat /\ bat s (i + 1) = b.toNat := by
 have h1 : s.drop i = s[i] :: s[i + 1] :: s.drop (i + 2) := by
  rw [zP (by omega), zP (by omega)]
 rw [h1]
 simp only [List.take_succ_cons, List.take_zero, List.cons.injEq, and_true]
 unfold bat
 simp only [za, zi (show i < s.length from by omega), zi (show i + 1 < s.length from by omega), Option.getD_some]
 constructor
 rintro ⟨rfl, rfl⟩; exact ⟨rfl, rfl⟩
 rintro ⟨h1, h2⟩; exact ⟨UInt8.toNat_inj.1 h1, UInt8.toNat_inj.1 h2⟩
theorem QhQ (s : Bs) (k : Nat) : ∀ i, k + i <= s.length -> UC (s.drop k) [42, 47] i = (Zy s (k + i)).map fun j => j - 2 - k := by
 intro i
 fun_induction UC (s.drop k) [42, 47] i with
 | case1 i h1 h2 =>
  intro hi
  simp only [zj, ze, zf] at h1
  have h3 : (s.drop (k + i)).take 2 = [42, 47] := by
   rw [<- h2]
   simp only [ze, zf, List.drop_take, xj]
   congr 1
   omega
  have h4 := (UJ s (k + i) 42 47 (by omega)).1 h3
  unfold Zy
  rw [if_pos (by omega), if_pos (by exact h4)]
  simp only [zO]
  congr 1
  omega
 | case2 i h1 h2 ih =>
  intro hi
  simp only [zj, ze, zf] at h1
  have h3 : ¬ (bat s (k + i) = 42 /\ bat s (k + i + 1) = 47) := by
   intro h4
   apply h2
   have h5 := (UJ s (k + i) 42 47 (by omega)).2 h4
   simp only [ze, zf, List.drop_take, xj]
   rw [show i + (0 + 1 + 1) - i = 2 from by omega]
   exact h5
  rw [ih (by omega)]
  conv => rhs; unfold Zy
  rw [if_pos (by omega), if_neg h3]
  rfl
 | case3 i h1 =>
  intro hi
  simp only [zj, ze, zf] at h1
  unfold Zy
  rw [if_neg (by omega)]
  rfl
theorem Qdt {s : Bs} {i : Nat} (h : i < s.length) (hw : VM (bat s i) = true) : iWs s i = iWs s (i + 1) := by
 conv => lhs; unfold iWs
 rw [if_pos h, if_pos hw]
theorem Qs5 {s : Bs} {i j : Nat} (h : i + 2 <= s.length /\ bat s i = 47 /\ bat s (i + 1) = 42) (hc : Zy s (i + 2) = some j) : iWs s i = iWs s j := by
 conv => lhs; unfold iWs
 rw [if_pos (by omega), if_neg (by rw [h.2.1]; decide), if_pos h]
 split
 rename_i e; rw [hc] at e; cases e; rfl
 rename_i e; rw [hc] at e; cases e
theorem UZ {s : Bs} {i : Nat} (h : i < s.length -> VM (bat s i) = false /\ ((i + 2 <= s.length /\ bat s i = 47 /\ bat s (i + 1) = 42) -> Zy s (i + 2) = none)) : iWs s i = i := by
 unfold iWs
 split
 rename_i h1
 obtain ⟨h2, h3⟩ := h h1
 rw [if_neg (by rw [h2]; simp)]
 split
 rename_i h4
 split
 rename_i e; rw [h3 h4] at e; cases e
 rfl
 rfl
 rfl
theorem Qp4 {s : Bs} {j y : Nat} (h : UC (s.drop (j + 2)) [42, 47] 0 = some y) (hl : j + 2 <= s.length) : Zy s (j + 2) = some (j + (y + 4)) /\ j + (y + 4) <= s.length := by
 have h1 := QhQ s (j + 2) 0 (by omega)
 rw [h] at h1
 cases hc : Zy s (j + 2) with
 | none => rw [show j + 2 + 0 = j + 2 from rfl, hc] at h1; cases h1
 | some e =>
  rw [show j + 2 + 0 = j + 2 from rfl, hc] at h1
  simp only [zO, Option.some.injEq] at h1
  have := JF _ _ hc
  exact ⟨by congr 1; omega, by omega⟩
theorem JE {s : Bs} {j : Nat} (h : UC (s.drop (j + 2)) [42, 47] 0 = none) (hl : j + 2 <= s.length) : Zy s (j + 2) = none := by
 have h1 := QhQ s (j + 2) 0 (by omega)
 rw [h] at h1
 simpa using h1.symm
def c99 (svs : List SV) (b : Option SB) : FR := match svs, b with
 | [.ptr 0 0], some (.blk 94 [.str s, .nat i, .nat d, .bool a]) =>
  some ([s.length <= 1000000, i <= s.length], .val (.bool (decide (i < iWs s i))), some (.blk 94 [.str s, .nat (iWs s i), .nat d, .bool a]))
 | _, _ => none
noncomputable def W99 : Wk := ⟨[(113, .pure c113), (114, .plain c114)], Qp Tryz.f99, true, false, [.tmp 2], [4], [(2, 9)], []⟩
theorem QeX : Has 99 := hsf Tryz.f99
theorem Qcf {p q : Prop} (k : q) (h : p := by first | omega | (simp; omega)) : p /\ q := ⟨h, k⟩
theorem Qeq : Sat 99 (fnS c99) := by
 have hD : Qe W99.D := (Qe.cons QtJ Qsi (Qe.cons QtI Qsh Qe.nil))
 refine W99.sat hD (fn := Tryz.f99) (by kernel_rfl) (by kernel_rfl) (by kernel_rfl) (by decide) fun svs b K hP => ?_
 obtain ⟨ps, o, b', e, hp, hk⟩ := YG hP
 unfold c99 at e
 split at e
 rename_i s i d a
 cases e
 obtain ⟨h01, h02, _⟩ := hp
 have L2 : ∀ (mm : Nat) (j : Nat), s.length - j = mm -> i <= j /\ j <= s.length /\ iWs s j = iWs s i -> W99.L K 2 (mkS 63 [(0, (.ptr 0 0)), (3, (.nat j))] [(0, .blk 94 [(.str s), (.nat i), (.nat d), (.bool a)])] 1) := by
  intro mm
  induction mm using zl with
  | _ mm ih =>
   intro j hm hI
   refine W99.aL hD (have a0 := mkS 63 [(0, (.ptr 0 0)), (3, (.nat (j + 1)))] [(0, .blk 94 [(.str s), (.nat i), (.nat d), (.bool a)])] 1; have a1 : Option SB := some (.blk 94 [(.str s), (.nat j), (.nat d), (.bool a)]); have a2 : Option SB := some (.blk 94 [(.str s), (.nat i), (.nat d), (.bool a)]); have a3 := j + 1 <= 9223372036854775807; have a4 : Out := .val (.bool false); have a5 : Out := .val (.bool true); have a6 := decide (i < j); cond (decide (j < s.length)) ((j < s.length) /\ cond (decide (bat s j = 32)) (a3 /\ (W99).L K 2 a0) (cond (decide (bat s j = 9)) (a3 /\ (W99).L K 2 a0) (cond (decide (bat s j = 13)) (a3 /\ (W99).L K 2 a0) (cond (decide (bat s j = 10)) (a3 /\ (W99).L K 2 a0) (cond (decide (bat s j = 12)) (a3 /\ (W99).L K 2 a0) (cond (decide (bat s j = 47)) ((j <= s.length) /\ cond (decide (2 <= (s.drop j).length) && decide ((s.drop j).take 2 = [47, 42])) ((j + 2 <= 9223372036854775807) /\ (j + 2 <= s.length) /\ ((s.drop (j + 2)).length <= 1000000 /\ 2 <= 1000000) /\ Qy (UC (s.drop (j + 2)) [42, 47] 0) (fun j1 => (j1 + 2 <= (s.drop (j + 2)).length) -> cond (!(decide (((j1 : Nat) : Int) = (-1)))) ((j1 + 4 <= 9223372036854775807) /\ (j + (j1 + 4) <= 9223372036854775807) /\ (W99).L K 2 (mkS 63 [(0, (.ptr 0 0)), (3, (.nat (j + (j1 + 4))))] [(0, .blk 94 [(.str s), (.nat i), (.nat d), (.bool a)])] 1)) (cond a6 (K a5 a1) (K a4 a2))) (cond a6 (K a5 a1) (K a4 a2))) (cond a6 (K a5 a1) (K a4 a2))) (cond a6 (K a5 a1) (K a4 a2)))))))) (cond a6 (K a5 a1) (K a4 a2))) ?_
   refine Qc ?_ ?_ <;> intro h1 <;> try simp [-za] at h1
   refine Qcf ?_
   refine Qc ?_ ?_ <;> intro h2 <;> try simp [-za] at h2
   refine Qcf ?_
   refine ih _ (by omega) _ rfl ⟨by omega, by omega, ?_⟩
   exact (Qdt (by omega) (by simp [VM, *])).symm.trans hI.2.2
   refine Qc (fun h3 => ?_) (fun h3 => ?_)
   try simp [-za] at h3
   refine Qcf ?_
   refine ih _ (by omega) _ rfl ⟨by omega, by omega, ?_⟩
   exact (Qdt (by omega) (by simp [VM, *])).symm.trans hI.2.2
   try simp [-za] at h3
   refine Qc ?_ ?_ <;> intro h4 <;> try simp [-za] at h4
   refine Qcf ?_
   refine ih _ (by omega) _ rfl ⟨by omega, by omega, ?_⟩
   exact (Qdt (by omega) (by simp [VM, *])).symm.trans hI.2.2
   refine Qc (fun h5 => ?_) (fun h5 => ?_)
   try simp [-za] at h5
   refine Qcf ?_
   refine ih _ (by omega) _ rfl ⟨by omega, by omega, ?_⟩
   exact (Qdt (by omega) (by simp [VM, *])).symm.trans hI.2.2
   try simp [-za] at h5
   refine Qc ?_ ?_ <;> intro h6 <;> try simp [-za] at h6
   refine Qcf ?_
   refine ih _ (by omega) _ rfl ⟨by omega, by omega, ?_⟩
   exact (Qdt (by omega) (by simp [VM, *])).symm.trans hI.2.2
   refine Qc (fun h7 => ?_) (fun h7 => ?_)
   try simp [-za] at h7
   refine Qcf ?_
   refine Qc ?_ ?_ <;> intro h8 <;> try simp [-za] at h8
   refine Qcf (Qcf (Qcf ?_))
   refine QK (fun j1 h9 => ?_) (fun h9 => ?_)
   intro h10
   try simp [-za] at h10
   refine Qc (fun h11 => ?_) (fun h11 => ?_)
   try simp [-za] at h11
   refine Qcf (Qcf ?_)
   obtain ⟨q1, q2⟩ := Qp4 (by assumption) (by omega)
   refine ih _ (by omega) _ rfl ⟨by omega, by omega, ?_⟩
   exact (Qs5 (by have q := (UJ s j 47 42 (by omega)).1 h8.2; exact ⟨by omega, q.1, q.2⟩) q1).symm.trans hI.2.2
   try simp [-za] at h11
   refine Qc ?_ ?_ <;> intro h10 <;> try simp [-za] at h10
   . have e : iWs s j = j := UZ fun q0 => by
      first
      | (exfalso; omega)
      | exact ⟨by simp [VM, *], fun q => by
       have q2 := (UJ s j 47 42 q.1).2 ⟨q.2.1, q.2.2⟩
       first | exact JE (by assumption) (by omega) | (exfalso; simp_all; omega) | simp_all⟩
     rw [<- hI.2.2, e] at hk
     exact keq hk (by simp; omega) (by first | rfl | rw [show j = i from by omega])
   have e : iWs s j = j := UZ fun q0 => by
    first
    | (exfalso; omega)
    | exact ⟨by simp [VM, *], fun q => by
     have q2 := (UJ s j 47 42 q.1).2 ⟨q.2.1, q.2.2⟩
     first | exact JE (by assumption) (by omega) | (exfalso; simp_all; omega) | simp_all⟩
   rw [<- hI.2.2, e] at hk
   exact keq hk (by simp; omega) (by first | rfl | rw [show j = i from by omega])
   refine Qc (fun h9 => ?_) (fun h9 => ?_)
   try simp [-za] at h9
   have e : iWs s j = j := UZ fun q0 => by
    first
    | (exfalso; omega)
    | exact ⟨by simp [VM, *], fun q => by
     have q2 := (UJ s j 47 42 q.1).2 ⟨q.2.1, q.2.2⟩
     first | exact JE (by assumption) (by omega) | (exfalso; simp_all; omega) | simp_all⟩
   rw [<- hI.2.2, e] at hk
   exact keq hk (by simp; omega) (by first | rfl | rw [show j = i from by omega])
   try simp [-za] at h9
   have e : iWs s j = j := UZ fun q0 => by
    first
    | (exfalso; omega)
    | exact ⟨by simp [VM, *], fun q => by
     have q2 := (UJ s j 47 42 q.1).2 ⟨q.2.1, q.2.2⟩
     first | exact JE (by assumption) (by omega) | (exfalso; simp_all; omega) | simp_all⟩
   rw [<- hI.2.2, e] at hk
   exact keq hk (by simp; omega) (by first | rfl | rw [show j = i from by omega])
   try simp [-za] at h7
   refine Qc ?_ ?_ <;> intro h8 <;> try simp [-za] at h8
   . have e : iWs s j = j := UZ fun q0 => by
      first
      | (exfalso; omega)
      | exact ⟨by simp [VM, *], fun q => by
       have q2 := (UJ s j 47 42 q.1).2 ⟨q.2.1, q.2.2⟩
       first | exact JE (by assumption) (by omega) | (exfalso; simp_all; omega) | simp_all⟩
     rw [<- hI.2.2, e] at hk
     exact keq hk (by simp; omega) (by first | rfl | rw [show j = i from by omega])
   have e : iWs s j = j := UZ fun q0 => by
    first
    | (exfalso; omega)
    | exact ⟨by simp [VM, *], fun q => by
     have q2 := (UJ s j 47 42 q.1).2 ⟨q.2.1, q.2.2⟩
     first | exact JE (by assumption) (by omega) | (exfalso; simp_all; omega) | simp_all⟩
   rw [<- hI.2.2, e] at hk
   exact keq hk (by simp; omega) (by first | rfl | rw [show j = i from by omega])
   refine Qc (fun h2 => ?_) (fun h2 => ?_)
   try simp [-za] at h2
   have e : iWs s j = j := UZ fun q0 => by
    first
    | (exfalso; omega)
    | exact ⟨by simp [VM, *], fun q => by
     have q2 := (UJ s j 47 42 q.1).2 ⟨q.2.1, q.2.2⟩
     first | exact JE (by assumption) (by omega) | (exfalso; simp_all; omega) | simp_all⟩
   rw [<- hI.2.2, e] at hk
   exact keq hk (by simp; omega) (by first | rfl | rw [show j = i from by omega])
   try simp [-za] at h2
   have e : iWs s j = j := UZ fun q0 => by
    first
    | (exfalso; omega)
    | exact ⟨by simp [VM, *], fun q => by
     have q2 := (UJ s j 47 42 q.1).2 ⟨q.2.1, q.2.2⟩
     first | exact JE (by assumption) (by omega) | (exfalso; simp_all; omega) | simp_all⟩
   rw [<- hI.2.2, e] at hk
   exact keq hk (by simp; omega) (by first | rfl | rw [show j = i from by omega])
 refine W99.en ((W99).L K 2 (mkS 63 [(0, (.ptr 0 0)), (3, (.nat i))] [(0, .blk 94 [(.str s), (.nat i), (.nat d), (.bool a)])] 1)) ?_
 exact L2 _ _ rfl ⟨by omega, by omega, rfl⟩
 cases e
end
section
open Go Go.RowKit
set_option maxRecDepth 20000
def c95 (svs : List SV) (b : Option SB) : FR := match svs, b with
 | [.ptr 0 0], some (.blk 46 [.str s, .nat p, .bool bad, .bool un, .bool ps]) => some ([s.length <= 1000000, p <= s.length + 1], .val (.bool (Qnb s p)), some (.blk 46 [.str s, .nat p, .bool bad, .bool (un || nmUn s p), .bool ps]))
 | _, _ => none
theorem Qbf {p q : Prop} (k : q) (h : p := by first | omega | (simp; done) | (simp; omega) | (simp; assumption)) : p /\ q := ⟨h, k⟩
theorem kdz0 {c0 p0 q : Prop} (k : q) (h : c0 -> p0 /\ True := by intro g0; (try simp at g0); exact ⟨(by first | omega | (simp; done) | (simp; omega) | (simp; assumption)), trivial⟩) : (c0 -> p0 /\ True) /\ q := ⟨h, k⟩
def c137 : Spec := fun svs b K => match svs, b with
 | [.byt c], none => cond (Q3 c.toNat) (K (.val (.nat (Yr c.toNat))) none) (K (.val (.int .i64 (-1))) none)
 | _, _ => False
theorem pm2 {b : Nat} (h : 194 <= b /\ b < 224) : Vz b = (b - 192, 2, 128) := by unfold Vz; rw [if_pos h]
theorem pm3 {b : Nat} (h : 224 <= b /\ b < 240) : Vz b = (b - 224, 3, 2048) := by unfold Vz; rw [if_neg (by omega), if_pos h]
theorem pm4 {b : Nat} (h : 240 <= b /\ b < 245) : Vz b = (b - 240, 4, 65536) := by unfold Vz; rw [if_neg (by omega), if_neg (by omega), if_pos h]
theorem QfD {s : Bs} {k i c : Nat} (h : bat s i < 128 \/ 191 < bat s i) : VV s (k + 1) i c = none := by
 unfold VV; rw [if_pos h]
theorem QfC {s : Bs} {k i c : Nat} (h : ¬ (bat s i < 128 \/ 191 < bat s i)) : VV s (k + 1) i c = VV s k (i + 1) (c * 64 + bat s i - 128) := by
 conv => lhs; unfold VV
 rw [if_neg h]
def JT (c least many : Nat) : Nat × Nat := if c < least \/ 1114111 < c \/ (55296 <= c /\ c < 57344) then (0, 0) else (c, many)
theorem Qdc {s : Bs} {i c0 many least : Nat} (h : ¬ bat s i < 128) (hm : Vz (bat s i) = (c0, many, least)) (hn : many ≠ 0) (hl : i + many <= s.length) :
 Ql s i = match VV s (many - 1) (i + 1) c0 with
  | none => (0, 0)
  | some c => JT c least many := by
 unfold Ql
 rw [if_neg h, hm]
 simp only
 rw [if_neg (by omega)]
 rfl
def c41 (svs : List SV) (b : Option SB) : QR := match svs, b with
 | [.str s, .nat i], none => some ([s.length <= 1000000, i < s.length], .tup [.nat (Ql s i).1, .nat (Ql s i).2])
 | _, _ => none
noncomputable def W41 : Wk := ⟨[], Qp Tryz.f41, false, false, [.tmp 4, .tmp 5], [3, 3], [(14, 435)], []⟩
theorem QnK : Has 41 := hsf Tryz.f41
theorem Qmt : Sat 41 (Qv c41) := by
 have hD : Qe W41.D := Qe.nil
 refine W41.sat hD (fn := Tryz.f41) (by kernel_rfl) (by kernel_rfl) (by kernel_rfl) (by decide) fun svs b K hP => ?_
 obtain ⟨ps, v, e, hp, hk⟩ := Qk hP
 unfold c41 at e
 split at e
 rename_i s i
 cases e
 obtain ⟨h01, h02, _⟩ := hp
 have L14 : ∀ (mm : Nat) (c m l j : Nat), i + m - j = mm -> i + 1 <= j /\ j <= i + m /\ m <= 4 /\ i + m <= s.length /\ c < 64 * 64 ^ (j - i - 1) /\ Ql s i = (match VV s (i + m - j) j c with | none => (0, 0) | some c => JT c l m) -> W41.L K 14 (mkS 98 [(0, (.str s)), (1, (.nat i)), (4, (.nat c)), (5, (.nat m)), (7, (.nat l)), (8, (.nat j))] [] 1) := by
  intro mm
  induction mm using zl with
  | _ mm ih =>
   intro c m l j hm hI
   obtain ⟨k1, k2, k3, k4, k5, k6⟩ := hI
   have k7 : c < 64 * 64 ^ 3 := zS k5 (Nat.mul_le_mul_left _ (xu (by omega) (by omega)))
   refine W41.aL hD ((i + m <= 9223372036854775807) /\ cond (decide (j < i + m)) ((j < s.length) /\ ((decide (bat s j < 128)) = false -> (j < s.length) /\ True) /\ cond ((decide (bat s j < 128)) || (decide (191 < bat s j))) (K (.val (.tup [(.nat 0), (.nat 0)])) none) ((6 <= 62 /\ c * 2 ^ 6 <= 9223372036854775807) /\ (j < s.length) /\ ((c * 2 ^ 6) + (bat s j) <= 9223372036854775807) /\ (128 <= (c * 2 ^ 6) + (bat s j) /\ (c * 2 ^ 6) + (bat s j) <= 9223372036854775807) /\ (j + 1 <= 9223372036854775807) /\ (W41).L K 14 (mkS 98 [(0, (.str s)), (1, (.nat i)), (4, (.nat ((c * 2 ^ 6) + (bat s j) - 128))), (5, (.nat m)), (7, (.nat l)), (8, (.nat (j + 1)))] [] 1))) (cond (((decide (c < l)) || (decide (1114111 < c))) || ((decide (55296 <= c)) && (decide (c < 57344)))) (K (.val (.tup [(.nat 0), (.nat 0)])) none) (K (.val (.tup [(.nat c), (.nat m)])) none))) ?_
   refine Qbf ?_
   refine Qc ?_ ?_ <;> intro h1 <;> try simp [-za] at h1
   refine Qbf (kdz0 ?_)
   refine Qc ?_ ?_ <;> intro h2 <;> try simp [-za] at h2
   have e : Ql s i = (0, 0) := by rw [k6, show i + m - j = (i + m - j - 1) + 1 from by omega, QfD (by omega)]
   rw [e] at hk
   exact hk
   refine Qbf (Qbf (Qbf (Qbf (Qbf ?_))))
   refine ih _ (by omega) _ _ _ _ rfl ⟨by omega, by omega, by omega, by omega, ?_, ?_⟩
   rw [show j + 1 - i - 1 = (j - i - 1) + 1 from by omega, Nat.pow_succ]; omega
   rw [k6, show i + m - j = (i + m - (j + 1)) + 1 from by omega, QfC (by omega)]
   refine Qc (fun h2 => ?_) (fun h2 => ?_)
   try simp [-za] at h2
   have e : Ql s i = (0, 0) := by
    rw [k6, show i + m - j = 0 from by omega]
    show JT c l m = _
    unfold JT
    rw [if_pos (by omega)]
   rw [e] at hk
   exact hk
   try simp [-za] at h2
   have e : Ql s i = (c, m) := by
    rw [k6, show i + m - j = 0 from by omega]
    show JT c l m = _
    unfold JT
    rw [if_neg (by omega)]
   rw [e] at hk
   exact hk
 refine W41.en (have a0 : Out := .val (.tup [(.nat 0), (.nat 0)]); have a1 := i + 1 <= 9223372036854775807; (i < s.length) /\ cond (decide (bat s i < 128)) (K (.val (.tup [(.nat (bat s i)), (.nat 1)])) none) (cond ((decide (194 <= bat s i)) && (decide (bat s i < 224))) ((192 <= bat s i /\ bat s i <= 9223372036854775807) /\ (false = false -> (i + 2 <= 9223372036854775807) /\ True) /\ cond (decide (s.length < i + 2)) (K a0 none) (a1 /\ (W41).L K 14 (mkS 98 [(0, (.str s)), (1, (.nat i)), (4, (.nat (bat s i - 192))), (5, (.nat 2)), (7, (.nat 128)), (8, (.nat (i + 1)))] [] 1))) (cond ((decide (224 <= bat s i)) && (decide (bat s i < 240))) ((224 <= bat s i /\ bat s i <= 9223372036854775807) /\ (false = false -> (i + 3 <= 9223372036854775807) /\ True) /\ cond (decide (s.length < i + 3)) (K a0 none) (a1 /\ (W41).L K 14 (mkS 98 [(0, (.str s)), (1, (.nat i)), (4, (.nat (bat s i - 224))), (5, (.nat 3)), (7, (.nat 2048)), (8, (.nat (i + 1)))] [] 1))) (cond ((decide (240 <= bat s i)) && (decide (bat s i < 245))) ((240 <= bat s i /\ bat s i <= 9223372036854775807) /\ (false = false -> (i + 4 <= 9223372036854775807) /\ True) /\ cond (decide (s.length < i + 4)) (K a0 none) (a1 /\ (W41).L K 14 (mkS 98 [(0, (.str s)), (1, (.nat i)), (4, (.nat (bat s i - 240))), (5, (.nat 4)), (7, (.nat 65536)), (8, (.nat (i + 1)))] [] 1))) ((true = false -> (i <= 9223372036854775807) /\ True) /\ K a0 none))))) ?_
 refine Qbf ?_
 refine Qc ?_ ?_ <;> intro h1 <;> try simp [-za] at h1
 have e : Ql s i = (bat s i, 1) := by unfold Ql; rw [if_pos (by omega)]
 rw [e] at hk
 exact hk
 refine Qc (fun h2 => ?_) (fun h2 => ?_)
 try simp [-za] at h2
 refine Qbf (kdz0 ?_)
 refine Qc ?_ ?_ <;> intro h3 <;> try simp [-za] at h3
 . have e : Ql s i = (0, 0) := by
    unfold Ql
    rw [if_neg (by omega), show Vz (bat s i) = (bat s i - 192, 2, 128) from pm2 (by omega), if_pos (by right; simp; omega)]
   rw [e] at hk
   exact hk
 refine Qbf ?_
 refine L14 _ _ _ _ _ rfl ⟨by omega, by omega, by omega, by omega, ?_, ?_⟩
 rw [show i + 1 - i - 1 = 0 from by omega]; omega
 rw [show i + 2 - (i + 1) = 2 - 1 from by omega]
 exact Qdc (by omega) (show Vz (bat s i) = (bat s i - 192, 2, 128) from pm2 (by omega)) (by decide) (by omega)
 try simp [-za] at h2
 refine Qc ?_ ?_ <;> intro h3 <;> try simp [-za] at h3
 refine Qbf (kdz0 ?_)
 refine Qc ?_ ?_ <;> intro h4 <;> try simp [-za] at h4
 . have e : Ql s i = (0, 0) := by
    unfold Ql
    rw [if_neg (by omega), show Vz (bat s i) = (bat s i - 224, 3, 2048) from pm3 (by omega), if_pos (by right; simp; omega)]
   rw [e] at hk
   exact hk
 refine Qbf ?_
 refine L14 _ _ _ _ _ rfl ⟨by omega, by omega, by omega, by omega, ?_, ?_⟩
 rw [show i + 1 - i - 1 = 0 from by omega]; omega
 rw [show i + 3 - (i + 1) = 3 - 1 from by omega]
 exact Qdc (by omega) (show Vz (bat s i) = (bat s i - 224, 3, 2048) from pm3 (by omega)) (by decide) (by omega)
 refine Qc (fun h4 => ?_) (fun h4 => ?_)
 try simp [-za] at h4
 refine Qbf (kdz0 ?_)
 refine Qc ?_ ?_ <;> intro h5 <;> try simp [-za] at h5
 . have e : Ql s i = (0, 0) := by
    unfold Ql
    rw [if_neg (by omega), show Vz (bat s i) = (bat s i - 240, 4, 65536) from pm4 (by omega), if_pos (by right; simp; omega)]
   rw [e] at hk
   exact hk
 refine Qbf ?_
 refine L14 _ _ _ _ _ rfl ⟨by omega, by omega, by omega, by omega, ?_, ?_⟩
 rw [show i + 1 - i - 1 = 0 from by omega]; omega
 rw [show i + 4 - (i + 1) = 4 - 1 from by omega]
 exact Qdc (by omega) (show Vz (bat s i) = (bat s i - 240, 4, 65536) from pm4 (by omega)) (by decide) (by omega)
 try simp [-za] at h4
 refine ⟨fun g0 => (by cases g0), ?_⟩
 have e : Ql s i = (0, 0) := by
  unfold Ql
  rw [if_neg (by omega), show Vz (bat s i) = (0, 0, 0) from by unfold Vz; rw [if_neg (by omega), if_neg (by omega), if_neg (by omega)], if_pos (by left; rfl)]
 rw [e] at hk
 exact hk
 cases e
end
section
open Go Go.RowKit
set_option maxRecDepth 20000
theorem QmS (s : Bs) (i : Nat) (h : i < s.length) : i + (Ql s i).2 <= s.length := by
 unfold Ql
 split
 show i + 1 <= _; omega
 split
 exact Nat.le_of_lt h
 rename_i h2
 split
 exact Nat.le_of_lt h
 split
 exact Nat.le_of_lt h
 show i + (Vz (bat s i)).2.1 <= _; omega
theorem Qh1 (s : Bs) (i j : Nat) (h : i <= j) (hj : j < s.length) : (s.take (j + 1)).drop i = (s.take j).drop i ++ [s.getD j 0] := by
 rw [zL, List.drop_append_of_le_length (by simp; omega)]
 simp [za, zi hj]
theorem Qqa (s : Bs) (i : Nat) : (s.take i).drop i = [] := by
 rw [List.drop_eq_nil_iff]; simp; omega
theorem cut1 {s : Bs} {i : Nat} (h : i < s.length) : (s.take (i + 1)).drop i = [s.getD i 0] := by
 rw [Qh1 s i i (zq _) h, Qqa]; rfl
theorem QoJ (n : Int) : (YL n).length <= 4 := by
 unfold YL Utf8.encode
 simp only
 repeat' split
 all_goals simp
theorem QhK (l : Bs) (c : UInt8) : VB (l ++ [c]) = 16 * VB l + Yr c.toNat := by simp [VB]
theorem QhL {c : Nat} (h : Q3 c = true) : Yr c < 16 := by
 simp [Q3] at h
 unfold Yr
 repeat' split
 all_goals omega
theorem bat_out {s : Bs} {i : Nat} (h : s.length <= i) : bat s i = 0 := by
 unfold bat
 simp [za, List.getElem?_eq_none h]
def c22 (svs : List SV) (b : Option SB) : QR := match svs, b with
 | [.str s], none => some ([s.length <= 1000000], .bool (QE s 0))
 | _, _ => none
noncomputable def W22 : Wk := ⟨[(41, .pure c41)], Qp Tryz.f22, false, false, [.tmp 2], [4], [(2, 9)], []⟩
theorem has22 : Has 22 := hsf Tryz.f22
theorem kez0 {p q : Prop} (k : q) (h : p := by first | omega | (have := hpt (by omega); omega) | (simp; omega)) : p /\ q := ⟨h, k⟩
theorem sat22 : Sat 22 (Qv c22) := by
 have hD : Qe W22.D := (Qe.cons QnK Qmt Qe.nil)
 refine W22.sat hD (fn := Tryz.f22) (by kernel_rfl) (by kernel_rfl) (by kernel_rfl) (by decide) fun svs b K hP => ?_
 obtain ⟨ps, v, e, hp, hk⟩ := Qk hP
 unfold c22 at e
 split at e
 rename_i s
 cases e
 obtain ⟨h01, _⟩ := hp
 have L2 : ∀ (mm : Nat) (i : Nat), s.length - i = mm -> i <= s.length /\ QE s i = QE s 0 -> W22.L K 2 (mkS 29 [(0, (.str s)), (3, (.nat i))] [] 1) := by
  intro mm
  induction mm using zl with
  | _ mm ih =>
   intro i hm hI
   have hpt := fun h => QmS s i h
   refine W22.aL hD (cond (decide (i < s.length)) ((s.length <= 1000000) /\ (i < s.length) /\ cond (((decide ((Ql s i).2 = 0)) || (decide ((Ql s i).1 = 0))) || (decide ((Ql s i).1 = 65279))) (K (.val (.bool false)) none) ((i + (Ql s i).2 <= 9223372036854775807) /\ (W22).L K 2 (mkS 29 [(0, (.str s)), (3, (.nat (i + (Ql s i).2)))] [] 1))) (K (.val (.bool true)) none)) ?_
   refine Qc ?_ ?_ <;> intro h1 <;> try simp [-za] at h1
   refine kez0 (kez0 ?_)
   refine Qc ?_ ?_ <;> intro h2 <;> try simp [-za] at h2
   have e : QE s i = false := by unfold QE; rw [if_pos (by omega), dif_pos (by omega)]
   rw [<- hI.2, e] at hk
   exact hk
   refine kez0 ?_
   have e : QE s i = QE s (i + (Ql s i).2) := by
    conv => lhs; unfold QE
    rw [if_pos (by omega), dif_neg (by omega)]
   have := hpt (by omega)
   exact ih _ (by omega) _ rfl ⟨by omega, by rw [<- e]; exact hI.2⟩
   have e : QE s i = true := by unfold QE; rw [if_neg (by omega)]
   rw [<- hI.2, e] at hk
   exact hk
 refine W22.en ((W22).L K 2 (mkS 29 [(0, (.str s)), (3, (.nat 0))] [] 1)) ?_
 exact L2 _ _ rfl ⟨by omega, rfl⟩
 cases e
end
section
open Go Go.RowKit
set_option maxRecDepth 20000
theorem QiZ (l : Bs) (i : Nat) (h : i < l.length) : (low (l.take i) ++ l.drop i).getD i 0 = l.getD i 0 := by
 have e : (low (l.take i)).length = i := by simp [low]; omega
 rw [za, List.getElem?_append_right (by omega), e, Nat.sub_self, List.getElem?_drop, Nat.add_zero, za]
theorem Qcy (l : Bs) (i : Nat) (h : i < l.length) : (low (l.take i) ++ l.drop i).set i (UX (l.getD i 0)) = low (l.take (i + 1)) ++ l.drop (i + 1) := by
 have e : (low (l.take i)).length = i := by simp [low]; omega
 rw [List.set_append_right _ _ (by omega), e, Nat.sub_self, zL, zP h, List.set_cons_zero, zi h]
 simp only [low, List.map_append, za, zi h, Option.getD_some, z7, zJ, List.map_nil, zo, zT]
theorem Qbc (l : Bs) (i : Nat) (h : i < l.length) (hc : UX (l.getD i 0) = l.getD i 0) : low (l.take i) ++ l.drop i = low (l.take (i + 1)) ++ l.drop (i + 1) := by
 have e : (low (l.take i)).length = i := by simp [low]; omega
 rw [zL, zP h, zi h]
 simp only [za, zi h, Option.getD_some] at hc
 simp only [low, List.map_append, z7, zJ, List.map_nil, zo, zT, hc]
theorem QcJ (l : Bs) (i : Nat) (h : i < l.length) : bat (low (l.take i) ++ l.drop i) i = bat l i := by unfold bat; rw [QiZ l i h]
def c77 (svs : List SV) (b : Option SB) : QR := match svs, b with
 | [.str l], none => some ([l.length <= 1000000000], .str (low l))
 | _, _ => none
noncomputable def W77 : Wk := ⟨[], Qp Tryz.f77, false, false, [.tmp 2], [9], [(3, 24)], []⟩
theorem has77 : Has 77 := hsf Tryz.f77
theorem kgz1 {c0 p0 q : Prop} (k : q) (h : c0 -> p0 /\ True := by intro g0; (try simp at g0); exact ⟨(by first | omega | (simp; done) | (simp; omega) | (simp; assumption)), trivial⟩) : (c0 -> p0 /\ True) /\ q := ⟨h, k⟩
theorem Qf0 {p q : Prop} (k : q) (h : p := by first | omega | (simp; done) | (simp; omega) | (simp; assumption)) : p /\ q := ⟨h, k⟩
theorem sat77 : Sat 77 (Qv c77) := by
 have hD : Qe W77.D := Qe.nil
 refine W77.sa hD Tryz.f77 fun svs b K hP => ?_
 obtain ⟨ps, v, e, hp, hk⟩ := Qk hP
 unfold c77 at e
 split at e
 rename_i l
 cases e
 obtain ⟨h01, _⟩ := hp
 have L3 : ∀ (mm : Nat) (i : Nat), l.length - i = mm -> (i <= l.length) -> W77.L K 3 (mkS 33 [(3, (.own 1)), (4, (.nat i))] [(1, .row (.bytes (low (l.take i) ++ l.drop i)) false)] 2) := by
  intro mm
  induction mm using zl with
  | _ mm ih =>
   intro i hm hI
   have q : (low (l.take i) ++ l.drop i).length = l.length := by simp [low]; omega
   refine W77.aL hD (have a0 := low (l.take i) ++ l.drop i; have a1 := (decide (65 <= bat a0 i)) = true -> (i < a0.length) /\ True; cond (decide (i < a0.length)) ((i < a0.length) /\ (i < a0.length) /\ a1 /\ a1 /\ cond ((decide (65 <= bat a0 i)) && (decide (bat a0 i <= 90))) ((i < a0.length) /\ (i < a0.length) /\ (i < a0.length) /\ (i < a0.length) /\ (i + 1 <= 9223372036854775807) /\ (W77).L K 3 (mkS 33 [(3, (.own 1)), (4, (.nat (i + 1)))] [(1, .row (.bytes (a0.set i (a0.getD i 0 + 32))) false)] 2)) ((i + 1 <= 9223372036854775807) /\ (W77).L K 3 (mkS 33 [(3, (.own 1)), (4, (.nat (i + 1)))] [(1, .row (.bytes a0) false)] 2))) (K (.val (.str a0)) none)) ?_
   refine Qc ?_ ?_ <;> intro h1 <;> try simp [-za] at h1
   refine Qf0 (Qf0 (kgz1 (kgz1 ?_)))
   refine Qc ?_ ?_ <;> intro h2 <;> try simp [-za] at h2
   refine Qf0 (Qf0 (Qf0 (Qf0 (Qf0 ?_))))
   have h0 : i < l.length := by simp [low] at h1; omega
   rw [QcJ l i h0] at h2
   have e : ((low (l.take i) ++ l.drop i).set i ((low (l.take i) ++ l.drop i).getD i 0 + 32)) = low (l.take (i + 1)) ++ l.drop (i + 1) := by
    rw [<- Qcy l i h0, QiZ l i h0]; unfold UX; rw [if_pos (show 65 <= (l.getD i 0).toNat /\ (l.getD i 0).toNat <= 90 from h2)]
   rw [e]
   exact ih _ (by omega) (i + 1) rfl (by omega)
   refine Qf0 ?_
   have h0 : i < l.length := by simp [low] at h1; omega
   rw [QcJ l i h0] at h2
   rw [Qbc l i h0 (by unfold UX; rw [if_neg (fun h => by have := h2 h.1; have h3 : bat l i <= 90 := h.2; omega)])]
   exact ih _ (by omega) (i + 1) rfl (by omega)
   have h0 : i = l.length := by simp [low] at h1; omega
   rw [h0, List.take_length, List.drop_length, zC]
   exact hk
 refine W77.en ((l.length <= 1099511627776) /\ (W77).L K 3 (mkS 33 [(3, (.own 1)), (4, (.nat 0))] [(1, .row (.bytes l) false)] 2)) ?_
 refine Qf0 ?_
 exact L3 _ 0 rfl (by omega)
 cases e
def c29i (svs : List SV) (b : Option SB) : FR := match svs, b with
 | [.agg [.int .i64 k, .int .i64 o, .str ke, .str va, .int .i64 a, .int .i64 bb, .int .i64 fl, .int .i64 sz], .sl (.selss l)], none => some ([l.length <= 1000000000, l.flatten.length <= 1000000000000], .row (.sels (YE ⟨k, o, ke, va, a, bb, fl, sz⟩ l.flatten)), none)
 | _, _ => none
def Yo (l : List SelD) (i : Nat) : List SelD := if l.length <= i then [] else (l.take ((i : Int) + (l.getD i default).size).toNat).drop i
def Jj (l : List SelD) (fin : Int) (k : Nat) : List Nat :=
 if (k : Int) < fin /\ k < l.length then k :: Jj l fin (k + (max 1 (l.getD k default).size).toNat) else []
 termination_by l.length - k
 decreasing_by have : 1 <= (max 1 (l.getD k default).size).toNat := by omega
               omega
theorem Qdq (l : List SelD) (fin : Int) (k : Nat) : (Jj l fin k).length <= l.length - k := by
 fun_induction Jj l fin k with
 | case1 k h ih => simp only [ze]; omega
 | case2 => simp
def Qa (l : List SelD) (i : Nat) : List Nat := Jj l ((i : Int) + (l.getD i default).size) (i + 1)
def c24 (svs : List SV) (b : Option SB) : QR := match svs, b with
 | [.sl (.sels l), .nat i], none => some ([i <= 1000000000000 /\ l.length <= 1000000000000, i < l.length -> 0 <= (l.getD i default).size /\ (i : Int) + (l.getD i default).size <= l.length], .sl (.sels (Yo l i)))
 | _, _ => none
noncomputable def W24 : Wk := ⟨[], Qp Tryz.f24, false, false, [.tmp 4], [22], [], []⟩
theorem has24 : Has 24 := hsf Tryz.f24
theorem kgz3 {p q : Prop} (k : q) (h : p := by first | omega | (have := h02 (by omega); unfold inI; omega) | (have := h02 (by omega); omega)) : p /\ q := ⟨h, k⟩
theorem sat24 : Sat 24 (Qv c24) := by
 have hD : Qe W24.D := Qe.nil
 refine W24.sa hD Tryz.f24 fun svs b K hP => ?_
 obtain ⟨ps, v, e, hp, hk⟩ := Qk hP
 unfold c24 at e
 split at e
 rename_i l i
 cases e
 obtain ⟨h01, h02, _⟩ := hp
 refine W24.en (have a0 := ((i : Nat) : Int) + (l.getD i default).size; cond (decide (l.length <= i)) (K (.val (.sl (.sels []))) none) ((i < l.length) /\ (inI a0) /\ (0 <= a0) /\ (i <= (a0).toNat /\ (a0).toNat <= l.length) /\ K (.val (.sl (.sels ((l.take ((a0).toNat)).drop i)))) none)) ?_
 refine Qc ?_ ?_ <;> intro h1 <;> try simp [-za] at h1
 unfold Yo at hk
 rw [if_pos h1] at hk
 exact hk
 refine kgz3 (kgz3 (kgz3 (kgz3 ?_)))
 unfold Yo at hk
 rw [if_neg (by omega)] at hk
 exact hk
 cases e
def c17 (svs : List SV) (b : Option SB) : FR := match svs, b with
 | [.sl (.sels l), .nat i], none => some ([i < l.length /\ l.length <= 1000000000000, 0 <= (l.getD i default).size /\ (i : Int) + (l.getD i default).size <= l.length, ∀ k, k ∈ Qa l i -> (l.getD k default).size <= 1000000000000], .row (.ints (Qa l i)), none)
 | _, _ => none
noncomputable def W17 : Wk := ⟨[], Qp Tryz.f17, false, true, [.tmp 4], [34], [(3, 99)], []⟩
theorem QhO : Has 17 := hsf Tryz.f17
theorem Qly {p q : Prop} (k : q) (h : p := by first | omega | (unfold inI; omega) | (have := h03 k (by rw [k1, Jj, if_pos ⟨h1, by omega⟩]; simp); unfold inI; omega) | (simp only [List.length_singleton]; omega)) : p /\ q := ⟨h, k⟩
theorem QgV : Sat 17 (fnS c17) := by
 have hD : Qe W17.D := Qe.nil
 refine W17.sa hD Tryz.f17 fun svs b K hP => ?_
 obtain ⟨ps, o, b', e, hp, hk⟩ := YG hP
 unfold c17 at e
 split at e
 rename_i l i
 cases e
 obtain ⟨h01, h02, h03, _⟩ := hp
 have L3 : ∀ (mm : Nat) (k : Nat) (r : List Nat), l.length - k = mm -> (Qa l i = r ++ Jj l ((i : Int) + (l.getD i default).size) k /\ r.length <= k) -> W17.L K 3 (mkS 31 [(0, (.sl (.sels l))), (1, (.nat i)), (5, (.own 1)), (6, (.nat k))] [(1, .row (.ints r) true)] 2) := by
  intro mm
  induction mm using zl with
  | _ mm ih =>
   intro k r hm hI
   obtain ⟨k1, k2⟩ := hI
   refine W17.aL hD (have a0 := ((k : Nat) : Int) + (max (1 : Int) ((l.getD k default).size)); (i < l.length) /\ (inI (((i : Nat) : Int) + (l.getD i default).size)) /\ cond (decide (((k : Nat) : Int) < (((i : Nat) : Int) + (l.getD i default).size))) ((r.length + 1 <= 1099511627776) /\ (k < l.length) /\ (inI a0) /\ (W17).L K 3 (mkS 31 [(0, (.sl (.sels l))), (1, (.nat i)), (5, (.own 3)), (6, (.int .i64 a0))] [(3, .row (.ints (r ++ [k])) true)] 4)) (K (.row (.ints r)) none)) ?_
   refine Qly (Qly ?_)
   refine Qc ?_ ?_ <;> intro h1 <;> try simp [-za] at h1
   refine Qly (Qly (Qly ?_))
   have e0 : ((k : Int) + max 1 (l.getD k default).size) = ((k + (max 1 (l.getD k default).size).toNat : Nat) : Int) := by omega
   rw [e0]
   exact Wk.L.rn [0, 3] (ih _ (by omega) (k + (max 1 (l.getD k default).size).toNat) (r ++ [k]) rfl ⟨by
    rw [k1]
    conv => lhs; rw [Jj]
    rw [if_pos ⟨h1, by omega⟩]
    simp, by simp only [zd, List.length_singleton]; omega⟩)
   rw [Jj, if_neg (by omega), zC] at k1
   rw [k1] at hk
   exact hk
 refine W17.en ((i + 1 <= 9223372036854775807) /\ (W17).L K 3 (mkS 31 [(0, (.sl (.sels l))), (1, (.nat i)), (5, .nilsl), (6, (.nat (i + 1)))] [] 1)) ?_
 refine Qly ?_
 exact Wk.L.le (Yf.adopt 5 (T := 34) (x := .ints []) (by kernel_rfl) (by kernel_rfl)) (Wk.L.rn [0, 1] (L3 _ (i + 1) [] rfl ⟨rfl, by simp⟩))
 cases e
end
section
open Go Go.RowKit
set_option maxRecDepth 20000
theorem Sat.ex {f : FuncId} {P : Nat -> Spec} (h : ∀ m, Sat f (P m)) : Sat f fun svs b K => ∃ m, P m svs b K := by
 intro g0 w M ω svs args b K hS hn hr ⟨m, hP⟩
 exact h m g0 w M ω svs args b K hS hn hr hP
theorem Sat.imp {f : FuncId} {P P' : Spec} (h : Sat f P) (hw : ∀ svs b K, P' svs b K -> P svs b K) : Sat f P' :=
 fun g0 w M ω svs args b K hS hn hr hP => h g0 w M ω svs args b K hS hn hr (hw svs b K hP)
end
section
open Go Go.RowKit
mutual
def ST.ht : ST -> Nat
 | .mk _ ks => ST.hts ks + 1
def ST.hts : List ST -> Nat
 | [] => 0
 | t :: l => max t.ht (ST.hts l)
end
def QhB (x : SelD) (y : List SelD) : Bool := !(decide (x.kind = 21) && decide ((y.getD 0 default).kind = 1))
def anyL : List SelD := [⟨1, 0, [], [], 0, 0, 0, 1⟩]
def QaB : Nat -> List SelD -> Nat -> List SelD
 | 0, _, _ => []
 | n + 1, l, i =>
  let x := l.getD i default
  let ys := ((Qa l i).map (QaB n l)).filter (QhB x)
  if x.kind = 21 /\ x.val = [] then
   (if ys.length = 0 then anyL else if ys.length = 1 then ys.getD 0 [] else YE x ys.flatten)
  else YE x ys.flatten
theorem QbJ (T : ST) : ∃ x rest, T.flat = x :: rest /\ x.size = (T.flat.length : Nat) /\ x = { T.node with size := x.size } := by
 obtain ⟨x, ks⟩ := T
 exact ⟨_, _, by rw [ST.flat, QT], by simp [ST.flat, QT], by simp [ST.node]⟩
theorem Qar {l : List SelD} {i : Nat} {x : SelD} {r : List SelD} (h : l.drop i = x :: r) : l.getD i default = x := by
 have : (l.drop i)[0]? = some x := by rw [h]; rfl
 rw [List.getElem?_drop] at this
 simp [za, show l[i]? = some x from this]
theorem Qkz {l : List SelD} {i : Nat} {x : SelD} {r : List SelD} (h : l.drop i = x :: r) : i < l.length := by
 have := congrArg List.length h
 simp at this; omega
theorem YB {l : List SelD} {i : Nat} {a b : List SelD} (h : l.drop i = a ++ b) : l.drop (i + a.length) = b := by
 rw [<- xj, h, List.drop_left]
def QF : Nat -> List ST -> List Nat
 | _, [] => []
 | k, t :: l => k :: QF (k + t.flat.length) l
theorem Qbe {l : List SelD} : ∀ (ks : List ST) (k : Nat) (rest : List SelD) (fin : Int), l.drop k = ST.flats ks ++ rest -> k <= l.length -> fin = ((k + (ST.flats ks).length : Nat) : Int) -> Jj l fin k = QF k ks
 | [], k, rest, fin, h, hk, hf => by
  rw [Jj, if_neg (by rw [hf]; simp [ST.flats])]; rfl
 | t :: ks, k, rest, fin, h, hk, hf => by
  obtain ⟨x, r, e1, e2, _⟩ := QbJ t
  rw [ST.flats, zo] at h
  have h0 : l.drop k = x :: (r ++ (ST.flats ks ++ rest)) := by rw [h, e1]; rfl
  have hlt := Qkz h0
  have hn : t.flat.length = r.length + 1 := by rw [e1]; simp
  have hx : (l.getD k default).size = (t.flat.length : Nat) := by rw [Qar h0, e2]
  have hd := YB h
  have hlen := congrArg List.length h
  simp only [zd, zj] at hlen
  rw [Jj, if_pos ⟨by rw [hf, ST.flats, zd]; omega, hlt⟩, hx, QF,
   show (max 1 ((t.flat.length : Nat) : Int)).toNat = t.flat.length from by omega]
  rw [Qbe ks (k + t.flat.length) rest fin hd (by omega) (by rw [hf, ST.flats, zd]; omega)]
theorem Vd {l : List SelD} {i : Nat} {x : SelD} {ks : List ST} {rest : List SelD} (h : l.drop i = (ST.mk x ks).flat ++ rest) :
 Qa l i = QF (i + 1) ks /\ l.drop (i + 1) = ST.flats ks ++ rest /\ i < l.length /\ l.getD i default = { x with size := ((ST.flats ks).length : Nat) + 1 } /\ i + (ST.flats ks).length + 1 <= l.length := by
 have h0 : l.drop i = { x with size := ((ST.flats ks).length : Nat) + 1 } :: (ST.flats ks ++ rest) := by rw [h, ST.flat, QT]; rfl
 have h1 : l.drop (i + 1) = ST.flats ks ++ rest := by rw [<- xj, h0]; rfl
 have hlt := Qkz h0
 have hlen := congrArg List.length h1
 simp only [zd, zj] at hlen
 refine ⟨?_, h1, hlt, Qar h0, by omega⟩
 unfold Qa
 rw [Qar h0]
 exact Qbe ks (i + 1) rest _ h1 (by omega) (by simp only; omega)
def Qd2 (l : List SelD) (n : Nat) (k : Nat) : Prop := ∃ (T : ST) (rest : List SelD), l.drop k = T.flat ++ rest /\ T.ht <= n
theorem Qby {l : List SelD} {n : Nat} : ∀ (ks : List ST) (k : Nat) (rest : List SelD), l.drop k = ST.flats ks ++ rest -> ST.hts ks <= n -> ∀ p ∈ QF k ks, Qd2 l n p
 | [], k, rest, h, hn, p, hp => by simp [QF] at hp
 | t :: ks, k, rest, h, hn, p, hp => by
  rw [ST.flats, zo] at h
  rw [ST.hts] at hn
  simp only [QF, zz] at hp
  rcases hp with hp | hp
  subst hp; exact ⟨t, _, h, by omega⟩
  exact Qby ks _ rest (YB h) (by omega) p hp
theorem Ue {l : List SelD} {n : Nat} (ih : ∀ i T rest, l.drop i = ST.flat T ++ rest -> T.ht <= n -> QaB n l i = T.norm.flat) : ∀ (ks : List ST) (k : Nat) (rest : List SelD), l.drop k = ST.flats ks ++ rest -> ST.hts ks <= n ->
 (QF k ks).map (QaB n l) = (ST.norms ks).map ST.flat
 | [], k, rest, h, hn => by simp [QF, ST.norms]
 | t :: ks, k, rest, h, hn => by
  rw [ST.flats, zo] at h
  rw [ST.hts] at hn
  simp only [QF, ST.norms, zJ]
  rw [ih k t _ h (by omega), Ue ih ks _ rest (YB h) (by omega)]
theorem Qam : ∀ ks : List ST, ST.flats ks = (ks.map ST.flat).flatten
 | [] => by simp [ST.flats]
 | t :: ks => by simp [ST.flats, Qam ks]
theorem Qdr (x : SelD) (T : ST) : QhB x T.flat = !(decide (x.kind = 21) && QbG T) := by
 obtain ⟨y, r, e1, e2, e3⟩ := QbJ T
 unfold QhB QbG
 rw [e1]
 simp only [za, zF, Option.getD_some]
 rw [e3]
theorem QhA (x : SelD) (z : Int) (ks : List ST) : (ks.map ST.flat).filter (QhB { x with size := z }) = (Y7 x ks).map ST.flat := by
 unfold Y7
 rw [List.filter_map]
 split
 rename_i h
 congr 1
 apply List.filter_congr
 intro t _
 simp [Qdr, h]
 rename_i h
 rw [List.filter_eq_self.2]
 intro t _
 simp [Qdr, h]
theorem Qa3 (l : List SelD) : ∀ (n i : Nat) (T : ST) (rest : List SelD), l.drop i = T.flat ++ rest -> T.ht <= n -> QaB n l i = T.norm.flat
 | 0, i, T, rest, h, hn => by obtain ⟨x, ks⟩ := T; simp [ST.ht] at hn
 | n + 1, i, .mk x ks, rest, h, hn => by
  obtain ⟨h1, h2, h3, h4, h5⟩ := Vd h
  rw [ST.ht] at hn
  have h6 := Ue (l := l) (n := n) (fun i T rest => Qa3 l n i T rest) ks (i + 1) rest h2 (by omega)
  rw [QaB]
  rw [h1, h4, h6, QhA, ST.norm]; unfold JN
  simp only [List.length_map]
  split
  generalize Y7 x (ST.norms ks) = ys
  match ys with
  | [] => simp [ST.flat, ST.flats, QT, Qoy, anyL]
  | [y] => simp
  | y :: y' :: ys => simp [ST.flat, YE, QT, Qam]
  simp [ST.flat, YE, QT, Qam]
theorem Un (p : ST -> Bool) : ∀ ks : List ST, (ST.flats (ks.filter p)).length <= (ST.flats ks).length
 | [] => by simp
 | t :: ks => by
  have := Un p ks
  rw [List.filter_cons]
  split <;> simp only [ST.flats, zd] <;> omega
theorem QkR (x : SelD) (ks : List ST) : (JN x ks).flat.length <= (ST.flats ks).length + 1 := by
 unfold JN
 split
 split <;> simp [ST.flat, ST.flats, QT]
 simp [ST.flat, QT]
mutual
theorem Qdi : ∀ T : ST, T.norm.flat.length <= T.flat.length
 | .mk x ks => by
  have h1 := QbA ks
  have h2 := QkR x (Y7 x (ST.norms ks))
  have h3 : (ST.flats (Y7 x (ST.norms ks))).length <= (ST.flats (ST.norms ks)).length := by
   unfold Y7; split
   exact Un _ _
   exact zq _
  rw [ST.norm, ST.flat, QT, ze]
  omega
theorem QbA : ∀ ks : List ST, (ST.flats (ST.norms ks)).length <= (ST.flats ks).length
 | [] => by simp [ST.norms]
 | t :: ks => by
  have h1 := Qdi t
  have h2 := QbA ks
  simp only [ST.norms, ST.flats, zd]
  omega
end
theorem J4 (T : ST) : 0 < T.flat.length := by obtain ⟨x, ks⟩ := T; simp [ST.flat, QT]
mutual
theorem Qf4 : ∀ T : ST, T.ht <= T.flat.length
 | .mk x ks => by have := Qki ks; simp only [ST.ht, ST.flat, QT, ze]; omega
theorem Qki : ∀ ks : List ST, ST.hts ks <= (ST.flats ks).length
 | [] => by simp [ST.hts]
 | t :: ks => by have := Qf4 t; have := Qki ks; simp only [ST.hts, ST.flats, zd]; omega
end
end
section
open Go Go.RowKit
set_option maxRecDepth 20000
theorem Qd2.sz {l : List SelD} {n k : Nat} (h : Qd2 l n k) : k < l.length /\ 0 < (l.getD k default).size /\ (l.getD k default).size <= l.length /\ ((k : Nat) : Int) + (l.getD k default).size <= l.length /\ 0 < (QaB n l k).length /\ (QaB n l k).length <= l.length := by
 obtain ⟨T, rest, h, hn⟩ := h
 rw [Qa3 l n k T rest h hn]
 have h1 := J4 T.norm
 have h2 := Qdi T
 obtain ⟨x, ks⟩ := T
 obtain ⟨_, _, q3, q4, q5⟩ := Vd h
 have h3 : (ST.mk x ks).flat.length = (ST.flats ks).length + 1 := by simp [ST.flat, QT]
 rw [q4]
 exact ⟨q3, by simp only; omega, by simp only; omega, by simp only; omega, h1, by omega⟩
def Qcx (n : Nat) (l : List SelD) (i : Nat) : List (List SelD) := ((Qa l i).map (QaB n l)).filter (QhB (l.getD i default))
theorem Qd2.kids {l : List SelD} {n i : Nat} (h : Qd2 l (n + 1) i) : (∀ k ∈ Qa l i, Qd2 l n k) /\ (Qa l i).length <= l.length /\ (Qcx n l i).flatten.length <= l.length /\ (Qcx n l i).length <= l.length := by
 obtain ⟨⟨x, ks⟩, rest, h, hn⟩ := h
 obtain ⟨q1, q2, q3, q4, q5⟩ := Vd h
 rw [ST.ht] at hn
 have h6 := Ue (l := l) (n := n) (fun i T rest => Qa3 l n i T rest) ks (i + 1) rest q2 (by omega)
 have q6 : (Qa l i).length <= l.length := by
  have := Qdq l (i + (l.getD i default).size) (i + 1)
  unfold Qa; omega
 refine ⟨fun k hk => Qby ks (i + 1) rest q2 (by omega) k (by rw [<- q1]; exact hk), q6, ?_, ?_⟩
 unfold Qcx
 rw [q1, q4, h6, QhA, <- Qam]
 have := QbA ks
 have : (ST.flats (Y7 x (ST.norms ks))).length <= (ST.flats (ST.norms ks)).length := by
  unfold Y7; split
  exact Un _ _
  exact zq _
 omega
 unfold Qcx
 exact Nat.le_trans (List.length_filter_le _ _) (by simpa using q6)
theorem QZ {K : List Nat} {j : Nat} (h : j < K.length) : K.getD j 0 ∈ K := by
 simp [za, zi h]
def c51 (m : Nat) (svs : List SV) (b : Option SB) : QR := match svs, b with
 | [.sl (.sels l), .nat i], none => some ([l.length <= 1000000000, Qd2 l m i], .sl (.sels (QaB m l i)))
 | _, _ => none
def Qa2 (l : List SelD) : List SelD := QaB l.length l 0
def U9 (l : List SelD) : Prop := ∃ T : ST, l = T.flat
theorem U9.normed {T : ST} : Qa2 T.flat = T.norm.flat := Qa3 _ _ _ T [] (by simp) (Qf4 T)
theorem U9.len {l : List SelD} (h : U9 l) : 0 < l.length /\ 0 < (Qa2 l).length /\ (Qa2 l).length <= l.length := by
 obtain ⟨T, h⟩ := h
 rw [h, U9.normed]
 exact ⟨J4 T, J4 _, Qdi T⟩
def QkK : List SelD -> List SelD -> Bool
 | [], [] => true
 | x :: a, y :: b => Qep x y && QkK a b
 | _, _ => false
def QqI (l r : List SelD) : Bool := QkK (Qa2 l) (Qa2 r)
theorem Qd1 : ∀ a : List SelD, QkK a a = true
 | [] => rfl
 | x :: a => by rw [QkK, Qd1 a]; simp [Qep]
def Zw (l : List SelD) : List SelD := if (l.getD 0 default).kind = 23 then l else YE Yd l
theorem Vb {K : Out -> Option SB -> Prop} {a c : Bool} (hk : K (.val (.bool a)) none) (e : a = c) : K (.val (.bool c)) none := by rw [e] at hk; exact hk
end
end Go.Proofs.YtengepcafdnalaaGreatDoor
