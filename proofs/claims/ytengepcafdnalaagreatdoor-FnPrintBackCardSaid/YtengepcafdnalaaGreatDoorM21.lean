/-
  Parts of the proof that the law FnPrintBack holds for every input (texts Hc, Hd, He, Ka, Kb, Kc, Kd). Conditions: none.
-/
import Derived.Test.YtengepcafdnalaaGreatDoorM20
namespace Go.Proofs.YtengepcafdnalaaGreatDoor
open _root_.Bool renaming and_eq_true → zk, or_eq_true → zx, or_assoc → zY, eq_iff_iff → zG
open _root_.List renaming getD_eq_getElem?_getD → zd, drop_eq_getElem_cons → zI, getElem?_eq_getElem → zg, length_drop → zR, length_cons → zj, length_nil → zo, length_singleton → zF
open _root_.Nat renaming le_of_ble_eq_true → xy, strongRecOn → zl, le_refl → zm, lt_of_lt_of_le → zL, mul_le_mul_left → zz
open _root_.Option renaming map_eq_some_iff → zi, map_some → zK
open Go.Proofs.Tryz renaming prog → zf
open _root_.UInt8 renaming toNat_lt → zV
section
open Go Go.RowKit
inductive Fr where
 | sq (y:Code)
 | bk (id:Nat)
 | lp (c:Code)
 | sc (c:Code)
def den:List Fr->(Exit->SS->Prop)->Exit->SS->Prop
 | [],Q=>Q
 | .sq y::s,Q=>Qix (fun S'=>VC y S' (den s Q)) (den s Q)
 | .bk id::s,Q=>blkQ id (den s Q)
 | .lp c::s,Q=>Qix (fun S'=>VLp c S' (den s Q)) (den s Q)
 | .sc c::s,Q=>scQ c (den s Q)
def Qe8:Code->Nat
 | .region id _ _=>id
 | .seq a _=>Qe8 a
 | .block _ c=>Qe8 c
 | .loop c=>Qe8 c
 | .scope c=>Qe8 c
 | _=>1000000
def Qmd:Nat->List SV->List SV
 | _,[]=>[]
 | m,x::l=>cond (m%2==1) x .undef::Qmd (m/2) l
def Qqh:Nat->Env->Env
 | _,[]=>[]
 | m,x::l=>Qmd (m%65536) x::Qqh (m/65536) l
def Qmc (m:Nat) (S:SS):SS:={ S with env:=Qqh m S.env }
def mlk:List (Nat×Nat)->Nat->Nat
 | [],_=>0
 | (i,m)::l,j=>cond (i==j) m (mlk l j)
def rdR (S:SS):ResultVar->Option SV
 | .tmp t=>cond (Qm4 (ZM S.env t)) (some (ZM S.env t)) none
 | .cell t T=>cond (Qm4 (ZM S.env t)) (match QlT S.heap T (ZM S.env t) with
  | some ([],v)=>some v
  | _=>none) none
def rdRs (S:SS):List ResultVar->Option (List SV)
 | []=>some []
 | r::l=>match rdR S r,rdRs S l with
  | some s,some ss=>some (s::ss)
  | _,_=>none
def Ql7:Option SB->Bool
 | some c=>c.low
 | none=>true
def QnE (hb rowR:Bool) (rs:List ResultVar) (Ts:List TypeId) (S:SS):Option (Out×Option SB):=
 match rdRs S rs with
 | some ss=>match rowR with
  | true=>match ss,Ts with
   | [.own r],_=>match hlk S.heap r with
    | some (.row x true)=>cond (Ql7 (b0 hb S)) (some (.row x,b0 hb S)) none
    | _=>none
   | [.nilsl],[T]=>cond (Ql7 (b0 hb S)) ((ZK T).map fun x=>(.row x,b0 hb S)) none
   | _,_=>none
  | false=>cond (SV.lts 0 (fixRs S Ts ss).1&&Ql7 (b0 hb (fixRs S Ts ss).2)) (some (.val (Qm5 (fixRs S Ts ss).1),b0 hb (fixRs S Ts ss).2)) none
 | none=>none
theorem QeP {b:Option SB} (h:Ql7 b=true):lowO b:=by
 cases b with
 | none=>trivial
 | some c=>exact h
theorem QlR {S:SS}:∀{l:List ResultVar} {ss:List SV} {K:List SV->Prop},rdRs S l=some ss->K ss->QgF S l K
 | [],ss,K,h,hk=>by cases h;exact hk
 | r::l,ss,K,h,hk=>by
  simp only[rdRs]at h
  split at h
  rename_i s ss' h1 h2
  cases h
  refine (?_:getR S r fun s=>QgF S l fun ss=>K (s::ss))
  have rec':QgF S l fun ss=>K (s::ss):=QlR h2 hk
  cases r with
  | tmp t=>
   obtain⟨h3,h4⟩:=V2 h1
   cases h4
   obtain⟨h5,h6⟩:=QdK h3
   exact⟨h5,by rw[h6];exact rec'⟩
  | cell t T=>
   obtain⟨h3,h4⟩:=V2 h1
   obtain⟨h5,h6⟩:=QdK h3
   refine⟨h5,?_⟩
   rw[h6]
   split at h4
   rename_i v hq
   cases h4
   have:=QlS hq trivial
   have mono:∀{P Q:SV->Prop},(∀r,P r->Q r)->Qbd S.heap T (ZM S.env t) P->Qbd S.heap T (ZM S.env t) Q:=by
    intro P Q hPQ hl
    have lk:∀{cs:List SV} {o:Nat},Qbc T cs o P->Qbc T cs o Q:=by
     intro cs o hl
     unfold Qbc at hl ⊢
     split at hl
     split at hl
     exact hPQ _ hl
     exact hl
     exact⟨hl.1,hPQ _ hl.2⟩
     exact hl
    unfold Qbd at hl ⊢
    split at hl
    split at hl
    exact lk hl
    exact hl
    exact lk hl
    split at hl
    exact⟨hl.1,hl.2.1,lk hl.2.2⟩
    exact hl
    exact hl
   exact mono (fun r hr=>by rw[hr];exact rec') this
   cases h4
  cases h
theorem QlO {hb rowR:Bool} {rs:List ResultVar} {Ts:List TypeId} {S:SS} {o:Out} {b:Option SB} (h:QnE hb rowR rs Ts S=some (o,b)) {K:Out->Option SB->Prop} (hk:K o b):QpD hb rowR rs Ts K S:=by
 unfold QnE at h
 split at h
 rename_i ss hss
 refine QlR hss ?_
 cases rowR with
 | true=>
  simp only at h ⊢
  unfold Qkj
  split at h
  split at h
  rename_i hx
  obtain⟨h0,h⟩:=V2 h
  cases h
  simp only[hx]
  exact⟨QeP h0,hk⟩
  cases h
  obtain⟨h0,h⟩:=V2 h
  simp only[zi]at h
  obtain⟨x,h1,h2⟩:=h
  cases h2
  simp only[h1]
  exact⟨QeP h0,hk⟩
  cases h
 | false=>
  simp only at h ⊢
  obtain⟨h1,h2⟩:=V2 h
  cases h2
  rw[zk]at h1
  exact⟨h1.1,QeP h1.2,hk⟩
 cases h
section
variable (D:Cx) (R:SS->Option (Out×Option SB)) (Qf:Exit->SS->Prop) (K:Out->Option SB->Prop) (ms:List (Nat×Nat)) (cuts:List Nat)
def Qkk (S:SS):Prop:=
 match R S with
 | some (o,b)=>K o b
 | none=>False
def nxt (G:Code->List Fr->SS->Prop):List Fr->Exit->SS->Prop
 | [],.normal,S=>Qkk R K S
 | _,.ret,S=>Qkk R K S
 | .sq y::s,.normal,S=>cond (cuts.contains (Qe8 y)) (VC y (Qmc (mlk ms (Qe8 y)) S) (den s Qf)) (G y s S)
 | .bk _::s,.normal,S=>nxt G s .normal S
 | .bk id::s,.exit i,S=>cond (i==id) (nxt G s .normal S) (nxt G s (.exit i) S)
 | .lp c::s,.normal,S=>VLp c (Qmc (mlk ms (Qe8 c)) S) (den s Qf)
 | .sc c::s,.goto l,S=>match findLabel c l with
  | some rest=>G rest (.sc c::s) S
  | none=>nxt G s (.goto l) S
 | _::s,e,S=>nxt G s e S
 | [],_,_=>False
def vcDr (l:List Oper) (S:SS) (k:SS->Prop):Prop:=
 cond (QnM D l) (QfC D (l.map (·.dst)) l S k) (vcD D (l.map (·.dst)) ((S.heap,S.nx)::Qch D (l.map (·.dst)) l S) l S k)
def setB (o:Operand) (b:Bool) (S:SS):SS:=
 match o with
 | .tmp t=>{ S with env:=ept S.env t (.bool b) }
 | _=>S
def go:Nat->Code->List Fr->SS->Prop
 | 0,_,_,_=>False
 | n+1,c,stk,S=>match c with
  | .skip=>nxt R Qf K ms cuts (go n) stk .normal S
  | .label _=>nxt R Qf K ms cuts (go n) stk .normal S
  | .region _ ops false=>vcQ D ops.toList S fun S'=>nxt R Qf K ms cuts (go n) stk .normal S'
  | .region _ ops true=>bb (ordB D ops) (vcDr D ops.toList S fun S'=>nxt R Qf K ms cuts (go n) stk .normal S')
  | .seq x y=>go n x (.sq y::stk) S
  | .cond o x y=>match ev S.env o with
   | .bool b=>cond b (go n x stk (setB o true S)) (go n y stk (setB o false S))
   | _=>False
  | .block id x=>go n x (.bk id::stk) S
  | .loop x=>VLp x (Qmc (mlk ms (Qe8 x)) S) (den stk Qf)
  | .scope x=>go n x (.sc x::stk) S
  | .exit i=>nxt R Qf K ms cuts (go n) stk (.exit i) S
  | .goto l=>nxt R Qf K ms cuts (go n) stk (.goto l) S
  | .ret=>Qkk R K S
  | _=>False
end
theorem Qgt:∀{l:List SV} {m i:Nat} {s:SV},lk1 (Qmd m l) i=some s->∃t,lk1 l i=some t/\(s=.undef\/s=t)
 | x::l,m,0,s,h=>by
  simp only[Qmd,lk1,Option.some.injEq]at h
  refine⟨x,rfl,?_⟩
  cases hb:(m%2==1) with
  | true=>rw[hb]at h;exact .inr h.symm
  | false=>rw[hb]at h;exact .inl h.symm
 | x::l,m,i+1,s,h=>Qgt (l:=l) (m:=m/2) h
 | [],m,i,s,h=>by cases h
theorem Qgs:∀{e:Env} {m i j:Nat} {s:SV},lk2 (Qqh m e) i j=some s->∃t,lk2 e i j=some t/\(s=.undef\/s=t)
 | x::l,m,0,j,s,h=>Qgt (l:=x) h
 | x::l,m,i+1,j,s,h=>Qgs (e:=l) (m:=m/65536) h
 | [],m,i,j,s,h=>by cases h
theorem V9.keep (m:Nat) (S:SS):V9 S (Qmc m S):=by
 intro g0 w0 M ω a w hS
 refine⟨ω,hS.weak rfl rfl fun i s hs=>?_⟩
 obtain⟨t,h1,h2⟩:=Qgs hs
 refine⟨t,h1,fun v _ hr=>?_⟩
 rcases h2 with rfl | rfl
 exact .undef _
 exact hr
section
variable {D:Cx} {R:SS->Option (Out×Option SB)} {Qf:Exit->SS->Prop} {K:Out->Option SB->Prop} {ms:List (Nat×Nat)} {cuts:List Nat}
theorem QlH {o:Operand} {b:Bool} {S:SS} (h:ev S.env o=.bool b):V9 S (setB o b S):=by
 unfold setB
 split
 rename_i t
 intro g0 w0 M ω a w hS
 have hx:=QaZ (e:=S.env) (d:=t) h (by simp)
 obtain⟨v,h1,h2⟩:=hS.env t _ hx
 have h3:=hS.put h2 t
 rw[Qb3 h1]at h3
 exact⟨ω,h3⟩
 exact V9.refl _
theorem Qa0:∀(s:List Fr) (S:SS),Qf .ret S->den s Qf .ret S
 | [],S,h=>h
 | .sq _::s,S,h=>Qa0 s S h
 | .bk _::s,S,h=>Qa0 s S h
 | .lp _::s,S,h=>Qa0 s S h
 | .sc _::s,S,h=>Qa0 s S h
theorem Qv5 (hR:∀S o b,R S=some (o,b)->K o b->Qf .ret S/\Qf .normal S) {G:Code->List Fr->SS->Prop} (hG:∀c s S,G c s S->VC c S (den s Qf)) :
 ∀(s:List Fr) (e:Exit) (S:SS),nxt R Qf K ms cuts G s e S->den s Qf e S:=by
 have ret:∀S,Qkk R K S->Qf .ret S/\Qf .normal S:=by
  intro S h
  unfold Qkk at h
  split at h
  rename_i o b e;exact hR S o b e h
  exact h.elim
 intro s
 induction s with
 | nil=>
  intro e S h
  cases e<;>simp only[nxt]at h<;>first | exact (ret S h).2 | exact (ret S h).1 | exact h.elim
 | cons f s ih=>
  intro e S h
  cases e with
  | ret=>exact Qa0 _ S (ret S (by cases f<;>simpa only[nxt] using h)).1
  | normal=>
   cases f with
   | sq y=>
    simp only[nxt]at h
    simp only[den,Qix]
    cases hc:cuts.contains (Qe8 y) with
    | true=>rw[hc]at h;exact VC.le (V9.keep _ _) h
    | false=>rw[hc]at h;exact hG _ _ _ h
   | bk id=>simp only[nxt]at h;exact ih _ _ h
   | lp c=>simp only[nxt]at h;exact VLp.le (V9.keep _ _) h
   | sc c=>simp only[nxt]at h;exact ih _ _ h
  | exit i=>
   cases f with
   | sq y=>simp only[nxt]at h;exact ih _ _ h
   | bk id=>
    simp only[nxt]at h
    simp only[den,blkQ]
    cases hc:(i==id) with
    | true=>rw[hc]at h;rw[if_pos (by simpa using hc)];exact ih _ _ h
    | false=>rw[hc]at h;rw[if_neg (by simpa using hc)];exact ih _ _ h
   | lp c=>simp only[nxt]at h;exact ih _ _ h
   | sc c=>simp only[nxt]at h;exact ih _ _ h
  | goto l=>
   cases f with
   | sq y=>simp only[nxt]at h;exact ih _ _ h
   | bk id=>simp only[nxt]at h;exact ih _ _ h
   | lp c=>simp only[nxt]at h;exact ih _ _ h
   | sc c=>
    simp only[nxt]at h
    simp only[den,scQ]
    split at h
    rename_i rest hf
    simp only[hf]
    exact VSp.step (hG _ _ _ h)
    rename_i hf
    simp only[hf]
    exact ih _ _ h
  | panic ch=>cases f<;>(simp only[nxt]at h;exact ih _ _ h)
  | outgrown=>cases f<;>(simp only[nxt]at h;exact ih _ _ h)
theorem Un (hD:Qa D) {id:Nat} {ops:Array Oper} {S:SS} {Q:Exit->SS->Prop} (h:vcQ D ops.toList S (Q .normal)):VC (.region id ops false) S Q:=by
 intro g0 w0 M ω a w hS
 refine wp_region_list ?_
 exact Quq hD (ops:=ops) (K:=Q .normal) (fun a w ⟨ω',S',h1,h2⟩=>⟨S',h1,ω',h2⟩) hS h
theorem Qkl (hD:Qa D) {id:Nat} {ops:Array Oper} {S:SS} {Q:Exit->SS->Prop} (hB:ordB D ops=true) (h:vcDr D ops.toList S (Q .normal)):VC (.region id ops true) S Q:=by
 intro g0 w0 M ω a w hS
 have hR:vcR D ops.toList S (Q .normal):=by
  unfold vcDr at h
  unfold vcR
  cases hn:QnM D ops.toList with
  | true=>rw[hn]at h;exact Qly h
  | false=>rw[hn]at h;exact h
 exact Qup hD hB hS (K:=Q .normal) hR (fun a w ⟨ω',S',h1,h2⟩=>⟨S',h1,ω',h2⟩) (by kernel_rfl) id
theorem Qmx (hD:Qa D) (hR:∀S o b,R S=some (o,b)->K o b->Qf .ret S/\Qf .normal S):∀(n:Nat) (c:Code) (s:List Fr) (S:SS),go D R Qf K ms cuts n c s S->VC c S (den s Qf)
 | 0,_,_,_,h=>h.elim
 | n+1,c,s,S,h=>by
  have ih:=Qmx hD hR n
  have nx:=Qv5 (ms:=ms) (cuts:=cuts) hR ih
  have ret:∀S,Qkk R K S->Qf .ret S:=by
   intro S h
   unfold Qkk at h
   split at h
   rename_i o b e;exact (hR S o b e h).1
   exact h.elim
  cases c with
  | skip=>exact VC.skip (nx s .normal S h)
  | label l=>exact VC.label (nx s .normal S h)
  | region id ops d=>
   cases d with
   | false=>
    refine VC.mono (Q:=fun e S'=>match e with
     | .normal=>nxt R Qf K ms cuts (go D R Qf K ms cuts n) s .normal S'
     | _=>False) (Un hD h) fun e S' h'=>?_
    cases e<;>first | exact nx s .normal S' h' | exact h'.elim
   | true=>
    obtain⟨h1,h2⟩:=Ua h
    refine VC.mono (Q:=fun e S'=>match e with
     | .normal=>nxt R Qf K ms cuts (go D R Qf K ms cuts n) s .normal S'
     | _=>False) (Qkl hD h1 h2) fun e S' h'=>?_
    cases e<;>first | exact nx s .normal S' h' | exact h'.elim
  | seq x y=>exact VC.seq (ih _ _ _ h)
  | cond o x y=>
   simp only[go]at h
   split at h
   rename_i b he
   refine VC.cond ?_
   unfold arg
   rw[he]
   refine⟨trivial,fun hb=>?_,fun hb=>?_⟩
   rw[hb]at h he;exact VC.le (QlH he) (ih _ _ _ h)
   rw[hb]at h he;exact VC.le (QlH he) (ih _ _ _ h)
   exact h.elim
  | block id x=>exact VC.block (ih _ _ _ h)
  | loop x=>exact VC.ofLp (VLp.le (V9.keep _ _) h)
  | scope x=>exact VC.ofSp (VSp.step (ih _ _ _ h))
  | exit i=>exact VC.exit (nx s (.exit i) S h)
  | goto l=>exact VC.goto (nx s (.goto l) S h)
  | ret=>exact VC.ret (Qa0 s S (ret S h))
  | _=>exact h.elim
end
end
section
open Go Go.RowKit
def Qe (fn:Func):Code:=
 match fn.body with
 | some c=>c
 | none=>.skip
def pos:Code->List Fr->Nat->Option (Code×List Fr)
 | .seq x y,s,id=>match pos x (.sq y::s) id with
  | some r=>some r
  | none=>pos y s id
 | .cond _ x y,s,id=>match pos x s id with
  | some r=>some r
  | none=>pos y s id
 | .block i x,s,id=>pos x (.bk i::s) id
 | .loop x,s,id=>cond (Qe8 x==id) (some (x,s)) (pos x (.lp x::s) id)
 | .scope x,s,id=>pos x (.sc x::s) id
 | _,_,_=>none
def QeF:Code->List Fr->Nat->Option (Code×List Fr)
 | .seq x y,s,id=>cond (Qe8 y==id) (some (y,s)) (match QeF x (.sq y::s) id with
  | some r=>some r
  | none=>QeF y s id)
 | .cond _ x y,s,id=>match QeF x s id with
  | some r=>some r
  | none=>QeF y s id
 | .block i x,s,id=>QeF x (.bk i::s) id
 | .loop x,s,id=>QeF x (.lp x::s) id
 | .scope x,s,id=>QeF x (.sc x::s) id
 | _,_,_=>none
def AtL (B:Code) (Q:Exit->SS->Prop) (id:Nat) (S:SS):Prop:=
 match pos B [] id with
 | some (c,s)=>VLp c S (den s Q)
 | none=>False
def AtC (B:Code) (Q:Exit->SS->Prop) (id:Nat) (S:SS):Prop:=
 match QeF B [] id with
 | some (c,s)=>VC c S (den s Q)
 | none=>False
structure Wk where
 D:Cx
 B:Code
 hb:Bool
 rowR:Bool
 rs:List ResultVar
 Ts:List TypeId
 ms:List (Nat×Nat)
 cuts:List Nat
def Wk.Q (W:Wk) (K:Out->Option SB->Prop):Exit->SS->Prop:=retQ W.hb W.rowR W.rs W.Ts K
def Wk.L (W:Wk) (K:Out->Option SB->Prop) (id:Nat) (S:SS):Prop:=AtL W.B (W.Q K) id S
def Wk.C (W:Wk) (K:Out->Option SB->Prop) (id:Nat) (S:SS):Prop:=AtC W.B (W.Q K) id S
def Wk.go0 (W:Wk) (K:Out->Option SB->Prop) (S:SS):Prop:=
 go W.D (QnE W.hb W.rowR W.rs W.Ts) (W.Q K) K W.ms W.cuts 1000 W.B [] S
def Wk.goL (W:Wk) (K:Out->Option SB->Prop) (id:Nat) (S:SS):Prop:=
 match pos W.B [] id with
 | some (c,s)=>go W.D (QnE W.hb W.rowR W.rs W.Ts) (W.Q K) K W.ms W.cuts 1000 c (.lp c::s) S
 | none=>False
def Wk.goC (W:Wk) (K:Out->Option SB->Prop) (id:Nat) (S:SS):Prop:=
 match QeF W.B [] id with
 | some (c,s)=>go W.D (QnE W.hb W.rowR W.rs W.Ts) (W.Q K) K W.ms W.cuts 1000 c s S
 | none=>False
theorem Wk.hR (W:Wk) (K:Out->Option SB->Prop):∀S o b,QnE W.hb W.rowR W.rs W.Ts S=some (o,b)->K o b->W.Q K .ret S/\W.Q K .normal S:=
 fun _ _ _ h hk=>⟨QlO h hk,QlO h hk⟩
theorem Wk.atL (W:Wk) (hD:Qa W.D) {K:Out->Option SB->Prop} {id:Nat} {S:SS} {X:Prop} (e:W.goL K id S=X) (h:X):W.L K id S:=by
 rw[<-e]at h
 unfold Wk.goL at h
 unfold Wk.L AtL
 cases hp:pos W.B [] id with
 | some r=>rw[hp]at h;exact VLp.step (Qmx hD (W.hR K) _ _ _ _ h)
 | none=>rw[hp]at h;exact h.elim
theorem Wk.atC (W:Wk) (hD:Qa W.D) {K:Out->Option SB->Prop} {id:Nat} {S:SS} {X:Prop} (e:W.goC K id S=X) (h:X):W.C K id S:=by
 rw[<-e]at h
 unfold Wk.goC at h
 unfold Wk.C AtC
 cases hp:QeF W.B [] id with
 | some r=>rw[hp]at h;exact Qmx hD (W.hR K) _ _ _ _ h
 | none=>rw[hp]at h;exact h.elim
theorem Wk.L.le {W:Wk} {K:Out->Option SB->Prop} {id:Nat} {S S':SS} (hl:V9 S S') (h:W.L K id S'):W.L K id S:=by
 unfold Wk.L AtL at *
 split at h
 exact VLp.le hl h
 exact h.elim
theorem Wk.C.le {W:Wk} {K:Out->Option SB->Prop} {id:Nat} {S S':SS} (hl:V9 S S') (h:W.C K id S'):W.C K id S:=by
 unfold Wk.C AtC at *
 split at h
 exact VC.le hl h
 exact h.elim
theorem Wk.sat (W:Wk) (hD:Qa W.D) {f:FuncId} {fn:Func} {P:Spec} (hf:zf.funcs[f]? = some fn) (hb:fn.body=some W.B) (hl:fn.results=W.rs.toArray) (h4:W.rs.length<=4)
 (h:∀svs b K,P svs b K->b.isSome=W.hb/\W.go0 K ⟨Us fn.ntmps svs,(loc b).heap,1⟩):Sat f P:=by
 refine Sat.of_vc W.rowR W.rs W.Ts hf hb hl h4 fun svs b K hP=>?_
 obtain⟨e,hg⟩:=h svs b K hP
 rw[e]
 have hn:(loc b).nx=1:=by cases b<;>rfl
 rw[hn]
 exact Qmx hD (W.hR K) _ _ _ _ hg
theorem Wk.start {W:Wk} {K:Out->Option SB->Prop} {S:SS} {X:Prop} (e:W.go0 K S=X) (h:X):W.go0 K S:=by rw[e];exact h
theorem Wk.entry (W:Wk) {n:Nat} {svs:List SV} {b:Option SB} {K:Out->Option SB->Prop} (hb:b.isSome=W.hb) {X:Prop} (e:W.go0 K ⟨Us n svs,(loc b).heap,1⟩=X) (h:X) :
 b.isSome=W.hb/\W.go0 K ⟨Us n svs,(loc b).heap,1⟩:=⟨hb,by rw[e];exact h⟩
theorem Qh {f:List SV->Option SB->QR} {svs:List SV} {b:Option SB} {K:Out->Option SB->Prop} (h:Qz f svs b K):∃ps v,f svs b=some (ps,v)/\Yj ps/\K (.val v) b:=by
 unfold Qz at h
 split at h
 rename_i ps v e;obtain⟨h1,h2⟩:=Qa2 h;exact⟨ps,v,e,h1,h2⟩
 exact h.elim
theorem Vy {f:List SV->Option SB->FR} {svs:List SV} {b:Option SB} {K:Out->Option SB->Prop} (h:fnS f svs b K):∃ps o b',f svs b=some (ps,o,b')/\Yj ps/\K o b':=by
 unfold fnS at h
 split at h
 rename_i ps o b' e;obtain⟨h1,h2⟩:=Qa2 h;exact⟨ps,o,b',e,h1,h2⟩
 exact h.elim
theorem Qb {b:Bool} {p q:Prop} (h1:b=true->p) (h2:b=false->q):cond b p q:=by cases b<;>first | exact h2 rfl | exact h1 rfl
def Qt {α:Type} (x:Option α) (f:α->Prop) (q:Prop):Prop:=
 match x with
 | some y=>f y
 | none=>q
theorem QJ {α:Type} {x:Option α} {f:α->Prop} {q:Prop} (h1:∀y,x=some y->f y) (h2:x=none->q):Qt x f q:=by
 unfold Qt
 split
 exact h1 _ rfl
 exact h2 rfl
def mkS (n:Nat) (l:List (Nat×SV)) (h:Heap) (nx:Nat):SS:=⟨l.foldl (fun e p=>ept e p.1 p.2) (Us n []),h,nx⟩
theorem keq {K:Out->Option SB->Prop} {o o':Out} {b b':Option SB} (h:K o b) (e1:o=o') (e2:b=b'):K o' b':=by rw[<-e1,<-e2];exact h
theorem Has.of {f : FuncId} {fn : Func} (hf : zf.funcs[f]? = some fn) (hn : (fn.name == "runtime.NumGoroutine") = false) (hb : fn.body = some (Qe fn)) : Has f := ⟨fn, _, hf, hn, hb⟩
theorem Wk.sa (W:Wk) (hD:Qa W.D) {f:FuncId} (fn:Func) {P:Spec} (h:∀svs b K,P svs b K->b.isSome=W.hb/\W.go0 K ⟨Us fn.ntmps svs,(loc b).heap,1⟩) (hf:zf.funcs[f]? = some fn:=by kernel_rfl) (hb:fn.body=some W.B:=by kernel_rfl) (hl:fn.results=W.rs.toArray:=by kernel_rfl) (h4:Nat.ble W.rs.length 4=true:=by kernel_rfl):Sat f P:=W.sat hD hf hb hl (xy h4) h
theorem Wk.aL (W:Wk) (hD:Qa W.D) {K:Out->Option SB->Prop} {id:Nat} {S:SS} (X:Prop) (h:X) (e:W.goL K id S=X:=by kernel_rfl):W.L K id S:=W.atL hD e h
theorem Wk.aC (W:Wk) (hD:Qa W.D) {K:Out->Option SB->Prop} {id:Nat} {S:SS} (X:Prop) (h:X) (e:W.goC K id S=X:=by kernel_rfl):W.C K id S:=W.atC hD e h
theorem Wk.en (W:Wk) {n:Nat} {svs:List SV} {b:Option SB} {K:Out->Option SB->Prop} (X:Prop) (h:X) (hb:b.isSome=W.hb:=by rfl) (e:W.go0 K ⟨Us n svs,(loc b).heap,1⟩=X:=by kernel_rfl):b.isSome=W.hb/\W.go0 K ⟨Us n svs,(loc b).heap,1⟩:=W.entry hb e h
theorem hsf {f : FuncId} (fn : Func) (hf : zf.funcs[f]? = some fn := by kernel_rfl) (hn : (fn.name == "runtime.NumGoroutine") = false := by kernel_rfl) (hb : fn.body = some (Qe fn) := by kernel_rfl) : Has f := Has.of hf hn hb
end
section
open Go Go.RowKit
def QiP (π:List Nat):SV->SV
 | .own r=>.own (pim π r)
 | .ptr r o=>.ptr (pim π r) o
 | s=>s
def canN:SV->SV
 | .int .i64 (.ofNat n)=>.nat n
 | s=>s
def canL (x:RV):SV->SV
 | .nilsl=>cond (x.len==0) (.sl x) .nilsl
 | s=>s
def canI:SV->SV
 | .nat n=>.int .i64 n
 | s=>s
def mskV:SV->SV->SV
 | .undef,_=>.undef
 | .int .i64 _,s=>canI s
 | .nat _,s=>canN s
 | .sl x,s=>canL x s
 | _,s=>s
def Qky:List SV->List SV->List SV
 | [],[]=>[]
 | s'::l',s::l=>mskV s' s::Qky l' l
 | [],_=>[.undef]
 | _,[]=>[]
def Qdz:Env->Env->Env
 | [],[]=>[]
 | s'::l',s::l=>Qky s' s::Qdz l' l
 | [],_=>[[]]
 | _,[]=>[]
def isBx:SV->Bool
 | .cp [.ptr 0 0]=>true
 | _=>false
theorem QsQ {s:SV} (h:isBx s=true):s=.cp [.ptr 0 0]:=by
 unfold isBx at h
 split at h
 rfl
 cases h
theorem YU {π:List Nat} {n:Nat} (h5:pim π 0=0) (h6:0<n) {s:SV} (h:(s.lt 0||isBx s)=true):s.lt 0=true\/s=.cp [.ptr 0 0]/\pim π 0=0/\0<n:=by
 rw[zx]at h
 exact h.imp id fun q=>⟨QsQ q,h5,h6⟩
def okV (n:Nat):SV->Bool
 | .undef=>true
 | .own r=>decide (r<n)
 | .ptr r _=>decide (r<n)
 | s=>s.lt 0||isBx s
def okB (π:List Nat) (S:SS):Bool:=
 S.env.all (fun l=>l.all (okV S.nx))&&(S.heap.all (fun p=>decide (p.1<S.nx)&&p.2.low)&&(QkO π&&(decide (S.nx<=π.length)&&(pim π 0==0&&decide (0<S.nx)))))
theorem QpZ (s':SV) {s:SV} {ω:Wit} {v:Value} (h:Rel ω s v):Rel ω (mskV s' s) v:=by
 unfold mskV
 split
 exact .undef _
 unfold canI
 split
 rw[h.nat_inv];exact .int _ _
 exact h
 unfold canN
 split
 rw[h.int_inv];exact .nat _
 exact h
 unfold canL
 split
 rename_i x s
 cases hx:(x.len==0) with
 | true=>rw[h.nilsl_inv];exact .slz _ _ _ (by simpa using hx)
 | false=>exact h
 exact h
 exact h
theorem Qi8:∀{l' l:List SV} {i:Nat} {s:SV},lk1 (Qky l' l) i=some s->∃t,lk1 l i=some t/\∀ω v,Rel ω t v->Rel ω s v
 | [],[],i,s,h=>by cases h
 | s'::l',x::l,0,s,h=>by
  simp only[Qky,lk1,Option.some.injEq]at h
  subst h
  exact⟨x,rfl,fun ω v hr=>QpZ s' hr⟩
 | s'::l',x::l,i+1,s,h=>Qi8 (l':=l') (l:=l) h
 | [],x::l,0,s,h=>by
  simp only[Qky,lk1,Option.some.injEq]at h
  subst h
  exact⟨x,rfl,fun ω v _=>.undef _⟩
 | [],x::l,i+1,s,h=>by cases i<;>simp[Qky,lk1]at h
 | s'::l',[],i,s,h=>by simp[Qky,lk1]at h
theorem Qi9:∀{l' l:Env} {i j:Nat} {s:SV},lk2 (Qdz l' l) i j=some s->∃t,lk2 l i j=some t/\∀ω v,Rel ω t v->Rel ω s v
 | [],[],i,j,s,h=>by cases h
 | s'::l',x::l,0,j,s,h=>Qi8 (l':=s') (l:=x) h
 | s'::l',x::l,i+1,j,s,h=>Qi9 (l':=l') (l:=l) h
 | [],x::l,0,j,s,h=>by simp[Qdz,lk2,lk1]at h
 | [],x::l,i+1,j,s,h=>by cases i<;>simp[Qdz,lk2]at h
 | s'::l',[],i,j,s,h=>by simp[Qdz,lk2]at h
theorem V9.msk (e':Env) (S:SS):V9 S { S with env:=Qdz e' S.env }:=by
 intro g0 w0 M ω a w hS
 refine⟨ω,hS.weak rfl rfl fun i s hs=>?_⟩
 obtain⟨t,h1,h2⟩:=Qi9 hs
 exact⟨t,h1,fun v _ hr=>h2 _ _ hr⟩
theorem Qwd {π:List Nat} {n:Nat} (h5:pim π 0=0) (h6:0<n) {s':SV} (h2:okV n s'=true):leV π n (QiP π s') s':=by
 cases s' with
 | undef=>trivial
 | own r=>exact⟨by simpa [okV] using h2,rfl⟩
 | ptr r o=>exact⟨by simpa [okV] using h2,rfl⟩
 | int k m=>exact⟨rfl,YU h5 h6 h2⟩
 | bool b=>exact⟨rfl,YU h5 h6 h2⟩
 | str l=>exact⟨rfl,YU h5 h6 h2⟩
 | nilptr=>exact⟨rfl,YU h5 h6 h2⟩
 | agg l=>exact⟨rfl,YU h5 h6 h2⟩
 | tup l=>exact⟨rfl,YU h5 h6 h2⟩
 | iface t v=>exact⟨rfl,YU h5 h6 h2⟩
 | nilif=>exact⟨rfl,YU h5 h6 h2⟩
 | ifx=>exact⟨rfl,YU h5 h6 h2⟩
 | nilsl=>exact⟨rfl,YU h5 h6 h2⟩
 | sl x=>exact⟨rfl,YU h5 h6 h2⟩
 | cp l=>exact⟨rfl,YU h5 h6 h2⟩
 | rp r i z o=>exact⟨rfl,YU h5 h6 h2⟩
 | cs x=>exact⟨rfl,YU h5 h6 h2⟩
 | gd c s=>exact⟨rfl,YU h5 h6 h2⟩
 | op v=>exact⟨rfl,YU h5 h6 h2⟩
 | nat m=>exact⟨rfl,YU h5 h6 h2⟩
 | byt c=>exact⟨rfl,YU h5 h6 h2⟩
 | gk j b s=>exact⟨rfl,YU h5 h6 h2⟩
theorem Qp9 {π:List Nat} {n:Nat} (h5:pim π 0=0) (h6:0<n):∀{l':List SV},l'.all (okV n)=true->leR π n (l'.map (QiP π)) l'
 | [],_=>trivial
 | s'::l',h2=>by
  simp only[List.all_cons,zk]at h2
  exact⟨Qwd h5 h6 h2.1,Qp9 h5 h6 h2.2⟩
theorem Qqb {π:List Nat} {n:Nat} (h5:pim π 0=0) (h6:0<n):∀{l':Env},l'.all (fun x=>x.all (okV n))=true->leE π n (l'.map fun x=>x.map (QiP π)) l'
 | [],_=>trivial
 | s'::l',h2=>by
  simp only[List.all_cons,zk]at h2
  exact⟨Qp9 h5 h6 h2.1,Qqb h5 h6 h2.2⟩
theorem Qqa {π:List Nat} {hp:Heap} {n:Nat}:∀{h:Heap},h.map (fun p=>hlk hp (pim π p.1))=h.map (fun p=>some p.2)->h.all (fun p=>decide (p.1<n)&&p.2.low)=true->leH π hp n h
 | [],_,_=>trivial
 | (r,b)::h,e,h2=>by
  simp only[List.map_cons,List.cons.injEq]at e
  simp only[List.all_cons,zk,decide_eq_true_eq]at h2
  exact⟨⟨h2.1.1,e.1,h2.1.2⟩,Qqa e.2 h2.2⟩
theorem V9.ren {S S':SS} (π:List Nat) (e1:Qdz S'.env S.env=S'.env.map (fun x=>x.map (QiP π))) (e2:S'.heap.map (fun p=>hlk S.heap (pim π p.1))=S'.heap.map (fun p=>some p.2))
 (e3:okB π S'=true):V9 S S':=by
 unfold okB at e3
 simp only[zk,decide_eq_true_eq,beq_iff_eq]at e3
 obtain⟨h1,h2,h3,h4,h5,h6⟩:=e3
 refine V9.trans (V9.msk S'.env S) (V9.of π ⟨?_,Qqa e2 h2,h3,h4,h5,h6⟩)
 show leE π S'.nx (Qdz S'.env S.env) S'.env
 rw[e1]
 exact Qqb h5 h6 h1
def wkL:List SV->List SV->Prop
 | [],[]=>True
 | s::l,s'::l'=>(∀ω v,Rel ω s v->Rel ω s' v)/\wkL l l'
 | _,_=>False
theorem QjX:∀{l l':List SV},wkL l l'->l.length=l'.length/\∀(i:Nat) (s':SV),l'[i]? = some s'->∃s,l[i]? = some s/\∀ω v,Rel ω s v->Rel ω s' v
 | [],[],_=>⟨rfl,fun i s' e=>by simp at e⟩
 | s::l,s'::l',h=>by
  obtain⟨h1,h2⟩:=QjX h.2
  refine⟨by simp[h1],fun i t e=>?_⟩
  cases i with
  | zero=>simp at e;subst e;exact⟨s,rfl,h.1⟩
  | succ i=>simpa using h2 i t (by simpa using e)
 | s::l,[],h=>h.elim
 | [],s'::l',h=>h.elim
theorem Sat.wk {f:FuncId} {P P':Spec} (h:Sat f P) (hw:∀svs b K,P' svs b K->∃svs',wkL svs svs'/\P svs' b K):Sat f P':=by
 intro g0 w M ω svs args b K hS hn hr hP
 obtain⟨svs',h1,h2⟩:=hw svs b K hP
 obtain⟨h3,h4⟩:=QjX h1
 refine h g0 w M ω svs' args b K hS (by omega) (fun i s' v e e'=>?_) h2
 obtain⟨s,e0,h5⟩:=h4 i s' e
 exact h5 ω v (hr i s v e0 e')
theorem Sat.outW {f:FuncId} {P P':Spec} (h:Sat f P)
 (hw:∀svs b K,P' svs b K->P svs b fun o b'=>∃s s',o=.val s/\s'.lt 0=true/\(∀ω v,Rel ω s v->Rel ω s' v)/\K (.val s') b'):Sat f P':=by
 intro g0 w M ω svs args b K hS hn hr hP
 refine (h g0 w M ω svs args b _ hS hn hr (hw svs b K hP)).mono ?_
 rintro e w' ⟨v,o,b',he,⟨s,s',rfl,hl,hrel,hk⟩,ω',S',h1,h2,h3⟩
 exact⟨v,.val s',b',he,hk,ω',S',h1,h2,hl,hrel _ _ h3.2⟩
theorem QoH {x y:SV} {a c:Int} (hx:toI x=some a) (hy:toI y=some c) (ω:Wit) (v:Value) (h:Rel ω (.tup [x,y]) v):Rel ω (.tup [.int .i64 a,.int .i64 c]) v:=by
 cases h with
 | tup _ vs hn hh=>
  refine .tup _ vs hn fun i s v e1 e2=>?_
  match i,e1 with
  | 0,e1=>cases e1;exact YS hx (hh 0 x v rfl e2)
  | 1,e1=>cases e1;exact YS hy (hh 1 y v rfl e2)
def Qg1:SV->Option (List (List SelD))
 | .sl (.selss l)=>some l
 | .nilsl=>some []
 | _=>none
theorem Qiv {s:SV} {l:List (List SelD)} (h:Qg1 s=some l) (ω:Wit) (v:Value) (hr:Rel ω s v):Rel ω (.sl (.selss l)) v:=by
 unfold Qg1 at h
 split at h
 cases h;exact hr
 cases h;rw[hr.nilsl_inv];exact .slz _ _ _ rfl
 cases h
theorem Wk.L.ren {W:Wk} {K:Out->Option SB->Prop} {id:Nat} {S S':SS} (π:List Nat) (e1:Qdz S'.env S.env=S'.env.map (fun x=>x.map (QiP π)))
 (e2:S'.heap.map (fun p=>hlk S.heap (pim π p.1))=S'.heap.map (fun p=>some p.2)) (e3:okB π S'=true) (h:W.L K id S'):W.L K id S:=Wk.L.le (V9.ren π e1 e2 e3) h
theorem Wk.C.ren {W:Wk} {K:Out->Option SB->Prop} {id:Nat} {S S':SS} (π:List Nat) (e1:Qdz S'.env S.env=S'.env.map (fun x=>x.map (QiP π)))
 (e2:S'.heap.map (fun p=>hlk S.heap (pim π p.1))=S'.heap.map (fun p=>some p.2)) (e3:okB π S'=true) (h:W.C K id S'):W.C K id S:=Wk.C.le (V9.ren π e1 e2 e3) h
theorem Wk.L.rn {W:Wk} {K:Out->Option SB->Prop} {id:Nat} {S S':SS} (π:List Nat) (h:W.L K id S') (e1:Qdz S'.env S.env=S'.env.map (fun x=>x.map (QiP π)):=by kernel_rfl) (e2:S'.heap.map (fun p=>hlk S.heap (pim π p.1))=S'.heap.map (fun p=>some p.2):=by kernel_rfl) (e3:okB π S'=true:=by kernel_rfl):W.L K id S:=Wk.L.ren π e1 e2 e3 h
theorem Wk.C.rn {W:Wk} {K:Out->Option SB->Prop} {id:Nat} {S S':SS} (π:List Nat) (h:W.C K id S') (e1:Qdz S'.env S.env=S'.env.map (fun x=>x.map (QiP π)):=by kernel_rfl) (e2:S'.heap.map (fun p=>hlk S.heap (pim π p.1))=S'.heap.map (fun p=>some p.2):=by kernel_rfl) (e3:okB π S'=true:=by kernel_rfl):W.C K id S:=Wk.C.ren π e1 e2 e3 h
end
section
open Go Go.RowKit
set_option maxRecDepth 20000
def c142 (svs:List SV) (b:Option SB):QR:=match svs,b with
 | [.byt c],none=>some ([],.bool (QK c.toNat))
 | _,_=>none
noncomputable def W142:Wk:=⟨[],Qe Tryz.f142,false,false,[.tmp 2],[4],[],[]⟩
theorem QwS:Has 142:=hsf Tryz.f142
theorem Qva:Sat 142 (Qz c142):=by
 refine W142.sat Qa.nil (fn:=Tryz.f142) (by kernel_rfl) (by kernel_rfl) (by kernel_rfl) (by decide) fun svs b K hP=>?_
 obtain⟨ps,v,e,hp,hk⟩:=Qh hP
 unfold c142 at e
 split at e
 rename_i c
 cases e
 clear hp
 refine W142.en (K (.val (.bool (((((decide (97<=c.toNat))&&(decide (c.toNat<=122)))||((decide (65<=c.toNat))&&(decide (c.toNat<=90))))||(decide (c.toNat=95)))||(decide (127<c.toNat))))) none) ?_
 exact keq hk (by simp[QK]) rfl
 cases e
def c144 (svs:List SV) (b:Option SB):QR:=match svs,b with
 | [.byt c],none=>some ([],.bool (Qr c.toNat))
 | _,_=>none
noncomputable def W144:Wk:=⟨[],Qe Tryz.f144,false,false,[.tmp 2],[4],[],[]⟩
theorem QwQ:Has 144:=hsf Tryz.f144
theorem Qu8:Sat 144 (Qz c144):=by
 refine W144.sat Qa.nil (fn:=Tryz.f144) (by kernel_rfl) (by kernel_rfl) (by kernel_rfl) (by decide) fun svs b K hP=>?_
 obtain⟨ps,v,e,hp,hk⟩:=Qh hP
 unfold c144 at e
 split at e
 rename_i c
 cases e
 clear hp
 refine W144.en (K (.val (.bool (((((((decide (97<=c.toNat))&&(decide (c.toNat<=122)))||((decide (65<=c.toNat))&&(decide (c.toNat<=90))))||(decide (c.toNat=95)))||(decide (127<c.toNat)))||(decide (c.toNat=45)))||((decide (48<=c.toNat))&&(decide (c.toNat<=57)))))) none) ?_
 exact keq hk (by simp[Qr,QK]) rfl
 cases e
def c151 (svs:List SV) (b:Option SB):QR:=match svs,b with
 | [.byt c],none=>some ([],.bool (QI c.toNat))
 | _,_=>none
noncomputable def W151:Wk:=⟨[],Qe Tryz.f151,false,false,[.tmp 2],[4],[],[]⟩
theorem QwM:Has 151:=hsf Tryz.f151
theorem Qu4:Sat 151 (Qz c151):=by
 refine W151.sat Qa.nil (fn:=Tryz.f151) (by kernel_rfl) (by kernel_rfl) (by kernel_rfl) (by decide) fun svs b K hP=>?_
 obtain⟨ps,v,e,hp,hk⟩:=Qh hP
 unfold c151 at e
 split at e
 rename_i c
 cases e
 clear hp
 refine W151.en (K (.val (.bool ((((decide (48<=c.toNat))&&(decide (c.toNat<=57)))||((decide (97<=c.toNat))&&(decide (c.toNat<=102))))||((decide (65<=c.toNat))&&(decide (c.toNat<=70)))))) none) ?_
 exact keq hk (by simp[QI]) rfl
 cases e
def c93 (svs:List SV) (b:Option SB):QR:=match svs,b with
 | [.byt c],none=>some ([],.bool (VO c.toNat))
 | _,_=>none
noncomputable def W93:Wk:=⟨[],Qe Tryz.f93,false,false,[.tmp 2],[4],[],[]⟩
theorem Qt7:Has 93:=hsf Tryz.f93
theorem QtI:Sat 93 (Qz c93):=by
 refine W93.sat Qa.nil (fn:=Tryz.f93) (by kernel_rfl) (by kernel_rfl) (by kernel_rfl) (by decide) fun svs b K hP=>?_
 obtain⟨ps,v,e,hp,hk⟩:=Qh hP
 unfold c93 at e
 split at e
 rename_i c
 cases e
 clear hp
 refine W93.en (K (.val (.bool (((((decide (c.toNat=32))||(decide (c.toNat=9)))||(decide (c.toNat=10)))||(decide (c.toNat=13)))||(decide (c.toNat=12))))) none) ?_
 exact keq hk (by unfold VO;simp only[zY,Bool.or_comm,Bool.or_left_comm]) rfl
 cases e
def c104 (svs:List SV) (b:Option SB):QR:=match svs,b with
 | [.byt c],none=>some ([],.bool (QK c.toNat))
 | _,_=>none
noncomputable def W104:Wk:=⟨[],Qe Tryz.f104,false,false,[.tmp 2],[4],[],[]⟩
theorem QqO:Has 104:=hsf Tryz.f104
theorem Qpo:Sat 104 (Qz c104):=by
 refine W104.sat Qa.nil (fn:=Tryz.f104) (by kernel_rfl) (by kernel_rfl) (by kernel_rfl) (by decide) fun svs b K hP=>?_
 obtain⟨ps,v,e,hp,hk⟩:=Qh hP
 unfold c104 at e
 split at e
 rename_i c
 cases e
 clear hp
 refine W104.en (K (.val (.bool (((((decide (97<=c.toNat))&&(decide (c.toNat<=122)))||((decide (65<=c.toNat))&&(decide (c.toNat<=90))))||(decide (c.toNat=95)))||(decide (128<=c.toNat))))) none) ?_
 exact keq hk (by unfold QK;congr 4) rfl
 cases e
def c89 (svs:List SV) (b:Option SB):QR:=match svs,b with
 | [.byt c],none=>some ([],.bool (Qr c.toNat))
 | _,_=>none
noncomputable def W89:Wk:=⟨[(104,.pure c104)],Qe Tryz.f89,false,false,[.tmp 2],[4],[],[]⟩
theorem QgB:Has 89:=hsf Tryz.f89
theorem Qf3:Sat 89 (Qz c89):=by
 refine W89.sat (Qa.cons QqO Qpo Qa.nil) (fn:=Tryz.f89) (by kernel_rfl) (by kernel_rfl) (by kernel_rfl) (by decide) fun svs b K hP=>?_
 obtain⟨ps,v,e,hp,hk⟩:=Qh hP
 unfold c89 at e
 split at e
 rename_i c
 cases e
 clear hp
 refine W89.en (K (.val (.bool (((QK c.toNat)||(decide (c.toNat=45)))||((decide (48<=c.toNat))&&(decide (c.toNat<=57)))))) none) ?_
 exact keq hk (by simp[Qr]) rfl
 cases e
end
section
open Go Go.RowKit
set_option maxRecDepth 20000
def c71 (svs:List SV) (b:Option SB):QR:=match svs,b with
 | [.str _],none=>some ([],.ifx)
 | _,_=>none
noncomputable def W71:Wk:=⟨[],Qe Tryz.f71,false,false,[.tmp 2],[71],[],[]⟩
theorem ZY:Has 71:=hsf Tryz.f71
theorem ZU:Sat 71 (Qz c71):=by
 have hD:Qa W71.D:=Qa.nil
 refine W71.sat hD (fn:=Tryz.f71) (by kernel_rfl) (by kernel_rfl) (by kernel_rfl) (by decide) fun svs b K hP=>?_
 obtain⟨ps,v,e,hp,hk⟩:=Qh hP
 unfold c71 at e
 split at e
 rename_i l
 cases e
 refine W71.en (K (.val .ifx) none) ?_
 exact hk
 cases e
def c128 (svs:List SV) (b:Option SB):QR:=match svs,b with
 | [.str s,.str p],none=>some ([],.bool (decide (p.length<=s.length)&&decide (s.take p.length=p)))
 | _,_=>none
noncomputable def W128:Wk:=⟨[],Qe Tryz.f128,false,false,[.tmp 4],[4],[],[]⟩
theorem Qw2:Has 128:=hsf Tryz.f128
theorem kbz0 {c0 p0 q:Prop} (k:q) (h:c0->p0/\True:=by intro g0;(try simp at g0);exact⟨(by first | omega | (simp;done) | (simp;omega) | (simp;assumption)),trivial⟩):(c0->p0/\True)/\q:=⟨h,k⟩
theorem Qvk:Sat 128 (Qz c128):=by
 have hD:Qa W128.D:=Qa.nil
 refine W128.sat hD (fn:=Tryz.f128) (by kernel_rfl) (by kernel_rfl) (by kernel_rfl) (by decide) fun svs b K hP=>?_
 obtain⟨ps,v,e,hp,hk⟩:=Qh hP
 unfold c128 at e
 split at e
 rename_i s p
 cases e
 refine W128.en (((decide (p.length<=s.length))=true->(p.length<=s.length)/\True)/\K (.val (.bool ((decide (p.length<=s.length))&&(decide (s.take p.length=p))))) none) ?_
 refine kbz0 ?_
 exact hk
 cases e
def c113 (svs:List SV) (b:Option SB):QR:=match svs,b with
 | [.str s,.str p],none=>some ([],.bool (decide (p.length<=s.length)&&decide (s.take p.length=p)))
 | _,_=>none
noncomputable def W113:Wk:=⟨[(128,.pure c128)],Qe Tryz.f113,false,false,[.tmp 4],[4],[],[]⟩
theorem Qxd:Has 113:=hsf Tryz.f113
theorem Qvv:Sat 113 (Qz c113):=by
 have hD:Qa W113.D:=(Qa.cons Qw2 Qvk Qa.nil)
 refine W113.sat hD (fn:=Tryz.f113) (by kernel_rfl) (by kernel_rfl) (by kernel_rfl) (by decide) fun svs b K hP=>?_
 obtain⟨ps,v,e,hp,hk⟩:=Qh hP
 unfold c113 at e
 split at e
 rename_i s p
 cases e
 refine W113.en (K (.val (.bool (decide (p.length<=s.length)&&decide (s.take p.length=p)))) none) ?_
 exact hk
 cases e
def U0 (s p:Bs) (i:Nat):Option Nat:=
 if i+p.length<=s.length then
  if (s.take (i+p.length)).drop i=p then some i else U0 s p (i+1)
 else none
 termination_by s.length+1-i
def c114:Spec:=fun svs b K=>match svs,b with
 | [.str s,.str p],none=>(s.length<=1000000/\p.length<=1000000)/\Qt (U0 s p 0) (fun j=>j+p.length<=s.length->K (.val (.nat j)) none) (K (.val (.int .i64 (-1))) none)
 | _,_=>False
noncomputable def Qls:Wk:=⟨[],Qe Tryz.f114,false,false,[.tmp 4],[3],[(2,35)],[]⟩
theorem Qxc:Has 114:=hsf Tryz.f114
theorem kbz1 {p q:Prop} (k:q) (h:p:=by first | omega | (simp;done) | (simp;omega) | (simp;assumption)):p/\q:=⟨h,k⟩
theorem Qvu:Sat 114 c114:=by
 have hD:Qa Qls.D:=Qa.nil
 refine Qls.sat hD (fn:=Tryz.f114) (by kernel_rfl) (by kernel_rfl) (by kernel_rfl) (by decide) fun svs b K hP=>?_
 unfold c114 at hP
 split at hP
 rename_i s p
 obtain⟨⟨h01,h02⟩,hk⟩:=hP
 have L2:∀(mm:Nat) (i:Nat),s.length+1-i=mm->i<=s.length+1/\U0 s p i=U0 s p 0->Qls.L K 2 (mkS 25 [(0,(.str s)),(1,(.str p)),(5,(.nat i))] [] 1):=by
  intro mm
  induction mm using zl with
  | _ mm ih=>
   intro i hm hI
   refine Qls.aL hD ((i+p.length<=9223372036854775807)/\cond (decide (i+p.length<=s.length)) ((i+p.length<=9223372036854775807)/\(i<=i+p.length/\i+p.length<=s.length)/\cond (decide ((s.take (i+p.length)).drop i=p)) (K (.val (.nat i)) none) ((i+1<=9223372036854775807)/\(Qls).L K 2 (mkS 25 [(0,(.str s)),(1,(.str p)),(5,(.nat (i+1)))] [] 1))) (K (.val (.int .i64 (-1))) none)) ?_
   refine kbz1 ?_
   refine Qb ?_ ?_<;>intro h1<;>try simp[-zd]at h1
   refine kbz1 (kbz1 ?_)
   refine Qb ?_ ?_<;>intro h2<;>try simp[-zd]at h2
   rw[<-hI.2]at hk;unfold U0 at hk;rw[if_pos (by omega),if_pos (by assumption)]at hk;exact hk (by omega)
   refine kbz1 ?_
   refine ih _ (by omega) _ rfl ⟨by omega,?_⟩
   rw[<-hI.2]
   conv=>rhs;unfold U0
   rw[if_pos (by omega),if_neg (by assumption)]
   rw[<-hI.2]at hk;unfold U0 at hk;rw[if_neg (by omega)]at hk;exact hk
 refine Qls.en ((Qls).L K 2 (mkS 25 [(0,(.str s)),(1,(.str p)),(5,(.nat 0))] [] 1)) ?_
 exact L2 _ _ rfl ⟨by omega,rfl⟩
 exact hP.elim
theorem Ui (s:Bs) (i:Nat) (a b:UInt8) (h:i+2<=s.length):(s.drop i).take 2=[a,b] ↔ bat s i=a.toNat/\bat s (i+1)=b.toNat:=by
 have h1:s.drop i=s[i]::s[i+1]::s.drop (i+2):=by
  rw[zI (by omega),zI (by omega)]
 rw[h1]
 simp only[List.take_succ_cons,List.take_zero,List.cons.injEq,and_true]
 unfold bat
 simp only[zd,zg (show i<s.length from by omega),zg (show i+1<s.length from by omega),Option.getD_some]
 constructor
 rintro⟨rfl,rfl⟩;exact⟨rfl,rfl⟩
 rintro⟨h1,h2⟩;exact⟨UInt8.toNat_inj.1 h1,UInt8.toNat_inj.1 h2⟩
theorem Qjx (s:Bs) (k:Nat):∀i,k+i<=s.length->U0 (s.drop k) [42,47] i=(V4 s (k+i)).map fun j=>j-2-k:=by
 intro i
 fun_induction U0 (s.drop k) [42,47] i with
 | case1 i h1 h2=>
  intro hi
  simp only[zR,zj,zo]at h1
  have h3:(s.drop (k+i)).take 2=[42,47]:=by
   rw[<-h2]
   simp only[zj,zo,List.drop_take,List.drop_drop]
   congr 1
   omega
  have h4:=(Ui s (k+i) 42 47 (by omega)).1 h3
  unfold V4
  rw[if_pos (by omega),if_pos (by exact h4)]
  simp only[zK]
  congr 1
  omega
 | case2 i h1 h2 ih=>
  intro hi
  simp only[zR,zj,zo]at h1
  have h3:¬(bat s (k+i)=42/\bat s (k+i+1)=47):=by
   intro h4
   apply h2
   have h5:=(Ui s (k+i) 42 47 (by omega)).2 h4
   simp only[zj,zo,List.drop_take,List.drop_drop]
   rw[show i+(0+1+1)-i=2 from by omega]
   exact h5
  rw[ih (by omega)]
  conv=>rhs;unfold V4
  rw[if_pos (by omega),if_neg h3]
  rfl
 | case3 i h1=>
  intro hi
  simp only[zR,zj,zo]at h1
  unfold V4
  rw[if_neg (by omega)]
  rfl
theorem QeX {s:Bs} {i:Nat} (h:i<s.length) (hw:VO (bat s i)=true):iWs s i=iWs s (i+1):=by
 conv=>lhs;unfold iWs
 rw[if_pos h,if_pos hw]
theorem Qwn {s:Bs} {i j:Nat} (h:i+2<=s.length/\bat s i=47/\bat s (i+1)=42) (hc:V4 s (i+2)=some j):iWs s i=iWs s j:=by
 conv=>lhs;unfold iWs
 rw[if_pos (by omega),if_neg (by rw[h.2.1];decide),if_pos h]
 split
 rename_i e;rw[hc]at e;cases e;rfl
 rename_i e;rw[hc]at e;cases e
theorem Qan {s:Bs} {i:Nat} (h:i<s.length->VO (bat s i)=false/\((i+2<=s.length/\bat s i=47/\bat s (i+1)=42)->V4 s (i+2)=none)):iWs s i=i:=by
 unfold iWs
 split
 rename_i h1
 obtain⟨h2,h3⟩:=h h1
 rw[if_neg (by rw[h2];simp)]
 split
 rename_i h4
 split
 rename_i e;rw[h3 h4]at e;cases e
 rfl
 rfl
 rfl
theorem Qtc {s:Bs} {j y:Nat} (h:U0 (s.drop (j+2)) [42,47] 0=some y) (hl:j+2<=s.length):V4 s (j+2)=some (j+(y+4))/\j+(y+4)<=s.length:=by
 have h1:=Qjx s (j+2) 0 (by omega)
 rw[h]at h1
 cases hc:V4 s (j+2) with
 | none=>rw[show j+2+0=j+2 from rfl,hc]at h1;cases h1
 | some e=>
  rw[show j+2+0=j+2 from rfl,hc]at h1
  simp only[zK,Option.some.injEq]at h1
  have:=YQ _ _ hc
  exact⟨by congr 1;omega,by omega⟩
theorem J7 {s:Bs} {j:Nat} (h:U0 (s.drop (j+2)) [42,47] 0=none) (hl:j+2<=s.length):V4 s (j+2)=none:=by
 have h1:=Qjx s (j+2) 0 (by omega)
 rw[h]at h1
 simpa using h1.symm
def c99 (svs:List SV) (b:Option SB):FR:=match svs,b with
 | [.ptr 0 0],some (.blk 94 [.str s,.nat i,.nat d,.bool a])=>
  some ([s.length<=1000000,i<=s.length],.val (.bool (decide (i<iWs s i))),some (.blk 94 [.str s,.nat (iWs s i),.nat d,.bool a]))
 | _,_=>none
noncomputable def W99:Wk:=⟨[(113,.pure c113),(114,.plain c114)],Qe Tryz.f99,true,false,[.tmp 2],[4],[(2,9)],[]⟩
theorem QgA:Has 99:=hsf Tryz.f99
theorem QdA {p q:Prop} (k:q) (h:p:=by first | omega | (simp;omega)):p/\q:=⟨h,k⟩
theorem Qf2:Sat 99 (fnS c99):=by
 have hD:Qa W99.D:=(Qa.cons Qxd Qvv (Qa.cons Qxc Qvu Qa.nil))
 refine W99.sat hD (fn:=Tryz.f99) (by kernel_rfl) (by kernel_rfl) (by kernel_rfl) (by decide) fun svs b K hP=>?_
 obtain⟨ps,o,b',e,hp,hk⟩:=Vy hP
 unfold c99 at e
 split at e
 rename_i s i d a
 cases e
 obtain⟨h01,h02,_⟩:=hp
 have L2:∀(mm:Nat) (j:Nat),s.length-j=mm->i<=j/\j<=s.length/\iWs s j=iWs s i->W99.L K 2 (mkS 63 [(0,(.ptr 0 0)),(3,(.nat j))] [(0,.blk 94 [(.str s),(.nat i),(.nat d),(.bool a)])] 1):=by
  intro mm
  induction mm using zl with
  | _ mm ih=>
   intro j hm hI
   refine W99.aL hD (have a0:=mkS 63 [(0,(.ptr 0 0)),(3,(.nat (j+1)))] [(0,.blk 94 [(.str s),(.nat i),(.nat d),(.bool a)])] 1;have a1:Option SB:=some (.blk 94 [(.str s),(.nat j),(.nat d),(.bool a)]);have a2:Option SB:=some (.blk 94 [(.str s),(.nat i),(.nat d),(.bool a)]);have a3:=j+1<=9223372036854775807;have a4:Out:=.val (.bool false);have a5:Out:=.val (.bool true);have a6:=decide (i<j);cond (decide (j<s.length)) ((j<s.length)/\cond (decide (bat s j=32)) (a3/\(W99).L K 2 a0) (cond (decide (bat s j=9)) (a3/\(W99).L K 2 a0) (cond (decide (bat s j=13)) (a3/\(W99).L K 2 a0) (cond (decide (bat s j=10)) (a3/\(W99).L K 2 a0) (cond (decide (bat s j=12)) (a3/\(W99).L K 2 a0) (cond (decide (bat s j=47)) ((j<=s.length)/\cond (decide (2<=(s.drop j).length)&&decide ((s.drop j).take 2=[47,42])) ((j+2<=9223372036854775807)/\(j+2<=s.length)/\((s.drop (j+2)).length<=1000000/\2<=1000000)/\Qt (U0 (s.drop (j+2)) [42,47] 0) (fun j1=>(j1+2<=(s.drop (j+2)).length)->cond (!(decide (((j1:Nat):Int)=(-1)))) ((j1+4<=9223372036854775807)/\(j+(j1+4)<=9223372036854775807)/\(W99).L K 2 (mkS 63 [(0,(.ptr 0 0)),(3,(.nat (j+(j1+4))))] [(0,.blk 94 [(.str s),(.nat i),(.nat d),(.bool a)])] 1)) (cond a6 (K a5 a1) (K a4 a2))) (cond a6 (K a5 a1) (K a4 a2))) (cond a6 (K a5 a1) (K a4 a2))) (cond a6 (K a5 a1) (K a4 a2)))))))) (cond a6 (K a5 a1) (K a4 a2))) ?_
   refine Qb ?_ ?_<;>intro h1<;>try simp[-zd]at h1
   refine QdA ?_
   refine Qb ?_ ?_<;>intro h2<;>try simp[-zd]at h2
   refine QdA ?_
   refine ih _ (by omega) _ rfl ⟨by omega,by omega,?_⟩
   exact (QeX (by omega) (by simp[VO, *])).symm.trans hI.2.2
   refine Qb (fun h3=>?_) (fun h3=>?_)
   try simp[-zd]at h3
   refine QdA ?_
   refine ih _ (by omega) _ rfl ⟨by omega,by omega,?_⟩
   exact (QeX (by omega) (by simp[VO, *])).symm.trans hI.2.2
   try simp[-zd]at h3
   refine Qb ?_ ?_<;>intro h4<;>try simp[-zd]at h4
   refine QdA ?_
   refine ih _ (by omega) _ rfl ⟨by omega,by omega,?_⟩
   exact (QeX (by omega) (by simp[VO, *])).symm.trans hI.2.2
   refine Qb (fun h5=>?_) (fun h5=>?_)
   try simp[-zd]at h5
   refine QdA ?_
   refine ih _ (by omega) _ rfl ⟨by omega,by omega,?_⟩
   exact (QeX (by omega) (by simp[VO, *])).symm.trans hI.2.2
   try simp[-zd]at h5
   refine Qb ?_ ?_<;>intro h6<;>try simp[-zd]at h6
   refine QdA ?_
   refine ih _ (by omega) _ rfl ⟨by omega,by omega,?_⟩
   exact (QeX (by omega) (by simp[VO, *])).symm.trans hI.2.2
   refine Qb (fun h7=>?_) (fun h7=>?_)
   try simp[-zd]at h7
   refine QdA ?_
   refine Qb ?_ ?_<;>intro h8<;>try simp[-zd]at h8
   refine QdA (QdA (QdA ?_))
   refine QJ (fun j1 h9=>?_) (fun h9=>?_)
   intro h10
   try simp[-zd]at h10
   refine Qb (fun h11=>?_) (fun h11=>?_)
   try simp[-zd]at h11
   refine QdA (QdA ?_)
   obtain⟨q1,q2⟩:=Qtc (by assumption) (by omega)
   refine ih _ (by omega) _ rfl ⟨by omega,by omega,?_⟩
   exact (Qwn (by have q:=(Ui s j 47 42 (by omega)).1 h8.2;exact⟨by omega,q.1,q.2⟩) q1).symm.trans hI.2.2
   try simp[-zd]at h11
   refine Qb ?_ ?_<;>intro h10<;>try simp[-zd]at h10
   . have e:iWs s j=j:=Qan fun q0=>by
      first
      | (exfalso;omega)
      | exact⟨by simp[VO, *],fun q=>by
       have q2:=(Ui s j 47 42 q.1).2 ⟨q.2.1,q.2.2⟩
       first | exact J7 (by assumption) (by omega) | (exfalso;simp_all;omega) | simp_all⟩
     rw[<-hI.2.2,e]at hk
     exact keq hk (by simp;omega) (by first | rfl | rw[show j=i from by omega])
   have e:iWs s j=j:=Qan fun q0=>by
    first
    | (exfalso;omega)
    | exact⟨by simp[VO, *],fun q=>by
     have q2:=(Ui s j 47 42 q.1).2 ⟨q.2.1,q.2.2⟩
     first | exact J7 (by assumption) (by omega) | (exfalso;simp_all;omega) | simp_all⟩
   rw[<-hI.2.2,e]at hk
   exact keq hk (by simp;omega) (by first | rfl | rw[show j=i from by omega])
   refine Qb (fun h9=>?_) (fun h9=>?_)
   try simp[-zd]at h9
   have e:iWs s j=j:=Qan fun q0=>by
    first
    | (exfalso;omega)
    | exact⟨by simp[VO, *],fun q=>by
     have q2:=(Ui s j 47 42 q.1).2 ⟨q.2.1,q.2.2⟩
     first | exact J7 (by assumption) (by omega) | (exfalso;simp_all;omega) | simp_all⟩
   rw[<-hI.2.2,e]at hk
   exact keq hk (by simp;omega) (by first | rfl | rw[show j=i from by omega])
   try simp[-zd]at h9
   have e:iWs s j=j:=Qan fun q0=>by
    first
    | (exfalso;omega)
    | exact⟨by simp[VO, *],fun q=>by
     have q2:=(Ui s j 47 42 q.1).2 ⟨q.2.1,q.2.2⟩
     first | exact J7 (by assumption) (by omega) | (exfalso;simp_all;omega) | simp_all⟩
   rw[<-hI.2.2,e]at hk
   exact keq hk (by simp;omega) (by first | rfl | rw[show j=i from by omega])
   try simp[-zd]at h7
   refine Qb ?_ ?_<;>intro h8<;>try simp[-zd]at h8
   . have e:iWs s j=j:=Qan fun q0=>by
      first
      | (exfalso;omega)
      | exact⟨by simp[VO, *],fun q=>by
       have q2:=(Ui s j 47 42 q.1).2 ⟨q.2.1,q.2.2⟩
       first | exact J7 (by assumption) (by omega) | (exfalso;simp_all;omega) | simp_all⟩
     rw[<-hI.2.2,e]at hk
     exact keq hk (by simp;omega) (by first | rfl | rw[show j=i from by omega])
   have e:iWs s j=j:=Qan fun q0=>by
    first
    | (exfalso;omega)
    | exact⟨by simp[VO, *],fun q=>by
     have q2:=(Ui s j 47 42 q.1).2 ⟨q.2.1,q.2.2⟩
     first | exact J7 (by assumption) (by omega) | (exfalso;simp_all;omega) | simp_all⟩
   rw[<-hI.2.2,e]at hk
   exact keq hk (by simp;omega) (by first | rfl | rw[show j=i from by omega])
   refine Qb (fun h2=>?_) (fun h2=>?_)
   try simp[-zd]at h2
   have e:iWs s j=j:=Qan fun q0=>by
    first
    | (exfalso;omega)
    | exact⟨by simp[VO, *],fun q=>by
     have q2:=(Ui s j 47 42 q.1).2 ⟨q.2.1,q.2.2⟩
     first | exact J7 (by assumption) (by omega) | (exfalso;simp_all;omega) | simp_all⟩
   rw[<-hI.2.2,e]at hk
   exact keq hk (by simp;omega) (by first | rfl | rw[show j=i from by omega])
   try simp[-zd]at h2
   have e:iWs s j=j:=Qan fun q0=>by
    first
    | (exfalso;omega)
    | exact⟨by simp[VO, *],fun q=>by
     have q2:=(Ui s j 47 42 q.1).2 ⟨q.2.1,q.2.2⟩
     first | exact J7 (by assumption) (by omega) | (exfalso;simp_all;omega) | simp_all⟩
   rw[<-hI.2.2,e]at hk
   exact keq hk (by simp;omega) (by first | rfl | rw[show j=i from by omega])
 refine W99.en ((W99).L K 2 (mkS 63 [(0,(.ptr 0 0)),(3,(.nat i))] [(0,.blk 94 [(.str s),(.nat i),(.nat d),(.bool a)])] 1)) ?_
 exact L2 _ _ rfl ⟨by omega,by omega,rfl⟩
 cases e
end
section
open Go Go.RowKit
set_option maxRecDepth 20000
def Q5 (s w:Bs) (p:Nat):Bool:=decide (p+w.length<=s.length)&&decide ((s.take (p+w.length)).drop p=w)
theorem QW {s:Bs} {p c:Nat} (h:bat s p=c) (hc:c≠0):p<s.length:=by
 by_cases hp:p<s.length
 exact hp
 exfalso
 apply hc
 rw[<-h]
 unfold bat
 simp[zd,List.getElem?_eq_none (show s.length<=p from by omega)]
theorem QtG (s:Bs) (p:Nat) (a:UInt8) (h:p+1<=s.length):(s.take (p+1)).drop p=[a] ↔ bat s p=a.toNat:=by
 have h1:(s.take (p+1)).drop p=[s[p]]:=by
  rw[List.drop_take,zI (by omega),show p+1-p=1 from by omega]
  rfl
 rw[h1]
 unfold bat
 simp only[zd,zg (show p<s.length from by omega),Option.getD_some,List.cons.injEq,and_true]
 exact⟨fun h=>by rw[h],fun h=>UInt8.toNat_inj.1 h⟩
theorem ZX (s:Bs) (p:Nat) (a:UInt8) (ha:a.toNat≠0):Q5 s [a] p=decide (bat s p=a.toNat):=by
 unfold Q5
 rw[zG]
 simp only[zk,decide_eq_true_eq,zF]
 constructor
 rintro⟨h1,h2⟩;exact (QtG s p a h1).1 h2
 intro h;have:=QW h ha;exact⟨by omega,(QtG s p a (by omega)).2 h⟩
theorem Qbe (s:Bs) (p:Nat) (a b:UInt8) (hb:b.toNat≠0):Q5 s [a,b] p=decide (bat s p=a.toNat/\bat s (p+1)=b.toNat):=by
 unfold Q5
 rw[zG]
 simp only[zk,decide_eq_true_eq,zj,zo]
 have e:(s.take (p+(0+1+1))).drop p=(s.drop p).take 2:=by rw[List.drop_take];congr 1;omega
 rw[e]
 constructor
 rintro⟨h1,h2⟩;exact (Ui s p a b (by omega)).1 h2
 intro h;have:=QW h.2 hb;exact⟨by omega,(Ui s p a b (by omega)).2 h⟩
def c66 (svs:List SV) (b:Option SB):QR:=match svs,b with
 | [.ptr 0 0],some (.blk 46 [.str s,.nat p,.bool bad,.bool un,.bool ps])=>some ([s.length<=1000000,p<=s.length+1],.byt (s.getD p 0))
 | _,_=>none
noncomputable def W66:Wk:=⟨[],Qe Tryz.f66,true,false,[.tmp 2],[5],[],[]⟩
theorem JO:Has 66:=hsf Tryz.f66
theorem U4 {p q:Prop} (k:q) (h:p:=by first | omega | (simp;done) | (simp;omega) | (simp;assumption)):p/\q:=⟨h,k⟩
theorem JJ:Sat 66 (Qz c66):=by
 have hD:Qa W66.D:=Qa.nil
 refine W66.sat hD (fn:=Tryz.f66) (by kernel_rfl) (by kernel_rfl) (by kernel_rfl) (by decide) fun svs b K hP=>?_
 obtain⟨ps,v,e,hp,hk⟩:=Qh hP
 unfold c66 at e
 split at e
 rename_i s p bad un ps
 cases e
 obtain⟨h01,h02,_⟩:=hp
 refine W66.en (have a0:Option SB:=some (.blk 46 [(.str s),(.nat p),(.bool bad),(.bool un),(.bool ps)]);cond (decide (s.length<=p)) (K (.val (.byt 0)) a0) ((p<s.length)/\K (.val (.byt (s.getD p 0))) a0)) ?_
 refine Qb ?_ ?_<;>intro h1<;>try simp[-zd]at h1
 exact keq hk (by simp[zd,List.getElem?_eq_none (show s.length<=p from by omega)]) rfl
 refine U4 ?_
 exact hk
 cases e
def c69 (svs:List SV) (b:Option SB):QR:=match svs,b with
 | [.ptr 0 0,.str w],some (.blk 46 [.str s,.nat p,.bool bad,.bool un,.bool ps])=>some ([s.length<=1000000,p<=s.length+1,w.length<=1000],.bool (Q5 s w p))
 | _,_=>none
noncomputable def W69:Wk:=⟨[],Qe Tryz.f69,true,false,[.tmp 4],[4],[],[]⟩
theorem QqF:Has 69:=hsf Tryz.f69
theorem kcz4 {c0 p0 p1 q:Prop} (k:q) (h:c0->p0/\p1/\True:=by intro g0;(try simp at g0);exact⟨(by first | omega | (simp;done) | (simp;omega) | (simp;assumption)),(by first | omega | (simp;done) | (simp;omega) | (simp;assumption)),trivial⟩):(c0->p0/\p1/\True)/\q:=⟨h,k⟩
theorem kcz3 {c0 p0 p1 p2 p3 q:Prop} (k:q) (h:c0->p0/\p1/\p2/\p3/\True:=by intro g0;(try simp at g0);exact⟨(by first | omega | (simp;done) | (simp;omega) | (simp;assumption)),(by first | omega | (simp;done) | (simp;omega) | (simp;assumption)),(by first | omega | (simp;done) | (simp;omega) | (simp;assumption)),(by first | omega | (simp;done) | (simp;omega) | (simp;assumption)),trivial⟩):(c0->p0/\p1/\p2/\p3/\True)/\q:=⟨h,k⟩
theorem kcz2 {c0 p0 p1 p2 q:Prop} (k:q) (h:c0->p0/\p1/\p2/\True:=by intro g0;(try simp at g0);exact⟨(by first | omega | (simp;done) | (simp;omega) | (simp;assumption)),(by first | omega | (simp;done) | (simp;omega) | (simp;assumption)),(by first | omega | (simp;done) | (simp;omega) | (simp;assumption)),trivial⟩):(c0->p0/\p1/\p2/\True)/\q:=⟨h,k⟩
theorem Je {c0 p0 q:Prop} (k:q) (h:c0->p0/\True:=by intro g0;(try simp at g0);exact⟨(by first | omega | (simp;done) | (simp;omega) | (simp;assumption)),trivial⟩):(c0->p0/\True)/\q:=⟨h,k⟩
theorem Qpb:Sat 69 (Qz c69):=by
 have hD:Qa W69.D:=Qa.nil
 refine W69.sat hD (fn:=Tryz.f69) (by kernel_rfl) (by kernel_rfl) (by kernel_rfl) (by decide) fun svs b K hP=>?_
 obtain⟨ps,v,e,hp,hk⟩:=Qh hP
 unfold c69 at e
 split at e
 rename_i w s p bad un ps
 cases e
 obtain⟨h01,h02,h03,_⟩:=hp
 refine W69.en (have a0:=decide (p+w.length<=s.length);have a2:=(a0==true)=true;have a1:=a0=true->a2/\True;(p+w.length<=9223372036854775807)/\a1/\a1/\a1/\a1/\a1/\a1/\a1/\a1/\a1/\a1/\(a0=true->a2/\a2/\(p+w.length<=9223372036854775807)/\True)/\(a0=true->a2/\a2/\a2/\(p<=p+w.length/\p+w.length<=s.length)/\True)/\(a0=true->a2/\a2/\True)/\(a0=true->(a0==true)=true)/\K (.val (.bool (a0&&(decide ((s.take (p+w.length)).drop p=w))))) (some (.blk 46 [(.str s),(.nat p),(.bool bad),(.bool un),(.bool ps)]))) ?_
 refine U4 (Je (Je (Je (Je (Je (Je (Je (Je (Je (Je (kcz2 (kcz3 (kcz4 (U4 ?_))))))))))))))
 exact hk
 cases e
def c43:Spec:=fun svs b K=>match svs,b with
 | [.ptr 0 0,.str w],some (.blk 46 [.str s,.nat p,.bool bad,.bool un,.bool ps])=>s.length<=1000000/\p<=s.length+1/\w.length<=1000 /\
  cond (Q5 s w p) (K (.val (.bool true)) (some (.blk 46 [.str s,.nat (p+w.length),.bool bad,.bool un,.bool ps]))) (K (.val (.bool false)) (some (.blk 46 [.str s,.nat p,.bool bad,.bool un,.bool ps])))
 | _,_=>False
noncomputable def W43:Wk:=⟨[(69,.pure c69)],Qe Tryz.f43,true,false,[.tmp 4],[4],[],[]⟩
theorem Qcl:Has 43:=hsf Tryz.f43
theorem kcz5 {p q:Prop} (k:q) (h:p:=by first | omega | (unfold Q5 at *;simp at *;omega)):p/\q:=⟨h,k⟩
theorem QbV:Sat 43 c43:=by
 have hD:Qa W43.D:=(Qa.cons QqF Qpb Qa.nil)
 refine W43.sat hD (fn:=Tryz.f43) (by kernel_rfl) (by kernel_rfl) (by kernel_rfl) (by decide) fun svs b K hP=>?_
 unfold c43 at hP
 split at hP
 rename_i w s p bad un ps
 obtain⟨h01,h02,h03,hk⟩:=hP
 refine W43.en ((s.length<=1000000)/\(p<=s.length+1)/\(w.length<=1000)/\cond (!(Q5 s w p)) (K (.val (.bool false)) (some (.blk 46 [(.str s),(.nat p),(.bool bad),(.bool un),(.bool ps)]))) ((p+w.length<=9223372036854775807)/\K (.val (.bool true)) (some (.blk 46 [(.str s),(.nat (p+w.length)),(.bool bad),(.bool un),(.bool ps)])))) ?_
 refine kcz5 (kcz5 (kcz5 ?_))
 refine Qb ?_ ?_<;>intro h1<;>try simp[-zd]at h1
 rw[h1]at hk;exact hk
 refine kcz5 ?_
 rw[h1]at hk;exact hk
 exact hP.elim
def c68 (svs:List SV) (b:Option SB):FR:=match svs,b with
 | [.ptr 0 0],some (.blk 46 [.str s,.nat p,.bool bad,.bool un,.bool ps])=>some ([],.row (.sels failL),some (.blk 46 [.str s,.nat p,.bool true,.bool un,.bool ps]))
 | _,_=>none
noncomputable def W68:Wk:=⟨[],Qe Tryz.f68,true,true,[.tmp 2],[22],[],[]⟩
theorem Qjv:Has 68:=hsf Tryz.f68
theorem QiG:Sat 68 (fnS c68):=by
 have hD:Qa W68.D:=Qa.nil
 refine W68.sat hD (fn:=Tryz.f68) (by kernel_rfl) (by kernel_rfl) (by kernel_rfl) (by decide) fun svs b K hP=>?_
 obtain⟨ps,o,b',e,hp,hk⟩:=Vy hP
 unfold c68 at e
 split at e
 rename_i s p bad un ps
 cases e
 refine W68.en (K (.row (.sels [SelD.mk (1:Int) (0:Int) [] [] (0:Int) (0:Int) (0:Int) (1:Int)])) (some (.blk 46 [(.str s),(.nat p),(.bool true),(.bool un),(.bool ps)]))) ?_
 exact hk
 cases e
def c94:Spec:=fun svs b K=>match svs,b with
 | [.ptr 0 0],some (.blk 46 [.str s,.nat p,.bool bad,.bool un,.bool ps])=>s.length<=1000000/\p<=s.length+1 /\
  Qt (V4 s (p+2)) (fun j=>p<j/\j<=s.length->K (.val (.tup [])) (some (.blk 46 [.str s,.nat j,.bool bad,.bool un,.bool ps])))
   (K (.val (.tup [])) (some (.blk 46 [.str s,.nat p,.bool true,.bool true,.bool ps])))
 | _,_=>False
noncomputable def W94:Wk:=⟨[],Qe Tryz.f94,true,false,[],[],[(1,5)],[]⟩
theorem has94:Has 94:=hsf Tryz.f94
theorem sat94:Sat 94 c94:=by
 have hD:Qa W94.D:=Qa.nil
 refine W94.sat hD (fn:=Tryz.f94) (by kernel_rfl) (by kernel_rfl) (by kernel_rfl) (by decide) fun svs b K hP=>?_
 unfold c94 at hP
 split at hP
 rename_i s p bad un ps
 obtain⟨h01,h02,hk⟩:=hP
 have L1:∀(mm:Nat) (i:Nat),s.length+4-i=mm->p+2<=i/\i<=s.length+3/\V4 s i=V4 s (p+2)->W94.L K 1 (mkS 46 [(0,(.ptr 0 0)),(2,(.nat i))] [(0,.blk 46 [(.str s),(.nat p),(.bool bad),(.bool un),(.bool ps)])] 1):=by
  intro mm
  induction mm using zl with
  | _ mm ih=>
   intro i hm hI
   refine W94.aL hD (have a0:=i+1<=9223372036854775807;a0/\cond (decide (i+1<s.length)) ((i<s.length)/\((decide (bat s i=42))=true->a0/\True)/\((decide (bat s i=42))=true->(i+1<s.length)/\True)/\cond ((decide (bat s i=42))&&(decide (bat s (i+1)=47))) ((i+2<=9223372036854775807)/\K (.val (.tup [])) (some (.blk 46 [(.str s),(.nat (i+2)),(.bool bad),(.bool un),(.bool ps)]))) (a0/\(W94).L K 1 (mkS 46 [(0,(.ptr 0 0)),(2,(.nat (i+1)))] [(0,.blk 46 [(.str s),(.nat p),(.bool bad),(.bool un),(.bool ps)])] 1))) (K (.val (.tup [])) (some (.blk 46 [(.str s),(.nat p),(.bool true),(.bool true),(.bool ps)])))) ?_
   refine U4 ?_
   refine Qb ?_ ?_<;>intro h1<;>try simp[-zd]at h1
   refine U4 (Je (Je ?_))
   refine Qb ?_ ?_<;>intro h2<;>try simp[-zd]at h2
   refine U4 ?_
   have e:V4 s i=some (i+2):=by unfold V4;rw[if_pos (by omega),if_pos (by omega)]
   rw[<-hI.2.2,e]at hk
   exact hk (by omega)
   refine U4 ?_
   refine ih _ (by omega) _ rfl ⟨by omega,by omega,?_⟩
   rw[<-hI.2.2]
   conv=>rhs;unfold V4
   rw[if_pos (by omega),if_neg (by omega)]
   have e:V4 s i=none:=by unfold V4;rw[if_neg (by omega)]
   rw[<-hI.2.2,e]at hk
   exact hk
 refine W94.en ((p+2<=9223372036854775807)/\(W94).L K 1 (mkS 46 [(0,(.ptr 0 0)),(2,(.nat (p+2)))] [(0,.blk 46 [(.str s),(.nat p),(.bool bad),(.bool un),(.bool ps)])] 1)) ?_
 refine U4 ?_
 exact L1 _ _ rfl ⟨by omega,by omega,rfl⟩
 exact hP.elim
def Qrg (svs:List SV) (b:Option SB):QR:=match svs,b with
 | [.ptr 0 0,.nat i],some (.blk 46 [.str s,.nat p,.bool bad,.bool un,.bool ps])=>some ([s.length<=1000000,i<=s.length+1],.bool (Jy s i))
 | _,_=>none
noncomputable def W107:Wk:=⟨[],Qe Tryz.f107,true,false,[.tmp 4],[4],[],[]⟩
theorem QkZ:Has 107:=hsf Tryz.f107
theorem Qka:Sat 107 (Qz Qrg):=by
 have hD:Qa W107.D:=Qa.nil
 refine W107.sat hD (fn:=Tryz.f107) (by kernel_rfl) (by kernel_rfl) (by kernel_rfl) (by decide) fun svs b K hP=>?_
 obtain⟨ps,v,e,hp,hk⟩:=Qh hP
 unfold Qrg at e
 split at e
 rename_i i s p bad un ps
 cases e
 obtain⟨h01,h02,_⟩:=hp
 refine W107.en (have a1:=i+1<=9223372036854775807;have a3:=(decide (i+1<s.length))&&(decide (bat s i=92));have a0:=a3&&(!(decide (bat s (i+1)=10)));have a2:=a0&&(!(decide (bat s (i+1)=13)));a1/\((decide (i+1<s.length))=true->(i<s.length)/\True)/\(a3=true->a1/\True)/\(a3=true->(i+1<s.length)/\True)/\(a0=true->a1/\True)/\(a0=true->(i+1<s.length)/\True)/\(a2=true->a1/\True)/\(a2=true->(i+1<s.length)/\True)/\K (.val (.bool (a2&&(!(decide (bat s (i+1)=12)))))) (some (.blk 46 [(.str s),(.nat p),(.bool bad),(.bool un),(.bool ps)]))) ?_
 refine U4 (Je (Je (Je (Je (Je (Je (Je ?_)))))))
 exact keq hk (by simp[Jy,YI];rw[zG];simp;omega) rfl
 cases e
theorem QvC {s:Bs} {t:RS} (h:t.bad=false/\t.p<s.length) (hw:VO (bat s t.p)=true):sSp s t=sSp s (t.go (t.p+1)):=by
 conv=>lhs;unfold sSp
 rw[if_pos h,if_pos hw]
theorem QvF {s:Bs} {t:RS} {j:Nat} (hb:t.bad=false) (h:t.p+2<=s.length/\bat s t.p=47/\bat s (t.p+1)=42) (hc:V4 s (t.p+2)=some j):sSp s t=sSp s (t.go j):=by
 conv=>lhs;unfold sSp
 rw[if_pos ⟨hb,by omega⟩,if_neg (by rw[h.2.1];decide),if_pos h]
 split
 rename_i e;rw[hc]at e;cases e;rfl
 rename_i e;rw[hc]at e;cases e
theorem QvE {s:Bs} {t:RS} (hb:t.bad=false) (h:t.p+2<=s.length/\bat s t.p=47/\bat s (t.p+1)=42) (hc:V4 s (t.p+2)=none):sSp s t=⟨t.p,true,true⟩:=by
 unfold sSp
 rw[if_pos ⟨hb,by omega⟩,if_neg (by rw[h.2.1];decide),if_pos h]
 split
 rename_i e;rw[hc]at e;cases e
 simp[RS.unI,RS.no]
theorem QlL {s:Bs} {t:RS} (h:t.bad=true\/s.length<=t.p):sSp s t=t:=by
 unfold sSp
 rw[if_neg]
 rintro⟨h1,h2⟩
 rcases h with h | h
 rw[h1]at h;cases h
 omega
theorem QvD {s:Bs} {t:RS} (hw:VO (bat s t.p)=false) (h:¬(bat s t.p=47/\bat s (t.p+1)=42)):sSp s t=t:=by
 unfold sSp
 split
 rw[if_neg (by rw[hw];simp),if_neg (fun h'=>h h'.2)]
 rfl
theorem QB (s:Bs) (t:RS) (h:t.p<=s.length+1):(sSp s t).p<=s.length+1:=by
 fun_induction sSp s t with
 | case1 t h1 h2 ih=>exact ih (by simp only[RS.go_p];omega)
 | case2 t h1 h2 h3 j hj ih=>exact ih (by have:=YQ _ _ hj;simp only[RS.go_p];omega)
 | case3 t h1 h2 h3 hj=>exact h
 | case4 t h1 h2 h3=>exact h
 | case5 t h1=>exact h
theorem QcF (s:Bs) (t:RS):t.p<=(sSp s t).p:=by
 fun_induction sSp s t with
 | case1 t h1 h2 ih=>simp only[RS.go_p]at ih;omega
 | case2 t h1 h2 h3 j hj ih=>have:=YQ _ _ hj;simp only[RS.go_p]at ih;omega
 | case3 t h1 h2 h3 hj=>exact zm _
 | case4 t h1 h2 h3=>exact zm _
 | case5 t h1=>exact zm _
def c64 (svs:List SV) (b:Option SB):FR:=match svs,b with
 | [.ptr 0 0],some (.blk 46 [.str s,.nat p,.bool bad,.bool un,.bool ps])=>some ([s.length<=1000000,p<=s.length+1],.val (.bool (decide (p<(sSp s ⟨p,bad,un⟩).p))),
  some (.blk 46 [.str s,.nat (sSp s ⟨p,bad,un⟩).p,.bool (sSp s ⟨p,bad,un⟩).bad,.bool (sSp s ⟨p,bad,un⟩).un,.bool ps]))
 | _,_=>none
noncomputable def W64:Wk:=⟨[(66,.pure c66),(69,.pure c69),(93,.pure c93),(94,.plain c94)],Qe Tryz.f64,true,false,[.tmp 2],[4],[(2,9)],[]⟩
theorem Qms:Has 64:=hsf Tryz.f64
theorem QlK:Sat 64 (fnS c64):=by
 have hD:Qa W64.D:=(Qa.cons JO JJ (Qa.cons QqF Qpb (Qa.cons Qt7 QtI (Qa.cons has94 sat94 Qa.nil))))
 refine W64.sat hD (fn:=Tryz.f64) (by kernel_rfl) (by kernel_rfl) (by kernel_rfl) (by decide) fun svs b K hP=>?_
 obtain⟨ps,o,b',e,hp,hk⟩:=Vy hP
 unfold c64 at e
 split at e
 rename_i s p bad un ps
 cases e
 obtain⟨h01,h02,_⟩:=hp
 have L2:∀(mm:Nat) (t:RS),s.length+2-t.p+(if t.bad=true then 0 else 1)=mm->p<=t.p/\t.p<=s.length+1/\sSp s t=sSp s ⟨p,bad,un⟩->W64.L K 2 (mkS 53 [(0,(.ptr 0 0)),(3,(.nat p))] [(0,.blk 46 [(.str s),(.nat t.p),(.bool t.bad),(.bool t.un),(.bool ps)])] 1):=by
  intro mm
  induction mm using zl with
  | _ mm ih=>
   intro t hm hI
   refine W64.aL hD (have a0:=(!t.bad)=true->(((!t.bad)==true)=true)/\True;have a1:Option SB:=some (.blk 46 [(.str s),(.nat t.p),(.bool t.bad),(.bool t.un),(.bool ps)]);a0/\a0/\a0/\a0/\a0/\a0/\a0/\((!t.bad)=true->(((!t.bad)==true)=true)/\(((!t.bad)==true)=true)/\True)/\((!t.bad)=true->((!t.bad)==true)=true)/\cond ((!t.bad)&&(decide (t.p<s.length))) ((s.length<=1000000)/\(t.p<=s.length+1)/\cond (VO (bat s t.p)) ((t.p+1<=9223372036854775807)/\(W64).L K 2 (mkS 53 [(0,(.ptr 0 0)),(3,(.nat p))] [(0,.blk 46 [(.str s),(.nat (t.p+1)),(.bool t.bad),(.bool t.un),(.bool ps)])] 1)) ((s.length<=1000000)/\(t.p<=s.length+1)/\(2<=1000)/\cond (Q5 s [47,42] t.p) ((s.length<=1000000)/\(t.p<=s.length+1)/\Qt (V4 s (t.p+2)) (fun j1=>(t.p<j1/\j1<=s.length)->(W64).L K 2 (mkS 53 [(0,(.ptr 0 0)),(3,(.nat p))] [(0,.blk 46 [(.str s),(.nat j1),(.bool t.bad),(.bool t.un),(.bool ps)])] 1)) ((W64).L K 2 (mkS 53 [(0,(.ptr 0 0)),(3,(.nat p))] [(0,.blk 46 [(.str s),(.nat t.p),(.bool true),(.bool true),(.bool ps)])] 1))) (K (.val (.bool (decide (p<t.p)))) a1))) (K (.val (.bool (decide (p<t.p)))) a1)) ?_
   refine Je (Je (Je (Je (Je (Je (Je (kcz4 (U4 ?_))))))))
   refine Qb ?_ ?_<;>intro h1<;>try simp[-zd]at h1
   refine U4 (U4 ?_)
   refine Qb ?_ ?_<;>intro h2<;>try simp[-zd]at h2
   refine U4 ?_
   refine ih _ (by rw[<-hm,RS.go_p,RS.go_bad];omega) (t.go (t.p+1)) rfl ⟨by rw[RS.go_p];omega,by rw[RS.go_p];omega,?_⟩
   exact (QvC (by simpa using h1) (by assumption)).symm.trans hI.2.2
   refine U4 (U4 (U4 ?_))
   refine Qb ?_ ?_<;>intro h3<;>try simp[-zd]at h3
   refine U4 (U4 ?_)
   refine QJ (fun j1 h4=>?_) (fun h4=>?_)
   intro h5
   try simp[-zd]at h5
   have q:=(Qbe s t.p 47 42 (by decide)).symm.trans h3
   simp at q
   refine ih _ (by rw[<-hm,RS.go_p,RS.go_bad];omega) (t.go j1) rfl ⟨by rw[RS.go_p];omega,by rw[RS.go_p];omega,?_⟩
   exact (QvF (by simp_all) ⟨by have:=QW q.2 (by decide);omega,q⟩ h4).symm.trans hI.2.2
   have q:=(Qbe s t.p 47 42 (by decide)).symm.trans h3
   simp at q
   have hb:t.bad=false:=by simp_all
   refine ih _ (by rw[<-hm,hb];simp) ⟨t.p,true,true⟩ rfl ⟨by simpa using hI.1,by simpa using hI.2.1,?_⟩
   rw[QlL (.inl rfl),<-hI.2.2]
   exact (QvE hb ⟨by have:=QW q.2 (by decide);omega,q⟩ h4).symm
   have q:=(Qbe s t.p 47 42 (by decide)).symm.trans h3
   simp at q
   have e:sSp s t=t:=QvD (by simpa using h2) (fun h=>q h.1 h.2)
   rw[e]at hI
   rw[<-hI.2.2]at hk
   exact hk
   have e:sSp s t=t:=QlL (by cases hb:t.bad<;>simp_all)
   rw[e]at hI
   rw[<-hI.2.2]at hk
   exact hk
 refine W64.en ((W64).L K 2 (mkS 53 [(0,(.ptr 0 0)),(3,(.nat p))] [(0,.blk 46 [(.str s),(.nat p),(.bool bad),(.bool un),(.bool ps)])] 1)) ?_
 exact L2 _ ⟨p,bad,un⟩ rfl ⟨by simp,by simpa using h02,rfl⟩
 cases e
end
section
open Go Go.RowKit
set_option maxRecDepth 20000
def c95 (svs:List SV) (b:Option SB):FR:=match svs,b with
 | [.ptr 0 0],some (.blk 46 [.str s,.nat p,.bool bad,.bool un,.bool ps])=>some ([s.length<=1000000,p<=s.length+1],.val (.bool (Vo s p)),some (.blk 46 [.str s,.nat p,.bool bad,.bool (un||VS s p),.bool ps]))
 | _,_=>none
noncomputable def W95:Wk:=⟨[(104,.pure c104),(107,.pure Qrg)],Qe Tryz.f95,true,false,[.tmp 2],[4],[],[]⟩
theorem Qmr:Has 95:=hsf Tryz.f95
theorem kdz2 {c0 p0 p1 q:Prop} (k:q) (h:c0->p0/\p1/\True:=by intro g0;(try simp at g0);exact⟨(by first | omega | (simp;done) | (simp;omega) | (simp;assumption)),(by first | omega | (simp;done) | (simp;omega) | (simp;assumption)),trivial⟩):(c0->p0/\p1/\True)/\q:=⟨h,k⟩
theorem Qa5 {p q:Prop} (k:q) (h:p:=by first | omega | (simp;done) | (simp;omega) | (simp;assumption)):p/\q:=⟨h,k⟩
theorem QhM {c0 p0 q:Prop} (k:q) (h:c0->p0/\True:=by intro g0;(try simp at g0);exact⟨(by first | omega | (simp;done) | (simp;omega) | (simp;assumption)),trivial⟩):(c0->p0/\True)/\q:=⟨h,k⟩
theorem QlJ:Sat 95 (fnS c95):=by
 have hD:Qa W95.D:=(Qa.cons QqO Qpo (Qa.cons QkZ Qka Qa.nil))
 refine W95.sat hD (fn:=Tryz.f95) (by kernel_rfl) (by kernel_rfl) (by kernel_rfl) (by decide) fun svs b K hP=>?_
 obtain⟨ps,o,b',e,hp,hk⟩:=Vy hP
 unfold c95 at e
 split at e
 rename_i s p bad un ps
 cases e
 obtain⟨h01,h02,_⟩:=hp
 refine W95.en (have a0:=decide (p+1<s.length);have a1:=(a0&&(QK (bat s (p+1))))=false->(s.length<=1000000)/\(p+1<=s.length+1)/\True;have a2:=decide (p<s.length);have a3:=a0=true->(p+1<s.length)/\True;have a4:Option SB:=some (.blk 46 [(.str s),(.nat p),(.bool bad),(.bool un),(.bool ps)]);have a5:Out:=.val (.bool ((a0&&(QK (bat s (p+1))))||(Jy s (p+1))));(a2=true->(p<s.length)/\True)/\cond (a2&&(decide (bat s p=45))) ((p+1<=9223372036854775807)/\a3/\cond (a0&&(decide (bat s (p+1)=45))) (a3/\a1/\K a5 (some (.blk 46 [(.str s),(.nat p),(.bool bad),(.bool true),(.bool ps)]))) (a3/\a1/\K a5 a4)) ((a2=true->(p<s.length)/\True)/\((a2&&(QK (bat s p)))=false->(s.length<=1000000)/\(p<=s.length+1)/\True)/\K (.val (.bool ((a2&&(QK (bat s p)))||(Jy s p)))) a4)) ?_
 refine QhM ?_
 refine Qb ?_ ?_<;>intro h1<;>try simp[-zd]at h1
 refine Qa5 (QhM ?_)
 refine Qb ?_ ?_<;>intro h2<;>try simp[-zd]at h2
 refine QhM (kdz2 ?_)
 exact keq hk (by simp only[Vo,Ud];simp_all) (by simp only[VS];simp_all)
 refine QhM (kdz2 ?_)
 exact keq hk (by simp only[Vo,Ud];simp_all) (by simp only[VS];simp_all)
 refine QhM (kdz2 ?_)
 have e:Ud s p=p:=by unfold Ud;rw[if_neg (fun q=>h1 q.1 q.2)]
 exact keq hk (by simp[Vo,e]) (by simp[VS];intro q1 q2;exact absurd q2 (h1 q1))
 cases e
def c137:Spec:=fun svs b K=>match svs,b with
 | [.byt c],none=>cond (QI c.toNat) (K (.val (.nat (YL c.toNat))) none) (K (.val (.int .i64 (-1))) none)
 | _,_=>False
noncomputable def W137:Wk:=⟨[],Qe Tryz.f137,false,false,[.tmp 2],[3],[],[]⟩
theorem QwX:Has 137:=hsf Tryz.f137
theorem kdz3 {p q:Prop} (k:q) (h:p:=by first | omega | (have:=zV (c-97);have:=zV (c-65);omega)):p/\q:=⟨h,k⟩
theorem Qvf:Sat 137 c137:=by
 have hD:Qa W137.D:=Qa.nil
 refine W137.sat hD (fn:=Tryz.f137) (by kernel_rfl) (by kernel_rfl) (by kernel_rfl) (by decide) fun svs b K hP=>?_
 unfold c137 at hP
 split at hP
 rename_i c
 have hk:=hP
 refine W137.en (cond ((decide (48<=c.toNat))&&(decide (c.toNat<=57))) (K (.val (.nat ((c-48).toNat))) none) (cond ((decide (97<=c.toNat))&&(decide (c.toNat<=102))) (((c-97).toNat+10<=9223372036854775807)/\K (.val (.nat ((c-97).toNat+10))) none) (cond ((decide (65<=c.toNat))&&(decide (c.toNat<=70))) (((c-65).toNat+10<=9223372036854775807)/\K (.val (.nat ((c-65).toNat+10))) none) (K (.val (.int .i64 (-1))) none)))) ?_
 refine Qb ?_ ?_<;>intro h1<;>try simp[-zd]at h1
 rw[show QI c.toNat=true from by simp[QI];omega]at hk;exact keq hk (by simp[YL];rw[if_pos (by omega),UInt8.toNat_sub];have:=zV c;simp;omega) rfl
 refine Qb (fun h2=>?_) (fun h2=>?_)
 try simp[-zd]at h2
 refine kdz3 ?_
 rw[show QI c.toNat=true from by simp[QI];omega]at hk;exact keq hk (by simp[YL];rw[if_neg (by omega),if_neg (by omega),UInt8.toNat_sub];have:=zV c;simp;omega) rfl
 try simp[-zd]at h2
 refine Qb ?_ ?_<;>intro h3<;>try simp[-zd]at h3
 refine kdz3 ?_
 rw[show QI c.toNat=true from by simp[QI];omega]at hk;exact keq hk (by simp[YL];rw[if_neg (by omega),if_pos (by omega),UInt8.toNat_sub];have:=zV c;simp;omega) rfl
 rw[show QI c.toNat=false from by simp[QI];omega]at hk;exact hk
 exact hP.elim
def c138 (svs:List SV) (b:Option SB):QR:=match svs,b with
 | [.nat n],none=>some ([n<=2147483647],.str (YM ((n:Nat):Int)))
 | _,_=>none
noncomputable def W138:Wk:=⟨[],Qe Tryz.f138,false,false,[.tmp 2],[9],[],[]⟩
theorem QwW:Has 138:=hsf Tryz.f138
theorem Qve:Sat 138 (Qz c138):=by
 have hD:Qa W138.D:=Qa.nil
 refine W138.sat hD (fn:=Tryz.f138) (by kernel_rfl) (by kernel_rfl) (by kernel_rfl) (by decide) fun svs b K hP=>?_
 obtain⟨ps,v,e,hp,hk⟩:=Qh hP
 unfold c138 at e
 split at e
 rename_i n
 cases e
 obtain⟨h01,_⟩:=hp
 refine W138.en ((n<=2147483647)/\K (.val (.str (YM ((n:Nat):Int)))) none) ?_
 refine Qa5 ?_
 exact hk
 cases e
theorem pm2 {b:Nat} (h:194<=b/\b<224):Ya b=(b-192,2,128):=by unfold Ya;rw[if_pos h]
theorem pm3 {b:Nat} (h:224<=b/\b<240):Ya b=(b-224,3,2048):=by unfold Ya;rw[if_neg (by omega),if_pos h]
theorem pm4 {b:Nat} (h:240<=b/\b<245):Ya b=(b-240,4,65536):=by unfold Ya;rw[if_neg (by omega),if_neg (by omega),if_pos h]
theorem Qho {s:Bs} {k i c:Nat} (h:bat s i<128\/191<bat s i):ZG s (k+1) i c=none:=by
 unfold ZG;rw[if_pos h]
theorem Qhn {s:Bs} {k i c:Nat} (h:¬(bat s i<128\/191<bat s i)):ZG s (k+1) i c=ZG s k (i+1) (c*64+bat s i-128):=by
 conv=>lhs;unfold ZG
 rw[if_neg h]
def Uo (c least many:Nat):Nat×Nat:=if c<least\/1114111<c\/(55296<=c/\c<57344) then (0,0) else (c,many)
theorem QeH {s:Bs} {i c0 many least:Nat} (h:¬bat s i<128) (hm:Ya (bat s i)=(c0,many,least)) (hn:many≠0) (hl:i+many<=s.length) :
 Vn s i=match ZG s (many-1) (i+1) c0 with
  | none=>(0,0)
  | some c=>Uo c least many:=by
 unfold Vn
 rw[if_neg h,hm]
 simp only
 rw[if_neg (by omega)]
 rfl
def c41 (svs:List SV) (b:Option SB):QR:=match svs,b with
 | [.str s,.nat i],none=>some ([s.length<=1000000,i<s.length],.tup [.nat (Vn s i).1,.nat (Vn s i).2])
 | _,_=>none
noncomputable def W41:Wk:=⟨[],Qe Tryz.f41,false,false,[.tmp 4,.tmp 5],[3,3],[(14,435)],[]⟩
theorem Qub:Has 41:=hsf Tryz.f41
theorem QtM:Sat 41 (Qz c41):=by
 have hD:Qa W41.D:=Qa.nil
 refine W41.sat hD (fn:=Tryz.f41) (by kernel_rfl) (by kernel_rfl) (by kernel_rfl) (by decide) fun svs b K hP=>?_
 obtain⟨ps,v,e,hp,hk⟩:=Qh hP
 unfold c41 at e
 split at e
 rename_i s i
 cases e
 obtain⟨h01,h02,_⟩:=hp
 have L14:∀(mm:Nat) (c m l j:Nat),i+m-j=mm->i+1<=j/\j<=i+m/\m<=4/\i+m<=s.length/\c<64*64^(j-i-1)/\Vn s i=(match ZG s (i+m-j) j c with | none=>(0,0) | some c=>Uo c l m)->W41.L K 14 (mkS 98 [(0,(.str s)),(1,(.nat i)),(4,(.nat c)),(5,(.nat m)),(7,(.nat l)),(8,(.nat j))] [] 1):=by
  intro mm
  induction mm using zl with
  | _ mm ih=>
   intro c m l j hm hI
   obtain⟨k1,k2,k3,k4,k5,k6⟩:=hI
   have k7:c<64*64^3:=zL k5 (zz _ (Nat.pow_le_pow_right (by omega) (by omega)))
   refine W41.aL hD ((i+m<=9223372036854775807)/\cond (decide (j<i+m)) ((j<s.length)/\((decide (bat s j<128))=false->(j<s.length)/\True)/\cond ((decide (bat s j<128))||(decide (191<bat s j))) (K (.val (.tup [(.nat 0),(.nat 0)])) none) ((6<=62/\c*2^6<=9223372036854775807)/\(j<s.length)/\((c*2^6)+(bat s j)<=9223372036854775807)/\(128<=(c*2^6)+(bat s j)/\(c*2^6)+(bat s j)<=9223372036854775807)/\(j+1<=9223372036854775807)/\(W41).L K 14 (mkS 98 [(0,(.str s)),(1,(.nat i)),(4,(.nat ((c*2^6)+(bat s j)-128))),(5,(.nat m)),(7,(.nat l)),(8,(.nat (j+1)))] [] 1))) (cond (((decide (c<l))||(decide (1114111<c)))||((decide (55296<=c))&&(decide (c<57344)))) (K (.val (.tup [(.nat 0),(.nat 0)])) none) (K (.val (.tup [(.nat c),(.nat m)])) none))) ?_
   refine Qa5 ?_
   refine Qb ?_ ?_<;>intro h1<;>try simp[-zd]at h1
   refine Qa5 (QhM ?_)
   refine Qb ?_ ?_<;>intro h2<;>try simp[-zd]at h2
   have e:Vn s i=(0,0):=by rw[k6,show i+m-j=(i+m-j-1)+1 from by omega,Qho (by omega)]
   rw[e]at hk
   exact hk
   refine Qa5 (Qa5 (Qa5 (Qa5 (Qa5 ?_))))
   refine ih _ (by omega) _ _ _ _ rfl ⟨by omega,by omega,by omega,by omega,?_,?_⟩
   rw[show j+1-i-1=(j-i-1)+1 from by omega,Nat.pow_succ];omega
   rw[k6,show i+m-j=(i+m-(j+1))+1 from by omega,Qhn (by omega)]
   refine Qb (fun h2=>?_) (fun h2=>?_)
   try simp[-zd]at h2
   have e:Vn s i=(0,0):=by
    rw[k6,show i+m-j=0 from by omega]
    show Uo c l m=_
    unfold Uo
    rw[if_pos (by omega)]
   rw[e]at hk
   exact hk
   try simp[-zd]at h2
   have e:Vn s i=(c,m):=by
    rw[k6,show i+m-j=0 from by omega]
    show Uo c l m=_
    unfold Uo
    rw[if_neg (by omega)]
   rw[e]at hk
   exact hk
 refine W41.en (have a0:Out:=.val (.tup [(.nat 0),(.nat 0)]);have a1:=i+1<=9223372036854775807;(i<s.length)/\cond (decide (bat s i<128)) (K (.val (.tup [(.nat (bat s i)),(.nat 1)])) none) (cond ((decide (194<=bat s i))&&(decide (bat s i<224))) ((192<=bat s i/\bat s i<=9223372036854775807)/\(false=false->(i+2<=9223372036854775807)/\True)/\cond (decide (s.length<i+2)) (K a0 none) (a1/\(W41).L K 14 (mkS 98 [(0,(.str s)),(1,(.nat i)),(4,(.nat (bat s i-192))),(5,(.nat 2)),(7,(.nat 128)),(8,(.nat (i+1)))] [] 1))) (cond ((decide (224<=bat s i))&&(decide (bat s i<240))) ((224<=bat s i/\bat s i<=9223372036854775807)/\(false=false->(i+3<=9223372036854775807)/\True)/\cond (decide (s.length<i+3)) (K a0 none) (a1/\(W41).L K 14 (mkS 98 [(0,(.str s)),(1,(.nat i)),(4,(.nat (bat s i-224))),(5,(.nat 3)),(7,(.nat 2048)),(8,(.nat (i+1)))] [] 1))) (cond ((decide (240<=bat s i))&&(decide (bat s i<245))) ((240<=bat s i/\bat s i<=9223372036854775807)/\(false=false->(i+4<=9223372036854775807)/\True)/\cond (decide (s.length<i+4)) (K a0 none) (a1/\(W41).L K 14 (mkS 98 [(0,(.str s)),(1,(.nat i)),(4,(.nat (bat s i-240))),(5,(.nat 4)),(7,(.nat 65536)),(8,(.nat (i+1)))] [] 1))) ((true=false->(i<=9223372036854775807)/\True)/\K a0 none))))) ?_
 refine Qa5 ?_
 refine Qb ?_ ?_<;>intro h1<;>try simp[-zd]at h1
 have e:Vn s i=(bat s i,1):=by unfold Vn;rw[if_pos (by omega)]
 rw[e]at hk
 exact hk
 refine Qb (fun h2=>?_) (fun h2=>?_)
 try simp[-zd]at h2
 refine Qa5 (QhM ?_)
 refine Qb ?_ ?_<;>intro h3<;>try simp[-zd]at h3
 . have e:Vn s i=(0,0):=by
    unfold Vn
    rw[if_neg (by omega),show Ya (bat s i)=(bat s i-192,2,128) from pm2 (by omega),if_pos (by right;simp;omega)]
   rw[e]at hk
   exact hk
 refine Qa5 ?_
 refine L14 _ _ _ _ _ rfl ⟨by omega,by omega,by omega,by omega,?_,?_⟩
 rw[show i+1-i-1=0 from by omega];omega
 rw[show i+2-(i+1)=2-1 from by omega]
 exact QeH (by omega) (show Ya (bat s i)=(bat s i-192,2,128) from pm2 (by omega)) (by decide) (by omega)
 try simp[-zd]at h2
 refine Qb ?_ ?_<;>intro h3<;>try simp[-zd]at h3
 refine Qa5 (QhM ?_)
 refine Qb ?_ ?_<;>intro h4<;>try simp[-zd]at h4
 . have e:Vn s i=(0,0):=by
    unfold Vn
    rw[if_neg (by omega),show Ya (bat s i)=(bat s i-224,3,2048) from pm3 (by omega),if_pos (by right;simp;omega)]
   rw[e]at hk
   exact hk
 refine Qa5 ?_
 refine L14 _ _ _ _ _ rfl ⟨by omega,by omega,by omega,by omega,?_,?_⟩
 rw[show i+1-i-1=0 from by omega];omega
 rw[show i+3-(i+1)=3-1 from by omega]
 exact QeH (by omega) (show Ya (bat s i)=(bat s i-224,3,2048) from pm3 (by omega)) (by decide) (by omega)
 refine Qb (fun h4=>?_) (fun h4=>?_)
 try simp[-zd]at h4
 refine Qa5 (QhM ?_)
 refine Qb ?_ ?_<;>intro h5<;>try simp[-zd]at h5
 . have e:Vn s i=(0,0):=by
    unfold Vn
    rw[if_neg (by omega),show Ya (bat s i)=(bat s i-240,4,65536) from pm4 (by omega),if_pos (by right;simp;omega)]
   rw[e]at hk
   exact hk
 refine Qa5 ?_
 refine L14 _ _ _ _ _ rfl ⟨by omega,by omega,by omega,by omega,?_,?_⟩
 rw[show i+1-i-1=0 from by omega];omega
 rw[show i+4-(i+1)=4-1 from by omega]
 exact QeH (by omega) (show Ya (bat s i)=(bat s i-240,4,65536) from pm4 (by omega)) (by decide) (by omega)
 try simp[-zd]at h4
 refine⟨fun g0=>(by cases g0),?_⟩
 have e:Vn s i=(0,0):=by
  unfold Vn
  rw[if_neg (by omega),show Ya (bat s i)=(0,0,0) from by unfold Ya;rw[if_neg (by omega),if_neg (by omega),if_neg (by omega)],if_pos (by left;rfl)]
 rw[e]at hk
 exact hk
 cases e
end
end Go.Proofs.YtengepcafdnalaaGreatDoor
