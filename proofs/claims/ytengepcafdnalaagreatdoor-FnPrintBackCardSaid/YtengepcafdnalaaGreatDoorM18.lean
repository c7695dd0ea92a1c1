/-
  Parts of the proof that the law FnPrintBack holds for every input (texts Ha). Conditions: none.
-/
import Derived.Test.YtengepcafdnalaaGreatDoorM17
namespace Go.Proofs.YtengepcafdnalaaGreatDoor
open _root_.Array renaming getElem?_setIfInBounds_ne → zH, getElem?_eq_some_iff → zA, getD_eq_getD_getElem? → xb, eq_empty_of_size_eq_zero → xo
open _root_.Bool renaming and_eq_true → zk, or_true → zZ
open _root_.List renaming mem_singleton → zW, mem_cons → zu, mem_cons_self → xc
open _root_.Nat renaming lt_succ_of_lt → xx
open _root_.Option renaming map_eq_some_iff → zi, bind_some → zQ
open Go.Proofs.Tryz renaming prog → zf
section
open Go Go.RowKit
def isGk:SV->Bool
 | .gk _ _ _=>true
 | _=>false
def ungk:SV->SV
 | .gk _ _ _=>.undef
 | s=>s
def clr (S:SS):SS:={ S with env:=Qk4 ungk S.env }
def QnU (ch:List (Nat×Bool)) (j:Nat) (b:Bool):Bool:=ch.any fun k=>k.1==j&&k.2==b
def unk (ch:List (Nat×Bool)):SV->SV
 | .gk j b s=>cond (QnU ch j b) s (.gk j b s)
 | s=>s
def uw (ch:List (Nat×Bool)) (S:SS):SS:={ S with env:=Qk4 (unk ch) S.env }
def chE (ds:List (Option Tmp)) (S:SS):Nat->Nat->Bool->List (Nat×Bool)
 | 0,j,b=>[(j,b)]
 | n+1,j,b=>(j,b)::match Jr ds j with
  | some d=>match ZM S.env d with
   | .gk j' b' _=>chE ds S n j' b'
   | _=>[]
  | none=>[]
def cval (ds:List (Option Tmp)) (S:SS):List (Nat×Bool)->List (Bool×Bool)
 | []=>[]
 | (j,b)::l=>match Jr ds j with
  | some d=>match ZM S.env d with
   | .bool c=>cval ds S l++[(c,b)]
   | .gk _ _ (.bool c)=>cval ds S l++[(c,b)]
   | _=>cval ds S l
  | none=>cval ds S l
def imps:List (Bool×Bool)->Prop->Prop
 | [],q=>q
 | (c,b)::l,q=>c=b->imps l q
def QqT (l:List (Bool×Bool)) (ps:List Prop) (q:Prop):Prop:=
 match ps with
 | []=>q
 | ps=>imps l (Yj ps)/\q
def Qqq:List (Option Tmp)->Nat->Nat->Option Nat
 | [],_,_=>none
 | d::l,t,i=>if d=some t then some i else Qqq l t (i+1)
def qPk (ds:List (Option Tmp)) (ch:List (Nat×Bool)) (S:SS) (c x y:Operand):QR:=
 match c with
 | .tmp t=>match Qqq ds t 0 with
  | some j=>match ZM (uw ch S).env t,ev (uw ((j,true)::ch) S).env x,ev (uw ((j,false)::ch) S).env y with
   | .bool c,.bool p,.bool q=>some ([],.bool (cond c p q))
   | .bool c,.bool p,_=>(match c with
    | true=>some ([],.bool p)
    | false=>none)
   | .bool c,_,.bool q=>(match c with
    | true=>none
    | false=>some ([],.bool q))
   | _,_,_=>none
  | none=>none
 | _=>none
def QtV (D:Cx) (S:SS) (c:Call) (f:Operand):QR:=
 match QdB (ev S.env f) with
 | some k=>match clk D k with
  | some (.pure g)=>Vl (Qit S.env c.args.toList) (match c.args.toList.map fun x=>ev S.env x with
   | .ptr r 0::rest=>match hlk S.heap r with
    | some (.blk T cs)=>Vl (SV.lts 0 rest&&SV.lts 0 cs) (g (.ptr 0 0::rest) (some (.blk T cs)))
    | _=>none
   | svs=>Vl (SV.lts 0 svs) (g svs none))
  | _=>none
 | none=>none
def ge (D:Cx) (ds:List (Option Tmp)) (ch:List (Nat×Bool)) (S:SS) (op:Op):QR:=
 match op with
 | .pick c x y=>qPk ds ch S c x y
 | .call c=>match c.callee with
  | .value f=>QtV D (uw ch S) c f
  | _=>qe (uw ch S) (.call c)
 | op=>qe (uw ch S) op
def isHv (D:Cx):Op->Bool
 | .alloc _=>true
 | .box _ _=>true
 | .store _ _ _=>true
 | .buildSlice _ _ _=>true
 | .makeSlice _ _ _=>true
 | .convert _ d _=>d==37
 | .call c=>match c.callee with
  | .builtin .append=>true
  | .builtin .copy=>true
  | .value (.func k)=>match clk D k with
   | some (.pure _)=>false
   | _=>true
  | .value _=>true
  | _=>false
 | _=>false
def Qjw (ds:List (Option Tmp)) (i:Nat) (d:Option Tmp):Bool:=
 match d with
 | some _ => !((ds.take i).contains d)
 | none=>true
def noGk (s:SV):Bool := !isGk s
def vcG (D:Cx) (ds:List (Option Tmp)):List (Nat×Bool)->Nat->List Oper->SS->(SS->Prop)->Prop
 | _,_,[],S,K=>K S
 | sk,i,o::rest,S,K=>bb (Qjw ds i o.dst) (match o.guard with
  | none=>cond (isHv D o.op) (ov D S o.op fun s S'=>vcG D ds sk (i+1) rest (clr (putD S' o.dst s)) K)
   (match ge D ds [] S o.op with
   | some (ps,s)=>QdE ps (bb (noGk s) (vcG D ds sk (i+1) rest (putD S o.dst s) K))
   | none=>False)
  | some (j,b)=>cond (QnU sk j b) (vcG D ds ((i,true)::(i,false)::sk) (i+1) rest (putD S o.dst .undef) K) (cond (isHv D o.op)
   (match Jr ds j with
   | some d=>match ZM S.env d with
    | .bool c=>bb (decide (j<i)) ((c=b->ov D (putD (uw [(j,b)] S) (some d) (.bool b)) o.op fun s S'=>vcG D ds ((j,!b)::sk) (i+1) rest (clr (putD S' o.dst s)) K) /\
     (c = !b->vcG D ds ((i,true)::(i,false)::(j,b)::sk) (i+1) rest (clr (putD (putD S (some d) (.bool (!b))) o.dst .undef)) K))
    | _=>False
   | none=>False)
   (match ge D ds (chE ds S 16 j b) S o.op with
   | some (ps,s)=>bb (decide (j<i)) (QqT (cval ds S (chE ds S 16 j b)) ps (vcG D ds sk (i+1) rest (putD S o.dst (.gk j b s)) K))
   | none=>False)))
def yld (ops:Array Oper) (a:Act) (k:Nat×Bool):Bool:=yielded ops a.tmps k.1==some k.2
def rsv (ops:Array Oper) (a:Act):SV->SV
 | .gk j b s=>cond (yld ops a (j,b)) s .undef
 | s=>s
def res (ops:Array Oper) (a:Act) (S:SS):SS:={ S with env:=Qk4 (rsv ops a) S.env }
section
variable {g0:Glob} {w0:World} {M:Nat->Prop} {ω:Wit} {S:SS} {a:Act} {w:World} {ops:Array Oper} {D:Cx}
theorem Sim.weak (h:Sim g0 w0 M ω S a w) {S':SS} (hh:S'.heap=S.heap) (hn:S'.nx=S.nx)
 (he:∀i s,elk S'.env i=some s->∃t,elk S.env i=some t/\∀v,a.tmps[i]? = some v->Rel ω t v->Rel ω s v):Sim g0 w0 M ω S' a w:=by
 obtain⟨e,hp,n⟩:=S'
 simp only at hh hn he
 subst hh;subst hn
 refine { h with env:=fun i s hs=>?_ }
 obtain⟨t,h1,h2⟩:=he i s hs
 obtain⟨v,h3,h4⟩:=h.env i t h1
 exact⟨v,h3,h2 v h3 h4⟩
theorem Sim.map (f g:SV->SV) (h:Sim g0 w0 M ω { S with env:=Qk4 f S.env } a w) (hfg:∀i s,elk S.env i=some s->∀v,a.tmps[i]? = some v->Rel ω (f s) v->Rel ω (g s) v) :
 Sim g0 w0 M ω { S with env:=Qk4 g S.env } a w:=by
 refine h.weak rfl rfl fun i s hs=>?_
 simp only[Zg,zi]at hs ⊢
 obtain⟨t,h1,rfl⟩:=hs
 exact⟨f t,⟨t,h1,rfl⟩,fun v hv hr=>hfg i t h1 v hv hr⟩
def GI (g0:Glob) (w0:World) (M:Nat->Prop) (ops:Array Oper) (i:Nat) (ω:Wit) (S:SS) (a:Act) (w:World):Prop:=
 Sim g0 w0 M ω (res ops a S) a w/\∀t j b s,elk S.env t=some (.gk j b s)->j<i/\(yld ops a (j,b)=false->a.tmps[t]? = some undef)
theorem GI.clr {i:Nat} (h:Sim g0 w0 M ω (clr S) a w):GI g0 w0 M ops i ω (clr S) a w:=by
 have hno:∀t j b s,elk (YtengepcafdnalaaGreatDoor.clr S).env t=some (.gk j b s)->False:=by
  intro t j b s he
  simp only[YtengepcafdnalaaGreatDoor.clr,Zg,zi]at he
  obtain⟨u,_,hu⟩:=he
  unfold ungk at hu
  split at hu
  cases hu
  rename_i hne;exact hne _ _ _ hu
 refine⟨h.weak rfl rfl fun t s hs=>?_,fun t j b s he=>(hno t j b s he).elim⟩
 simp only[res,Zg,zi]at hs
 obtain⟨u,h1,h2⟩:=hs
 refine⟨u,h1,fun v _ hr=>?_⟩
 unfold rsv at h2
 split at h2
 exact (hno _ _ _ _ h1).elim
 rw[<-h2];exact hr
theorem Sim.clr (h:Sim g0 w0 M ω S a w):Sim g0 w0 M ω (clr S) a w:=by
 refine h.weak rfl rfl fun i s hs=>?_
 simp only[YtengepcafdnalaaGreatDoor.clr,Zg,zi]at hs
 obtain⟨t,h1,rfl⟩:=hs
 refine⟨t,h1,fun v _ hr=>?_⟩
 unfold ungk
 split
 exact .undef _
 exact hr
theorem GI.sim {i:Nat} (h:GI g0 w0 M ops i ω S a w):Sim g0 w0 M ω S a w:=by
 refine h.1.weak rfl rfl fun i s hs=>⟨rsv ops a s,by simp[res,Zg,hs],fun v hv hr=>?_⟩
 unfold rsv at hr
 split at hr
 exact .gk _ _ _ _
 exact hr
theorem GI.uw {i:Nat} (h:GI g0 w0 M ops i ω S a w) {ch:List (Nat×Bool)} (hc:∀k∈ch,yld ops a k=true):Sim g0 w0 M ω (uw ch S) a w:=by
 refine Sim.map (rsv ops a) (unk ch) h.1 fun t s hs v hv hr=>?_
 unfold unk
 split
 rename_i j b s
 cases hm:QnU ch j b with
 | false=>exact .gk _ _ _ _
 | true=>
  simp only[QnU,List.any_eq_true,zk,beq_iff_eq]at hm
  obtain⟨k,h1,h2,h3⟩:=hm
  have:=hc k h1
  simp only[rsv]at hr
  rw[show (j,b)=k from by rw[<-h2,<-h3],this]at hr
  exact hr
 rename_i hne
 have e:rsv ops a s=s:=by
  unfold rsv
  split
  exact absurd rfl (hne _ _ _)
  rfl
 rw[e]at hr
 exact hr
theorem YR {d:Tmp} {j:Nat} (hd:Jr (ops.toList.map (·.dst)) j=some d) (tm:Array Value):yielded ops tm j=match tm[d]? with
 | some (.bool b)=>some b
 | _=>none:=by
 have hd':(ops[j]?).bind (·.dst)=some d:=by
  have:=Ji ops ops.toList 0 j (by simp)
  rw[hd]at this
  simpa using this.symm
 simp only[yielded,hd',zQ]
 rfl
theorem GI.chain {i:Nat} (h:GI g0 w0 M ops i ω S a w):∀(n:Nat) (j:Nat) (b:Bool),yld ops a (j,b)=true->∀k∈chE (ops.toList.map (·.dst)) S n j b,yld ops a k=true
 | 0,j,b,hy,k,hk=>by simp only[chE,zW]at hk;rw[hk];exact hy
 | n+1,j,b,hy,k,hk=>by
  simp only[chE,zu]at hk
  rcases hk with rfl | hk
  exact hy
  split at hk
  rename_i d hd
  split at hk
  rename_i j' b' s' he
  refine h.chain n j' b' ?_ k hk
  cases hc:yld ops a (j',b') with
  | true=>rfl
  | false=>
   have he':elk S.env d=some (.gk j' b' s'):=by
    unfold ZM at he
    cases hx:elk S.env d with
    | none=>rw[hx]at he;cases he
    | some x=>rw[hx]at he;simp only[QnL]at he;rw[he]
   have hu:=(h.2 d j' b' s' he').2 hc
   simp only[yld,YR hd,hu,undef]at hy
   cases hy
  cases hk
  cases hk
theorem QaZ {e:Env} {d:Nat} {s:SV} (h:ZM e d=s) (hs:s ≠ .undef):elk e d=some s:=by
 unfold ZM at h
 cases hx:elk e d with
 | none=>rw[hx]at h;exact absurd h.symm hs
 | some x=>rw[hx]at h;simp only[QnL]at h;rw[h]
theorem GI.cval {i:Nat} (h:GI g0 w0 M ops i ω S a w):∀(ch:List (Nat×Bool)),(∀k∈ch,yld ops a k=true)->(∀j b d j' b' s,(j,b)∈ch->Jr (ops.toList.map (·.dst)) j=some d->ZM S.env d=.gk j' b' s->yld ops a (j',b')=true) ->
 ∀c b,(c,b)∈cval (ops.toList.map (·.dst)) S ch->c=b
 | [],_,_,c,b,hm=>by cases hm
 | (j,b0)::l,hy,hg,c,b,hm=>by
  have ih:=h.cval l (fun k hk=>hy k (List.mem_cons_of_mem _ hk)) (fun j b d j' b' s h1=>hg j b d j' b' s (List.mem_cons_of_mem _ h1)) c b
  have h0:=hy (j,b0) (xc ..)
  unfold YtengepcafdnalaaGreatDoor.cval at hm
  split at hm
  rename_i d hd
  have key:∀c',Rel ω (.bool c') ((a.tmps[d]?).getD undef)->(c,b)=(c',b0)->c=b:=by
   intro c' hr e
   cases e
   have:=hr.bool_inv
   cases hx:a.tmps[d]? with
   | none=>rw[hx]at this;cases this
   | some v=>
    rw[hx]at this
    simp only[Option.getD_some]at this
    subst this
    simpa [yld,YR hd,hx] using h0
  split at hm
  rename_i c' he
  rcases List.mem_append.1 hm with hm | hm
  exact ih hm
  simp only[zW]at hm
  obtain⟨v,h1,h2⟩:=h.1.env d (.bool c') (by simp[res,Zg,QaZ he (by simp),rsv])
  exact key c' (by rw[h1];exact h2) hm
  rename_i j' b' c' he
  rcases List.mem_append.1 hm with hm | hm
  exact ih hm
  simp only[zW]at hm
  have hyy:=hg j b0 d j' b' _ (xc ..) hd he
  obtain⟨v,h1,h2⟩:=h.1.env d (.bool c') (by simp[res,Zg,QaZ he (by simp),rsv,hyy])
  exact key c' (by rw[h1];exact h2) hm
  exact ih hm
  exact ih hm
theorem QsS {l:List (Bool×Bool)} {q:Prop} (h:imps l q) (hl:∀c b,(c,b)∈l->c=b):q:=by
 induction l with
 | nil=>exact h
 | cons x l ih=>
  obtain⟨c,b⟩:=x
  exact ih (h (hl c b (xc ..))) fun c b hm=>hl c b (List.mem_cons_of_mem _ hm)
theorem QhZ {l:List (Bool×Bool)} {ps:List Prop} {q:Prop} (h:QqT l ps q):((∀c b,(c,b)∈l->c=b)->Yj ps)/\q:=by
 unfold QqT at h
 split at h
 exact⟨fun _=>trivial,h⟩
 exact⟨fun hl=>QsS h.1 hl,h.2⟩
theorem QhP:∀{l:List (Option Tmp)} {t k j:Nat},Qqq l t k=some j->∃m,j=k+m/\Jr l m=some t
 | [],_,_,_,h=>by cases h
 | d::l,t,k,j,h=>by
  unfold Qqq at h
  split at h
  rename_i hd;cases h;exact⟨0,rfl,hd⟩
  obtain⟨m,h1,h2⟩:=QhP h
  exact⟨m+1,by omega,h2⟩
theorem Qfg:∀{l:List (Option Tmp)} {i j:Nat} {d:Option Tmp},j<i->Jr l j=d->d≠none->(l.take i).contains d=true
 | [],_,_,d,_,h,hn=>absurd h.symm hn
 | x::l,i+1,0,d,_,h,hn=>by simp only[Jr]at h;subst h;simp
 | x::l,i+1,j+1,d,hj,h,hn=>by
  have:=Qfg (l:=l) (i:=i) (j:=j) (by omega) h hn
  rw[List.take_succ_cons,List.contains_cons,this,zZ]
theorem Act.put_get {a:Act} {d:Option Tmp} {v:Value} {t:Nat} (h:d≠some t):(a.put d v).tmps[t]? = a.tmps[t]?:=by
 cases d with
 | none=>rfl
 | some d=>rw[Act.put_some,zH (fun e=>h (by rw[e]))]
theorem QgW {i:Nat} {d:Option Tmp} (hf:Qjw (ops.toList.map (·.dst)) i d=true) {v:Value} {k:Nat×Bool} (hk:k.1<i):yld ops (a.put d v) k=yld ops a k:=by
 unfold yld
 cases hd:Jr (ops.toList.map (·.dst)) k.1 with
 | none=>
  have hd':(ops[k.1]?).bind (·.dst)=none:=by
   have:=Ji ops ops.toList 0 k.1 (by simp)
   rw[hd]at this
   simpa using this.symm
  simp[yielded,hd']
 | some e=>
  rw[YR hd,YR hd]
  have hne:d≠some e:=by
   rintro rfl
   have:=Qfg hk hd (by simp)
   simp only[Qjw]at hf
   rw[this]at hf
   cases hf
  rw[Act.put_get hne]
theorem GI.put {i:Nat} (h:GI g0 w0 M ops i ω S a w) {d:Option Tmp} (hf:Qjw (ops.toList.map (·.dst)) i d=true) {s:SV} {v:Value} (hr:Rel ω (rsv ops a s) v)
 (hk:∀j b t,s=.gk j b t->j<i/\(yld ops a (j,b)=false->v=undef)):GI g0 w0 M ops (i+1) ω (putD S d s) (a.put d v) w:=by
 have hput:Sim g0 w0 M ω (YtengepcafdnalaaGreatDoor.putD (res ops a S) d (rsv ops a s)) (a.put d v) w:=h.1.putD hr d
 have hent:∀t u,elk (YtengepcafdnalaaGreatDoor.putD S d s).env t=some u->(d=some t/\u=s)\/(d≠some t/\elk S.env t=some u):=by
  intro t u hu
  cases d with
  | none=>exact .inr ⟨by simp,hu⟩
  | some d=>
   rcases Qd3 hu with ⟨h1,h2⟩ | ⟨h1,h2⟩
   exact .inl ⟨by rw[h1],h2⟩
   exact .inr ⟨by simpa using h1,h2⟩
 have hlt:∀t j b u,elk (YtengepcafdnalaaGreatDoor.putD S d s).env t=some (.gk j b u)->j<i:=by
  intro t j b u hu
  rcases hent t _ hu with ⟨_,h2⟩ | ⟨_,h2⟩
  exact (hk j b u h2.symm).1
  exact (h.2 t j b u h2).1
 refine⟨hput.weak ?_ ?_ fun t u hu=>?_,fun t j b u hu=>⟨xx (hlt t j b u hu),fun hy=>?_⟩⟩
 cases d<;>rfl
 cases d<;>rfl
 simp only[res,Zg,zi]at hu
 obtain⟨u',h1,rfl⟩:=hu
 have e:rsv ops (a.put d v) u'=rsv ops a u':=by
  unfold rsv
  split
  rename_i j b x
  rw[QgW hf (k:=(j,b)) (hlt t j b x h1)]
  rfl
 rw[e]
 rcases hent t u' h1 with ⟨rfl,rfl⟩ | ⟨hne,h2⟩
 refine⟨rsv ops a u',?_,fun _ _ h=>h⟩
 have h3:∃s',elk (res ops a S).env t=some s':=by
  obtain⟨s',hs'⟩:=ZL (e:=S.env) (i:=t) (j:=t) (v:=u') h1
  exact⟨_,by simp[res,Zg,hs'];rfl⟩
 obtain⟨s',hs'⟩:=h3
 exact US hs' _
 refine⟨rsv ops a u',?_,fun _ _ h=>h⟩
 have h3:elk (res ops a S).env t=some (rsv ops a u'):=by simp[res,Zg,h2]
 cases d with
 | none=>exact h3
 | some d=>exact (JR (fun e=>hne (by rw[e])) _).trans h3
 have hj:=hlt t j b u hu
 rw[QgW hf (k:=(j,b)) hj]at hy
 rcases hent t _ hu with ⟨rfl,h2⟩ | ⟨hne,h2⟩
 have hv:=(hk j b u h2.symm).2 hy
 obtain⟨s',hs'⟩:=ZL (e:=S.env) (i:=t) (j:=t) (v:=s) hu
 obtain⟨x,hx,_⟩:=h.sim.env t s' hs'
 have:=(zA.1 hx).1
 rw[Act.put_some,Array.getElem?_setIfInBounds_self_of_lt this,hv]
 rw[Act.put_get hne]
 exact (h.2 t j b u h2).2 hy
theorem Sim.getT (h:Sim g0 w0 M ω S a w) (t:Nat):Rel ω (ZM S.env t) ((a.tmps[t]?).getD undef):=by
 have:=h.ev (.tmp t)
 simp only[ev,Act.eval,xb]at this
 exact this
theorem Quj (hD:Qa D) {i:Nat} (h:GI g0 w0 M ops i ω S a w) {o:Oper} {ch:List (Nat×Bool)} (hc:∀k∈ch,yld ops a k=true) {ps:List Prop} {s:SV}
 (hg:ge D (ops.toList.map (·.dst)) ch S o.op=some (ps,s)) (hp:Yj ps) {Q:Exit->Act->World->Prop} {N:Act->World->Prop}
 (hN:∀v w' ω',GI g0 w0 M ops i ω' S a w'->Rel ω' s v->N (a.put o.dst v) w'):o.wp zf a w N Q:=by
 have quiet:qe (YtengepcafdnalaaGreatDoor.uw ch S) o.op=some (ps,s)->o.wp zf a w N Q:=by
  intro hq
  obtain⟨u,h2,h3⟩:=QtT (h.uw hc) hq hp
  unfold Oper.wp
  rw[h3,Oper.upon_value]
  exact hN u w ω h h2
 obtain⟨op,hop⟩:∃op,o.op=op:=⟨_,rfl⟩
 rw[hop]at hg quiet
 cases op
 case pick c x y=>
  have pk:∀{t j:Nat} {cv p:Bool},c=.tmp t->Qqq (ops.toList.map (·.dst)) t 0=some j->ZM (YtengepcafdnalaaGreatDoor.uw ch S).env t=.bool cv ->
   (match cv with | true=>YtengepcafdnalaaGreatDoor.ev (YtengepcafdnalaaGreatDoor.uw ((j,true)::ch) S).env x | false=>YtengepcafdnalaaGreatDoor.ev (YtengepcafdnalaaGreatDoor.uw ((j,false)::ch) S).env y)=.bool p ->
   s=.bool p->o.wp zf a w N Q:=by
   intro t j cv p hc0 hj e1 e2 hs
   subst hc0 hs
   obtain⟨m,e,hd⟩:=QhP hj
   obtain rfl:j=m:=by omega
   have hct:=(h.uw hc).getT t
   rw[e1]at hct
   have hcv:=hct.bool_inv
   have hy:∀b,cv=b->yld ops a (j,b)=true:=by
    intro b hb
    have hx:a.tmps[t]? = some (.bool cv):=by
     cases hx:a.tmps[t]? with
     | none=>rw[hx]at hcv;cases hcv
     | some v=>rw[hx]at hcv;simp only[Option.getD_some]at hcv;rw[hcv]
    simp[yld,YR hd,hx,hb]
   unfold Oper.wp
   have hrun:(execOp a.eval o).run zf w=.ok (.value (.bool p)) w:=by
    have hev:a.eval (.tmp t)=.bool cv:=by simp only[Act.eval,xb];exact hcv
    unfold execOp
    rw[hop]
    simp only[hev]
    cases cv with
    | true=>
     have:=(h.uw (ch:=(j,true)::ch) (fun k hk=>by
      rcases zu.1 hk with rfl | hk
      . exact hy true rfl
      exact hc k hk)).ev x
     simp only at e2
     rw[e2]at this
     rw[this.bool_inv]
     rfl
    | false=>
     have:=(h.uw (ch:=(j,false)::ch) (fun k hk=>by
      rcases zu.1 hk with rfl | hk
      . exact hy false rfl
      exact hc k hk)).ev y
     simp only at e2
     rw[e2]at this
     rw[this.bool_inv]
     rfl
   rw[hrun,Oper.upon_value]
   exact hN _ w ω h (.bool _)
  simp only[ge,qPk]at hg
  split at hg
  rename_i t
  split at hg
  rename_i j hj
  obtain⟨m,e,hd⟩:=QhP hj
  obtain rfl:j=m:=by omega
  split at hg
  rename_i cv p q e1 e2 e3
  cases hg
  exact pk rfl hj e1 (by cases cv with | true=>exact e2 | false=>exact e3) rfl
  rename_i cv p e1 e2 hne
  split at hg
  cases hg
  exact pk rfl hj e1 (by simpa using e2) rfl
  cases hg
  rename_i cv q e1 e3 hne
  split at hg
  cases hg
  cases hg
  exact pk rfl hj e1 (by simpa using e3) rfl
  cases hg
  cases hg
  cases hg
 case call c=>
  obtain⟨callee,args,tys⟩:=c
  cases callee with
  | builtin b=>exact quiet hg
  | invoke r m=>exact quiet hg
  | value f=>
   simp only[ge,QtV]at hg
   split at hg
   rename_i k hk
   split at hg
   rename_i g hcl
   obtain⟨hu,hg⟩:=Qp hg
   obtain⟨hcd,hmap⟩:=Qec hu
   have hS:=h.uw hc
   have hck:JT (YtengepcafdnalaaGreatDoor.uw ch S).heap (Qb6 g) (args.toList.map fun x=>unw (ev (YtengepcafdnalaaGreatDoor.uw ch S).env x)) /\
    Qb5 g (Yv (YtengepcafdnalaaGreatDoor.uw ch S).heap (args.toList.map fun x=>unw (ev (YtengepcafdnalaaGreatDoor.uw ch S).env x))).1 (Yv (YtengepcafdnalaaGreatDoor.uw ch S).heap (args.toList.map fun x=>unw (ev (YtengepcafdnalaaGreatDoor.uw ch S).env x))).2=s:=by
    rw[hmap]
    have mk:∀svs b,g svs b=some (ps,s)->Qb6 g svs b/\Qb5 g svs b=s:=by
     intro svs b e
     unfold Qb6 Qb5
     rw[e]
     exact⟨hp,rfl⟩
    generalize (args.toList.map fun x=>ev (YtengepcafdnalaaGreatDoor.uw ch S).env x)=svs at hg ⊢
    split at hg
    . rename_i r rest
      split at hg
      . rename_i T cs hb
        obtain⟨h1,h2⟩:=Qp hg
        rw[zk]at h1
        simp only[JT,Yv,hb]
        exact⟨⟨h1.1,h1.2,(mk _ _ h2).1⟩,(mk _ _ h2).2⟩
      cases hg
    rename_i hne
    obtain⟨h1,h2⟩:=Qp hg
    have hne':∀r rest,svs ≠ .ptr r 0::rest:=fun r rest e=>hne r rest e
    rw[J9 hne',JP hne']
    exact⟨⟨h1,(mk _ _ h2).1⟩,(mk _ _ h2).2⟩
   -- the call,at the state in which all is resolved
   have hcall:Qbf D (res ops a S) k (args.toList.map fun x=>unw (ev (YtengepcafdnalaaGreatDoor.uw ch S).env x)) fun s' S'=>s'=s/\S'=res ops a S:=by
    unfold Qbf
    simp only[hcl]
    have:=Qdv (S:=res ops a S) hck.1
    rw[show (res ops a S).heap=(YtengepcafdnalaaGreatDoor.uw ch S).heap from rfl]at this
    rw[hck.2]at this
    exact Qfq this
   obtain⟨⟨fn,code,k1,k2,k3⟩,hh⟩:=Qfo hD h.1 (args:=args.map a.eval) (by simp) (fun i s v e1 e2=>Qfm hS hcd i s v e1 (by rw[<-Array.toList_map];simpa using e2)) hcall
   have hval:a.eval f=.func (.func k) #[] #[]:=by
    have hv:=hS.ev f
    unfold QdB at hk
    split at hk
    rename_i k' x y he
    split at hk
    rename_i hsz
    cases hk
    rw[he]at hv
    rw[hv.op_inv]
    have h1:x = #[]:=xo hsz.1
    have h2:y = #[]:=xo hsz.2
    rw[h1,h2]
    cases hk
    cases hk
   have hrun:(execOp a.eval o).run zf w=.ok (.enter k (args.map a.eval)) w:=by
    have hne : fn.name ≠ "runtime.NumGoroutine" := by simpa using k2
    unfold execOp
    rw[hop]
    simp[resolve,hval,Deferred.ofValue,invoke,callFunc,k1,k3,hne]
   unfold Oper.wp
   rw[hrun,Oper.upon_enter]
   refine hh.mono fun e w' ⟨v,he,ω',s',S',⟨q1,q2⟩,q3,q4⟩=>?_
   subst he;subst q1;subst q2
   exact hN v w' ω' ⟨q3,h.2⟩ q4
   cases hg
   cases hg
 all_goals exact quiet hg
end
end
end Go.Proofs.YtengepcafdnalaaGreatDoor
