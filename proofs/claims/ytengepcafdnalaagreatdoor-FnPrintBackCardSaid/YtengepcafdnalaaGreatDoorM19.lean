/-
  Parts of the proof that the law FnPrintBack holds for every input (texts Hb, Fb). Conditions: none.
-/
import Derived.Test.YtengepcafdnalaaGreatDoorM18
import Derived.Scope
namespace Go.Proofs.YtengepcafdnalaaGreatDoor
open _root_.Array renaming getElem?_eq_some_iff → zA, getElem?_setIfInBounds_ne → zH
open _root_.Bool renaming and_eq_true → zk, or_true → zZ
open _root_.List renaming mem_cons → zu, mem_singleton → zW, not_mem_nil → zJ
open _root_.Nat renaming zero_add → xj, lt_succ_of_lt → xx, lt_succ_self → xC
open _root_.Option renaming map_eq_some_iff → zi
open Go.Proofs.Tryz renaming prog → zf
section
open Go Go.RowKit
section
variable {g0:Glob} {w0:World} {M:Nat->Prop} {ω:Wit} {S:SS} {a:Act} {w:World} {ops:Array Oper} {D:Cx}
theorem Qb3 {a:Act} {d:Tmp} {v:Value} (h:a.tmps[d]? = some v):a.put (some d) v=a:=by
 obtain⟨t,df⟩:=a
 simp only[Act.put]
 congr 1
 apply Array.ext_getElem?
 intro i
 by_cases hi:d=i
 subst hi
 have hlt:=(zA.1 h).1
 rw[h]
 simp at hlt
 simp[hlt]
 rw[zH hi]
theorem QnB {s:SV} (h:noGk s=true):rsv ops a s=s:=by
 unfold rsv
 split
 cases h
 rfl
theorem QrI {o:Oper} {N:Act->World->Prop} {Q:Exit->Act->World->Prop} (h:o.wp zf a w N Q) :
 o.wp zf a w (fun a' w'=>(∃v,a'.tmps=(a.put o.dst v).tmps)/\N a' w') Q:=by
 unfold Oper.wp at *
 generalize (execOp a.eval o).run zf w=r at *
 cases r with
 | ok n w'=>
  cases n<;>simp only[Oper.upon]at h ⊢
  case value v=>exact⟨⟨v,rfl⟩,h⟩
  case skip=>exact⟨⟨undef,rfl⟩,h⟩
  case defer d=>exact⟨⟨undef,by cases o.dst<;>rfl⟩,h⟩
  case enter f args=>exact Calls.mono h (fun e w'' he=>by cases e<;>first | exact⟨⟨_,rfl⟩,he⟩ | exact he)
  case row r args=>exact Rows.mono h (fun v _ he=>⟨⟨v,rfl⟩,he⟩)
 | halt x w'=>cases x<;>simp only[Oper.upon]at h ⊢ <;> exact h
theorem QbN {i:Nat} {d:Option Tmp} (hf:Qjw (ops.toList.map (·.dst)) i d=true) {a':Act} {v:Value} (ha:a'.tmps=(a.put d v).tmps) {k:Nat×Bool} (hk:k.1<i):yld ops a' k=yld ops a k:=by
 have:=QgW (a:=a) hf (v:=v) hk
 unfold yld at this ⊢
 rw[ha]
 exact this
theorem QfT {i:Nat} {d:Option Tmp} (hd:Jr (ops.toList.map (·.dst)) i=d) (b:Bool) (hlt:∀e,d=some e->e<a.tmps.size):yld ops (a.put d undef) (i,b)=false:=by
 unfold yld
 cases d with
 | none=>
  have hd':(ops[i]?).bind (·.dst)=none:=by
   have:=Ji ops ops.toList 0 i (by simp)
   rw[hd]at this
   simpa using this.symm
  simp[yielded,hd']
 | some e=>
  rw[YR hd,Act.put_some,Array.getElem?_setIfInBounds_self_of_lt (hlt e rfl)]
  simp[undef]
theorem Qbk (hD:Qa D) {Q:Exit->Act->World->Prop} {K:SS->Prop} (hQ:∀a w,Nx g0 w0 M K a w->Q .normal a w) :
 ∀(l:List Oper) (sk:List (Nat×Bool)) (i:Nat) (S:SS) (ω:Wit) (a:Act) (w:World),(∀m,l[m]? = ops[i+m]?)->(∀k∈sk,k.1<i/\yld ops a k=false)->GI g0 w0 M ops i ω S a w ->
  vcG D (ops.toList.map (·.dst)) sk i l S K->wpList zf ops Q l a w
 | [],sk,i,S,ω,a,w,_,_,h,hv=>hQ _ _ ⟨ω,S,by unfold vcG at hv;exact hv,h.sim⟩
 | o::rest,sk,i,S,ω,a,w,hl,hs,h,hv=>by
  unfold vcG at hv
  obtain⟨hf,hv⟩:=Ua hv
  unfold wpList
  have hl':∀m,rest[m]? = ops[i+1+m]?:=fun m=>by
   have:=hl (m+1)
   rw[show i+(m+1)=i+1+m from by omega]at this
   exact this
  have hdi:Jr (ops.toList.map (·.dst)) i=o.dst:=by
   have h1:=Ji ops ops.toList 0 i (by simp)
   have h2:=hl 0
   rw[h1,xj]
   rw[Nat.add_zero]at h2
   rw[<-h2]
   rfl
  have keep:∀{a':Act} {v:Value},a'.tmps=(a.put o.dst v).tmps->∀k∈sk,k.1<i+1/\yld ops a' k=false:=by
   intro a' v ha k hk
   obtain⟨h1,h2⟩:=hs k hk
   exact⟨xx h1,by rw[QbN hf ha h1];exact h2⟩
  -- a mover,from a plain state
  have mover:∀{S1:SS} {sk':List (Nat×Bool)},(∀k∈sk',k.1<i/\yld ops a k=false)->Sim g0 w0 M ω S1 a w->ov D S1 o.op (fun s S'=>vcG D (ops.toList.map (·.dst)) sk' (i+1) rest (clr (putD S' o.dst s)) K)->o.wp zf a w (wpList zf ops Q rest) Q:=by
   intro S1 sk' hs' hS hv
   refine Oper.wp_mono (fun a' w' ⟨⟨v,hv'⟩,ω',S'',⟨s,S',h1,h2⟩,h3⟩=>?_) (QrI (QtY hD hS hv))
   subst h2
   exact Qbk hD hQ rest sk' (i+1) _ ω' a' w' hl' (fun k hk=>by
    obtain⟨q1,q2⟩:=hs' k hk
    exact⟨xx q1,by rw[QbN hf hv' q1];exact q2⟩) (GI.clr h3.clr) h1
  split at hv
  rename_i hg
  rw[if_pos (by simp[Region.wanted,hg])]
  left
  cases hm:isHv D o.op with
  | true=>rw[hm]at hv;exact mover hs h.sim hv
  | false=>
   rw[hm]at hv
   simp only[cond_false]at hv
   split at hv
   rename_i ps s he
   obtain⟨hp,hv⟩:=Qa2 hv
   obtain⟨hn,hv⟩:=Ua hv
   refine Quj hD h (ch:=[]) (fun k hk=>by cases hk) he hp fun v w' ω' h' hr=>?_
   refine Qbk hD hQ rest sk (i+1) _ ω' _ w' hl' (keep (v:=v) rfl) (h'.put hf (by rw[QnB hn];exact hr) fun j b t e=>?_) hv
   subst e;cases hn
   exact hv.elim
  rename_i j b hg
  have hw:Region.wanted o (yielded ops a.tmps)=yld ops a (j,b):=by simp[Region.wanted,hg,yld]
  rw[hw]
  -- this operation is left out: what is known then
  have out:∀{sk':List (Nat×Bool)} {S1:SS},(∀k∈sk',k.1<i/\yld ops a k=false)->(∀e,o.dst=some e->e<a.tmps.size) ->
   ∀k∈(i,true)::(i,false)::sk',k.1<i+1/\yld ops (a.put o.dst undef) k=false:=by
   intro sk' S1 hs' hlt k hk
   simp only[zu]at hk
   rcases hk with rfl | rfl | hk
   . exact⟨xC i,QfT hdi true hlt⟩
   . exact⟨xC i,QfT hdi false hlt⟩
   obtain⟨q1,q2⟩:=hs' k hk
   exact⟨xx q1,by rw[QbN (v:=undef) hf rfl q1];exact q2⟩
  have bound:(∀e,o.dst=some e->e<a.tmps.size)\/∃e,o.dst=some e/\a.tmps.size<=e:=by
   cases hd:o.dst with
   | none=>exact .inl fun e he=>by cases he
   | some e=>
    by_cases hlt:e<a.tmps.size
    exact .inl fun e' he=>by cases he;exact hlt
    exact .inr ⟨e,rfl,Nat.le_of_not_lt hlt⟩
  have out':∀{sk':List (Nat×Bool)},(∀k∈sk',k.1<i/\yld ops a k=false)->∀k∈(i,true)::(i,false)::sk',k.1<i+1/\yld ops (a.put o.dst undef) k=false:=by
   intro sk' hs'
   rcases bound with hb | ⟨e,he,hb⟩
   exact out (S1:=S) hs' hb
   intro k hk
   have hno:∀c,yld ops (a.put o.dst undef) (i,c)=false:=by
    intro c
    unfold yld
    rw[YR (by rw[hdi,he]) ,he,Act.put_some]
    simp[Array.getElem?_eq_none (show (a.tmps.setIfInBounds e undef).size<=e from by simpa using hb)]
   simp only[zu]at hk
   rcases hk with rfl | rfl | hk
   exact⟨xC i,hno true⟩
   exact⟨xC i,hno false⟩
   obtain⟨q1,q2⟩:=hs' k hk
   exact⟨xx q1,by rw[QbN (v:=undef) hf rfl q1];exact q2⟩
  cases hmk:QnU sk j b with
  | true=>
   rw[hmk]at hv
   simp only[cond_true]at hv
   simp only[QnU,List.any_eq_true,zk,beq_iff_eq]at hmk
   obtain⟨k,h1,h2,h3⟩:=hmk
   have hy:yld ops a (j,b)=false:=by rw[show (j,b)=k from by rw[<-h2,<-h3]];exact (hs k h1).2
   rw[hy,if_neg (by simp)]
   exact Qbk hD hQ rest _ (i+1) _ ω _ w hl' (out' hs) (h.put hf (s:=.undef) (v:=undef) (.undef _) fun _ _ _ e=>by cases e) hv
  | false=>
  rw[hmk]at hv
  simp only[cond_false]at hv
  cases hm:isHv D o.op with
  | true=>
   rw[hm]at hv
   simp only[cond_true]at hv
   split at hv
   rename_i d hd
   split at hv
   rename_i c he
   obtain⟨hji,hv⟩:=Ua hv
   have hji':j<i:=by simpa using hji
   have hct:=h.sim.getT d
   rw[he]at hct
   have hx:a.tmps[d]? = some (.bool c):=by
    have:=hct.bool_inv
    cases hx:a.tmps[d]? with
    | none=>rw[hx]at this;cases this
    | some v=>rw[hx]at this;simp only[Option.getD_some]at this;rw[this]
   have hy:∀b,yld ops a (j,b)=(c==b):=fun b=>by simp[yld,YR hd,hx]
   rw[hy]
   by_cases hcb:c=b
   rw[if_pos (by simp[hcb])]
   left
   refine mover ?_ ?_ (hv.1 hcb)
   intro k hk
   rcases zu.1 hk with rfl | hk
   exact⟨hji',by rw[hy];subst hcb;cases c<;>rfl⟩
   exact hs k hk
   have h1:=h.uw (ch:=[(j,b)]) (fun k hk=>by simp only[zW]at hk;rw[hk,hy];simp[hcb])
   have h2:=h1.put (s:=.bool b) (v:=.bool c) (by rw[hcb];exact .bool b) d
   rw[Qb3 hx]at h2
   exact h2
   rw[if_neg (by simp[hcb])]
   have hc':c = !b:=by cases c<;>cases b<;>first | rfl | exact absurd rfl hcb
   have h2:=h.sim.put (s:=.bool (!b)) (v:=.bool c) (by rw[hc'];exact .bool _) d
   rw[Qb3 hx]at h2
   refine Qbk hD hQ rest _ (i+1) _ ω _ w hl' (out' (sk':=(j,b)::sk) fun k hk=>?_) (GI.clr (h2.putD (.undef undef) o.dst).clr) (hv.2 hc')
   rcases zu.1 hk with rfl | hk
   exact⟨hji',by rw[hy];simpa using hcb⟩
   exact hs k hk
   exact hv.elim
   exact hv.elim
  | false=>
   rw[hm]at hv
   simp only[cond_false]at hv
   split at hv
   rename_i ps s he
   obtain⟨hj,hv⟩:=Ua hv
   obtain⟨hp,hv⟩:=QhZ hv
   cases hy:yld ops a (j,b) with
   | true=>
    rw[if_pos rfl]
    left
    have hch:=h.chain 16 j b hy
    have hps:Yj ps:=hp (h.cval _ hch fun j1 b1 d1 j2 b2 s2 hm1 hd1 he1=>by
     have h1:=hch _ hm1
     cases hc:yld ops a (j2,b2) with
     | true=>rfl
     | false=>
      have hu:=(h.2 d1 j2 b2 s2 (QaZ he1 (by simp))).2 hc
      simp only[yld,YR hd1,hu,undef]at h1
      cases h1)
    refine Quj hD h hch he hps fun v w' ω' h' hr=>?_
    refine Qbk hD hQ rest sk (i+1) _ ω' _ w' hl' (keep (v:=v) rfl) (h'.put hf (s:=.gk j b s) (by simp only[rsv,hy];exact hr) fun j1 b1 t e=>?_) hv
    cases e
    exact⟨by simpa using hj,fun hn=>by rw[hy]at hn;cases hn⟩
   | false=>
    rw[if_neg (by simp)]
    refine Qbk hD hQ rest sk (i+1) _ ω _ w hl' (keep (v:=undef) rfl) (h.put hf (s:=.gk j b s) (v:=undef) (by simp only[rsv,hy];exact .undef _) fun j1 b1 t e=>?_) hv
    cases e
    exact⟨by simpa using hj,fun _=>rfl⟩
   exact hv.elim
def vcP (D:Cx):List Oper->SS->(SS->Prop)->Prop
 | [],S,K=>K S
 | o::rest,S,K=>bb o.guard.isNone (ov D S o.op fun s S'=>vcP D rest (putD S' o.dst s) K)
theorem QoB (hD:Qa D) {Q:Exit->Act->World->Prop} {K:SS->Prop} (hQ:∀a w,Nx g0 w0 M K a w->Q .normal a w) :
 ∀(l:List Oper) (S:SS) (ω:Wit) (a:Act) (w:World),Sim g0 w0 M ω S a w->vcP D l S K->wpList zf ops Q l a w
 | [],S,ω,a,w,h,hv=>hQ _ _ ⟨ω,S,hv,h⟩
 | o::rest,S,ω,a,w,h,hv=>by
  unfold vcP at hv
  obtain⟨hg,hv⟩:=Ua hv
  unfold wpList
  rw[if_pos (by simp[Region.wanted,Option.isNone_iff_eq_none.1 hg])]
  left
  refine Oper.wp_mono (fun a' w' ⟨ω',S'',⟨s,S',h1,h2⟩,h3⟩=>?_) (QtY hD h hv)
  subst h2
  exact QoB hD hQ rest _ ω' a' w' h3 h1
def anyG:List Oper->Bool
 | []=>false
 | o::l=>o.guard.isSome||anyG l
def vcQ (D:Cx) (l:List Oper) (S:SS) (K:SS->Prop):Prop:=
 cond (anyG l) (vcG D (l.map (·.dst)) [] 0 l (clr S) K) (vcP D l S K)
theorem Quq (hD:Qa D) {Q:Exit->Act->World->Prop} {K:SS->Prop} (hQ:∀a w,Nx g0 w0 M K a w->Q .normal a w) (h:Sim g0 w0 M ω S a w) (hv:vcQ D ops.toList S K):wpList zf ops Q ops.toList a w:=by
 unfold vcQ at hv
 cases hg:anyG ops.toList with
 | true=>rw[hg]at hv;exact Qbk hD hQ ops.toList [] 0 _ ω a w (fun m=>by simp) (fun k hk=>by cases hk) (GI.clr h.clr) hv
 | false=>rw[hg]at hv;exact QoB hD hQ ops.toList S ω a w h hv
def Qoa (e:Env):List Operand->List Prop
 | []=>[]
 | x::l=>match ev e x with
  | .gd c _=>(c=true)::Qoa e l
  | _=>Qoa e l
def QfC (D:Cx) (ds:List (Option Tmp)):List Oper->SS->(SS->Prop)->Prop
 | [],S,K=>K S
 | o::rest,S,K=>match o.guard with
  | none=>match dq D S o.op with
   | some (ps,v)=>QdE ps (QfC D ds rest (putD S o.dst v) K)
   | none=>False
  | some (j,b)=>match UZ ds S j with
   | .bool c=>match dq D S o.op with
    | some (ps,v)=>QqT [(c,b)] ps (QfC D ds rest (putD S o.dst (.gd (c==b) v)) K)
    | none=>False
   | .gd e (.bool c)=>match dq D S o.op with
    | some (ps,v)=>QqT [(e,true),(c,b)] ps (QfC D ds rest (putD S o.dst (.gd (e&&(c==b)) v)) K)
    | none=>False
   | _=>False
where
 /-- What an operation that turns nothing needs and yields. -/
 dq (D:Cx) (S:SS) (op:Op):QR:=
  match op with
  | .alloc _=>none
  | .store _ _ _=>none
  | .buildSlice T n ps=>match bsq T n (ps.toList.map fun p=>(p.1,ev S.env p.2)) with
   | some x=>some ([],.sl x)
   | none=>cond (Qhu T n (ps.toList.map fun p=>(p.1,ev S.env p.2))) (some ([],.undef)) none
  | .call c=>match c.callee with
   | .value (.func k)=>match clk D k with
    | some (.pure g)=>qg S g c.args.toList
    | _=>none
   | .value _=>none
   | .invoke r m=>(QnT D S r m c.args.toList).map fun (q:List Prop×SV)=>(Qoa S.env [r]++q.1,q.2)
   | _=>qe S (.call c)
  | op=>qe S op
 qg (S:SS) (g:List SV->Option SB->QR) (l:List Operand):QR:=
  (match l.map fun x=>unw (ev S.env x) with
   | .ptr r 0::rest=>match hlk S.heap r with
    | some (.blk T cs)=>Vl (SV.lts 0 rest&&SV.lts 0 cs) (g (.ptr 0 0::rest) (some (.blk T cs)))
    | _=>none
   | svs=>Vl (SV.lts 0 svs) (g svs none)).map fun (r:List Prop×SV)=>(Qoa S.env l++r.1,r.2)
theorem Qd1 {e:Env}:∀{l:List Operand},Yj (Qoa e l)->QfR e l
 | [],_=>trivial
 | x::l,h=>by
  unfold Qoa at h
  unfold QfR
  split at h
  rename_i hx;rw[hx];exact⟨h.1,Qd1 h.2⟩
  rename_i hne
  refine⟨?_,Qd1 h⟩
  unfold cnd
  split
  rename_i c s hx;exact (hne _ _ hx).elim
  trivial
theorem Qq9 {S:SS} {op:Op} {ps:List Prop} {v:SV} (h:QfC.dq D S op=some (ps,v)):(Yj ps->dc D S op)/\dv D S op=v/\JZ D op=false:=by
 have quiet:qe S op=some (ps,v)->(Yj ps->qp S op)/\qr S op=v:=by
  intro hq
  unfold qp qr
  rw[hq]
  exact⟨fun hp=>hp,rfl⟩
 cases op<;>simp only[QfC.dq,reduceCtorEq]at h
 case call c=>
  obtain⟨callee,args,tys⟩:=c
  cases callee with
  | builtin b=>obtain⟨h1,h2⟩:=quiet h;exact⟨h1,h2,rfl⟩
  | invoke r m=>
   obtain⟨⟨ps0,v0⟩,hq,h0⟩:=zi.1 h
   simp only[Prod.mk.injEq]at h0
   obtain⟨rfl,rfl⟩:=h0
   refine⟨fun hp=>?_,?_,rfl⟩
   obtain⟨hp0,hp1⟩:=JW hp
   have:=Qd1 hp0
   simp only[dc,hq]
   exact⟨this.1,hp1⟩
   simp only[dv,hq]
  | value f=>
   cases f<;>simp only[reduceCtorEq]at h
   rename_i k
   split at h
   rename_i g hg
   have hf:QdB (ev S.env (.func k))=some k:=by simp[ev,QdB]
   unfold QfC.qg at h
   obtain⟨⟨ps0,v0⟩,hh,h0⟩:=zi.1 h
   clear h
   have h:=hh
   clear hh
   simp only[Prod.mk.injEq]at h0
   obtain⟨rfl,rfl⟩:=h0
   refine⟨?_,?_,by simp only[JZ,hg]⟩
   intro hp
   obtain⟨hp0,hp⟩:=JW hp
   have hcd:=Qd1 hp0
   simp only[dc,hf]
   refine⟨hcd,?_⟩
   unfold Qh4
   simp only[hg,Qba]
   have mk:∀svs b,g svs b=some (ps0,v0)->Qb6 g svs b:=by
    intro svs b e
    unfold Qb6
    rw[e]
    exact hp
   generalize (args.toList.map fun x=>unw (ev S.env x))=svs at h ⊢
   split at h
   split at h
   rename_i hb
   obtain⟨h1,h2⟩:=Qp h
   rw[zk]at h1
   simp only[JT,hb]
   exact⟨h1.1,h1.2,mk _ _ h2⟩
   cases h
   rename_i hne
   obtain⟨h1,h2⟩:=Qp h
   rw[J9 (fun r rest e=>hne r rest e)]
   exact⟨h1,mk _ _ h2⟩
   simp only[dv,hf]
   unfold Qff
   simp only[hg,Qba]
   have mk:∀svs b,g svs b=some (ps0,v0)->Qb5 g svs b=v0:=by
    intro svs b e
    unfold Qb5
    rw[e]
   generalize (args.toList.map fun x=>unw (ev S.env x))=svs at h ⊢
   split at h
   split at h
   rename_i hb
   obtain⟨h1,h2⟩:=Qp h
   simp only[Yv,hb]
   exact mk _ _ h2
   cases h
   rename_i hne
   obtain⟨h1,h2⟩:=Qp h
   rw[JP (fun r rest e=>hne r rest e)]
   exact mk _ _ h2
   cases h
 case buildSlice T n qs=>
  split at h
  rename_i x h1
  cases h
  exact⟨fun _=>by simp only[dc,h1];rfl,by simp only[dv,h1],rfl⟩
  rename_i h1
  obtain⟨hn,h2⟩:=V2 h
  cases h2
  exact⟨fun _=>by simp only[dc,hn,zZ],by simp only[dv,h1],rfl⟩
 all_goals (obtain⟨h1,h2⟩:=quiet h;exact⟨h1,h2,rfl⟩)
theorem Qly {ds:List (Option Tmp)}:∀{l:List Oper} {S:SS} {K:SS->Prop},QfC D ds l S K->vcD D ds [(S.heap,S.nx)] l S K
 | [],S,K,h=>h
 | o::l,S,K,h=>by
  have hp:∀(S:SS) (d:Option Tmp) (s:SV),(putD S d s).heap=S.heap/\(putD S d s).nx=S.nx:=fun S d s=>by cases d<;>exact⟨rfl,rfl⟩
  have all:dc D S o.op->JZ D o.op=false->Qcq D [(S.heap,S.nx)] S o.op:=by
   intro hd hm
   unfold Qcq
   rw[hm]
   exact⟨⟨hd,rfl⟩,trivial⟩
  have next:∀s,QfC D ds l (putD S o.dst s) K->vcD D ds [(S.heap,S.nx)] l (putD S o.dst s) K:=by
   intro s hs
   have:=Qly hs
   rw[(hp S o.dst s).1,(hp S o.dst s).2]at this
   exact this
  unfold QfC at h
  unfold vcD
  split at h
  rename_i hg
  split at h
  rename_i ps v he
  obtain⟨h1,h2⟩:=Qa2 h
  obtain⟨k1,k2,k3⟩:=Qq9 he
  first | rw[hg] | skip
  simp only
  rw[Uy k3,k2]
  exact⟨all (k1 h1) k3,next _ h2⟩
  exact h.elim
  rename_i j b hg
  split at h
  rename_i c hc
  split at h
  rename_i ps v he
  obtain⟨h1,h2⟩:=QhZ h
  first | rw[hg] | skip
  simp only[hc]
  obtain⟨k1,k2,k3⟩:=Qq9 he
  rw[k2]
  exact⟨k3,fun e=>all (k1 (h1 fun c' b' hm=>by simp only[zW,Prod.mk.injEq]at hm;rw[hm.1,hm.2,e])) k3,next _ h2⟩
  exact h.elim
  rename_i e c hc
  split at h
  rename_i ps v he
  obtain⟨h1,h2⟩:=QhZ h
  first | rw[hg] | skip
  simp only[hc]
  obtain⟨k1,k2,k3⟩:=Qq9 he
  rw[k2]
  exact⟨k3,fun e0 e1=>all (k1 (h1 fun c' b' hm=>by
   simp only[zu,Prod.mk.injEq,zJ,or_false]at hm
   rcases hm with hm | hm
   rw[hm.1,hm.2,e0]
   rw[hm.1,hm.2,e1])) k3,next _ h2⟩
  exact h.elim
  exact h.elim
end
end
section
open Go Go.RowKit
def VC (c:Code) (S:SS) (Q:Exit->SS->Prop):Prop:=
 ∀(g0:Glob) (w0:World) (M:Nat->Prop) (ω:Wit) (a:Act) (w:World),Sim g0 w0 M ω S a w->c.wp zf (fun e a' w'=>∃S',Q e S'/\∃ω',Sim g0 w0 M ω' S' a' w') a w
def Qix (f:SS->Prop) (Q:Exit->SS->Prop):Exit->SS->Prop
 | .normal,S=>f S
 | e,S=>Q e S
def blkQ (id:Nat) (Q:Exit->SS->Prop):Exit->SS->Prop
 | .exit i,S=>if i=id then Q .normal S else Q (.exit i) S
 | e,S=>Q e S
def V9 (S S':SS):Prop:=∀(g0:Glob) (w0:World) (M:Nat->Prop) (ω:Wit) (a:Act) (w:World),Sim g0 w0 M ω S a w->∃ω',Sim g0 w0 M ω' S' a w
theorem V9.refl (S:SS):V9 S S:=fun _ _ _ ω _ _ h=>⟨ω,h⟩
theorem V9.trans {S1 S2 S3:SS} (h:V9 S1 S2) (k:V9 S2 S3):V9 S1 S3:=fun g0 w0 M ω a w hS=>let ⟨ω',h1⟩:=h g0 w0 M ω a w hS;k g0 w0 M ω' a w h1
theorem VC.mono {c:Code} {S:SS} {Q Q':Exit->SS->Prop} (h:VC c S Q) (hq:∀e S,Q e S->Q' e S):VC c S Q':=
 fun g0 w0 M ω a w hS=>wp_mono (h g0 w0 M ω a w hS) fun e a' w' ⟨S',h1,h2⟩=>⟨S',hq e S' h1,h2⟩
theorem VC.le {c:Code} {S S':SS} {Q:Exit->SS->Prop} (hl:V9 S S') (h:VC c S' Q):VC c S Q:=
 fun g0 w0 M ω a w hS=>let ⟨ω',h1⟩:=hl g0 w0 M ω a w hS;h g0 w0 M ω' a w h1
theorem VC.skip {S:SS} {Q:Exit->SS->Prop} (h:Q .normal S):VC .skip S Q:=fun _ _ _ ω _ _ hS=>wp_skip ⟨S,h,ω,hS⟩
theorem VC.label {l:Nat} {S:SS} {Q:Exit->SS->Prop} (h:Q .normal S):VC (.label l) S Q:=fun _ _ _ ω _ _ hS=>wp_label ⟨S,h,ω,hS⟩
theorem VC.exit {i:Nat} {S:SS} {Q:Exit->SS->Prop} (h:Q (.exit i) S):VC (.exit i) S Q:=fun _ _ _ ω _ _ hS=>wp_exit ⟨S,h,ω,hS⟩
theorem VC.goto {l:Nat} {S:SS} {Q:Exit->SS->Prop} (h:Q (.goto l) S):VC (.goto l) S Q:=fun _ _ _ ω _ _ hS=>wp_goto ⟨S,h,ω,hS⟩
theorem VC.ret {S:SS} {Q:Exit->SS->Prop} (h:Q .ret S):VC .ret S Q:=fun _ _ _ ω _ _ hS=>wp_ret ⟨S,h,ω,hS⟩
theorem VC.seq {x y:Code} {S:SS} {Q:Exit->SS->Prop} (h:VC x S (Qix (fun S'=>VC y S' Q) Q)):VC (.seq x y) S Q:=by
 intro g0 w0 M ω a w hS
 refine wp_seq (wp_mono (h g0 w0 M ω a w hS) fun e a' w' ⟨S',h1,ω',h2⟩=>?_)
 cases e with
 | normal=>exact h1 g0 w0 M ω' a' w' h2
 | exit i=>exact⟨S',h1,ω',h2⟩
 | goto l=>exact⟨S',h1,ω',h2⟩
 | ret=>exact⟨S',h1,ω',h2⟩
 | panic ch=>exact⟨S',h1,ω',h2⟩
 | outgrown=>exact⟨S',h1,ω',h2⟩
def brK (s:SV) (p q:Prop):Prop:=
 match s with
 | .bool b=>(b=true->p)/\(b=false->q)
 | _=>False
theorem VC.cond {c:Operand} {x y:Code} {S:SS} {Q:Exit->SS->Prop} (h:arg S.env c fun s=>brK s (VC x S Q) (VC y S Q)):VC (.cond c x y) S Q:=by
 intro g0 w0 M ω a w hS
 obtain⟨s,h1,h2⟩:=hS.arg h
 unfold brK at h1
 split at h1
 rename_i b
 have:=h2.bool_inv
 exact wp_cond_split this (fun hb=>h1.1 hb g0 w0 M ω a w hS) (fun hb=>h1.2 hb g0 w0 M ω a w hS)
 exact h1.elim
theorem VC.block {id:Nat} {c:Code} {S:SS} {Q:Exit->SS->Prop} (h:VC c S (blkQ id Q)):VC (.block id c) S Q:=by
 intro g0 w0 M ω a w hS
 refine wp_block (wp_mono (h g0 w0 M ω a w hS) fun e a' w' ⟨S',h1,ω',h2⟩=>?_)
 cases e with
 | exit i=>
  simp only[Exit.inBlock]
  simp only[blkQ]at h1
  split at h1
  rename_i hi;rw[if_pos hi];exact⟨S',h1,ω',h2⟩
  rename_i hi;rw[if_neg hi];exact⟨S',h1,ω',h2⟩
 | normal=>exact⟨S',h1,ω',h2⟩
 | goto l=>exact⟨S',h1,ω',h2⟩
 | ret=>exact⟨S',h1,ω',h2⟩
 | panic ch=>exact⟨S',h1,ω',h2⟩
 | outgrown=>exact⟨S',h1,ω',h2⟩
def VLp (c:Code) (S:SS) (Q:Exit->SS->Prop):Prop:=
 ∀(g0:Glob) (w0:World) (M:Nat->Prop) (ω:Wit) (a:Act) (w:World),Sim g0 w0 M ω S a w->∀(b:Go.Frame) (k:List Item) (cs:List Go.Frame),
  ∃e a' w',(∃S',Q e S'/\∃ω',Sim g0 w0 M ω' S' a' w')/\Arrives zf (lone (b.at a (.code c::.inLoop c::k)) cs w) b k cs e a' w'
theorem VLp.le {c:Code} {S S':SS} {Q:Exit->SS->Prop} (hl:V9 S S') (h:VLp c S' Q):VLp c S Q:=
 fun g0 w0 M ω a w hS=>let ⟨ω',h1⟩:=hl g0 w0 M ω a w hS;h g0 w0 M ω' a w h1
theorem VLp.step {c:Code} {S:SS} {Q:Exit->SS->Prop} (h:VC c S (Qix (fun S'=>VLp c S' Q) Q)):VLp c S Q:=by
 intro g0 w0 M ω a w hS b k cs
 obtain⟨e,a₁,w₁,⟨S',hq,ω',hS'⟩,harr⟩:=h g0 w0 M ω a w hS b (.inLoop c::k) cs
 cases e with
 | normal=>
  obtain⟨e₂,a₂,w₂,hq₂,harr₂⟩:=hq g0 w0 M ω' a₁ w₁ hS' b k cs
  exact⟨e₂,a₂,w₂,hq₂,.of_steps (Steps.trans harr (.one step_inLoop)) harr₂⟩
 | exit id=>exact⟨_,a₁,w₁,⟨S',hq,ω',hS'⟩,.pass (x:=.inLoop c) rfl (fun _ _=>.inl (by simp)) harr⟩
 | goto l=>exact⟨_,a₁,w₁,⟨S',hq,ω',hS'⟩,.pass (x:=.inLoop c) rfl (fun _ _=>.inl (by simp)) harr⟩
 | ret=>exact⟨_,a₁,w₁,⟨S',hq,ω',hS'⟩,.pass (x:=.inLoop c) rfl (fun _ _=>.inl (by simp)) harr⟩
 | panic ch=>exact⟨_,a₁,w₁,⟨S',hq,ω',hS'⟩,.pass (x:=.inLoop c) rfl (fun _ _=>.inl (by simp)) harr⟩
 | outgrown=>exact⟨_,a₁,w₁,⟨S',hq,ω',hS'⟩,.pass (x:=.inLoop c) rfl (fun _ _=>.inl (by simp)) harr⟩
theorem VC.ofLp {c:Code} {S:SS} {Q:Exit->SS->Prop} (h:VLp c S Q):VC (.loop c) S Q:=by
 intro g0 w0 M ω a w hS b k cs
 obtain⟨e,a',w',hq,harr⟩:=h g0 w0 M ω a w hS b k cs
 exact⟨e,a',w',hq,.of_steps (.one step_loop) harr⟩
def VSp (c x:Code) (S:SS) (Q:Exit->SS->Prop):Prop:=
 ∀(g0:Glob) (w0:World) (M:Nat->Prop) (ω:Wit) (a:Act) (w:World),Sim g0 w0 M ω S a w->∀(b:Go.Frame) (k:List Item) (cs:List Go.Frame),
  ∃e a' w',(∃S',Q e S'/\∃ω',Sim g0 w0 M ω' S' a' w')/\Arrives zf (lone (b.at a (.code x::.inScope c::k)) cs w) b k cs e a' w'
def scQ (c:Code) (Q:Exit->SS->Prop):Exit->SS->Prop
 | .goto l,S=>match findLabel c l with
  | some rest=>VSp c rest S Q
  | none=>Q (.goto l) S
 | e,S=>Q e S
theorem VSp.step {c x:Code} {S:SS} {Q:Exit->SS->Prop} (h:VC x S (scQ c Q)):VSp c x S Q:=by
 intro g0 w0 M ω a w hS b k cs
 obtain⟨e,a₁,w₁,⟨S',hq,ω',hS'⟩,harr⟩:=h g0 w0 M ω a w hS b (.inScope c::k) cs
 cases e with
 | normal=>exact⟨.normal,a₁,w₁,⟨S',hq,ω',hS'⟩,Steps.trans harr (.one step_inScope)⟩
 | exit id=>exact⟨.exit id,a₁,w₁,⟨S',hq,ω',hS'⟩,fun k' hk=>harr k' (by simp[exitTo,hk])⟩
 | goto l=>
  simp only[scQ]at hq
  cases hf:findLabel c l with
  | none=>
   rw[hf]at hq
   exact⟨.goto l,a₁,w₁,⟨S',hq,ω',hS'⟩,fun k' hk=>harr k' (by simp[gotoIn,hf,hk])⟩
  | some rest=>
   rw[hf]at hq
   obtain⟨e₂,a₂,w₂,hq₂,harr₂⟩:=hq g0 w0 M ω' a₁ w₁ hS' b k cs
   exact⟨e₂,a₂,w₂,hq₂,.of_steps (harr _ (by simp[gotoIn,hf])) harr₂⟩
 | ret=>exact⟨_,a₁,w₁,⟨S',hq,ω',hS'⟩,harr⟩
 | panic ch=>exact⟨_,a₁,w₁,⟨S',hq,ω',hS'⟩,harr⟩
 | outgrown=>exact⟨_,a₁,w₁,⟨S',hq,ω',hS'⟩,harr⟩
theorem VC.ofSp {c:Code} {S:SS} {Q:Exit->SS->Prop} (h:VSp c c S Q):VC (.scope c) S Q:=by
 intro g0 w0 M ω a w hS b k cs
 obtain⟨e,a',w',hq,harr⟩:=h g0 w0 M ω a w hS b k cs
 exact⟨e,a',w',hq,.of_steps (.one step_scope) harr⟩
def pim:List Nat->Nat->Nat
 | [],r=>r
 | x::_,0=>x
 | _::l,r+1=>pim l r
def leV (π:List Nat) (n:Nat) (s s':SV):Prop:=
 match s' with
 | .undef=>True
 | .own r=>r<n/\s=.own (pim π r)
 | .ptr r o=>r<n/\s=.ptr (pim π r) o
 | s'=>s=s'/\(s'.lt 0=true\/s'=.cp [.ptr 0 0]/\pim π 0=0/\0<n)
def leR (π:List Nat) (n:Nat):List SV->List SV->Prop
 | [],[]=>True
 | s::l,s'::l'=>leV π n s s'/\leR π n l l'
 | _,_=>False
def leE (π:List Nat) (n:Nat):Env->Env->Prop
 | [],[]=>True
 | x::l,x'::l'=>leR π n x x'/\leE π n l l'
 | _,_=>False
def leH (π:List Nat) (hp:Heap) (n:Nat):Heap->Prop
 | []=>True
 | (r,b)::h=>(r<n/\hlk hp (pim π r)=some b/\b.low=true)/\leH π hp n h
def QkO:List Nat->Bool
 | []=>true
 | x::l => !l.contains x&&QkO l
end
end Go.Proofs.YtengepcafdnalaaGreatDoor
