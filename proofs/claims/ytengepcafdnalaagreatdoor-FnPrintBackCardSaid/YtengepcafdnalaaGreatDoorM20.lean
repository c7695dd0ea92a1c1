/-
  Parts of the proof that the law FnPrintBack holds for every input (texts Fc). Conditions: none.
-/
import Derived.Test.YtengepcafdnalaaGreatDoorM19
namespace Go.Proofs.YtengepcafdnalaaGreatDoor
open _root_.Array renaming getElem?_eq_getElem → zr
open _root_.Bool renaming and_eq_true → zk
open _root_.List renaming mem_cons_self → xc, replicate → zM, length_cons → zj, getElem?_cons_zero → zB, getElem?_replicate → xh, getElem?_eq_getElem → zg
open Go.Proofs.Tryz renaming prog → zf
section
open Go Go.RowKit
def leS (π:List Nat) (S S':SS):Prop:=leE π S'.nx S.env S'.env/\leH π S.heap S'.nx S'.heap/\QkO π=true/\S'.nx<=π.length/\pim π 0=0/\0<S'.nx
theorem Ql9 {π:List Nat} {n:Nat}:∀{l l':List SV},leR π n l l'->∀(i:Nat) (s':SV),lk1 l' i=some s'->∃s,lk1 l i=some s/\leV π n s s'
 | [],[],_,i,s',e=>by cases e
 | s::l,s0::l',h,0,s',e=>by
  simp only[lk1,Option.some.injEq]at e
  subst e
  exact⟨s,rfl,h.1⟩
 | s::l,s0::l',h,i+1,s',e=>Ql9 h.2 i s' e
 | [],s0::l',h,_,_,_=>h.elim
 | s::l,[],h,_,_,_=>h.elim
theorem Qma {π:List Nat} {n:Nat}:∀{e e':Env},leE π n e e'->∀(i j:Nat) (s':SV),lk2 e' i j=some s'->∃s,lk2 e i j=some s/\leV π n s s'
 | [],[],_,i,j,s',h=>by cases h
 | s::l,s0::l',h,0,j,s',e=>Ql9 h.1 j s' e
 | s::l,s0::l',h,i+1,j,s',e=>Qma h.2 i j s' e
 | [],s0::l',h,_,_,_,_=>h.elim
 | s::l,[],h,_,_,_,_=>h.elim
theorem UO {π:List Nat} {hp:Heap} {n:Nat}:∀{h:Heap},leH π hp n h->∀r b,hlk h r=some b->r<n/\hlk hp (pim π r)=some b/\b.low=true
 | [],_,r,b,e=>by cases e
 | (q,c)::h,hl,r,b,e=>by
  simp only[hlk]at e
  split at e
  rename_i hq
  cases e
  subst hq
  exact hl.1
  exact UO hl.2 r b e
theorem Qhq:∀(π:List Nat) (r:Nat),r<π.length->pim π r∈π
 | x::l,0,_=>xc ..
 | x::l,r+1,h=>List.mem_cons_of_mem _ (Qhq l r (by simpa using h))
theorem QlY:∀{π:List Nat},QkO π=true->∀r r',r<π.length->r'<π.length->pim π r=pim π r'->r=r'
 | x::l,h,0,0,_,_,_=>rfl
 | x::l,h,0,r'+1,_,h',e=>by
  simp only[QkO,zk,Bool.not_eq_true']at h
  have:=Qhq l r' (by simpa using h')
  simp only[pim]at e
  rw[<-e]at this
  rw[List.contains_eq_mem]at h
  simp[this]at h
 | x::l,h,r+1,0,h',_,e=>by
  simp only[QkO,zk,Bool.not_eq_true']at h
  have:=Qhq l r (by simpa using h')
  simp only[pim]at e
  rw[e]at this
  rw[List.contains_eq_mem]at h
  simp[this]at h
 | x::l,h,r+1,r'+1,h1,h2,e=>by
  simp only[QkO,zk]at h
  rw[QlY h.2 r r' (by simpa using h1) (by simpa using h2) e]
theorem QsE {π:List Nat} {n:Nat} {ω:Wit} {s s':SV} {v:Value} (hl:leV π n s s') (h:Rel ω s v):Rel { ω with ρ:=fun r=>ω.ρ (pim π r),σ:=fun r=>ω.σ (pim π r),n:=n } s' v:=by
 unfold leV at hl
 split at hl
 exact .undef v
 rename_i r
 obtain⟨h1,rfl⟩:=hl
 obtain⟨rfl,_⟩:=h.own_inv
 exact .own (ω:={ ω with ρ:=fun r=>ω.ρ (pim π r),σ:=fun r=>ω.σ (pim π r),n:=n }) r h1
 rename_i r o
 obtain⟨h1,rfl⟩:=hl
 obtain⟨rfl,_⟩:=h.ptr_inv
 exact .ptr (ω:={ ω with ρ:=fun r=>ω.ρ (pim π r),σ:=fun r=>ω.σ (pim π r),n:=n }) r o h1
 obtain⟨rfl,h2⟩:=hl
 rcases h2 with h2 | ⟨rfl,h3,h4⟩
 exact V0 h2 h rfl
 obtain⟨b,o,vs,T,rfl,k1,k2,k3⟩:=h.cp_inv
 refine .cp _ b o vs T k1 k2 fun j s u e1 e2=>?_
 match j,e1 with
 | 0,e1=>
  cases e1
  obtain⟨rfl,_⟩:=(k3 0 _ u rfl e2).ptr_inv
  have h5:=Rel.ptr (ω:={ ω with ρ:=fun r=>ω.ρ (pim π r),σ:=fun r=>ω.σ (pim π r),n:=n }) 0 0 h4
  simp only[h3]at h5
  exact h5
theorem V9.of {S S':SS} (π:List Nat) (h:leS π S S'):V9 S S':=by
 obtain⟨h1,h2,h3,h4,h5,h6⟩:=h
 intro g0 w0 M ω a w hS
 refine⟨{ ω with ρ:=fun r=>ω.ρ (pim π r),σ:=fun r=>ω.σ (pim π r),n:=S'.nx },?_⟩
 have hbl:∀r b,bl { ω with ρ:=fun r=>ω.ρ (pim π r),σ:=fun r=>ω.σ (pim π r),n:=S'.nx } r b=bl ω (pim π r) b:=fun r b=>by cases b<;>rfl
 exact {
  env:=fun i s' e=>by
   obtain⟨s,k1,k2⟩:=Qma h1 _ _ s' e
   obtain⟨v,k3,k4⟩:=hS.env i s k1
   exact⟨v,k3,QsE k2 k4⟩
  heap:=fun r b e=>by
   obtain⟨k1,k2,k3⟩:=UO h2 r b e
   have hb:=hS.heap _ _ k2
   cases b with
   | blk T cells=>
    obtain⟨vs,q1,q2,q3⟩:=hb
    exact⟨vs,q1,q2,fun i s u e1 e2=>V0 (SV.lts_get k3 i s e1) (q3 i s u e1 e2) rfl⟩
   | row x app=>
    obtain⟨q1,q2⟩:=hb
    refine⟨?_,q2⟩
    rcases q1 with q1 | ⟨g,cap,cur,fr,p0,p1,p2,p3,p4,p5,p6⟩
    . exact .inl q1
    exact .inr ⟨g,cap,cur,fr,p0,p1,p2,p3,p4,p5,fun i j s u q1 q2 q3=>V0 (SV.lts_get (RV.cell_lts 0 x i) j s q2) (p6 i j s u q1 q2 q3) rfl⟩
  sep:=fun r r' b b' k e e' hk hk'=>by
   obtain⟨k1,k2,_⟩:=UO h2 r b e
   obtain⟨k1',k2',_⟩:=UO h2 r' b' e'
   rw[hbl]at hk hk'
   exact QlY h3 r r' (by omega) (by omega) (hS.sep _ _ _ _ k k2 k2' hk hk')
  ng:=fun r b k e hk=>by
   obtain⟨k1,k2,_⟩:=UO h2 r b e
   rw[hbl]at hk
   exact hS.ng _ _ k k2 hk
  mine:=fun r b k e hk=>by
   obtain⟨k1,k2,_⟩:=UO h2 r b e
   rw[hbl]at hk
   exact hS.mine _ _ k k2 hk
  nx:=fun r b e=>(UO h2 r b e).1
  wn:=rfl
  gam:=hS.gam
  fr:=hS.fr
  df:=hS.df
  gl:=hS.gl
  gn:=hS.gn
  pin:=fun k hk=>by show ω.ρ (pim π 0)=k;rw[h5];exact hS.pin k hk
  n0:=h6 }
theorem V9.adopt {S:SS} (i:Nat) {T:TypeId} {x:RV} (he:elk S.env i=some .nilsl) (hx:ZK T=some x) :
 V9 S { S with env:=ept S.env i (.own S.nx),heap:=(S.nx,.row x true)::S.heap,nx:=S.nx+1 }:=by
 intro g0 w0 M ω a w hS
 obtain⟨h1,h2⟩:=hS.newRow (.slice none 0 0) x true (.inl ⟨rfl,(Z4 hx).1⟩) (fun k e=>by simp[Value.ownBlock]at e)
 refine⟨_,{ h1 with env:=fun j s e=>?_ }⟩
 rcases Qd3 e with ⟨rfl,rfl⟩ | ⟨hne,e'⟩
 obtain⟨v,k1,k2⟩:=hS.env _ _ he
 rw[k2.nilsl_inv]at k1
 exact⟨_,k1,h2⟩
 exact h1.env j s e'
theorem V9.pub {S:SS} (r:Nat) {b:SB} (hb:hlk S.heap r=some b):V9 S (pubS1 S (.own r)).2:=by
 intro g0 w0 M ω a w hS
 obtain⟨ω',_,_,h⟩:=hS.pubS1 (s:=.own r) (v:=ω.σ r) (.own r (by rw[hS.wn];exact hS.nx r b hb))
 exact⟨ω',h⟩
def QmT:Nat->List SV->Env
 | 0,_=>[]
 | k+1,l=>l.take 16::QmT k (l.drop 16)
def Us (n:Nat) (svs:List SV):Env:=QmT ((n+15)/16) (svs++zM (n-svs.length) .undef)
theorem QsD (l:List SV):∀i,lk1 l i=l[i]?:=by
 induction l with
 | nil=>intro i;simp[lk1]
 | cons x l ih=>intro i;cases i<;>simp[lk1,ih]
theorem QgQ:∀(k:Nat) (l:List SV) (i j:Nat) (s:SV),j<16->lk2 (QmT k l) i j=some s->l[i*16+j]? = some s
 | 0,l,i,j,s,_,h=>by cases h
 | k+1,l,0,j,s,hj,h=>by
  simp only[QmT,lk2,QsD]at h
  rw[List.getElem?_take,if_pos hj]at h
  simpa using h
 | k+1,l,i+1,j,s,hj,h=>by
  have:=QgQ k (l.drop 16) i j s hj h
  rw[List.getElem?_drop]at this
  rw[<-this]
  congr 1
  omega
theorem Qgq {n:Nat} {svs:List SV} {i:Nat} {s:SV} (h:elk (Us n svs) i=some s):(svs++zM (n-svs.length) SV.undef)[i]? = some s:=by
 have:=QgQ _ _ _ _ s (Nat.mod_lt _ (by omega)) h
 rw[Nat.div_add_mod']at this
 exact this
def getR (S:SS):ResultVar->(SV->Prop)->Prop
 | .tmp t,K=>cnd (ZM S.env t)/\K (unw (ZM S.env t))
 | .cell t T,K=>cnd (ZM S.env t)/\Qbd S.heap T (unw (ZM S.env t)) K
def QgF (S:SS):List ResultVar->(List SV->Prop)->Prop
 | [],K=>K []
 | r::rs,K=>getR S r fun s=>QgF S rs fun ss=>K (s::ss)
def fixR (S:SS) (T:TypeId) (s:SV):SV×SS:=
 match s with
 | .own r=>pubS1 S (.own r)
 | .nilsl=>match ZK T with
  | some x=>(.sl x,S)
  | none=>(.nilsl,S)
 | s=>(s,S)
def fixRs:SS->List TypeId->List SV->List SV×SS
 | S,T::Ts,s::ss=>((fixR S T s).1::(fixRs (fixR S T s).2 Ts ss).1,(fixRs (fixR S T s).2 Ts ss).2)
 | S,_,ss=>(ss,S)
def lowO:Option SB->Prop
 | some c=>c.low=true
 | none=>True
def b0 (hb:Bool) (S:SS):Option SB:=
 match hb with
 | true=>hlk S.heap 0
 | false=>none
def Qm5:List SV->SV
 | [s]=>s
 | l=>.tup l
def retV (hb:Bool) (K:Out->Option SB->Prop) (p:List SV×SS):Prop:=
 SV.lts 0 p.1=true/\lowO (b0 hb p.2)/\K (.val (Qm5 p.1)) (b0 hb p.2)
def Qkj (hb:Bool) (S:SS) (Ts:List TypeId) (K:Out->Option SB->Prop):List SV->Prop
 | [.own r]=>match hlk S.heap r with
  | some (.row x true)=>lowO (b0 hb S)/\K (.row x) (b0 hb S)
  | _=>False
 | [.nilsl]=>match Ts with
  | [T]=>match ZK T with
   | some x=>lowO (b0 hb S)/\K (.row x) (b0 hb S)
   | none=>False
  | _=>False
 | _=>False
def QpD (hb rowR:Bool) (rs:List ResultVar) (Ts:List TypeId) (K:Out->Option SB->Prop) (S:SS):Prop:=
 QgF S rs fun ss=>match rowR with
  | true=>Qkj hb S Ts K ss
  | false=>retV hb K (fixRs S Ts ss)
def retQ (hb rowR:Bool) (rs:List ResultVar) (Ts:List TypeId) (K:Out->Option SB->Prop):Exit->SS->Prop
 | .ret,S=>QpD hb rowR rs Ts K S
 | .normal,S=>QpD hb rowR rs Ts K S
 | _,_=>False
section
variable {g0:Glob} {w0:World} {M:Nat->Prop} {ω:Wit} {S:SS} {a:Act} {w:World}
theorem Sim.getD (h:Sim g0 w0 M ω S a w) (t:Nat):Rel ω (ZM S.env t) (a.tmps.getD t undef):=by
 have:=h.ev (.tmp t)
 exact this
def QeD (tmps:Array Value):ResultVar->Sem Value
 | .tmp t=>pure (tmps.getD t undef)
 | .cell a t=>do loadVar t (<- asAddr (tmps.getD a undef))
theorem Qs8 (h:Sim g0 w0 M ω S a w) {r:ResultVar} {K:SV->Prop} (hk:getR S r K):∃s v,K s/\Rel ω s v/\(QeD a.tmps r).run zf w=.ok v w:=by
 cases r with
 | tmp t=>exact⟨_,_,hk.2,J2 (h.getD t) hk.1,rfl⟩
 | cell t T=>
  obtain⟨h1,h2⟩:=hk
  obtain⟨s,v,k1,k2,k3⟩:=Qjc h (J2 (h.getD t) h1) h2
  refine⟨s,v,k1,k2,?_⟩
  have hp:∃x,a.tmps.getD t undef=.pointer (some x):=by
   have hr:=J2 (h.getD t) h1
   generalize unw (ZM S.env t)=q at *
   unfold Qbd at h2
   split at h2
   exact⟨_,hr.ptr_inv.1⟩
   obtain⟨b,o,vs,T',e,_⟩:=hr.cp_inv;exact⟨_,e⟩
   exact⟨_,hr.rp_inv.1⟩
   exact h2.elim
  obtain⟨x,hx⟩:=hp
  rw[hx]at k3
  simp only[QeD,hx]
  exact k3
theorem Qe7 (h:Sim g0 w0 M ω S a w):∀{l:List ResultVar} {K:List SV->Prop},QgF S l K ->
 ∃(ss:List SV) (vs:List Value),K ss/\ss.length=l.length/\vs.length=l.length/\(∀(i:Nat) (s:SV) (v:Value),ss[i]? = some s->vs[i]? = some v->Rel ω s v) /\
  ∀(i:Nat) (r:ResultVar) (v:Value),l[i]? = some r->vs[i]? = some v->(QeD a.tmps r).run zf w=.ok v w
 | [],K,hk=>⟨[],[],hk,rfl,rfl,fun i s v e=>by simp at e,fun i r v e=>by simp at e⟩
 | r::l,K,hk=>by
  obtain⟨s,v,k1,k2,k3⟩:=Qs8 h hk
  obtain⟨ss,vs,q1,q2,q3,q4,q5⟩:=Qe7 h k1
  refine⟨s::ss,v::vs,q1,by simp[q2],by simp[q3],fun i s' v' e1 e2=>?_,fun i r' v' e1 e2=>?_⟩
  . cases i with
    | zero=>simp at e1 e2;rw[<-e1,<-e2];exact k2
    | succ i=>exact q4 i s' v' (by simpa using e1) (by simpa using e2)
  cases i with
  | zero=>simp at e1 e2;rw[<-e1,<-e2];exact k3
  | succ i=>exact q5 i r' v' (by simpa using e1) (by simpa using e2)
def Qcy:List Value->Value
 | [v]=>v
 | l=>.tuple l.toArray
theorem Qag {fn:Func} {l:List ResultVar} (hl:fn.results=l.toArray) (h4:l.length<=4) {tmps:Array Value} {vs:List Value} (hv:vs.length=l.length)
 (hr:∀(i:Nat) (r:ResultVar) (v:Value),l[i]? = some r->vs[i]? = some v->(QeD tmps r).run zf w=.ok v w):(results fn tmps).run zf w=.ok (Qcy vs) w:=by
 have e:results fn tmps=(do
  let vs <- fn.results.mapM (QeD tmps)
  pure (if h:vs.size=1 then vs[0] else .tuple vs)):=by
  unfold results
  congr 1
 rw[e,hl]
 clear hl e
 match l,vs,hv,hr,h4 with
 | [],[],_,_,_=>simp[Qcy]
 | [r],[v],_,hr,_=>
  have h0:=hr 0 r v rfl rfl
  simp[Qcy,h0]
 | [r,r1],[v,v1],_,hr,_=>
  have h0:=hr 0 r v rfl rfl
  have h1:=hr 1 r1 v1 rfl rfl
  simp[Qcy,h0,h1]
 | [r,r1,r2],[v,v1,v2],_,hr,_=>
  have h0:=hr 0 r v rfl rfl
  have h1:=hr 1 r1 v1 rfl rfl
  have h2:=hr 2 r2 v2 rfl rfl
  simp[Qcy,h0,h1,h2]
 | [r,r1,r2,r3],[v,v1,v2,v3],_,hr,_=>
  have h0:=hr 0 r v rfl rfl
  have h1:=hr 1 r1 v1 rfl rfl
  have h2:=hr 2 r2 v2 rfl rfl
  have h3:=hr 3 r3 v3 rfl rfl
  simp[Qcy,h0,h1,h2,h3]
 | _::_::_::_::_::_,_,_,_,h4=>simp at h4
theorem Sim.fixR (h:Sim g0 w0 M ω S a w) (T:TypeId) {s:SV} {v:Value} (hr:Rel ω s v):∃ω',ω.le ω'/\Rel ω' (fixR S T s).1 v/\Sim g0 w0 M ω' (YtengepcafdnalaaGreatDoor.fixR S T s).2 a w:=by
 unfold YtengepcafdnalaaGreatDoor.fixR
 split
 exact h.pubS1 hr
 split
 rename_i x hx
 rw[hr.nilsl_inv]
 exact⟨ω,Wit.le.refl ω,.slz x none 0 (Z4 hx).1,h⟩
 exact⟨ω,Wit.le.refl ω,hr,h⟩
 exact⟨ω,Wit.le.refl ω,hr,h⟩
theorem Sim.fixRs:∀(Ts:List TypeId) (l:List SV) (S:SS) (ω:Wit) (h:Sim g0 w0 M ω S a w) (vs:List Value),vs.length=l.length->(∀(i:Nat) (s:SV) (v:Value),l[i]? = some s->vs[i]? = some v->Rel ω s v) ->
 ∃ω',ω.le ω'/\(fixRs S Ts l).1.length=l.length/\(∀(i:Nat) (s:SV) (v:Value),(YtengepcafdnalaaGreatDoor.fixRs S Ts l).1[i]? = some s->vs[i]? = some v->Rel ω' s v)/\Sim g0 w0 M ω' (YtengepcafdnalaaGreatDoor.fixRs S Ts l).2 a w
 | [],l,S,ω,h,vs,_,hr=>⟨ω,Wit.le.refl ω,rfl,hr,h⟩
 | T::Ts,[],S,ω,h,vs,_,hr=>⟨ω,Wit.le.refl ω,rfl,hr,h⟩
 | T::Ts,s::l,S,ω,h,[],hl,_=>by simp at hl
 | T::Ts,s::l,S,ω,h,v::vs,hl,hr=>by
  obtain⟨ω1,h1,h2,h3⟩:=h.fixR T (hr 0 s v rfl rfl)
  obtain⟨ω2,k1,k2,k3,k4⟩:=Sim.fixRs Ts l (YtengepcafdnalaaGreatDoor.fixR S T s).2 ω1 h3 vs (by simpa using hl) (fun i t u e1 e2=>(hr (i+1) t u (by simpa using e1) (by simpa using e2)).mono h1)
  refine⟨ω2,h1.trans k1,by simp only[YtengepcafdnalaaGreatDoor.fixRs,zj];rw[k2],fun i t u e1 e2=>?_,k4⟩
  cases i with
  | zero=>
   simp only[YtengepcafdnalaaGreatDoor.fixRs,zB,Option.some.injEq]at e1 e2
   subst e1;subst e2
   exact h2.mono k1
  | succ i=>
   simp only[YtengepcafdnalaaGreatDoor.fixRs,List.getElem?_cons_succ]at e1 e2
   exact k3 i t u e1 e2
theorem QlB {ss:List SV} {vs:List Value} (hl:vs.length=ss.length) (hr:∀(i:Nat) (s:SV) (v:Value),ss[i]? = some s->vs[i]? = some v->Rel ω s v):Rel ω (Qm5 ss) (Qcy vs):=by
 have gen:∀{ss:List SV} {vs:List Value},vs.length=ss.length->(∀(i:Nat) (s:SV) (v:Value),ss[i]? = some s->vs[i]? = some v->Rel ω s v)->Rel ω (.tup ss) (.tuple vs.toArray):=
  fun hl hr=>.tup _ _ (by simpa using hl) fun i s v e1 e2=>hr i s v e1 (by simpa using e2)
 match ss,vs,hl,hr with
 | [],[],hl,hr=>exact gen hl hr
 | [s],[v],_,hr=>exact hr 0 s v rfl rfl
 | s::s'::ss,v::v'::vs,hl,hr=>exact gen hl hr
theorem QgZ {ss:List SV} (h:SV.lts 0 ss=true):(Qm5 ss).lt 0=true:=by
 match ss,h with
 | [],_=>rfl
 | [s],h=>simpa [SV.lts,Qm5] using h
 | s::s'::ss,h=>exact h
end
theorem Sat.of_vc {f:FuncId} {fn:Func} {c:Code} {P:Spec} (rowR:Bool) (l:List ResultVar) (Ts:List TypeId) (hf:zf.funcs[f]? = some fn) (hb:fn.body=some c) (hl:fn.results=l.toArray) (h4:l.length<=4)
 (h:∀svs b K,P svs b K->VC c ⟨Us fn.ntmps svs,(loc b).heap,(loc b).nx⟩ (retQ b.isSome rowR l Ts K)):Sat f P:=by
 intro g0 w M ω svs args b K hS hn hr hP
 refine calls_of_wp hf hb ?_
 have hS1:Sim g0 w M ω ⟨Us fn.ntmps svs,(loc b).heap,(loc b).nx⟩ { tmps:=args++Array.replicate (fn.ntmps-args.size) undef,defers:=[] } w:=by
  refine { hS with env:=fun i s e=>?_,df:=hS.df }
  have he:=Qgq e
  by_cases hi:i<svs.length
  rw[List.getElem?_append_left hi]at he
  have hia:i<args.size:=by omega
  refine⟨args[i],?_,hr i s _ he (zr hia)⟩
  rw[Array.getElem?_append_left hia,zr hia]
  rw[List.getElem?_append_right (by omega),xh]at he
  split at he
  rename_i hlt
  cases he
  refine⟨undef,?_,.undef _⟩
  rw[Array.getElem?_append_right (by omega),Array.getElem?_replicate,if_pos (by omega)]
  cases he
 have main:∀a' w' S' ω',QpD b.isSome rowR l Ts K S'->Sim g0 w M ω' S' a' w'->a'.defers=[]/\∃v,(results fn a'.tmps).run zf w'=.ok v w'/\∃v' o b',Ending.returned v=.returned v'/\K o b'/\QrF g0 w M ω o b' v' w':=by
  intro a' w' S' ω' hk hS'
  refine⟨hS'.df.trans hS.df.symm,?_⟩
  obtain⟨ss,vs,k1,k2,k3,k4,k5⟩:=Qe7 hS' hk
  refine⟨Qcy vs,Qag hl h4 k3 k5,Qcy vs,?_⟩
  cases rowR with
  | false=>
   obtain⟨ω2,_,q2,q3,q4⟩:=Sim.fixRs Ts ss S' ω' hS' vs (by omega) k4
   obtain⟨r1,r2,r3⟩:=k1
   refine⟨_,_,rfl,r3,ω2,⟨[],(fixRs S' Ts ss).2.heap,(fixRs S' Ts ss).2.nx⟩,{ q4 with env:=fun i s e=>by simp[elk,lk2]at e,df:=hS.df },fun c hc=>?_,QgZ r1,QlB (by omega) q3⟩
   refine⟨?_,by rw[hc]at r2;exact r2⟩
   unfold b0 at hc
   split at hc
   exact hc
   cases hc
  | true=>
   simp only at k1
   unfold Qkj at k1
   split at k1
   rename_i r
   split at k1
   rename_i x hx
   have hv:vs=[vs[0]'(by simp at k2;omega)]:=by
    match vs,k3,k2 with
    | [v],_,_=>rfl
    | [],h,h'=>rw[<-h']at h;simp at h
    | _::_::_,h,h'=>rw[<-h']at h;simp at h
   refine⟨_,_,rfl,k1.2,ω',⟨[],S'.heap,S'.nx⟩,{ hS' with env:=fun i s e=>by simp[elk,lk2]at e,df:=hS.df },fun c hc=>?_,r,hx,?_⟩
   refine⟨?_,by have:=k1.1;rw[hc]at this;exact this⟩
   unfold b0 at hc
   split at hc
   exact hc
   cases hc
   have:=k4 0 (.own r) (vs[0]'(by simp at k2;omega)) rfl (zg _)
   rw[hv]
   exact this.own_inv.1
   exact k1.elim
   split at k1
   rename_i T
   split at k1
   rename_i x hx
   have hv:vs=[vs[0]'(by simp at k2;omega)]:=by
    match vs,k3,k2 with
    | [v],_,_=>rfl
    | [],h,h'=>rw[<-h']at h;simp at h
    | _::_::_,h,h'=>rw[<-h']at h;simp at h
   obtain⟨h1,h2⟩:=hS'.newRow (.slice none 0 0) x true (.inl ⟨rfl,(Z4 hx).1⟩) (fun k e=>by simp[Value.ownBlock]at e)
   refine⟨_,_,rfl,k1.2,_,⟨[],(S'.nx,.row x true)::S'.heap,S'.nx+1⟩,{ h1 with env:=fun i s e=>by simp[elk,lk2]at e,df:=hS.df },fun c hc=>?_,S'.nx,by simp[hlk],?_⟩
   refine⟨?_,by have:=k1.1;rw[hc]at this;exact this⟩
   unfold b0 at hc
   split at hc
   have:=hS'.n0
   simp only[hlk]
   rw[if_neg (by omega)]
   exact hc
   cases hc
   have:=k4 0 .nilsl (vs[0]'(by simp at k2;omega)) rfl (zg _)
   rw[hv]
   simp only[Qcy]
   rw[this.nilsl_inv]
   exact h2.own_inv.1
   exact k1.elim
   exact k1.elim
   exact k1.elim
 refine wp_mono (h svs b K hP g0 w M ω _ w hS1) fun e a' w' ⟨S',hq,ω',hS'⟩=>?_
 cases e with
 | normal=>exact main a' w' S' ω' hq hS'
 | ret=>exact main a' w' S' ω' hq hS'
 | exit i=>exact hq.elim
 | goto l=>exact hq.elim
 | panic ch=>exact hq.elim
 | outgrown=>exact hq.elim
end
end Go.Proofs.YtengepcafdnalaaGreatDoor
