/-
  Parts of the proof that the law FnPrintBack holds for every input (texts Et). Conditions: none.
-/
import Derived.Test.YtengepcafdnalaaGreatDoorM13
namespace Go.Proofs.YtengepcafdnalaaGreatDoor
open _root_.List renaming length_cons → zj, getElem?_cons_zero → zB
open _root_.Nat renaming zero_le → zO, le_refl → zm, lt_of_lt_of_le → zL
open _root_.Option renaming map_eq_some_iff → zi
open Go.Proofs.Tryz renaming prog → zf
section
open Go Go.RowKit
inductive Out where
 | val (s:SV)
 | row (x:RV)
abbrev Spec:=List SV->Option SB->(Out->Option SB->Prop)->Prop
def loc:Option SB->SS
 | none=>⟨[],[],1⟩
 | some b=>⟨[],[(0,b)],1⟩
def a0:Act:=⟨#[],[]⟩
def SB.low:SB->Bool
 | .blk _ cs=>SV.lts 0 cs
 | .row _ _=>true
def QrF (g0:Glob) (w0:World) (M:Nat->Prop) (ω:Wit) (o:Out) (b:Option SB) (v:Value) (w:World):Prop:=
 ∃ω' S',Sim g0 w0 M ω' S' a0 w/\(∀c,b=some c->hlk S'.heap 0=some c/\c.low=true) /\
  match o with
  | .val s=>s.lt 0=true/\Rel ω' s v
  | .row x=>∃r,hlk S'.heap r=some (.row x true)/\v=ω'.σ r
def Sat (f:FuncId) (P:Spec):Prop:=
 ∀(g0:Glob) (w:World) (M:Nat->Prop) (ω:Wit) (svs:List SV) (args:Array Value) (b:Option SB) (K:Out->Option SB->Prop),
  Sim g0 w M ω (loc b) a0 w->args.size=svs.length->(∀(i:Nat) (s:SV) (v:Value),svs[i]? = some s->args[i]? = some v->Rel ω s v)->P svs b K ->
  Calls zf f args w fun e w'=>∃v o b',e=.returned v/\K o b'/\QrF g0 w M ω o b' v w'
theorem Sim.heapEq {g0:Glob} {w0:World} {M:Nat->Prop} {ω:Wit} {S:SS} {a:Act} {w:World} (h:Sim g0 w0 M ω S a w) (hp:Heap) (he:∀q b,hlk hp q=some b->hlk S.heap q=some b):Sim g0 w0 M ω { S with heap:=hp } a w where
 env:=h.env
 heap r b e:=h.heap r b (he r b e)
 sep r r' b b' k e e':=h.sep r r' b b' k (he r b e) (he r' b' e')
 ng r b k e:=h.ng r b k (he r b e)
 mine r b k e:=h.mine r b k (he r b e)
 nx r b e:=h.nx r b (he r b e)
 wn:=h.wn
 gam:=h.gam
 fr:=h.fr
 df:=h.df
 gl:=h.gl
 gn:=h.gn
 pin:=h.pin
 n0:=h.n0
theorem V0 {ω' ω2:Wit} {s:SV} {v:Value} (hl:s.lt 0=true) (h:Rel ω' s v) (hΓ:ω2.Γ=ω'.Γ):Rel ω2 s v:=by
 have h1:=h.lower (m:=0) hl
 refine h1.mono ⟨fun b x e=>?_,zO _,fun r hr=>absurd hr (Nat.not_lt_zero _),fun r hr=>absurd hr (Nat.not_lt_zero _)⟩
 rw[hΓ];exact e
section
variable {g0:Glob} {w0:World} {M:Nat->Prop} {ω:Wit} {S:SS} {a:Act} {w:World}
theorem Sim.back (h:Sim g0 w0 M ω S a w) {gc:Glob} (hg:gc.G=ω.Γ) {Mc:Nat->Prop} {ω':Wit} {S':SS} {a':Act} {w':World} (hc:Sim gc w Mc ω' S' a' w')
 (hM:∀k,Mc k->(M k\/w0.heap.size<=k)/\ω.Γ k=none/\∀q b,hlk S.heap q=some b->bl ω q b≠some k) :
 ω.le { ω with Γ:=ω'.Γ }/\Sim g0 w0 M { ω with Γ:=ω'.Γ } S a w':=by
 have hl:ω.le { ω with Γ:=ω'.Γ }:=⟨fun b x e=>hc.gl b x (by rw[hg];exact e),zm _,fun _ _=>rfl,fun _ _=>rfl⟩
 refine⟨hl,?_⟩
 have hgn:∀b x,ω'.Γ b=some x->ω.Γ b=some x\/Mc b\/w.heap.size<=b:=fun b x e=>by
  have:=hc.gn b x e
  rwa [hg]at this
 exact {
  env:=fun i s e=>let ⟨v,h1,h2⟩:=h.env i s e;⟨v,h1,h2.mono hl⟩
  heap:=fun r b e=>(h.heap r b e).mono hl (by rw[h.wn];exact h.nx r b e) fun k hk=>hc.fr.block k ((h.heap r b e).lt hk) fun hm=>(hM k hm).2.2 r b e hk
  sep:=fun r r' b b' k e e' hk hk'=>h.sep r r' b b' k e e' (by rw[<-Qbh hl (by rw[h.wn];exact h.nx r b e)];exact hk) (by rw[<-Qbh hl (by rw[h.wn];exact h.nx r' b' e')];exact hk')
  ng:=fun r b k e hk=>by
   have hk':bl ω r b=some k:=by rw[<-Qbh hl (by rw[h.wn];exact h.nx r b e)];exact hk
   have h1:=h.ng r b k e hk'
   have h2:=(h.heap r b e).lt hk'
   cases hcc:ω'.Γ k with
   | none=>rfl
   | some x=>
    rcases hgn k x hcc with h3 | h3 | h3
    . rw[h1]at h3;cases h3
    . exact absurd hk' ((hM k h3).2.2 r b e)
    omega
  mine:=fun r b k e hk=>h.mine r b k e (by rw[<-Qbh hl (by rw[h.wn];exact h.nx r b e)];exact hk)
  nx:=h.nx
  wn:=h.wn
  gam:=hc.gam
  fr:=h.fr.trans_same hc.fr.os hc.fr.tape hc.fr.output hc.fr.size fun k hk hm=>hc.fr.block k (zL hk h.fr.size) fun hmc=>by
   rcases (hM k hmc).1 with h1 | h1
   . exact hm h1
   omega
  df:=h.df
  gl:=fun b x e=>hl.Γ _ _ (h.gl b x e)
  gn:=fun b x e=>by
   rcases hgn b x e with h1 | h1 | h1
   . exact h.gn b x h1
   . exact .inr (hM b h1).1
   exact .inr (.inr (Nat.le_trans h.fr.size h1))
  pin:=h.pin
  n0:=h.n0 }
def sub1 (r:Nat) (x:RV):SV->SV
 | .own q=>if q=r then .sl x else .own q
 | s=>s
def pubS1 (S:SS) (s:SV):SV×SS:=
 match s with
 | .own r=>match hlk S.heap r with
  | some (.row x _)=>(.sl x,{ S with env:=Qk4 (sub1 r x) S.env,heap:=Jg S.heap r })
  | _=>(s,S)
 | s=>(s,S)
def pubS:SS->List SV->List SV×SS
 | S,[]=>([],S)
 | S,s::l=>((pubS1 S s).1::(pubS (pubS1 S s).2 l).1,(pubS (pubS1 S s).2 l).2)
theorem Sim.pubS1 (h:Sim g0 w0 M ω S a w) {s:SV} {v:Value} (hr:Rel ω s v) :
 ∃ω',ω.le ω'/\Rel ω' (pubS1 S s).1 v/\Sim g0 w0 M ω' (YtengepcafdnalaaGreatDoor.pubS1 S s).2 a w:=by
 unfold YtengepcafdnalaaGreatDoor.pubS1
 split
 rename_i r
 split
 rename_i x app hb
 obtain⟨ω',h1,h2,h3,h4⟩:=h.pub hb
 have hlt:r<ω.n:=by rw[h.wn];exact h.nx r _ hb
 refine⟨ω',h1,by rw[hr.own_inv.1];exact h3,{ h4 with env:=fun i t e=>?_ }⟩
 simp only[Zg,zi]at e
 obtain⟨t',e1,e2⟩:=e
 obtain⟨u,k1,k2⟩:=h4.env i t' e1
 refine⟨u,k1,?_⟩
 subst e2
 unfold sub1
 split
 rename_i q
 split
 rename_i hq
 subst hq
 rw[k2.own_inv.1,h1.σ _ hlt]
 exact h3
 exact k2
 exact k2
 exact⟨ω,Wit.le.refl ω,hr,h⟩
 exact⟨ω,Wit.le.refl ω,hr,h⟩
theorem Sim.pubS:∀(l:List SV) (S:SS) (ω:Wit) (h:Sim g0 w0 M ω S a w) (vs:List Value),vs.length=l.length->(∀(i:Nat) (s:SV) (v:Value),l[i]? = some s->vs[i]? = some v->Rel ω s v) ->
 ∃ω',ω.le ω'/\(pubS S l).1.length=l.length/\(∀(i:Nat) (s:SV) (v:Value),(YtengepcafdnalaaGreatDoor.pubS S l).1[i]? = some s->vs[i]? = some v->Rel ω' s v)/\Sim g0 w0 M ω' (YtengepcafdnalaaGreatDoor.pubS S l).2 a w
 | [],S,ω,h,vs,_,_=>⟨ω,Wit.le.refl ω,rfl,fun i s v e=>by simp[YtengepcafdnalaaGreatDoor.pubS]at e,h⟩
 | s::l,S,ω,h,[],hl,_=>by simp at hl
 | s::l,S,ω,h,v::vs,hl,hr=>by
  obtain⟨ω1,h1,h2,h3⟩:=h.pubS1 (hr 0 s v rfl rfl)
  obtain⟨ω2,k1,k2,k3,k4⟩:=Sim.pubS l (YtengepcafdnalaaGreatDoor.pubS1 S s).2 ω1 h3 vs (by simpa using hl) (fun i t u e1 e2=>(hr (i+1) t u (by simpa using e1) (by simpa using e2)).mono h1)
  refine⟨ω2,h1.trans k1,by simp only[YtengepcafdnalaaGreatDoor.pubS,zj];rw[k2],fun i t u e1 e2=>?_,k4⟩
  cases i with
  | zero=>
   simp only[YtengepcafdnalaaGreatDoor.pubS,zB,Option.some.injEq]at e1 e2
   subst e1;subst e2
   exact h2.mono k1
  | succ i=>
   simp only[YtengepcafdnalaaGreatDoor.pubS,List.getElem?_cons_succ]at e1 e2
   exact k3 i t u e1 e2
def Uq (S:SS) (o:Out) (K:SV->SS->Prop):Prop:=
 match o with
 | .val s=>K s S
 | .row x=>K (.own S.nx) { S with heap:=(S.nx,.row x true)::S.heap,nx:=S.nx+1 }
def U1 (S:SS) (P:Spec) (svs:List SV) (K:SV->SS->Prop):Prop:=
 match svs with
 | .ptr r 0::rest=>match hlk (pubS S rest).2.heap r with
  | some (.blk T cs)=>SV.lts 0 (pubS S rest).1=true/\SV.lts 0 cs=true/\P (.ptr 0 0::(pubS S rest).1) (some (.blk T cs)) fun o b=>match b with
   | some (.blk T' cs')=>Uq { (pubS S rest).2 with heap:=hpt (pubS S rest).2.heap r (.blk T' cs') } o K
   | _=>False
  | _=>False
 | svs=>SV.lts 0 (pubS S svs).1=true/\P (pubS S svs).1 none fun o _=>Uq (pubS S svs).2 o K
def Qi1 (S:SS) (E:TypeId) (P:Spec) (svs:List SV) (K:SV->SS->Prop):Prop:=
 match svs with
 | [s,.own r]=>match hlk (pubS S [s]).2.heap r with
  | some (.row x true)=>SV.lts 0 (pubS S [s]).1=true/\P ((pubS S [s]).1++[.own 0]) (some (.row x true)) fun o _=>Uq { (pubS S [s]).2 with heap:=Jg (pubS S [s]).2.heap r } o K
  | _=>False
 | [s,.nilsl]=>match ZK E with
  | some x=>SV.lts 0 (pubS S [s]).1=true/\P ((pubS S [s]).1++[.own 0]) (some (.row x true)) fun o _=>Uq { (pubS S [s]).2 with nx:=(pubS S [s]).2.nx+1 } o K
  | none=>False
 | _=>False
def Qcu (S:SS) (E:TypeId) (P:Spec) (svs:List SV) (K:SV->SS->Prop):Prop:=
 match svs with
 | .own r::rest=>match hlk (pubS S rest).2.heap r with
  | some (.row x true)=>SV.lts 0 (pubS S rest).1=true/\P (.own 0::(pubS S rest).1) (some (.row x true)) fun o _=>Uq { (pubS S rest).2 with heap:=Jg (pubS S rest).2.heap r } o K
  | _=>False
 | .nilsl::rest=>match ZK E with
  | some x=>SV.lts 0 (pubS S rest).1=true/\P (.own 0::(pubS S rest).1) (some (.row x true)) fun o _=>Uq { (pubS S rest).2 with nx:=(pubS S rest).2.nx+1 } o K
  | none=>False
 | svs=>Qi1 S E P svs K
def Qdx (g0:Glob) (w0:World) (M:Nat->Prop) (a:Act) (K:SV->SS->Prop) (v:Value) (w':World):Prop:=
 ∃ω' s S',K s S'/\Sim g0 w0 M ω' S' a w'/\Rel ω' s v
theorem Qku {o:Out} {v:Value} {w':World} {gc:Glob} {Mc:Nat->Prop} {ω':Wit} {S' S1:SS} {K:SV->SS->Prop}
 (hc:Sim gc w Mc ω' S' a0 w') (hs:match o with | .val s=>s.lt 0=true/\Rel ω' s v | .row x=>∃r,hlk S'.heap r=some (.row x true)/\v=ω'.σ r)
 (h1:Sim g0 w0 M { ω with Γ:=ω'.Γ } S1 a w') (hsz:w0.heap.size<=w.heap.size)
 (hM:∀r x k,hlk S'.heap r=some (.row x true)->(ω'.σ r).ownBlock=some k->(M k\/w0.heap.size<=k)/\∀q b,hlk S1.heap q=some b->bl ω q b≠some k)
 (hk:Uq S1 o K):Qdx g0 w0 M a K v w':=by
 cases o with
 | val s=>
  obtain⟨e1,e2⟩:=hs
  exact⟨_,_,_,hk,h1,V0 e1 e2 rfl⟩
 | row x=>
  obtain⟨r,e1,rfl⟩:=hs
  have hrow:=(hc.heap r _ e1).1
  have hrow1:Qai { ω with Γ:=ω'.Γ } w' (ω'.σ r) x true:=by
   rcases hrow with h | ⟨g,cap,cur,fr,k0,k1,k2,k3,k4,k5,k6⟩
   exact .inl h
   refine .inr ⟨g,cap,cur,fr,k0,k1,k2,k3,k4,k5,fun i j s u q1 q2 q3=>V0 (SV.lts_get (RV.cell_lts 0 x i) j s q2) (k6 i j s u q1 q2 q3) rfl⟩
  have:=h1.newRow _ x true hrow1 fun k e=>⟨hc.ng r _ k e1 (by simpa [bl] using e),(hM r x k e1 e).1,fun q b e'=>(hM r x k e1 e).2 q b e'⟩
  exact⟨_,_,_,hk,this.1,this.2⟩
theorem Qar {hp:Heap} {r q:Nat} {b:SB} (hne:r≠q) (h:hlk hp q=some b):hlk (Jg hp r) q=some b:=by
 induction hp with
 | nil=>cases h
 | cons x hp ih=>
  obtain⟨p,c⟩:=x
  simp only[hlk]at h
  simp only[Jg]
  split at h
  rename_i hp'
  subst hp'
  rw[if_neg (fun h=>hne h.symm)]
  simp[hlk,h]
  rename_i hp'
  split
  exact ih h
  simp only[hlk];rw[if_neg hp'];exact ih h
theorem QfO (hp:Heap) (r:Nat):hlk (Jg hp r) r=none:=by
 cases hc:hlk (Jg hp r) r with
 | none=>rfl
 | some c=>exact absurd rfl (Yq hc).1
theorem QaU {b c:SB} {q:Nat} (h:hlk [(0,b)] q=some c):q=0/\c=b:=by
 simp only[hlk]at h
 split at h
 cases h;exact⟨by omega,rfl⟩
 cases h
theorem Qem (h:Sim g0 w0 M ω S a w):Sim ⟨ω.Γ,fun g hg=>by obtain⟨t,v,T,e⟩:=g0.err g hg;exact⟨t,v,T,h.gl g _ e⟩,[],by obtain⟨T,e⟩:=g0.tab;exact⟨T,h.gl 6 _ e⟩⟩ w (fun _=>False) { ω with n:=1 } (loc none) a0 w where
 env i s e:=by simp[loc,elk,lk2]at e
 heap r b e:=by simp[loc,hlk]at e
 sep r r' b b' k e:=by simp[loc,hlk]at e
 ng r b k e:=by simp[loc,hlk]at e
 mine r b k e:=by simp[loc,hlk]at e
 nx r b e:=by simp[loc,hlk]at e
 wn:=rfl
 gam:=h.gam
 fr:=Frame.refl w _
 df:=rfl
 gl b x e:=e
 gn b x e:=.inl e
 pin k hk:=hk.elim
 n0:=Nat.zero_lt_one
theorem Qel (h:Sim g0 w0 M ω S a w) {r:Nat} {b:SB} (hb:hlk S.heap r=some b) (hlow:b.low=true) :
 Sim ⟨ω.Γ,fun g hg=>by obtain⟨t,v,T,e⟩:=g0.err g hg;exact⟨t,v,T,h.gl g _ e⟩,[],by obtain⟨T,e⟩:=g0.tab;exact⟨T,h.gl 6 _ e⟩⟩ w (fun k=>bl ω r b=some k) ⟨ω.Γ,fun _=>ω.ρ r,fun _=>ω.σ r,1⟩ (loc (some b)) a0 w where
 env i s e:=by simp[loc,elk,lk2]at e
 heap q c e:=by
  obtain⟨rfl,rfl⟩:=QaU e
  have h1:=h.heap r c hb
  cases c with
  | blk T cs=>
   obtain⟨vs,k1,k2,k3⟩:=h1
   exact⟨vs,k1,k2,fun i s u e1 e2=>V0 (SV.lts_get hlow i s e1) (k3 i s u e1 e2) rfl⟩
  | row x app=>
   obtain⟨h2,h3⟩:=h1
   refine⟨?_,h3⟩
   rcases h2 with h2 | ⟨g,cap,cur,fr,k0,k1,k2,k3,k4,k5,k6⟩
   exact .inl h2
   exact .inr ⟨g,cap,cur,fr,k0,k1,k2,k3,k4,k5,fun i j s u q1 q2 q3=>V0 (SV.lts_get (RV.cell_lts 0 x i) j s q2) (k6 i j s u q1 q2 q3) rfl⟩
 sep q q' c c' k e e' _ _:=by
  obtain⟨rfl,rfl⟩:=QaU e
  obtain⟨rfl,rfl⟩:=QaU e'
  rfl
 ng q c k e hk:=by
  obtain⟨rfl,rfl⟩:=QaU e
  refine h.ng r c k hb ?_
  cases c<;>exact hk
 mine q c k e hk:=by
  obtain⟨rfl,rfl⟩:=QaU e
  left
  cases c<;>exact hk
 nx q c e:=by
  obtain⟨rfl,rfl⟩:=QaU e
  exact Nat.zero_lt_one
 wn:=rfl
 gam:=h.gam
 fr:=Frame.refl w _
 df:=rfl
 gl b x e:=e
 gn b x e:=.inl e
 pin k hk:=by
  cases b with
  | blk T cells=>simpa [bl] using hk
  | row x app=>exact (h.heap r _ hb).2 k hk
 n0:=Nat.zero_lt_one
theorem QbF {args:Array Value} {n:Nat} (hn:args.size=n+1):∃u us,args = #[u]++us/\us.size=n:=by
 refine⟨args[0]'(by omega),args.extract 1 args.size,?_,by simp;omega⟩
 apply Array.ext
 simp;omega
 intro i h1 h2
 cases i with
 | zero=>simp
 | succ i=>simp[Array.getElem_append,Nat.add_comm]
theorem Qas (u:Value) (us:Array Value):(#[u]++us)[0]? = some u:=by
 rw[Array.getElem?_append_left (Nat.zero_lt_one)];rfl
theorem Qat (u:Value) (us:Array Value) (i:Nat):(#[u]++us)[i+1]? = us[i]?:=by
 rw[Array.getElem?_append_right (Nat.succ_le_succ (zO i))];rfl
theorem Qgk {f:FuncId} {P:Spec} (hf:Sat f P) (h:Sim g0 w0 M ω S a w) {r:Nat} {x:RV} (hb:hlk S.heap r=some (.row x true)) {svs:List SV} {args:Array Value} (hn:args.size=svs.length)
 (hr:∀(i:Nat) (s:SV) (v:Value),svs[i]? = some s->args[i]? = some v->Rel ⟨ω.Γ,fun _=>ω.ρ r,fun _=>ω.σ r,1⟩ s v) {K:SV->SS->Prop}
 (hp:Heap) (hhp:∀q b,hlk hp q=some b->hlk (Jg S.heap r) q=some b) (hk:P svs (some (.row x true)) fun o _=>Uq { S with heap:=hp } o K) :
 Calls zf f args w fun e w'=>∃v,e=.returned v/\Qdx g0 w0 M a K v w':=by
 have hst:=Qel h hb rfl
 refine (hf _ w _ _ svs _ (some (.row x true)) _ hst hn hr hk).mono fun e w' ⟨v,o,b',he,hK,ω',S',k2,k3,k4⟩=>⟨v,he,?_⟩
 have hM:∀k,bl ω r (.row x true)=some k->(M k\/w0.heap.size<=k)/\ω.Γ k=none/\∀q b,hlk (Jg S.heap r) q=some b->bl ω q b≠some k:=fun k hk=>
  ⟨h.mine r _ k hb hk,h.ng r _ k hb hk,fun q b e hq=>(Yq e).1 (h.sep r q _ b k hb (Yq e).2 hk hq)⟩
 obtain⟨l2,hbk⟩:=(h.del r).back rfl k2 hM
 refine Qku k2 k4 (hbk.heapEq hp hhp) h.fr.size (fun q y k e1 e2=>?_) hK
 rcases k2.mine q _ k e1 (by simpa [bl] using e2) with h3 | h3
 exact⟨(hM k h3).1,fun q b e=>(hM k h3).2.2 q b (hhp q b e)⟩
 refine⟨.inr (Nat.le_trans h.fr.size h3),fun q' b e hq=>?_⟩
 have:=(h.heap q' b (Yq (hhp q' b e)).2).lt hq
 omega
theorem Qi0 {f:FuncId} {P:Spec} (hf:Sat f P) (h:Sim g0 w0 M ω S a w) {r:Nat} {x:RV} (hb:hlk S.heap r=some (.row x true)) {rest:List SV} {us:Array Value} (hn:us.size=rest.length)
 (hlt:SV.lts 0 rest=true) (hr:∀(i:Nat) (s:SV) (v:Value),rest[i]? = some s->us[i]? = some v->Rel ω s v) {K:SV->SS->Prop}
 (hp:Heap) (hhp:∀q b,hlk hp q=some b->hlk (Jg S.heap r) q=some b) (hk:P (.own 0::rest) (some (.row x true)) fun o _=>Uq { S with heap:=hp } o K) :
 Calls zf f (#[ω.σ r]++us) w fun e w'=>∃v,e=.returned v/\Qdx g0 w0 M a K v w':=by
 refine Qgk hf h hb (by simp[hn];omega) (fun i s v e1 e2=>?_) hp hhp hk
 cases i with
 | zero=>
  rw[Qas]at e2
  cases e2
  simp only[zB,Option.some.injEq]at e1
  subst e1
  exact .own (ω:=⟨ω.Γ,fun _=>ω.ρ r,fun _=>ω.σ r,1⟩) 0 (by show 0<1;omega)
 | succ i=>
  have e1':rest[i]? = some s:=by simpa using e1
  rw[Qat]at e2
  exact V0 (SV.lts_get hlt i s e1') (hr i s v e1' e2) rfl
theorem Qgl {f:FuncId} {P:Spec} (hf:Sat f P) (h:Sim g0 w0 M ω S a w) {r:Nat} {x:RV} (hb:hlk S.heap r=some (.row x true)) {ss:List SV} {u:Value} (hn:ss.length=1)
 (hlt:SV.lts 0 ss=true) (hr:∀(i:Nat) (s:SV) (v:Value),ss[i]? = some s->[u][i]? = some v->Rel ω s v) {K:SV->SS->Prop}
 (hp:Heap) (hhp:∀q b,hlk hp q=some b->hlk (Jg S.heap r) q=some b) (hk:P (ss++[.own 0]) (some (.row x true)) fun o _=>Uq { S with heap:=hp } o K) :
 Calls zf f #[u,ω.σ r] w fun e w'=>∃v,e=.returned v/\Qdx g0 w0 M a K v w':=by
 match ss,hn with
 | [s],_=>
  refine Qgk hf h hb (by simp) (fun i s' v e1 e2=>?_) hp hhp hk
  match i,e1,e2 with
  | 0,e1,e2=>cases e1;cases e2;exact V0 (SV.lts_get hlt 0 s rfl) (hr 0 s u rfl rfl) rfl
  | 1,e1,e2=>cases e1;cases e2;exact .own (ω:=⟨ω.Γ,fun _=>ω.ρ r,fun _=>ω.σ r,1⟩) 0 (by show 0<1;omega)
theorem Sat.callOwn2 {f:FuncId} {P:Spec} (hf:Sat f P) (h:Sim g0 w0 M ω S a w) {E:TypeId} {svs:List SV} {args:Array Value} (hn:args.size=svs.length)
 (hr:∀(i:Nat) (s:SV) (v:Value),svs[i]? = some s->args[i]? = some v->Rel ω s v) {K:SV->SS->Prop} (hk:Qi1 S E P svs K) :
 Calls zf f args w fun e w'=>∃v,e=.returned v/\Qdx g0 w0 M a K v w':=by
 unfold Qi1 at hk
 have two:∀{s t:SV},svs=[s,t]->∃u v,args = #[u,v]/\Rel ω s u/\Rel ω t v:=by
  rintro s t rfl
  obtain⟨l⟩:=args
  match l,hn with
  | [u,v],_=>exact⟨u,v,rfl,hr 0 s u rfl rfl,hr 1 t v rfl rfl⟩
 split at hk
 rename_i s r
 obtain⟨u,v,rfl,hu,hv⟩:=two rfl
 obtain⟨ω1,hl,hpl,hpr,h1⟩:=Sim.pubS [s] S ω h [u] rfl (fun i s' v' e1 e2=>by
  match i,e1,e2 with
  | 0,e1,e2=>cases e1;cases e2;exact hu)
 generalize hpp:pubS S [s]=p at *
 obtain⟨rest',S1⟩:=p
 try simp only at hk hpl hpr h1
 split at hk
 rename_i x hb
 obtain⟨rfl,hrn⟩:=(hv.mono hl).own_inv
 exact Qgl hf h1 hb (by simpa using hpl) hk.1 hpr _ (fun q b e=>e) hk.2
 exact hk.elim
 rename_i s
 split at hk
 rename_i x hx
 obtain⟨u,v,rfl,hu,hv⟩:=two rfl
 obtain⟨ω1,hl,hpl,hpr,h1⟩:=Sim.pubS [s] S ω h [u] rfl (fun i s' v' e1 e2=>by
  match i,e1,e2 with
  | 0,e1,e2=>cases e1;cases e2;exact hu)
 generalize hpp:pubS S [s]=p at *
 obtain⟨rest',S1⟩:=p
 try simp only at hk hpl hpr h1
 obtain rfl:=hv.nilsl_inv
 obtain⟨h2,h3⟩:=h1.newRow (.slice none 0 0) x true (.inl ⟨rfl,(Z4 hx).1⟩) (fun k e=>by simp[Value.ownBlock]at e)
 have hσ:(ω1.addσ (.slice none 0 0)).σ S1.nx=.slice none 0 0:=by simp[Wit.addσ,h1.wn]
 rw[<-hσ]
 exact Qgl hf h2 (r:=S1.nx) (x:=x) (by simp[hlk]) (by simpa using hpl) hk.1 (fun i s v e1 e2=>(hpr i s v e1 e2).mono (Wit.le_addσ _ _)) S1.heap (fun q b e=>by
  have hq:q<S1.nx:=h1.nx q b e
  refine Qar (by omega) ?_
  simp only[hlk]
  rw[if_neg (by omega)]
  exact e) hk.2
 exact hk.elim
 exact hk.elim
theorem Sat.callOwn {f:FuncId} {P:Spec} (hf:Sat f P) (h:Sim g0 w0 M ω S a w) {E:TypeId} {svs:List SV} {args:Array Value} (hn:args.size=svs.length)
 (hr:∀(i:Nat) (s:SV) (v:Value),svs[i]? = some s->args[i]? = some v->Rel ω s v) {K:SV->SS->Prop} (hk:Qcu S E P svs K) :
 Calls zf f args w fun e w'=>∃v,e=.returned v/\Qdx g0 w0 M a K v w':=by
 unfold Qcu at hk
 split at hk
 rename_i r rest
 obtain⟨u,us,rfl,hus⟩:=QbF (by simpa using hn)
 obtain⟨ω1,hl,hpl,hpr,h1⟩:=Sim.pubS rest S ω h us.toList (by simp;omega) (fun i s v e1 e2=>hr (i+1) s v (by simpa using e1) (by rw[Qat];simpa using e2))
 generalize hpp:pubS S rest=p at *
 obtain⟨rest',S1⟩:=p
 try simp only at hk hpl hpr h1
 split at hk
 rename_i x hb
 have hu:=(hr 0 _ u rfl (Qas u us)).mono hl
 obtain⟨rfl,hrn⟩:=hu.own_inv
 exact Qi0 hf h1 hb (by omega) hk.1 (fun i s v e1 e2=>hpr i s v e1 (by simpa using e2)) _ (fun q b e=>e) hk.2
 exact hk.elim
 rename_i rest
 split at hk
 rename_i x hx
 obtain⟨u,us,rfl,hus⟩:=QbF (by simpa using hn)
 obtain⟨ω1,hl,hpl,hpr,h1⟩:=Sim.pubS rest S ω h us.toList (by simp;omega) (fun i s v e1 e2=>hr (i+1) s v (by simpa using e1) (by rw[Qat];simpa using e2))
 generalize hpp:pubS S rest=p at *
 obtain⟨rest',S1⟩:=p
 try simp only at hk hpl hpr h1
 have hu:=(hr 0 _ u rfl (Qas u us))
 obtain rfl:=hu.nilsl_inv
 obtain⟨h2,h3⟩:=h1.newRow (.slice none 0 0) x true (.inl ⟨rfl,(Z4 hx).1⟩) (fun k e=>by simp[Value.ownBlock]at e)
 have hσ:(ω1.addσ (.slice none 0 0)).σ S1.nx=.slice none 0 0:=by simp[Wit.addσ,h1.wn]
 rw[<-hσ]
 exact Qi0 hf h2 (r:=S1.nx) (x:=x) (by simp[hlk]) (us:=us) (rest:=rest') (by omega) hk.1 (fun i s v e1 e2=>(hpr i s v e1 (by simpa using e2)).mono (Wit.le_addσ _ _)) S1.heap (fun q b e=>by
  have hq:q<S1.nx:=h1.nx q b e
  refine Qar (by omega) ?_
  simp only[hlk]
  rw[if_neg (by omega)]
  exact e) hk.2
 exact hk.elim
 exact Sat.callOwn2 hf h hn hr hk
theorem Sat.call {f:FuncId} {P:Spec} (hf:Sat f P) (h:Sim g0 w0 M ω S a w) {svs:List SV} {args:Array Value} (hn:args.size=svs.length)
 (hr:∀(i:Nat) (s:SV) (v:Value),svs[i]? = some s->args[i]? = some v->Rel ω s v) {K:SV->SS->Prop} (hk:U1 S P svs K) :
 Calls zf f args w fun e w'=>∃v,e=.returned v/\Qdx g0 w0 M a K v w':=by
 unfold U1 at hk
 have hsz:=h.fr.size
 split at hk
 rename_i r rest
 -- the first argument names a block
 obtain⟨u,us,rfl,hus⟩:=QbF (by simpa using hn)
 obtain⟨ω1,hl,hpl,hpr,h1⟩:=Sim.pubS rest S ω h us.toList (by simp;omega) (fun i s v e1 e2=>hr (i+1) s v (by simpa using e1) (by rw[Qat];simpa using e2))
 generalize hpp:pubS S rest=p at *
 obtain⟨rest',S1⟩:=p
 try simp only at hk hpl hpr h1
 split at hk
 rename_i T bcs hb
 obtain⟨hlt,hlow,hk⟩:=hk
 have hu:=(hr 0 _ u rfl (Qas u us)).mono hl
 obtain⟨rfl,hrn⟩:=hu.ptr_inv
 have hst:=Qel h1 hb (show (SB.blk T bcs).low=true from hlow)
 refine (hf _ w _ _ (.ptr 0 0::rest') _ (some (.blk T bcs)) _ hst (by simp;omega) (fun i s v e1 e2=>?_) hk).mono fun e w' ⟨v,o,b',he,hK,ω',S',k2,k3,k4⟩=>⟨v,he,?_⟩
 . cases i with
   | zero=>
    rw[Qas]at e2
    cases e2
    simp only[zB,Option.some.injEq]at e1
    subst e1
    exact .ptr (ω:=⟨ω1.Γ,fun _=>ω1.ρ r,fun _=>ω1.σ r,1⟩) 0 0 (by show 0<1;omega)
   | succ i=>
    have e1':rest'[i]? = some s:=by simpa using e1
    rw[Qat]at e2
    exact V0 (SV.lts_get hlt i s e1') (hpr i s v e1' (by simpa using e2)) rfl
 split at hK
 rename_i T' bcs'
 obtain⟨k31,k32⟩:=k3 _ rfl
 have hd:Sim g0 w0 M ω1 { S1 with heap:=Jg S1.heap r } a w:=h1.del r
 have hM:∀k,bl ω1 r (.blk T bcs)=some k->(M k\/w0.heap.size<=k)/\ω1.Γ k=none/\∀q b,hlk (Jg S1.heap r) q=some b->bl ω1 q b≠some k:=fun k hk=>
  ⟨h1.mine r _ k hb hk,h1.ng r _ k hb hk,fun q b e hq=>(Yq e).1 (h1.sep r q _ b k hb (Yq e).2 hk hq)⟩
 obtain⟨l2,hbk⟩:=hd.back rfl k2 hM
 have hρ:ω'.ρ 0=ω1.ρ r:=k2.pin _ rfl
 -- the block is the caller's again
 have hadd:=hbk.add r (by have:=h1.nx r _ hb;exact this) (QfO S1.heap r) (.blk T' bcs') (by
  obtain⟨vs,q1,q2,q3⟩:=k2.heap 0 _ k31
  refine⟨vs,?_,q2,fun i s u e1 e2=>V0 (SV.lts_get k32 i s e1) (q3 i s u e1 e2) rfl⟩
  rw[<-q1,hρ]) (fun k hk=>by
  simp only[bl,Option.some.injEq]at hk
  subst hk
  refine⟨?_,(hM _ rfl).1,(hM _ rfl).2.2⟩
  have:=k2.ng 0 _ _ k31 rfl
  rw[hρ]at this
  exact this)
 have hfin:=hadd.heapEq (hpt S1.heap r (.blk T' bcs')) (fun q b e=>by
  show hlk ((r,_)::Jg S1.heap r) q=some b
  simp only[hlk]
  rcases QhT e with ⟨rfl,rfl,_⟩ | ⟨e1,e2⟩
  rw[if_pos rfl]
  rw[if_neg e1]
  exact Qar e1 e2)
 refine Qku k2 k4 hfin h1.fr.size (fun q y k e1 e2=>?_) hK
 have hq0:q≠0:=by
  rintro rfl
  rw[k31]at e1
  cases e1
 rcases k2.mine q _ k e1 (by simpa [bl] using e2) with h3 | h3
 exact absurd (k2.sep 0 q _ _ k k31 e1 (by simp only[bl,hρ];exact h3) (by simpa [bl] using e2)).symm hq0
 refine⟨.inr (Nat.le_trans h1.fr.size h3),fun q' b e hq=>?_⟩
 rcases QhT e with ⟨rfl,rfl,_⟩ | ⟨_,e2⟩
 have:=(h1.heap _ _ hb).lt (show bl ω1 r (.blk T bcs)=some k from hq)
 omega
 have:=(h1.heap q' b e2).lt hq
 omega
 exact hK.elim
 exact hk.elim
 obtain⟨ω1,hl,hpl,hpr,h1⟩:=Sim.pubS svs S ω h args.toList (by simp[hn]) (fun i s v e1 e2=>hr i s v e1 (by simpa using e2))
 generalize hpp:pubS S svs=p at *
 obtain⟨svs',S1⟩:=p
 try simp only at hk hpl hpr h1
 obtain⟨hlt,hk⟩:=hk
 have hst:=Qem h1
 refine (hf _ w _ _ svs' _ none _ hst (by omega) (fun i s v e1 e2=>V0 (SV.lts_get hlt i s e1) (hpr i s v e1 (by simpa using e2)) rfl) hk).mono fun e w' ⟨v,o,b',he,hK,ω',S',k2,k3,k4⟩=>⟨v,he,?_⟩
 obtain⟨l2,hbk⟩:=h1.back rfl k2 (fun k hk=>hk.elim)
 refine Qku k2 k4 hbk h1.fr.size (fun q y k e1 e2=>?_) hK
 rcases k2.mine q _ k e1 (by simpa [bl] using e2) with h3 | h3
 exact h3.elim
 refine⟨.inr (Nat.le_trans h1.fr.size h3),fun q' b e hq=>?_⟩
 have:=(h1.heap q' b e).lt hq
 omega
end
end
end Go.Proofs.YtengepcafdnalaaGreatDoor
