/-
  Parts of the proof that the law FnPrintBack holds for every input (texts Eb, Ec, Ed, Ee). Conditions: none.
-/
import Derived.Test.YtengepcafdnalaaGreatDoorM06
namespace Go.Proofs.YtengepcafdnalaaGreatDoor
open _root_.Array renaming getElem?_eq_some_iff → zA, getElem?_setIfInBounds_ne → zH, getD_eq_getD_getElem? → xb
open _root_.List renaming getElem?_eq_some_iff → zy, getElem?_set_ne → xn, getElem?_map → zC
open _root_.Nat renaming le_refl → zm, lt_of_lt_of_le → zL, mul_le_mul_right → z8, zero_add → xj
open _root_.Option renaming map_some → zK
open Go.Result renaming andThen_ok → zn
open Go.Sem renaming run_bind → zp
open Go.Proofs.Tryz renaming prog → zf
open _root_.UInt8 renaming ofNat → zD
section
open Go Go.RowKit
abbrev Env:=List (List SV)
def lk1:List SV->Nat->Option SV
 | [],_=>none
 | x::_,0=>some x
 | _::l,n+1=>lk1 l n
def lk2:Env->Nat->Nat->Option SV
 | [],_,_=>none
 | x::_,0,j=>lk1 x j
 | _::l,n+1,j=>lk2 l n j
def pt1:List SV->Nat->SV->List SV
 | [],_,_=>[]
 | _::l,0,v=>v::l
 | x::l,n+1,v=>x::pt1 l n v
def pt2:Env->Nat->Nat->SV->Env
 | [],_,_,_=>[]
 | x::l,0,j,v=>pt1 x j v::l
 | x::l,n+1,j,v=>x::pt2 l n j v
def elk (e:Env) (i:Nat):Option SV:=lk2 e (i/16) (i%16)
def ept (e:Env) (i:Nat) (v:SV):Env:=pt2 e (i/16) (i%16) v
def QnL:Option SV->SV
 | some s=>s
 | none=>.undef
def ZM (e:Env) (i:Nat):SV:=QnL (elk e i)
theorem QsB (l:List SV):∀(i j:Nat) (v s:SV),lk1 (pt1 l i v) j=some s->(i=j/\s=v)\/(i≠j/\lk1 l j=some s):=by
 induction l with
 | nil=>intro i j v s h;simp[pt1,lk1]at h
 | cons x l ih=>
  intro i j v s h
  cases i with
  | zero=>cases j with
   | zero=>simp[pt1,lk1]at h;exact .inl ⟨rfl,h.symm⟩
   | succ j=>simp[pt1,lk1]at h;exact .inr ⟨by omega,h⟩
  | succ i=>cases j with
   | zero=>simp[pt1,lk1]at h;exact .inr ⟨by omega,by simp[lk1,h]⟩
   | succ j=>
    simp[pt1,lk1]at h
    rcases ih i j v s h with ⟨h1,h2⟩ | ⟨h1,h2⟩
    . exact .inl ⟨by omega,h2⟩
    exact .inr ⟨by omega,h2⟩
theorem Qsz (l:Env):∀(i i' j j':Nat) (v s:SV),lk2 (pt2 l i i' v) j j'=some s->(i=j/\i'=j'/\s=v)\/(¬(i=j/\i'=j')/\lk2 l j j'=some s):=by
 induction l with
 | nil=>intro i i' j j' v s h;simp[pt2,lk2]at h
 | cons x l ih=>
  intro i i' j j' v s h
  cases i with
  | zero=>cases j with
   | zero=>
    simp[pt2,lk2]at h
    rcases QsB x i' j' v s h with ⟨h1,h2⟩ | ⟨h1,h2⟩
    . exact .inl ⟨rfl,h1,h2⟩
    exact .inr ⟨by omega,h2⟩
   | succ j=>simp[pt2,lk2]at h;exact .inr ⟨by omega,h⟩
  | succ i=>cases j with
   | zero=>simp[pt2,lk2]at h;exact .inr ⟨by omega,by simp[lk2,h]⟩
   | succ j=>
    simp[pt2,lk2]at h
    rcases ih i i' j j' v s h with ⟨h1,h2⟩ | ⟨h1,h2⟩
    . exact .inl ⟨by omega,h2⟩
    exact .inr ⟨by omega,h2⟩
theorem Qd3 {e:Env} {i j:Nat} {v s:SV} (h:elk (ept e i v) j=some s):(i=j/\s=v)\/(i≠j/\elk e j=some s):=by
 rcases Qsz e _ _ _ _ v s h with ⟨h1,h2,h3⟩ | ⟨h1,h2⟩
 exact .inl ⟨by omega,h3⟩
 exact .inr ⟨by rintro rfl;exact h1 ⟨rfl,rfl⟩,h2⟩
theorem QhC (l:List SV):∀(i j:Nat) (v s:SV),lk1 (pt1 l i v) j=some s->∃s',lk1 l j=some s':=by
 induction l with
 | nil=>intro i j v s h;simp[pt1,lk1]at h
 | cons x l ih=>
  intro i j v s h
  cases i<;>cases j<;>simp[pt1,lk1]at h ⊢
  exact⟨_,h⟩
  exact ih _ _ _ _ h
theorem QhA (l:Env):∀(i i' j j':Nat) (v s:SV),lk2 (pt2 l i i' v) j j'=some s->∃s',lk2 l j j'=some s':=by
 induction l with
 | nil=>intro i i' j j' v s h;simp[pt2,lk2]at h
 | cons x l ih=>
  intro i i' j j' v s h
  cases i<;>cases j<;>simp[pt2,lk2]at h ⊢
  exact QhC _ _ _ _ _ h
  exact⟨_,h⟩
  exact⟨_,h⟩
  exact ih _ _ _ _ _ _ h
theorem ZL {e:Env} {i j:Nat} {v s:SV} (h:elk (ept e i v) j=some s):∃s',elk e j=some s':=QhA e _ _ _ _ v s h
def Qk4 (f:SV->SV) (e:Env):Env:=e.map (·.map f)
theorem QsC (f:SV->SV) (l:List SV):∀j,lk1 (l.map f) j=(lk1 l j).map f:=by
 induction l with
 | nil=>intro j;rfl
 | cons x l ih=>intro j;cases j<;>simp[lk1,ih]
theorem QsA (f:SV->SV) (l:Env):∀i j,lk2 (l.map (·.map f)) i j=(lk2 l i j).map f:=by
 induction l with
 | nil=>intro i j;rfl
 | cons x l ih=>intro i j;cases i<;>simp[lk2,ih,QsC]
theorem Zg (f:SV->SV) (e:Env) (j:Nat):elk (Qk4 f e) j=(elk e j).map f:=QsA f e _ _
inductive SB where
 | blk (T:TypeId) (cs:List SV)
 | row (x:RV) (app:Bool)
abbrev Heap:=List (Nat×SB)
def hlk:Heap->Nat->Option SB
 | [],_=>none
 | (r,b)::h,q=>if r=q then some b else hlk h q
def hpt:Heap->Nat->SB->Heap
 | [],_,_=>[]
 | (r,b)::h,q,b'=>if r=q then (r,b')::h else (r,b)::hpt h q b'
def Jg:Heap->Nat->Heap
 | [],_=>[]
 | (r,b)::h,q=>if r=q then Jg h q else (r,b)::Jg h q
theorem QhT {h:Heap} {q r:Nat} {b s:SB} (e:hlk (hpt h q b) r=some s):(q=r/\s=b/\∃b0,hlk h r=some b0)\/(q≠r/\hlk h r=some s):=by
 induction h with
 | nil=>simp[hpt,hlk]at e
 | cons x h ih=>
  obtain⟨r',b'⟩:=x
  simp only[hpt]at e
  split at e
  rename_i hq
  subst hq
  simp only[hlk]at e ⊢
  split at e
  rename_i hr
  subst hr
  exact .inl ⟨rfl,by simpa using e.symm,b',by simp⟩
  rename_i hr
  rw[if_neg hr]
  exact .inr ⟨hr,e⟩
  rename_i hq
  simp only[hlk]at e ⊢
  split at e
  rename_i hr
  subst hr
  rw[if_pos rfl]
  exact .inr ⟨fun h=>hq h.symm,e⟩
  rename_i hr
  rw[if_neg hr]
  exact ih e
theorem Yq {h:Heap} {q r:Nat} {s:SB} (e:hlk (Jg h q) r=some s):q≠r/\hlk h r=some s:=by
 induction h with
 | nil=>simp[Jg,hlk]at e
 | cons x h ih=>
  obtain⟨r',b'⟩:=x
  simp only[Jg]at e
  split at e
  rename_i hq
  subst hq
  obtain⟨h1,h2⟩:=ih e
  exact⟨h1,by simp only[hlk];rw[if_neg h1];exact h2⟩
  rename_i hq
  simp only[hlk]at e ⊢
  split at e
  rename_i hr
  subst hr
  exact⟨fun h=>hq h.symm,by rw[if_pos rfl];exact e⟩
  rename_i hr
  obtain⟨h1,h2⟩:=ih e
  exact⟨h1,by rw[if_neg hr];exact h2⟩
def Qai (ω:Wit) (w:World) (v:Value) (x:RV) (app:Bool):Prop:=
 (v=.slice none 0 0/\x.len=0) \/
 ∃g cap cur fr,v=.slice (some ⟨g,0,none⟩) x.len cap/\w.heap[g]? = some (.cells cur x.elem fr)/\(if app then fr=(0,0) else (fr=(0,0)\/cur.size<=fr.1)) /\
  x.len<=cap/\cap<=maxLen/\cur.size=cap*x.z /\
  ∀(i j:Nat) (s:SV) (u:Value),i<x.len->(x.cell i)[j]? = some s->cur[i*x.z+j]? = some u->Rel ω s u
def QmX (ω:Wit) (w:World) (b:Nat) (T:TypeId) (cs:List SV):Prop:=
 ∃vs:Array Value,w.heap[b]? = some (.cells vs T)/\vs.size=cs.length/\∀(i:Nat) (s:SV) (u:Value),cs[i]? = some s->vs[i]? = some u->Rel ω s u
def QdI (ω:Wit) (w:World) (r:Nat):SB->Prop
 | .blk T cs=>QmX ω w (ω.ρ r) T cs
 | .row x app=>Qai ω w (ω.σ r) x app/\∀b,(ω.σ r).ownBlock=some b->ω.ρ r=b
def bl (ω:Wit) (r:Nat):SB->Option Nat
 | .blk _ _=>some (ω.ρ r)
 | .row _ _=>(ω.σ r).ownBlock
structure SS where
 env:Env
 heap:Heap
 nx:Nat
structure Frame (w0:World) (M:Nat->Prop) (w:World):Prop where
 os:w.os=w0.os
 tape:w.tape=w0.tape
 output:w.output=w0.output
 size:w0.heap.size<=w.heap.size
 block:∀k,k<w0.heap.size->¬M k->w.heap[k]? = w0.heap[k]?
theorem Frame.refl (w:World) (M:Nat->Prop):Frame w M w:=⟨rfl,rfl,rfl,zm _,fun _ _ _=>rfl⟩
def QjB (g:Nat):Bool:=decide (g<3)||decide (g=4)||decide (g=5)
structure Glob where
 G:Nat->Option (Array Value×TypeId)
 err:∀g,QjB g=true->∃t v T,G g=some (#[.iface t v],T)
 D:List Deferred
 tab:∃T,G 6=some (((List.range 20).map fun i=>Value.int .u64 ((10^i:Nat):Int)).toArray,T)
structure Sim (g0:Glob) (w0:World) (M:Nat->Prop) (ω:Wit) (S:SS) (a:Act) (w:World):Prop where
 env:∀i s,elk S.env i=some s->∃v,a.tmps[i]? = some v/\Rel ω s v
 heap:∀r b,hlk S.heap r=some b->QdI ω w r b
 sep:∀r r' b b' k,hlk S.heap r=some b->hlk S.heap r'=some b'->bl ω r b=some k->bl ω r' b'=some k->r=r'
 ng:∀r b k,hlk S.heap r=some b->bl ω r b=some k->ω.Γ k=none
 mine:∀r b k,hlk S.heap r=some b->bl ω r b=some k->M k\/w0.heap.size<=k
 nx:∀r b,hlk S.heap r=some b->r<S.nx
 wn:ω.n=S.nx
 gam:∀b c T,ω.Γ b=some (c,T)->∃fr,w.heap[b]? = some (.cells c T fr)
 fr:Frame w0 M w
 df:a.defers=g0.D
 gl:∀b x,g0.G b=some x->ω.Γ b=some x
 gn:∀b x,ω.Γ b=some x->g0.G b=some x\/M b\/w0.heap.size<=b
 pin:∀k,M k->ω.ρ 0=k
 n0:0<S.nx
theorem Act.put_some (a:Act) (d:Nat) (v:Value):(a.put (some d) v).tmps=a.tmps.setIfInBounds d v:=rfl
theorem Sim.put {g0:Glob} {w0:World} {M:Nat->Prop} {ω:Wit} {S:SS} {a:Act} {w:World} (h:Sim g0 w0 M ω S a w) {s:SV} {v:Value} (hr:Rel ω s v) (d:Nat) :
 Sim g0 w0 M ω { S with env:=ept S.env d s } (a.put (some d) v) w:=by
 refine { h with env:=fun i t ht=>?_,df:=h.df }
 rcases Qd3 ht with ⟨rfl,rfl⟩ | ⟨hne,ht'⟩
 obtain⟨s',hs'⟩:=ZL ht
 obtain⟨v',hv',_⟩:=h.env _ _ hs'
 have hlt:d<a.tmps.size:=(zA.1 hv').1
 exact⟨v,by simp[Act.put_some,hlt],hr⟩
 obtain⟨v',hv',hr'⟩:=h.env _ _ ht'
 exact⟨v',by rw[Act.put_some,zH hne];exact hv',hr'⟩
end
section
open Go Go.RowKit
theorem Qai.mono {ω ω':Wit} (hl:ω.le ω') {w w':World} {v:Value} {x:RV} {app:Bool} (hw:∀k,v.ownBlock=some k->w'.heap[k]? = w.heap[k]?) (h:Qai ω w v x app):Qai ω' w' v x app:=by
 rcases h with h | ⟨g,cap,cur,fr,rfl,h1,h2,h3,h4,h5,h6⟩
 exact .inl h
 exact .inr ⟨g,cap,cur,fr,rfl,by rw[hw g rfl];exact h1,h2,h3,h4,h5,fun i j s u a b c=>(h6 i j s u a b c).mono hl⟩
theorem QmX.mono {ω ω':Wit} (hl:ω.le ω') {w w':World} {b:Nat} {T:TypeId} {cs:List SV} (hw:w'.heap[b]? = w.heap[b]?) (h:QmX ω w b T cs):QmX ω' w' b T cs:=by
 obtain⟨vs,h1,h2,h3⟩:=h
 exact⟨vs,by rw[hw];exact h1,h2,fun i s u a b=>(h3 i s u a b).mono hl⟩
theorem QdI.mono {ω ω':Wit} (hl:ω.le ω') {w w':World} {r:Nat} (hr:r<ω.n) {b:SB} (hw:∀k,bl ω r b=some k->w'.heap[k]? = w.heap[k]?) (h:QdI ω w r b):QdI ω' w' r b:=by
 cases b with
 | blk T cs=>
  simp only[QdI] at *
  rw[hl.ρ r hr]
  exact h.mono hl (hw _ rfl)
 | row x app=>
  simp only[QdI] at *
  rw[hl.σ r hr,hl.ρ r hr]
  exact⟨h.1.mono hl (fun k hk=>hw k hk),h.2⟩
theorem Qbh {ω ω':Wit} (hl:ω.le ω') {r:Nat} (hr:r<ω.n) (b:SB):bl ω' r b=bl ω r b:=by
 cases b with
 | blk T cs=>simp[bl,hl.ρ r hr]
 | row x app=>simp[bl,hl.σ r hr]
theorem QdI.lt {ω:Wit} {w:World} {r:Nat} {b:SB} (h:QdI ω w r b) {k:Nat} (hk:bl ω r b=some k):k<w.heap.size:=by
 cases b with
 | blk T cs=>
  obtain⟨vs,h1,_⟩:=h
  simp only[bl,Option.some.injEq]at hk
  subst hk
  exact (zA.1 h1).1
 | row x app=>
  obtain⟨h,_⟩:=h
  simp only[bl]at hk
  rcases h with ⟨h,_⟩ | ⟨g,cap,cur,fr,h,h1,_⟩
  rw[h]at hk;simp[Value.ownBlock]at hk
  rw[h]at hk
  simp only[Value.ownBlock,Option.some.injEq]at hk
  subst hk
  exact (zA.1 h1).1
theorem Frame.trans_same {w0:World} {M:Nat->Prop} {w w':World} (h:Frame w0 M w) (ho:w'.os=w.os) (ht:w'.tape=w.tape) (hu:w'.output=w.output) (hs:w.heap.size<=w'.heap.size)
 (hb:∀k,k<w0.heap.size->¬M k->w'.heap[k]? = w.heap[k]?):Frame w0 M w':=
 ⟨ho.trans h.os,ht.trans h.tape,hu.trans h.output,Nat.le_trans h.size hs,fun k hk hm=>(hb k hk hm).trans (h.block k hk hm)⟩
theorem Sim.grow {g0:Glob} {w0:World} {M:Nat->Prop} {ω ω':Wit} {S:SS} {a:Act} {w w':World} (h:Sim g0 w0 M ω S a w) (hl:ω.le ω')
 (ho:w'.os=w.os) (ht:w'.tape=w.tape) (hu:w'.output=w.output) (hs:w.heap.size<=w'.heap.size)
 (hb:∀k,k<w.heap.size->w'.heap[k]? = w.heap[k]?)
 (hΓ:∀b c T,ω'.Γ b=some (c,T)->ω.Γ b=some (c,T)\/(w.heap.size<=b/\∃fr,w'.heap[b]? = some (.cells c T fr))) :
 Sim g0 w0 M ω' { S with nx:=ω'.n } a w' where
 env i s e:=let ⟨v,h1,h2⟩:=h.env i s e;⟨v,h1,h2.mono hl⟩
 heap r b e:=(h.heap r b e).mono hl (by rw[h.wn];exact h.nx r b e) fun k hk=>hb k ((h.heap r b e).lt hk)
 sep r r' b b' k e e' hk hk':=h.sep r r' b b' k e e' (by rw[<-Qbh hl (by rw[h.wn];exact h.nx r b e)];exact hk) (by rw[<-Qbh hl (by rw[h.wn];exact h.nx r' b' e')];exact hk')
 ng r b k e hk:=by
  have hk':bl ω r b=some k:=by rw[<-Qbh hl (by rw[h.wn];exact h.nx r b e)];exact hk
  have h1:=h.ng r b k e hk'
  have h2:=(h.heap r b e).lt hk'
  cases hc:ω'.Γ k with
  | none=>rfl
  | some x=>
   obtain⟨c,T⟩:=x
   rcases hΓ k c T hc with h3 | ⟨h3,_⟩
   rw[h1]at h3;cases h3
   omega
 mine r b k e hk:=h.mine r b k e (by rw[<-Qbh hl (by rw[h.wn];exact h.nx r b e)];exact hk)
 nx r b e:=zL (h.nx r b e) (by rw[<-h.wn];exact hl.n)
 wn:=rfl
 gam b c T e:=by
  rcases hΓ b c T e with h1 | ⟨_,h1⟩
  obtain⟨fr,h2⟩:=h.gam b c T h1
  exact⟨fr,by rw[hb b (zA.1 h2).1];exact h2⟩
  exact h1
 fr:=h.fr.trans_same ho ht hu hs fun k hk _=>hb k (zL hk h.fr.size)
 df:=h.df
 gl b x e:=hl.Γ _ _ (h.gl b x e)
 gn b x e:=by
  obtain⟨c,T⟩:=x
  rcases hΓ b c T e with h1 | ⟨h1,_⟩
  exact h.gn b _ h1
  exact .inr (.inr (Nat.le_trans h.fr.size h1))
 pin k hk:=by rw[hl.ρ 0 (by rw[h.wn];exact h.n0)];exact h.pin k hk
 n0:=zL h.n0 (by rw[<-h.wn];exact hl.n)
theorem Sim.same {g0:Glob} {w0:World} {M:Nat->Prop} {ω:Wit} {S:SS} {a:Act} {w w':World} (h:Sim g0 w0 M ω S a w)
 (ho:w'.os=w.os) (ht:w'.tape=w.tape) (hu:w'.output=w.output) (hh:w'.heap=w.heap):Sim g0 w0 M ω S a w':=by
 have:=h.grow (Wit.le.refl ω) ho ht hu (by rw[hh];exact zm _) (fun k _=>by rw[hh]) (fun b c T e=>.inl e)
 rw[h.wn]at this
 exact this
theorem Sim.add {g0:Glob} {w0:World} {M:Nat->Prop} {ω:Wit} {S:SS} {a:Act} {w:World} (h:Sim g0 w0 M ω S a w) (r:Nat) (hr:r<S.nx) (hn:hlk S.heap r=none) (b:SB) (hb:QdI ω w r b)
 (hk:∀k,bl ω r b=some k->ω.Γ k=none/\(M k\/w0.heap.size<=k)/\∀r' b',hlk S.heap r'=some b'->bl ω r' b'≠some k) :
 Sim g0 w0 M ω { S with heap:=(r,b)::S.heap } a w:=by
 have look:∀q s,hlk ((r,b)::S.heap) q=some s->(q=r/\s=b)\/(q≠r/\hlk S.heap q=some s):=by
  intro q s e
  simp only[hlk]at e
  split at e
  rename_i hq;exact .inl ⟨hq.symm,by simpa using e.symm⟩
  rename_i hq;exact .inr ⟨fun h=>hq h.symm,e⟩
 refine { h with heap:=?_,sep:=?_,ng:=?_,mine:=?_,nx:=?_ }
 intro q s e
 rcases look q s e with ⟨rfl,rfl⟩ | ⟨_,e'⟩
 exact hb
 exact h.heap q s e'
 intro q q' s s' k e e' h1 h2
 rcases look q s e with ⟨rfl,rfl⟩ | ⟨_,e1⟩<;>rcases look q' s' e' with ⟨rfl,rfl⟩ | ⟨_,e1'⟩
 rfl
 exact absurd h2 ((hk k h1).2.2 q' s' e1')
 exact absurd h1 ((hk k h2).2.2 q s e1)
 exact h.sep q q' s s' k e1 e1' h1 h2
 intro q s k e h1
 rcases look q s e with ⟨rfl,rfl⟩ | ⟨_,e1⟩
 exact (hk k h1).1
 exact h.ng q s k e1 h1
 intro q s k e h1
 rcases look q s e with ⟨rfl,rfl⟩ | ⟨_,e1⟩
 exact (hk k h1).2.1
 exact h.mine q s k e1 h1
 intro q s e
 rcases look q s e with ⟨rfl,rfl⟩ | ⟨_,e1⟩
 exact hr
 exact h.nx q s e1
theorem Sim.del {g0:Glob} {w0:World} {M:Nat->Prop} {ω:Wit} {S:SS} {a:Act} {w:World} (h:Sim g0 w0 M ω S a w) (r:Nat):Sim g0 w0 M ω { S with heap:=Jg S.heap r } a w where
 env:=h.env
 heap q b e:=h.heap q b (Yq e).2
 sep q q' b b' k e e':=h.sep q q' b b' k (Yq e).2 (Yq e').2
 ng q b k e:=h.ng q b k (Yq e).2
 mine q b k e:=h.mine q b k (Yq e).2
 nx q b e:=h.nx q b (Yq e).2
 wn:=h.wn
 gam:=h.gam
 fr:=h.fr
 df:=h.df
 gl:=h.gl
 gn:=h.gn
 pin:=h.pin
 n0:=h.n0
theorem Sim.forget {g0:Glob} {w0:World} {M:Nat->Prop} {ω:Wit} {S:SS} {a:Act} {w:World} (h:Sim g0 w0 M ω S a w) (e':Env)
 (he:∀i s,elk e' i=some s->∃s',elk S.env i=some s'/\(s=.undef\/s=s')):Sim g0 w0 M ω { S with env:=e' } a w:=
 { h with
  env:=fun i s e=>
   let ⟨s',h1,h2⟩:=he i s e
   let ⟨v,h3,h4⟩:=h.env i s' h1
   ⟨v,h3,by
    rcases h2 with rfl | rfl
    . exact .undef v
    exact h4⟩ }
def Wit.addΓ (ω:Wit) (b:Nat) (vs:Array Value) (T:TypeId):Wit:={ ω with Γ:=fun k=>if k=b then some (vs,T) else ω.Γ k }
def Wit.addρ (ω:Wit) (b:Nat):Wit:={ ω with ρ:=fun r=>if r=ω.n then b else ω.ρ r,n:=ω.n+1 }
def Wit.addσ (ω:Wit) (v:Value):Wit:={ ω with σ:=fun r=>if r=ω.n then v else ω.σ r,ρ:=fun r=>if r=ω.n then (v.ownBlock.getD 0) else ω.ρ r,n:=ω.n+1 }
theorem Wit.le_addΓ {ω:Wit} {b:Nat} (h:ω.Γ b=none) (vs:Array Value) (T:TypeId):ω.le (ω.addΓ b vs T):=
 ⟨fun k x e=>by
  simp only[Wit.addΓ]
  split
  rename_i hk;subst hk;rw[h]at e;cases e
  exact e,zm _,fun _ _=>rfl,fun _ _=>rfl⟩
theorem Wit.le_addρ (ω:Wit) (b:Nat):ω.le (ω.addρ b):=
 ⟨fun _ _ e=>e,Nat.le_succ _,fun r hr=>by simp only[Wit.addρ];rw[if_neg (by omega)],fun _ _=>rfl⟩
theorem Wit.le_addσ (ω:Wit) (v:Value):ω.le (ω.addσ v):=
 ⟨fun _ _ e=>e,Nat.le_succ _,fun r hr=>by simp only[Wit.addσ];rw[if_neg (by omega)],fun r hr=>by simp only[Wit.addσ];rw[if_neg (by omega)]⟩
theorem Sim.Γ_lt {g0:Glob} {w0:World} {M:Nat->Prop} {ω:Wit} {S:SS} {a:Act} {w:World} (h:Sim g0 w0 M ω S a w) {b:Nat} (hb:w.heap.size<=b):ω.Γ b=none:=by
 cases hc:ω.Γ b with
 | none=>rfl
 | some x=>
  obtain⟨c,T⟩:=x
  obtain⟨fr,h1⟩:=h.gam b c T hc
  have:=(zA.1 h1).1
  omega
theorem Sim.hlk_nx {g0:Glob} {w0:World} {M:Nat->Prop} {ω:Wit} {S:SS} {a:Act} {w:World} (h:Sim g0 w0 M ω S a w) {r:Nat} (hr:S.nx<=r):hlk S.heap r=none:=by
 cases hc:hlk S.heap r with
 | none=>rfl
 | some b=>have:=h.nx r b hc;omega
end
section
open Go Go.RowKit
section
variable {g0:Glob} {w0:World} {M:Nat->Prop} {ω:Wit} {S:SS} {a:Act} {w:World}
theorem QjP (w:World) (o:Obj):(w.alloc o).heap[w.heap.size]? = some o:=Go.heap_alloc_new w o
theorem QbH (w:World) (o:Obj) {k:Nat} (h:k<w.heap.size):(w.alloc o).heap[k]? = w.heap[k]?:=Below.heap_alloc w o k h
theorem QbG (w:World) (o:Obj):(w.alloc o).heap.size=w.heap.size+1:=by show (w.heap.push o).size=_;simp
theorem Sim.allocBlk (h:Sim g0 w0 M ω S a w) (vs:Array Value) (T:TypeId) (cs:List SV) (hn:vs.size=cs.length) (hr:∀(i:Nat) (s:SV) (u:Value),cs[i]? = some s->vs[i]? = some u->Rel ω s u) :
 Sim g0 w0 M (ω.addρ w.heap.size) { S with heap:=(S.nx,.blk T cs)::S.heap,nx:=S.nx+1 } a (w.alloc (.cells vs T)):=by
 have h1:=h.grow (Wit.le_addρ ω w.heap.size) (w':=w.alloc (.cells vs T)) rfl rfl rfl (by rw[QbG];omega) (fun k hk=>QbH w _ hk) (fun b c T' e=>.inl e)
 have hρ:(ω.addρ w.heap.size).ρ S.nx=w.heap.size:=by simp[Wit.addρ,h.wn]
 have h2:=h1.add S.nx (by show S.nx<ω.n+1;rw[h.wn];omega) (h.hlk_nx (zm _)) (.blk T cs)
  (by
   simp only[QdI]
   rw[hρ]
   exact⟨vs,QjP w _,hn,fun i s u a b=>(hr i s u a b).mono (Wit.le_addρ ω _)⟩)
  (fun k hk=>by
   simp only[bl,hρ,Option.some.injEq]at hk
   subst hk
   refine⟨h.Γ_lt (zm _),.inr h.fr.size,fun r' b' e hk'=>?_⟩
   rw[Qbh (Wit.le_addρ ω _) (by rw[h.wn];exact h.nx r' b' e)]at hk'
   exact absurd ((h.heap r' b' e).lt hk') (Nat.lt_irrefl _))
 rw[show (ω.addρ w.heap.size).n=S.nx+1 from by simp[Wit.addρ,h.wn]]at h2
 exact h2
theorem Qes {w:World} {b o:Nat} {vs:Array Value} {T:TypeId} {fr:Nat×Nat} (h:w.heap[b]? = some (.cells vs T fr)) (v:Value):(w.setCell ⟨b,o,none⟩ v).heap[b]? = some (.cells (vs.setIfInBounds o v) T fr):=by
 simp[World.setCell,Array.getElem?_modify,h]
theorem QbU {w:World} {b o k:Nat} (h:k≠b) (v:Value):(w.setCell ⟨b,o,none⟩ v).heap[k]? = w.heap[k]?:=Below.heap_setCell w _ v k h
theorem Sim.turn {w':World} (h:Sim g0 w0 M ω S a w) {r:Nat} {b b':SB} (hb:hlk S.heap r=some b) {k:Nat} (hk:bl ω r b=some k) (hk':bl ω r b'=some k)
 (ho:w'.os=w.os) (ht:w'.tape=w.tape) (hu:w'.output=w.output) (hs:w'.heap.size=w.heap.size) (hw:∀q,q≠k->w'.heap[q]? = w.heap[q]?) (hn:QdI ω w' r b') :
 Sim g0 w0 M ω { S with heap:=hpt S.heap r b' } a w':=by
 have look:∀q s,hlk (hpt S.heap r b') q=some s->(q=r/\s=b')\/(q≠r/\hlk S.heap q=some s):=by
  intro q s e
  rcases QhT e with ⟨rfl,rfl,_⟩ | ⟨h1,h2⟩
  exact .inl ⟨rfl,rfl⟩
  exact .inr ⟨fun e=>h1 e.symm,h2⟩
 refine { env:=h.env,heap:=?_,sep:=?_,ng:=?_,mine:=?_,nx:=?_,wn:=h.wn,gam:=?_,fr:=?_,df:=h.df,gl:=h.gl,gn:=h.gn,pin:=h.pin,n0:=h.n0 }
 intro q s e
 rcases look q s e with ⟨rfl,rfl⟩ | ⟨hq,e1⟩
 exact hn
 refine (h.heap q s e1).mono (Wit.le.refl ω) (by rw[h.wn];exact h.nx q s e1) fun k' hk1=>hw k' ?_
 rintro rfl
 exact hq (h.sep q r s b k' e1 hb hk1 hk)
 intro q q' s s' k1 e e' h1 h2
 rcases look q s e with ⟨rfl,rfl⟩ | ⟨_,e1⟩<;>rcases look q' s' e' with ⟨rfl,rfl⟩ | ⟨_,e1'⟩
 rfl
 rw[hk']at h1;cases h1
 exact h.sep _ _ _ _ k hb e1' hk h2
 rw[hk']at h2;cases h2
 exact h.sep _ _ _ _ k e1 hb h1 hk
 exact h.sep q q' s s' k1 e1 e1' h1 h2
 intro q s k1 e h1
 rcases look q s e with ⟨rfl,rfl⟩ | ⟨_,e1⟩
 rw[hk']at h1;cases h1
 exact h.ng _ _ _ hb hk
 exact h.ng q s k1 e1 h1
 intro q s k1 e h1
 rcases look q s e with ⟨rfl,rfl⟩ | ⟨_,e1⟩
 rw[hk']at h1;cases h1
 exact h.mine _ _ _ hb hk
 exact h.mine q s k1 e1 h1
 intro q s e
 rcases look q s e with ⟨rfl,rfl⟩ | ⟨_,e1⟩
 exact h.nx _ _ hb
 exact h.nx q s e1
 intro q c T e
 obtain⟨fr,h1⟩:=h.gam q c T e
 have hq:q≠k:=by
  rintro rfl
  have:=h.ng r b q hb hk
  rw[this]at e;cases e
 exact⟨fr,by rw[hw q hq];exact h1⟩
 refine h.fr.trans_same ho ht hu (by rw[hs];exact zm _) fun q hq hm=>hw q ?_
 rintro rfl
 rcases h.mine r b q hb hk with h1 | h1
 exact hm h1
 omega
theorem Sim.setBlk (h:Sim g0 w0 M ω S a w) {r:Nat} {T:TypeId} {cs:List SV} (hb:hlk S.heap r=some (.blk T cs)) {s:SV} {v:Value} (hr:Rel ω s v) (o:Nat) :
 Sim g0 w0 M ω { S with heap:=hpt S.heap r (.blk T (cs.set o s)) } a (w.setCell ⟨ω.ρ r,o,none⟩ v):=by
 obtain⟨vs,h1,h2,h3⟩:=h.heap r _ hb
 refine h.turn hb (k:=ω.ρ r) rfl rfl rfl rfl rfl (World.size_setCell ..) (fun q hq=>QbU hq v) ?_
 refine⟨vs.setIfInBounds o v,Qes h1 v,by simp[h2],fun i s' u e1 e2=>?_⟩
 by_cases hi:o=i
 subst hi
 have hlt:o<cs.length:=by
  have:=(zy.1 e1).1
  simpa using this
 rw[List.getElem?_set_self hlt]at e1
 rw[Array.getElem?_setIfInBounds_self_of_lt (by omega)]at e2
 cases e1;cases e2
 exact hr
 rw[xn hi]at e1
 rw[zH hi]at e2
 exact h3 i s' u e1 e2
theorem Sim.setRow (h:Sim g0 w0 M ω S a w) {r:Nat} {x x':RV} {app:Bool} (hb:hlk S.heap r=some (.row x app)) {s:SV} {v:Value} (hr:Rel ω s v) (i o:Nat) (hi:i<x.len) (ho:o<x.z)
 (hlen:x'.len=x.len) (he:x'.elem=x.elem) (hz:x'.z=x.z) (hsame:∀j,j<x.len->j≠i->x'.cell j=x.cell j) (hcell:x'.cell i=(x.cell i).set o s) :
 Sim g0 w0 M ω { S with heap:=hpt S.heap r (.row x' app) } a (w.setCell ⟨ω.ρ r,i*x.z+o,none⟩ v):=by
 obtain⟨h1,h2⟩:=h.heap r _ hb
 rcases h1 with ⟨_,h0⟩ | ⟨g,cap,cur,fr,hσ,hg,hfr,hc,hm,hs,hcells⟩
 omega
 have hρ:ω.ρ r=g:=h2 g (by rw[hσ];rfl)
 refine h.turn hb (k:=g) (by simp[bl,hσ,Value.ownBlock]) (by simp[bl,hσ,Value.ownBlock]) rfl rfl rfl (World.size_setCell ..) (fun q hq=>QbU (by rw[hρ];exact hq) v) ?_
 refine⟨.inr ⟨g,cap,cur.setIfInBounds (i*x.z+o) v,fr,by rw[hσ,hlen],?_,?_,by omega,hm,by rw[hz];simpa using hs,?_⟩,h2⟩
 rw[hρ,he];exact Qes hg v
 simpa using hfr
 intro j q s' u e0 e1 e2
 rw[hz]at e2
 have hq:q<x.z:=by
  have:=(zy.1 e1).1
  rw[RV.cell_length,hz]at this
  exact this
 by_cases hj:j=i
 subst hj
 rw[hcell]at e1
 by_cases hqo:o=q
 subst hqo
 rw[List.getElem?_set_self (by rw[RV.cell_length];exact ho)]at e1
 rw[Array.getElem?_setIfInBounds_self_of_lt (by
  rw[hs]
  have:(j+1)*x.z<=cap*x.z:=z8 _ (by omega)
  rw[Nat.add_mul]at this
  omega)]at e2
 cases e1;cases e2
 exact hr
 rw[xn hqo]at e1
 rw[zH (by omega)]at e2
 exact hcells j q s' u hi e1 e2
 rw[hsame j (by omega) hj]at e1
 have hne:i*x.z+o≠j*x.z+q:=by
  intro e
  have h1:(i*x.z+o)/x.z=i:=by rw[Nat.mul_comm,Nat.mul_add_div (by omega),Nat.div_eq_of_lt ho];rfl
  have h2:(j*x.z+q)/x.z=j:=by rw[Nat.mul_comm,Nat.mul_add_div (by omega),Nat.div_eq_of_lt hq];rfl
  rw[e,h2]at h1
  exact hj h1
 rw[zH hne]at e2
 exact hcells j q s' u (by omega) e1 e2
theorem Sim.pub (h:Sim g0 w0 M ω S a w) {r:Nat} {x:RV} {app:Bool} (hb:hlk S.heap r=some (.row x app)) :
 ∃ω',ω.le ω'/\ω'.n=ω.n/\Rel ω' (.sl x) (ω.σ r)/\Sim g0 w0 M ω' { S with heap:=Jg S.heap r } a w:=by
 obtain⟨h1,h2⟩:=h.heap r _ hb
 rcases h1 with ⟨h1,h0⟩ | ⟨g,cap,cur,fr,hσ,hg,hfr,hc,hm,hs,hcells⟩
 exact⟨ω,Wit.le.refl ω,rfl,by rw[h1];exact .slz x none 0 h0,h.del r⟩
 have hng:ω.Γ g=none:=h.ng r _ g hb (by simp[bl,hσ,Value.ownBlock])
 have hl:=Wit.le_addΓ hng cur x.elem
 refine⟨ω.addΓ g cur x.elem,hl,rfl,?_,?_⟩
 rw[hσ]
 refine .sl x g 0 cap cur x.elem (by simp[Wit.addΓ]) ?_ hc fun i j s v e0 e1 e2=>?_
 rw[hs,xj];exact z8 _ hc
 rw[xj]at e2
 exact (hcells i j s v e0 e1 e2).mono hl
 have hd:=h.del r
 exact {
  env:=fun i s e=>let ⟨v,e1,e2⟩:=h.env i s e;⟨v,e1,e2.mono hl⟩
  heap:=fun q b e=>(hd.heap q b e).mono hl (by rw[h.wn];exact hd.nx q b e) fun _ _=>rfl
  sep:=fun q q' b b' k e e'=>hd.sep q q' b b' k e e'
  ng:=fun q b k e hk=>by
   have hk':bl ω q b=some k:=hk
   simp only[Wit.addΓ]
   split
   . rename_i hkg
     subst hkg
     obtain⟨hne,e'⟩:=Yq e
     exact absurd (h.sep r q _ b k hb e' (by simp[bl,hσ,Value.ownBlock]) hk') hne
   exact hd.ng q b k e hk'
  mine:=fun q b k e hk=>hd.mine q b k e hk
  nx:=hd.nx
  wn:=h.wn
  gam:=fun b c T e=>by
   simp only[Wit.addΓ]at e
   split at e
   . rename_i hbg
     simp only[Option.some.injEq,Prod.mk.injEq]at e
     obtain⟨rfl,rfl⟩:=e
     subst hbg
     exact⟨fr,hg⟩
   exact h.gam b c T e
  fr:=h.fr
  df:=h.df
  gl:=fun b x e=>hl.Γ _ _ (h.gl b x e)
  gn:=fun b x e=>by
   simp only[Wit.addΓ]at e
   split at e
   . rename_i hbg
     subst hbg
     exact .inr (h.mine r _ b hb (by simp[bl,hσ,Value.ownBlock]))
   exact h.gn b x e
  pin:=h.pin
  n0:=h.n0 }
end
end
section
open Go Go.RowKit
def cvI (k:IntKind) (n:Int):SV:=
 match k,n with
 | .i64,.ofNat m=>.nat m
 | .u8,.ofNat m=>if m<256 then .byt (zD m) else .int .u8 m
 | k,n=>.int k n
theorem Qsd (ω:Wit) (k:IntKind) (n:Int):Rel ω (cvI k n) (.int k n):=by
 unfold cvI
 split
 exact .nat _
 rename_i m
 split
 rename_i h
 have:=Rel.byt (ω:=ω) (zD m)
 rw[show (zD m).toNat=m from by simp;omega]at this
 exact this
 exact .int _ _
 exact .int _ _
def cv0:Value->SV
 | .int k n=>cvI k n
 | .bool b=>.bool b
 | .string s=>.str s.data.toList
 | .pointer none=>.nilptr
 | .nilIface=>.nilif
 | .slice none 0 0=>.nilsl
 | v=>.op v
def cv:Value->SV
 | .agg vs=>.agg (vs.toList.map cv0)
 | v=>cv0 v
theorem Qj1 (s:ByteArray):(⟨s.data.toList.toArray⟩:ByteArray)=s:=by cases s;simp
theorem Qhh (ω:Wit) (v:Value):Rel ω (cv0 v) v:=by
 unfold cv0
 split
 exact Qsd _ _ _
 exact .bool _
 rename_i s
 have:=Rel.str (ω:=ω) s.data.toList
 rw[Qj1]at this
 exact this
 exact .nilptr
 exact .nilif
 exact .nilsl
 exact .op _
theorem QvJ (ω:Wit) (v:Value):Rel ω (cv v) v:=by
 unfold cv
 split
 rename_i vs
 refine .agg _ vs (by simp) fun i s u h1 h2=>?_
 rw[zC]at h1
 have:vs.toList[i]? = some u:=by simpa using h2
 rw[this]at h1
 simp only[zK,Option.some.injEq]at h1
 subst h1
 exact Qhh ω u
 exact Qhh ω v
def ev (e:Env):Operand->SV
 | .tmp t=>ZM e t
 | .const v=>cv v
 | .global g=>if QjB g=true then .cp [.ifx] else .op (.pointer (some ⟨g,0,none⟩))
 | .func f=>.op (.func (.func f) #[] #[])
theorem Sim.ev {g0:Glob} {w0:World} {M:Nat->Prop} {ω:Wit} {S:SS} {a:Act} {w:World} (h:Sim g0 w0 M ω S a w) (x:Operand):Rel ω (ev S.env x) (a.eval x):=by
 cases x with
 | tmp t=>
  simp only[YtengepcafdnalaaGreatDoor.ev,Act.eval,ZM]
  cases ht:elk S.env t with
  | none=>exact .undef _
  | some s=>
   obtain⟨v,h1,h2⟩:=h.env t s ht
   simp only[QnL,xb,h1,Option.getD_some]
   exact h2
 | const v=>exact QvJ ω v
 | global g=>
  simp only[YtengepcafdnalaaGreatDoor.ev,Act.eval]
  split
  rename_i hg
  obtain⟨t,v,T,hG⟩:=g0.err g hg
  refine .cp _ g 0 _ T (h.gl _ _ hG) (by simp) fun j s u h1 h2=>?_
  cases j with
  | zero=>
   simp at h1 h2
   rw[<-h1,<-h2]
   exact .ifx t v
  | succ j=>simp at h1
  exact .op _
 | func f=>exact .op _
def unw:SV->SV
 | .gd _ s=>s
 | s=>s
def cnd:SV->Prop
 | .gd c _=>c=true
 | _=>True
theorem J2 {ω:Wit} {s:SV} {v:Value} (h:Rel ω s v) (hc:cnd s):Rel ω (unw s) v:=by
 cases h<;>first | exact (by assumption:_->Rel ω _ v) hc | (simp only[unw];constructor<;>assumption)
def slt:TypeId->Option (TypeId×Nat)
 | 22=>some (33,8)
 | 34=>some (3,1)
 | 37=>some (5,1)
 | 83=>some (9,1)
 | 79=>some (22,1)
 | 49=>some (56,1)
 | 50=>some (56,1)
 | 176=>some (21,1)
 | _=>none
theorem QhO {E:TypeId} {z:Nat} (h:(zf.info? E).map (·.size)=some z):∃i,zf.info? E=some i/\i.size=z:=by
 cases hi:zf.info? E with
 | none=>rw[hi]at h;cases h
 | some i=>rw[hi]at h;exact⟨i,rfl,by simpa using h⟩
theorem Qac {T E:TypeId} {z:Nat} (h:slt T=some (E,z)):zf.underlying T=some (.slice E)/\∃i,zf.info? E=some i/\i.size=z:=by
 unfold slt at h
 split at h<;>first | (cases h;done) | (cases h;exact⟨by kernel_rfl,QhO (by kernel_rfl)⟩)
def shp:TypeId->Option (Bool×Nat)
 | 3=>some (false,1)
 | 4=>some (false,1)
 | 5=>some (false,1)
 | 9=>some (false,1)
 | 22=>some (false,1)
 | 34=>some (false,1)
 | 37=>some (false,1)
 | 49=>some (false,1)
 | 50=>some (false,1)
 | 56=>some (false,1)
 | 71=>some (false,1)
 | 79=>some (false,1)
 | 83=>some (false,1)
 | 92=>some (false,1)
 | 33=>some (true,8)
 | 46=>some (true,5)
 | 62=>some (true,3)
 | 76=>some (true,11)
 | 94=>some (true,4)
 | 99=>some (true,1)
 | 101=>some (true,1)
 | 103=>some (true,1)
 | 105=>some (true,4)
 | 109=>some (true,4)
 | 111=>some (true,1)
 | 113=>some (true,0)
 | 114=>some (true,0)
 | 115=>some (true,0)
 | 116=>some (true,0)
 | 117=>some (true,0)
 | 118=>some (true,0)
 | 119=>some (true,0)
 | 121=>some (true,1)
 | 123=>some (true,2)
 | 125=>some (true,1)
 | 127=>some (true,2)
 | 129=>some (true,2)
 | 147=>some (true,1)
 | 131=>some (true,3)
 | _=>none
def QgV (d:Option TypeDesc):Option Bool:=d.map fun d=>match d with
 | .struct _ | .array _ _=>true
 | _=>false
theorem QcB {T:TypeId} {b:Bool} {z:Nat} (h:shp T=some (b,z)):QgV (zf.underlying T)=some b/\∃i,zf.info? T=some i/\i.size=z:=by
 unfold shp at h
 split at h<;>first | (cases h;done) | (cases h;exact⟨by kernel_rfl,QhO (by kernel_rfl)⟩)
theorem QaJ {T:TypeId} {b:Bool} (h:QgV (zf.underlying T)=some b) (w:World):(isAgg T).run zf w=.ok b w:=by
 cases hd:zf.underlying T with
 | none=>rw[hd]at h;cases h
 | some d=>
  rw[hd]at h
  unfold isAgg
  simp only[zp,run_underlying hd,zn]
  simp only[QgV,zK,Option.some.injEq]at h
  cases d<;>simp_all
theorem Ul {T:TypeId} {i:TypeInfo} (h:zf.info? T=some i) (w:World):(sizeOf T).run zf w=.ok i.size w:=by
 simp[sizeOf,typeInfo,h]
theorem ZF (P:Program) (w:World) (b o:Nat) (f:Nat->Value):∀(n i:Nat) (acc:Array Value),(∀j,j<n->w.cell? ⟨b,o+(i+j),none⟩=some (f (i+j))) ->
 (loadCellsFrom ⟨b,o,none⟩ i n acc).run P w=.ok (acc++((List.range' i n).map f).toArray) w
 | 0,i,acc,_=>by simp[loadCellsFrom]
 | n+1,i,acc,h=>by
  have h0:=h 0 (by omega)
  simp only[Nat.add_zero]at h0
  have ha:(⟨b,o,none⟩:Addr).add i=⟨b,o+i,none⟩:=by unfold Addr.add;split<;>simp_all
  simp only[loadCellsFrom,zp,ha,run_load,h0,zn]
  rw[ZF P w b o f n (i+1) _ (fun j hj=>by have:=h (j+1) (by omega);rw[show i+(j+1)=i+1+j from by omega]at this;exact this)]
  simp[List.range'_succ]
end
end Go.Proofs.YtengepcafdnalaaGreatDoor
