/-
  Parts of the proof that the law FnPrintBack holds for every input (texts Xk). Conditions: none.
-/
import Derived.Test.YtengepcafdnalaaGreatDoorM35
namespace Go.Proofs.YtengepcafdnalaaGreatDoor
open _root_.Bool renaming or_eq_true → zx, false_ne_true → zq, and_eq_true → zk
open _root_.List renaming mem_cons → zu, append_assoc → zw, length_pos_iff → zN, flatten_cons → xu, exists_cons_of_ne_nil → zX, length_append → zh, length_cons → zj
open _root_.Nat renaming add_assoc → xe, zero_le → zO, le_refl → zm
section
set_option maxRecDepth 20000
def Zq (L:Nat):CSel->Prop
 | .cls v=>v≠[]/\v.length<=L
 | .idn v=>v≠[]/\v.length<=L
 | .attr k v o i=>(k≠[]/\low k=k/\k.length<=L/\v.length<=L)/\(o=[]/\v=[]/\i=false\/o∈attrSigns)
 | .nth a b _ _=>(-9223372036854775807<=a/\a<=9223372036854775807)/\(-9223372036854775807<=b/\b<=9223372036854775807)
 | .lang v=>v≠[]/\low v=v/\v.length<=L
 | .contains v _=>low v=v/\v.length<=L
 | .never v=>∃n,n∈neverNames/\v=58::n
 | .tag _=>False
 | .rel _ _=>False
 | .compound _ _=>False
 | .combined _ _ _=>False
 | _=>True
mutual
def Wf (a:Bool) (L:Nat):CSel->Nat->Nat->Prop
 | .tag k,_,c=>1<=c/\k≠[]/\low k=k/\k.length<=L
 | .rel n l,d,_=>(n=Zz\/n=ZA\/n=QN)/\l≠[]/\∃d',d=d'+1/\Wfs a L l d' 3 3
 | .compound l pe,d,c=>2<=c/\(pe=[]\/pe∈elNames/\a=true)/\(l.length=1->pe≠[])/\Wfs a L l d 1 0
 | .combined f o s,d,c=>3<=c/\(o=32\/o=62\/o=43\/o=126)/\Wf a L f d 3/\Wf a L s d 2
 | x,_,_=>Zq L x
def Wfs (a:Bool) (L:Nat):List CSel->Nat->Nat->Nat->Prop
 | [],_,_,_=>True
 | x::l,d,c,c'=>Wf a L x d c/\Wfs a L l d c' c'
end
mutual
def prC:CSel->Prop
 | .rel _ l=>QfJ l
 | .compound l _=>QfJ l
 | .combined f _ s=>prC f/\prC s
 | x=>YP (Qy x)=true
def QfJ:List CSel->Prop
 | []=>True
 | x::l=>prC x/\QfJ l
end
section
variable {a:Bool} {L d:Nat}
theorem Wf.mono {x:CSel} {c c':Nat} (h:Wf a L x d c) (hc:c<=c'):Wf a L x d c':=by
 cases x<;>simp only[Wf]at h ⊢ <;> first | exact h | exact⟨by omega,h.2⟩
theorem Qcw {c:Nat}:∀{l:List CSel},Wfs a L l d c c->∀y∈l,Wf a L y d c
 | [],_,y,hy=>by cases hy
 | x::l,h,y,hy=>by
  rw[Wfs]at h
  rcases zu.1 hy with e | e
  subst e;exact h.1
  exact Qcw h.2 y e
theorem Qyf {l:List CSel} (h:Wfs a L l d 1 0):(∀y∈l.tail,Wf a L y d 0)/\(∀y,l.head? = some y->Wf a L y d 1):=by
 cases l with
 | nil=>exact⟨fun y hy=>(by cases hy),fun y hy=>(by cases hy)⟩
 | cons x l=>
  rw[Wfs]at h
  exact⟨Qcw h.2,fun y hy=>by cases hy;exact h.1⟩
theorem Qii {c:Nat}:∀{l:List CSel} {z:CSel},Wfs a L l d c c->Wf a L z d c->Wfs a L (l++[z]) d c c
 | [],z,_,hz=>by rw[List.nil_append,Wfs,Wfs];exact⟨hz,trivial⟩
 | x::l,z,h,hz=>by
  rw[Wfs]at h
  rw[List.cons_append,Wfs]
  exact⟨h.1,Qii h.2 hz⟩
theorem QrE {l:List CSel} {z:CSel} (h:Wfs a L l d 1 0) (hz:Wf a L z d 0):Wfs a L (l++[z]) d 1 0:=by
 cases l with
 | nil=>rw[List.nil_append,Wfs,Wfs];exact⟨hz.mono (by omega),trivial⟩
 | cons x l=>
  rw[Wfs]at h
  rw[List.cons_append,Wfs]
  exact⟨h.1,Qii h.2 hz⟩
theorem Qak:∀{l:List CSel},QfJ l->∀y∈l,prC y
 | [],_,y,hy=>by cases hy
 | x::l,h,y,hy=>by
  rw[QfJ]at h
  rcases zu.1 hy with e | e
  subst e;exact h.1
  exact Qak h.2 y e
end
namespace Way
def Qcx (a:Bool) (d:Nat) (x:CSel) (t:Bs):Prop:=Qv (hd t)=true/\∀(s:Bs) (k i:Nat) (r:Bs),d<=k->s.drop i=t++r->Y9 r->Vd (Qw s a k) s i=some (some x,[],i+t.length)
theorem YJ.A {d d':Nat} {x:CSel} {t:Bs} (a:Bool) (h:YJ d x t) (hd:d<=d'):Qcx a d' x t:=⟨h.1,fun s k i r hk=>h.2 s a k i r (by omega)⟩
def Js (a:Bool) (d:Nat) (l:List CSel) (pe t:Bs):Prop:=(t=[]\/Qv (hd t)=true)/\∀(s:Bs) (k i:Nat) (r:Bs) (l0:List CSel),d<=k->s.drop i=t++r->U8 r ->
 QS (Qw s a k) s a i l0 []=some (VT (l0++l) pe,i+t.length)
section
variable {a:Bool} {d:Nat}
theorem Js.nil:Js a d [] [] []:=by
 refine⟨.inl rfl,fun s k i r l0 _ e hr=>?_⟩
 rw[QcD e hr]
 simp
theorem Js.el {pe t:Bs} (h:ElS pe t) (ha:a=true):Js a d [] pe t:=by
 subst ha
 refine⟨.inr h.1,fun s k i r l0 hk e hr=>?_⟩
 have:=(QbM.el d h).2 s true k i r l0 hk e hr
 rw[this,if_neg (by simp)]
theorem Js.cons {x:CSel} {t:Bs} {l:List CSel} {pe u:Bs} (h:Qcx a d x t) (h':Js a d l pe u):Js a d (x::l) pe (t++u):=by
 have hne:=UB h.1
 refine⟨.inr (by rw[Vm hne];exact h.1),fun s k i r l0 hk e hr=>?_⟩
 rw[zw]at e
 have hb:=bhd e
 rw[Vm hne]at hb
 have hl:=lhd e (by simp[hne])
 have hp:1<=t.length:=zN.2 hne
 have hs:Y9 (u++r):=by
  rcases h'.1 with q | q
  subst q;exact hr.no.2.1
  exact QbS q
 rw[QS,if_pos ⟨hl,by rw[hb];exact h.1⟩,h.2 s k i _ hk e hs]
 simp only
 rw[if_pos (by omega),if_pos trivial,h'.2 s k _ r _ hk (dA e) hr]
 simp[xe]
def ZQ (a:Bool) (d:Nat) (x:CSel) (t:Bs):Prop:=JX t/\∀(s:Bs) (k i:Nat) (r:Bs),d<=k->s.drop i=t++r->U8 r->V8 (Qw s a k) s a i=some (x,i+t.length)
theorem ZQ.star:ZQ a d (.compound [] []) [42]:=by
 refine⟨⟨by simp,show VO 42=false by decide,show 42≠47 by decide,show Vf 42=false by decide,show 42≠44 by decide,show 42≠41 by decide⟩,fun s k i r hk e hr=>?_⟩
 have:=(Qdd.star (QbM.nil d)).2 s a k i r hk e hr
 rw[this,if_neg (by simp)]
 rfl
theorem ZQ.bare {l:List CSel} {pe u:Bs} (h:Js a d l pe u) (hu:u≠[]):ZQ a d (VT l pe) u:=by
 have hs:=h.1.resolve_left hu
 refine⟨⟨hu,?_⟩,fun s k i r hk e hr=>?_⟩
 simp only[Qv,zx,decide_eq_true_eq]at hs
 rcases hs with ((q | q) | q) | q<;>rw[q]<;>decide
 have hb:=bhd e
 rw[Vm hu]at hb
 unfold V8
 rw[if_pos (lhd e (by simp[hu])),if_neg (by rw[hb];intro q;rw[q]at hs;revert hs;decide),if_pos (by rw[hb];exact hs),h.2 s k i r [] hk e hr]
 simp
theorem ZQ.tag {v t:Bs} {l:List CSel} {pe u:Bs} (ht:IdW v t) (h:Js a d l pe u):ZQ a d (VT (.tag (low v)::l) pe) (t++u):=by
 obtain⟨k1,_,k3⟩:=ht.head
 have k4:=QcQ k3
 refine⟨JX.app ⟨k1,k4.2.2.2.1,k4.2.2.2.2.1,k4.2.2.2.2.2.1,k4.2.2.2.2.2.2.1,k4.2.2.2.2.2.2.2.1⟩,fun s k i r hk e hr=>?_⟩
 rw[zw]at e
 have hb:=bhd e
 rw[Vm k1]at hb
 have hs:Y9 (u++r):=by
  rcases h.1 with q | q
  subst q;exact hr.no.2.1
  exact QbS q
 unfold V8
 rw[if_pos (lhd e (by simp[k1])),hb,if_neg k4.2.1,if_neg (by rw[k4.2.2.1];exact zq),Zj ht e hs]
 simp only
 rw[h.2 s k _ r _ hk (dA e) hr]
 simp[xe]
def Zm (a:Bool) (d:Nat) (x:CSel) (t:Bs):Prop:=JX t/\∀(s:Bs) (k i:Nat) (r:Bs),d<=k->s.drop i=t++r->U8 r ->
 ((V8 (Qw s a k) s a i).bind fun y=>Q6 (Qw s a k) s a y.1 y.2)=Q6 (Qw s a k) s a x (i+t.length)
theorem Zm.one {x:CSel} {t:Bs} (h:ZQ a d x t):Zm a d x t:=by
 refine⟨h.1,fun s k i r hk e hr=>?_⟩
 rw[h.2 s k i r hk e hr]
 rfl
theorem Zm.comb {x y:CSel} {t g1 g2 u:Bs} {c:UInt8} (h:Zm a d x t) (w1:WsL g1) (hc:Vf c.toNat=true) (w2:WsL g2) (h':ZQ a d y u) :
 Zm a d (.combined x c y) (t++(g1++(c::(g2++u)))):=by
 refine⟨h.1.app,fun s k i r hk e hr=>?_⟩
 have e1:s.drop i=t++(g1++(c::(g2++(u++r)))):=by rw[e];simp
 have e2:=dA e1
 have e3:=dA e2
 obtain⟨c1,c2,c3,c4⟩:=d1 e3
 have e5:=dA c4
 rw[h.2 s k i _ hk e1 (U8.ws w1 (.inr (.inr (.inr (.inl hc)))))]
 rw[Q6,Ym g1 _ _ e2 w1 (QgO hc),if_pos c1,if_pos (by rw[c2];exact hc),Ym g2 _ _ c4 w2 h'.1.stop,h'.2 s k _ r hk e5 hr,c3]
 have hp:1<=u.length:=zN.2 h'.1.1
 simp only
 rw[if_pos (by omega)]
 congr 1
 simp;omega
theorem Zm.desc {x y:CSel} {t g u:Bs} (h:Zm a d x t) (w:WsL g) (hg:g≠[]) (h':ZQ a d y u):Zm a d (.combined x 32 y) (t++(g++u)):=by
 refine⟨h.1.app,fun s k i r hk e hr=>?_⟩
 have e1:s.drop i=t++(g++(u++r)):=by rw[e];simp
 have e2:=dA e1
 have e3:=dA e2
 have hb:=bhd e3
 rw[Vm h'.1.1]at hb
 have hgl:1<=g.length:=zN.2 hg
 have hws:U8 (g++(u++r)):=by
  match g,w,hg with
  | c::g,w,_=>exact .inr (.inr (.inr (.inr (w c (by simp)))))
 rw[h.2 s k i _ hk e1 hws]
 rw[Q6,Ym g _ _ e2 w h'.1.stop,if_pos (lhd e3 (by simp[h'.1.1])),hb,if_neg (by rw[h'.1.2.2.2.1];exact zq),
  if_neg (by rintro (q | q | q);exact h'.1.2.2.2.2.1 q;exact h'.1.2.2.2.2.2 q;omega),h'.2 s k _ r hk e3 hr]
 have hp:1<=u.length:=zN.2 h'.1.1
 simp only
 rw[if_pos (by omega)]
 congr 1
 simp;omega
def Qlu (a:Bool) (d:Nat) (x:CSel) (t:Bs):Prop:=t≠[]/\∀(s:Bs) (k i:Nat) (r:Bs),d<=k->s.drop i=t++r->Qlv r->YX (Qw s a k) s a i=some (x,i+t.length)
theorem Qlu.mk {x:CSel} {t g:Bs} (w:WsL g) (h:Zm a d x t):Qlu a d x (g++t):=by
 refine⟨by simp[h.1.1],fun s k i r hk e hr=>?_⟩
 have e1:s.drop i=g++(t++r):=by rw[e];simp
 have e2:=dA e1
 rw[Qmh,Ym g i _ e1 w h.1.stop,h.2 s k _ _ hk e2 hr.s.1,selGo_end (g:=[]) (dA e2) .nil hr]
 simp;omega
def Qbj (a:Bool) (d:Nat) (l:List CSel) (t:Bs):Prop:=(t=[]/\l=[]\/hd t=44/\l≠[])/\∀(s:Bs) (k j:Nat) (r:Bs) (l0:List CSel),d<=k->s.drop j=t++r->(r=[]\/hd r=41)->VM (Qw s a k) s a l0 j=some (l0++l,j+t.length)
theorem Qbj.nil:Qbj a d [] []:=by
 refine⟨.inl ⟨rfl,rfl⟩,fun s k j r l0 hk e hr=>?_⟩
 have:=(QfB.nil d).2 s a k j r l0 hk e hr
 rw[this,if_neg (by simp)]
theorem QmH {l:List CSel} {t r:Bs} (h:Qbj a d l t) (hr:r=[]\/hd r=41):Qlv (t++r):=by
 rcases h.1 with ⟨q,_⟩ | ⟨q,_⟩
 subst q;exact hr.elim .inl fun q=>.inr (.inr q)
 exact .inr (.inl (by rw[Vm (Qjt (by omega))];exact q))
theorem Qbj.cons {x:CSel} {t u:Bs} {l:List CSel} (h:Qlu a d x t) (h':Qbj a d l u):Qbj a d (x::l) (44::(t++u)):=by
 refine⟨.inr ⟨rfl,by simp⟩,fun s k j r l0 hk e hr=>?_⟩
 have e1:s.drop j=44::(t++(u++r)):=by rw[e];simp
 obtain⟨h1,h2,h3,h4⟩:=d1 e1
 have hp:1<=t.length:=zN.2 h.1
 rw[VM,if_pos ⟨h1,h2⟩,h.2 s k _ _ hk h4 (QmH h' hr)]
 simp only
 rw[if_pos (by omega),h'.2 s k _ r _ hk (dA h4) hr]
 simp[xe,Nat.add_comm,Nat.add_left_comm]
def QjT (a:Bool) (d:Nat) (l:List CSel) (t:Bs):Prop:=t≠[]/\∀(s:Bs) (k i:Nat) (r:Bs),d<=k->s.drop i=t++r->(r=[]\/hd r=41)->Qw s a (k+1) i=some (l,i+t.length)
theorem QjT.mk {x:CSel} {t u:Bs} {l:List CSel} (h:Qlu a d x t) (h':Qbj a d l u):QjT a d (x::l) (t++u):=by
 refine⟨by simp[h.1],fun s k i r hk e hr=>?_⟩
 rw[zw]at e
 rw[Qw,h.2 s k i _ hk e (QmH h' hr)]
 simp only
 rw[h'.2 s k _ r _ hk (dA e) hr]
 simp[xe]
theorem Qcx.rel {v n t g1 u:Bs} {l:List CSel} (h:IdW v t) (hv:low v=n) (hn:n=Zz\/n=ZA\/n=QN) (w1:WsL g1) (hu:QjT a d l u) (hh:Yg u) :
 Qcx a (d+1) (.rel n l) (58::(t++(40::(g1++(u++[41]))))):=by
 refine⟨show Qv 58=true by decide,fun s k i r hk e hs=>?_⟩
 have e1:s.drop i=58::(t++(40::(g1++(u++(41::r))))):=by rw[e];simp
 have e2:s.drop (i+(t.length+1))=40::(g1++(u++(41::r))):=by
  have:=dA (d1 e1).2.2.2;rw[<-this];congr 1;omega
 have e3:=dA (d1 e2).2.2.2
 have e4:=dA e3
 have hsw:Yg (u++(41::r)):=by unfold Yg;rw[Vm hu.1];exact hh
 obtain⟨k',rfl⟩:∃k',k=k'+1:=⟨k-1,by omega⟩
 rw[Zw (d1 e).2.1,QcS h e1 Qej,hv]
 unfold VX
 rw[if_pos hn]
 unfold Y7
 rw[Qao e2 w1 hsw]
 simp only
 rw[hu.2 s k' _ _ (by omega) e3 (.inr rfl)]
 simp only
 rw[JC (g:=[]) e4 .nil]
 simp;omega
theorem QdN {pe:Bs} (hp:pe=[]\/pe∈elNames/\a=true):∀{l:List CSel},(∀y∈l,Qcx a d y (pr y))->Js a d l pe ((prs l).flatten++(if pe=[] then [] else 58::58::pe))
 | [],_=>by
  rw[prs,List.flatten_nil,List.nil_append]
  by_cases e:pe=[]
  rw[if_pos e,e];exact Js.nil
  rw[if_neg e];exact Js.el (el_p' (hp.resolve_left e).1).1 (hp.resolve_left e).2
 | y::l,h=>by
  rw[prs,xu,zw]
  exact Js.cons (h y (by simp)) (QdN hp fun z hz=>h z (by simp[hz]))
theorem Qmv:∀{l:List CSel},(∀y∈l,Zm a d y (pr y))->Qbj a d l ((prs l).flatMap fun u=>[44,32]++u)
 | [],_=>Qbj.nil
 | y::l,h=>by
  have q:=Qbj.cons (Qlu.mk (g:=[32]) Qir (h y (by simp))) (Qmv (l:=l) fun z hz=>h z (by simp[hz]))
  rw[prs,List.flatMap_cons]
  simpa using q
theorem slA_p {y:CSel} (h:Zm a d y (pr y)):Qlu a d y (pr y):=by
 have q:=Qlu.mk (g:=[]) .nil h
 rwa [List.nil_append]at q
theorem Qs2 {l:List CSel} (hl:l≠[]) (h:∀y∈l,Zm a d y (pr y)):QjT a d l (prG l)/\Yg (prG l):=by
 obtain⟨y,u,rfl⟩:=zX hl
 have h0:=h y (by simp)
 refine⟨QjT.mk (slA_p h0) (Qmv (l:=u) fun z hz=>h z (by simp[hz])),?_⟩
 unfold prG
 rw[prs,Qcc]
 exact h0.1.stop
end
theorem QqC (n:Nat):1<=(JQ n).length/\2<=(JQ n).length:=by
 unfold JQ
 simp
theorem nmP_len (h i:Nat) (c:UInt8):1<=(nmP h i c).length/\(c.toNat=0->2<=(nmP h i c).length):=by
 have:=QqC c.toNat
 unfold nmP
 refine⟨?_,fun e=>?_⟩
 split
 omega
 split<;>simp
 rw[if_pos (by omega)];omega
theorem nmF_len (h:Nat):∀(u:Bs) (i:Nat),u.length<=(nmF h i u).length/\((∃c∈u,c.toNat=0)->u.length<(nmF h i u).length)
 | [],i=>⟨by simp,fun⟨c,hc,_⟩=>by cases hc⟩
 | c::u,i=>by
  have ih:=nmF_len h u (i+1)
  have q:=nmP_len h i c
  rw[nmF,zh,zj]
  refine⟨by omega,fun⟨x,hx,h0⟩=>?_⟩
  rcases zu.1 hx with e | e
  subst e;have:=q.2 h0;omega
  have:=ih.2 ⟨x,e,h0⟩;omega
theorem Qhp {k:Bs} (hn:k≠[]) (h:Jn k=true) (hl:low k=k):Uc k:=by
 refine Qsk (fun c hc h0=>?_) hn h hl
 unfold Jn at h
 simp only[zk,decide_eq_true_eq]at h
 have h1:=h.1
 unfold JL at h1
 split at h1
 rename_i e;subst e;revert h1;decide
 have:=(nmF_len (bat k 0) k 0).2 ⟨c,hc,h0⟩
 rw[h1]at this
 omega
theorem Qwc {L:Nat} {x:CSel} (h:Zq L x) (hp:YP (Qy x)=true):Qjd x:=by
 cases x<;>simp only[Zq]at h<;>simp only[Qjd]
 case cls v=>
  simp[YP,Qy]at hp
  exact⟨h.1,Qi5 hp.1,Qxp hp.2⟩
 case idn v=>
  simp[YP,Qy]at hp
  exact⟨h.1,Qi5 hp⟩
 case attr k v o i=>
  simp[YP,Qy]at hp
  refine⟨Qhp h.1.1 hp.1 h.1.2.1,?_⟩
  rcases h.2 with q | q
  exact .inl q
  exact .inr ⟨q,Qkm hp.2⟩
 case nth=>exact h
 case lang v=>
  simp[YP,Qy]at hp
  exact Qhp h.1 hp h.2.1
 case contains v o=>
  refine⟨?_,h.1⟩
  cases o
  simp[YP,Qy,b2i]at hp
  exact Qkm hp
  simp[YP,Qy,b2i]at hp
  exact Qkm hp
 case never v=>exact h
theorem Qsh {a:Bool} {L:Nat}:∀(m:Nat) (x:CSel) (d c:Nat),hgt x<=m->prC x->Wf a L x d c->(c=0->Qcx a d x (pr x))/\(c<=1->Qcx a d x (pr x)\/∃k,x=.tag k/\Uc k)/\(c<=2->ZQ a d x (pr x))/\Zm a d x (pr x)
 | 0,x,d,c,hm,_,_=>by have:=Qmq x;omega
 | m+1,x,d,c,hm,hp,hw=>by
  have ih:=Qsh (a:=a) (L:=L) m
  have sim:Qcx a d x (pr x)->(c=0->Qcx a d x (pr x))/\(c<=1->Qcx a d x (pr x)\/∃k,x=.tag k/\Uc k)/\(c<=2->ZQ a d x (pr x))/\Zm a d x (pr x):=by
   intro h
   have q:=ZQ.bare (Js.cons h Js.nil) (by simp[UB h.1])
   rw[List.append_nil]at q
   exact⟨fun _=>h,fun _=>.inl h,fun _=>q,Zm.one q⟩
  have leaf:Zq L x->YP (Qy x)=true->(c=0->Qcx a d x (pr x))/\(c<=1->Qcx a d x (pr x)\/∃k,x=.tag k/\Uc k)/\(c<=2->ZQ a d x (pr x))/\Zm a d x (pr x):=fun h1 h2=>sim ((Qwb (Qwc h1 h2)).A a (zO d))
  cases x
  case tag k=>
   simp only[Wf]at hw
   simp[prC,YP,Qy]at hp
   have pk:=Qhp hw.2.1 hp hw.2.2.1
   have q:=ZQ.tag (a:=a) (d:=d) pk.1 Js.nil
   rw[pk.2,List.append_nil]at q
   exact⟨fun h=>by omega,fun _=>.inr ⟨k,rfl,pk⟩,fun _=>q,Zm.one q⟩
  case rel n l=>
   simp only[Wf]at hw
   simp only[prC]at hp
   obtain⟨h1,h2,d',rfl,h3⟩:=hw
   have hl:∀y∈l,hgt y<=m:=Qe1 (by rw[hgt]at hm;omega)
   obtain⟨g1,g2⟩:=Qs2 (a:=a) (d:=d') h2 (fun y hy=>(ih y d' 3 (hl y hy) (Qak hp y hy) (Qcw h3 y hy)).2.2.2)
   have hnm:IdW n n/\low n=n:=by
    have:((n.all fun c=>Qr c.toNat)&&QK (hd n))=true/\low n=n:=by
     rcases h1 with rfl | rfl | rfl<;>decide
    exact⟨Y6 this.1,this.2⟩
   have q:=Qcx.rel (g1:=[]) hnm.1 hnm.2 h1 .nil g1 g2
   refine sim ?_
   rw[pr]
   simpa [prG] using q
  case compound l pe=>
   simp only[Wf]at hw
   simp only[prC]at hp
   obtain⟨h0,h1,h2,h3⟩:=hw
   have hl:∀y∈l,hgt y<=m:=Qe1 (by rw[hgt]at hm;omega)
   obtain⟨h4,h5⟩:=Qyf h3
   have q:ZQ a d (.compound l pe) (pr (.compound l pe)):=by
    rw[pr]
    by_cases e:l=[]/\pe=[]
    rw[if_pos e,e.1,e.2]
    exact ZQ.star
    rw[if_neg e]
    have hs:VT l pe=.compound l pe:=by
     unfold VT
     split
     exact absurd rfl (h2 rfl)
     rfl
    rw[<-hs]
    match l,e,hp,hl,h4,h5 with
    | [],e,hp,hl,h4,h5=>
     refine ZQ.bare (QdN h1 (fun y hy=>by cases hy)) ?_
     rw[if_neg (fun q=>e ⟨rfl,q⟩)]
     simp
    | y::u,e,hp,hl,h4,h5=>
     have hu:∀z∈u,Qcx a d z (pr z):=fun z hz=>(ih z d 0 (hl z (by simp[hz])) (Qak hp z (by simp[hz])) (h4 z hz)).1 rfl
     rcases (ih y d 1 (hl y (by simp)) (Qak hp y (by simp)) (h5 y rfl)).2.1 (by omega) with hy | ⟨k,rfl,hk⟩
     refine ZQ.bare (QdN h1 fun z hz=>?_) ?_
     rcases zu.1 hz with e | e
     subst e;exact hy
     exact hu z e
     rw[prs,xu]
     simp[UB hy.1]
     have q:=ZQ.tag (a:=a) (d:=d) hk.1 (QdN h1 hu)
     rw[hk.2]at q
     rw[prs,xu,zw,show pr (.tag k)=k from by rw[pr]]
     exact q
   exact⟨fun h=>by omega,fun h=>by omega,fun _=>q,Zm.one q⟩
  case combined f o s=>
   simp only[Wf]at hw
   simp only[prC]at hp
   obtain⟨h0,h1,h2,h3⟩:=hw
   rw[hgt]at hm
   have qf:=(ih f d 3 (by omega) hp.1 h2).2.2.2
   have qs:=(ih s d 2 (by omega) hp.2 h3).2.2.1 (by omega)
   refine⟨fun h=>by omega,fun h=>by omega,fun h=>by omega,?_⟩
   rw[pr]
   rcases h1 with rfl | rfl | rfl | rfl
   have q:=Zm.desc qf (g:=[32,32,32]) (fun c hc=>by simp at hc;subst hc;decide) (by simp) qs
   have e:YM (32:UInt8).toNat=[32]:=by decide
   rw[e]
   simpa using q
   have q:=Zm.comb qf (g1:=[32]) (c:=62) Qir (by decide) (g2:=[32]) Qir qs
   have e:YM (62:UInt8).toNat=[62]:=by decide
   rw[e]
   simpa using q
   have q:=Zm.comb qf (g1:=[32]) (c:=43) Qir (by decide) (g2:=[32]) Qir qs
   have e:YM (43:UInt8).toNat=[43]:=by decide
   rw[e]
   simpa using q
   have q:=Zm.comb qf (g1:=[32]) (c:=126) Qir (by decide) (g2:=[32]) Qir qs
   have e:YM (126:UInt8).toNat=[126]:=by decide
   rw[e]
   simpa using q
  all_goals
   simp only[Wf]at hw
   simp only[prC]at hp
   exact leaf hw hp
end Way
theorem Qop {a:Bool} {L:Nat} {l:List CSel} (hl:l≠[]) (hp:QfJ l) (hw:Wfs a L l 1000 3 3):QV (prG l) true a=some l:=by
 obtain⟨g,_⟩:=Way.Qs2 hl fun y hy=>(Way.Qsh _ y 1000 3 (zm _) (Qak hp y hy) (Qcw hw y hy)).2.2.2
 unfold QV
 rw[if_pos rfl,g.2 (prG l) 1000 0 [] (zm _) (by simp) (.inl rfl)]
 simp
theorem Qrk {a:Bool} {L:Nat} {x:CSel} (hp:prC x) (hw:Wf a L x 1001 3):QV (pr x) false a=some [x]:=by
 have g:=Way.slA_p (Way.Qsh _ x 1001 3 (zm _) hp hw).2.2.2
 unfold QV
 rw[if_neg (by decide),g.2 (pr x) 1001 0 [] (zm _) (by simp) (.inl rfl)]
 simp
end
end Go.Proofs.YtengepcafdnalaaGreatDoor
