/-
  Parts of the proof that the law FnPrintGrammar holds for every input (texts Wf, Wg). Conditions: none.
-/
import Derived.Test.YtengepcafdnalaaGreatDoorM32
namespace Go.Proofs.YtengepcafdnalaaGreatDoor
open _root_.Bool renaming and_eq_true → zh, or_eq_true → zu
open _root_.List renaming mem_cons → zp, mem_singleton → zP, foldl_cons → z8, singleton_append → xe, filter_cons_of_neg → xF, filter_cons_of_pos → xu, append_assoc → zq, nil_append → zW, append_nil → zD, exists_cons_of_ne_nil → zJ
section
namespace Way
set_option maxRecDepth 20000
theorem ZJ.mono {d d':Nat} {l:List CSel} {pe t:Bs} (h:ZJ d l pe t) (hd:d<=d'):ZJ d' l pe t:=⟨h.1,fun s acc k i r l0 hk=>h.2 s acc k i r l0 (by omega)⟩
theorem Zl.mono {d d':Nat} {x:CSel} {p:Bool} {t:Bs} (h:Zl d x p t) (hd:d<=d'):Zl d' x p t:=⟨h.1,fun s acc k i r hk=>h.2 s acc k i r (by omega)⟩
theorem Zt.mono {d d':Nat} {x:CSel} {p:Bool} {t:Bs} (h:Zt d x p t) (hd:d<=d'):Zt d' x p t:=⟨h.1,fun s acc k i r hk=>h.2 s acc k i r (by omega)⟩
theorem SlS.mono {d d':Nat} {x:CSel} {p:Bool} {t:Bs} (h:SlS d x p t) (hd:d<=d'):SlS d' x p t:=⟨h.1,fun s acc k i r hk=>h.2 s acc k i r (by omega)⟩
theorem QaA.mono {d d':Nat} {l:List CSel} {p:Bool} {t:Bs} (h:QaA d l p t) (hd:d<=d'):QaA d' l p t:=⟨h.1,fun s acc k i r l0 hk=>h.2 s acc k i r l0 (by omega)⟩
theorem Qee.mono {d d':Nat} {l:List CSel} {p:Bool} {t:Bs} (h:Qee d l p t) (hd:d<=d'):Qee d' l p t:=⟨h.1,fun s acc k i r hk=>h.2 s acc k i r (by omega)⟩
mutual
def ST.ht':ST->Nat
 | .mk _ ks=>ST.hts' ks+1
def ST.hts':List ST->Nat
 | []=>0
 | t::l=>max (ST.ht' t) (ST.hts' l)
end
theorem Qer:∀{ks:List ST} {n:Nat},ST.hts' ks<=n->∀k∈ks,ST.ht' k<=n
 | [],_,_,k,h=>by cases h
 | t::l,n,h,k,hk=>by
  rw[ST.hts']at h
  rcases zp.1 hk with e | e
  subst e;omega
  exact Qer (by omega) k e
mutual
def Qcm:ST->Prop
 | .mk x ks=>QaP x/\QbC ks
def QbC:List ST->Prop
 | []=>True
 | t::l=>Qcm t/\QbC l
end
theorem QbC.mem:∀{l:List ST},QbC l->∀t∈l,Qcm t
 | [],_,t,h=>by cases h
 | t::l,⟨h1,h2⟩,u,hu=>by
  rcases zp.1 hu with e | e
  subst e;exact h1
  exact QbC.mem h2 u e
def ZF (T:ST):Bool:=T.flat.any YK
def Uv (ks:List ST):Bool:=(ST.flats ks).any YK
theorem Qar (x:SelD) (ks:List ST):ZF (.mk x ks)=(YK x||Uv ks):=by
 unfold ZF Uv
 rw[ST.flat,Qr,List.any_cons]
 rfl
theorem YN (t:ST) (l:List ST):Uv (t::l)=(ZF t||Uv l):=by
 unfold ZF Uv
 rw[ST.flats,List.any_append]
theorem ZQ:Uv []=false:=by simp[Uv,ST.flats]
theorem Qg7 {ks:List ST} (h:∀k∈ks,ZF k=false):Uv ks=false:=by
 induction ks with
 | nil=>exact ZQ
 | cons t l ih=>rw[YN,h t (by simp),ih (fun k hk=>h k (by simp[hk]))];rfl
theorem Qe7 {x:SelD} (h:x.kind≠21):YK x=false:=by simp[YK,h]
theorem Qcr {T:ST} (hr:Y3 T) (hk:Qy T.node.kind=true):ZF T=false:=by
 obtain⟨x,ks⟩:=T
 obtain⟨hf,_,hs,_⟩:=hr
 have hk':Qy x.kind=true:=hk
 simp only[Qy,zh,decide_eq_true_eq]at hk'
 rw[Qar,Qe7 (by omega)]
 unfold QaH at hs
 rw[if_neg (by omega)]at hs
 by_cases h18:x.kind=18\/x.kind=19\/x.kind=20
 rw[if_pos h18]at hs
 have:=hs.2
 unfold Uv;rw[this];rfl
 rw[if_neg h18,if_neg (by omega),if_neg (by omega)]at hs
 rw[hs.2,ZQ];rfl
structure Read (n:Nat) (T:ST):Prop where
 sim:Qy T.node.kind=true->T.node.kind≠1->T.node.kind≠2->Vt n (c1 T) (wr T)
 seq:Q0 T.node.kind=true->T.node.kind≠22->Zl n (c1 T) (ZF T) (wr T)
 sel:Q0 T.node.kind=true->Zt n (c1 T) (ZF T) (wr T)
 grp:T.node.kind=23->∃x p t l q u,SlS n x p t/\QaA n l q u/\wr T=t++u/\cs T=x::l/\(p||q)=ZF T/\Ys (wr T)
theorem JN {x:SelD} {ks:List ST} {y:CSel} (h:Y5 x (css ks)=[y]):c1 (.mk x ks)=y:=by
 unfold c1;rw[cs,h];rfl
theorem Qi2 {n:Nat}:∀(ks:List ST),(∀k∈ks,Zt n (c1 k) (ZF k) (wr k))->(∀k∈ks,k.node.kind≠23) ->
 QaA n (css ks) (Uv ks) (((wrs ks).map Prod.snd).flatMap fun u=>[44,32]++u)
 | [],_,_=>by
  rw[css,ZQ,wrs]
  exact QaA.nil n
 | k::ks,h,h23=>by
  have ih:=Qi2 ks (fun k hk=>h k (by simp[hk])) (fun k hk=>h23 k (by simp[hk]))
  have q:=QaA.cons (SlS.mk (g1:=[32]) (g2:=[]) (fun c hc=>by rw[zP.1 hc];decide) (h k (by simp)) .nil) ih
  rw[css,Yv (h23 k (by simp)),YN,wrs]
  simpa using q
def QiF:List ST->Bs
 | []=>[]
 | k::ks=>(if k.node.kind=1 then [] else wr k)++QiF ks
def Qa7:List ST->Bool
 | []=>false
 | k::ks=>decide (k.node.kind=1)||Qa7 ks
theorem QcY:∀(ks:List ST) (f r:Bs),(∀k∈ks,k.node.kind≠2)->(wrs ks).foldl VA (f,r)=((if f=[]/\Qa7 ks=true then [42] else f),r++QiF ks)
 | [],f,r,_=>by simp[wrs,Qa7,QiF]
 | k::ks,f,r,h=>by
  have h2:k.node.kind≠2:=h k (by simp)
  rw[wrs,z8]
  unfold VA
  simp only
  rw[if_neg h2]
  by_cases h1:k.node.kind=1
  rw[if_pos h1]
  have:=QcY ks (if f=[] then [42] else f) r (fun k hk=>h k (by simp[hk]))
  unfold VA at this
  rw[this]
  by_cases hf:f=[]<;>simp[hf,Qa7,h1,QiF]
  rw[if_neg h1]
  have:=QcY ks f (r++wr k) (fun k hk=>h k (by simp[hk]))
  unfold VA at this
  rw[this]
  simp[Qa7,h1,QiF]
def peT (val:Bs):Bs:=if val=[] then [] else [58,58]++Q2 val
theorem el_w {val:Bs} (h:QbQ val=true):ElS val (58::58::Q2 val):=by
 have key:∀v:Bs,(((Q2 v).all fun c=>Qq c.toNat)&&QI (hd (Q2 v)))=true->Q2 v=v->low v=v->v∈elNames->(∀G s j,V4 G s v j=some (none,v,j))->v≠[]->ElS v (58::58::Q2 v):=by
  intro v h1 h2 h3 h4 h5 h6
  have hid:IdW v (Q2 v):=by
   have:=VL h1
   rwa [h2]at this ⊢
  have q:=ElS.two hid (by rw[h3];exact h4) (by rw[h3];exact h5) (by rw[h3];exact h6)
  rwa [h3]at q
 simp only[QbQ,zu,decide_eq_true_eq]at h
 rcases h with ((h | h) | h) | h<;>subst h<;>exact key _ (by decide) (by decide) (by decide) (by decide) (fun G s j=>rfl) (by decide)
theorem Qq6 {α:Type} {P:α->Prop} {c:Prop} [Decidable c] {a b:α} (ha:P a) (hb:P b):P (if c then a else b):=by
 by_cases h:c
 rw[if_pos h];exact ha
 rw[if_neg h];exact hb
theorem QkD {x:SelD} (h:Qy x.kind=true) (h1:x.kind≠1):ZB (QO x)=false/\Smp (QO x):=by
 simp only[Qy,zh,decide_eq_true_eq]at h
 unfold QO
 rw[if_neg h1]
 iterate 15 refine Qq6 (P:=fun y=>ZB y=false/\Smp y) ⟨rfl,trivial⟩ ?_
 exact⟨rfl,trivial⟩
theorem Qda {T:ST} (hr:Y3 T) (hk:Qy T.node.kind=true):(T.node.kind=1->c1 T=.compound [] [])/\(T.node.kind≠1->ZB (c1 T)=false/\Smp (c1 T)):=by
 obtain⟨x,ks⟩:=T
 have hk':Qy x.kind=true:=hk
 have hk2:=hk'
 simp only[Qy,zh,decide_eq_true_eq]at hk'
 by_cases h18:x.kind=18\/x.kind=19\/x.kind=20
 have e:c1 (.mk x ks)=.rel (V3.getD (x.kind-18).toNat []) (css ks):=JN (by unfold Y5;rw[if_neg (by omega),if_neg (by omega),if_neg (by omega),if_pos h18])
 rw[e]
 exact⟨fun q=>by have:x.kind=1:=q;omega,fun _=>⟨rfl,trivial⟩⟩
 have e:c1 (.mk x ks)=QO x:=JN (by unfold Y5;rw[if_neg (by omega),if_neg (by omega),if_neg (by omega),if_neg h18])
 rw[e]
 refine⟨fun q=>?_,fun q=>QkD hk2 q⟩
 have q:x.kind=1:=q
 simp[QO,q]
theorem Qdd {n:Nat} {val:Bs} (hv:val=[]\/QbQ val=true):∀(ks:List ST),(∀k∈ks,Y3 k)->(∀k∈ks,Qy k.node.kind=true)->(∀k∈ks,k.node.kind≠2)->(∀k∈ks,Read n k) ->
 ZJ n ((css ks).filter fun y => !ZB y) val (QiF ks++peT val)
 | [],_,_,_,_=>by
  rw[css,QiF]
  show ZJ n [] val (peT val)
  unfold peT
  by_cases h:val=[]
  subst h;exact ZJ.nil n
  rw[if_neg h];exact ZJ.el n (el_w (hv.resolve_left h))
 | k::ks,hr,hs,h2,hR=>by
  have ih:=Qdd (n:=n) hv ks (fun k hk=>hr k (by simp[hk])) (fun k hk=>hs k (by simp[hk])) (fun k hk=>h2 k (by simp[hk])) (fun k hk=>hR k (by simp[hk]))
  have hk:=hs k (by simp)
  have h23:k.node.kind≠23:=by
   simp only[Qy,zh,decide_eq_true_eq]at hk;omega
  obtain⟨q1,q2⟩:=Qda (hr k (by simp)) hk
  rw[css,Yv h23,xe,QiF]
  by_cases h1:k.node.kind=1
  rw[if_pos h1,q1 h1,xF (by simp[ZB])]
  exact ih
  rw[if_neg h1,xu (by simp[(q2 h1).1]),zq]
  exact ZJ.cons ((hR k (by simp)).sim hk h1 (h2 k (by simp))) ih
theorem Qpz {x:SelD} (hf:Fld x) (h:x.kind=2):IdW x.key (Q2 x.key):=UY hf.kz (hf.key (.inl h))
theorem Qr6 {n:Nat} {x:SelD} {ks:List ST} (hr:Y3 (.mk x ks)) (h21:x.kind=21) (hR:∀k∈ks,Read n k):Zl n (c1 (.mk x ks)) (ZF (.mk x ks)) (wr (.mk x ks)):=by
 obtain⟨hf,_,hs,hk⟩:=hr
 have F:=fld hf
 unfold QaH at hs
 rw[if_neg (by omega),if_neg (by omega),if_pos h21]at hs
 have hv:x.val=[]\/QbQ x.val=true:=by
  rcases F.val (by omega) with h | h
  exact .inl h
  exact .inr h.2
 have hp:ZF (.mk x ks) = !decide (x.val=[]):=by
  rw[Qar,Qg7 fun k hk'=>Qcr (hk.mem k hk') (hs.1 k hk')]
  simp[YK,h21]
 have hc:c1 (.mk x ks)=VD ((css ks).filter fun y => !ZB y) x.val:=JN (by unfold Y5;rw[if_neg (by omega),if_neg (by omega),if_pos h21])
 have hw:wr (.mk x ks)=QdM x.val (wrs ks):=by
  rw[wr];unfold YR;rw[if_neg (by omega),if_neg (by omega),if_pos h21]
 have hce:∀f r,Ue x.val (f,r)=if f++(r++peT x.val)=[] then [42] else f++(r++peT x.val):=by
  intro f r
  unfold Ue peT
  by_cases h:x.val=[]
  simp[h]
  simp[h]
 rw[hp,hc,hw]
 unfold QdM
 by_cases h2:∀k∈ks,k.node.kind≠2
 have hR':=Qdd (n:=n) hv ks (fun k hk'=>hk.mem k hk') hs.1 h2 hR
 rw[QcY ks [] [] h2,hce,zW]
 by_cases ha:Qa7 ks=true
 rw[show (if ([]:Bs)=[]/\Qa7 ks=true then ([42]:Bs) else [])=[42] from if_pos ⟨rfl,ha⟩,if_neg (by simp)]
 exact Zl.star hR'
 rw[show (if ([]:Bs)=[]/\Qa7 ks=true then ([42]:Bs) else [])=[] from if_neg (fun q=>ha q.2),zW]
 by_cases he:QiF ks++peT x.val=[]
 rw[if_pos he]
 rw[he]at hR'
 exact Zl.star hR'
 rw[if_neg he]
 exact Zl.bare hR' he
 obtain⟨k0,rest,rfl,hk0⟩:∃k0 rest,ks=k0::rest/\k0.node.kind=2:=by
  rcases ks with _ | ⟨k0,rest⟩
  exact absurd (fun k hk'=>by cases hk') h2
  refine⟨k0,rest,rfl,?_⟩
  by_cases e:k0.node.kind=2
  exact e
  refine absurd (fun k hk'=>?_) h2
  rcases zp.1 hk' with q | q
  subst q;exact e
  exact hs.2 k q
 have hrest:∀k∈rest,k.node.kind≠2:=hs.2
 have hR':=Qdd (n:=n) hv rest (fun k hk'=>hk.mem k (by simp[hk'])) (fun k hk'=>hs.1 k (by simp[hk'])) hrest (fun k hk'=>hR k (by simp[hk']))
 obtain⟨y,ys⟩:=k0
 have hk0':y.kind=2:=hk0
 have hy:Y3 (.mk y ys):=hk.mem _ (by simp)
 have Fy:=fld hy.1
 have hid:=Qpz Fy hk0'
 have hwk:wr (.mk y ys)=Q2 y.key:=by
  rw[wr];unfold YR Qw
  rw[if_neg (by omega),if_neg (by omega),if_neg (by omega),if_neg (by omega),if_neg (by omega),if_pos hk0']
 have hck:cs (.mk y ys)=[.tag y.key]:=by
  rw[cs];unfold Y5 QO
  rw[if_neg (by omega),if_neg (by omega),if_neg (by omega),if_neg (by omega),if_neg (by omega),if_pos hk0']
 have q:=Zl.tag hid hR'
 rw[Fy.low]at q
 rw[wrs,z8]
 have hst:VA ([],[]) ((ST.mk y ys).node.kind,wr (.mk y ys))=(Q2 y.key,[]):=by
  unfold VA;simp only[hk0,if_true,hwk]
 rw[hst,QcY rest _ _ hrest,if_neg (fun q=>hid.head.1 q.1),hce,zW,if_neg (by simp[hid.head.1]),css,hck]
 exact q
theorem QbV:WsL [32]:=fun c hc=>by rw[zP.1 hc];decide
theorem Qom {n m:Nat} {T:ST} (h:Read n T) (hn:n<=m):Read m T where
 sim:=fun a b c=>(h.sim a b c).mono hn
 seq:=fun a b=>(h.seq a b).mono hn
 sel:=fun a=>(h.sel a).mono hn
 grp:=fun a=>by
  obtain⟨x,p,t,l,q,u,h1,h2,h3⟩:=h.grp a
  exact⟨x,p,t,l,q,u,h1.mono hn,h2.mono hn,h3⟩
theorem Qjw:∀(n:Nat) (T:ST),ST.ht' T<=n->Y3 T->Qcm T->Read n T
 | 0,.mk x ks,h,_,_=>by simp[ST.ht']at h
 | n+1,.mk x ks,h,hr,hsm=>by
  rw[ST.ht']at h
  have hht:=Qer (ks:=ks) (n:=n) (by omega)
  have hr':=hr
  obtain⟨hf,hz,hs,hk⟩:=hr'
  have hsm':=hsm
  obtain⟨hsx,hsk⟩:=hsm'
  have F:=fld hf
  have hK:∀k∈ks,Read n k:=fun k hk'=>Qjw n k (hht k hk') (hk.mem k hk') (hsk.mem k hk')
  have hK':∀k∈ks,Read (n+1) k:=fun k hk'=>Qom (hK k hk') (by omega)
  have sim:Qy x.kind=true->x.kind≠1->x.kind≠2->Vt (n+1) (c1 (.mk x ks)) (wr (.mk x ks)):=by
   intro h0 h1 h2
   have h0':=h0
   simp only[Qy,zh,decide_eq_true_eq]at h0'
   by_cases h18:x.kind=18\/x.kind=19\/x.kind=20
   have e:c1 (.mk x ks)=.rel (V3.getD (x.kind-18).toNat []) (css ks):=JN (by unfold Y5;rw[if_neg (by omega),if_neg (by omega),if_neg (by omega),if_pos h18])
   unfold QaH at hs
   rw[if_neg (by omega),if_pos h18]at hs
   obtain⟨⟨g,rfl,hg⟩,hps⟩:=hs
   obtain⟨y,p,t,l,q,u,g1,g2,g3,g4,g5,g6⟩:=(hK g (by simp)).grp hg
   have hpg:ZF g=false:=by
    have:Uv [g]=false:=hps
    rw[YN,ZQ,Bool.or_false]at this
    exact this
   have hG:=Qee.mk g1 g2
   rw[g5,hpg,<-g3,<-g4]at hG
   have ec:css [g]=cs g:=by rw[css,css,zD]
   have ew:wr (.mk x [g])=58::(V3.getD (x.kind-18).toNat []++(40::([]++(wr g++[41])))):=by
    rw[wr];unfold YR
    rw[if_neg (by omega),if_neg (by omega),if_neg (by omega),if_pos h18,wrs]
    rfl
   rw[e,ec,ew]
   have hnm:∀m:Fin 3,(((V3.getD m.val []).all fun c=>Qq c.toNat)&&QI (hd (V3.getD m.val [])))=true/\low (V3.getD m.val [])=V3.getD m.val []/\(V3.getD m.val []=Zy\/V3.getD m.val []=Zz\/V3.getD m.val []=nHasChild):=by decide
   obtain⟨m,hm⟩:∃m:Fin 3,(x.kind-18).toNat=m.val:=⟨⟨(x.kind-18).toNat,by omega⟩,rfl⟩
   rw[hm]
   exact Vt.rel (VL (hnm m).1) (hnm m).2.1 (hnm m).2.2 .nil hG g6
   have e:c1 (.mk x ks)=QO x:=JN (by unfold Y5;rw[if_neg (by omega),if_neg (by omega),if_neg (by omega),if_neg h18])
   have ew:wr (.mk x ks)=Qw x:=by
    rw[wr];unfold YR
    rw[if_neg (by omega),if_neg (by omega),if_neg (by omega),if_neg h18]
   rw[e,ew]
   exact (Qxf F hsx h0 h1 h2 h18).mono (by omega)
  have seq:Q0 x.kind=true->x.kind≠22->Zl (n+1) (c1 (.mk x ks)) (ZF (.mk x ks)) (wr (.mk x ks)):=by
   intro h0 h22
   by_cases h21:x.kind=21
   exact Qr6 hr h21 hK'
   have h0s:Qy x.kind=true:=by simpa [Q0,h21,h22] using h0
   rw[Qcr hr h0s]
   by_cases h1:x.kind=1
   have e:c1 (.mk x ks)=.compound [] []:=(Qda hr h0s).1 h1
   have ew:wr (.mk x ks)=[42]:=by
    rw[wr];unfold YR Qw
    rw[if_neg (by omega),if_neg (by omega),if_neg (by omega),if_neg (by omega),if_pos h1]
   rw[e,ew]
   exact Zl.star (ZJ.nil (n+1))
   by_cases h2:x.kind=2
   have e:c1 (.mk x ks)=.tag x.key:=JN (by unfold Y5 QO;rw[if_neg (by omega),if_neg (by omega),if_neg (by omega),if_neg (by omega),if_neg (by omega),if_pos h2])
   have ew:wr (.mk x ks)=Q2 x.key:=by
    rw[wr];unfold YR Qw
    rw[if_neg (by omega),if_neg (by omega),if_neg (by omega),if_neg (by omega),if_neg (by omega),if_pos h2]
   have q:=Zl.tag (Qpz F h2) (ZJ.nil (n+1))
   rw[F.low,zD]at q
   rw[e,ew]
   exact q
   have hS:=sim h0s h1 h2
   have q:=Zl.bare (ZJ.cons hS (ZJ.nil (n+1))) (by simp[UC hS.1])
   rw[zD]at q
   exact q
  refine { sim:=sim,seq:=seq,sel:=fun h0=>?_,grp:=fun h23=>?_ }
  by_cases h22:x.kind=22
  unfold QaH at hs
  rw[if_neg (by omega),if_neg (by omega),if_neg (by omega),if_pos h22]at hs
  obtain⟨a,b,rfl,ha,hb,hb22,hpa⟩:=hs
  have ha23:a.node.kind≠23:=by simp[Q0,Qy]at ha;omega
  have hb23:b.node.kind≠23:=by simp[Q0,Qy]at hb;omega
  have hA:=(hK' a (by simp)).sel ha
  have hB:=(hK' b (by simp)).seq hb hb22
  rw[show ZF a=false from hpa]at hA
  have e:c1 (.mk x [a,b])=.combined (c1 a) (Qhk x.op) (c1 b):=JN (by
   unfold Y5
   rw[if_neg (by omega),if_pos h22,css,css,css,Yv ha23,Yv hb23];rfl)
  have ep:ZF (.mk x [a,b])=ZF b:=by
   rw[Qar,Qe7 (by omega),YN,YN,ZQ,show ZF a=false from hpa];simp
  have ew:wr (.mk x [a,b])=wr a++(Qc4.getD x.op.toNat []++wr b):=by
   rw[wr];unfold YR
   rw[if_neg (by omega),if_pos h22,wrs,wrs]
   simp
  obtain⟨o1,o2,_⟩:=F.comb h22
  have ho:x.op=1\/x.op=2\/x.op=3\/x.op=4:=by omega
  show Zt (n+1) (c1 (.mk x [a,b])) (ZF (.mk x [a,b])) (wr (.mk x [a,b]))
  rw[e,ep,ew]
  rcases ho with ho | ho | ho | ho
  rw[ho];exact Zt.desc hA QbV (g:=[32]) (by simp) hB
  rw[ho];exact Zt.comb hA (g1:=[32]) (g2:=[32]) QbV (c:=62) (by decide) QbV hB
  rw[ho];exact Zt.comb hA (g1:=[32]) (g2:=[32]) QbV (c:=43) (by decide) QbV hB
  rw[ho];exact Zt.comb hA (g1:=[32]) (g2:=[32]) QbV (c:=126) (by decide) QbV hB
  exact Zt.one (seq h0 h22)
  have h23':x.kind=23:=h23
  unfold QaH at hs
  rw[if_pos h23']at hs
  obtain⟨hs1,hs2⟩:=hs
  obtain⟨k0,rest,rfl⟩:=zJ hs2
  have n23:∀k∈k0::rest,k.node.kind≠23:=fun k hk'=>by
   have:=hs1 k hk'
   simp[Q0,Qy]at this;omega
  have hS0:=(hK' k0 (by simp)).sel (hs1 k0 (by simp))
  have hT:=Qi2 (n:=n+1) rest (fun k hk'=>(hK' k (by simp[hk'])).sel (hs1 k (by simp[hk']))) (fun k hk'=>n23 k (by simp[hk']))
  have hS1:=SlS.mk (g1:=[]) (g2:=[]) .nil hS0 .nil
  rw[zW,zD]at hS1
  have ew:wr (.mk x (k0::rest))=wr k0++(((wrs rest).map Prod.snd).flatMap fun u=>[44,32]++u):=by
   rw[wr];unfold YR
   rw[if_pos h23',wrs]
   rfl
  refine⟨c1 k0,ZF k0,wr k0,css rest,Uv rest,_,hS1,hT,ew,?_,?_,?_⟩
  rw[cs];unfold Y5
  rw[if_pos h23',css,Yv (n23 k0 (by simp))];rfl
  rw[Qar,Qe7 (by omega),YN];rfl
  rw[ew];exact hS0.1.stop
end Way
end
section
namespace Way
set_option maxRecDepth 20000
theorem Qa2 {x:SelD} {k o a b f:Int} {ke va:Bs} (h0:x.size=0) (h1:x.kind=k) (h2:x.op=o) (h3:x.key=ke) (h4:x.val=va) (h5:x.a=a) (h6:x.b=b) (h7:x.flag=f):(⟨k,o,ke,va,a,b,f,0⟩:SelD)=x:=by
 obtain⟨_,_,_,_,_,_,_,_⟩:=x
 simp only at h0 h1 h2 h3 h4 h5 h6 h7
 subst h0 h1 h2 h3 h4 h5 h6 h7
 rfl
theorem Y0 {x:SelD} {ks:List ST} (h:x.kind≠21):(ST.mk x ks).norm=.mk x (ST.norms ks):=by
 rw[ST.norm];unfold UN Z1
 rw[if_neg (fun q=>h q.1),if_neg h]
theorem QoF {x:SelD} (h:Qy x.kind=true) (h1:x.kind≠1):Qt (QO x)=.mk (QQ (QO x)) []:=by
 simp only[Qy,zh,decide_eq_true_eq]at h
 unfold QO
 rw[if_neg h1]
 iterate 15 refine Qq6 (P:=fun y=>Qt y=.mk (QQ y) []) (by simp[Qt]) ?_
 simp[Qt]
theorem QoG {x:SelD} (F:Fld x) (hz:x.size=0) (h:Qy x.kind=true) (h1:x.kind≠1) (hr:¬(x.kind=18\/x.kind=19\/x.kind=20)):QQ (QO x)=x:=by
 simp only[Qy,zh,decide_eq_true_eq]at h
 have hcases:x.kind=2\/x.kind=3\/x.kind=4\/x.kind=5\/x.kind=6\/x.kind=7\/x.kind=8\/x.kind=9\/x.kind=10\/x.kind=11\/x.kind=12\/x.kind=13\/x.kind=14\/x.kind=15\/x.kind=16\/x.kind=17:=by omega
 have nk:¬(x.kind=2\/x.kind=5)->x.key=[]:=F.nokey
 have nv:¬(x.kind=3\/x.kind=4\/x.kind=15\/(x.kind=5/\x.op≠1)\/x.kind=16\/x.kind=17)->x.val=[]:=fun q=>(F.val q).resolve_right (fun q=>by omega)
 have nn:=F.num
 have no:=F.other
 rcases hcases with e | e | e | e | e | e | e | e | e | e | e | e | e | e | e | e
 case inr.inr.inr.inl=>
  obtain⟨o1,o2,o3,_⟩:=F.attr e
  have hl:QO x=.attr x.key x.val (YQ.getD x.op.toNat []) (decide (x.flag=1)):=by
   unfold QO
   rw[if_neg (by omega),if_neg (by omega),if_neg (by omega),if_neg (by omega),if_pos e]
  obtain⟨n1,n2⟩:=nn (by omega)
  rw[hl]
  unfold QQ
  refine Qa2 hz e ?_ rfl rfl n1 n2 ?_
  obtain⟨m,hm⟩:∃m:Fin 9,x.op.toNat=m.val:=⟨⟨x.op.toNat,by omega⟩,rfl⟩
  have:∀m:Fin 9,1<=m.val->YI ([]::attrSigns) (YQ.getD m.val [])=(m.val:Int):=by decide
  rw[hm,this m (by omega)];omega
  rcases o3 with q | q<;>rw[q]<;>rfl
 case inr.inr.inr.inr.inl=>
  obtain⟨o1,o2,o3⟩:=F.nth e
  have hl:QO x=.nth x.a x.b (decide (x.flag=1\/x.flag=3)) (decide (x.flag=2\/x.flag=3)):=by
   unfold QO
   rw[if_neg (by omega),if_neg (by omega),if_neg (by omega),if_neg (by omega),if_neg (by omega),if_pos e]
  rw[hl]
  unfold QQ
  refine Qa2 hz e o1 (nk (by omega)) (nv (by omega)) rfl rfl ?_
  have h4:x.flag=0\/x.flag=1\/x.flag=2\/x.flag=3:=by omega
  rcases h4 with q | q | q | q<;>rw[q]<;>rfl
 case inr.inr.inr.inr.inr.inl=>
  obtain⟨o1,o2⟩:=F.only e
  have hl:QO x=.only (decide (x.flag=2)):=by
   unfold QO
   rw[if_neg (by omega),if_neg (by omega),if_neg (by omega),if_neg (by omega),if_neg (by omega),if_neg (by omega),if_pos e]
  obtain⟨n1,n2⟩:=nn (by omega)
  rw[hl]
  unfold QQ
  refine Qa2 hz e o1 (nk (by omega)) (nv (by omega)) n1 n2 ?_
  rcases o2 with q | q<;>rw[q]<;>rfl
 all_goals
  obtain⟨n1,n2⟩:=nn (by omega)
  obtain⟨q1,q2⟩:=no (by omega) (by omega) (by omega) (by omega)
  simp only[QO,e]
  first
   | exact Qa2 hz e q1 rfl (nv (by omega)) n1 n2 q2
   | exact Qa2 hz e q1 (nk (by omega)) rfl n1 n2 q2
   | exact Qa2 hz e q1 (nk (by omega)) (nv (by omega)) n1 n2 q2
theorem Qjd {l:List CSel} {pe:Bs} (hs:∀y∈l,Smp y):(Qt (VD l pe)).norm=UN ⟨21,0,[],pe,0,0,0,0⟩ (ST.norms (QS l)):=by
 have hc:(Qt (.compound l pe)).norm=UN ⟨21,0,[],pe,0,0,0,0⟩ (Z1 ⟨21,0,[],pe,0,0,0,0⟩ (ST.norms (QS l))):=by
  rw[Qt,ST.norm,QQ]
 unfold VD
 split
 rename_i x
 simp[QS,ST.norms,UN]
 rw[hc,QgX hs]
theorem QgW:∀(ks:List ST),(∀k∈ks,k.node.kind≠23)->(∀k∈ks,(Qt (c1 k)).norm=k.norm)->ST.norms (QS (css ks))=ST.norms ks
 | [],_,_=>by simp[css,QS,ST.norms]
 | k::ks,h,hn=>by
  rw[css,Yv (h k (by simp)),xe,QS,ST.norms,ST.norms,hn k (by simp),QgW ks (fun k hk=>h k (by simp[hk])) (fun k hk=>hn k (by simp[hk]))]
theorem Qky {x:SelD} (h21:x.kind=21):∀(ks:List ST),(∀k∈ks,Y3 k)->(∀k∈ks,Qy k.node.kind=true)->(∀k∈ks,(Qt (c1 k)).norm=k.norm) ->
 Z1 x (ST.norms ks)=ST.norms (QS ((css ks).filter fun y => !ZB y))/\∀y∈(css ks).filter (fun y => !ZB y),Smp y
 | [],_,_,_=>by simp[css,QS,ST.norms,Z1]
 | k::ks,hr,hs,hn=>by
  obtain⟨ih1,ih2⟩:=Qky h21 ks (fun k hk=>hr k (by simp[hk])) (fun k hk=>hs k (by simp[hk])) (fun k hk=>hn k (by simp[hk]))
  have hk:=hs k (by simp)
  have h23:k.node.kind≠23:=by
   simp only[Qy,zh,decide_eq_true_eq]at hk;omega
  obtain⟨q1,q2⟩:=Qda (hr k (by simp)) hk
  unfold Z1 at ih1 ⊢
  rw[if_pos h21]at ih1 ⊢
  rw[css,Yv h23,xe,ST.norms]
  by_cases h1:k.node.kind=1
  have e:=hn k (by simp)
  rw[q1 h1]at e
  have e2:(Qt (.compound [] [])).norm=.mk Qsq []:=by simp[Qt,QS,ST.norm,ST.norms,QQ,Z1,UN]
  rw[e2]at e
  rw[q1 h1,xF (by rw[<-e];simp[Qdp,ST.node,Qsq]),xF (by simp[ZB])]
  exact⟨ih1,ih2⟩
  have hsm:=(q2 h1).2
  rw[xu (by rw[<-hn k (by simp)];simp[Qi9 hsm]),xu (by simp[(q2 h1).1]),QS,ST.norms,hn k (by simp),ih1]
  refine⟨rfl,fun y hy=>?_⟩
  rcases zp.1 hy with q | q
  subst q;exact hsm
  exact ih2 y q
theorem QjM:∀(n:Nat) (T:ST),ST.ht' T<=n->Y3 T->(T.node.kind≠23->(Qt (c1 T)).norm=T.norm)/\(T.node.kind=23->(ST.mk Vj (QS (cs T))).norm=T.norm)
 | 0,.mk x ks,h,_=>by simp[ST.ht']at h
 | n+1,.mk x ks,h,hr=>by
  rw[ST.ht']at h
  have hht:=Qer (ks:=ks) (n:=n) (by omega)
  obtain⟨hf,hz,hs,hk⟩:=hr
  have hr:Y3 (.mk x ks):=⟨hf,hz,hs,hk⟩
  have F:=fld hf
  have hK:=fun k (hk':k∈ks)=>QjM n k (hht k hk') (hk.mem k hk')
  have nk:¬(x.kind=2\/x.kind=5)->x.key=[]:=F.nokey
  have nn:=F.num
  have no:=F.other
  unfold QaH at hs
  refine⟨fun h23=>?_,fun h23=>?_⟩
  have h23:x.kind≠23:=h23
  rw[if_neg h23]at hs
  by_cases h18:x.kind=18\/x.kind=19\/x.kind=20
  rw[if_pos h18]at hs
  obtain⟨⟨g,rfl,hg⟩,_⟩:=hs
  have e:c1 (.mk x [g])=.rel (V3.getD (x.kind-18).toNat []) (cs g):=JN (by
   unfold Y5;rw[if_neg (by omega),if_neg (by omega),if_neg (by omega),if_pos h18,css,css,zD])
  rw[e,Qt]
  have hnode:QQ (.rel (V3.getD (x.kind-18).toNat []) (cs g))=x:=by
   unfold QQ
   obtain⟨n1,n2⟩:=nn (by omega)
   obtain⟨q1,q2⟩:=no (by omega) (by omega) (by omega) (by omega)
   refine Qa2 hz ?_ q1 (nk (by omega)) ((F.val (by omega)).resolve_right (fun q=>by omega)) n1 n2 q2
   rcases h18 with q | q | q<;>rw[q]<;>decide
  rw[hnode,Y0 (by omega),Y0 (by omega),ST.norms,ST.norms,ST.norms,ST.norms,(hK g (by simp)).2 hg]
  rw[if_neg h18]at hs
  by_cases h21:x.kind=21
  rw[if_pos h21]at hs
  have e:c1 (.mk x ks)=VD ((css ks).filter fun y => !ZB y) x.val:=JN (by unfold Y5;rw[if_neg (by omega),if_neg (by omega),if_pos h21])
  obtain⟨k1,k2⟩:=Qky h21 ks (fun k hk'=>hk.mem k hk') hs.1 (fun k hk'=>(hK k hk').1 (by have:=hs.1 k hk';simp[Qy]at this;omega))
  obtain⟨n1,n2⟩:=nn (by omega)
  obtain⟨q1,q2⟩:=no (by omega) (by omega) (by omega) (by omega)
  rw[e,Qjd k2,<-k1,ST.norm,Qa2 hz h21 q1 (nk (by omega)) rfl n1 n2 q2]
  rw[if_neg h21]at hs
  by_cases h22:x.kind=22
  rw[if_pos h22]at hs
  obtain⟨a,b,rfl,ha,hb,hb22,hpa⟩:=hs
  have ha23:a.node.kind≠23:=by simp[Q0,Qy]at ha;omega
  have hb23:b.node.kind≠23:=by simp[Q0,Qy]at hb;omega
  have e:c1 (.mk x [a,b])=.combined (c1 a) (Qhk x.op) (c1 b):=JN (by
   unfold Y5
   rw[if_neg (by omega),if_pos h22,css,css,css,Yv ha23,Yv hb23];rfl)
  obtain⟨o1,o2,o3⟩:=F.comb h22
  obtain⟨n1,n2⟩:=nn (by omega)
  rw[e,Qt]
  have hnode:QQ (.combined (c1 a) (Qhk x.op) (c1 b))=x:=by
   unfold QQ
   refine Qa2 hz h22 ?_ (nk (by omega)) ((F.val (by omega)).resolve_right (fun q=>by omega)) n1 n2 o3
   have ho:x.op=1\/x.op=2\/x.op=3\/x.op=4:=by omega
   rcases ho with ho | ho | ho | ho<;>rw[ho]<;>decide
  rw[hnode,Y0 (by omega),Y0 (by omega),ST.norms,ST.norms,ST.norms,ST.norms,ST.norms,ST.norms,(hK a (by simp)).1 ha23,(hK b (by simp)).1 hb23]
  rw[if_neg h22]at hs
  obtain⟨hsim,rfl⟩:=hs
  by_cases h1:x.kind=1
  rw[(Qda hr hsim).1 h1]
  have e2:(Qt (.compound [] [])).norm=.mk Qsq []:=by simp[Qt,QS,ST.norm,ST.norms,QQ,Z1,UN]
  obtain⟨n1,n2⟩:=nn (by omega)
  obtain⟨q1,q2⟩:=no (by omega) (by omega) (by omega) (by omega)
  rw[e2,Y0 (by omega),ST.norms,<-Qa2 hz h1 q1 (nk (by omega)) ((F.val (by omega)).resolve_right (fun q=>by omega)) n1 n2 q2]
  rfl
  have e:c1 (.mk x [])=QO x:=JN (by unfold Y5;rw[if_neg (by omega),if_neg (by omega),if_neg (by omega),if_neg h18])
  rw[e,QoF hsim h1,QoG F hz hsim h1 h18]
  have h23:x.kind=23:=h23
  rw[if_pos h23]at hs
  have n23:∀k∈ks,k.node.kind≠23:=fun k hk'=>by
   have:=hs.1 k hk'
   simp[Q0,Qy]at this;omega
  obtain⟨n1,n2⟩:=nn (by omega)
  obtain⟨q1,q2⟩:=no (by omega) (by omega) (by omega) (by omega)
  have e:cs (.mk x ks)=css ks:=by rw[cs];unfold Y5;rw[if_pos h23]
  rw[e,Y0 (by decide),Y0 (by omega),QgW ks n23 (fun k hk'=>(hK k hk').1 (n23 k hk'))]
  rw[show Vj=x from Qa2 hz h23 q1 (nk (by omega)) ((F.val (by omega)).resolve_right (fun q=>by omega)) n1 n2 q2]
end Way
end
end Go.Proofs.YtengepcafdnalaaGreatDoor
