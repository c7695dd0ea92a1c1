/-
  Parts of the proof that the law FnPrintGrammar holds for every input (texts Xi, Xj, Og, Oh). Conditions: none.
-/
import Derived.Test.YtengepcafdnalaaGreatDoorM36
import Derived.Lib.Join
import Derived.Lib.ItoaNum
import Derived.Shelf.Strconv.Itoa3
import Derived.Shelf.Strings.OnBuilder
import Derived.Lib.AppendIntMem
namespace Go.Proofs.YtengepcafdnalaaGreatDoor
open _root_.Array renaming getElem?_eq_getElem → zr, getElem?_eq_some_iff → zy
open _root_.Bool renaming and_eq_true → zh, or_eq_true → zu, false_or → xz, or_eq_false_iff → zz
open _root_.List renaming singleton_append → xe, mem_cons → zp, append_nil → zD, filter_cons_of_pos → xu, exists_cons_of_ne_nil → zJ, mem_singleton → zP, length_append → zf, length_cons → zg, length_nil → zl, flatten_cons → xx, replicate → zR, length_take → zF, length_replicate → xf, take_add_one → zN, getElem?_eq_getElem → ze, getD_eq_getElem?_getD → za, take_of_length_le → zS, drop_eq_getElem_cons → zG, append_assoc → zq, length_eq_zero_iff → xh, getElem?_map → zB, getElem?_eq_some_iff → zx
open _root_.Nat renaming le_refl → zj, strongRecOn → zi
open _root_.Option renaming bind_some → zU, map_eq_some_iff → zk
open Go.Proofs.Tryz renaming prog → zd
open _root_.UInt8 renaming ofNat → zE, toNat_or → zb
section
set_option maxRecDepth 20000
def UE (s:Bs):Bool:=decide (Q2 s=s)&&decide (Q2 (120::s)=120::s)
def QaL:Bs:=[34,39,92,10,13,12]
def Z9 (s b:Bs):Bool:=s.any fun c=>b.any fun e=>decide (c=e)
def Qgg (s:Bs):Bool:=s.any fun c=>decide (c.toNat<32)||decide (c.toNat=127)
def Qd8:Bs->Bool
 | []=>false
 | c::u=>if c.toNat=45 then Qd8 u else Qv c.toNat
def ZW (x:SelD):Bool:=
 if x.kind=2 then UE x.key
 else if x.kind=15 then UE x.val
 else if x.kind=5\/x.kind=16\/x.kind=17 then (!decide (x.kind=5)||UE x.key) && !Z9 x.val QaL
 else if x.kind=3\/x.kind=4 then !Qgg x.val && !(decide (x.kind=3)&&Qd8 x.val)
 else true
def Qoo (l:List SelD):Bool:=l.all ZW
namespace Way
theorem QhV {k:Bs} (hz:∀c∈k,c.toNat≠0) (hn:k≠[]) (h:UE k=true) (hl:low k=k):Qak k:=by
 unfold UE at h
 simp only[zh,decide_eq_true_eq]at h
 have q:=UY hz hn
 rw[h.1]at q
 exact⟨q,hl⟩
theorem Qld {v:Bs} (h:Z9 v QaL=false):Qqo v:=by
 intro c hc
 unfold Z9 at h
 rw[List.any_eq_false]at h
 have q:=h c hc
 simp only[QaL,List.any_cons,List.any_nil,Bool.or_false,zu,decide_eq_true_eq,not_or]at q
 have ne:∀n:Nat,n<256->c≠zE n->c.toNat≠n:=fun n hn hc e=>hc (by rw[<-e];simp)
 refine⟨ne 34 (by omega) q.1,ne 92 (by omega) q.2.2.1,?_⟩
 have h1:=ne 10 (by omega) q.2.2.2.1
 have h2:=ne 13 (by omega) q.2.2.2.2.1
 have h3:=ne 12 (by omega) q.2.2.2.2.2
 simp[YL]
 omega
theorem QjO {v:Bs} (h:Qgg v=false):QjP v:=by
 intro c hc
 unfold Qgg at h
 rw[List.any_eq_false]at h
 have q:=h c hc
 simp only[zu,decide_eq_true_eq,not_or]at q
 omega
theorem Qyu {v:Bs} (h:Qd8 v=false):Qv (hd v)=false:=by
 cases v with
 | nil=>decide
 | cons c u=>
  rw[Qd8]at h
  show Qv c.toNat=false
  split at h
  rename_i e;rw[e];decide
  exact h
theorem QtY {x:CSel} {m d c:Nat} (h:JK x):Gd (m+1) d c x:=by
 cases x<;>simp only[JK]at h<;>simp only[Gd,JK]<;>exact h
theorem QoH {x:SelD} (hf:Fld x) (hs:QaP x) (hp:ZW x=true) (hk:Qy x.kind=true) (h1:x.kind≠1) (h2:x.kind≠2) (hr:¬(x.kind=18\/x.kind=19\/x.kind=20)):JK (QO x):=by
 simp only[Qy,zh,decide_eq_true_eq]at hk
 have hcases:x.kind=3\/x.kind=4\/x.kind=5\/x.kind=6\/x.kind=7\/x.kind=8\/x.kind=9\/x.kind=10\/x.kind=11\/x.kind=12\/x.kind=13\/x.kind=14\/x.kind=15\/x.kind=16\/x.kind=17:=by omega
 unfold ZW at hp
 rcases hcases with e | e | e | e | e | e | e | e | e | e | e | e | e | e | e
 simp[e]at hp
 simp only[QO,e]
 exact⟨hf.name (by omega),QjO hp.1,Qyu hp.2⟩
 simp[e]at hp
 simp only[QO,e]
 exact⟨hf.name (by omega),QjO hp⟩
 simp[e]at hp
 have hkk:=QhV hf.kz (hf.key (by omega)) hp.1 hf.low
 obtain⟨o1,o2,o3,o4⟩:=hf.attr e
 have hl:QO x=.attr x.key x.val (YQ.getD x.op.toNat []) (decide (x.flag=1)):=by
  unfold QO
  rw[if_neg (by omega),if_neg (by omega),if_neg (by omega),if_neg (by omega),if_pos e]
 rw[hl]
 refine⟨hkk,?_⟩
 by_cases ho:x.op=1
 . have hv:x.val=[]:=by
    rcases hf.val (by omega) with h | h
    exact h
    omega
   exact .inl ⟨by rw[ho];rfl,hv,by rw[o4 ho];rfl⟩
 right
 refine⟨?_,Qld hp.2⟩
 obtain⟨m,hm⟩:∃m:Fin 9,x.op.toNat=m.val:=⟨⟨x.op.toNat,by omega⟩,rfl⟩
 have:∀m:Fin 9,2<=m.val->YQ.getD m.val []∈attrSigns:=by decide
 rw[hm];exact this m (by omega)
 . have hl:QO x=.nth x.a x.b (decide (x.flag=1\/x.flag=3)) (decide (x.flag=2\/x.flag=3)):=by
    unfold QO
    rw[if_neg (by omega),if_neg (by omega),if_neg (by omega),if_neg (by omega),if_neg (by omega),if_pos e]
   rw[hl]
   have:=hf.rng
   exact⟨⟨this.1,this.2.1⟩,this.2.2⟩
 simp[QO,e,JK]
 simp[QO,e,JK]
 simp[QO,e,JK]
 simp[QO,e,JK]
 simp[QO,e,JK]
 simp[QO,e,JK]
 simp[QO,e,JK]
 simp[QO,e,JK]
 simp[e]at hp
 simp only[QO,e]
 exact QhV hf.vz (hf.name (by omega)) hp (hs (by omega))
 simp[e]at hp
 simp only[QO,e]
 exact⟨Qld hp,hs (by omega)⟩
 simp[e]at hp
 simp only[QO,e]
 exact⟨Qld hp,hs (by omega)⟩
theorem QqT {x:SelD}:peF (QO x)=(false:Bool)\/QO x=.compound [] []:=by
 unfold QO
 iterate 16 refine Qq6 (P:=fun y=>peF y=false\/y=.compound [] []) (by first | exact .inl rfl | exact .inr rfl) ?_
 exact .inl rfl
structure GdT (m:Nat) (T:ST):Prop where
 sim:Qy T.node.kind=true->T.node.kind≠1->T.node.kind≠2->Gd m m 0 (c1 T)
 tag:T.node.kind=2->∃k,c1 T=.tag k/\Qak k
 seq:Q0 T.node.kind=true->T.node.kind≠22->Gd m m 1 (c1 T)
 sel:Q0 T.node.kind=true->Gd m m 2 (c1 T)
 pe:Q0 T.node.kind=true->peF (c1 T)=ZF T
 grp:T.node.kind=23->cs T≠[]/\(∀y∈cs T,Gd m m 2 y)/\Qf7 (cs T)=ZF T
theorem GdT.mono {m m':Nat} {T:ST} (h:GdT m T) (hm:m<=m'):GdT m' T where
 sim:=fun a b c=>(h.sim a b c).mono hm hm (by omega)
 tag:=h.tag
 seq:=fun a b=>(h.seq a b).mono hm hm (by omega)
 sel:=fun a=>(h.sel a).mono hm hm (by omega)
 pe:=h.pe
 grp:=fun a=>⟨(h.grp a).1,fun y hy=>((h.grp a).2.1 y hy).mono hm hm (by omega),(h.grp a).2.2⟩
theorem QiB:∀{ks:List ST},(∀k∈ks,k.node.kind≠23)->∀y∈css ks,∃k∈ks,y=c1 k
 | [],_,y,hy=>by simp[css]at hy
 | k::ks,h,y,hy=>by
  rw[css,Yv (h k (by simp)),xe]at hy
  rcases zp.1 hy with e | e
  exact⟨k,by simp,e⟩
  obtain⟨k',h1,h2⟩:=QiB (fun k hk=>h k (by simp[hk])) y e
  exact⟨k',by simp[h1],h2⟩
theorem QjB:∀{ks:List ST},(∀k∈ks,k.node.kind≠23)->(∀k∈ks,peF (c1 k)=ZF k)->Qf7 (css ks)=Uv ks
 | [],_,_=>by rw[css,ZQ];rfl
 | k::ks,h,hp=>by
  have ih:=QjB (ks:=ks) (fun k hk=>h k (by simp[hk])) (fun k hk=>hp k (by simp[hk]))
  unfold Qf7 at ih ⊢
  rw[css,Yv (h k (by simp)),xe,List.any_cons,ih,hp k (by simp),YN]
theorem QrK {m d c:Nat} {k:Bs} (h:Qak k):Gd (m+1) d (c+1) (.tag k):=by
 simp only[Gd];exact⟨by omega,h⟩
theorem Qjr:∀(m:Nat) (T:ST),ST.ht' T<=m->Y3 T->Qcm T->(∀x∈T.flat,ZW x=true)->GdT m T
 | 0,.mk x ks,h,_,_,_=>by simp[ST.ht']at h
 | m+1,.mk x ks,h,hr,hsm,hpr=>by
  rw[ST.ht']at h
  have hht:=Qer (ks:=ks) (n:=m) (by omega)
  have hr':=hr
  obtain⟨hf,hz,hs,hk⟩:=hr'
  have hsm':=hsm
  obtain⟨hsx,hsk⟩:=hsm'
  have F:=fld hf
  have hpx:ZW x=true:=by
   have:=hpr _ (by rw[ST.flat,Qr];exact List.mem_cons_self ..)
   exact this
  have hpk:∀k∈ks,∀x∈k.flat,ZW x=true:=by
   intro k hk' y hy
   refine hpr y ?_
   rw[ST.flat,Qr]
   refine List.mem_cons_of_mem _ ?_
   clear hpr hht hsk hk hs hr hsm h
   induction ks with
   | nil=>cases hk'
   | cons t ks ih=>
    rw[ST.flats]
    rcases zp.1 hk' with e | e
    subst e;exact List.mem_append_left _ hy
    exact List.mem_append_right _ (ih e)
  have hK:∀k∈ks,GdT m k:=fun k hk'=>Qjr m k (hht k hk') (hk.mem k hk') (hsk.mem k hk') (hpk k hk')
  have tagc:x.kind=2->c1 (.mk x ks)=.tag x.key:=fun h2=>JN (by unfold Y5 QO;rw[if_neg (by omega),if_neg (by omega),if_neg (by omega),if_neg (by omega),if_neg (by omega),if_pos h2])
  have tagp:x.kind=2->Qak x.key:=fun h2=>by
   unfold ZW at hpx
   rw[if_pos h2]at hpx
   exact QhV F.kz (F.key (.inl h2)) hpx F.low
  have sim:Qy x.kind=true->x.kind≠1->x.kind≠2->Gd (m+1) (m+1) 0 (c1 (.mk x ks))/\peF (c1 (.mk x ks))=false:=by
   intro h0 h1 h2
   have h0':=h0
   simp only[Qy,zh,decide_eq_true_eq]at h0'
   by_cases h18:x.kind=18\/x.kind=19\/x.kind=20
   have e:c1 (.mk x ks)=.rel (V3.getD (x.kind-18).toNat []) (css ks):=JN (by unfold Y5;rw[if_neg (by omega),if_neg (by omega),if_neg (by omega),if_pos h18])
   unfold QaH at hs
   rw[if_neg (by omega),if_pos h18]at hs
   obtain⟨⟨g,rfl,hg⟩,hps⟩:=hs
   have hpg:ZF g=false:=by
    have:Uv [g]=false:=hps
    rw[YN,ZQ,Bool.or_false]at this
    exact this
   have ec:css [g]=cs g:=by rw[css,css,zD]
   obtain⟨g1,g2,g3⟩:=(hK g (by simp)).grp hg
   rw[e,ec]
   have hnm:∀m:Fin 3,V3.getD m.val []=Zy\/V3.getD m.val []=Zz\/V3.getD m.val []=nHasChild:=by decide
   obtain⟨j,hj⟩:∃m:Fin 3,(x.kind-18).toNat=m.val:=⟨⟨(x.kind-18).toNat,by omega⟩,rfl⟩
   rw[hj]
   refine⟨?_,rfl⟩
   simp only[Gd]
   refine⟨hnm j,g1,m,rfl,fun y hy=>⟨g2 y hy,?_⟩⟩
   rw[hpg]at g3
   unfold Qf7 at g3
   rw[List.any_eq_false]at g3
   simpa using g3 y hy
   have e:c1 (.mk x ks)=QO x:=JN (by unfold Y5;rw[if_neg (by omega),if_neg (by omega),if_neg (by omega),if_neg h18])
   rw[e]
   refine⟨QtY (QoH F hsx hpx h0 h1 h2 h18),?_⟩
   rcases QqT (x:=x) with q | q
   exact q
   have:=(QkD h0 h1).1
   rw[q]at this
   exact absurd this (by decide)
  have seq:Q0 x.kind=true->x.kind≠22->Gd (m+1) (m+1) 1 (c1 (.mk x ks))/\peF (c1 (.mk x ks))=ZF (.mk x ks):=by
   intro h0 h22
   by_cases h21:x.kind=21
   have hc:c1 (.mk x ks)=VD ((css ks).filter fun y => !ZB y) x.val:=JN (by unfold Y5;rw[if_neg (by omega),if_neg (by omega),if_pos h21])
   unfold QaH at hs
   rw[if_neg (by omega),if_neg (by omega),if_pos h21]at hs
   have hv:x.val=[]\/QbQ x.val=true:=by
    rcases F.val (by omega) with h | h
    exact .inl h
    exact .inr h.2
   have hp:ZF (.mk x ks) = !decide (x.val=[]):=by
    rw[Qar,Qg7 fun k hk'=>Qcr (hk.mem k hk') (hs.1 k hk')]
    simp[YK,h21]
   have hel:x.val=[]\/x.val∈elNames:=by
    rcases hv with h | h
    exact .inl h
    right
    simp only[QbQ,zu,decide_eq_true_eq]at h
    rcases h with ((h | h) | h) | h<;>rw[h]<;>decide
   have n23:∀k∈ks,k.node.kind≠23:=fun k hk'=>by
    have:=hs.1 k hk'
    simp only[Qy,zh,decide_eq_true_eq]at this;omega
   have part:∀(us:List ST),(∀k∈us,k∈ks)->(∀k∈us,k.node.kind≠2)->∀y∈(css us).filter (fun y => !ZB y),Gd m m 0 y/\peF y=false:=by
    intro us hus h2 y hy
    obtain⟨hy1,hy2⟩:=List.mem_filter.1 hy
    obtain⟨k,hk',rfl⟩:=QiB (fun k hk'=>n23 k (hus k hk')) y hy1
    have hks:=hs.1 k (hus k hk')
    have hk1:k.node.kind≠1:=fun q=>by
     rw[(Qda (hk.mem k (hus k hk')) hks).1 q]at hy2
     exact absurd hy2 (by decide)
    have q:=hK k (hus k hk')
    refine⟨q.sim hks hk1 (h2 k hk'),?_⟩
    rw[q.pe (by simp[Q0,hks]),Qcr (hk.mem k (hus k hk')) hks]
   have fin:∀l:List CSel,(∀y∈l.tail,Gd m m 0 y)->(∀y,l.head? = some y->(Gd m m 0 y\/∃k,y=.tag k/\Qak k)/\peF y=false)->Gd (m+1) (m+1) 1 (VD l x.val)/\peF (VD l x.val) = !decide (x.val=[]):=by
    intro l h3 h4
    by_cases e:l.length=1/\x.val=[]
    obtain⟨y,rfl⟩:=List.length_eq_one_iff.1 e.1
    rw[e.2]
    show Gd (m+1) (m+1) 1 y/\peF y=_
    refine⟨?_,(h4 y rfl).2⟩
    rcases (h4 y rfl).1 with q | ⟨k,rfl,q⟩
    exact q.mono (by omega) (by omega) (by omega)
    exact QrK q
    have hse:VD l x.val=.compound l x.val:=by
     unfold VD
     split
     rename_i y hv;exact absurd ⟨rfl,hv⟩ e
     rfl
    rw[hse]
    refine⟨?_,rfl⟩
    simp only[Gd]
    exact⟨by omega,hel,fun q r=>e ⟨q,r⟩,fun y hy=>(h3 y hy).mono (zj _) (by omega) (zj _),fun y hy=>(h4 y hy).1.imp (fun q=>q.mono (zj _) (by omega) (zj _)) id⟩
   rw[hc,hp]
   by_cases h2:∀k∈ks,k.node.kind≠2
   have q:=part ks (fun k h=>h) h2
   exact fin _ (fun y hy=>(q y (List.mem_of_mem_tail hy)).1) (fun y hy=>have:=q y (List.mem_of_mem_head? hy);⟨.inl this.1,this.2⟩)
   obtain⟨k0,rest,rfl,hk0⟩:∃k0 rest,ks=k0::rest/\k0.node.kind=2:=by
    rcases ks with _ | ⟨k0,rest⟩
    exact absurd (fun k hk'=>by cases hk') h2
    refine⟨k0,rest,rfl,?_⟩
    by_cases e:k0.node.kind=2
    exact e
    refine absurd (fun k hk'=>?_) h2
    rcases zp.1 hk' with q | q
    subst q;exact e
    exact hs.2 k q
   obtain⟨k,q1,q2⟩:=(hK k0 (by simp)).tag hk0
   have q:=part rest (fun k h=>by simp[h]) hs.2
   rw[css,Yv (by omega),xe,q1,xu (by rfl)]
   exact fin _ (fun y hy=>(q y hy).1) (fun y hy=>by cases hy;exact⟨.inr ⟨k,rfl,q2⟩,rfl⟩)
   have h0s:Qy x.kind=true:=by simpa [Q0,h21,h22] using h0
   rw[Qcr hr h0s]
   by_cases h1:x.kind=1
   rw[(Qda hr h0s).1 h1]
   refine⟨?_,rfl⟩
   simp[Gd]
   by_cases h2:x.kind=2
   rw[tagc h2]
   exact⟨QrK (tagp h2),rfl⟩
   have q:=sim h0s h1 h2
   exact⟨q.1.mono (zj _) (zj _) (by omega),q.2⟩
  have sel:Q0 x.kind=true->Gd (m+1) (m+1) 2 (c1 (.mk x ks))/\peF (c1 (.mk x ks))=ZF (.mk x ks):=by
   intro h0
   by_cases h22:x.kind=22
   unfold QaH at hs
   rw[if_neg (by omega),if_neg (by omega),if_neg (by omega),if_pos h22]at hs
   obtain⟨a,b,rfl,ha,hb,hb22,hpa⟩:=hs
   have ha23:a.node.kind≠23:=by simp[Q0,Qy]at ha;omega
   have hb23:b.node.kind≠23:=by simp[Q0,Qy]at hb;omega
   have e:c1 (.mk x [a,b])=.combined (c1 a) (Qhk x.op) (c1 b):=JN (by
    unfold Y5
    rw[if_neg (by omega),if_pos h22,css,css,css,Yv ha23,Yv hb23];rfl)
   have ep:ZF (.mk x [a,b])=ZF b:=by
    rw[Qar,Qe7 (by omega),YN,YN,ZQ,show ZF a=false from hpa];simp
   obtain⟨o1,o2,_⟩:=F.comb h22
   have ho:x.op=1\/x.op=2\/x.op=3\/x.op=4:=by omega
   have hA:=hK a (by simp)
   have hB:=hK b (by simp)
   rw[e,ep]
   refine⟨?_,hB.pe hb⟩
   simp only[Gd]
   exact⟨by omega,by rcases ho with ho | ho | ho | ho<;>rw[ho]<;>decide,(hA.sel ha).mono (zj _) (by omega) (zj _),by rw[hA.pe ha];exact hpa,(hB.seq hb hb22).mono (zj _) (by omega) (zj _)⟩
   have q:=seq h0 h22
   exact⟨q.1.mono (zj _) (zj _) (by omega),q.2⟩
  refine { sim:=fun a b c=>(sim a b c).1,tag:=fun h2=>⟨x.key,tagc h2,tagp h2⟩,seq:=fun a b=>(seq a b).1,sel:=fun a=>(sel a).1,pe:=fun a=>(sel a).2,grp:=fun h23=>?_ }
  have h23':x.kind=23:=h23
  unfold QaH at hs
  rw[if_pos h23']at hs
  obtain⟨hs1,hs2⟩:=hs
  have n23:∀k∈ks,k.node.kind≠23:=fun k hk'=>by
   have:=hs1 k hk'
   simp[Q0,Qy]at this;omega
  have ec:cs (.mk x ks)=css ks:=by
   rw[cs];unfold Y5
   rw[if_pos h23']
  rw[ec]
  refine⟨?_,fun y hy=>?_,?_⟩
  obtain⟨k0,rest,rfl⟩:=zJ hs2
  rw[css,Yv (n23 k0 (by simp))]
  simp
  obtain⟨k,hk',rfl⟩:=QiB n23 y hy
  exact ((hK k hk').sel (hs1 k hk')).mono (by omega) (by omega) (zj _)
  rw[QjB n23 fun k hk'=>(hK k hk').pe (hs1 k hk'),Qar,Qe7 (by omega),xz]
theorem QuV {T:ST} (hh:ST.ht' T<=1000) (hr:Y3 T) (hsm:Qcm T) (hp:∀x∈T.flat,ZW x=true) (hk:T.node.kind=23\/Q0 T.node.kind=true):QU (prG (cs T)) true true=some (cs T):=by
 have q:=Qjr _ T (zj _) hr hsm hp
 have:cs T≠[]/\∀y∈cs T,Gd (ST.ht' T) (ST.ht' T) 2 y:=by
  rcases hk with hk | hk
  exact⟨(q.grp hk).1,(q.grp hk).2.1⟩
  have n23:T.node.kind≠23:=by simp[Q0,Qy]at hk;omega
  rw[Yv n23]
  exact⟨by simp,fun y hy=>by rw[zP.1 hy];exact q.sel hk⟩
 rw[Qlj this.1 this.2 hh true,if_neg (by simp)]
end Way
end
section
set_option maxRecDepth 20000
mutual
def hgt:CSel->Nat
 | .rel _ l=>Qiq l+1
 | .compound l _=>Qiq l+1
 | .combined f _ s=>max (hgt f) (hgt s)+1
 | _=>1
def Qiq:List CSel->Nat
 | []=>0
 | x::l=>max (hgt x) (Qiq l)
end
mutual
def okC:CSel->Prop
 | .nth a b _ _=>(-9223372036854775808<=a/\a<=9223372036854775807)/\(-9223372036854775808<=b/\b<=9223372036854775807)
 | .rel _ l=>Qoq l
 | .compound l _=>Qoq l
 | .combined f _ s=>okC f/\okC s
 | _=>True
def Qoq:List CSel->Prop
 | []=>True
 | x::l=>okC x/\Qoq l
end
def okM (m:Nat) (x:CSel):Prop:=hgt x<=m/\okC x/\(pr x).length<=1000000/\(Qz x).length<=1000000
theorem Qkw (l:List CSel):l.length<=(Vk l).length:=by
 have pos:∀x:CSel,0<(Qz x).length:=by intro x;cases x<;>simp[Qz,Qr]
 induction l with
 | nil=>simp
 | cons x l ih=>have:=pos x;simp[Vk];omega
theorem Qkv {l:List CSel}:∀y∈l,(Qz y).length<=(Vk l).length:=by
 induction l with
 | nil=>intro y hy;cases hy
 | cons x l ih=>
  intro y hy
  rw[Vk,zf]
  rcases zp.1 hy with e | e
  subst e;omega
  have:=ih y e;omega
theorem Qrn {l:List CSel} {m:Nat} (h:Qiq l<=m):∀y∈l,hgt y<=m:=by
 induction l with
 | nil=>intro y hy;cases hy
 | cons x l ih=>
  rw[Qiq]at h
  intro y hy
  rcases zp.1 hy with e | e
  subst e;omega
  exact ih (by omega) y e
theorem QjU {l:List CSel} {m:Nat} (h:∀y∈l,hgt y<=m):Qiq l<=m:=by
 induction l with
 | nil=>simp[Qiq]
 | cons x l ih=>
  rw[Qiq]
  have:=h x (by simp)
  have:=ih fun y hy=>h y (by simp[hy])
  omega
theorem QqH {l:List CSel} (h:Qoq l):∀y∈l,okC y:=by
 induction l with
 | nil=>intro y hy;cases hy
 | cons x l ih=>
  intro y hy
  rcases zp.1 hy with e | e
  subst e;exact h.1
  exact ih h.2 y e
theorem QjT {l:List CSel} (h:∀y∈l,okC y):Qoq l:=by
 induction l with
 | nil=>trivial
 | cons x l ih=>exact⟨h x (by simp),ih fun y hy=>h y (by simp[hy])⟩
theorem QtO (x:CSel):1<=hgt x:=by cases x<;>simp[hgt]
theorem Qvi:∀(m d c:Nat) (x:CSel),Way.Gd m d c x->hgt x<=m+1/\okC x
 | 0,d,c,x,h=>by simp only[Way.Gd]at h
 | m+1,d,c,x,h=>by
  have ih:=Qvi m
  cases x
  case rel n l=>
   simp only[Way.Gd]at h
   obtain⟨_,_,d',_,h3⟩:=h
   rw[hgt,okC]
   exact⟨Nat.succ_le_succ (QjU fun y hy=>(ih _ _ y (h3 y hy).1).1),QjT fun y hy=>(ih _ _ y (h3 y hy).1).2⟩
  case compound l pe=>
   simp only[Way.Gd]at h
   obtain⟨_,_,_,h3,h4⟩:=h
   have all:∀y∈l,hgt y<=m+1/\okC y:=by
    intro y hy
    cases l with
    | nil=>cases hy
    | cons z u=>
     rcases zp.1 hy with e | e
     subst e
     rcases h4 y rfl with q | ⟨k,rfl,_⟩
     exact ih _ _ _ q
     refine⟨?_,by simp[okC]⟩
     simp[hgt]
     exact ih _ _ _ (h3 y e)
   rw[hgt,okC]
   exact⟨Nat.succ_le_succ (QjU fun y hy=>(all y hy).1),QjT fun y hy=>(all y hy).2⟩
  case combined f o s=>
   simp only[Way.Gd]at h
   obtain⟨_,_,h2,_,h4⟩:=h
   have q1:=ih _ _ _ h2
   have q2:=ih _ _ _ h4
   rw[hgt,okC]
   exact⟨by omega,q1.2,q2.2⟩
  case nth a b l t=>
   simp only[Way.Gd,Way.JK]at h
   refine⟨by simp[hgt],?_⟩
   simp only[okC]
   omega
  all_goals exact⟨by simp[hgt],by simp[okC]⟩
theorem JA:∀v:Bs,v.length<=(ZD v).length/\(ZD v).length<=2*v.length
 | []=>by simp[ZD]
 | c::v=>by
  have:=JA v
  rw[ZD,zf,zg]
  unfold Qkq
  split<;>simp<;>omega
theorem Qpv {c:UInt8} (h:c=32\/c=62\/c=43\/c=126):(Y6 c.toNat).length=1:=by rcases h with rfl | rfl | rfl | rfl<;>decide
def prS:List CSel->Nat
 | []=>0
 | x::l=>(pr x).length+2+prS l
theorem QjA (l:List CSel):(prG l).length<=prS l:=by
 have key:∀l:List CSel,((prs l).flatMap fun u=>[44,32]++u).length=prS l:=by
  intro l
  induction l with
  | nil=>rfl
  | cons x l ih=>
   rw[prs,List.flatMap_cons,zf,ih,prS]
   simp only[zf,zg,zl];omega
 cases l with
 | nil=>simp[prG,prs,Je]
 | cons x l=>
  unfold prG
  rw[prs,Je,zf,key,prS]
  omega
theorem Qqy (l:List CSel):(prs l).flatten.length<=prS l:=by
 induction l with
 | nil=>simp[prs]
 | cons x l ih=>
  rw[prs,xx,zf,prS];omega
theorem Qs8 (a b:List CSel):prS (a++b)=prS a+prS b:=by
 induction a with
 | nil=>simp[prS]
 | cons x a ih=>rw[List.cons_append,prS,prS,ih];omega
theorem Qlk (p:CSel->Bool) (l:List CSel):prS (l.filter p)<=prS l:=by
 induction l with
 | nil=>simp
 | cons x l ih=>
  rw[List.filter_cons]
  split<;>simp only[prS]<;>omega
theorem Qs7 {l:List CSel}:∀y∈l,(pr y).length+2<=prS l:=by
 induction l with
 | nil=>intro y hy;cases hy
 | cons x l ih=>
  intro y hy
  rw[prS]
  rcases zp.1 hy with e | e
  subst e;omega
  have:=ih y e;omega
theorem Qtf {a b:Int} {l t:Bool} (ha : -9999<=a/\a<=9999) (hb : -9999<=b/\b<=9999):(pr (.nth a b l t)).length<=80:=by
 have h:=Qau (a:=a) (b:=b) (by omega) (by omega)
 have h2:∀l t:Bool,(Qdc l t).length<=20/\(Way.ZX l t).length<=20:=by decide
 have:=h2 l t
 rw[pr]
 split<;>simp only[zf,zg,zl]<;>omega
theorem QqU {x:SelD} (F:Way.Fld x):(pr (QO x)).length+10<=100+4*(x.key.length+x.val.length):=by
 have r:=F.rng
 have p:∀m:Fin 7,(Qp.getD m.val []).length<=10:=by decide
 have s:=Yb (l:=YQ) (n:=2) (by decide) x.op.toNat
 have e:=JA x.val
 have n:=Qtf (a:=x.a) (b:=x.b) (l:=decide (x.flag=1\/x.flag=3)) (t:=decide (x.flag=2\/x.flag=3)) (by omega) (by omega)
 have p0:(Qp.getD 0 []).length<=10:=by decide
 have p1:(Qp.getD 1 []).length<=10:=by decide
 have p2:(Qp.getD 2 []).length<=10:=by decide
 have p3:(Qp.getD 3 []).length<=10:=by decide
 have p4:(Qp.getD 4 []).length<=10:=by decide
 have p5:(Qp.getD 5 []).length<=10:=by decide
 have p6:(Qp.getD 6 []).length<=10:=by decide
 have eL:ZY.length=4:=rfl
 unfold QO
 refine Way.Qq6 (P:=fun y=>(pr y).length+10<=100+4*(x.key.length+x.val.length)) (by simp[pr,prs];omega) ?_
 refine Way.Qq6 (P:=fun y=>(pr y).length+10<=100+4*(x.key.length+x.val.length)) (by rw[pr];omega) ?_
 refine Way.Qq6 (P:=fun y=>(pr y).length+10<=100+4*(x.key.length+x.val.length)) (by rw[pr,zg];omega) ?_
 refine Way.Qq6 (P:=fun y=>(pr y).length+10<=100+4*(x.key.length+x.val.length)) (by rw[pr,zg];omega) ?_
 refine Way.Qq6 (P:=fun y=>(pr y).length+10<=100+4*(x.key.length+x.val.length)) (by rw[pr];simp only[zf,zg,zl];split<;>split<;>simp only[zf,zg,zl]<;>omega) ?_
 refine Way.Qq6 (P:=fun y=>(pr y).length+10<=100+4*(x.key.length+x.val.length)) (by omega) ?_
 refine Way.Qq6 (P:=fun y=>(pr y).length+10<=100+4*(x.key.length+x.val.length)) (by rw[pr,zg];split<;>simp only[zg,zl]<;>omega) ?_
 refine Way.Qq6 (P:=fun y=>(pr y).length+10<=100+4*(x.key.length+x.val.length)) (by rw[pr,zg];omega) ?_
 refine Way.Qq6 (P:=fun y=>(pr y).length+10<=100+4*(x.key.length+x.val.length)) (by rw[pr,zg];omega) ?_
 refine Way.Qq6 (P:=fun y=>(pr y).length+10<=100+4*(x.key.length+x.val.length)) (by rw[pr,zg];omega) ?_
 refine Way.Qq6 (P:=fun y=>(pr y).length+10<=100+4*(x.key.length+x.val.length)) (by rw[pr,zg];omega) ?_
 refine Way.Qq6 (P:=fun y=>(pr y).length+10<=100+4*(x.key.length+x.val.length)) (by rw[pr,zg];omega) ?_
 refine Way.Qq6 (P:=fun y=>(pr y).length+10<=100+4*(x.key.length+x.val.length)) (by rw[pr,zg];omega) ?_
 refine Way.Qq6 (P:=fun y=>(pr y).length+10<=100+4*(x.key.length+x.val.length)) (by rw[pr,zg];omega) ?_
 refine Way.Qq6 (P:=fun y=>(pr y).length+10<=100+4*(x.key.length+x.val.length)) (by rw[pr];simp only[zf,zg,zl];omega) ?_
 refine Way.Qq6 (P:=fun y=>(pr y).length+10<=100+4*(x.key.length+x.val.length)) (by rw[pr];simp only[zf,zg,zl];split<;>simp only[zg,zl]<;>omega) ?_
 rw[pr]
 simp only[zf,zg,zl]
 split<;>simp only[zg,zl]<;>omega
theorem QkW (l:List CSel) (pe:Bs):(pr (VD l pe)).length<=prS l+pe.length+3:=by
 by_cases e:∃y,l=[y]/\pe=[]
 obtain⟨y,rfl,rfl⟩:=e
 show (pr y).length<=_
 simp only[prS]
 omega
 have h:VD l pe=.compound l pe:=by
  unfold VD
  split
  exact absurd ⟨_,rfl,rfl⟩ e
  rfl
 have q2:=Qqy l
 rw[h,pr]
 split
 simp only[zg,zl];omega
 rw[zf]
 split<;>simp only[zg,zl]<;>omega
mutual
theorem Qjz:∀T:ST,Y3 T->prS (cs T)<=wtL T.flat
 | .mk x ks,⟨hf,hz,hs,hk⟩=>by
  have F:=Way.fld hf
  have hks:=QgJ ks hk
  have hl:=QqU F
  rw[QeE,cs]
  have hw:wtN x=100+4*(x.key.length+x.val.length):=rfl
  unfold QaH at hs
  unfold Y5
  by_cases h23:x.kind=23
  rw[if_pos h23];omega
  rw[if_neg h23]
  rw[if_neg h23]at hs
  by_cases h18:x.kind=18\/x.kind=19\/x.kind=20
  rw[if_pos h18]at hs
  rw[if_neg (by omega),if_neg (by omega),if_pos h18]
  have s2:=Yb (l:=V3) (n:=8) (by decide) (x.kind-18).toNat
  have q:=QjA (css ks)
  rw[prS,prS,pr]
  unfold prG at q
  simp only[zf,zg,zl]
  omega
  rw[if_neg h18]at hs
  by_cases h21:x.kind=21
  rw[if_neg (by omega),if_pos h21]
  have hc:(pr (VD ((css ks).filter fun y => !ZB y) x.val)).length<=prS (css ks)+x.val.length+3:=by
   have q1:=Qlk (fun y => !ZB y) (css ks)
   generalize (css ks).filter (fun y => !ZB y)=l at q1 ⊢
   have:=QkW l x.val
   omega
  rw[prS,prS]
  omega
  rw[if_neg h21]at hs
  by_cases h22:x.kind=22
  rw[if_pos h22]at hs
  obtain⟨a,b,rfl,ha,hb,hb22,_⟩:=hs
  rw[if_pos h22]
  have ha23:a.node.kind≠23:=by simp[Q0,Qy]at ha;omega
  have hb23:b.node.kind≠23:=by simp[Q0,Qy]at hb;omega
  have ec:css [a,b]=[c1 a,c1 b]:=by rw[css,css,css,Yv ha23,Yv hb23];rfl
  rw[ec]at hks ⊢
  obtain⟨o1,o2,_⟩:=F.comb h22
  have ho:x.op=1\/x.op=2\/x.op=3\/x.op=4:=by omega
  have hu:(Y6 (Qhk x.op).toNat).length=1:=Qpv (by rcases ho with ho | ho | ho | ho<;>rw[ho]<;>decide)
  simp only[prS]at hks
  rw[prS,prS,pr]
  simp only[List.getD_cons_zero,List.getD_cons_succ,zf,zg,zl]
  omega
  rw[if_neg h22,if_neg h21,if_neg h18,prS,prS]
  omega
theorem QgJ:∀ks:List ST,JV ks->prS (css ks)<=wtL (ST.flats ks)
 | [],_=>by simp[css,prS]
 | t::ks,⟨h1,h2⟩=>by
  have q1:=Qjz t h1
  have q2:=QgJ ks h2
  rw[css,Qs8,ST.flats,Qbf]
  omega
end
theorem Qj4 (l:List Bs):Go.Lib.join l [44,32]=Je l:=by
 cases l with
 | nil=>rfl
 | cons x l=>rw[Go.Lib.join_cons,Je];unfold Go.Lib.joinTail;rw[List.flatMap_def]
theorem Qbp (l:List Bs):Go.Lib.join l []=l.flatten:=by
 cases l with
 | nil=>rfl
 | cons x l=>rw[Go.Lib.join_cons,xx];unfold Go.Lib.joinTail;simp
def prR (l:List CSel) (i:Nat):List Bs:=prs (l.take i)++zR (l.length-i) []
theorem Qem (l:List CSel):(prs l).length=l.length:=by rw[QhS,List.length_map]
theorem QmP (l:List CSel) (i:Nat) (h:i<=l.length):(prR l i).length=l.length:=by
 unfold prR
 rw[zf,Qem,zF,xf]
 omega
theorem QuW {l:List CSel} {i:Nat} (h:i<l.length):(prR l i).set i (pr (l.getD i default))=prR l (i+1):=by
 unfold prR
 have e:(prs (l.take i)).length=i:=by rw[Qem,zF];omega
 obtain⟨k,hk⟩:∃k,l.length-i=k+1:=⟨l.length-i-1,by omega⟩
 rw[List.set_append_right _ _ (by omega),e,Nat.sub_self,hk,List.replicate_succ,List.set_cons_zero,zN,ze h,QhS,QhS,List.map_append,show l.length-(i+1)=k by omega]
 simp[za,ze h]
theorem Qbo {l:List CSel} {i:Nat} (h:l.length<=i):prR l i=prs l:=by
 unfold prR
 rw[zS h,show l.length-i=0 by omega]
 simp
theorem Qnz:∀n:Nat,Go.Lib.decDigits n=Yu n:=by
 intro n
 induction n using zi with
 | _ n ih=>
  have d:∀m:Nat,m<10->Yu m=[zE (48+m)]:=by
   intro m hm
   rw[Yu,if_pos hm]
   exact (Way.dig10 ⟨m,hm⟩).1
  by_cases h:n<10
  rw[Go.Lib.decDigits,dif_pos h,d n h]
  rw[Go.Lib.decDigits,dif_neg h,Yu,if_neg h,ih (n/10) (by omega),d (n%10) (by omega)]
def itoa (n:Int):Bs:=if n<0 then 45::Yu (-n).toNat else Yu n.toNat
theorem Qq5 (n:Int):Go.Lib.itoa n=itoa n:=by
 unfold Go.Lib.itoa itoa
 split
 rw[Qnz,show n.natAbs=(-n).toNat by omega]
 rw[Qnz]
theorem Qj5 {n:Int} (h : -9223372036854775808<=n/\n<=9223372036854775807):(itoa n).length<=30:=by
 unfold itoa
 split
 have:=Qey 25 (-n).toNat (by omega) (by decide)
 rw[zg];omega
 have:=Qey 25 n.toNat (by omega) (by decide)
 omega
theorem UF {a b:Int} {l t:Bool} (h:¬(a=0/\b=1)):pr (.nth a b l t)=58::(Way.ZX l t++(40::((itoa a++(110::(if b<0 then itoa b else 43::itoa b)))++[41]))):=by
 rw[pr,if_neg h]
 unfold YH itoa Zm
 by_cases hb:b<0
 simp only[if_pos hb]
 simp only[if_neg hb]
end
section
open Go Go.RowKit
set_option maxRecDepth 20000
def c36 (svs:List SV) (b:Option SB):QR:=match svs,b with
 | [.str s],none=>some ([s.length<=80000],.bool (UE s))
 | _,_=>none
noncomputable def W36:Wk:=⟨[(62,.pure c62)],Qh Tryz.f36,false,false,[.tmp 2],[4],[],[]⟩
theorem has36:Has 36:=hsf Tryz.f36
theorem ogz1 {c0 p0 q:Prop} (k:q) (h:c0->p0/\True:=by intro g0;(try simp at g0);exact⟨(by first | omega | (simp;omega) | (simp only[zf,zg,zl];omega)),trivial⟩):(c0->p0/\True)/\q:=⟨h,k⟩
theorem ogz0 {p q:Prop} (k:q) (h:p:=by first | omega | (simp;omega) | (simp only[zf,zg,zl];omega)):p/\q:=⟨h,k⟩
theorem sat36:Sat 36 (Ql c36):=by
 have hD:Qb W36.D:=(Qb.cons Qrs QpX Qb.nil)
 refine W36.sa hD Tryz.f36 fun svs b K hP=>?_
 obtain⟨ps,v,e,hp,hk⟩:=Qd hP
 unfold c36 at e
 split at e
 rename_i s
 cases e
 obtain⟨h01,_⟩:=hp
 have n1:=Zp s
 have n2:=Zp (120::s)
 rw[zg]at n2
 refine W36.en (have a0:=(decide (Q2 s=s))=true->(1+s.length<=2305843009213693952)/\True;(s.length<=100000)/\a0/\((decide (Q2 s=s))=true->(([120]++s).length<=100000)/\True)/\a0/\K (.val (.bool ((decide (Q2 s=s))&&(decide (Q2 ([120]++s)=[120]++s))))) none) ?_
 refine ogz0 (ogz1 (ogz1 (ogz1 ?_)))
 refine Vd hk ?_
 unfold UE
 cases decide (Q2 s=s)<;>simp
 cases e
theorem QdH {p:UInt8->Bool} {s:Bs} {i:Nat} (h:i<s.length):(s.take (i+1)).any p=((s.take i).any p||p (s.getD i 0)):=by
 rw[zN,ze h,List.any_append]
 simp[za,ze h]
theorem QiP {p:UInt8->Bool} {s:Bs} {i:Nat} (h:i<s.length) (hp:p (s.getD i 0)=true):s.any p=true:=by
 rw[List.any_eq_true]
 refine⟨s[i],List.getElem_mem h,?_⟩
 rwa [za,ze h]at hp
theorem Ql5 {a b:UInt8} (h:a.toNat=b.toNat):a=b:=UInt8.toNat_inj.1 h
def c37 (svs:List SV) (b:Option SB):QR:=match svs,b with
 | [.str s,.str t],none=>some ([s.length<=1000000000/\t.length<=1000000000],.bool (Z9 s t))
 | _,_=>none
noncomputable def W37:Wk:=⟨[],Qh Tryz.f37,false,false,[.tmp 4],[4],[(2,35),(5,99)],[]⟩
theorem has37:Has 37:=hsf Tryz.f37
theorem ogz2 {p q:Prop} (k:q) (h:p:=by first | omega | (simp;done)):p/\q:=⟨h,k⟩
theorem sat37:Sat 37 (Ql c37):=by
 have hD:Qb W37.D:=Qb.nil
 refine W37.sa hD Tryz.f37 fun svs b K hP=>?_
 obtain⟨ps,v,e,hp,hk⟩:=Qd hP
 unfold c37 at e
 split at e
 rename_i s t
 cases e
 obtain⟨⟨h01,h02⟩,_⟩:=hp
 have LL:∀mm:Nat,(∀(i:Nat),(s.length-i)*(t.length+2)+(t.length+1)=mm->(i<=s.length/\Z9 (s.take i) t=false)->W37.L K 2 (mkS 26 [(0,(.str s)),(1,(.str t)),(5,(.nat i))] [] 1))/\(∀(i k:Nat),(s.length-i)*(t.length+2)+(t.length-k)=mm->(i<s.length/\k<=t.length/\Z9 (s.take i) t=false/\((t.take k).any fun e=>decide (s.getD i 0=e))=false)->W37.L K 5 (mkS 26 [(0,(.str s)),(1,(.str t)),(5,(.nat i)),(6,(.nat k))] [] 1)):=by
  intro mm
  induction mm using zi with
  | _ mm ihh=>
   have i2:∀(i:Nat),(s.length-i)*(t.length+2)+(t.length+1)<mm->(i<=s.length/\Z9 (s.take i) t=false)->W37.L K 2 (mkS 26 [(0,(.str s)),(1,(.str t)),(5,(.nat i))] [] 1):=fun i h hI=>(ihh _ h).1 i rfl hI
   have i5:∀(i k:Nat),(s.length-i)*(t.length+2)+(t.length-k)<mm->(i<s.length/\k<=t.length/\Z9 (s.take i) t=false/\((t.take k).any fun e=>decide (s.getD i 0=e))=false)->W37.L K 5 (mkS 26 [(0,(.str s)),(1,(.str t)),(5,(.nat i)),(6,(.nat k))] [] 1):=fun i k h hI=>(ihh _ h).2 i k rfl hI
   refine⟨?_,?_⟩
   intro i hm hI
   obtain⟨k1,k2⟩:=hI
   refine W37.aL hD (cond (decide (i<s.length)) ((W37).L K 5 (mkS 26 [(0,(.str s)),(1,(.str t)),(5,(.nat i)),(6,(.nat 0))] [] 1)) (K (.val (.bool false)) none)) ?_
   refine Qa ?_ ?_<;>intro h1<;>try simp[-za,-zb]at h1
   exact i5 i 0 (by omega) ⟨h1,by omega,k2,by simp⟩
   refine Vd hk ?_
   rw[zS (by omega)]at k2
   exact k2
   intro i k hm hI
   obtain⟨k1,k2,k3,k4⟩:=hI
   refine W37.aL hD (cond (decide (k<t.length)) ((i<s.length)/\(k<t.length)/\cond (decide (bat s i=bat t k)) (K (.val (.bool true)) none) ((k+1<=9223372036854775807)/\(W37).L K 5 (mkS 26 [(0,(.str s)),(1,(.str t)),(5,(.nat i)),(6,(.nat (k+1)))] [] 1))) ((i+1<=9223372036854775807)/\(W37).L K 2 (mkS 26 [(0,(.str s)),(1,(.str t)),(5,(.nat (i+1)))] [] 1))) ?_
   refine Qa ?_ ?_<;>intro h1<;>try simp[-za,-zb]at h1
   refine ogz2 (ogz2 ?_)
   refine Qa ?_ ?_<;>intro h2<;>try simp[-za,-zb]at h2
   refine Vd hk ?_
   unfold Z9
   exact QiP k1 (QiP h1 (decide_eq_true (Ql5 h2)))
   refine ogz2 ?_
   exact i5 i (k+1) (by omega) ⟨k1,by omega,k3,by rw[QdH h1,k4,xz,decide_eq_false (fun q=>h2 (by show (s.getD i 0).toNat=(t.getD k 0).toNat;rw[q]))]⟩
   refine ogz2 ?_
   exact i2 (i+1) (by have e:(s.length-i)*(t.length+2)=(s.length-(i+1))*(t.length+2)+(t.length+2):=by { rw[<-Nat.succ_mul];congr 1;omega };omega) ⟨by omega,by unfold Z9 at k3 ⊢;rw[QdH k1,k3,xz];rwa [zS (by omega)]at k4⟩
 have L2:∀(mm:Nat) (i:Nat),(s.length-i)*(t.length+2)+(t.length+1)=mm->(i<=s.length/\Z9 (s.take i) t=false)->W37.L K 2 (mkS 26 [(0,(.str s)),(1,(.str t)),(5,(.nat i))] [] 1):=fun mm i h hI=>(LL mm).1 i h hI
 have L5:∀(mm:Nat) (i k:Nat),(s.length-i)*(t.length+2)+(t.length-k)=mm->(i<s.length/\k<=t.length/\Z9 (s.take i) t=false/\((t.take k).any fun e=>decide (s.getD i 0=e))=false)->W37.L K 5 (mkS 26 [(0,(.str s)),(1,(.str t)),(5,(.nat i)),(6,(.nat k))] [] 1):=fun mm i k h hI=>(LL mm).2 i k h hI
 refine W37.en ((W37).L K 2 (mkS 26 [(0,(.str s)),(1,(.str t)),(5,(.nat 0))] [] 1)) ?_
 exact L2 _ 0 rfl ⟨by omega,by simp[Z9]⟩
 cases e
def c38 (svs:List SV) (b:Option SB):QR:=match svs,b with
 | [.str s],none=>some ([s.length<=1000000000],.bool (Qgg s))
 | _,_=>none
noncomputable def W38:Wk:=⟨[],Qh Tryz.f38,false,false,[.tmp 2],[4],[(2,9)],[]⟩
theorem has38:Has 38:=hsf Tryz.f38
theorem ogz4 {c0 p0 q:Prop} (k:q) (h:c0->p0/\True:=by intro g0;(try simp at g0);exact⟨(by first | omega | (simp;done) | exact fun _=>⟨by omega,trivial⟩),trivial⟩):(c0->p0/\True)/\q:=⟨h,k⟩
theorem ogz3 {p q:Prop} (k:q) (h:p:=by first | omega | (simp;done) | exact fun _=>⟨by omega,trivial⟩):p/\q:=⟨h,k⟩
theorem sat38:Sat 38 (Ql c38):=by
 have hD:Qb W38.D:=Qb.nil
 refine W38.sa hD Tryz.f38 fun svs b K hP=>?_
 obtain⟨ps,v,e,hp,hk⟩:=Qd hP
 unfold c38 at e
 split at e
 rename_i s
 cases e
 obtain⟨h01,_⟩:=hp
 have L2:∀(mm:Nat) (i:Nat),s.length-i=mm->(i<=s.length/\Qgg (s.take i)=false)->W38.L K 2 (mkS 20 [(0,(.str s)),(3,(.nat i))] [] 1):=by
  intro mm
  induction mm using zi with
  | _ mm ih=>
   intro i hm hI
   obtain⟨k1,k2⟩:=hI
   refine W38.aL hD (cond (decide (i<s.length)) ((i<s.length)/\((decide (bat s i<32))=false->(i<s.length)/\True)/\cond ((decide (bat s i<32))||(decide (bat s i=127))) (K (.val (.bool true)) none) ((i+1<=9223372036854775807)/\(W38).L K 2 (mkS 20 [(0,(.str s)),(3,(.nat (i+1)))] [] 1))) (K (.val (.bool false)) none)) ?_
   refine Qa ?_ ?_<;>intro h1<;>try simp[-za,-zb]at h1
   refine ogz3 (ogz4 ?_)
   refine Qa ?_ ?_<;>intro h2<;>try simp[-za,-zb]at h2
   refine Vd hk ?_
   unfold Qgg
   refine QiP h1 ?_
   have h2':(s.getD i 0).toNat<32\/(s.getD i 0).toNat=127:=by first | exact h2 | (have:=h2;simpa using this)
   simpa using h2'
   refine ogz3 ?_
   exact ih _ (by omega) (i+1) rfl ⟨by omega,by unfold Qgg at k2 ⊢;rw[QdH h1,k2,xz];have h3:¬((s.getD i 0).toNat<32)/\¬((s.getD i 0).toNat=127):=by { have e:bat s i=(s.getD i 0).toNat:=rfl;omega };simp only[zz,decide_eq_false_iff_not];exact h3⟩
   refine Vd hk ?_
   rw[zS (by omega)]at k2
   exact k2
 refine W38.en ((W38).L K 2 (mkS 20 [(0,(.str s)),(3,(.nat 0))] [] 1)) ?_
 exact L2 _ 0 rfl ⟨by omega,by simp[Qgg]⟩
 cases e
theorem Qkt {s:Bs} {i:Nat} (h:i<s.length):Qd8 (s.drop i)=if bat s i=45 then Qd8 (s.drop (i+1)) else Qv (bat s i):=by
 rw[zG h,Qd8]
 have e:bat s i=s[i].toNat:=by simp[bat,za,ze h]
 rw[e]
def c39 (svs:List SV) (b:Option SB):QR:=match svs,b with
 | [.str s],none=>some ([s.length<=1000000000],.bool (Qd8 s))
 | _,_=>none
noncomputable def W39:Wk:=⟨[],Qh Tryz.f39,false,false,[.tmp 2],[4],[(2,9)],[]⟩
theorem has39:Has 39:=hsf Tryz.f39
theorem sat39:Sat 39 (Ql c39):=by
 have hD:Qb W39.D:=Qb.nil
 refine W39.sa hD Tryz.f39 fun svs b K hP=>?_
 obtain⟨ps,v,e,hp,hk⟩:=Qd hP
 unfold c39 at e
 split at e
 rename_i s
 cases e
 obtain⟨h01,_⟩:=hp
 have L2:∀(mm:Nat) (i:Nat),s.length-i=mm->(i<=s.length/\Qd8 (s.drop i)=Qd8 s)->W39.L K 2 (mkS 32 [(0,(.str s)),(3,(.nat i))] [] 1):=by
  intro mm
  induction mm using zi with
  | _ mm ih=>
   intro i hm hI
   obtain⟨k1,k2⟩:=hI
   refine W39.aL hD (have a0:=decide (i<s.length);(a0=true->(i<s.length)/\True)/\cond (a0&&(decide (bat s i=45))) ((i+1<=9223372036854775807)/\(W39).L K 2 (mkS 32 [(0,(.str s)),(3,(.nat (i+1)))] [] 1)) ((a0=true->(i<s.length)/\True)/\((a0&&(decide (48<=bat s i)))=true->(i<s.length)/\True)/\K (.val (.bool ((a0&&(decide (48<=bat s i)))&&(decide (bat s i<=57))))) none)) ?_
   refine ogz4 ?_
   refine Qa ?_ ?_<;>intro h1<;>try simp[-za,-zb]at h1
   refine ogz3 ?_
   exact ih _ (by omega) (i+1) rfl ⟨by omega,by rw[<-k2,Qkt h1.1,if_pos h1.2]⟩
   refine ogz4 (ogz4 ?_)
   refine Vd hk ?_
   rw[<-k2]
   by_cases h2:i<s.length
   rw[Qkt h2,if_neg (fun q=>h1 h2 q)]
   unfold Qv
   simp[h2]
   rw[List.drop_eq_nil_of_le (by omega)]
   simp[Qd8,h2]
 refine W39.en ((W39).L K 2 (mkS 32 [(0,(.str s)),(3,(.nat 0))] [] 1)) ?_
 exact L2 _ 0 rfl ⟨by omega,rfl⟩
 cases e
theorem Qck {l:List SelD} {i:Nat} (h:i<l.length) (hp:ZW (l.getD i default)=false):Qoo l=false:=by
 unfold Qoo
 rw[List.all_eq_false]
 refine⟨l[i],List.getElem_mem h,?_⟩
 rw[za,ze h]at hp
 simpa using hp
theorem UB {l:List SelD} {i:Nat} (h:i<l.length) (k:(l.take i).all ZW=true) (hp:ZW (l.getD i default)=true):(l.take (i+1)).all ZW=true:=by
 rw[zN,ze h,List.all_append,k]
 rw[za,ze h]at hp
 simpa using hp
def c20 (svs:List SV) (b:Option SB):QR:=match svs,b with
 | [.sl (.sels l)],none=>some ([l.length<=1000000000/\∀j,j<l.length->(l.getD j default).key.length<=80000/\(l.getD j default).val.length<=80000],.bool (Qoo l))
 | _,_=>none
noncomputable def W20:Wk:=⟨[(36,.pure c36),(37,.pure c37),(38,.pure c38),(39,.pure c39)],Qh Tryz.f20,false,false,[.tmp 2],[4],[(2,9)],[]⟩
theorem has20:Has 20:=hsf Tryz.f20
theorem ogz7 {c0 c1 p0 q:Prop} (k:q) (h:c0->c1->p0/\True:=by intro g0 g1;(try simp at g0);(try simp at g1);exact⟨(by first | omega | (have:=f (by omega);omega) | exact fun _=>⟨by have:=f (by omega);omega,trivial⟩ | (have:=f (by omega);simp;omega) | (simp;done)),trivial⟩):(c0->c1->p0/\True)/\q:=⟨h,k⟩
theorem Qot {c0 p0 q:Prop} (k:q) (h:c0->p0/\True:=by intro g0;(try simp at g0);exact⟨(by first | omega | (have:=f (by omega);omega) | exact fun _=>⟨by have:=f (by omega);omega,trivial⟩ | (have:=f (by omega);simp;omega) | (simp;done)),trivial⟩):(c0->p0/\True)/\q:=⟨h,k⟩
theorem Qdk {p q:Prop} (k:q) (h:p:=by first | omega | (have:=f (by omega);omega) | exact fun _=>⟨by have:=f (by omega);omega,trivial⟩ | (have:=f (by omega);simp;omega) | (simp;done)):p/\q:=⟨h,k⟩
theorem sat20:Sat 20 (Ql c20):=by
 have hD:Qb W20.D:=(Qb.cons has36 sat36 (Qb.cons has37 sat37 (Qb.cons has38 sat38 (Qb.cons has39 sat39 Qb.nil))))
 refine W20.sa hD Tryz.f20 fun svs b K hP=>?_
 obtain⟨ps,v,e,hp,hk⟩:=Qd hP
 unfold c20 at e
 split at e
 rename_i l
 cases e
 obtain⟨⟨h01,h02⟩,_⟩:=hp
 have L2:∀(mm:Nat) (i:Nat),l.length-i=mm->(i<=l.length/\(l.take i).all ZW=true)->W20.L K 2 (mkS 63 [(0,(.sl (.sels l))),(3,(.nat i))] [] 1):=by
  intro mm
  induction mm using zi with
  | _ mm ih=>
   intro i hm hI
   obtain⟨k1,k2⟩:=hI
   have f:i<l.length->(l.getD i default).key.length<=80000/\(l.getD i default).val.length<=80000:=fun h=>h02 i h
   refine W20.aL hD (have a1:=l.getD i default;have a0:=mkS 63 [(0,(.sl (.sels l))),(3,(.nat (i+1)))] [(1,.blk 33 [(.int .i64 (a1.kind)),(.int .i64 (a1.op)),(.str (a1.key)),(.str (a1.val)),(.int .i64 (a1.a)),(.int .i64 (a1.b)),(.int .i64 (a1.flag)),(.int .i64 (a1.size))])] 2;have a2:=(decide (a1.kind=(5:Int)))&&(!(UE (a1.key)));have a3:=i+1<=9223372036854775807;have a4:=(decide (a1.kind=(5:Int)))=true->((a1.key).length<=80000)/\True;have a5:=a2=false->((a1.val).length<=1000000000/\6<=1000000000)/\True;have a6:=(Qgg (a1.val))=false->(decide (a1.kind=(3:Int)))=true->((a1.val).length<=1000000000)/\True;have a7:Out:=.val (.bool false);have a8:=a2||(Z9 (a1.val) [34,39,92,10,13,12]);have a9:=(Qgg (a1.val))||((decide (a1.kind=(3:Int)))&&(Qd8 (a1.val)));cond (decide (i<l.length)) ((i<l.length)/\cond (decide (a1.kind=(2:Int))) (((a1.key).length<=80000)/\cond (!(UE (a1.key))) (K a7 none) (a3/\(W20).L K 2 a0)) (cond (decide (a1.kind=(15:Int))) (((a1.val).length<=80000)/\cond (!(UE (a1.val))) (K a7 none) (a3/\(W20).L K 2 a0)) (cond (decide (a1.kind=(5:Int))) (a4/\a5/\cond a8 (K a7 none) (a3/\(W20).L K 2 a0)) (cond (decide (a1.kind=(16:Int))) (a4/\a5/\cond a8 (K a7 none) (a3/\(W20).L K 2 a0)) (cond (decide (a1.kind=(17:Int))) (a4/\a5/\cond a8 (K a7 none) (a3/\(W20).L K 2 a0)) (cond (decide (a1.kind=(3:Int))) (((a1.val).length<=1000000000)/\a6/\cond a9 (K a7 none) (a3/\(W20).L K 2 a0)) (cond (decide (a1.kind=(4:Int))) (((a1.val).length<=1000000000)/\a6/\cond a9 (K a7 none) (a3/\(W20).L K 2 a0)) (a3/\(W20).L K 2 a0)))))))) (K (.val (.bool true)) none)) ?_
   refine Qa ?_ ?_<;>intro h1<;>try simp[-za,-zb]at h1
   refine Qdk ?_
   refine Qa ?_ ?_<;>intro h2<;>try simp[-za,-zb]at h2
   refine Qdk ?_
   refine Qa ?_ ?_<;>intro h3<;>try simp[-za,-zb]at h3
   . refine Vd hk ?_
     refine Qck h1 ?_
     unfold ZW
     simp_all [QaL,-za]
     all_goals grind
   refine Qdk ?_
   exact Wk.L.rn [0] (ih _ (by omega) (i+1) rfl ⟨by omega,UB h1 k2 (by unfold ZW;simp_all [QaL,-za])⟩)
   refine Qa (fun h3=>?_) (fun h3=>?_)
   try simp[-za,-zb]at h3
   refine Qdk ?_
   refine Qa ?_ ?_<;>intro h4<;>try simp[-za,-zb]at h4
   . refine Vd hk ?_
     refine Qck h1 ?_
     unfold ZW
     simp_all [QaL,-za]
     all_goals grind
   refine Qdk ?_
   exact Wk.L.rn [0] (ih _ (by omega) (i+1) rfl ⟨by omega,UB h1 k2 (by unfold ZW;simp_all [QaL,-za])⟩)
   try simp[-za,-zb]at h3
   refine Qa ?_ ?_<;>intro h4<;>try simp[-za,-zb]at h4
   refine Qot (Qot ?_)
   refine Qa ?_ ?_<;>intro h5<;>try simp[-za,-zb]at h5
   . refine Vd hk ?_
     refine Qck h1 ?_
     unfold ZW
     simp_all [QaL,-za]
     all_goals grind
   refine Qdk ?_
   exact Wk.L.rn [0] (ih _ (by omega) (i+1) rfl ⟨by omega,UB h1 k2 (by unfold ZW;simp_all [QaL,-za])⟩)
   refine Qa (fun h5=>?_) (fun h5=>?_)
   try simp[-za,-zb]at h5
   refine Qot (Qot ?_)
   refine Qa ?_ ?_<;>intro h6<;>try simp[-za,-zb]at h6
   . refine Vd hk ?_
     refine Qck h1 ?_
     unfold ZW
     simp_all [QaL,-za]
     all_goals grind
   refine Qdk ?_
   exact Wk.L.rn [0] (ih _ (by omega) (i+1) rfl ⟨by omega,UB h1 k2 (by unfold ZW;simp_all [QaL,-za])⟩)
   try simp[-za,-zb]at h5
   refine Qa ?_ ?_<;>intro h6<;>try simp[-za,-zb]at h6
   refine Qot (Qot ?_)
   refine Qa ?_ ?_<;>intro h7<;>try simp[-za,-zb]at h7
   . refine Vd hk ?_
     refine Qck h1 ?_
     unfold ZW
     simp_all [QaL,-za]
     all_goals grind
   refine Qdk ?_
   exact Wk.L.rn [0] (ih _ (by omega) (i+1) rfl ⟨by omega,UB h1 k2 (by unfold ZW;simp_all [QaL,-za])⟩)
   refine Qa (fun h7=>?_) (fun h7=>?_)
   try simp[-za,-zb]at h7
   refine Qdk (ogz7 ?_)
   refine Qa ?_ ?_<;>intro h8<;>try simp[-za,-zb]at h8
   . refine Vd hk ?_
     refine Qck h1 ?_
     unfold ZW
     simp_all [QaL,-za]
     all_goals grind
   refine Qdk ?_
   exact Wk.L.rn [0] (ih _ (by omega) (i+1) rfl ⟨by omega,UB h1 k2 (by unfold ZW;simp_all [QaL,-za])⟩)
   try simp[-za,-zb]at h7
   refine Qa ?_ ?_<;>intro h8<;>try simp[-za,-zb]at h8
   refine Qdk (ogz7 ?_)
   refine Qa ?_ ?_<;>intro h9<;>try simp[-za,-zb]at h9
   . refine Vd hk ?_
     refine Qck h1 ?_
     unfold ZW
     simp_all [QaL,-za]
     all_goals grind
   refine Qdk ?_
   exact Wk.L.rn [0] (ih _ (by omega) (i+1) rfl ⟨by omega,UB h1 k2 (by unfold ZW;simp_all [QaL,-za])⟩)
   refine Qdk ?_
   exact Wk.L.rn [0] (ih _ (by omega) (i+1) rfl ⟨by omega,UB h1 k2 (by unfold ZW;simp_all [QaL,-za])⟩)
   refine Vd hk ?_
   rw[zS (by omega)]at k2
   exact k2
 refine W20.en ((W20).L K 2 (mkS 63 [(0,(.sl (.sels l))),(3,(.nat 0))] [] 1)) ?_
 exact L2 _ 0 rfl ⟨by omega,by simp⟩
 cases e
theorem Qkp:∀a b:Bs,ZD (a++b)=ZD a++ZD b
 | [],b=>rfl
 | c::a,b=>by rw[List.cons_append,ZD,ZD,Qkp a b,zq]
theorem QrS {s:Bs} {i:Nat} (h:i<s.length):ZD (s.take (i+1))=ZD (s.take i)++Qkq (s.getD i 0):=by
 rw[zN,ze h,Qkp]
 simp[ZD,za,ze h]
theorem Qt4:∀j:Fin 32,escL.getD j.val 0∉escL.take j.val:=by decide
theorem QlY {j:Nat} (h:j<32) {c:UInt8}:c∈escL.take (j+1) ↔ c∈escL.take j\/c=escL.getD j 0:=by
 rw[zN,ze (show j<escL.length from h),List.mem_append]
 simp[za,ze (show j<escL.length from h)]
def QaK (c:UInt8) (j:Nat):Bs:=if c∈escL.take j then [92] else []
theorem QrU {c:UInt8} {j:Nat} (h:j<32) (e:c=escL.getD j 0):QaK c j=[]/\QaK c (j+1)=[92]:=by
 unfold QaK
 rw[if_pos ((QlY h).2 (.inr e)),if_neg (by rw[e];exact Qt4 ⟨j,h⟩)]
 exact⟨rfl,rfl⟩
theorem QrV {c:UInt8} {j:Nat} (h:j<32) (e:¬c=escL.getD j 0):QaK c (j+1)=QaK c j:=by
 unfold QaK
 by_cases q:c∈escL.take j
 rw[if_pos q,if_pos ((QlY h).2 (.inl q))]
 rw[if_neg q,if_neg (fun r=>((QlY h).1 r).elim q e)]
theorem QrW (c:UInt8):QaK c 32++[c]=Qkq c:=by
 unfold QaK Qkq
 have:escL.take 32=escL:=rfl
 rw[this]
 split<;>rfl
def c204 (svs:List SV) (b:Option SB):QR:=match svs,b with
 | [.str s],none=>some ([s.length<=1000000],.str (ZD s))
 | _,_=>none
noncomputable def Jc:Wk:=⟨[],Qh Tryz.f204,false,false,[.tmp 2],[9],[(3,25),(6,114713)],[]⟩
theorem Qrv:Has 204:=hsf Tryz.f204
theorem UX {p q:Prop} (k:q) (h:p:=by first | omega | (simp;done) | (simp[escL];done) | (simp only[zf,zg,zl];omega)):p/\q:=⟨h,k⟩
theorem QpZ:Sat 204 (Ql c204):=by
 have hD:Qb Jc.D:=Qb.nil
 refine Jc.sa hD Tryz.f204 fun svs b K hP=>?_
 obtain⟨ps,v,e,hp,hk⟩:=Qd hP
 unfold c204 at e
 split at e
 rename_i s
 cases e
 obtain⟨h01,_⟩:=hp
 have LL:∀mm:Nat,(∀(i:Nat) (o:List UInt8),(s.length-i)*34+33=mm->(i<=s.length/\o=ZD (s.take i))->Jc.L K 3 (mkS 37 [(0,(.str s)),(3,(.own 1)),(4,(.nat i))] [(1,.row (.bytes o) true)] 2))/\(∀(i:Nat),(s.length-i)*34+33=mm->(i=0)->Jc.L K 3 (mkS 37 [(0,(.str s)),(3,.nilsl),(4,(.nat i))] [] 1))/\(∀(i j:Nat) (o:List UInt8),(s.length-i)*34+(32-j)=mm->(i<s.length/\j<=32/\o=ZD (s.take i)++QaK (s.getD i 0) j)->Jc.L K 6 (mkS 37 [(0,(.str s)),(3,(.own 1)),(4,(.nat i)),(14,(.own 2)),(15,(.nat 32)),(16,(.nat j))] [(1,.row (.bytes o) true),(2,.row (.bytes escL) false)] 3))/\(∀(i j:Nat),(s.length-i)*34+(32-j)=mm->(i=0/\i<s.length/\j<=32/\QaK (s.getD i 0) j=[])->Jc.L K 6 (mkS 37 [(0,(.str s)),(3,.nilsl),(4,(.nat i)),(14,(.own 1)),(15,(.nat 32)),(16,(.nat j))] [(1,.row (.bytes escL) false)] 2)):=by
  intro mm
  induction mm using zi with
  | _ mm ihh=>
   have i3b:∀(i:Nat) (o:List UInt8),(s.length-i)*34+33<mm->(i<=s.length/\o=ZD (s.take i))->Jc.L K 3 (mkS 37 [(0,(.str s)),(3,(.own 1)),(4,(.nat i))] [(1,.row (.bytes o) true)] 2):=fun i o h hI=>(ihh _ h).1 i o rfl hI
   have i3:∀(i:Nat),(s.length-i)*34+33<mm->(i=0)->Jc.L K 3 (mkS 37 [(0,(.str s)),(3,.nilsl),(4,(.nat i))] [] 1):=fun i h hI=>(ihh _ h).2.1 i rfl hI
   have i6b:∀(i j:Nat) (o:List UInt8),(s.length-i)*34+(32-j)<mm->(i<s.length/\j<=32/\o=ZD (s.take i)++QaK (s.getD i 0) j)->Jc.L K 6 (mkS 37 [(0,(.str s)),(3,(.own 1)),(4,(.nat i)),(14,(.own 2)),(15,(.nat 32)),(16,(.nat j))] [(1,.row (.bytes o) true),(2,.row (.bytes escL) false)] 3):=fun i j o h hI=>(ihh _ h).2.2.1 i j o rfl hI
   have i6:∀(i j:Nat),(s.length-i)*34+(32-j)<mm->(i=0/\i<s.length/\j<=32/\QaK (s.getD i 0) j=[])->Jc.L K 6 (mkS 37 [(0,(.str s)),(3,.nilsl),(4,(.nat i)),(14,(.own 1)),(15,(.nat 32)),(16,(.nat j))] [(1,.row (.bytes escL) false)] 2):=fun i j h hI=>(ihh _ h).2.2.2 i j rfl hI
   refine⟨?_,?_,?_,?_⟩
   intro i o hm hI
   obtain⟨k1,k2⟩:=hI
   have k3:=JA (s.take i)
   rw[<-k2,zF]at k3
   refine Jc.aL hD (cond (decide (i<s.length)) ((0<32)/\(Jc).L K 6 (mkS 37 [(0,(.str s)),(3,(.own 1)),(4,(.nat i)),(14,(.own 2)),(15,(.nat 32)),(16,(.nat 0))] [(2,.row (.bytes [44,33,34,35,36,37,38,39,40,41,42,43,32,45,46,47,58,59,60,61,62,63,64,91,92,93,94,96,123,124,125,126]) false),(1,.row (.bytes o) true)] 3)) (K (.val (.str o)) none)) ?_
   refine Qa ?_ ?_<;>intro h1<;>try simp[-za,-zb]at h1
   refine UX ?_
   exact Wk.L.rn [0,1,2] (i6b i 0 o (by omega) ⟨h1,by omega,by rw[k2];simp[QaK]⟩)
   refine Vv hk ?_
   rw[k2,zS (by omega)]
   intro i hm hI
   refine Jc.aL hD (cond (decide (i<s.length)) ((0<32)/\(Jc).L K 6 (mkS 37 [(0,(.str s)),(3,.nilsl),(4,(.nat i)),(14,(.own 1)),(15,(.nat 32)),(16,(.nat 0))] [(1,.row (.bytes [44,33,34,35,36,37,38,39,40,41,42,43,32,45,46,47,58,59,60,61,62,63,64,91,92,93,94,96,123,124,125,126]) false)] 2)) (K (.val (.str [])) none)) ?_
   refine Qa ?_ ?_<;>intro h1<;>try simp[-za,-zb]at h1
   refine UX ?_
   exact i6 i 0 (by omega) ⟨hI,h1,by omega,by simp[QaK]⟩
   refine Vv hk ?_
   rw[show s=[] from xh.1 (by omega)]
   rfl
   intro i j o hm hI
   obtain⟨k1,k2,k4⟩:=hI
   have k3:=JA (s.take i)
   have k5:o.length<=2*s.length+1:=by { rw[k4,zf];rw[zF]at k3;have:(QaK (s.getD i 0) j).length<=1:=by { unfold QaK;split<;>simp };omega }
   have kL:escL.length=32:=rfl
   refine Jc.aL hD (cond (decide (j<32)) ((j<escL.length)/\(j<escL.length)/\(i<s.length)/\cond (decide (bat s i=bat escL j)) ((o.length+1<=1099511627776)/\(j+1<=9223372036854775807)/\(Jc).L K 6 (mkS 37 [(0,(.str s)),(3,(.own 4)),(4,(.nat i)),(14,(.own 2)),(15,(.nat 32)),(16,(.nat (j+1)))] [(4,.row (.bytes (o++[92])) true),(2,.row (.bytes escL) false)] 5)) ((j+1<=9223372036854775807)/\(Jc).L K 6 (mkS 37 [(0,(.str s)),(3,(.own 1)),(4,(.nat i)),(14,(.own 2)),(15,(.nat 32)),(16,(.nat (j+1)))] [(1,.row (.bytes o) true),(2,.row (.bytes escL) false)] 3))) ((i<s.length)/\(o.length+1<=1099511627776)/\(i+1<=9223372036854775807)/\(Jc).L K 3 (mkS 37 [(0,(.str s)),(3,(.own 4)),(4,(.nat (i+1)))] [(4,.row (.bytes (o++[s.getD i 0])) true),(2,.row (.bytes escL) false)] 5))) ?_
   refine Qa ?_ ?_<;>intro h1<;>try simp[-za,-zb]at h1
   refine UX (UX (UX ?_))
   refine Qa ?_ ?_<;>intro h2<;>try simp[-za,-zb]at h2
   refine UX (UX ?_)
   have q:=QrU h1 (Ql5 h2)
   exact Wk.L.rn [0,4,2] (i6b i (j+1) (o++[92]) (by omega) ⟨k1,by omega,by rw[k4,q.1,q.2,zD]⟩)
   refine UX ?_
   exact i6b i (j+1) o (by omega) ⟨k1,by omega,by rw[k4,QrV h1 (fun q=>h2 (by show (s.getD i 0).toNat=(escL.getD j 0).toNat;rw[q]))]⟩
   refine UX (UX (UX ?_))
   have ej:j=32:=by omega
   exact Wk.L.rn [0,4] (i3b (i+1) (o++[s.getD i 0]) (by omega) ⟨by omega,by rw[k4,ej,zq,QrW,QrS k1]⟩)
   intro i j hm hI
   obtain⟨k0,k1,k2,k4⟩:=hI
   have kL:escL.length=32:=rfl
   refine Jc.aL hD (cond (decide (j<32)) ((j<escL.length)/\(j<escL.length)/\(i<s.length)/\cond (decide (bat s i=bat escL j)) ((0+1<=1099511627776)/\(j+1<=9223372036854775807)/\(Jc).L K 6 (mkS 37 [(0,(.str s)),(3,(.own 3)),(4,(.nat i)),(14,(.own 1)),(15,(.nat 32)),(16,(.nat (j+1)))] [(3,.row (.bytes ([]++[92])) true),(1,.row (.bytes escL) false)] 4)) ((j+1<=9223372036854775807)/\(Jc).L K 6 (mkS 37 [(0,(.str s)),(3,.nilsl),(4,(.nat i)),(14,(.own 1)),(15,(.nat 32)),(16,(.nat (j+1)))] [(1,.row (.bytes escL) false)] 2))) ((i<s.length)/\(0+1<=1099511627776)/\(i+1<=9223372036854775807)/\(Jc).L K 3 (mkS 37 [(0,(.str s)),(3,(.own 3)),(4,(.nat (i+1)))] [(3,.row (.bytes ([]++[s.getD i 0])) true),(1,.row (.bytes escL) false)] 4))) ?_
   refine Qa ?_ ?_<;>intro h1<;>try simp[-za,-zb]at h1
   refine UX (UX (UX ?_))
   refine Qa ?_ ?_<;>intro h2<;>try simp[-za,-zb]at h2
   refine UX (UX ?_)
   have q:=QrU h1 (Ql5 h2)
   exact Wk.L.rn [0,3,1] (i6b i (j+1) ([]++[92]) (by omega) ⟨k1,by omega,by rw[q.2,k0];rfl⟩)
   refine UX ?_
   exact i6 i (j+1) (by omega) ⟨k0,k1,by omega,by rw[QrV h1 (fun q=>h2 (by show (s.getD i 0).toNat=(escL.getD j 0).toNat;rw[q]))];exact k4⟩
   refine UX (UX (UX ?_))
   have ej:j=32:=by omega
   exact Wk.L.rn [0,3] (i3b (i+1) ([]++[s.getD i 0]) (by omega) ⟨by omega,by have e:=QrW (s.getD i 0);rw[<-ej,k4]at e;rw[QrS k1,<-e,k0];rfl⟩)
 have L3b:∀(mm:Nat) (i:Nat) (o:List UInt8),(s.length-i)*34+33=mm->(i<=s.length/\o=ZD (s.take i))->Jc.L K 3 (mkS 37 [(0,(.str s)),(3,(.own 1)),(4,(.nat i))] [(1,.row (.bytes o) true)] 2):=fun mm i o h hI=>(LL mm).1 i o h hI
 have L3:∀(mm:Nat) (i:Nat),(s.length-i)*34+33=mm->(i=0)->Jc.L K 3 (mkS 37 [(0,(.str s)),(3,.nilsl),(4,(.nat i))] [] 1):=fun mm i h hI=>(LL mm).2.1 i h hI
 have L6b:∀(mm:Nat) (i j:Nat) (o:List UInt8),(s.length-i)*34+(32-j)=mm->(i<s.length/\j<=32/\o=ZD (s.take i)++QaK (s.getD i 0) j)->Jc.L K 6 (mkS 37 [(0,(.str s)),(3,(.own 1)),(4,(.nat i)),(14,(.own 2)),(15,(.nat 32)),(16,(.nat j))] [(1,.row (.bytes o) true),(2,.row (.bytes escL) false)] 3):=fun mm i j o h hI=>(LL mm).2.2.1 i j o h hI
 have L6:∀(mm:Nat) (i j:Nat),(s.length-i)*34+(32-j)=mm->(i=0/\i<s.length/\j<=32/\QaK (s.getD i 0) j=[])->Jc.L K 6 (mkS 37 [(0,(.str s)),(3,.nilsl),(4,(.nat i)),(14,(.own 1)),(15,(.nat 32)),(16,(.nat j))] [(1,.row (.bytes escL) false)] 2):=fun mm i j h hI=>(LL mm).2.2.2 i j h hI
 refine Jc.en ((Jc).L K 3 (mkS 37 [(0,(.str s)),(3,.nilsl),(4,(.nat 0))] [] 1)) ?_
 exact L3 _ 0 rfl rfl
 cases e
end
section
open Go Go.RowKit Go.Shelf
set_option maxRecDepth 20000
theorem Qtu:Go.Proofs.LaysM.n171 zd lays172_ren:={ Qia with }
def lays156_ren:Go.Shelf.Ren:=⟨fun | 156=>63 | 105=>143 | 212=>149 | 99=>113 | 165=>90 | 166=>91 | 170=>150 | 169=>92 | 263=>154 | 264=>155 | 206=>128 | 240=>105 | 241=>106 | 276=>120 | 277=>121 | n=>n,fun | 31=>83 | 9=>9 | 3=>3 | 4=>4 | 20=>20 | 0=>0 | 46=>88 | 109=>179 | 5=>5 | 72=>139 | 76=>141 | 51=>185 | 146=>186 | 53=>182 | 148=>188 | 70=>137 | 37=>37 | 75=>71 | 127=>149 | 164=>161 | 80=>63 | n=>n,fun | n=>n⟩
theorem Qm3:Go.Proofs.Lays.n156 zd lays156_ren:={
 mixed:=by kernel_rfl,
 f165:=Tryz.func90.trans (congrArg some (by kernel_rfl)),
 f166:=Tryz.func91.trans (congrArg some (by kernel_rfl)),
 f169:=Tryz.func92.trans (congrArg some (by kernel_rfl)),
 f240:=Tryz.func105.trans (congrArg some (by kernel_rfl)),
 f241:=Tryz.func106.trans (congrArg some (by kernel_rfl)),
 f276:=Tryz.func120.trans (congrArg some (by kernel_rfl)),
 f277:=Tryz.func121.trans (congrArg some (by kernel_rfl)),
 t0:=Tryz.underlying0,
 a0:=Tryz.isAgg0,
 z0:=Tryz.sizeOf0,
 v0:=Tryz.zeroValue0,
 t3:=Tryz.underlying3,
 a3:=Tryz.isAgg3,
 z3:=Tryz.sizeOf3,
 v3:=Tryz.zeroValue3,
 t4:=Tryz.underlying4,
 a4:=Tryz.isAgg4,
 z4:=Tryz.sizeOf4,
 v4:=Tryz.zeroValue4,
 t9:=Tryz.underlying9,
 a9:=Tryz.isAgg9,
 z9:=Tryz.sizeOf9,
 v9:=Tryz.zeroValue9,
 t20:=Tryz.underlying20,
 a20:=Tryz.isAgg20,
 z20:=Tryz.sizeOf20,
 v20:=Tryz.zeroValue20,
 t37:=Tryz.underlying37,
 a37:=Tryz.isAgg37,
 z37:=Tryz.sizeOf37,
 v37:=Tryz.zeroValue37,
 t70:=Tryz.underlying137,
 a70:=Tryz.isAgg137,
 z70:=Tryz.sizeOf137,
 v70:=Tryz.zeroValue137,
 t72:=Tryz.underlying139,
 a72:=Tryz.isAgg139,
 z72:=Tryz.sizeOf139,
 v72:=Tryz.zeroValue139,
 t75:=Tryz.underlying71,
 a75:=Tryz.isAgg71,
 z75:=Tryz.sizeOf71,
 v75:=Tryz.zeroValue71,
 t76:=Tryz.underlying141,
 a76:=Tryz.isAgg141,
 z76:=Tryz.sizeOf141,
 v76:=Tryz.zeroValue141,
 t127:=Tryz.underlying149,
 a127:=Tryz.isAgg149,
 z127:=Tryz.sizeOf149,
 v127:=Tryz.zeroValue149,
 t164:=Tryz.underlying161,
 a164:=Tryz.isAgg161,
 z164:=Tryz.sizeOf161,
 v164:=Tryz.zeroValue161,
 f156:=Tryz.func63.trans (congrArg some (by kernel_rfl)),
 t31:=Tryz.underlying83,
 a31:=Tryz.isAgg83,
 z31:=Tryz.sizeOf83,
 v31:=Tryz.zeroValue83 }
theorem Qko:Builder.Extra zd lays156_ren:={
 sizeBuilder:=by kernel_rfl,
 liesBuilder:=by kernel_rfl,
 t5:=JS.t5,
 a5:=JS.a5,
 z5:=JS.z5,
 v5:=JS.v5,
 infoByte:=by kernel_rfl,
 cellsByte:=by kernel_rfl,
 sizeByte:=by kernel_rfl,
 neB5:=by decide }
theorem Sat.libT {f:FuncId} {P:Spec} (h:∀(w:World) (ω:Wit) (svs:List SV) (args:Array Value) (b:Option SB) (K:Out->Option SB->Prop),
 (∀ c v T, ω.Γ c = some (v, T) -> ∃ fr, w.heap[c]? = some (.cells v T fr)) -> Lib.TabIs zd w "internal/strconv.uint64pow10" .u64 Lib.pow10Tab ->
 args.size=svs.length->(∀(i:Nat) (s:SV) (v:Value),svs[i]? = some s->args[i]? = some v->Rel ω s v)->P svs b K ->
 b=none/\Calls zd f args w fun e w'=>∃v s,e=.returned v/\K (.val s) none/\s.lt 0=true/\Rel ω s v/\Below w.heap.size w w'):Sat f P:=by
 intro g0 w M ω svs args b K hS hn hr hP
 have ht : Lib.TabIs zd w "internal/strconv.uint64pow10" .u64 Lib.pow10Tab := by
  obtain⟨T,hG⟩:=g0.tab
  obtain⟨fr,hh⟩:=hS.gam 6 _ _ (hS.gl _ _ hG)
  unfold Lib.TabIs World.var?
  rw [show zd.globalNamed "internal/strconv.uint64pow10" = some 6 by kernel_rfl]
  simp only[zU,hh]
  unfold Lib.pow10Tab
  rw[List.map_map]
  rfl
 obtain⟨rfl,hc⟩:=h w ω svs args b K (fun c v T e=>hS.gam c v T e) ht hn hr hP
 refine hc.mono ?_
 rintro e w' ⟨v,s,he,hk,hl,hv,hb⟩
 refine⟨v,.val s,none,he,hk,ω,loc none,?_,(fun c e=>by cases e),hl,hv⟩
 have:=hS.grow (Wit.le.refl ω) hb.os hb.tape hb.output hb.size hb.block (fun b c T e=>.inl e)
 rw[hS.wn]at this
 exact this
def c167 (svs:List SV) (b:Option SB):QR:=match svs,b with
 | [.int .i64 n],none=>some ([-9223372036854775808<=n/\n<=9223372036854775807],.str (itoa n))
 | _,_=>none
theorem QxI:Has 167:=hsf Tryz.f167
theorem Qv0:Sat 167 (Ql c167):=by
 refine Sat.libT fun w ω svs args b K hg ht hn hr hP=>?_
 obtain⟨ps,v,e,hp,hk⟩:=Qd hP
 unfold c167 at e
 split at e
 rename_i n
 cases e
 refine⟨rfl,?_⟩
 obtain⟨xs⟩:=args
 match xs,hn with
 | [x],_=>
  have hx:=(hr 0 _ x rfl rfl).int_inv
  subst hx
  refine (Any.strconv_Itoa Qtu n hp.1.1 hp.1.2 w ht).mono ?_
  rintro e w' ⟨he,k,os,rfl⟩
  rw[Qq5]at he
  exact⟨_,_,he,hk,rfl,.str _,Lib.below_grow _ w (zj _) k os⟩
 cases e
def c63 (svs:List SV) (b:Option SB):QR:=match svs,b with
 | [.sl (.strs xs),.str sep],none=>some ([xs.length<=1000000000/\(Lib.join xs sep).length<=1000000000],.str (Lib.join xs sep))
 | _,_=>none
theorem Qu7:Has 63:=hsf Tryz.f63
theorem QuE:Sat 63 (Ql c63):=by
 refine Sat.libT fun w ω svs args b K hg ht hn hr hP=>?_
 obtain⟨ps,v,e,hp,hk⟩:=Qd hP
 unfold c63 at e
 split at e
 rename_i xs sep
 cases e
 refine⟨rfl,?_⟩
 obtain⟨aa⟩:=args
 match aa,hn with
 | [x,y],_=>
  have hx:=hr 0 _ x rfl rfl
  have hy:=(hr 1 _ y rfl rfl).str_inv
  subst hy
  obtain⟨hp1,hp2⟩:=hp.1
  cases hx with
  | slz _ a c h0=>
   have h0':xs=[]:=xh.1 h0
   subst h0'
   refine (Any.strings_Join_none Qm3 Qko a c ⟨sep.toArray⟩ w).mono ?_
   rintro e w' ⟨he,rfl⟩
   exact⟨_,_,he,hk,rfl,.str _,Below.refl _ _⟩
  | sl _ b o c vs T hΓ hn hc h=>
   obtain⟨fr,hh⟩:=hg _ _ _ hΓ
   have hcell:∀(j:Nat) (x:ByteArray),(xs.map fun l=>(⟨l.toArray⟩:ByteArray))[j]? = some x->w.cell? ⟨b,o+j,Option.none⟩=some (.string x):=by
    intro j x e
    rw[zB]at e
    obtain⟨l,e1,rfl⟩:=zk.1 e
    have hj:j<xs.length:=(zx.1 e1).1
    have hsz:o+j<vs.size:=by
     have:o+xs.length*1<=vs.size:=hn
     omega
    have q:=h j 0 (.str (xs.getD j [])) vs[o+j] hj rfl (by show vs[o+(j*1+0)]? = _;rw[show o+(j*1+0)=o+j by omega,zr hsz])
    have e2:=q.str_inv
    rw[za,e1]at e2
    rw[Jr hh,zr hsz,e2]
    rfl
   have hm:(xs.map fun l=>(⟨l.toArray⟩:ByteArray)).map (·.data.toList)=xs:=by
    rw[List.map_map]
    conv=>rhs;rw[<-List.map_id xs]
    rfl
   have hb:b<w.heap.size:=(zy.1 hh).1
   have hA:=Any.strings_Join Qm3 Qko b o c (xs.map fun l=>(⟨l.toArray⟩:ByteArray)) ⟨sep.toArray⟩ w hcell hb (by rw[List.length_map];omega) (by rw[List.length_map];exact hc) (by rw[hm];show (Lib.join xs sep).length<=_;omega)
   rw[hm,List.length_map]at hA
   refine hA.mono ?_
   rintro e w' ⟨he,hw⟩
   exact⟨_,_,he,hk,rfl,.str _,hw⟩
 cases e
end
end Go.Proofs.YtengepcafdnalaaGreatDoor
