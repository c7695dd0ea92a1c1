/-
  Parts of the proof that the law FnPrintGrammar holds for every input (texts Wc, Wd, We). Conditions: none.
-/
import Derived.Test.YtengepcafdnalaaGreatDoorM31
namespace Go.Proofs.YtengepcafdnalaaGreatDoor
open _root_.Bool renaming and_eq_true → zh, or_eq_false_iff → zz, and_eq_false_imp → zV, or_eq_true → zu, not_eq_true' → zO
open _root_.List renaming mem_cons → zp, mem_singleton → zP, foldl_cons → z8, append_nil → zD, exists_cons_of_ne_nil → zJ, getElem_of_mem → xl, getD_eq_getElem?_getD → za, getElem?_eq_getElem → ze
open _root_.Nat renaming strongRecOn → zi, le_refl → zj
open _root_.Option renaming bind_some → zU
open _root_.UInt8 renaming ofNat → zE
section
def Qcb:Bs:=[48,49,50,51,52,53,54,55,56,57,97,98,99,100,101,102]
def Qge (c:Nat) (o:Bs):Bs:=if 0<c then Qge (c/16) ((Qcb.take (c%16+1)).drop (c%16)++o) else o
 termination_by c
 decreasing_by omega
def JL (c:Nat):Bs:=92::(Qge c []++[32])
def nmP (h i:Nat) (c:UInt8):Bs:=
 if c.toNat<32\/c.toNat=127\/(Qv c.toNat=true/\(i=0\/(i=1/\h=45)))\/(c.toNat=45/\i=1/\h=45) then JL c.toNat
 else if Qq c.toNat=true then [c] else [92,c]
def nmF (h:Nat):Nat->Bs->Bs
 | _,[]=>[]
 | i,c::u=>nmP h i c++nmF h (i+1) u
def Q2 (s:Bs):Bs:=if s=[45] then [92,45] else nmF (bat s 0) 0 s
def qP (c:UInt8):Bs:=if c.toNat<32\/c.toNat=127 then JL c.toNat else if c.toNat=34\/c.toNat=92 then [92,c] else [c]
def qF:Bs->Bs
 | []=>[]
 | c::u=>qP c++qF u
def Ye (s:Bs):Bs:=34::(qF s++[34])
def Yu (n:Nat):Bs:=if n<10 then (([48,49,50,51,52,53,54,55,56,57]:List UInt8).take (n+1)).drop n else Yu (n/10)++Yu (n%10)
 termination_by n
 decreasing_by all_goals omega
def Zm (n:Int):Bs:=if n<0 then 45::Yu (-n).toNat else 43::Yu n.toNat
def YH (a b:Int):Bs:=(if a<0 then 45::Yu (-a).toNat else Yu a.toNat)++(110::Zm b)
def YQ:List Bs:=[[],[],[61],[33,61],[126,61],[124,61],[94,61],[36,61],[42,61]]
def YT:List Bs:=[[99,104,105,108,100],[108,97,115,116,45,99,104,105,108,100],[111,102,45,116,121,112,101],[108,97,115,116,45,111,102,45,116,121,112,101]]
def Yp:List Bs:=[[99,104,105,108,100],[],[111,102,45,116,121,112,101]]
def Qp:List Bs:=[[101,109,112,116,121],[114,111,111,116],[105,110,112,117,116],[108,105,110,107],[101,110,97,98,108,101,100],[100,105,115,97,98,108,101,100],[99,104,101,99,107,101,100]]
def V3:List Bs:=[Zy,Zz,nHasChild]
def Qc4:List Bs:=[[],[32],[32,62,32],[32,43,32],[32,126,32]]
def Qw (x:SelD):Bs:=
 if x.kind=1 then [42]
 else if x.kind=2 then Q2 x.key
 else if x.kind=3 then 46::Q2 x.val
 else if x.kind=4 then 35::Q2 x.val
 else if x.kind=5 then
  (if x.op=1 then 91::(Q2 x.key++[93])
  else 91::(Q2 x.key++(YQ.getD x.op.toNat []++(Ye x.val++([[],[32,105]].getD x.flag.toNat []++[93])))))
 else if x.kind=6 then [58,110,116,104,45]++(YT.getD x.flag.toNat []++(40::(YH x.a x.b++[41])))
 else if x.kind=7 then [58,111,110,108,121,45]++Yp.getD x.flag.toNat []
 else if x.kind=15 then [58,108,97,110,103,40]++(Q2 x.val++[41])
 else if x.kind=16 then [58,99,111,110,116,97,105,110,115,40]++(Ye x.val++[41])
 else if x.kind=17 then [58,99,111,110,116,97,105,110,115,79,119,110,40]++(Ye x.val++[41])
 else 58::Qp.getD (x.kind-8).toNat []
def Je:List Bs->Bs
 | []=>[]
 | t::l=>t++l.flatMap fun u=>[44,32]++u
def VA (p:Bs×Bs) (t:Int×Bs):Bs×Bs:=if t.1=2 then (t.2,p.2) else if t.1=1 then ((if p.1=[] then [42] else p.1),p.2) else (p.1,p.2++t.2)
def Ue (val:Bs) (p:Bs×Bs):Bs:=if p.1++(if val=[] then p.2 else p.2++([58,58]++Q2 val))=[] then [42] else p.1++(if val=[] then p.2 else p.2++([58,58]++Q2 val))
def QdM (val:Bs) (ts:List (Int×Bs)):Bs:=Ue val (ts.foldl VA ([],[]))
def YR (x:SelD) (ts:List (Int×Bs)):Bs:=
 if x.kind=23 then Je (ts.map Prod.snd)
 else if x.kind=22 then (ts.getD 0 (0,[])).2++Qc4.getD x.op.toNat []++(ts.getD 1 (0,[])).2
 else if x.kind=21 then QdM x.val ts
 else if x.kind=18\/x.kind=19\/x.kind=20 then 58::(V3.getD (x.kind-18).toNat []++(40::((ts.getD 0 (0,[])).2++[41])))
 else Qw x
mutual
def wr:ST->Bs
 | .mk x ks=>YR x (wrs ks)
def wrs:List ST->List (Int×Bs)
 | []=>[]
 | t::l=>(t.node.kind,wr t)::wrs l
end
def QbQ (l:List UInt8):Bool:=decide (l=[98,101,102,111,114,101])||decide (l=[97,102,116,101,114])||decide (l=[102,105,114,115,116,45,108,105,110,101])||decide (l=[102,105,114,115,116,45,108,101,116,116,101,114])
def Qy (n:Int):Bool:=decide (1<=n)&&decide (n<=20)
def Q0 (n:Int):Bool:=Qy n||decide (n=21)||decide (n=22)
def YK (x:SelD):Bool:=decide (x.kind=21) && !decide (x.val=[])
def UJ (x:SelD):Bool:=
 let key:=decide (x.kind=2)||decide (x.kind=5)
 let name:=decide (x.kind=3)||decide (x.kind=4)||decide (x.kind=15)
 let val:=name||(decide (x.kind=5) && !decide (x.op=1))||decide (x.kind=16)||decide (x.kind=17)
 VV x.key 0&&VV x.val 0&&decide (low x.key=x.key)
 && !(key==decide (x.key=[])) && !(name&&decide (x.val=[])) && !(!val && !decide (x.val=[])&&(!decide (x.kind=21) || !QbQ x.val))
 && !(!decide (x.kind=6)&&(!decide (x.a=0) || !decide (x.b=0)))&&decide (x.a<=9999)&&decide (-9999<=x.a)&&decide (x.b<=9999)&&decide (-9999<=x.b)
 && (if x.kind=5 then decide (1<=x.op)&&decide (x.op<=8)&&decide (0<=x.flag)&&decide (x.flag<=1)&&(!decide (x.op=1)||decide (x.flag=0))
  else if x.kind=22 then decide (1<=x.op)&&decide (x.op<=4)&&decide (x.flag=0)
  else if x.kind=6 then decide (x.op=0)&&decide (0<=x.flag)&&decide (x.flag<=3)
  else if x.kind=7 then decide (x.op=0)&&(decide (x.flag=0)||decide (x.flag=2))
  else decide (x.op=0)&&decide (x.flag=0))
def QaH (x:SelD) (ks:List ST):Prop:=
 if x.kind=23 then (∀k∈ks,Q0 k.node.kind=true)/\ks≠[]
 else if x.kind=18\/x.kind=19\/x.kind=20 then (∃g,ks=[g]/\g.node.kind=23)/\(ST.flats ks).any YK=false
 else if x.kind=21 then (∀k∈ks,Qy k.node.kind=true)/\(∀k∈ks.tail,k.node.kind≠2)
 else if x.kind=22 then ∃a b,ks=[a,b]/\Q0 a.node.kind=true/\Q0 b.node.kind=true/\b.node.kind≠22/\a.flat.any YK=false
 else Qy x.kind=true/\ks=[]
mutual
def Y3:ST->Prop
 | .mk x ks=>UJ x=true/\x.size=0/\QaH x ks/\JV ks
def JV:List ST->Prop
 | []=>True
 | t::l=>Y3 t/\JV l
end
theorem JV.mem:∀{l:List ST},JV l->∀t∈l,Y3 t
 | [],_,t,h=>by cases h
 | t::l,⟨h1,h2⟩,u,hu=>by
  rcases zp.1 hu with e | e
  subst e;exact h1
  exact JV.mem h2 u e
def Qhk (op:Int):UInt8:=([0,32,62,43,126]:List UInt8).getD op.toNat 0
def QO (x:SelD):CSel:=
 if x.kind=1 then .compound [] []
 else if x.kind=2 then .tag x.key
 else if x.kind=3 then .cls x.val
 else if x.kind=4 then .idn x.val
 else if x.kind=5 then .attr x.key x.val (YQ.getD x.op.toNat []) (decide (x.flag=1))
 else if x.kind=6 then .nth x.a x.b (decide (x.flag=1\/x.flag=3)) (decide (x.flag=2\/x.flag=3))
 else if x.kind=7 then .only (decide (x.flag=2))
 else if x.kind=8 then .empty
 else if x.kind=9 then .root
 else if x.kind=10 then .input
 else if x.kind=11 then .link
 else if x.kind=12 then .enabled
 else if x.kind=13 then .disabled
 else if x.kind=14 then .checked
 else if x.kind=15 then .lang x.val
 else if x.kind=16 then .contains x.val false
 else .contains x.val true
def ZB:CSel->Bool
 | .compound [] []=>true
 | _=>false
def Y5 (x:SelD) (l:List CSel):List CSel:=
 if x.kind=23 then l
 else if x.kind=22 then [.combined (l.getD 0 default) (Qhk x.op) (l.getD 1 default)]
 else if x.kind=21 then [VD (l.filter fun y => !ZB y) x.val]
 else if x.kind=18\/x.kind=19\/x.kind=20 then [.rel (V3.getD (x.kind-18).toNat []) l]
 else [QO x]
mutual
def cs:ST->List CSel
 | .mk x ks=>Y5 x (css ks)
def css:List ST->List CSel
 | []=>[]
 | t::l=>cs t++css l
end
def c1 (T:ST):CSel:=(cs T).headD default
theorem Yv {T:ST} (h:T.node.kind≠23):cs T=[c1 T]:=by
 obtain⟨x,ks⟩:=T
 have h':x.kind≠23:=h
 unfold c1
 rw[cs]
 unfold Y5
 rw[if_neg h']
 repeat' split
 all_goals rfl
theorem QnC:∀{ks:List ST},(∀k∈ks,k.node.kind≠23)->css ks=ks.map c1
 | [],_=>by simp[css]
 | t::l,h=>by
  rw[css,Yv (h t (by simp)),QnC (fun k hk=>h k (by simp[hk]))]
  rfl
end
section
namespace Way
set_option maxRecDepth 20000
theorem dig16:∀m:Fin 16,(Qcb.take (m.val+1)).drop m.val=[Qcb.getD m.val 0]/\QK (Qcb.getD m.val 0).toNat=true/\YP (Qcb.getD m.val 0).toNat=m.val:=by decide
theorem QoR:∀(c k:Nat) (o:Bs),c<16^k->∃ds:Bs,Qge c o=ds++o/\(∀d∈ds,QK d.toNat=true)/\VN ds=c/\(c≠0->ds≠[])/\ds.length<=k:=by
 intro c
 induction c using zi with
 | _ c ih=>
  intro k o hk
  by_cases h0:0<c
  obtain⟨d1,d2,d3⟩:=dig16 ⟨c%16,Nat.mod_lt _ (by decide)⟩
  simp only at d1 d2 d3
  obtain⟨k',rfl⟩:∃k',k=k'+1:=⟨k-1,by
   rcases k with _ | k
   simp at hk;omega
   rfl⟩
  obtain⟨ds,e1,e2,e3,e4,e5⟩:=ih (c/16) (by omega) k' ((Qcb.take (c%16+1)).drop (c%16)++o) (by rw[Nat.pow_succ]at hk;omega)
  refine⟨ds++[Qcb.getD (c%16) 0],?_,?_,?_,by simp,by simpa using e5⟩
  rw[Qge,if_pos h0,e1,d1];simp
  intro d hd
  rcases List.mem_append.1 hd with hd | hd
  exact e2 d hd
  rw[zP.1 hd];exact d2
  unfold VN at e3 ⊢
  rw[List.foldl_append,e3]
  simp only[z8,List.foldl_nil,d3]
  omega
  refine⟨[],?_,by simp,?_,by omega,by simp⟩
  rw[Qge,if_neg h0];rfl
  simp[VN];omega
theorem utf8_ne (n:Int):Y6 n≠[]:=by
 unfold Y6 Utf8.encode
 generalize (if Utf8.valid n=true then n.toNat else Utf8.runeError)=c
 by_cases h1:c<128
 simp[h1]
 by_cases h2:c<2048
 simp[h1,h2]
 by_cases h3:c<65536
 simp[h1,h2,h3]
 simp[h1,h2,h3]
theorem Qpu {c:Nat} (h:c<128):Y6 (c:Int)=[zE c]:=by
 have hv:Utf8.valid (c:Int)=true:=by unfold Utf8.valid;simp;omega
 unfold Y6 Utf8.encode
 simp only[hv,if_true,Int.toNat_natCast]
 rw[if_pos (by omega)]
theorem QrT {c:Nat} (h0:c≠0) (h1:c<16777216):Es (Y6 (c:Int)) (JL c):=by
 obtain⟨ds,e1,e2,e3,e4,e5⟩:=QoR c 6 [] (by simpa using h1)
 unfold JL
 rw[e1,zD]
 have:=Es.hex ds (e4 h0) e5 e2 (utf8_ne _)
 rwa [e3]at this
theorem Qnt {c:UInt8} (h0:c.toNat≠0) (h1:c.toNat<128):Es [c] (JL c.toNat):=by
 have:=QrT h0 (by omega)
 rwa [Qpu h1,UInt8.ofNat_toNat]at this
theorem nonl {c:Nat} (h:¬c<32):YL c=false:=by simp[YL];omega
theorem QqI {h i:Nat} {c:UInt8} (h0:c.toNat≠0):(∃k,nmP h i c=[c]/\Qq c.toNat=k/\k=true)\/Es [c] (nmP h i c):=by
 unfold nmP
 by_cases h1:c.toNat<32\/c.toNat=127\/(Qv c.toNat=true/\(i=0\/(i=1/\h=45)))\/(c.toNat=45/\i=1/\h=45)
 rw[if_pos h1]
 refine .inr (Qnt h0 ?_)
 simp only[Qv,zh,decide_eq_true_eq]at h1
 omega
 rw[if_neg h1]
 by_cases h2:Qq c.toNat=true
 rw[if_pos h2];exact .inl ⟨true,rfl,h2,rfl⟩
 rw[if_neg h2]
 refine .inr (.lit c ?_ (nonl fun q=>h1 (.inl q)))
 simp only[Qq,QI,QK,Bool.not_eq_true,zz,zV,decide_eq_true_eq,decide_eq_false_iff_not]at h2 ⊢
 omega
theorem Qh0 {h:Nat}:∀(i:Nat) (u:Bs),(∀c∈u,c.toNat≠0)->NmW u (nmF h i u)
 | _,[],_=>.nil
 | i,c::u,hz=>by
  have ih:=Qh0 (h:=h) (i+1) u (fun c hc=>hz c (by simp[hc]))
  rw[nmF]
  rcases QqI (h:=h) (i:=i) (hz c (by simp)) with ⟨k,e,h1,h2⟩ | he
  rw[e];exact .raw (h1.trans h2) ih
  exact .esc he ih
theorem QqL {s:Bs} (hz:∀c∈s,c.toNat≠0):NmW s (Q2 s):=by
 unfold Q2
 split
 rename_i h;subst h
 exact .esc (.lit 45 (by decide) (by decide)) .nil
 exact Qh0 0 s hz
theorem es_hd {v t:Bs} (h:Es v t):hd t=92:=by
 obtain⟨_,c,u,rfl,_⟩:=h.shape;rfl
theorem QpH {c:UInt8} (h1:Qq c.toNat=true) (h2:Qv c.toNat=false) (h3:c.toNat≠45):QI c.toNat=true:=by
 simp only[Qq,Qv,zu,zh,zV,decide_eq_true_eq,decide_eq_false_iff_not]at h1 h2
 rcases h1 with (h1 | h1) | h1
 exact h1
 exact absurd h1 h3
 exact absurd h1.2 (h2 h1.1)
theorem QmV {h i:Nat} {c:UInt8} (hc:Qv c.toNat=true/\(i=0\/(i=1/\h=45))\/(c.toNat=45/\i=1/\h=45)):hd (nmP h i c)=92/\nmP h i c≠[]:=by
 unfold nmP
 rw[if_pos (by rcases hc with h | h;exact .inr (.inr (.inl h));exact .inr (.inr (.inr h)))]
 exact⟨rfl,by simp[JL]⟩
theorem QgS {h i:Nat} {c:UInt8} (h0:c.toNat≠0) (hi:i=0\/(i=1/\h=45)) (hc:i=0->c.toNat≠45):nmP h i c≠[]/\(QI (hd (nmP h i c))=true\/hd (nmP h i c)=92):=by
 by_cases hd':Qv c.toNat=true
 have:=QmV (h:=h) (i:=i) (c:=c) (.inl ⟨hd',hi⟩)
 exact⟨this.2,.inr this.1⟩
 by_cases h45:c.toNat=45
 . have:i=1/\h=45:=by
    rcases hi with hi | hi
    exact absurd h45 (hc hi)
    exact hi
   have:=QmV (h:=h) (i:=i) (c:=c) (.inr ⟨h45,this⟩)
   exact⟨this.2,.inr this.1⟩
 rcases QqI (h:=h) (i:=i) h0 with ⟨k,e,h1,h2⟩ | he
 rw[e]
 exact⟨by simp,.inl (QpH (h1.trans h2) (by simpa using hd') h45)⟩
 have:=es_hd he
 exact⟨Qki (by omega),.inr this⟩
theorem UY {s:Bs} (hz:∀c∈s,c.toNat≠0) (hs:s≠[]):IdW s (Q2 s):=by
 unfold Q2
 split
 rename_i h;subst h
 exact⟨0,[45],[92,45],rfl,rfl,.esc (.lit 45 (by decide) (by decide)) .nil,.inr rfl⟩
 rename_i hne
 obtain⟨c,u,rfl⟩:=zJ hs
 have hb:bat (c::u) 0=c.toNat:=rfl
 rw[hb,nmF]
 have hn:=Qh0 (h:=c.toNat) 0 (c::u) hz
 by_cases hc:c.toNat=45
 have hc':c=45:=UInt8.toNat_inj.1 hc
 subst hc'
 obtain⟨c1,u1,rfl⟩:∃c1 u1,u=c1::u1:=by
  rcases u with _ | ⟨c1,u1⟩
  exact absurd rfl hne
  exact⟨c1,u1,rfl⟩
 have e0:nmP (45:UInt8).toNat 0 45=[45]:=by decide
 have h1:=QgS (h:=(45:UInt8).toNat) (i:=1) (c:=c1) (hz c1 (by simp)) (.inr ⟨rfl,rfl⟩) (fun q=>by cases q)
 refine⟨1,c1::u1,nmF (45:UInt8).toNat 1 (c1::u1),rfl,by rw[e0];rfl,Qh0 1 _ (fun c hc=>hz c (by simp[hc])),?_⟩
 rw[nmF,VQ h1.1]
 exact h1.2
 have h1:=QgS (h:=c.toNat) (i:=0) (c:=c) (hz c (by simp)) (.inl rfl) (fun _=>hc)
 refine⟨0,c::u,nmP c.toNat 0 c++nmF c.toNat (0+1) u,rfl,rfl,hn,?_⟩
 rw[VQ h1.1]
 exact h1.2
theorem QuU:∀(u:Bs),(∀c∈u,c.toNat≠0)->StW 34 u (qF u)
 | [],_=>.nil
 | c::u,hz=>by
  have ih:=QuU u (fun c hc=>hz c (by simp[hc]))
  have h0:=hz c (by simp)
  rw[qF]
  unfold qP
  by_cases h1:c.toNat<32\/c.toNat=127
  rw[if_pos h1]
  exact .esc (a:=[c]) (Qnt h0 (by omega)) ih
  rw[if_neg h1]
  by_cases h2:c.toNat=34\/c.toNat=92
  rw[if_pos h2]
  refine .esc (a:=[c]) (.lit c ?_ (nonl fun q=>h1 (.inl q))) ih
  rcases h2 with h2 | h2<;>rw[h2]<;>decide
  rw[if_neg h2]
  exact .raw ⟨fun q=>h2 (.inl q),fun q=>h2 (.inr q),nonl fun q=>h1 (.inl q)⟩ ih
theorem Qb4 {s:Bs} (hz:∀c∈s,c.toNat≠0):QkJ s (Ye s):=.inr ⟨34,qF s,.inr rfl,QuU s hz,rfl⟩
theorem dig10:∀m:Fin 10,((([48,49,50,51,52,53,54,55,56,57]:List UInt8).take (m.val+1)).drop m.val)=[zE (48+m.val)]/\Qv (zE (48+m.val)).toNat=true/\(zE (48+m.val)).toNat-48=m.val:=by decide
theorem QdC (n:Nat):Yu n≠[]/\(∀c∈Yu n,Qv c.toNat=true)/\YU (Yu n)=n:=by
 induction n using zi with
 | _ n ih=>
  have one:∀m,m<10->Yu m=[zE (48+m)]/\Qv (zE (48+m)).toNat=true/\(zE (48+m)).toNat-48=m:=by
   intro m hm
   obtain⟨e1,e2,e3⟩:=dig10 ⟨m,hm⟩
   refine⟨?_,e2,e3⟩
   rw[Yu,if_pos hm];exact e1
  by_cases h:n<10
  obtain⟨e1,e2,e3⟩:=one n h
  rw[e1]
  refine⟨by simp,fun c hc=>by rw[zP.1 hc];exact e2,?_⟩
  simp only[YU,z8,List.foldl_nil,e3];omega
  obtain⟨a1,a2,a3⟩:=ih (n/10) (by omega)
  obtain⟨b1,b2,b3⟩:=one (n%10) (Nat.mod_lt _ (by decide))
  rw[Yu,if_neg h,b1]
  refine⟨by simp,fun c hc=>?_,?_⟩
  rcases List.mem_append.1 hc with hc | hc
  exact a2 c hc
  rw[zP.1 hc];exact b2
  unfold YU at a3 ⊢
  rw[List.foldl_append,a3]
  simp only[z8,List.foldl_nil,b3];omega
theorem Qex {n:Nat} (h:n<=9223372036854775807):Qpn n (Yu n):=⟨(QdC n).1,(QdC n).2.1,(QdC n).2.2,h⟩
theorem Ql0 {n:Nat} {ds:Bs} (h:Qpn n ds):Qv (hd ds)=true:=by
 obtain⟨c,u,rfl⟩:=zJ h.1
 exact h.2.1 c (by simp)
theorem QfO {c:Nat} (h:Qv c=true):VT c=false/\c≠47/\c≠45/\c≠43/\isN c=false:=by
 simp only[Qv,zh,decide_eq_true_eq]at h
 simp[VT,isN];omega
section
variable {s:Bs}
theorem Qqn {a b:Int} {n:Nat} {ds:Bs} (hd':Qpn n ds) {c:UInt8} (hc:c.toNat=43/\b=n\/c.toNat=45/\b=0-(n:Int)) {g1 g2:Bs} (w1:WsL g1) (w2:WsL g2) {i:Nat} {r:Bs} (e:s.drop i=g1++(c::(g2++(ds++r)))) (hr:Qv (hd r)=false) :
 ZC s a i=some (a,b,i+g1.length+1+g2.length+ds.length):=by
 have hsc:Ys (c::(g2++(ds++r))):=by
  unfold Ys
  show VT c.toNat=false/\c.toNat≠47
  rcases hc with hc | hc<;>rw[hc.1]<;>decide
 have q1:=Y1 g1 i _ e w1 hsc
 obtain⟨c1,c2,c3,c4⟩:=d1 (dA e)
 have hf:=QfO (Ql0 hd')
 have hsd:Ys (ds++r):=by unfold Ys;rw[VQ hd'.1];exact⟨hf.1,hf.2.1⟩
 have q2:=Y1 g2 _ _ c4 w2 hsd
 have q3:=Qnb hd' (dA c4) hr
 unfold ZC
 rw[q1,if_pos c1,c2]
 rcases hc with ⟨hc,hb⟩ | ⟨hc,hb⟩
 rw[hc,if_pos rfl,q2,q3,hb];rfl
 rw[hc,if_neg (by decide),if_pos rfl,q2,q3,hb];rfl
end
theorem QuY {a b:Int} {m n:Nat} {ds es:Bs} (neg:Bool) (h1:Qpn m ds) (ha:a=if neg=true then 0-(m:Int) else m) (h2:Qpn n es) {x c:UInt8} (hx:isN x.toNat=true) (hc:c.toNat=43/\b=n\/c.toNat=45/\b=0-(n:Int)) {g1 g2:Bs} (w1:WsL g1) (w2:WsL g2) :
 NthW a b ((if neg=true then [45] else [])++(ds++(x::(g1++(c::(g2++es)))))):=by
 have hf:=QfO (Ql0 h1)
 have hdn:=Ql0 h1
 refine⟨?_,?_,?_,fun s i g r e wg=>⟨_,?_,.inl rfl⟩⟩
 cases neg<;>simp
 cases neg
 show VT (hd (ds++_))=false
 rw[VQ h1.1];exact hf.1
 show VT 45=false;decide
 cases neg
 show hd (ds++_)≠47
 rw[VQ h1.1];exact hf.2.1
 show 45≠47;decide
 have hr:=ws_or (r:=r) wg
 generalize g++(41::r)=r at e hr
 have hrd:Qv (hd r)=false:=by
  rcases hr with hr | hr
  simp only[VT,zu,decide_eq_true_eq]at hr
  rcases hr with (((hr | hr) | hr) | hr) | hr<;>rw[hr]<;>decide
  rw[hr];decide
 have xd:Qv x.toNat=false:=by
  simp only[isN,zu,decide_eq_true_eq]at hx
  rcases hx with hx | hx<;>rw[hx]<;>decide
 have common:∀j,s.drop j=ds++(x::(g1++(c::(g2++(es++r)))))->QcQ s j=some ((m:Int),j+ds.length) /\
  (∀a',J8 s a' (j+ds.length)=some (a',b,j+ds.length+1+g1.length+1+g2.length+es.length))/\j<s.length/\Qv (bat s j)=true:=by
  intro j ej
  have q:=Qnb h1 ej xd
  obtain⟨x1,x2,x3,x4⟩:=d1 (dA ej)
  refine⟨q,fun a'=>?_,lhd ej (by simp[h1.1]),by rw[bhd ej,VQ h1.1];exact hdn⟩
  unfold J8
  rw[if_pos x1,if_pos (by rw[x2];exact hx),Qqn h2 hc w1 w2 x4 hrd]
 cases neg with
 | false=>
  have e1:s.drop i=ds++(x::(g1++(c::(g2++(es++r))))):=by rw[e];simp
  obtain⟨q1,q2,q3,q4⟩:=common i e1
  have hb:=bhd e1
  rw[VQ h1.1]at hb
  unfold Ym
  rw[if_pos q3,if_neg (by rw[hb];exact hf.2.2.1),if_neg (by rw[hb];exact hf.2.2.2.1),if_pos q4]
  unfold Yq
  rw[if_pos q3,if_pos q4,q1]
  simp only[zU]
  rw[q2,ha]
  simp;omega
 | true=>
  have e1:s.drop i=45::(ds++(x::(g1++(c::(g2++(es++r)))))):=by rw[e];simp
  obtain⟨c1,c2,c3,c4⟩:=d1 e1
  obtain⟨q1,q2,q3,q4⟩:=common (i+1) c4
  unfold Ym
  rw[if_pos c1,if_pos (show bat s i=45 from c2)]
  unfold YE
  rw[if_pos q3,if_pos q4,q1]
  simp only[zU]
  rw[q2,ha]
  simp;omega
theorem Qhj {a b:Int} (ha : -9999<=a/\a<=9999) (hb : -9999<=b/\b<=9999):NthW a b (YH a b):=by
 have key:∀(neg:Bool) (m:Nat),m<=9999->a=(if neg=true then 0-(m:Int) else m)->NthW a b ((if neg=true then [45] else [])++(Yu m++(110::Zm b))):=by
  intro neg m hm e
  unfold Zm
  by_cases h:b<0
  rw[if_pos h]
  exact QuY neg (Qex (n:=m) (by omega)) e (Qex (n:=(-b).toNat) (by omega)) (x:=110) (c:=45) (by decide) (.inr ⟨rfl,by omega⟩) (g1:=[]) (g2:=[]) .nil .nil
  rw[if_neg h]
  exact QuY neg (Qex (n:=m) (by omega)) e (Qex (n:=b.toNat) (by omega)) (x:=110) (c:=43) (by decide) (.inl ⟨rfl,by omega⟩) (g1:=[]) (g2:=[]) .nil .nil
 unfold YH
 by_cases h:a<0
 rw[if_pos h]
 exact key true (-a).toNat (by omega) (by simp;omega)
 rw[if_neg h]
 exact key false a.toNat (by omega) (by simp;omega)
end Way
end
section
namespace Way
set_option maxRecDepth 20000
theorem QqB {s:Bs} {j:Nat} (h:bat s j<128):Va s j=(bat s j,1):=by unfold Va;rw[if_pos h]
theorem Qfc {s:Bs}:∀{k i c d:Nat},Zo s k i c=some d->∀m,i<=m->m<i+k->bat s m≠0
 | 0,i,c,d,h,m,h1,h2=>by omega
 | k+1,i,c,d,h,m,h1,h2=>by
  rw[Zo]at h
  split at h
  cases h
  rename_i h0
  by_cases e:m=i
  subst e;omega
  exact Qfc h m (by omega) (by omega)
theorem Qqz {s:Bs} {j:Nat} (h:(Va s j).2≠0) (h1:(Va s j).1≠0):1<=(Va s j).2/\∀m,j<=m->m<j+(Va s j).2->bat s m≠0:=by
 by_cases hb:bat s j<128
 rw[QqB hb]at h h1 ⊢
 exact⟨zj _,fun m h2 h3=>by rw[show m=j by simp only at h3;omega];exact h1⟩
 unfold Va at h h1 ⊢
 rw[if_neg hb]at h h1 ⊢
 split
 rename_i h2;rw[if_pos h2]at h;exact absurd rfl h
 rename_i h2
 rw[if_neg h2]at h h1
 split
 rename_i h3;rw[h3]at h;exact absurd rfl h
 rename_i d h3
 rw[h3]at h h1
 simp only at h h1
 split
 rename_i h4;rw[if_pos h4]at h;exact absurd rfl h
 refine⟨by simp only;omega,fun m k1 k2=>?_⟩
 simp only at k2
 by_cases e:m=j
 subst e;omega
 exact Qfc h3 m (by omega) (by omega)
theorem QgI (s:Bs):∀(n j:Nat),s.length-j<=n->VV s j=true->∀m,j<=m->m<s.length->bat s m≠0
 | 0,j,hn,h,m,h1,h2=>by omega
 | n+1,j,hn,h,m,h1,h2=>by
  rw[VV,if_pos (by omega)]at h
  split at h
  cases h
  rename_i h3
  simp only[not_or]at h3
  obtain⟨q1,q2⟩:=Qqz h3.1 h3.2.1
  by_cases e:m<j+(Va s j).2
  exact q2 m h1 e
  exact QgI s n _ (by omega) h m (by omega) h2
theorem QmJ {s:Bs} (h:VV s 0=true):∀c∈s,c.toNat≠0:=by
 intro c hc
 obtain⟨i,hi,rfl⟩:=xl hc
 have:=QgI s _ 0 (zj _) h i (Nat.zero_le _) hi
 simpa [bat,za,ze hi] using this
structure Fld (x:SelD):Prop where
 kz:∀c∈x.key,c.toNat≠0
 vz:∀c∈x.val,c.toNat≠0
 low:low x.key=x.key
 key:(x.kind=2\/x.kind=5)->x.key≠[]
 nokey:¬(x.kind=2\/x.kind=5)->x.key=[]
 name:(x.kind=3\/x.kind=4\/x.kind=15)->x.val≠[]
 val:¬(x.kind=3\/x.kind=4\/x.kind=15\/(x.kind=5/\x.op≠1)\/x.kind=16\/x.kind=17)->x.val=[]\/(x.kind=21/\QbQ x.val=true)
 num:x.kind≠6->x.a=0/\x.b=0
 rng : -9999<=x.a/\x.a<=9999 /\ -9999<=x.b/\x.b<=9999
 attr:x.kind=5->1<=x.op/\x.op<=8/\(x.flag=0\/x.flag=1)/\(x.op=1->x.flag=0)
 comb:x.kind=22->1<=x.op/\x.op<=4/\x.flag=0
 nth:x.kind=6->x.op=0/\0<=x.flag/\x.flag<=3
 only:x.kind=7->x.op=0/\(x.flag=0\/x.flag=2)
 other:x.kind≠5->x.kind≠22->x.kind≠6->x.kind≠7->x.op=0/\x.flag=0
theorem fld {x:SelD} (h:UJ x=true):Fld x:=by
 unfold UJ at h
 simp only[zh,decide_eq_true_eq]at h
 obtain⟨⟨⟨⟨⟨⟨⟨⟨⟨⟨⟨h1,h2⟩,h3⟩,h4⟩,h5⟩,h6⟩,h7⟩,h8⟩,h9⟩,h10⟩,h11⟩,h12⟩:=h
 have k4:(x.kind=2\/x.kind=5) ↔ x.key≠[]:=by
  by_cases e:x.key=[]<;>by_cases e2:x.kind=2<;>by_cases e5:x.kind=5<;>simp_all
 refine { kz:=QmJ h1,vz:=QmJ h2,low:=h3,key:=k4.1,nokey:=fun q=>?_,name:=?_,val:=?_,num:=?_,rng:=⟨h9,h8,h11,h10⟩,attr:=?_,comb:=?_,nth:=?_,only:=?_,other:=?_ }
 by_cases e:x.key=[]
 exact e
 exact absurd (k4.2 e) q
 intro q e
 simp only[e,decide_true,Bool.and_true,zO,zz,decide_eq_false_iff_not]at h5
 omega
 intro q
 by_cases e:x.val=[]
 exact .inl e
 right
 have hn:(decide (x.kind=3)||decide (x.kind=4)||decide (x.kind=15)||(decide (x.kind=5) && !decide (x.op=1))||decide (x.kind=16)||decide (x.kind=17))=false:=by
  simp only[zz,decide_eq_false_iff_not,zV,decide_eq_true_eq,Bool.not_eq_false']
  simp only[not_or,not_and,Decidable.not_not]at q
  exact⟨⟨⟨⟨⟨q.1,q.2.1⟩,q.2.2.1⟩,q.2.2.2.1⟩,q.2.2.2.2.1⟩,q.2.2.2.2.2⟩
 rw[hn]at h6
 simpa [e] using h6
 intro q
 simpa [q] using h7
 intro q;rw[if_pos q]at h12;simp at h12;omega
 intro q;rw[if_neg (by omega),if_pos q]at h12;simp at h12;omega
 intro q;rw[if_neg (by omega),if_neg (by omega),if_pos q]at h12;simp at h12;omega
 intro q;rw[if_neg (by omega),if_neg (by omega),if_neg (by omega),if_pos q]at h12;simp at h12;omega
 intro q1 q2 q3 q4;rw[if_neg q1,if_neg q2,if_neg q3,if_neg q4]at h12;simpa using h12
def QaP (x:SelD):Prop:=(x.kind=15\/x.kind=16\/x.kind=17)->low x.val=x.val
theorem QwO {t:Bs} (h:∀c∈t,Qq c.toNat=true) (h0:QI (hd t)=true):IdW t t:=by
 refine⟨0,t,t,rfl,rfl,?_,.inl h0⟩
 clear h0
 induction t with
 | nil=>exact .nil
 | cons c t ih=>exact .raw (h c (by simp)) (ih fun c hc=>h c (by simp[hc]))
theorem VL {t:Bs} (h:((t.all fun c=>Qq c.toNat)&&QI (hd t))=true):IdW t t:=by
 simp only[zh,List.all_eq_true]at h
 exact QwO h.1 h.2
theorem Ur:∀m:Fin 7,IdW (Qp.getD m.val []) (Qp.getD m.val [])/\low (Qp.getD m.val [])=Qp.getD m.val []:=by
 intro m
 have h:∀m:Fin 7,(((Qp.getD m.val []).all fun c=>Qq c.toNat)&&QI (hd (Qp.getD m.val [])))=true/\low (Qp.getD m.val [])=Qp.getD m.val []:=by decide
 exact⟨VL (h m).1,(h m).2⟩
theorem Qxf {x:SelD} (hf:Fld x) (hs:QaP x) (hk:Qy x.kind=true) (h1:x.kind≠1) (h2:x.kind≠2) (hr:¬(x.kind=18\/x.kind=19\/x.kind=20)):Vt 0 (QO x) (Qw x):=by
 simp only[Qy,zh,decide_eq_true_eq]at hk
 have hcases:x.kind=3\/x.kind=4\/x.kind=5\/x.kind=6\/x.kind=7\/x.kind=8\/x.kind=9\/x.kind=10\/x.kind=11\/x.kind=12\/x.kind=13\/x.kind=14\/x.kind=15\/x.kind=16\/x.kind=17:=by omega
 rcases hcases with e | e | e | e | e | e | e | e | e | e | e | e | e | e | e
 have q:=Vt.cls (UY hf.vz (hf.name (by omega)))
 simpa [QO,Qw,e] using q
 have hid:=UY hf.vz (hf.name (by omega))
 have q:=Vt.idn (QqL hf.vz) hid.head.1
 simpa [QO,Qw,e] using q
 have hkid:=UY hf.kz (hf.key (by omega))
 obtain⟨o1,o2,o3,o4⟩:=hf.attr e
 by_cases ho:x.op=1
 have q:=Vt.attr0 (g1:=[]) (g2:=[]) hkid .nil .nil
 have hv:x.val=[]:=by
  rcases hf.val (by omega) with h | h
  exact h
  omega
 rw[hf.low]at q
 simpa [QO,Qw,e,ho,hv,o4 ho,YQ] using q
 have hop:YQ.getD x.op.toNat []∈attrSigns:=by
  obtain⟨m,hm⟩:∃m:Fin 9,x.op.toNat=m.val:=⟨⟨x.op.toNat,by omega⟩,rfl⟩
  have:∀m:Fin 9,2<=m.val->YQ.getD m.val []∈attrSigns:=by decide
  rw[hm];exact this m (by omega)
 have hfl:∃g4 f,([[],[32,105]]:List Bs).getD x.flag.toNat []=g4++f/\WsL g4/\Qsx (decide (x.flag=1)) f/\(f=[]\/g4≠[]):=by
  rcases o3 with h | h
  exact⟨[],[],by rw[h];rfl,.nil,.inl ⟨by rw[h];rfl,rfl⟩,.inl rfl⟩
  exact⟨[32],[105],by rw[h];rfl,fun c hc=>by rw[zP.1 hc];decide,.inr ⟨by rw[h];rfl,.inl rfl⟩,.inr (by simp)⟩
 obtain⟨g4,f,e1,w4,hfw,hz⟩:=hfl
 have q:=Vt.attr1 (g1:=[]) (g2:=[]) (g3:=[]) (g5:=[]) hkid .nil .nil hop .nil (Qb4 hf.vz) w4 hfw hz .nil
 rw[hf.low]at q
 have hw:Qw x=91::([]++(Q2 x.key++([]++(YQ.getD x.op.toNat []++([]++(Ye x.val++(g4++(f++([]++[93]))))))))):=by
  unfold Qw
  rw[if_neg (by omega),if_neg (by omega),if_neg (by omega),if_neg (by omega),if_pos e,if_neg ho,e1]
  simp
 have hl:QO x=.attr x.key x.val (YQ.getD x.op.toNat []) (decide (x.flag=1)):=by
  unfold QO
  rw[if_neg (by omega),if_neg (by omega),if_neg (by omega),if_neg (by omega),if_pos e]
 rw[hw,hl]
 exact q
 obtain⟨_,n1,n2⟩:=hf.nth e
 have hc:=Qhj (a:=x.a) (b:=x.b) ⟨hf.rng.1,hf.rng.2.1⟩ ⟨hf.rng.2.2.1,hf.rng.2.2.2⟩
 have key:∀(nm:Bs) (l t:Bool),IdW nm nm->low nm=ZX l t->Vt 0 (.nth x.a x.b l t) (58::(nm++(40::(YH x.a x.b++[41])))):=by
  intro nm l t h1 h2
  have q:=Vt.nth (g1:=[]) (g2:=[]) l t h1 h2 hc .nil .nil
  simpa using q
 have h4:x.flag=0\/x.flag=1\/x.flag=2\/x.flag=3:=by omega
 rcases h4 with h | h | h | h
 have q:=key Vp false false (VL (by decide)) (by decide)
 simpa [QO,Qw,e,h,YT,Vp] using q
 have q:=key QH true false (VL (by decide)) (by decide)
 simpa [QO,Qw,e,h,YT,QH] using q
 have q:=key VI false true (VL (by decide)) (by decide)
 simpa [QO,Qw,e,h,YT,VI] using q
 have q:=key QL true true (VL (by decide)) (by decide)
 simpa [QO,Qw,e,h,YT,QL] using q
 obtain⟨_,n1 | n1⟩:=hf.only e
 have q:=Vt.plain (x:=.only false) (VL (t:=[111,110,108,121,45,99,104,105,108,100]) (by decide)) (fun G s j=>rfl)
 simpa [QO,Qw,e,n1,Yp] using q
 have q:=Vt.plain (x:=.only true) (VL (t:=[111,110,108,121,45,111,102,45,116,121,112,101]) (by decide)) (fun G s j=>rfl)
 simpa [QO,Qw,e,n1,Yp] using q
 have q:=Vt.plain (x:=.empty) (show IdW (Qp.getD 0 []) (Qp.getD 0 []) from (Ur 0).1) (fun G s j=>rfl)
 simpa [QO,Qw,e] using q
 have q:=Vt.plain (x:=.root) (show IdW (Qp.getD 1 []) (Qp.getD 1 []) from (Ur 1).1) (fun G s j=>rfl)
 simpa [QO,Qw,e] using q
 have q:=Vt.plain (x:=.input) (show IdW (Qp.getD 2 []) (Qp.getD 2 []) from (Ur 2).1) (fun G s j=>rfl)
 simpa [QO,Qw,e] using q
 have q:=Vt.plain (x:=.link) (show IdW (Qp.getD 3 []) (Qp.getD 3 []) from (Ur 3).1) (fun G s j=>rfl)
 simpa [QO,Qw,e] using q
 have q:=Vt.plain (x:=.enabled) (show IdW (Qp.getD 4 []) (Qp.getD 4 []) from (Ur 4).1) (fun G s j=>rfl)
 simpa [QO,Qw,e] using q
 have q:=Vt.plain (x:=.disabled) (show IdW (Qp.getD 5 []) (Qp.getD 5 []) from (Ur 5).1) (fun G s j=>rfl)
 simpa [QO,Qw,e] using q
 have q:=Vt.plain (x:=.checked) (show IdW (Qp.getD 6 []) (Qp.getD 6 []) from (Ur 6).1) (fun G s j=>rfl)
 simpa [QO,Qw,e] using q
 have q:=Vt.lang (g1:=[]) (g2:=[]) (VL (t:=ZY) (by decide)) (by decide) (UY hf.vz (hf.name (by omega))) .nil .nil
 rw[hs (by omega)]at q
 simpa [QO,Qw,e,ZY] using q
 have q:=Vt.contains (g1:=[]) (g2:=[]) false (VL (t:=VJ) (by decide)) (by decide) (Qb4 hf.vz) .nil .nil
 rw[hs (by omega)]at q
 simpa [QO,Qw,e,VJ] using q
 have q:=Vt.contains (g1:=[]) (g2:=[]) true (VL (t:=[99,111,110,116,97,105,110,115,79,119,110]) (by decide)) (by decide) (Qb4 hf.vz) .nil .nil
 rw[hs (by omega)]at q
 simpa [QO,Qw,e] using q
end Way
end
end Go.Proofs.YtengepcafdnalaaGreatDoor
