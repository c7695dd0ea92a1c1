/-
  Parts of the proof that the law FnPrintBack holds for every input (texts Wd, We, Wf, Wi, Nb). Conditions: none.
-/
import Derived.Test.YtengepcafdnalaaGreatDoorM32
namespace Go.Proofs.YtengepcafdnalaaGreatDoor
open _root_.Bool renaming and_eq_true → zk, or_eq_false_iff → zT, or_eq_true → zx, false_ne_true → zq
open _root_.List renaming mem_singleton → zW, foldl_cons → xi, exists_cons_of_ne_nil → zX, length_append → zh, length_cons → zj, drop_eq_getElem_cons → zI, getD_eq_getElem?_getD → zd, getElem?_eq_getElem → zg, append_assoc → zw, length_drop → zR, length_take → zP, length_nil → zo
open _root_.Nat renaming strongRecOn → zl
open _root_.Option renaming bind_some → zQ
open _root_.UInt8 renaming ofNat → zD, toNat_or → ze
section
namespace Way
set_option maxRecDepth 20000
theorem dig16:∀m:Fin 16,(Qby.take (m.val+1)).drop m.val=[Qby.getD m.val 0]/\QI (Qby.getD m.val 0).toNat=true/\YL (Qby.getD m.val 0).toNat=m.val:=by decide
theorem Qn3:∀(c k:Nat) (o:Bs),c<16^k->∃ds:Bs,QfP c o=ds++o/\(∀d∈ds,QI d.toNat=true)/\VH ds=c/\(c≠0->ds≠[])/\ds.length<=k:=by
 intro c
 induction c using zl with
 | _ c ih=>
  intro k o hk
  by_cases h0:0<c
  obtain⟨d1,d2,d3⟩:=dig16 ⟨c%16,Nat.mod_lt _ (by decide)⟩
  simp only at d1 d2 d3
  obtain⟨k',rfl⟩:∃k',k=k'+1:=⟨k-1,by
   rcases k with _ | k
   simp at hk;omega
   rfl⟩
  obtain⟨ds,e1,e2,e3,e4,e5⟩:=ih (c/16) (by omega) k' ((Qby.take (c%16+1)).drop (c%16)++o) (by rw[Nat.pow_succ]at hk;omega)
  refine⟨ds++[Qby.getD (c%16) 0],?_,?_,?_,by simp,by simpa using e5⟩
  rw[QfP,if_pos h0,e1,d1];simp
  intro d hd
  rcases List.mem_append.1 hd with hd | hd
  exact e2 d hd
  rw[zW.1 hd];exact d2
  unfold VH at e3 ⊢
  rw[List.foldl_append,e3]
  simp only[xi,List.foldl_nil,d3]
  omega
  refine⟨[],?_,by simp,?_,by omega,by simp⟩
  rw[QfP,if_neg h0];rfl
  simp[VH];omega
theorem utf8_ne (n:Int):YM n≠[]:=by
 unfold YM Utf8.encode
 generalize (if Utf8.valid n=true then n.toNat else Utf8.runeError)=c
 by_cases h1:c<128
 simp[h1]
 by_cases h2:c<2048
 simp[h1,h2]
 by_cases h3:c<65536
 simp[h1,h2,h3]
 simp[h1,h2,h3]
theorem QoD {c:Nat} (h:c<128):YM (c:Int)=[zD c]:=by
 have hv:Utf8.valid (c:Int)=true:=by unfold Utf8.valid;simp;omega
 unfold YM Utf8.encode
 simp only[hv,if_true,Int.toNat_natCast]
 rw[if_pos (by omega)]
theorem Qq2 {c:Nat} (h0:c≠0) (h1:c<16777216):Es (YM (c:Int)) (JQ c):=by
 obtain⟨ds,e1,e2,e3,e4,e5⟩:=Qn3 c 6 [] (by simpa using h1)
 unfold JQ
 rw[e1,List.append_nil]
 have:=Es.hex ds (e4 h0) e5 e2 (utf8_ne _)
 rwa [e3]at this
theorem Qtd {c:UInt8} (h0:c.toNat≠0) (h1:c.toNat<128):Es [c] (JQ c.toNat):=by
 have:=Qq2 h0 (by omega)
 rwa [QoD h1,UInt8.ofNat_toNat]at this
theorem nonl {c:Nat} (h:¬c<32):YI c=false:=by simp[YI];omega
theorem QpW {h i:Nat} {c:UInt8} (h0:c.toNat≠0):(∃k,nmP h i c=[c]/\Qr c.toNat=k/\k=true)\/Es [c] (nmP h i c):=by
 unfold nmP
 by_cases h1:c.toNat<32\/c.toNat=127\/(Qu c.toNat=true/\(i=0\/(i=1/\h=45)))\/(c.toNat=45/\i=1/\h=45)
 rw[if_pos h1]
 refine .inr (Qtd h0 ?_)
 simp only[Qu,zk,decide_eq_true_eq]at h1
 omega
 rw[if_neg h1]
 by_cases h2:Qr c.toNat=true
 rw[if_pos h2];exact .inl ⟨true,rfl,h2,rfl⟩
 rw[if_neg h2]
 refine .inr (.lit c ?_ (nonl fun q=>h1 (.inl q)))
 simp only[Qr,QK,QI,Bool.not_eq_true,zT,Bool.and_eq_false_imp,decide_eq_true_eq,decide_eq_false_iff_not]at h2 ⊢
 omega
theorem Qkw {h:Nat}:∀(i:Nat) (u:Bs),(∀c∈u,c.toNat≠0)->NmW u (nmF h i u)
 | _,[],_=>.nil
 | i,c::u,hz=>by
  have ih:=Qkw (h:=h) (i+1) u (fun c hc=>hz c (by simp[hc]))
  rw[nmF]
  rcases QpW (h:=h) (i:=i) (hz c (by simp)) with ⟨k,e,h1,h2⟩ | he
  rw[e];exact .raw (h1.trans h2) ih
  exact .esc he ih
theorem es_hd {v t:Bs} (h:Es v t):hd t=92:=by
 obtain⟨_,c,u,rfl,_⟩:=h.shape;rfl
theorem QoO {c:UInt8} (h1:Qr c.toNat=true) (h2:Qu c.toNat=false) (h3:c.toNat≠45):QK c.toNat=true:=by
 simp only[Qr,Qu,zx,zk,Bool.and_eq_false_imp,decide_eq_true_eq,decide_eq_false_iff_not]at h1 h2
 rcases h1 with (h1 | h1) | h1
 exact h1
 exact absurd h1 h3
 exact absurd h1.2 (h2 h1.1)
theorem Ql5 {h i:Nat} {c:UInt8} (hc:Qu c.toNat=true/\(i=0\/(i=1/\h=45))\/(c.toNat=45/\i=1/\h=45)):hd (nmP h i c)=92/\nmP h i c≠[]:=by
 unfold nmP
 rw[if_pos (by rcases hc with h | h;exact .inr (.inr (.inl h));exact .inr (.inr (.inr h)))]
 exact⟨rfl,by simp[JQ]⟩
theorem Qgn {h i:Nat} {c:UInt8} (h0:c.toNat≠0) (hi:i=0\/(i=1/\h=45)) (hc:i=0->c.toNat≠45):nmP h i c≠[]/\(QK (hd (nmP h i c))=true\/hd (nmP h i c)=92):=by
 by_cases hd':Qu c.toNat=true
 have:=Ql5 (h:=h) (i:=i) (c:=c) (.inl ⟨hd',hi⟩)
 exact⟨this.2,.inr this.1⟩
 by_cases h45:c.toNat=45
 . have:i=1/\h=45:=by
    rcases hi with hi | hi
    exact absurd h45 (hc hi)
    exact hi
   have:=Ql5 (h:=h) (i:=i) (c:=c) (.inr ⟨h45,this⟩)
   exact⟨this.2,.inr this.1⟩
 rcases QpW (h:=h) (i:=i) h0 with ⟨k,e,h1,h2⟩ | he
 rw[e]
 exact⟨by simp,.inl (QoO (h1.trans h2) (by simpa using hd') h45)⟩
 have:=es_hd he
 exact⟨Qjt (by omega),.inr this⟩
theorem QpX {s:Bs} (hz:∀c∈s,c.toNat≠0) (hs:s≠[]):IdW s (JL s):=by
 unfold JL
 split
 rename_i h;subst h
 exact⟨0,[45],[92,45],rfl,rfl,.esc (.lit 45 (by decide) (by decide)) .nil,.inr rfl⟩
 rename_i hne
 obtain⟨c,u,rfl⟩:=zX hs
 have hb:bat (c::u) 0=c.toNat:=rfl
 rw[hb,nmF]
 have hn:=Qkw (h:=c.toNat) 0 (c::u) hz
 by_cases hc:c.toNat=45
 have hc':c=45:=UInt8.toNat_inj.1 hc
 subst hc'
 obtain⟨c1,u1,rfl⟩:∃c1 u1,u=c1::u1:=by
  rcases u with _ | ⟨c1,u1⟩
  exact absurd rfl hne
  exact⟨c1,u1,rfl⟩
 have e0:nmP (45:UInt8).toNat 0 45=[45]:=by decide
 have h1:=Qgn (h:=(45:UInt8).toNat) (i:=1) (c:=c1) (hz c1 (by simp)) (.inr ⟨rfl,rfl⟩) (fun q=>by cases q)
 refine⟨1,c1::u1,nmF (45:UInt8).toNat 1 (c1::u1),rfl,by rw[e0];rfl,Qkw 1 _ (fun c hc=>hz c (by simp[hc])),?_⟩
 rw[nmF,Vm h1.1]
 exact h1.2
 have h1:=Qgn (h:=c.toNat) (i:=0) (c:=c) (hz c (by simp)) (.inl rfl) (fun _=>hc)
 refine⟨0,c::u,nmP c.toNat 0 c++nmF c.toNat (0+1) u,rfl,rfl,hn,?_⟩
 rw[Vm h1.1]
 exact h1.2
theorem dig10:∀m:Fin 10,((([48,49,50,51,52,53,54,55,56,57]:List UInt8).take (m.val+1)).drop m.val)=[zD (48+m.val)]/\Qu (zD (48+m.val)).toNat=true/\(zD (48+m.val)).toNat-48=m.val:=by decide
theorem Qc6 (n:Nat):Jz n≠[]/\(∀c∈Jz n,Qu c.toNat=true)/\YO (Jz n)=n:=by
 induction n using zl with
 | _ n ih=>
  have one:∀m,m<10->Jz m=[zD (48+m)]/\Qu (zD (48+m)).toNat=true/\(zD (48+m)).toNat-48=m:=by
   intro m hm
   obtain⟨e1,e2,e3⟩:=dig10 ⟨m,hm⟩
   refine⟨?_,e2,e3⟩
   rw[Jz,if_pos hm];exact e1
  by_cases h:n<10
  obtain⟨e1,e2,e3⟩:=one n h
  rw[e1]
  refine⟨by simp,fun c hc=>by rw[zW.1 hc];exact e2,?_⟩
  simp only[YO,xi,List.foldl_nil,e3];omega
  obtain⟨a1,a2,a3⟩:=ih (n/10) (by omega)
  obtain⟨b1,b2,b3⟩:=one (n%10) (Nat.mod_lt _ (by decide))
  rw[Jz,if_neg h,b1]
  refine⟨by simp,fun c hc=>?_,?_⟩
  rcases List.mem_append.1 hc with hc | hc
  exact a2 c hc
  rw[zW.1 hc];exact b2
  unfold YO at a3 ⊢
  rw[List.foldl_append,a3]
  simp only[xi,List.foldl_nil,b3];omega
theorem Qd5 {n:Nat} (h:n<=9223372036854775807):Qoy n (Jz n):=⟨(Qc6 n).1,(Qc6 n).2.1,(Qc6 n).2.2,h⟩
theorem Qk5 {n:Nat} {ds:Bs} (h:Qoy n ds):Qu (hd ds)=true:=by
 obtain⟨c,u,rfl⟩:=zX h.1
 exact h.2.1 c (by simp)
theorem Qfh {c:Nat} (h:Qu c=true):VO c=false/\c≠47/\c≠45/\c≠43/\isN c=false:=by
 simp only[Qu,zk,decide_eq_true_eq]at h
 simp[VO,isN];omega
section
variable {s:Bs}
theorem QpE {a b:Int} {n:Nat} {ds:Bs} (hd':Qoy n ds) {c:UInt8} (hc:c.toNat=43/\b=n\/c.toNat=45/\b=0-(n:Int)) {g1 g2:Bs} (w1:WsL g1) (w2:WsL g2) {i:Nat} {r:Bs} (e:s.drop i=g1++(c::(g2++(ds++r)))) (hr:Qu (hd r)=false) :
 Y1 s a i=some (a,b,i+g1.length+1+g2.length+ds.length):=by
 have hsc:Yg (c::(g2++(ds++r))):=by
  unfold Yg
  show VO c.toNat=false/\c.toNat≠47
  rcases hc with hc | hc<;>rw[hc.1]<;>decide
 have q1:=Ym g1 i _ e w1 hsc
 obtain⟨c1,c2,c3,c4⟩:=d1 (dA e)
 have hf:=Qfh (Qk5 hd')
 have hsd:Yg (ds++r):=by unfold Yg;rw[Vm hd'.1];exact⟨hf.1,hf.2.1⟩
 have q2:=Ym g2 _ _ c4 w2 hsd
 have q3:=Qmk hd' (dA c4) hr
 unfold Y1
 rw[q1,if_pos c1,c2]
 rcases hc with ⟨hc,hb⟩ | ⟨hc,hb⟩
 rw[hc,if_pos rfl,q2,q3,hb];rfl
 rw[hc,if_neg (by decide),if_pos rfl,q2,q3,hb];rfl
end
theorem QtZ {a b:Int} {m n:Nat} {ds es:Bs} (neg:Bool) (h1:Qoy m ds) (ha:a=if neg=true then 0-(m:Int) else m) (h2:Qoy n es) {x c:UInt8} (hx:isN x.toNat=true) (hc:c.toNat=43/\b=n\/c.toNat=45/\b=0-(n:Int)) {g1 g2:Bs} (w1:WsL g1) (w2:WsL g2) :
 NthW a b ((if neg=true then [45] else [])++(ds++(x::(g1++(c::(g2++es)))))):=by
 have hf:=Qfh (Qk5 h1)
 have hdn:=Qk5 h1
 refine⟨?_,?_,?_,fun s i g r e wg=>⟨_,?_,.inl rfl⟩⟩
 cases neg<;>simp
 cases neg
 show VO (hd (ds++_))=false
 rw[Vm h1.1];exact hf.1
 show VO 45=false;decide
 cases neg
 show hd (ds++_)≠47
 rw[Vm h1.1];exact hf.2.1
 show 45≠47;decide
 have hr:=ws_or (r:=r) wg
 generalize g++(41::r)=r at e hr
 have hrd:Qu (hd r)=false:=by
  rcases hr with hr | hr
  simp only[VO,zx,decide_eq_true_eq]at hr
  rcases hr with (((hr | hr) | hr) | hr) | hr<;>rw[hr]<;>decide
  rw[hr];decide
 have xd:Qu x.toNat=false:=by
  simp only[isN,zx,decide_eq_true_eq]at hx
  rcases hx with hx | hx<;>rw[hx]<;>decide
 have common:∀j,s.drop j=ds++(x::(g1++(c::(g2++(es++r)))))->Qa6 s j=some ((m:Int),j+ds.length) /\
  (∀a',Z3 s a' (j+ds.length)=some (a',b,j+ds.length+1+g1.length+1+g2.length+es.length))/\j<s.length/\Qu (bat s j)=true:=by
  intro j ej
  have q:=Qmk h1 ej xd
  obtain⟨x1,x2,x3,x4⟩:=d1 (dA ej)
  refine⟨q,fun a'=>?_,lhd ej (by simp[h1.1]),by rw[bhd ej,Vm h1.1];exact hdn⟩
  unfold Z3
  rw[if_pos x1,if_pos (by rw[x2];exact hx),QpE h2 hc w1 w2 x4 hrd]
 cases neg with
 | false=>
  have e1:s.drop i=ds++(x::(g1++(c::(g2++(es++r))))):=by rw[e];simp
  obtain⟨q1,q2,q3,q4⟩:=common i e1
  have hb:=bhd e1
  rw[Vm h1.1]at hb
  unfold Yc
  rw[if_pos q3,if_neg (by rw[hb];exact hf.2.2.1),if_neg (by rw[hb];exact hf.2.2.2.1),if_pos q4]
  unfold Yf
  rw[if_pos q3,if_pos q4,q1]
  simp only[zQ]
  rw[q2,ha]
  simp;omega
 | true=>
  have e1:s.drop i=45::(ds++(x::(g1++(c::(g2++(es++r)))))):=by rw[e];simp
  obtain⟨c1,c2,c3,c4⟩:=d1 e1
  obtain⟨q1,q2,q3,q4⟩:=common (i+1) c4
  unfold Yc
  rw[if_pos c1,if_pos (show bat s i=45 from c2)]
  unfold Yn
  rw[if_pos q3,if_pos q4,q1]
  simp only[zQ]
  rw[q2,ha]
  simp;omega
theorem Qog {a b:Int} (ha : -9223372036854775807<=a/\a<=9223372036854775807) (hb : -9223372036854775807<=b/\b<=9223372036854775807):NthW a b (Qct a b):=by
 have key:∀(neg:Bool) (m:Nat),m<=9223372036854775807->a=(if neg=true then 0-(m:Int) else m)->NthW a b ((if neg=true then [45] else [])++(Jz m++(110::QdL b))):=by
  intro neg m hm e
  unfold QdL
  by_cases h:b<0
  rw[if_pos h]
  exact QtZ neg (Qd5 (n:=m) (by omega)) e (Qd5 (n:=(-b).toNat) (by omega)) (x:=110) (c:=45) (by decide) (.inr ⟨rfl,by omega⟩) (g1:=[]) (g2:=[]) .nil .nil
  rw[if_neg h]
  exact QtZ neg (Qd5 (n:=m) (by omega)) e (Qd5 (n:=b.toNat) (by omega)) (x:=110) (c:=43) (by decide) (.inl ⟨rfl,by omega⟩) (g1:=[]) (g2:=[]) .nil .nil
 unfold Qct
 by_cases h:a<0
 rw[if_pos h]
 exact key true (-a).toNat (by omega) (by simp;omega)
 rw[if_neg h]
 exact key false a.toNat (by omega) (by simp;omega)
end Way
end
section
namespace Way
set_option maxRecDepth 20000
theorem QvM {t:Bs} (h:∀c∈t,Qr c.toNat=true) (h0:QK (hd t)=true):IdW t t:=by
 refine⟨0,t,t,rfl,rfl,?_,.inl h0⟩
 clear h0
 induction t with
 | nil=>exact .nil
 | cons c t ih=>exact .raw (h c (by simp)) (ih fun c hc=>h c (by simp[hc]))
theorem Y6 {t:Bs} (h:((t.all fun c=>Qr c.toNat)&&QK (hd t))=true):IdW t t:=by
 simp only[zk,List.all_eq_true]at h
 exact QvM h.1 h.2
theorem Qsj:∀m:Fin 7,IdW (VR.getD m.val []) (VR.getD m.val [])/\low (VR.getD m.val [])=VR.getD m.val []:=by
 intro m
 have h:∀m:Fin 7,(((VR.getD m.val []).all fun c=>Qr c.toNat)&&QK (hd (VR.getD m.val [])))=true/\low (VR.getD m.val [])=VR.getD m.val []:=by decide
 exact⟨Y6 (h m).1,(h m).2⟩
end Way
end
section
namespace Way
set_option maxRecDepth 20000
theorem QbM.mono {d d':Nat} {l:List CSel} {pe t:Bs} (h:QbM d l pe t) (hd:d<=d'):QbM d' l pe t:=⟨h.1,fun s acc k i r l0 hk=>h.2 s acc k i r l0 (by omega)⟩
theorem Qdd.mono {d d':Nat} {x:CSel} {p:Bool} {t:Bs} (h:Qdd d x p t) (hd:d<=d'):Qdd d' x p t:=⟨h.1,fun s acc k i r hk=>h.2 s acc k i r (by omega)⟩
theorem QdH.mono {d d':Nat} {x:CSel} {p:Bool} {t:Bs} (h:QdH d x p t) (hd:d<=d'):QdH d' x p t:=⟨h.1,fun s acc k i r hk=>h.2 s acc k i r (by omega)⟩
theorem SlS.mono {d d':Nat} {x:CSel} {p:Bool} {t:Bs} (h:SlS d x p t) (hd:d<=d'):SlS d' x p t:=⟨h.1,fun s acc k i r hk=>h.2 s acc k i r (by omega)⟩
theorem QfB.mono {d d':Nat} {l:List CSel} {p:Bool} {t:Bs} (h:QfB d l p t) (hd:d<=d'):QfB d' l p t:=⟨h.1,fun s acc k i r l0 hk=>h.2 s acc k i r l0 (by omega)⟩
theorem Qox.mono {d d':Nat} {l:List CSel} {p:Bool} {t:Bs} (h:Qox d l p t) (hd:d<=d'):Qox d' l p t:=⟨h.1,fun s acc k i r hk=>h.2 s acc k i r (by omega)⟩
mutual
def ST.ht':ST->Nat
 | .mk _ ks=>ST.hts' ks+1
def ST.hts':List ST->Nat
 | []=>0
 | t::l=>max (ST.ht' t) (ST.hts' l)
end
def hasP (T:ST):Bool:=T.flat.any Qv0
theorem Qir:WsL [32]:=fun c hc=>by rw[zW.1 hc];decide
end Way
end
section
set_option maxRecDepth 20000
theorem Ux {c:Nat} (h:c<256):(JQ c).length<=4:=by
 obtain⟨ds,e1,_,_,_,e5⟩:=Way.Qn3 c 2 [] (by simpa using h)
 unfold JQ
 rw[e1]
 simp;omega
theorem QmV (c:UInt8):c.toNat<256:=c.toNat_lt
theorem nmP_len (h i:Nat) (c:UInt8):(nmP h i c).length<=4:=by
 unfold nmP
 have:=Ux (QmV c)
 split
 exact this
 split<;>simp
theorem nmF_len (h:Nat):∀(i:Nat) (u:Bs),(nmF h i u).length<=4*u.length
 | _,[]=>by simp[nmF]
 | i,c::u=>by
  have:=nmP_len h i c
  have:=nmF_len h (i+1) u
  rw[nmF,zh,zj];omega
theorem Qgo (s:Bs):(JL s).length<=4*s.length:=by
 unfold JL
 split
 rename_i h;subst h;simp
 exact nmF_len _ 0 s
theorem Qh3:∀(k n:Nat),n<10^k->1<=k->(Jz n).length<=k
 | 0,n,_,h=>by omega
 | k+1,n,h,_=>by
  rw[Jz]
  split
  simp;omega
  rename_i hn
  rw[Nat.pow_succ]at h
  have hk:1<=k:=by
   rcases k with _ | k
   simp at h;omega
   omega
  have h1:=Qh3 k (n/10) (by omega) hk
  have h2:(Jz (n%10)).length<=1:=by rw[Jz,if_pos (Nat.mod_lt _ (by decide))];simp;omega
  rw[zh];omega
end
section
open Go Go.RowKit
set_option maxRecDepth 20000
theorem YW {K:Out->Option SB->Prop} {a c:List UInt8} (hk:K (.val (.str a)) none) (e:a=c):K (.val (.str c)) none:=by rw[e]at hk;exact hk
theorem QoR {s:Bs} {i:Nat} (h:i<s.length):(s.take (i+1)).drop i=[s.getD i 0]:=by
 rw[List.drop_take,Nat.add_sub_cancel_left,zI h,List.take_succ_cons,List.take_zero]
 simp[zd,zg h]
theorem dropc {s:Bs} {i:Nat} (h:i<s.length):s.drop i=s.getD i 0::s.drop (i+1):=by
 rw[zI h]
 simp[zd,zg h]
theorem Qd9 (s:Bs) (i:Nat):bat s i<256:=QmV _
theorem Qht {s o P X:Bs} {h i:Nat} (h1:i<s.length) (k2:o++nmF h i (s.drop i)=X) (e:nmP h i (s.getD i 0)=P):(o++P)++nmF h (i+1) (s.drop (i+1))=X:=by
 rw[dropc h1,nmF,e]at k2
 rw[zw];exact k2
theorem nmP_1 {s:Bs} {i:Nat} (h:((bat s i<32\/bat s i=127)\/(48<=bat s i/\bat s i<=57)/\(i=0\/i=1/\bat s 0=45))\/(bat s i=45/\i=1)/\bat s 0=45):nmP (bat s 0) i (s.getD i 0)=JQ (bat s i):=by
 unfold nmP
 rw[if_pos]
 rfl
 show bat s i<32\/bat s i=127\/(Qu (bat s i)=true/\(i=0\/(i=1/\bat s 0=45)))\/(bat s i=45/\i=1/\bat s 0=45)
 simp only[Qu,zk,decide_eq_true_eq];omega
theorem Qt3 {s:Bs} {i:Nat} (h:((32<=bat s i/\¬bat s i=127)/\(48<=bat s i->bat s i<=57->¬i=0/\(i=1->¬bat s 0=45)))/\(bat s i=45->i=1->¬bat s 0=45)) :
 nmP (bat s 0) i (s.getD i 0)=if Qr (bat s i)=true then [s.getD i 0] else [92,s.getD i 0]:=by
 unfold nmP
 rw[if_neg]
 rfl
 show ¬(bat s i<32\/bat s i=127\/(Qu (bat s i)=true/\(i=0\/(i=1/\bat s 0=45)))\/(bat s i=45/\i=1/\bat s 0=45))
 simp only[Qu,zk,decide_eq_true_eq];omega
def fitB (x:SelD):Bool := !decide (2147483647<x.key.length) && !decide (2147483647<x.val.length)
def Qux (s:Bs):Bool:=(List.range s.length).all (fun i => !(decide (128<=bat s i)||(decide (65<=bat s i)&&decide (bat s i<=90))))
def c30i (svs:List SV) (b:Option SB):QR:=match svs,b with
 | [.agg [.int .i64 k,.int .i64 o,.str ke,.str va,.int .i64 a,.int .i64 bb,.int .i64 fl,.int .i64 sz]],none=>some ([],.bool (fitB ⟨k,o,ke,va,a,bb,fl,sz⟩))
 | _,_=>none
def c31 (svs:List SV) (b:Option SB):QR:=match svs,b with
 | [.str s],none=>some ([s.length<=1000000000000],.bool (Qux s))
 | _,_=>none
def c88 (svs:List SV) (b:Option SB):QR:=match svs,b with
 | [.nat n],none=>some ([n<=2147483647],.str (JQ n))
 | _,_=>none
noncomputable def W88:Wk:=⟨[],Qe Tryz.f88,false,false,[.tmp 2],[9],[(2,9)],[]⟩
theorem has88:Has 88:=hsf Tryz.f88
theorem Qi7 {p q:Prop} (k:q) (h:p:=by first | omega | (simp;done) | (simp;omega) | (simp only[zh,zR,zP,zj,zo];omega)):p/\q:=⟨h,k⟩
theorem sat88:Sat 88 (Qz c88):=by
 have hD:Qa W88.D:=Qa.nil
 refine W88.sa hD Tryz.f88 fun svs b K hP=>?_
 obtain⟨ps,v,e,hp,hk⟩:=Qh hP
 unfold c88 at e
 split at e
 rename_i n
 cases e
 obtain⟨h01,_⟩:=hp
 have L2:∀(mm:Nat) (c:Nat) (o:List UInt8),c=mm->(QfP n []=QfP c o/\o.length+c<=2147483647)->W88.L K 2 (mkS 19 [(0,(.nat c)),(3,(.str o))] [] 1):=by
  intro mm
  induction mm using zl with
  | _ mm ih=>
   intro c o hm hI
   obtain⟨k1,k2⟩:=hI
   refine W88.aL hD (have a0:=([48,49,50,51,52,53,54,55,56,57,97,98,99,100,101,102]:List UInt8).take (c%16+1);cond (decide (0<c)) ((0<16)/\(0<16)/\(c%16+1<=9223372036854775807)/\(c%16<=c%16+1/\c%16+1<=16)/\((a0.drop (c%16)).length+o.length<=2305843009213693952)/\(c<=9223372036854775807/\0<16)/\(W88).L K 2 (mkS 19 [(0,(.nat (c/16))),(3,(.str (a0.drop (c%16)++o)))] [] 1)) ((1+o.length<=2305843009213693952)/\(([92]++o).length+1<=2305843009213693952)/\K (.val (.str ([92]++o++[32]))) none)) ?_
   refine Qb ?_ ?_<;>intro h1<;>try simp[-zd,-ze]at h1
   refine Qi7 (Qi7 (Qi7 (Qi7 (Qi7 (Qi7 ?_)))))
   have e:=k1
   rw[show QfP c o=_ from QfP.eq_1 c o,if_pos h1]at e
   exact ih _ (by omega) (c/16) _ rfl ⟨e,by simp only[zh,zR,zP,zj,zo];omega⟩
   refine Qi7 (Qi7 ?_)
   refine YW hk ?_
   unfold JQ
   rw[k1,QfP,if_neg (by omega)]
   rfl
 refine W88.en ((W88).L K 2 (mkS 19 [(0,(.nat n)),(3,(.str []))] [] 1)) ?_
 exact L2 _ n [] rfl ⟨rfl,by simp;omega⟩
 cases e
def c62 (svs:List SV) (b:Option SB):QR:=match svs,b with
 | [.str s],none=>some ([s.length<=100000],.str (JL s))
 | _,_=>none
noncomputable def W62:Wk:=⟨[(88,.pure c88),(89,.pure c89)],Qe Tryz.f62,false,false,[.tmp 2],[9],[(5,25)],[]⟩
theorem has62:Has 62:=hsf Tryz.f62
theorem nbz6 {c0 c1 p0 q:Prop} (k:q) (h:c0->c1->p0/\True:=by intro g0 g1;(try simp at g0);(try simp at g1);exact⟨(by first | omega | (simp;done) | (have q1:=Ux (Qd9 s i);omega) | (simp only[zh,zR,zP,zj,zo];omega)),trivial⟩):(c0->c1->p0/\True)/\q:=⟨h,k⟩
theorem nbz5 {c0 c1 c2 c3 p0 q:Prop} (k:q) (h:c0->c1->c2->c3->p0/\True:=by intro g0 g1 g2 g3;(try simp at g0);(try simp at g1);(try simp at g2);(try simp at g3);exact⟨(by first | omega | (simp;done) | (have q1:=Ux (Qd9 s i);omega) | (simp only[zh,zR,zP,zj,zo];omega)),trivial⟩):(c0->c1->c2->c3->p0/\True)/\q:=⟨h,k⟩
theorem QcN {p q:Prop} (k:q) (h:p:=by first | omega | (simp;done) | (have q1:=Ux (Qd9 s i);omega) | (simp only[zh,zR,zP,zj,zo];omega)):p/\q:=⟨h,k⟩
theorem sat62:Sat 62 (Qz c62):=by
 have hD:Qa W62.D:=(Qa.cons has88 sat88 (Qa.cons QgB Qf3 Qa.nil))
 refine W62.sa hD Tryz.f62 fun svs b K hP=>?_
 obtain⟨ps,v,e,hp,hk⟩:=Qh hP
 unfold c62 at e
 split at e
 rename_i s
 cases e
 obtain⟨h01,_⟩:=hp
 have L5:∀(mm:Nat) (i:Nat) (o:List UInt8),s.length-i=mm->(i<=s.length/\o++nmF (bat s 0) i (s.drop i)=nmF (bat s 0) 0 s/\o.length<=4*i/\s≠[45])->W62.L K 5 (mkS 84 [(0,(.str s)),(3,(.str o)),(4,(.nat i))] [] 1):=by
  intro mm
  induction mm using zl with
  | _ mm ih=>
   intro i o hm hI
   obtain⟨k1,k2,k3,k4⟩:=hI
   refine W62.aL hD (have a0:=((decide (bat s i<32))||(decide (bat s i=127)))||(((decide (48<=bat s i))&&(decide (bat s i<=57)))&&((decide (i=0))||((decide (i=1))&&(decide (bat s 0=45)))));have a1:=i+1<=9223372036854775807;have a2:=(s.take (i+1)).drop i;cond (decide (i<s.length)) ((i<s.length)/\(((decide (bat s i<32))||(decide (bat s i=127)))=false->((decide (48<=bat s i))&&(decide (bat s i<=57)))=true->(decide (i=0))=false->(decide (i=1))=true->(0<s.length)/\True)/\(a0=false->((decide (bat s i=45))&&(decide (i=1)))=true->(0<s.length)/\True)/\cond (a0||(((decide (bat s i=45))&&(decide (i=1)))&&(decide (bat s 0=45)))) ((bat s i<=2147483647)/\(o.length+(JQ (bat s i)).length<=2305843009213693952)/\a1/\(W62).L K 5 (mkS 84 [(0,(.str s)),(3,(.str (o++(JQ (bat s i))))),(4,(.nat (i+1)))] [] 1)) (cond (Qr (bat s i)) (a1/\(i<=i+1/\i+1<=s.length)/\(o.length+a2.length<=2305843009213693952)/\a1/\(W62).L K 5 (mkS 84 [(0,(.str s)),(3,(.str (o++a2))),(4,(.nat (i+1)))] [] 1)) (a1/\(i<=i+1/\i+1<=s.length)/\(1+a2.length<=2305843009213693952)/\(o.length+([92]++a2).length<=2305843009213693952)/\a1/\(W62).L K 5 (mkS 84 [(0,(.str s)),(3,(.str (o++([92]++a2)))),(4,(.nat (i+1)))] [] 1)))) (K (.val (.str o)) none)) ?_
   refine Qb ?_ ?_<;>intro h1<;>try simp[-zd,-ze]at h1
   refine QcN (nbz5 (nbz6 ?_))
   refine Qb ?_ ?_<;>intro h2<;>try simp[-zd,-ze]at h2
   refine QcN (QcN (QcN ?_))
   have q1:=Ux (Qd9 s i)
   exact ih _ (by omega) (i+1) _ rfl ⟨by omega,Qht h1 k2 (nmP_1 h2),by rw[zh];omega,k4⟩
   refine Qb (fun h3=>?_) (fun h3=>?_)
   try simp[-zd,-ze]at h3
   refine QcN (QcN (QcN (QcN ?_)))
   rw[QoR h1]
   exact ih _ (by omega) (i+1) _ rfl ⟨by omega,Qht h1 k2 (by rw[Qt3 h2,if_pos h3]),by simp;omega,k4⟩
   try simp[-zd,-ze]at h3
   refine QcN (QcN (QcN (QcN (QcN ?_))))
   rw[QoR h1]
   exact ih _ (by omega) (i+1) _ rfl ⟨by omega,Qht h1 k2 (by rw[Qt3 h2,if_neg (by rw[h3];exact zq)];rfl),by simp;omega,k4⟩
   refine YW hk ?_
   unfold JL
   rw[if_neg k4,<-k2,List.drop_eq_nil_of_le h1,nmF,List.append_nil]
 refine W62.en (cond (decide (s=[45])) (K (.val (.str [92,45])) none) ((W62).L K 5 (mkS 84 [(0,(.str s)),(3,(.str [])),(4,(.nat 0))] [] 1))) ?_
 refine Qb ?_ ?_<;>intro h1<;>try simp[-zd,-ze]at h1
 refine YW hk ?_
 unfold JL
 rw[if_pos h1]
 exact L5 _ 0 [] rfl ⟨by omega,rfl,by simp,h1⟩
 cases e
def c53 (svs:List SV) (b:Option SB):QR:=match svs,b with
 | [x],none=>match Qdf x with
  | some x=>some ([x.key.length<=1000000/\x.val.length<=1000000],.bool (fldB x))
  | _=>none
 | _,_=>none
end
end Go.Proofs.YtengepcafdnalaaGreatDoor
