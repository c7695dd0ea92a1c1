/-
  Parts of the proof that the law FnPrintBack holds for every input (texts Wa). Conditions: none.
-/
import Derived.Test.YtengepcafdnalaaGreatDoorM30
namespace Go.Proofs.YtengepcafdnalaaGreatDoor
open _root_.Bool renaming false_ne_true → zq, or_eq_false_iff → zT, or_eq_true → zx, and_eq_true → zk
open _root_.List renaming getD_eq_getElem?_getD → zd, exists_cons_of_ne_nil → zX, append_assoc → zw, replicate → zM, length_replicate → z7
section
namespace Way
set_option maxRecDepth 20000
def hd (r:Bs):Nat:=match r with
 | []=>0
 | c::_=>c.toNat
section
variable {s:Bs}
theorem d1 {i:Nat} {c:UInt8} {r:Bs} (h:s.drop i=c::r):i<s.length/\bat s i=c.toNat/\s.getD i 0=c/\s.drop (i+1)=r:=by
 have hl:i<s.length:=by
  have:=congrArg List.length h
  simp at this;omega
 have hg:s[i]? = some c:=by
  have:(s.drop i)[0]? = some c:=by rw[h];rfl
  rw[List.getElem?_drop]at this
  simpa using this
 refine⟨hl,?_,?_,?_⟩
 simp[bat,zd,hg]
 simp[zd,hg]
 rw[<-List.drop_drop,h];rfl
theorem dA {i:Nat} {t r:Bs} (h:s.drop i=t++r):s.drop (i+t.length)=r:=by
 rw[<-List.drop_drop,h,List.drop_left]
theorem bhd {i:Nat} {r:Bs} (h:s.drop i=r):bat s i=hd r:=by
 match r,h with
 | [],h=>
  have:s.length<=i:=by simpa using h
  simp[bat,zd,List.getElem?_eq_none this,hd]
 | c::r,h=>exact (d1 h).2.1
theorem lhd {i:Nat} {r:Bs} (h:s.drop i=r) (hz:r≠[]):i<s.length:=by
 match r,h,hz with
 | c::r,h,_=>exact (d1 h).1
theorem nhd {i:Nat} (h:s.drop i=[]):s.length<=i:=by simpa using h
theorem Qjt {r:Bs} (h:hd r≠0):r≠[]:=by
 intro e;subst e;exact h rfl
theorem Vm {t r:Bs} (h:t≠[]):hd (t++r)=hd t:=by
 match t,h with
 | c::t,_=>rfl
theorem Quk {j:Nat} {t r:Bs} (h:s.drop j=t++r):(s.take (j+t.length)).drop j=t:=by
 rw[List.drop_take,h,Nat.add_sub_cancel_left,List.take_left]
end
inductive Es:Bs->Bs->Prop
 | hex (ds:Bs) (h0:ds≠[]) (h1:ds.length<=6) (h2:∀c∈ds,QI c.toNat=true) (h3:YM (VH ds:Nat)≠[]):Es (YM (VH ds:Nat)) (92::(ds++[32]))
 | lit (c:UInt8) (h1:QI c.toNat=false) (h2:YI c.toNat=false):Es [c] [92,c]
theorem QqB {c:Nat} (h:QI c=true):YI c=false:=by
 simp[QI]at h
 simp[YI];omega
theorem Es.shape {v t:Bs} (h:Es v t):v≠[]/\∃c u,t=92::c::u/\YI c.toNat=false:=by
 cases h with
 | hex ds h0 h1 h2 h3=>
  refine⟨h3,?_⟩
  obtain⟨c,ds',rfl⟩:=zX h0
  exact⟨c,_,rfl,QqB (h2 c (by simp))⟩
 | lit c h1 h2=>exact⟨by simp,c,[],rfl,h2⟩
section
variable {s:Bs}
theorem Qgy:∀(ds:Bs) (k i:Nat) (r:Bs),ds.length<=k->(∀c∈ds,QI c.toNat=true)->s.drop i=ds++r->QI (hd r)=false->QD s k i=i+ds.length
 | [],0,i,r,_,_,_,_=>rfl
 | [],k+1,i,r,_,_,h,hr=>by
  unfold QD
  rw[if_neg]
  rfl
  rintro⟨_,q⟩
  rw[bhd h]at q
  simp only[List.nil_append]at q
  rw[hr]at q;cases q
 | c::ds,0,i,r,hk,_,_,_=>by simp at hk
 | c::ds,k+1,i,r,hk,h2,h,hr=>by
  obtain⟨q1,q2,q3,q4⟩:=d1 h
  unfold QD
  rw[if_pos ⟨q1,by rw[q2];exact h2 c (by simp)⟩,Qgy ds k (i+1) r (by simp at hk;omega) (fun c hc=>h2 c (by simp[hc])) q4 hr]
  simp;omega
theorem Qml {v t:Bs} (h:Es v t) {i:Nat} {r:Bs} (e:s.drop i=t++r):Y2 s i=some (v,i+t.length):=by
 cases h with
 | hex ds h0 h1 h2 h3=>
  obtain⟨q1,q2,q3,q4⟩:=d1 e
  have q5:s.drop (i+1)=ds++(32::r):=by rw[q4];simp
  have q6:=Qgy ds 6 (i+1) (32::r) h1 h2 q5 (show QI 32=false by decide)
  obtain⟨w1,w2,w3,w4⟩:=d1 (dA q5)
  have q7:QI (bat s (i+1))=true:=by
   obtain⟨c,ds',rfl⟩:=zX h0
   rw[(d1 q5).2.1];exact h2 c (by simp)
  unfold Y2
  rw[if_neg (by simp only[not_or,Decidable.not_not];exact⟨by omega,by rw[q2];rfl⟩),if_neg (by rw[QqB q7];exact zq),if_pos q7,q6,Quk q5]
  have q8:Vb s (i+1+ds.length)=i+1+ds.length+1:=by
   unfold Vb
   rw[if_pos w1,if_neg (by rw[w2];decide),if_pos (by rw[w2];decide)]
  rw[q8]
  simp;omega
 | lit c h1 h2=>
  obtain⟨q1,q2,q3,q4⟩:=d1 e
  obtain⟨w1,w2,w3,w4⟩:=d1 q4
  unfold Y2
  rw[if_neg (by simp only[not_or,Decidable.not_not];exact⟨by omega,by rw[q2];rfl⟩),if_neg (by rw[w2,h2];exact zq),if_neg (by rw[w2,h1];exact zq),w3]
  rfl
end
inductive NmW:Bs->Bs->Prop
 | nil:NmW [] []
 | raw {c:UInt8} {v t:Bs} (h:Qr c.toNat=true) (k:NmW v t):NmW (c::v) (c::t)
 | esc {a b v t:Bs} (h:Es a b) (k:NmW v t):NmW (a++v) (b++t)
def Y9 (r:Bs):Prop:=Qr (hd r)=false/\hd r≠92
theorem NmW.ne {v t:Bs} (h:NmW v t) (ht:t≠[]):v≠[]:=by
 cases h with
 | nil=>exact ht
 | raw h k=>simp
 | esc h k=>have:=h.shape.1;simp[this]
theorem NmW.app {v t v' t':Bs} (h:NmW v t) (k:NmW v' t'):NmW (v++v') (t++t'):=by
 induction h with
 | nil=>exact k
 | raw hc _ ih=>exact .raw hc ih
 | esc he _ ih=>rw[zw,zw];exact .esc he ih
section
variable {s:Bs}
theorem QnR {v t:Bs} (h:NmW v t):∀(i:Nat) (r acc:Bs),s.drop i=t++r->Y9 r->Q9 s i acc=some (acc++v,i+t.length):=by
 induction h with
 | nil=>
  intro i r acc e hs
  have hb:bat s i=hd r:=bhd e
  rw[Q9]
  split
  rw[if_neg (by rw[hb,hs.1];exact zq),if_neg (by rw[hb];exact hs.2)];simp
  simp
 | raw hc k ih=>
  intro i r acc e hs
  obtain⟨h1,h2,h3,h4⟩:=d1 e
  rw[Q9,if_pos h1,if_pos (by rw[h2];exact hc),h3,ih (i+1) r _ h4 hs]
  simp;omega
 | @esc a b v t he k ih=>
  intro i r acc e hs
  obtain⟨_,c,u,hb,_⟩:=he.shape
  rw[zw]at e
  have e':=e
  rw[hb]at e'
  obtain⟨h1,h2,h3,h4⟩:=d1 e'
  have hE:=Qml he e
  rw[Q9,if_pos h1,if_neg (by rw[h2];decide),if_pos (by rw[h2];rfl)]
  split
  rename_i hv;rw[hE]at hv;cases hv
  rename_i v' j hv
  rw[hE]at hv
  cases hv
  rw[ih _ r _ (dA e) hs]
  simp;omega
theorem Qjl {v t:Bs} (h:NmW v t) (ht:t≠[]) {i:Nat} {r:Bs} (e:s.drop i=t++r) (hs:Y9 r):VY s i=some (v,i+t.length):=by
 have hv:=h.ne ht
 unfold VY
 rw[QnR h i r [] e hs,List.nil_append]
 match v,hv with
 | c::v,_=>rfl
end
def IdW (v t:Bs):Prop:=∃(k:Nat) (v' t':Bs),v=zM k 45++v'/\t=zM k 45++t'/\NmW v' t'/\(QK (hd t')=true\/hd t'=92)
theorem QiB {t:Bs} (h:QK (hd t)=true\/hd t=92):hd t≠45/\t≠[]:=by
 have h0:hd t≠0/\hd t≠45:=by
  rcases h with h | h
  simp[QK]at h;omega
  omega
 exact⟨h0.2,Qjt h0.1⟩
theorem IdW.head {v t:Bs} (h:IdW v t):t≠[]/\v≠[]/\(hd t=45\/QK (hd t)=true\/hd t=92):=by
 obtain⟨k,v',t',rfl,rfl,hn,hh⟩:=h
 have h1:=(QiB hh).2
 have h2:=hn.ne h1
 refine⟨by simp[h1],by simp[h2],?_⟩
 cases k with
 | zero=>right;simpa using hh
 | succ k=>left;rfl
theorem IdW.nm {v t:Bs} (h:IdW v t):NmW v t:=by
 obtain⟨k,v',t',rfl,rfl,hn,hh⟩:=h
 refine NmW.app ?_ hn
 clear hn hh
 induction k with
 | zero=>exact .nil
 | succ k ih=>exact .raw (by decide) ih
section
variable {s:Bs}
theorem Qjq:∀(k i:Nat) (r:Bs),s.drop i=zM k 45++r->hd r≠45->Yp s i=i+k
 | 0,i,r,e,hr=>by
  rw[Yp,if_neg]
  rfl
  rintro⟨_,q⟩
  rw[bhd e]at q
  exact hr q
 | k+1,i,r,e,hr=>by
  obtain⟨h1,h2,h3,h4⟩:=d1 e
  rw[Yp,if_pos ⟨h1,by rw[h2];rfl⟩,Qjq k (i+1) r h4 hr]
  omega
theorem Zj {v t:Bs} (h:IdW v t) {i:Nat} {r:Bs} (e:s.drop i=t++r) (hs:Y9 r):Qx s i=some (v,i+t.length):=by
 obtain⟨k,v',t',rfl,rfl,hn,hh⟩:=h
 obtain⟨h1,h2⟩:=QiB hh
 rw[zw]at e
 have q1:=Qjq k i (t'++r) e (by rw[Vm h2];exact h1)
 have q2:s.drop (i+k)=t'++r:=by
  have:=dA e
  rwa [z7]at this
 have q3:=bhd q2
 rw[Vm h2]at q3
 unfold Qx
 rw[q1,q3,if_pos ⟨lhd q2 (by simp[h2]),hh⟩,Qjl hn h2 q2 hs]
 simp;omega
end
def WsL (g:Bs):Prop:=∀c∈g,VO c.toNat=true
def Yg (r:Bs):Prop:=VO (hd r)=false/\hd r≠47
theorem WsL.nil:WsL []:=fun _ h=>by cases h
section
variable {s:Bs}
theorem Ym:∀(g:Bs) (i:Nat) (r:Bs),s.drop i=g++r->WsL g->Yg r->iWs s i=i+g.length
 | [],i,r,e,_,hr=>by
  have hb:bat s i=hd r:=bhd e
  rw[iWs]
  split
  rw[if_neg (by rw[hb,hr.1];exact zq),if_neg (by rw[hb];exact fun q=>hr.2 q.2.1)];rfl
  rfl
 | c::g,i,r,e,hg,hr=>by
  obtain⟨h1,h2,h3,h4⟩:=d1 e
  rw[iWs,if_pos h1,if_pos (by rw[h2];exact hg c (by simp)),Ym g (i+1) r h4 (fun c hc=>hg c (by simp[hc])) hr]
  simp;omega
theorem iWs_0 {i:Nat} {r:Bs} (e:s.drop i=r) (hr:Yg r):iWs s i=i:=Ym [] i r e .nil hr
end
inductive StW (q:Nat):Bs->Bs->Prop
 | nil:StW q [] []
 | raw {c:UInt8} {v t:Bs} (h:c.toNat≠q/\c.toNat≠92/\YI c.toNat=false) (k:StW q v t):StW q (c::v) (c::t)
 | esc {a b v t:Bs} (h:Es a b) (k:StW q v t):StW q (a++v) (b++t)
section
variable {s:Bs}
theorem QoL {q:UInt8} (hq:q.toNat≠92) {v t:Bs} (h:StW q.toNat v t):∀(i:Nat) (r acc:Bs),s.drop i=t++(q::r)->Vk s q.toNat i acc=some (acc++v,i+t.length+1):=by
 induction h with
 | nil=>
  intro i r acc e
  obtain⟨h1,h2,h3,h4⟩:=d1 e
  rw[Vk,if_pos h1,if_neg (by rw[h2];exact hq),if_pos h2];simp
 | raw hc k ih=>
  intro i r acc e
  obtain⟨h1,h2,h3,h4⟩:=d1 e
  rw[Vk,if_pos h1,if_neg (by rw[h2];exact hc.2.1),if_neg (by rw[h2];exact hc.1),if_neg (by rw[h2,hc.2.2];exact zq),h3,ih (i+1) r _ h4]
  simp;omega
 | @esc a b v t he k ih=>
  intro i r acc e
  obtain⟨_,c,u,hb,hnl⟩:=he.shape
  rw[zw]at e
  have e':=e
  rw[hb]at e'
  obtain⟨h1,h2,h3,h4⟩:=d1 e'
  obtain⟨w1,w2,w3,w4⟩:=d1 h4
  have hE:=Qml he e
  simp only[YI,zT,decide_eq_false_iff_not]at hnl
  rw[Vk,if_pos h1,if_pos (by rw[h2];rfl),if_neg (by rw[w2];exact fun q=>hnl.1.1 q.2),if_neg (by rw[w2];exact fun q=>q.2.elim hnl.1.2 hnl.2)]
  split
  rename_i hv;rw[hE]at hv;cases hv
  rename_i v' j hv
  rw[hE]at hv
  cases hv
  rw[ih _ r _ (dA e)]
  simp;omega
theorem Qmg {q:UInt8} (hq:q.toNat≠92) {v t:Bs} (h:StW q.toNat v t) {i:Nat} {r:Bs} (e:s.drop i=q::(t++(q::r))):ZB s i=some (v,i+(t.length+2)):=by
 obtain⟨h1,h2,h3,h4⟩:=d1 e
 have h5:=lhd (dA h4) (by simp)
 unfold ZB
 rw[if_neg (by omega),h2,QoL hq h (i+1) r [] h4]
 simp;omega
end
def Qlt (v t:Bs):Prop:=IdW v t\/∃(q:UInt8) (u:Bs),(q=39\/q=34)/\StW q.toNat v u/\t=q::(u++[q])
theorem QcQ {t:Bs} (h:hd t=45\/QK (hd t)=true\/hd t=92):¬(hd t=39\/hd t=34)/\hd t≠42/\Qv (hd t)=false/\VO (hd t)=false/\hd t≠47/\Vf (hd t)=false/\hd t≠44/\hd t≠41/\hd t≠58:=by
 simp only[QK,zx,zk,decide_eq_true_eq]at h
 simp[Qv,VO,Vf]
 omega
section
variable {s:Bs}
theorem QoC {v t:Bs} (h:Qlt v t) {i:Nat} {r:Bs} (e:s.drop i=t++r) (hs:Y9 r):(if bat s i=39\/bat s i=34 then ZB s i else Qx s i)=some (v,i+t.length):=by
 rcases h with h | ⟨q,u,hq,hu,rfl⟩
 have h1:=h.head
 rw[bhd e,Vm h1.1,if_neg (QcQ h1.2.2).1]
 exact Zj h e hs
 have e':s.drop i=q::(u++(q::r)):=by rw[e];simp
 have hb:=(d1 e').2.1
 rw[hb,if_pos (by rcases hq with rfl | rfl<;>decide),Qmg (by rcases hq with rfl | rfl<;>decide) hu e']
 simp
theorem Qlt.ne {v t:Bs} (h:Qlt v t):t≠[]/\VO (hd t)=false/\hd t≠47:=by
 rcases h with h | ⟨q,u,hq,hu,rfl⟩
 have h1:=h.head
 have h2:=QcQ h1.2.2
 exact⟨h1.1,h2.2.2.2.1,h2.2.2.2.2.1⟩
 refine⟨by simp,?_,?_⟩
 show VO q.toNat=false
 rcases hq with rfl | rfl<;>decide
 show q.toNat≠47
 rcases hq with rfl | rfl<;>decide
end
end Way
end
end Go.Proofs.YtengepcafdnalaaGreatDoor
