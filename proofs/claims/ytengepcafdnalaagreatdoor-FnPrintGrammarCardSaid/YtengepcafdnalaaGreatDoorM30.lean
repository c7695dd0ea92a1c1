/-
  Parts of the proof that the law FnPrintGrammar holds for every input (texts Wa). Conditions: none.
-/
import Derived.Test.YtengepcafdnalaaGreatDoorM29
namespace Go.Proofs.YtengepcafdnalaaGreatDoor
open _root_.Bool renaming false_ne_true → zo, or_eq_false_iff → zz, or_eq_true → zu, and_eq_true → zh
open _root_.List renaming getD_eq_getElem?_getD → za, exists_cons_of_ne_nil → zJ, nil_append → zW, append_assoc → zq, replicate → zR, length_replicate → xf
section
namespace Way
set_option maxRecDepth 20000
def hd (r:Bs):Nat:=match r with
 | []=>0
 | c::_=>c.toNat
section
variable {s:Bs}
theorem d1 {i:Nat} {c:UInt8} {r:Bs} (h:s.drop i=c::r):i<s.length/\bat s i=c.toNat/\s.getD i 0=c/\s.drop (i+1)=r:=by
 have hl:i<s.length:=by
  have:=congrArg List.length h
  simp at this;omega
 have hg:s[i]? = some c:=by
  have:(s.drop i)[0]? = some c:=by rw[h];rfl
  rw[List.getElem?_drop]at this
  simpa using this
 refine⟨hl,?_,?_,?_⟩
 simp[bat,za,hg]
 simp[za,hg]
 rw[<-List.drop_drop,h];rfl
theorem dA {i:Nat} {t r:Bs} (h:s.drop i=t++r):s.drop (i+t.length)=r:=by
 rw[<-List.drop_drop,h,List.drop_left]
theorem bhd {i:Nat} {r:Bs} (h:s.drop i=r):bat s i=hd r:=by
 match r,h with
 | [],h=>
  have:s.length<=i:=by simpa using h
  simp[bat,za,List.getElem?_eq_none this,hd]
 | c::r,h=>exact (d1 h).2.1
theorem lhd {i:Nat} {r:Bs} (h:s.drop i=r) (hz:r≠[]):i<s.length:=by
 match r,h,hz with
 | c::r,h,_=>exact (d1 h).1
theorem nhd {i:Nat} (h:s.drop i=[]):s.length<=i:=by simpa using h
theorem Qki {r:Bs} (h:hd r≠0):r≠[]:=by
 intro e;subst e;exact h rfl
theorem VQ {t r:Bs} (h:t≠[]):hd (t++r)=hd t:=by
 match t,h with
 | c::t,_=>rfl
theorem Qvj {j:Nat} {t r:Bs} (h:s.drop j=t++r):(s.take (j+t.length)).drop j=t:=by
 rw[List.drop_take,h,Nat.add_sub_cancel_left,List.take_left]
end
inductive Es:Bs->Bs->Prop
 | hex (ds:Bs) (h0:ds≠[]) (h1:ds.length<=6) (h2:∀c∈ds,QK c.toNat=true) (h3:Y6 (VN ds:Nat)≠[]):Es (Y6 (VN ds:Nat)) (92::(ds++[32]))
 | lit (c:UInt8) (h1:QK c.toNat=false) (h2:YL c.toNat=false):Es [c] [92,c]
theorem Qro {c:Nat} (h:QK c=true):YL c=false:=by
 simp[QK]at h
 simp[YL];omega
theorem Es.shape {v t:Bs} (h:Es v t):v≠[]/\∃c u,t=92::c::u/\YL c.toNat=false:=by
 cases h with
 | hex ds h0 h1 h2 h3=>
  refine⟨h3,?_⟩
  obtain⟨c,ds',rfl⟩:=zJ h0
  exact⟨c,_,rfl,Qro (h2 c (by simp))⟩
 | lit c h1 h2=>exact⟨by simp,c,[],rfl,h2⟩
section
variable {s:Bs}
theorem Qg5:∀(ds:Bs) (k i:Nat) (r:Bs),ds.length<=k->(∀c∈ds,QK c.toNat=true)->s.drop i=ds++r->QK (hd r)=false->QE s k i=i+ds.length
 | [],0,i,r,_,_,_,_=>rfl
 | [],k+1,i,r,_,_,h,hr=>by
  unfold QE
  rw[if_neg]
  rfl
  rintro⟨_,q⟩
  rw[bhd h]at q
  simp only[zW]at q
  rw[hr]at q;cases q
 | c::ds,0,i,r,hk,_,_,_=>by simp at hk
 | c::ds,k+1,i,r,hk,h2,h,hr=>by
  obtain⟨q1,q2,q3,q4⟩:=d1 h
  unfold QE
  rw[if_pos ⟨q1,by rw[q2];exact h2 c (by simp)⟩,Qg5 ds k (i+1) r (by simp at hk;omega) (fun c hc=>h2 c (by simp[hc])) q4 hr]
  simp;omega
theorem Qnc {v t:Bs} (h:Es v t) {i:Nat} {r:Bs} (e:s.drop i=t++r):Y8 s i=some (v,i+t.length):=by
 cases h with
 | hex ds h0 h1 h2 h3=>
  obtain⟨q1,q2,q3,q4⟩:=d1 e
  have q5:s.drop (i+1)=ds++(32::r):=by rw[q4];simp
  have q6:=Qg5 ds 6 (i+1) (32::r) h1 h2 q5 (show QK 32=false by decide)
  obtain⟨w1,w2,w3,w4⟩:=d1 (dA q5)
  have q7:QK (bat s (i+1))=true:=by
   obtain⟨c,ds',rfl⟩:=zJ h0
   rw[(d1 q5).2.1];exact h2 c (by simp)
  unfold Y8
  rw[if_neg (by simp only[not_or,Decidable.not_not];exact⟨by omega,by rw[q2];rfl⟩),if_neg (by rw[Qro q7];exact zo),if_pos q7,q6,Qvj q5]
  have q8:Q7 s (i+1+ds.length)=i+1+ds.length+1:=by
   unfold Q7
   rw[if_pos w1,if_neg (by rw[w2];decide),if_pos (by rw[w2];decide)]
  rw[q8]
  simp;omega
 | lit c h1 h2=>
  obtain⟨q1,q2,q3,q4⟩:=d1 e
  obtain⟨w1,w2,w3,w4⟩:=d1 q4
  unfold Y8
  rw[if_neg (by simp only[not_or,Decidable.not_not];exact⟨by omega,by rw[q2];rfl⟩),if_neg (by rw[w2,h2];exact zo),if_neg (by rw[w2,h1];exact zo),w3]
  rfl
end
inductive NmW:Bs->Bs->Prop
 | nil:NmW [] []
 | raw {c:UInt8} {v t:Bs} (h:Qq c.toNat=true) (k:NmW v t):NmW (c::v) (c::t)
 | esc {a b v t:Bs} (h:Es a b) (k:NmW v t):NmW (a++v) (b++t)
def ZI (r:Bs):Prop:=Qq (hd r)=false/\hd r≠92
theorem NmW.ne {v t:Bs} (h:NmW v t) (ht:t≠[]):v≠[]:=by
 cases h with
 | nil=>exact ht
 | raw h k=>simp
 | esc h k=>have:=h.shape.1;simp[this]
theorem NmW.app {v t v' t':Bs} (h:NmW v t) (k:NmW v' t'):NmW (v++v') (t++t'):=by
 induction h with
 | nil=>exact k
 | raw hc _ ih=>exact .raw hc ih
 | esc he _ ih=>rw[zq,zq];exact .esc he ih
section
variable {s:Bs}
theorem QoB {v t:Bs} (h:NmW v t):∀(i:Nat) (r acc:Bs),s.drop i=t++r->ZI r->Vc s i acc=some (acc++v,i+t.length):=by
 induction h with
 | nil=>
  intro i r acc e hs
  have hb:bat s i=hd r:=bhd e
  rw[Vc]
  split
  rw[if_neg (by rw[hb,hs.1];exact zo),if_neg (by rw[hb];exact hs.2)];simp
  simp
 | raw hc k ih=>
  intro i r acc e hs
  obtain⟨h1,h2,h3,h4⟩:=d1 e
  rw[Vc,if_pos h1,if_pos (by rw[h2];exact hc),h3,ih (i+1) r _ h4 hs]
  simp;omega
 | @esc a b v t he k ih=>
  intro i r acc e hs
  obtain⟨_,c,u,hb,_⟩:=he.shape
  rw[zq]at e
  have e':=e
  rw[hb]at e'
  obtain⟨h1,h2,h3,h4⟩:=d1 e'
  have hE:=Qnc he e
  rw[Vc,if_pos h1,if_neg (by rw[h2];decide),if_pos (by rw[h2];rfl)]
  split
  rename_i hv;rw[hE]at hv;cases hv
  rename_i v' j hv
  rw[hE]at hv
  cases hv
  rw[ih _ r _ (dA e) hs]
  simp;omega
theorem Qj8 {v t:Bs} (h:NmW v t) (ht:t≠[]) {i:Nat} {r:Bs} (e:s.drop i=t++r) (hs:ZI r):Ya s i=some (v,i+t.length):=by
 have hv:=h.ne ht
 unfold Ya
 rw[QoB h i r [] e hs,zW]
 match v,hv with
 | c::v,_=>rfl
end
def IdW (v t:Bs):Prop:=∃(k:Nat) (v' t':Bs),v=zR k 45++v'/\t=zR k 45++t'/\NmW v' t'/\(QI (hd t')=true\/hd t'=92)
theorem Qi8 {t:Bs} (h:QI (hd t)=true\/hd t=92):hd t≠45/\t≠[]:=by
 have h0:hd t≠0/\hd t≠45:=by
  rcases h with h | h
  simp[QI]at h;omega
  omega
 exact⟨h0.2,Qki h0.1⟩
theorem IdW.head {v t:Bs} (h:IdW v t):t≠[]/\v≠[]/\(hd t=45\/QI (hd t)=true\/hd t=92):=by
 obtain⟨k,v',t',rfl,rfl,hn,hh⟩:=h
 have h1:=(Qi8 hh).2
 have h2:=hn.ne h1
 refine⟨by simp[h1],by simp[h2],?_⟩
 cases k with
 | zero=>right;simpa using hh
 | succ k=>left;rfl
theorem IdW.nm {v t:Bs} (h:IdW v t):NmW v t:=by
 obtain⟨k,v',t',rfl,rfl,hn,hh⟩:=h
 refine NmW.app ?_ hn
 clear hn hh
 induction k with
 | zero=>exact .nil
 | succ k ih=>exact .raw (by decide) ih
section
variable {s:Bs}
theorem Qke:∀(k i:Nat) (r:Bs),s.drop i=zR k 45++r->hd r≠45->Yn s i=i+k
 | 0,i,r,e,hr=>by
  rw[Yn,if_neg]
  rfl
  rintro⟨_,q⟩
  rw[bhd e]at q
  exact hr q
 | k+1,i,r,e,hr=>by
  obtain⟨h1,h2,h3,h4⟩:=d1 e
  rw[Yn,if_pos ⟨h1,by rw[h2];rfl⟩,Qke k (i+1) r h4 hr]
  omega
theorem ZP {v t:Bs} (h:IdW v t) {i:Nat} {r:Bs} (e:s.drop i=t++r) (hs:ZI r):QC s i=some (v,i+t.length):=by
 obtain⟨k,v',t',rfl,rfl,hn,hh⟩:=h
 obtain⟨h1,h2⟩:=Qi8 hh
 rw[zq]at e
 have q1:=Qke k i (t'++r) e (by rw[VQ h2];exact h1)
 have q2:s.drop (i+k)=t'++r:=by
  have:=dA e
  rwa [xf]at this
 have q3:=bhd q2
 rw[VQ h2]at q3
 unfold QC
 rw[q1,q3,if_pos ⟨lhd q2 (by simp[h2]),hh⟩,Qj8 hn h2 q2 hs]
 simp;omega
end
def WsL (g:Bs):Prop:=∀c∈g,VT c.toNat=true
def Ys (r:Bs):Prop:=VT (hd r)=false/\hd r≠47
theorem WsL.nil:WsL []:=fun _ h=>by cases h
section
variable {s:Bs}
theorem Y1:∀(g:Bs) (i:Nat) (r:Bs),s.drop i=g++r->WsL g->Ys r->iWs s i=i+g.length
 | [],i,r,e,_,hr=>by
  have hb:bat s i=hd r:=bhd e
  rw[iWs]
  split
  rw[if_neg (by rw[hb,hr.1];exact zo),if_neg (by rw[hb];exact fun q=>hr.2 q.2.1)];rfl
  rfl
 | c::g,i,r,e,hg,hr=>by
  obtain⟨h1,h2,h3,h4⟩:=d1 e
  rw[iWs,if_pos h1,if_pos (by rw[h2];exact hg c (by simp)),Y1 g (i+1) r h4 (fun c hc=>hg c (by simp[hc])) hr]
  simp;omega
theorem iWs_0 {i:Nat} {r:Bs} (e:s.drop i=r) (hr:Ys r):iWs s i=i:=Y1 [] i r e .nil hr
end
inductive StW (q:Nat):Bs->Bs->Prop
 | nil:StW q [] []
 | raw {c:UInt8} {v t:Bs} (h:c.toNat≠q/\c.toNat≠92/\YL c.toNat=false) (k:StW q v t):StW q (c::v) (c::t)
 | esc {a b v t:Bs} (h:Es a b) (k:StW q v t):StW q (a++v) (b++t)
section
variable {s:Bs}
theorem QpE {q:UInt8} (hq:q.toNat≠92) {v t:Bs} (h:StW q.toNat v t):∀(i:Nat) (r acc:Bs),s.drop i=t++(q::r)->Vl s q.toNat i acc=some (acc++v,i+t.length+1):=by
 induction h with
 | nil=>
  intro i r acc e
  obtain⟨h1,h2,h3,h4⟩:=d1 e
  rw[Vl,if_pos h1,if_neg (by rw[h2];exact hq),if_pos h2];simp
 | raw hc k ih=>
  intro i r acc e
  obtain⟨h1,h2,h3,h4⟩:=d1 e
  rw[Vl,if_pos h1,if_neg (by rw[h2];exact hc.2.1),if_neg (by rw[h2];exact hc.1),if_neg (by rw[h2,hc.2.2];exact zo),h3,ih (i+1) r _ h4]
  simp;omega
 | @esc a b v t he k ih=>
  intro i r acc e
  obtain⟨_,c,u,hb,hnl⟩:=he.shape
  rw[zq]at e
  have e':=e
  rw[hb]at e'
  obtain⟨h1,h2,h3,h4⟩:=d1 e'
  obtain⟨w1,w2,w3,w4⟩:=d1 h4
  have hE:=Qnc he e
  simp only[YL,zz,decide_eq_false_iff_not]at hnl
  rw[Vl,if_pos h1,if_pos (by rw[h2];rfl),if_neg (by rw[w2];exact fun q=>hnl.1.1 q.2),if_neg (by rw[w2];exact fun q=>q.2.elim hnl.1.2 hnl.2)]
  split
  rename_i hv;rw[hE]at hv;cases hv
  rename_i v' j hv
  rw[hE]at hv
  cases hv
  rw[ih _ r _ (dA e)]
  simp;omega
theorem Qm9 {q:UInt8} (hq:q.toNat≠92) {v t:Bs} (h:StW q.toNat v t) {i:Nat} {r:Bs} (e:s.drop i=q::(t++(q::r))):Jb s i=some (v,i+(t.length+2)):=by
 obtain⟨h1,h2,h3,h4⟩:=d1 e
 have h5:=lhd (dA h4) (by simp)
 unfold Jb
 rw[if_neg (by omega),h2,QpE hq h (i+1) r [] h4]
 simp;omega
end
def QkJ (v t:Bs):Prop:=IdW v t\/∃(q:UInt8) (u:Bs),(q=39\/q=34)/\StW q.toNat v u/\t=q::(u++[q])
theorem Qfr {t:Bs} (h:hd t=45\/QI (hd t)=true\/hd t=92):¬(hd t=39\/hd t=34)/\hd t≠42/\Qx (hd t)=false/\VT (hd t)=false/\hd t≠47/\Vg (hd t)=false/\hd t≠44/\hd t≠41/\hd t≠58:=by
 simp only[QI,zu,zh,decide_eq_true_eq]at h
 simp[Qx,VT,Vg]
 omega
section
variable {s:Bs}
theorem Qpt {v t:Bs} (h:QkJ v t) {i:Nat} {r:Bs} (e:s.drop i=t++r) (hs:ZI r):(if bat s i=39\/bat s i=34 then Jb s i else QC s i)=some (v,i+t.length):=by
 rcases h with h | ⟨q,u,hq,hu,rfl⟩
 have h1:=h.head
 rw[bhd e,VQ h1.1,if_neg (Qfr h1.2.2).1]
 exact ZP h e hs
 have e':s.drop i=q::(u++(q::r)):=by rw[e];simp
 have hb:=(d1 e').2.1
 rw[hb,if_pos (by rcases hq with rfl | rfl<;>decide),Qm9 (by rcases hq with rfl | rfl<;>decide) hu e']
 simp
theorem QkJ.ne {v t:Bs} (h:QkJ v t):t≠[]/\VT (hd t)=false/\hd t≠47:=by
 rcases h with h | ⟨q,u,hq,hu,rfl⟩
 have h1:=h.head
 have h2:=Qfr h1.2.2
 exact⟨h1.1,h2.2.2.2.1,h2.2.2.2.2.1⟩
 refine⟨by simp,?_,?_⟩
 show VT q.toNat=false
 rcases hq with rfl | rfl<;>decide
 show q.toNat≠47
 rcases hq with rfl | rfl<;>decide
end
end Way
end
end Go.Proofs.YtengepcafdnalaaGreatDoor
