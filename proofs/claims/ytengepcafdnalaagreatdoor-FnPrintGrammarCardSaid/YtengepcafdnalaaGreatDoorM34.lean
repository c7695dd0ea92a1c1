/-
  Parts of the proof that the law FnPrintGrammar holds for every input (texts Wh, Wi, Wj, Na, Nb, Nc). Conditions: none.
-/
import Derived.Test.YtengepcafdnalaaGreatDoorM33
namespace Go.Proofs.YtengepcafdnalaaGreatDoor
open _root_.Bool renaming and_eq_true → zh, not_eq_true' → zO, or_eq_false_iff → zz, and_eq_false_imp → zV, or_eq_true → zu, false_ne_true → zo, eq_false_iff → xH
open _root_.List renaming range → xa, mem_range → xE, drop_eq_getElem_cons → zG, getD_eq_getElem?_getD → za, getElem?_eq_getElem → ze, length_append → zf, length_take → zF, length_drop → zI, length_cons → zg, append_assoc → zq, map_cons → zY, getElem?_map → zB, getElem_of_mem → xl, length_eq_zero_iff → xh, length_nil → zl, foldl_cons → z8, mem_cons → zp, exists_cons_of_ne_nil → zJ, take_add_one → zN, take_of_length_le → zS, append_nil → zD, length_pos_iff → zw
open _root_.Nat renaming strongRecOn → zi, le_refl → zj, lt_succ_self → xC
open _root_.Option renaming map_some → zK
open _root_.UInt8 renaming toNat_or → zb
section
set_option maxRecDepth 20000
theorem Qax {n j:Nat} {p:Nat->Bool} (h:j<n) (e:p j=false):(xa n).all p=false:=by
 rw[List.all_eq_false]
 exact⟨j,xE.2 h,by simp[e]⟩
theorem U8 {n:Nat} {p:Nat->Bool} (e:∀j,j<n->p j=true):(xa n).all p=true:=by
 rw[List.all_eq_true]
 exact fun j hj=>e j (xE.1 hj)
theorem U9 {n:Nat} {p:Nat->Bool}:(xa n).all p=true ↔ ∀j,j<n->p j=true:=by
 rw[List.all_eq_true]
 exact⟨fun h j hj=>h j (xE.2 hj),fun h j hj=>h j (xE.1 hj)⟩
def Qi3 (f:Nat->Int->Bool) (l:List SelD) (fin:Int) (k:Nat):Bool:=
 if (k:Int)<fin then
  (if f k fin=true then (if 1<=(l.getD k default).size then Qi3 f l fin (k+(l.getD k default).size.toNat) else false) else false)
 else true
 termination_by (fin-k).toNat
 decreasing_by omega
def szB:Nat->List SelD->Nat->Int->Bool
 | 0,_,_,_=>false
 | m+1,l,i,e=>if (l.getD i default).size<1\/e-i<(l.getD i default).size then false else Qi3 (szB m l) l (i+(l.getD i default).size) (i+1)
theorem QaO {m:Nat} {l:List SelD} {i:Nat} {e:Int} (h:szB m l i e=true):1<=(l.getD i default).size/\(i:Int)+(l.getD i default).size<=e:=by
 cases m with
 | zero=>simp[szB]at h
 | succ m=>
  rw[szB]at h
  split at h
  cases h
  omega
def noSz (x:SelD):SelD:={ x with size:=0 }
theorem Qt0 {l:List SelD} {i n:Nat} {ks:List ST} (hi:i<l.length) (hn:n=(ST.flats ks).length+1) (hs:(l.getD i default).size=(n:Int)) (hk:(l.drop (i+1)).take (n-1)=ST.flats ks) :
 (l.drop i).take n=(ST.mk (noSz (l.getD i default)) ks).flat:=by
 have e:l.drop i=l.getD i default::l.drop (i+1):=by
  rw[zG hi]
  simp[za,ze hi]
 rw[e,hn,List.take_succ_cons,ST.flat,Qr]
 rw[hn]at hk hs
 simp only[Nat.add_sub_cancel]at hk
 rw[hk]
 congr 1
 generalize l.getD i default=y at hs
 obtain⟨_,_,_,_,_,_,_,_⟩:=y
 simp only[noSz]
 simp only at hs
 rw[hs]
 simp
mutual
def Zs:ST->Prop
 | .mk x ks=>x.size=0/\Zss ks
def Zss:List ST->Prop
 | []=>True
 | t::l=>Zs t/\Zss l
end
theorem QeG {l:List SelD}:∀(m i:Nat) (e:Int),szB m l i e=true->e<=l.length->∃T:ST,(l.drop i).take (l.getD i default).size.toNat=T.flat/\Zs T/\(l.getD i default).size.toNat=T.flat.length
 | 0,i,e,h,_=>by simp[szB]at h
 | m+1,i,e,h,he=>by
  obtain⟨q1,q2⟩:=QaO h
  rw[szB]at h
  split at h
  cases h
  rename_i h0
  have kids:∀(d k:Nat),(i+(l.getD i default).size-k).toNat=d->(k:Int)<=i+(l.getD i default).size->Qi3 (szB m l) l (i+(l.getD i default).size) k=true ->
   ∃ks:List ST,(l.drop k).take d=ST.flats ks/\Zss ks/\d=(ST.flats ks).length:=by
   intro d
   induction d using zi with
   | _ d ih=>
    intro k hd hk hg
    rw[Qi3]at hg
    split at hg
    . rename_i hlt
      split at hg
      . rename_i hf
        obtain⟨s1,s2⟩:=QaO hf
        obtain⟨T,t1,t2,t3⟩:=QeG m k _ hf (by omega)
        rw[if_pos s1]at hg
        obtain⟨ks,k1,k2,k3⟩:=ih (d-(l.getD k default).size.toNat) (by omega) (k+(l.getD k default).size.toNat) (by omega) (by omega) hg
        refine⟨T::ks,?_,⟨t2,k2⟩,?_⟩
        . rw[ST.flats,<-t1,<-k1,<-List.drop_drop]
          rw[show d=(l.getD k default).size.toNat+(d-(l.getD k default).size.toNat) by omega,List.take_add]
          congr 2
          omega
        rw[ST.flats,zf];omega
      cases hg
    refine⟨[],?_,trivial,?_⟩
    . rw[show d=0 by omega];simp[ST.flats]
    simp[ST.flats];omega
  obtain⟨ks,k1,k2,k3⟩:=kids ((l.getD i default).size.toNat-1) (i+1) (by omega) (by omega) h
  have hfl:=Qt0 (l:=l) (i:=i) (n:=(l.getD i default).size.toNat) (ks:=ks) (by omega) (by omega) (by omega) k1
  refine⟨_,hfl,⟨rfl,k2⟩,?_⟩
  rw[<-hfl,zF,zI]
  omega
def UM (l:List SelD) (i:Nat):Prop:=∃(T:ST) (rest:List SelD),l.drop i=T.flat++rest
mutual
theorem QmU {l:List SelD}:∀(T:ST) (i:Nat) (rest:List SelD),l.drop i=T.flat++rest->∀j,i<=j->j<i+T.flat.length->UM l j
 | .mk x ks,i,rest,h,j,h1,h2=>by
  by_cases e:j=i
  subst e;exact⟨_,rest,h⟩
  obtain⟨_,hd,_,_,_⟩:=VE h
  rw[ST.flat,Qr,zg]at h2
  exact QjN ks (i+1) rest hd j (by omega) (by omega)
theorem QjN {l:List SelD}:∀(ks:List ST) (i:Nat) (rest:List SelD),l.drop i=ST.flats ks++rest->∀j,i<=j->j<i+(ST.flats ks).length->UM l j
 | [],i,rest,h,j,h1,h2=>by simp[ST.flats]at h2;omega
 | t::ks,i,rest,h,j,h1,h2=>by
  rw[ST.flats,zq]at h
  rw[ST.flats,zf]at h2
  by_cases e:j<i+t.flat.length
  exact QmU t i _ h j h1 e
  exact QjN ks _ rest (ZR h) j (by omega) (by omega)
end
theorem UM.kids {l:List SelD} {i:Nat} (h:UM l i):i<l.length/\(0<=(l.getD i default).size/\(i:Int)+(l.getD i default).size<=l.length)/\(∀k,k∈Qe l i->k<l.length/\(l.getD k default).size<=l.length/\0<=(l.getD k default).size/\(k:Int)+(l.getD k default).size<=l.length/\UM l k)/\(Qe l i).length<=l.length:=by
 obtain⟨⟨x,ks⟩,rest,h⟩:=h
 obtain⟨q1,q2,q3,q4,q5⟩:=VE h
 refine⟨q3,?_,fun k hk=>?_,?_⟩
 rw[q4];simp only;omega
 . rw[q1]at hk
   obtain⟨⟨y,ys⟩,r,hT,_⟩:=Qdj ks (i+1) rest q2 (zj _) k hk
   obtain⟨p1,p2,p3,p4,p5⟩:=VE hT
   refine⟨p3,?_,?_,?_,⟨_,r,hT⟩⟩
   all_goals rw[p4]
   all_goals simp only
   all_goals omega
 have:=Qfo l (i+(l.getD i default).size) (i+1)
 unfold Qe;omega
def knd (l:List SelD) (k:Nat):Int:=(l.getD k default).kind
def shB (l:List SelD) (i:Nat):Bool:=
 if knd l i=23 then (xa (Qe l i).length).all (fun j=>Q0 (knd l ((Qe l i).getD j 0)))&&decide (0<(Qe l i).length)
 else if knd l i=18\/knd l i=19\/knd l i=20 then decide ((Qe l i).length=1)&&decide (knd l ((Qe l i).getD 0 0)=23) && !((Yc l i).any YK)
 else if knd l i=21 then (xa (Qe l i).length).all (fun j=>Qy (knd l ((Qe l i).getD j 0)) && !(decide (knd l ((Qe l i).getD j 0)=2)&&decide (0<j)))
 else if knd l i=22 then decide ((Qe l i).length=2)&&Q0 (knd l ((Qe l i).getD 0 0))&&Q0 (knd l ((Qe l i).getD 1 0)) && !decide (knd l ((Qe l i).getD 1 0)=22) && !((Yc l ((Qe l i).getD 0 0)).any YK)
 else Qy (knd l i)&&decide ((Qe l i).length=0)
def QaZ (l:List SelD):Bool:=
 if l.length=0\/(l.getD 0 default).size≠(l.length:Nat)\/szB 2000 l 0 (l.length:Nat)=false then false
 else (xa l.length).all (fun i=>UJ (l.getD i default)&&shB l i)&&(decide (knd l 0=23)||Q0 (knd l 0))
theorem Qc6 {l:List SelD} {i:Nat} {T:ST} {rest:List SelD} (h:l.drop i=T.flat++rest):Yc l i=T.flat:=by
 obtain⟨x,ks⟩:=T
 obtain⟨q1,q2,q3,q4,q5⟩:=VE h
 have hl:(ST.mk x ks).flat.length=(ST.flats ks).length+1:=by simp[ST.flat,Qr]
 unfold Yc
 rw[if_neg (by omega),q4]
 simp only
 rw[show ((i:Int)+(((ST.flats ks).length:Nat)+1)).toNat=i+(ST.mk x ks).flat.length by omega]
 rw[List.drop_take,h,Nat.add_sub_cancel_left,List.take_left]
theorem Us {l:List SelD}:∀(ks:List ST) (k:Nat) (rest:List SelD),l.drop k=ST.flats ks++rest->(Yg k ks).map (knd l)=ks.map fun t=>t.node.kind
 | [],k,rest,h=>by simp[Yg]
 | t::ks,k,rest,h=>by
  rw[ST.flats,zq]at h
  obtain⟨x,r,e1,e2,e3⟩:=Qdy t
  have h0:l.drop k=x::(r++(ST.flats ks++rest)):=by rw[h,e1];rfl
  rw[Yg,zY,zY,Us ks _ rest (ZR h)]
  congr 1
  unfold knd
  rw[Qby h0,e3]
theorem J0 {l:List SelD} {K:List Nat} {ks:List ST} (h:K.map (knd l)=ks.map fun t=>t.node.kind) {j:Nat} (hj:j<ks.length):knd l (K.getD j 0)=(ks[j]).node.kind:=by
 have hl:K.length=ks.length:=by simpa using congrArg List.length h
 have:=congrArg (fun q=>q[j]?) h
 simp only[zB,ze hj,ze (show j<K.length by omega),zK,Option.some.injEq]at this
 simpa [za,ze (show j<K.length by omega)] using this
theorem U1 {l:List SelD} {i:Nat} {x:SelD} {ks:List ST} {rest:List SelD} (h:l.drop i=(ST.mk x ks).flat++rest):knd l i=x.kind:=by
 unfold knd;rw[(VE h).2.2.2.1]
theorem shB_T {l:List SelD} {i:Nat} {x:SelD} {ks:List ST} {rest:List SelD} (h:l.drop i=(ST.mk x ks).flat++rest) (hb:shB l i=true):QaH x ks:=by
 obtain⟨q1,q2,q3,q4,q5⟩:=VE h
 have hk:=Us ks (i+1) rest q2
 rw[<-q1]at hk
 have hl:(Qe l i).length=ks.length:=by simpa using congrArg List.length hk
 unfold shB at hb
 rw[U1 h,hl]at hb
 unfold QaH
 by_cases h23:x.kind=23
 rw[if_pos h23]at hb ⊢
 rw[zh,U9,decide_eq_true_eq]at hb
 refine⟨fun k hkm=>?_,fun e=>by rw[e]at hb;simp at hb⟩
 obtain⟨j,hj,rfl⟩:=xl hkm
 have:=hb.1 j hj
 rwa [J0 hk hj]at this
 rw[if_neg h23]at hb ⊢
 by_cases h18:x.kind=18\/x.kind=19\/x.kind=20
 rw[if_pos h18]at hb ⊢
 simp only[zh,decide_eq_true_eq,zO]at hb
 obtain⟨⟨b1,b2⟩,b3⟩:=hb
 obtain⟨g,rfl⟩:=List.length_eq_one_iff.1 b1
 rw[J0 hk (by simp)]at b2
 refine⟨⟨g,rfl,b2⟩,?_⟩
 rw[Qc6 h,ST.flat,Qr,List.any_cons,zz]at b3
 exact b3.2
 rw[if_neg h18]at hb ⊢
 by_cases h21:x.kind=21
 rw[if_pos h21]at hb ⊢
 rw[U9]at hb
 refine⟨fun k hkm=>?_,fun k hkm=>?_⟩
 obtain⟨j,hj,rfl⟩:=xl hkm
 have:=hb j hj
 rw[J0 hk hj,zh]at this
 exact this.1
 obtain⟨j,hj,rfl⟩:=xl hkm
 have hj':j+1<ks.length:=by rw[List.length_tail]at hj;omega
 have:=hb (j+1) hj'
 rw[J0 hk hj',zh]at this
 have:=this.2
 simp only[zO,zV,decide_eq_true_eq,decide_eq_false_iff_not]at this
 intro e
 refine this ?_ (by omega)
 simpa [List.getElem_tail] using e
 rw[if_neg h21]at hb ⊢
 by_cases h22:x.kind=22
 rw[if_pos h22]at hb ⊢
 simp only[zh,decide_eq_true_eq,zO,decide_eq_false_iff_not]at hb
 obtain⟨⟨⟨⟨b1,b2⟩,b3⟩,b4⟩,b5⟩:=hb
 obtain⟨a,b,rfl⟩:∃a b,ks=[a,b]:=by
  match ks,b1 with
  | [a,b],_=>exact⟨a,b,rfl⟩
 rw[J0 hk (by simp)]at b2
 rw[J0 hk (by simp)]at b3 b4
 refine⟨a,b,rfl,b2,b3,b4,?_⟩
 have e0:(Qe l i).getD 0 0=i+1:=by rw[q1];rfl
 rw[e0]at b5
 rw[ST.flats,zq]at q2
 rw[Qc6 q2]at b5
 exact b5
 rw[if_neg h22]at hb ⊢
 simp only[zh,decide_eq_true_eq]at hb
 exact⟨hb.1,xh.1 hb.2⟩
mutual
theorem QmG {l:List SelD} (hall:∀j,j<l.length->UJ (l.getD j default)=true/\shB l j=true):∀(T:ST) (i:Nat) (rest:List SelD),l.drop i=T.flat++rest->Zs T->Y3 T
 | .mk x ks,i,rest,h,hz=>by
  obtain⟨q1,q2,q3,q4,q5⟩:=VE h
  obtain⟨a1,a2⟩:=hall i q3
  refine⟨?_,hz.1,shB_T h a2,Qjs hall ks (i+1) rest q2 hz.2⟩
  rw[q4]at a1
  exact a1
theorem Qjs {l:List SelD} (hall:∀j,j<l.length->UJ (l.getD j default)=true/\shB l j=true):∀(ks:List ST) (i:Nat) (rest:List SelD),l.drop i=ST.flats ks++rest->Zss ks->JV ks
 | [],_,_,_,_=>trivial
 | t::ks,i,rest,h,hz=>by
  rw[ST.flats,zq]at h
  exact⟨QmG hall t i _ h hz.1,Qjs hall ks _ rest (ZR h) hz.2⟩
end
theorem Qql {l:List SelD} (h:QaZ l=true):∃T:ST,l=T.flat/\Y3 T/\(T.node.kind=23\/Q0 T.node.kind=true):=by
 unfold QaZ at h
 split at h
 cases h
 rename_i h0
 simp only[not_or,Decidable.not_not,Bool.not_eq_false]at h0
 obtain⟨h1,h2,h3⟩:=h0
 rw[zh,U9,zu,decide_eq_true_eq]at h
 obtain⟨T,t1,t2,t3⟩:=QeG 2000 0 _ h3 (Int.le_refl _)
 rw[h2]at t1
 have e:l=T.flat:=by simpa using t1
 have e':l.drop 0=T.flat++[]:=by simpa using e
 refine⟨T,e,QmG (fun j hj=>by have:=h.1 j hj;rwa [zh]at this) T 0 [] e' t2,?_⟩
 obtain⟨x,ks⟩:=T
 have:=h.2
 rw[U1 e']at this
 exact this
theorem QnT {l:List SelD} (h2:(l.getD 0 default).size=(l.length:Nat)) (h3:szB 2000 l 0 (l.length:Nat)=true):∀j,j<l.length->UM l j:=by
 intro j hj
 obtain⟨T,t1,t2,t3⟩:=QeG 2000 0 _ h3 (Int.le_refl _)
 rw[h2]at t1
 have e:l=T.flat:=by simpa using t1
 exact QmU T 0 [] (by simpa using e) j (by omega) (by rw[<-e];omega)
end
section
set_option maxRecDepth 20000
def wtN (x:SelD):Nat:=100+4*(x.key.length+x.val.length)
def wtL:List SelD->Nat
 | []=>0
 | x::l=>wtN x+wtL l
theorem Qbf:∀(a b:List SelD),wtL (a++b)=wtL a+wtL b
 | [],b=>by simp[wtL]
 | x::a,b=>by simp only[List.cons_append,wtL,Qbf a b];omega
theorem QiV (l:List SelD) (i:Nat):wtL (l.drop i)<=wtL l:=by
 have:=Qbf (l.take i) (l.drop i)
 rw[List.take_append_drop]at this
 omega
theorem QeE (x:SelD) (ks:List ST):wtL (ST.mk x ks).flat=wtN x+wtL (ST.flats ks):=by
 rw[ST.flat,Qr,wtL];rfl
theorem Jo {c:Nat} (h:c<256):(JL c).length<=4:=by
 obtain⟨ds,e1,_,_,_,e5⟩:=Way.QoR c 2 [] (by simpa using h)
 unfold JL
 rw[e1]
 simp;omega
theorem QiH (c:UInt8):c.toNat<256:=c.toNat_lt
theorem Qtg (h i:Nat) (c:UInt8):(nmP h i c).length<=4:=by
 unfold nmP
 have:=Jo (QiH c)
 split
 exact this
 split<;>simp
theorem QmW (h:Nat):∀(i:Nat) (u:Bs),(nmF h i u).length<=4*u.length
 | _,[]=>by simp[nmF]
 | i,c::u=>by
  have:=Qtg h i c
  have:=QmW h (i+1) u
  rw[nmF,zf,zg];omega
theorem Zp (s:Bs):(Q2 s).length<=4*s.length:=by
 unfold Q2
 split
 rename_i h;subst h;simp
 exact QmW _ 0 s
theorem QwQ (c:UInt8):(qP c).length<=4:=by
 unfold qP
 have:=Jo (QiH c)
 split
 exact this
 split<;>simp
theorem Qqv:∀u:Bs,(qF u).length<=4*u.length
 | []=>by simp[qF]
 | c::u=>by
  have:=QwQ c
  have:=Qqv u
  rw[qF,zf,zg];omega
theorem QdR (s:Bs):(Ye s).length<=4*s.length+2:=by
 have:=Qqv s
 unfold Ye
 simp;omega
theorem Qey:∀(k n:Nat),n<10^k->1<=k->(Yu n).length<=k
 | 0,n,_,h=>by omega
 | k+1,n,h,_=>by
  rw[Yu]
  split
  simp;omega
  rename_i hn
  rw[Nat.pow_succ]at h
  have hk:1<=k:=by
   rcases k with _ | k
   simp at h;omega
   omega
  have h1:=Qey k (n/10) (by omega) hk
  have h2:(Yu (n%10)).length<=1:=by rw[Yu,if_pos (Nat.mod_lt _ (by decide))];simp;omega
  rw[zf];omega
theorem JD {n:Nat} (h:n<=1000000000000000000):(Yu n).length<=19:=Qey 19 n (by omega) (by decide)
theorem QaR {n:Int} (h : -100000000000000000<=n/\n<=100000000000000000):(Zm n).length<=20:=by
 unfold Zm
 split
 have:=JD (n:=(-n).toNat) (by omega)
 simp;omega
 have:=JD (n:=n.toNat) (by omega)
 simp;omega
theorem Qau {a b:Int} (ha : -100000000000000000<=a/\a<=100000000000000000) (hb : -100000000000000000<=b/\b<=100000000000000000):(YH a b).length<=41:=by
 have h1:=QaR hb
 have h2:=JD (n:=(-a).toNat) (by omega)
 have h3:=JD (n:=a.toNat) (by omega)
 unfold YH
 split<;>simp<;>omega
theorem Yb {l:List Bs} {n:Nat} (h:∀t∈l,t.length<=n) (i:Nat):(l.getD i []).length<=n:=by
 rw[za]
 by_cases hi:i<l.length
 rw[ze hi];exact h _ (List.getElem_mem hi)
 rw[List.getElem?_eq_none (by omega)];simp
theorem Qhu {x:SelD} (h : -100000000000000000<=x.a/\x.a<=100000000000000000) (h' : -100000000000000000<=x.b/\x.b<=100000000000000000):(Qw x).length+10<=100+4*(x.key.length+x.val.length):=by
 have k1:=Zp x.key
 have k2:=Zp x.val
 have k3:=QdR x.val
 have k4:=Qau h h'
 have s1:=Yb (l:=YQ) (n:=2) (by decide) x.op.toNat
 have s2:=Yb (l:=([[],[32,105]]:List Bs)) (n:=2) (by decide) x.flag.toNat
 have s3:=Yb (l:=YT) (n:=12) (by decide) x.flag.toNat
 have s4:=Yb (l:=Yp) (n:=7) (by decide) x.flag.toNat
 have s5:=Yb (l:=Qp) (n:=8) (by decide) (x.kind-8).toNat
 unfold Qw
 repeat' split
 all_goals (first | omega | (simp only[zf,zg,zl];omega))
def Js:List (Int×Bs)->Nat
 | []=>0
 | t::l=>t.2.length+2+Js l
theorem Qb8 (t:Bs) (l:List Bs):Je (t::l)=t++l.flatMap fun u=>[44,32]++u:=rfl
theorem Qhe:∀l:List (Int×Bs),((l.map Prod.snd).flatMap fun u=>[44,32]++u).length=Js l
 | []=>rfl
 | t::l=>by
  have:=Qhe l
  rw[zY,List.flatMap_cons,zf,this,Js]
  simp only[zf,zg,zl];omega
theorem Qg0 (l:List (Int×Bs)):(Je (l.map Prod.snd)).length<=Js l:=by
 match l with
 | []=>simp[Je]
 | t::l=>
  rw[zY,Qb8,zf,Qhe,Js];omega
theorem QfG:∀(l:List (Int×Bs)) (p:Bs×Bs),(l.foldl VA p).1.length+(l.foldl VA p).2.length<=p.1.length+p.2.length+Js l
 | [],p=>by simp[Js]
 | t::l,p=>by
  have:=QfG l (VA p t)
  have hs:(VA p t).1.length+(VA p t).2.length<=p.1.length+p.2.length+t.2.length+2:=by
   unfold VA
   split
   simp only;omega
   split
   simp only
   by_cases h:p.1=[]
   rw[if_pos h];simp
   omega
   rw[if_neg h];omega
   simp only[zf];omega
  rw[z8,Js]
  omega
theorem Ql4 (val:Bs) (p:Bs×Bs):(Ue val p).length<=p.1.length+p.2.length+4*val.length+3:=by
 have:=Zp val
 have hX:(if val=[] then p.2 else p.2++([58,58]++Q2 val)).length<=p.2.length+4*val.length+2:=by
  by_cases h:val=[]
  rw[if_pos h];omega
  rw[if_neg h];simp only[zf,zg,zl];omega
 unfold Ue
 generalize (if val=[] then p.2 else p.2++([58,58]++Q2 val))=X at hX ⊢
 split
 simp only[zg,zl];omega
 rw[zf];omega
theorem Qgr (l:List (Int×Bs)):∀j,Js (l.take j)<=Js l:=by
 induction l with
 | nil=>simp[Js]
 | cons t l ih=>
  intro j
  cases j with
  | zero=>simp[Js]
  | succ j=>have:=ih j;rw[List.take_succ_cons,Js,Js];omega
theorem QpA {l:List (Int×Bs)}:(l.getD 0 (0,[])).2.length+(l.getD 1 (0,[])).2.length<=Js l:=by
 match l with
 | []=>simp
 | [t]=>first | (simp[Js];done) | (simp[Js];omega)
 | t::u::l=>first | (simp[Js];done) | (simp[Js];omega)
theorem QkO {x:SelD} {ts:List (Int×Bs)} (h : -100000000000000000<=x.a/\x.a<=100000000000000000) (h' : -100000000000000000<=x.b/\x.b<=100000000000000000):(YR x ts).length+10<=wtN x+Js ts:=by
 have k1:=Qg0 ts
 have k2:=Qhu h h'
 have k3:=Ql4 x.val (ts.foldl VA ([],[]))
 have k4:=QfG ts ([],[])
 have s1:=Yb (l:=Qc4) (n:=3) (by decide) x.op.toNat
 have s2:=Yb (l:=V3) (n:=8) (by decide) (x.kind-18).toNat
 have a0:=QpA (l:=ts)
 unfold YR QdM wtN
 simp only[zl]at k4
 repeat' split
 all_goals (first | omega | (simp only[zf,zg,zl];omega))
end
section
set_option maxRecDepth 20000
def sWr:Nat->List SelD->Nat->Bs
 | 0,_,_=>[]
 | n+1,l,i=>YR (l.getD i default) ((Qe l i).map fun k=>(knd l k,sWr n l k))
def Uj (n:Nat) (l:List SelD) (i:Nat):List (Int×Bs):=(Qe l i).map fun k=>(knd l k,sWr n l k)
theorem Qab (n:Nat) (l:List SelD) (i:Nat):sWr (n+1) l i=YR (l.getD i default) (Uj n l i):=rfl
def WAt (l:List SelD) (n k:Nat):Prop:=∃(T:ST) (rest:List SelD),l.drop k=T.flat++rest/\T.ht<=n/\Y3 T
theorem Qmm {l:List SelD} {n:Nat}:∀(ks:List ST) (k:Nat) (rest:List SelD),l.drop k=ST.flats ks++rest->ST.hts ks<=n->JV ks->∀p∈Yg k ks,WAt l n p
 | [],k,rest,h,hn,hr,p,hp=>by simp[Yg]at hp
 | t::ks,k,rest,h,hn,hr,p,hp=>by
  rw[ST.flats,zq]at h
  rw[ST.hts]at hn
  simp only[Yg,zp]at hp
  rcases hp with hp | hp
  subst hp;exact⟨t,_,h,by omega,hr.1⟩
  exact Qmm ks _ rest (ZR h) (by omega) hr.2 p hp
theorem Qb3 {l:List SelD} {n:Nat} (ih:∀i T rest,l.drop i=ST.flat T++rest->T.ht<=n->sWr n l i=wr T):∀(ks:List ST) (k:Nat) (rest:List SelD),l.drop k=ST.flats ks++rest->ST.hts ks<=n ->
 ((Yg k ks).map fun k=>(knd l k,sWr n l k))=wrs ks
 | [],k,rest,h,hn=>by simp[Yg,wrs]
 | t::ks,k,rest,h,hn=>by
  rw[ST.flats,zq]at h
  rw[ST.hts]at hn
  obtain⟨x,xs⟩:=t
  simp only[Yg,wrs,zY]
  rw[ih k _ _ h (by omega),Qb3 ih ks _ rest (ZR h) (by omega),U1 h]
  rfl
theorem QhE (l:List SelD):∀(n i:Nat) (T:ST) (rest:List SelD),l.drop i=T.flat++rest->T.ht<=n->sWr n l i=wr T
 | 0,i,T,rest,h,hn=>by obtain⟨x,ks⟩:=T;simp[ST.ht]at hn
 | n+1,i,.mk x ks,rest,h,hn=>by
  obtain⟨h1,h2,h3,h4,h5⟩:=VE h
  rw[ST.ht]at hn
  have h6:=Qb3 (l:=l) (n:=n) (fun i T rest=>QhE l n i T rest) ks (i+1) rest h2 (by omega)
  rw[sWr,h1,h6,h4,wr]
  rfl
theorem Qs2 {l:List SelD} {n i:Nat} {x:SelD} {ks:List ST} {rest:List SelD} (h:l.drop i=(ST.mk x ks).flat++rest) (hn:ST.hts ks<=n):Uj n l i=wrs ks:=by
 obtain⟨h1,h2,h3,h4,h5⟩:=VE h
 unfold Uj
 rw[h1]
 exact Qb3 (fun i T rest=>QhE l n i T rest) ks (i+1) rest h2 hn
mutual
theorem QkN:∀T:ST,Y3 T->(wr T).length+10<=wtL T.flat
 | .mk x ks,⟨hf,_,_,hk⟩=>by
  have h1:=Qht ks hk
  have hr:=(Way.fld hf).rng
  have h2:=QkO (x:=x) (ts:=wrs ks) (by omega) (by omega)
  rw[QeE,wr]
  omega
theorem Qht:∀ks:List ST,JV ks->Js (wrs ks)<=wtL (ST.flats ks)
 | [],_=>by simp[wrs,Js]
 | t::ks,⟨ht,hk⟩=>by
  have h1:=QkN t ht
  have h2:=Qht ks hk
  rw[wrs,Js,ST.flats,Qbf]
  simp only
  omega
end
theorem WAt.len {l:List SelD} {n k:Nat} (h:WAt l n k):(sWr n l k).length<=wtL l:=by
 obtain⟨T,rest,h1,h2,h3⟩:=h
 have q:=QkN T h3
 have q2:=QiV l k
 rw[h1,Qbf]at q2
 rw[QhE l n k T rest h1 h2]
 omega
theorem WAt.kids {l:List SelD} {n i:Nat} (h:WAt l (n+1) i):UM l i/\(∀k∈Qe l i,WAt l n k)/\Js (Uj n l i)<=wtL l/\Way.Fld (l.getD i default)/\(l.getD i default).key.length+(l.getD i default).val.length<=wtL l /\
 (knd l i=22->(Qe l i).length=2)/\((knd l i=18\/knd l i=19\/knd l i=20)->(Qe l i).length=1)/\(knd l i≠23->knd l i≠22->knd l i≠21->¬(knd l i=18\/knd l i=19\/knd l i=20)->Qy (knd l i)=true):=by
 obtain⟨⟨x,ks⟩,rest,h1,h2,h3⟩:=h
 have hn:UM l i:=⟨_,rest,h1⟩
 obtain⟨q1,q2,q3,q4,q5⟩:=VE h1
 rw[ST.ht]at h2
 obtain⟨hf,hz,hs,hk⟩:=h3
 have F:=Way.fld hf
 have q6:=QiV l i
 rw[h1,Qbf,QeE]at q6
 have hkl:(Qe l i).length=ks.length:=by
  have:=Us ks (i+1) rest q2
  rw[<-q1]at this
  simpa using congrArg List.length this
 refine⟨hn,?_,?_,?_,?_,?_,?_,?_⟩
 rw[q1];exact Qmm ks (i+1) rest q2 (by omega) hk
 rw[Qs2 h1 (by omega)]
 have:=Qht ks hk
 omega
 rw[q4]
 exact { kz:=F.kz,vz:=F.vz,low:=F.low,key:=F.key,nokey:=F.nokey,name:=F.name,val:=F.val,num:=F.num,rng:=F.rng,attr:=F.attr,comb:=F.comb,nth:=F.nth,only:=F.only,other:=F.other }
 rw[q4];simp only
 unfold wtN at q6
 omega
 intro e
 rw[U1 h1]at e
 unfold QaH at hs
 rw[if_neg (by omega),if_neg (by omega),if_neg (by omega),if_pos e]at hs
 obtain⟨a,b,rfl,_⟩:=hs
 rw[hkl];rfl
 intro e
 rw[U1 h1]at e
 unfold QaH at hs
 rw[if_neg (by omega),if_pos e]at hs
 obtain⟨⟨g,rfl,_⟩,_⟩:=hs
 rw[hkl];rfl
 intro e1 e2 e3 e4
 rw[U1 h1]at e1 e2 e3 e4 ⊢
 unfold QaH at hs
 rw[if_neg e1,if_neg e4,if_neg e3,if_neg e2]at hs
 exact hs.1
theorem UT (n:Nat) (l:List SelD) (i:Nat):(Uj n l i).length=(Qe l i).length:=by simp[Uj]
theorem QhL {n:Nat} {l:List SelD} {i j:Nat} (h:j<(Qe l i).length):(Uj n l i)[j]'(by rw[UT];exact h)=(knd l ((Qe l i).getD j 0),sWr n l ((Qe l i).getD j 0)):=by
 simp[Uj,za,ze h]
theorem QaX {n:Nat} {l:List SelD} {i j:Nat} (h:j<(Qe l i).length):(Uj n l i).getD j (0,[])=(knd l ((Qe l i).getD j 0),sWr n l ((Qe l i).getD j 0)):=by
 rw[za,ze (by rw[UT];exact h),QhL h]
 rfl
def QcM (n:Nat) (l:List SelD) (i j:Nat):Bs:=Je (((Uj n l i).take j).map Prod.snd)
theorem QlI (l:List Bs) (t:Bs) (h:l≠[]):Je (l++[t])=Je l++([44,32]++t):=by
 obtain⟨a,l,rfl⟩:=zJ h
 rw[List.cons_append,Qb8,Qb8,List.flatMap_append]
 simp
theorem Qm6 {n:Nat} {l:List SelD} {i j:Nat} (h:j<(Qe l i).length):QcM n l i (j+1)=(if 0<j then QcM n l i j++[44,32] else QcM n l i j)++sWr n l ((Qe l i).getD j 0):=by
 unfold QcM
 have hl:j<(Uj n l i).length:=by rw[UT];exact h
 rw[zN,ze hl,QhL h,Option.toList_some,List.map_append]
 simp only[zY,List.map_nil]
 by_cases hj:0<j
 rw[if_pos hj,QlI _ _ (by intro e;have:=congrArg List.length e;rw[List.length_map,zF,zl]at this;omega)]
 simp
 rw[if_neg hj,show j=0 by omega]
 simp[Je]
theorem QoK {n:Nat} {l:List SelD} {i j:Nat}:(QcM n l i j).length<=Js (Uj n l i):=by
 have:=Qg0 ((Uj n l i).take j)
 have:=Qgr (Uj n l i) j
 unfold QcM;omega
theorem QoL {n:Nat} {l:List SelD} {i j:Nat} (h:j=(Qe l i).length):QcM n l i j=Je ((Uj n l i).map Prod.snd):=by
 unfold QcM
 rw[zS (by rw[UT];omega)]
def QiE (n:Nat) (l:List SelD) (i j:Nat):Bs×Bs:=((Uj n l i).take j).foldl VA ([],[])
theorem QiD {n:Nat} {l:List SelD} {i j:Nat} (h:j<(Qe l i).length):QiE n l i (j+1)=VA (QiE n l i j) (knd l ((Qe l i).getD j 0),sWr n l ((Qe l i).getD j 0)):=by
 unfold QiE
 have hl:j<(Uj n l i).length:=by rw[UT];exact h
 rw[zN,ze hl,QhL h,Option.toList_some,List.foldl_append]
 rfl
theorem Qr8 {n:Nat} {l:List SelD} {i j:Nat}:(QiE n l i j).1.length+(QiE n l i j).2.length<=Js (Uj n l i):=by
 have:=QfG ((Uj n l i).take j) ([],[])
 have:=Qgr (Uj n l i) j
 unfold QiE;simp only[zl] at *;omega
theorem QfT {n:Nat} {l:List SelD} {i j:Nat} (h:j=(Qe l i).length):QiE n l i j=(Uj n l i).foldl VA ([],[]):=by
 unfold QiE
 rw[zS (by rw[UT];omega)]
def Qjj (n:Nat) (l:List SelD) (i:Nat):Bs:=QdM (l.getD i default).val (Uj n l i)
def Y4 (l:List SelD):Bs:=if l.length=0 then [] else sWr 2000 l 0
end
section
open Go Go.RowKit
set_option maxRecDepth 20000
def c78 (svs:List SV) (b:Option SB):QR:=match svs,b with
 | [.str l],none=>some ([],.bool (QbQ l))
 | _,_=>none
noncomputable def W78:Wk:=⟨[],Qh Tryz.f78,false,false,[.tmp 2],[4],[],[]⟩
theorem has78:Has 78:=hsf Tryz.f78
theorem sat78:Sat 78 (Ql c78):=by
 have hD:Qb W78.D:=Qb.nil
 refine W78.sa hD Tryz.f78 fun svs b K hP=>?_
 obtain⟨ps,v,e,hp,hk⟩:=Qd hP
 unfold c78 at e
 split at e
 rename_i l
 cases e
 refine W78.en (K (.val (.bool ((((decide (l=[98,101,102,111,114,101]))||(decide (l=[97,102,116,101,114])))||(decide (l=[102,105,114,115,116,45,108,105,110,101])))||(decide (l=[102,105,114,115,116,45,108,101,116,116,101,114]))))) none) ?_
 exact hk
 cases e
def c80 (svs:List SV) (b:Option SB):QR:=match svs,b with
 | [.int .i64 n],none=>some ([],.bool (Qy n))
 | _,_=>none
noncomputable def W80:Wk:=⟨[],Qh Tryz.f80,false,false,[.tmp 2],[4],[],[]⟩
theorem Qu6:Has 80:=hsf Tryz.f80
theorem QuD:Sat 80 (Ql c80):=by
 have hD:Qb W80.D:=Qb.nil
 refine W80.sa hD Tryz.f80 fun svs b K hP=>?_
 obtain⟨ps,v,e,hp,hk⟩:=Qd hP
 unfold c80 at e
 split at e
 rename_i n
 cases e
 refine W80.en (K (.val (.bool ((decide ((1:Int)<=n))&&(decide (n<=(20:Int)))))) none) ?_
 exact hk
 cases e
def c81 (svs:List SV) (b:Option SB):QR:=match svs,b with
 | [.int .i64 n],none=>some ([0<=n/\n<9],.str (YQ.getD n.toNat []))
 | _,_=>none
noncomputable def W81:Wk:=⟨[],Qh Tryz.f81,false,false,[.tmp 2],[9],[],[]⟩
theorem has81:Has 81:=hsf Tryz.f81
theorem naz0 {p q:Prop} (k:q) (h:p:=by first | omega | (simp;done) | (simp;omega) | (simp;assumption)):p/\q:=⟨h,k⟩
theorem sat81:Sat 81 (Ql c81):=by
 have hD:Qb W81.D:=Qb.nil
 refine W81.sa hD Tryz.f81 fun svs b K hP=>?_
 obtain⟨ps,v,e,hp,hk⟩:=Qd hP
 unfold c81 at e
 split at e
 rename_i n
 cases e
 obtain⟨h01,_⟩:=hp
 refine W81.en ((0<=n/\n<(9:Nat))/\((n).toNat<9)/\K (.val (.str (([[],[],[61],[33,61],[126,61],[124,61],[94,61],[36,61],[42,61]]:List (List UInt8)).getD ((n).toNat) []))) none) ?_
 refine naz0 (naz0 ?_)
 exact hk
 cases e
theorem Qzj {l:List SelD} {i:Nat} (h:i<l.length) (e:YK (l.getD i default)=true):l.any YK=true:=by
 rw[List.any_eq_true]
 refine⟨l[i],List.getElem_mem h,?_⟩
 rw[za,ze h]at e
 exact e
theorem Qzh {l:List SelD} (e:∀j,j<l.length->YK (l.getD j default)=false):l.any YK=false:=by
 rw[List.any_eq_false]
 intro x hx
 obtain⟨i,hi,rfl⟩:=xl hx
 have:=e i hi
 rw[za,ze hi]at this
 simpa using this
def c79 (svs:List SV) (b:Option SB):QR:=match svs,b with
 | [.sl (.sels l)],none=>some ([l.length<=1000000000],.bool (l.any YK))
 | _,_=>none
noncomputable def W79:Wk:=⟨[],Qh Tryz.f79,false,false,[.tmp 2],[4],[(2,9)],[]⟩
theorem has79:Has 79:=hsf Tryz.f79
theorem naz1 {c0 p0 q:Prop} (k:q) (h:c0->p0/\True:=by intro g0;(try simp at g0);exact⟨(by first | omega | (simp;done) | (simp;omega) | (simp;assumption)),trivial⟩):(c0->p0/\True)/\q:=⟨h,k⟩
theorem sat79:Sat 79 (Ql c79):=by
 have hD:Qb W79.D:=Qb.nil
 refine W79.sa hD Tryz.f79 fun svs b K hP=>?_
 obtain⟨ps,v,e,hp,hk⟩:=Qd hP
 unfold c79 at e
 split at e
 rename_i l
 cases e
 obtain⟨h01,_⟩:=hp
 have L2:∀(mm:Nat) (i:Nat),l.length-i=mm->(i<=l.length/\∀j,j<i->YK (l.getD j default)=false)->W79.L K 2 (mkS 24 [(0,(.sl (.sels l))),(3,(.nat i))] [] 1):=by
  intro mm
  induction mm using zi with
  | _ mm ih=>
   intro i hm hI
   obtain⟨k1,k2⟩:=hI
   refine W79.aL hD (have a0:=decide ((l.getD i default).kind=(21:Int));cond (decide (i<l.length)) ((i<l.length)/\(a0=true->(i<l.length)/\True)/\cond (a0&&(!(decide ((l.getD i default).val=[])))) (K (.val (.bool true)) none) ((i+1<=9223372036854775807)/\(W79).L K 2 (mkS 24 [(0,(.sl (.sels l))),(3,(.nat (i+1)))] [] 1))) (K (.val (.bool false)) none)) ?_
   refine Qa ?_ ?_<;>intro h1<;>try simp[-za,-zb]at h1
   refine naz0 (naz1 ?_)
   refine Qa ?_ ?_<;>intro h2<;>try simp[-za,-zb]at h2
   rw[Qzj h1 (by unfold YK;simpa using h2)]at hk
   exact hk
   refine naz0 ?_
   exact ih _ (by omega) _ rfl ⟨by omega,fun j hj=>by
    rcases (by omega:j<i\/j=i) with q | q
    exact k2 j q
    subst q;unfold YK;simpa using h2⟩
   rw[Qzh (fun j hj=>k2 j (by omega))]at hk
   exact hk
 refine W79.en ((W79).L K 2 (mkS 24 [(0,(.sl (.sels l))),(3,(.nat 0))] [] 1)) ?_
 exact L2 _ _ rfl ⟨by omega,fun j hj=>by omega⟩
 cases e
theorem Qku (n:Nat):(Yu n).length<=n+1:=by
 induction n using zi with
 | _ n ih=>
  rw[Yu]
  split
  simp;omega
  have h1:=ih (n/10) (by omega)
  have h2:=ih (n%10) (by omega)
  simp only[zf]
  omega
def c101 (m:Nat) (svs:List SV) (b:Option SB):QR:=match svs,b with
 | [.nat n],none=>some ([n<m,n<=1000000000000000000],.str (Yu n))
 | _,_=>none
theorem QlU:Has 101:=hsf Tryz.f101
def Qvn (m:Nat) (svs:List SV) (b:Option SB):QR:=match svs,b with
 | [.nat n],none=>some ([n<m+1,n<=1000000000000000000],.str (Yu n))
 | _,_=>none
noncomputable def W101 (m:Nat):Wk:=⟨[(101,.pure (c101 m))],Qh Tryz.f101,false,false,[.tmp 2],[9],[],[]⟩
theorem Qh2 {p q:Prop} (k:q) (h:p:=by first | omega | (simp;done) | (simp;omega) | (dsimp only;omega) | (refine⟨?_,?_⟩<;>omega) | (have h8:=Qku (n/10);have h9:=Qku (n%10);omega)):p/\q:=⟨h,k⟩
theorem QsX (m:Nat) (hG:Sat 101 (Ql (c101 m))):Sat 101 (Ql (Qvn m)):=by
 have hD:Qb (W101 m).D:=(Qb.cons QlU hG Qb.nil)
 refine (W101 m).sa hD Tryz.f101 fun svs b K hP=>?_
 obtain⟨ps,v,e,hp,hk⟩:=Qd hP
 unfold Qvn at e
 split at e
 rename_i n
 cases e
 obtain⟨h01,h02,_⟩:=hp
 refine (W101 m).en (cond (decide (n<10)) ((n+1<=9223372036854775807)/\(n<=n+1/\n+1<=10)/\K (.val (.str (([48,49,50,51,52,53,54,55,56,57].take (n+1)).drop n))) none) ((n<=9223372036854775807/\0<10)/\(n/10<m)/\(n/10<=1000000000000000000)/\(0<10)/\(n%10<m)/\(n%10<=1000000000000000000)/\((Yu (n/10)).length+(Yu (n%10)).length<=2305843009213693952)/\K (.val (.str (Yu (n/10)++(Yu (n%10))))) none)) ?_
 refine Qa ?_ ?_<;>intro h1<;>try simp[-za,-zb]at h1
 refine Qh2 (Qh2 ?_)
 rw[Yu,if_pos h1]at hk
 exact hk
 refine Qh2 (Qh2 (Qh2 (Qh2 (Qh2 (Qh2 (Qh2 ?_))))))
 rw[Yu,if_neg (by omega)]at hk
 exact hk
 cases e
theorem Qp6:∀m,Sat 101 (Ql (c101 m))
 | 0=>by
  intro g0 w M ω svs args b K hS hn hr hP
  obtain⟨ps,v,e,hp,hk⟩:=Qd hP
  unfold c101 at e
  split at e
  cases e;exact absurd hp.1 (Nat.not_lt_zero _)
  cases e
 | m+1=>QsX m (Qp6 m)
theorem Qk1:Sat 101 (Ql fun svs b=>match svs,b with
 | [.nat n],none=>some ([n<=1000000000000000000],.str (Yu n))
 | _,_=>none):=by
 refine Sat.imp (Sat.ex Qp6) fun svs b K h=>?_
 obtain⟨ps,v,e,hp,hk⟩:=Qd h
 split at e
 rename_i n
 cases e
 exact⟨n+1,xC n,hp.1,hk⟩
 cases e
def QnJ (svs:List SV) (b:Option SB):QR:=match svs,b with
 | [x],none=>match toI x with
  | some n=>some ([0<=n/\n<=1000000000000000000],.str (Yu n.toNat))
  | _=>none
 | _,_=>none
theorem QmC:Sat 101 (Ql QnJ):=by
 refine Sat.wk Qk1 fun svs b K h=>?_
 obtain⟨ps,v,e,hp,hk⟩:=Qd h
 unfold QnJ at e
 split at e
 rename_i x
 split at e
 rename_i n hx
 cases e
 refine⟨[.nat n.toNat],⟨fun ω v hr=>?_,trivial⟩,by have:=hp.1;omega,hk⟩
 have q:=YA hx hr
 have q2:=q.int_inv
 subst q2
 have q3:=Rel.nat (ω:=ω) n.toNat
 rwa [show ((n.toNat:Nat):Int)=n by have:=hp.1;omega]at q3
 cases e
 cases e
end
section
open Go Go.RowKit
set_option maxRecDepth 20000
theorem Vv {K:Out->Option SB->Prop} {a c:List UInt8} (hk:K (.val (.str a)) none) (e:a=c):K (.val (.str c)) none:=by rw[e]at hk;exact hk
theorem Qhz {s:Bs} {i:Nat} (h:i<s.length):(s.take (i+1)).drop i=[s.getD i 0]:=by
 rw[List.drop_take,Nat.add_sub_cancel_left,zG h,List.take_succ_cons,List.take_zero]
 simp[za,ze h]
theorem Qvk {s:Bs} {i:Nat} (h:i<s.length):s.drop i=s.getD i 0::s.drop (i+1):=by
 rw[zG h]
 simp[za,ze h]
theorem Qc7 (s:Bs) (i:Nat):bat s i<256:=QiH _
theorem QhZ {s o P X:Bs} {h i:Nat} (h1:i<s.length) (k2:o++nmF h i (s.drop i)=X) (e:nmP h i (s.getD i 0)=P):(o++P)++nmF h (i+1) (s.drop (i+1))=X:=by
 rw[Qvk h1,nmF,e]at k2
 rw[zq];exact k2
theorem nmP_1 {s:Bs} {i:Nat} (h:((bat s i<32\/bat s i=127)\/(48<=bat s i/\bat s i<=57)/\(i=0\/i=1/\bat s 0=45))\/(bat s i=45/\i=1)/\bat s 0=45):nmP (bat s 0) i (s.getD i 0)=JL (bat s i):=by
 unfold nmP
 rw[if_pos]
 rfl
 show bat s i<32\/bat s i=127\/(Qv (bat s i)=true/\(i=0\/(i=1/\bat s 0=45)))\/(bat s i=45/\i=1/\bat s 0=45)
 simp only[Qv,zh,decide_eq_true_eq];omega
theorem Qu1 {s:Bs} {i:Nat} (h:((32<=bat s i/\¬bat s i=127)/\(48<=bat s i->bat s i<=57->¬i=0/\(i=1->¬bat s 0=45)))/\(bat s i=45->i=1->¬bat s 0=45)) :
 nmP (bat s 0) i (s.getD i 0)=if Qq (bat s i)=true then [s.getD i 0] else [92,s.getD i 0]:=by
 unfold nmP
 rw[if_neg]
 rfl
 show ¬(bat s i<32\/bat s i=127\/(Qv (bat s i)=true/\(i=0\/(i=1/\bat s 0=45)))\/(bat s i=45/\i=1/\bat s 0=45))
 simp only[Qv,zh,decide_eq_true_eq];omega
theorem Qle {s o P X:Bs} {i:Nat} (h1:i<s.length) (k2:o++qF (s.drop i)=X) (e:qP (s.getD i 0)=P):(o++P)++qF (s.drop (i+1))=X:=by
 rw[Qvk h1,qF,e]at k2
 rw[zq];exact k2
theorem Qqs (s:Bs) (i:Nat):qP (s.getD i 0)=if bat s i<32\/bat s i=127 then JL (bat s i) else if bat s i=34\/bat s i=92 then [92,s.getD i 0] else [s.getD i 0]:=rfl
def Qgf (x:SelD):Bool := !decide (2147483647<x.key.length) && !decide (2147483647<x.val.length)
def Qc0 (l:List SelD):Bool := !decide (2147483647<l.length)&&(xa l.length).all (fun i=>Qgf (l.getD i default))
def QbY (s:Bs):Bool:=(xa s.length).all (fun i => !(decide (128<=bat s i)||(decide (65<=bat s i)&&decide (bat s i<=90))))
def c30i (svs:List SV) (b:Option SB):QR:=match svs,b with
 | [.agg [.int .i64 k,.int .i64 o,.str ke,.str va,.int .i64 a,.int .i64 bb,.int .i64 fl,.int .i64 sz]],none=>some ([],.bool (Qgf ⟨k,o,ke,va,a,bb,fl,sz⟩))
 | _,_=>none
noncomputable def W30:Wk:=⟨[],Qh Tryz.f30,false,false,[.tmp 2],[4],[],[]⟩
theorem has30:Has 30:=hsf Tryz.f30
theorem QvE:Sat 30 (Ql c30i):=by
 have hD:Qb W30.D:=Qb.nil
 refine W30.sa hD Tryz.f30 fun svs b K hP=>?_
 obtain⟨ps,v,e,hp,hk⟩:=Qd hP
 unfold c30i at e
 split at e
 rename_i k o ke va a bb fl sz
 cases e
 refine W30.en (cond (decide (2147483647<ke.length)) (K (.val (.bool false)) none) (cond (decide (2147483647<va.length)) (K (.val (.bool false)) none) (K (.val (.bool true)) none))) ?_
 refine Qa (fun h1=>?_) (fun h1=>?_)
 skip
 refine Vd hk ?_
 simp only[Qgf]
 simp[*]
 skip
 refine Qa (fun h2=>?_) (fun h2=>?_)
 skip
 refine Vd hk ?_
 simp only[Qgf]
 simp[*]
 skip
 refine Vd hk ?_
 simp only[Qgf]
 simp[*]
 cases e
def c30 (svs:List SV) (b:Option SB):QR:=match svs,b with
 | [x],none=>match QbL x with
  | some x=>some ([],.bool (Qgf x))
  | _=>none
 | _,_=>none
theorem sat30:Sat 30 (Ql c30):=by
 refine Sat.wk QvE fun svs b K h=>?_
 obtain⟨ps,v,e,hp,hk⟩:=Qd h
 unfold c30 at e
 split at e
 rename_i x
 split at e
 rename_i x' hx
 cases e
 exact⟨[.agg (Vn x')],⟨fun ω v=>JW hx,trivial⟩,hk⟩
 cases e
 cases e
def c14 (svs:List SV) (b:Option SB):QR:=match svs,b with
 | [.sl (.sels l)],none=>some ([l.length<=9223372036854775807],.bool (Qc0 l))
 | _,_=>none
noncomputable def W14:Wk:=⟨[(30,.pure c30)],Qh Tryz.f14,false,false,[.tmp 2],[4],[(4,1792)],[]⟩
theorem has14:Has 14:=hsf Tryz.f14
theorem Qls {p q:Prop} (k:q) (h:p:=by first | omega | (simp;done) | (simp;omega) | (simp;assumption)):p/\q:=⟨h,k⟩
theorem sat14:Sat 14 (Ql c14):=by
 have hD:Qb W14.D:=(Qb.cons has30 sat30 Qb.nil)
 refine W14.sa hD Tryz.f14 fun svs b K hP=>?_
 obtain⟨ps,v,e,hp,hk⟩:=Qd hP
 unfold c14 at e
 split at e
 rename_i l
 cases e
 obtain⟨h01,_⟩:=hp
 have L4:∀(mm:Nat) (i:Nat),l.length-i=mm->(l.length<=2147483647/\i<=l.length/\∀j,j<i->Qgf (l.getD j default)=true)->W14.L K 4 (mkS 18 [(8,(.sl (.sels l))),(9,(.nat l.length)),(10,(.nat i))] [] 1):=by
  intro mm
  induction mm using zi with
  | _ mm ih=>
   intro i hm hI
   obtain⟨k0,k1,k2⟩:=hI
   refine W14.aL hD (have a0:=l.getD i default;cond (decide (i<l.length)) ((i<l.length)/\cond (!(Qgf (SelD.mk (a0.kind) (a0.op) (a0.key) (a0.val) (a0.a) (a0.b) (a0.flag) (a0.size)))) (K (.val (.bool false)) none) ((i+1<=9223372036854775807)/\(W14).L K 4 (mkS 18 [(8,(.sl (.sels l))),(9,(.nat l.length)),(10,(.nat (i+1)))] [(1,.blk 33 [(.int .i64 (a0.kind)),(.int .i64 (a0.op)),(.str (a0.key)),(.str (a0.val)),(.int .i64 (a0.a)),(.int .i64 (a0.b)),(.int .i64 (a0.flag)),(.int .i64 (a0.size))])] 2))) (K (.val (.bool true)) none)) ?_
   refine Qa ?_ ?_<;>intro h1<;>try simp[-za,-zb]at h1
   refine Qls ?_
   refine Qa ?_ ?_<;>intro h2<;>try simp[-za,-zb]at h2
   refine Vd hk ?_
   unfold Qc0
   rw[Qax (p:=fun i=>Qgf (l.getD i default)) h1 h2,Bool.and_false]
   refine Qls ?_
   exact Wk.L.rn [0] (ih _ (by omega) (i+1) rfl ⟨k0,by omega,fun j hj=>by
    rcases (by omega:j<i\/j=i) with q | q
    exact k2 j q
    subst q;exact h2⟩)
   refine Vd hk ?_
   unfold Qc0
   rw[U8 (fun j hj=>k2 j (by omega))]
   simp;omega
 refine W14.en (cond (decide (2147483647<l.length)) (K (.val (.bool false)) none) ((W14).L K 4 (mkS 18 [(8,(.sl (.sels l))),(9,(.nat l.length)),(10,(.nat 0))] [] 1))) ?_
 refine Qa ?_ ?_<;>intro h1<;>try simp[-za,-zb]at h1
 refine Vd hk ?_
 unfold Qc0
 rw[decide_eq_true h1];rfl
 exact L4 _ 0 rfl ⟨by omega,by omega,fun j hj=>by omega⟩
 cases e
def c31 (svs:List SV) (b:Option SB):QR:=match svs,b with
 | [.str s],none=>some ([s.length<=1000000000000],.bool (QbY s))
 | _,_=>none
noncomputable def W31:Wk:=⟨[],Qh Tryz.f31,false,false,[.tmp 2],[4],[(2,9)],[]⟩
theorem has31:Has 31:=hsf Tryz.f31
theorem nbz2 {c0 c1 p0 q:Prop} (k:q) (h:c0->c1->p0/\True:=by intro g0 g1;(try simp at g0);(try simp at g1);exact⟨(by first | omega | (simp;done) | (simp;omega) | (simp;assumption)),trivial⟩):(c0->c1->p0/\True)/\q:=⟨h,k⟩
theorem QqK {c0 p0 q:Prop} (k:q) (h:c0->p0/\True:=by intro g0;(try simp at g0);exact⟨(by first | omega | (simp;done) | (simp;omega) | (simp;assumption)),trivial⟩):(c0->p0/\True)/\q:=⟨h,k⟩
theorem sat31:Sat 31 (Ql c31):=by
 have hD:Qb W31.D:=Qb.nil
 refine W31.sa hD Tryz.f31 fun svs b K hP=>?_
 obtain⟨ps,v,e,hp,hk⟩:=Qd hP
 unfold c31 at e
 split at e
 rename_i s
 cases e
 obtain⟨h01,_⟩:=hp
 have L2:∀(mm:Nat) (i:Nat),s.length-i=mm->(i<=s.length/\∀j,j<i->(!(decide (128<=bat s j)||(decide (65<=bat s j)&&decide (bat s j<=90))))=true)->W31.L K 2 (mkS 26 [(0,(.str s)),(3,(.nat i))] [] 1):=by
  intro mm
  induction mm using zi with
  | _ mm ih=>
   intro i hm hI
   obtain⟨k1,k2⟩:=hI
   refine W31.aL hD (have a0:=decide (128<=bat s i);cond (decide (i<s.length)) ((i<s.length)/\(a0=false->(i<s.length)/\True)/\(a0=false->(decide (65<=bat s i))=true->(i<s.length)/\True)/\cond (a0||((decide (65<=bat s i))&&(decide (bat s i<=90)))) (K (.val (.bool false)) none) ((i+1<=9223372036854775807)/\(W31).L K 2 (mkS 26 [(0,(.str s)),(3,(.nat (i+1)))] [] 1))) (K (.val (.bool true)) none)) ?_
   refine Qa ?_ ?_<;>intro h1<;>try simp[-za,-zb]at h1
   refine Qls (QqK (nbz2 ?_))
   refine Qa ?_ ?_<;>intro h2<;>try simp[-za,-zb]at h2
   refine Vd hk ?_
   unfold QbY
   rw[Qax h1 (by simp;omega)]
   refine Qls ?_
   exact ih _ (by omega) (i+1) rfl ⟨by omega,fun j hj=>by
    rcases (by omega:j<i\/j=i) with q | q
    exact k2 j q
    subst q;simp;omega⟩
   refine Vd hk ?_
   unfold QbY
   rw[U8 (fun j hj=>k2 j (by omega))]
 refine W31.en ((W31).L K 2 (mkS 26 [(0,(.str s)),(3,(.nat 0))] [] 1)) ?_
 exact L2 _ 0 rfl ⟨by omega,fun j hj=>by omega⟩
 cases e
def c55 (svs:List SV) (b:Option SB):QR:=match svs,b with
 | [.int .i64 n],none=>some ([],.bool (Q0 n))
 | _,_=>none
noncomputable def W55:Wk:=⟨[(80,.pure c80)],Qh Tryz.f55,false,false,[.tmp 2],[4],[],[]⟩
theorem Qu8:Has 55:=hsf Tryz.f55
theorem QuF:Sat 55 (Ql c55):=by
 have hD:Qb W55.D:=(Qb.cons Qu6 QuD Qb.nil)
 refine W55.sa hD Tryz.f55 fun svs b K hP=>?_
 obtain⟨ps,v,e,hp,hk⟩:=Qd hP
 unfold c55 at e
 split at e
 rename_i n
 cases e
 refine W55.en (K (.val (.bool (((Qy n)||(decide (n=(21:Int))))||(decide (n=(22:Int)))))) none) ?_
 exact hk
 cases e
def c88 (svs:List SV) (b:Option SB):QR:=match svs,b with
 | [.nat n],none=>some ([n<=2147483647],.str (JL n))
 | _,_=>none
noncomputable def W88:Wk:=⟨[],Qh Tryz.f88,false,false,[.tmp 2],[9],[(2,9)],[]⟩
theorem Qu5:Has 88:=hsf Tryz.f88
theorem QjQ {p q:Prop} (k:q) (h:p:=by first | omega | (simp;done) | (simp;omega) | (simp only[zf,zI,zF,zg,zl];omega)):p/\q:=⟨h,k⟩
theorem QuC:Sat 88 (Ql c88):=by
 have hD:Qb W88.D:=Qb.nil
 refine W88.sa hD Tryz.f88 fun svs b K hP=>?_
 obtain⟨ps,v,e,hp,hk⟩:=Qd hP
 unfold c88 at e
 split at e
 rename_i n
 cases e
 obtain⟨h01,_⟩:=hp
 have L2:∀(mm:Nat) (c:Nat) (o:List UInt8),c=mm->(Qge n []=Qge c o/\o.length+c<=2147483647)->W88.L K 2 (mkS 19 [(0,(.nat c)),(3,(.str o))] [] 1):=by
  intro mm
  induction mm using zi with
  | _ mm ih=>
   intro c o hm hI
   obtain⟨k1,k2⟩:=hI
   refine W88.aL hD (have a0:=([48,49,50,51,52,53,54,55,56,57,97,98,99,100,101,102]:List UInt8).take (c%16+1);cond (decide (0<c)) ((0<16)/\(0<16)/\(c%16+1<=9223372036854775807)/\(c%16<=c%16+1/\c%16+1<=16)/\((a0.drop (c%16)).length+o.length<=2305843009213693952)/\(c<=9223372036854775807/\0<16)/\(W88).L K 2 (mkS 19 [(0,(.nat (c/16))),(3,(.str (a0.drop (c%16)++o)))] [] 1)) ((1+o.length<=2305843009213693952)/\(([92]++o).length+1<=2305843009213693952)/\K (.val (.str ([92]++o++[32]))) none)) ?_
   refine Qa ?_ ?_<;>intro h1<;>try simp[-za,-zb]at h1
   refine QjQ (QjQ (QjQ (QjQ (QjQ (QjQ ?_)))))
   have e:=k1
   rw[show Qge c o=_ from Qge.eq_1 c o,if_pos h1]at e
   exact ih _ (by omega) (c/16) _ rfl ⟨e,by simp only[zf,zI,zF,zg,zl];omega⟩
   refine QjQ (QjQ ?_)
   refine Vv hk ?_
   unfold JL
   rw[k1,Qge,if_neg (by omega)]
   rfl
 refine W88.en ((W88).L K 2 (mkS 19 [(0,(.nat n)),(3,(.str []))] [] 1)) ?_
 exact L2 _ n [] rfl ⟨rfl,by simp;omega⟩
 cases e
def c62 (svs:List SV) (b:Option SB):QR:=match svs,b with
 | [.str s],none=>some ([s.length<=100000],.str (Q2 s))
 | _,_=>none
noncomputable def W62:Wk:=⟨[(88,.pure c88),(89,.pure c89)],Qh Tryz.f62,false,false,[.tmp 2],[9],[(5,25)],[]⟩
theorem Qrs:Has 62:=hsf Tryz.f62
theorem nbz6 {c0 c1 p0 q:Prop} (k:q) (h:c0->c1->p0/\True:=by intro g0 g1;(try simp at g0);(try simp at g1);exact⟨(by first | omega | (simp;done) | (have q1:=Jo (Qc7 s i);omega) | (simp only[zf,zI,zF,zg,zl];omega)),trivial⟩):(c0->c1->p0/\True)/\q:=⟨h,k⟩
theorem nbz5 {c0 c1 c2 c3 p0 q:Prop} (k:q) (h:c0->c1->c2->c3->p0/\True:=by intro g0 g1 g2 g3;(try simp at g0);(try simp at g1);(try simp at g2);(try simp at g3);exact⟨(by first | omega | (simp;done) | (have q1:=Jo (Qc7 s i);omega) | (simp only[zf,zI,zF,zg,zl];omega)),trivial⟩):(c0->c1->c2->c3->p0/\True)/\q:=⟨h,k⟩
theorem Jl {p q:Prop} (k:q) (h:p:=by first | omega | (simp;done) | (have q1:=Jo (Qc7 s i);omega) | (simp only[zf,zI,zF,zg,zl];omega)):p/\q:=⟨h,k⟩
theorem QpX:Sat 62 (Ql c62):=by
 have hD:Qb W62.D:=(Qb.cons Qu5 QuC (Qb.cons Qg9 Qgw Qb.nil))
 refine W62.sa hD Tryz.f62 fun svs b K hP=>?_
 obtain⟨ps,v,e,hp,hk⟩:=Qd hP
 unfold c62 at e
 split at e
 rename_i s
 cases e
 obtain⟨h01,_⟩:=hp
 have L5:∀(mm:Nat) (i:Nat) (o:List UInt8),s.length-i=mm->(i<=s.length/\o++nmF (bat s 0) i (s.drop i)=nmF (bat s 0) 0 s/\o.length<=4*i/\s≠[45])->W62.L K 5 (mkS 84 [(0,(.str s)),(3,(.str o)),(4,(.nat i))] [] 1):=by
  intro mm
  induction mm using zi with
  | _ mm ih=>
   intro i o hm hI
   obtain⟨k1,k2,k3,k4⟩:=hI
   refine W62.aL hD (have a0:=((decide (bat s i<32))||(decide (bat s i=127)))||(((decide (48<=bat s i))&&(decide (bat s i<=57)))&&((decide (i=0))||((decide (i=1))&&(decide (bat s 0=45)))));have a1:=i+1<=9223372036854775807;have a2:=(s.take (i+1)).drop i;cond (decide (i<s.length)) ((i<s.length)/\(((decide (bat s i<32))||(decide (bat s i=127)))=false->((decide (48<=bat s i))&&(decide (bat s i<=57)))=true->(decide (i=0))=false->(decide (i=1))=true->(0<s.length)/\True)/\(a0=false->((decide (bat s i=45))&&(decide (i=1)))=true->(0<s.length)/\True)/\cond (a0||(((decide (bat s i=45))&&(decide (i=1)))&&(decide (bat s 0=45)))) ((bat s i<=2147483647)/\(o.length+(JL (bat s i)).length<=2305843009213693952)/\a1/\(W62).L K 5 (mkS 84 [(0,(.str s)),(3,(.str (o++(JL (bat s i))))),(4,(.nat (i+1)))] [] 1)) (cond (Qq (bat s i)) (a1/\(i<=i+1/\i+1<=s.length)/\(o.length+a2.length<=2305843009213693952)/\a1/\(W62).L K 5 (mkS 84 [(0,(.str s)),(3,(.str (o++a2))),(4,(.nat (i+1)))] [] 1)) (a1/\(i<=i+1/\i+1<=s.length)/\(1+a2.length<=2305843009213693952)/\(o.length+([92]++a2).length<=2305843009213693952)/\a1/\(W62).L K 5 (mkS 84 [(0,(.str s)),(3,(.str (o++([92]++a2)))),(4,(.nat (i+1)))] [] 1)))) (K (.val (.str o)) none)) ?_
   refine Qa ?_ ?_<;>intro h1<;>try simp[-za,-zb]at h1
   refine Jl (nbz5 (nbz6 ?_))
   refine Qa ?_ ?_<;>intro h2<;>try simp[-za,-zb]at h2
   refine Jl (Jl (Jl ?_))
   have q1:=Jo (Qc7 s i)
   exact ih _ (by omega) (i+1) _ rfl ⟨by omega,QhZ h1 k2 (nmP_1 h2),by rw[zf];omega,k4⟩
   refine Qa (fun h3=>?_) (fun h3=>?_)
   try simp[-za,-zb]at h3
   refine Jl (Jl (Jl (Jl ?_)))
   rw[Qhz h1]
   exact ih _ (by omega) (i+1) _ rfl ⟨by omega,QhZ h1 k2 (by rw[Qu1 h2,if_pos h3]),by simp;omega,k4⟩
   try simp[-za,-zb]at h3
   refine Jl (Jl (Jl (Jl (Jl ?_))))
   rw[Qhz h1]
   exact ih _ (by omega) (i+1) _ rfl ⟨by omega,QhZ h1 k2 (by rw[Qu1 h2,if_neg (by rw[h3];exact zo)];rfl),by simp;omega,k4⟩
   refine Vv hk ?_
   unfold Q2
   rw[if_neg k4,<-k2,List.drop_eq_nil_of_le h1,nmF,zD]
 refine W62.en (cond (decide (s=[45])) (K (.val (.str [92,45])) none) ((W62).L K 5 (mkS 84 [(0,(.str s)),(3,(.str [])),(4,(.nat 0))] [] 1))) ?_
 refine Qa ?_ ?_<;>intro h1<;>try simp[-za,-zb]at h1
 refine Vv hk ?_
 unfold Q2
 rw[if_pos h1]
 exact L5 _ 0 [] rfl ⟨by omega,rfl,by simp,h1⟩
 cases e
def c82 (svs:List SV) (b:Option SB):QR:=match svs,b with
 | [.str s],none=>some ([s.length<=100000],.str (Ye s))
 | _,_=>none
noncomputable def W82:Wk:=⟨[(88,.pure c88)],Qh Tryz.f82,false,false,[.tmp 2],[9],[(3,25)],[]⟩
theorem has82:Has 82:=hsf Tryz.f82
theorem sat82:Sat 82 (Ql c82):=by
 have hD:Qb W82.D:=(Qb.cons Qu5 QuC Qb.nil)
 refine W82.sa hD Tryz.f82 fun svs b K hP=>?_
 obtain⟨ps,v,e,hp,hk⟩:=Qd hP
 unfold c82 at e
 split at e
 rename_i s
 cases e
 obtain⟨h01,_⟩:=hp
 have L3:∀(mm:Nat) (i:Nat) (o:List UInt8),s.length-i=mm->(i<=s.length/\o++qF (s.drop i)=34::qF s/\o.length<=4*i+1)->W82.L K 3 (mkS 51 [(0,(.str s)),(3,(.str o)),(4,(.nat i))] [] 1):=by
  intro mm
  induction mm using zi with
  | _ mm ih=>
   intro i o hm hI
   obtain⟨k1,k2,k3⟩:=hI
   refine W82.aL hD (have a0:=i+1<=9223372036854775807;have a1:=(s.take (i+1)).drop i;cond (decide (i<s.length)) ((i<s.length)/\cond ((decide (bat s i<32))||(decide (bat s i=127))) ((bat s i<=2147483647)/\(o.length+(JL (bat s i)).length<=2305843009213693952)/\a0/\(W82).L K 3 (mkS 51 [(0,(.str s)),(3,(.str (o++(JL (bat s i))))),(4,(.nat (i+1)))] [] 1)) (cond ((decide (bat s i=34))||(decide (bat s i=92))) (a0/\(i<=i+1/\i+1<=s.length)/\(1+a1.length<=2305843009213693952)/\(o.length+([92]++a1).length<=2305843009213693952)/\a0/\(W82).L K 3 (mkS 51 [(0,(.str s)),(3,(.str (o++([92]++a1)))),(4,(.nat (i+1)))] [] 1)) (a0/\(i<=i+1/\i+1<=s.length)/\(o.length+a1.length<=2305843009213693952)/\a0/\(W82).L K 3 (mkS 51 [(0,(.str s)),(3,(.str (o++a1))),(4,(.nat (i+1)))] [] 1)))) ((o.length+1<=2305843009213693952)/\K (.val (.str (o++[34]))) none)) ?_
   refine Qa ?_ ?_<;>intro h1<;>try simp[-za,-zb]at h1
   refine Jl ?_
   refine Qa ?_ ?_<;>intro h2<;>try simp[-za,-zb]at h2
   refine Jl (Jl (Jl ?_))
   have q1:=Jo (Qc7 s i)
   exact ih _ (by omega) (i+1) _ rfl ⟨by omega,Qle h1 k2 (by rw[Qqs,if_pos h2]),by rw[zf];omega⟩
   refine Qa (fun h3=>?_) (fun h3=>?_)
   try simp[-za,-zb]at h3
   refine Jl (Jl (Jl (Jl (Jl ?_))))
   rw[Qhz h1]
   exact ih _ (by omega) (i+1) _ rfl ⟨by omega,Qle h1 k2 (by rw[Qqs,if_neg (by omega),if_pos h3];rfl),by simp;omega⟩
   try simp[-za,-zb]at h3
   refine Jl (Jl (Jl (Jl ?_)))
   rw[Qhz h1]
   exact ih _ (by omega) (i+1) _ rfl ⟨by omega,Qle h1 k2 (by rw[Qqs,if_neg (by omega),if_neg (by omega)]),by simp;omega⟩
   refine Jl ?_
   refine Vv hk ?_
   unfold Ye
   rw[List.drop_eq_nil_of_le h1,qF,zD]at k2
   rw[k2];rfl
 refine W82.en ((W82).L K 3 (mkS 51 [(0,(.str s)),(3,(.str [34])),(4,(.nat 0))] [] 1)) ?_
 exact L3 _ 0 [34] rfl ⟨by omega,rfl,by simp⟩
 cases e
def c102 (svs:List SV) (b:Option SB):QR:=match svs,b with
 | [.int .i64 n],none=>some ([-100000000000000000<=n/\n<=100000000000000000],.str (Zm n))
 | _,_=>none
noncomputable def W102:Wk:=⟨[(101,.pure QnJ)],Qh Tryz.f102,false,false,[.tmp 2],[9],[],[]⟩
theorem Qyk:Has 102:=hsf Tryz.f102
theorem QqJ {p q:Prop} (k:q) (h:p:=by first | omega | (unfold inI;omega) | (simp;done) | (have q1:=JD (n:=n.toNat) (by omega);omega) | (have q1:=JD (n:=(0-n).toNat) (by omega);omega)):p/\q:=⟨h,k⟩
theorem QwD:Sat 102 (Ql c102):=by
 have hD:Qb W102.D:=(Qb.cons QlU QmC Qb.nil)
 refine W102.sa hD Tryz.f102 fun svs b K hP=>?_
 obtain⟨ps,v,e,hp,hk⟩:=Qd hP
 unfold c102 at e
 split at e
 rename_i n
 cases e
 obtain⟨h01,_⟩:=hp
 refine W102.en (cond (decide (n<(0:Int))) ((inI (0-n))/\(0<=(0-n)/\(0-n)<=1000000000000000000)/\(1+(Yu ((0-n)).toNat).length<=2305843009213693952)/\K (.val (.str ([45]++(Yu ((0-n)).toNat)))) none) ((0<=n/\n<=1000000000000000000)/\(1+(Yu (n).toNat).length<=2305843009213693952)/\K (.val (.str ([43]++(Yu (n).toNat)))) none)) ?_
 refine Qa ?_ ?_<;>intro h1<;>try simp[-za,-zb]at h1
 refine QqJ (QqJ (QqJ ?_))
 refine Vv hk ?_
 unfold Zm
 rw[if_pos h1,show -n=0-n by omega];rfl
 refine QqJ (QqJ ?_)
 refine Vv hk ?_
 unfold Zm
 rw[if_neg (by omega)];rfl
 cases e
def c83 (svs:List SV) (b:Option SB):QR:=match svs,b with
 | [.int .i64 a,.int .i64 b],none=>some ([-100000000000000000<=a/\a<=100000000000000000,-100000000000000000<=b/\b<=100000000000000000],.str (YH a b))
 | _,_=>none
noncomputable def W83:Wk:=⟨[(101,.pure QnJ),(102,.pure c102)],Qh Tryz.f83,false,false,[.tmp 4],[9],[],[]⟩
theorem has83:Has 83:=hsf Tryz.f83
theorem Qga {p q:Prop} (k:q) (h:p:=by first | omega | (unfold inI;omega) | (simp;done) | (have q1:=JD (n:=a.toNat) (by omega);have q2:=QaR h02;first | omega | (simp only[zf,zg,zl];omega)) | (have q1:=JD (n:=(0-a).toNat) (by omega);have q2:=QaR h02;first | omega | (simp only[zf,zg,zl];omega))):p/\q:=⟨h,k⟩
theorem sat83:Sat 83 (Ql c83):=by
 have hD:Qb W83.D:=(Qb.cons QlU QmC (Qb.cons Qyk QwD Qb.nil))
 refine W83.sa hD Tryz.f83 fun svs b K hP=>?_
 obtain⟨ps,v,e,hp,hk⟩:=Qd hP
 unfold c83 at e
 split at e
 rename_i a b
 cases e
 obtain⟨h01,h02,_⟩:=hp
 refine W83.en (have a0:=Yu ((0-a)).toNat;cond (decide (a<(0:Int))) ((inI (0-a))/\(0<=(0-a)/\(0-a)<=1000000000000000000)/\(1+a0.length<=2305843009213693952)/\(([45]++a0).length+1<=2305843009213693952)/\(-100000000000000000<=b/\b<=100000000000000000)/\(([45]++a0++[110]).length+(Zm b).length<=2305843009213693952)/\K (.val (.str ([45]++a0++[110]++(Zm b)))) none) ((0<=a/\a<=1000000000000000000)/\((Yu (a).toNat).length+1<=2305843009213693952)/\(-100000000000000000<=b/\b<=100000000000000000)/\((Yu (a).toNat++[110]).length+(Zm b).length<=2305843009213693952)/\K (.val (.str (Yu (a).toNat++[110]++(Zm b)))) none)) ?_
 refine Qa ?_ ?_<;>intro h1<;>try simp[-za,-zb]at h1
 refine Qga (Qga (Qga (Qga (Qga (Qga ?_)))))
 refine Vv hk ?_
 unfold YH
 rw[if_pos h1,show -a=0-a by omega];simp
 refine Qga (Qga (Qga (Qga ?_)))
 refine Vv hk ?_
 unfold YH
 rw[if_neg (by omega)];simp
 cases e
def c53i (svs:List SV) (b:Option SB):QR:=match svs,b with
 | [.agg [.int .i64 k,.int .i64 o,.str ke,.str va,.int .i64 a,.int .i64 bb,.int .i64 fl,.int .i64 sz]],none=>some ([ke.length<=1000000/\va.length<=1000000],.bool (UJ ⟨k,o,ke,va,a,bb,fl,sz⟩))
 | _,_=>none
noncomputable def W53:Wk:=⟨[(22,.pure c22),(77,.pure c77),(78,.pure c78)],Qh Tryz.f53,false,false,[.tmp 2],[4],[],[]⟩
theorem has53:Has 53:=hsf Tryz.f53
theorem nbz9 {c0 p0 p1 q:Prop} (k:q) (h:c0->p0/\p1/\True:=by intro g0;(try simp at g0);exact⟨(by first | omega | (simp;done) | (simp;omega) | (simp;assumption)),(by first | omega | (simp;done) | (simp;omega) | (simp;assumption)),trivial⟩):(c0->p0/\p1/\True)/\q:=⟨h,k⟩
theorem QvA:Sat 53 (Ql c53i):=by
 have hD:Qb W53.D:=(Qb.cons Qvf QuN (Qb.cons QfA QeV (Qb.cons has78 sat78 Qb.nil)))
 refine W53.sa hD Tryz.f53 fun svs b K hP=>?_
 obtain⟨ps,v,e,hp,hk⟩:=Qd hP
 unfold c53i at e
 split at e
 rename_i k o ke va a bb fl sz
 cases e
 obtain⟨h01,_⟩:=hp
 refine W53.en (have a1 := !(VV ke 0);have a0:=a1||(!(VV va 0));have a2:=((decide (k=(3:Int)))||(decide (k=(4:Int))))||(decide (k=(15:Int)));have a3:=(a0==false)=true;have a4:=decide (fl=(0:Int));have a5:=a1=false->((a1==false)=true)/\True;(ke.length<=1000000)/\a5/\(a1=false->((a1==false)=true)/\(va.length<=1000000)/\True)/\a5/\(a1=false->(a1==false)=true)/\(a0=false->a3/\True)/\(a0=false->a3/\(ke.length<=1000000000)/\True)/\(a0=false->a3/\True)/\(a0=false->a3/\a3/\True)/\(a0=false->(a0==false)=true)/\cond (a0||(!(decide (low ke=ke)))) (K (.val (.bool false)) none) (cond (((decide (((decide (k=(2:Int)))||(decide (k=(5:Int))))=(decide (ke=[]))))||(a2&&(decide (va=[]))))||(((!(((a2||((decide (k=(5:Int)))&&(!(decide (o=(1:Int))))))||(decide (k=(16:Int))))||(decide (k=(17:Int)))))&&(!(decide (va=[]))))&&((!(decide (k=(21:Int))))||(!(QbQ va))))) (K (.val (.bool false)) none) (cond ((((((!(decide (k=(6:Int))))&&((!(decide (a=(0:Int))))||(!(decide (bb=(0:Int))))))||(decide ((9999:Int)<a)))||(decide (a<(-9999))))||(decide ((9999:Int)<bb)))||(decide (bb<(-9999)))) (K (.val (.bool false)) none) (cond (decide (k=(5:Int))) (K (.val (.bool (((((decide ((1:Int)<=o))&&(decide (o<=(8:Int))))&&(decide ((0:Int)<=fl)))&&(decide (fl<=(1:Int))))&&((!(decide (o=(1:Int))))||a4)))) none) (cond (decide (k=(22:Int))) (K (.val (.bool (((decide ((1:Int)<=o))&&(decide (o<=(4:Int))))&&a4))) none) (cond (decide (k=(6:Int))) (K (.val (.bool (((decide (o=(0:Int)))&&(decide ((0:Int)<=fl)))&&(decide (fl<=(3:Int)))))) none) (cond (decide (k=(7:Int))) (K (.val (.bool ((decide (o=(0:Int)))&&(a4||(decide (fl=(2:Int))))))) none) (K (.val (.bool ((decide (o=(0:Int)))&&a4))) none)))))))) ?_
 refine Qls (QqK (nbz9 (QqK (Qls (QqK (nbz9 (QqK (nbz9 (Qls ?_)))))))))
 refine Qa ?_ ?_<;>intro h1<;>try simp[-za,-zb]at h1
 refine Vd hk ?_
 rw[xH]
 intro hc
 simp only[UJ,zh,zO,zV,decide_eq_true_eq,zu,zz,decide_eq_false_iff_not,beq_eq_false_iff_ne]at hc
 grind
 refine Qa (fun h2=>?_) (fun h2=>?_)
 try simp[-za,-zb]at h2
 refine Vd hk ?_
 rw[xH]
 intro hc
 simp only[UJ,zh,zO,zV,decide_eq_true_eq,zu,zz,decide_eq_false_iff_not,beq_eq_false_iff_ne]at hc
 grind
 try simp[-za,-zb]at h2
 refine Qa ?_ ?_<;>intro h3<;>try simp[-za,-zb]at h3
 refine Vd hk ?_
 rw[xH]
 intro hc
 simp only[UJ,zh,zO,zV,decide_eq_true_eq,zu,zz,decide_eq_false_iff_not,beq_eq_false_iff_ne]at hc
 grind
 refine Qa (fun h4=>?_) (fun h4=>?_)
 try simp[-za,-zb]at h4
 refine Vd hk ?_
 simp only[UJ]
 grind
 try simp[-za,-zb]at h4
 refine Qa ?_ ?_<;>intro h5<;>try simp[-za,-zb]at h5
 refine Vd hk ?_
 simp only[UJ]
 grind
 refine Qa (fun h6=>?_) (fun h6=>?_)
 try simp[-za,-zb]at h6
 refine Vd hk ?_
 simp only[UJ]
 grind
 try simp[-za,-zb]at h6
 refine Qa ?_ ?_<;>intro h7<;>try simp[-za,-zb]at h7
 refine Vd hk ?_
 simp only[UJ]
 grind
 refine Vd hk ?_
 simp only[UJ]
 grind
 cases e
def c53 (svs:List SV) (b:Option SB):QR:=match svs,b with
 | [x],none=>match QbL x with
  | some x=>some ([x.key.length<=1000000/\x.val.length<=1000000],.bool (UJ x))
  | _=>none
 | _,_=>none
theorem sat53:Sat 53 (Ql c53):=by
 refine Sat.wk QvA fun svs b K h=>?_
 obtain⟨ps,v,e,hp,hk⟩:=Qd h
 unfold c53 at e
 split at e
 rename_i x
 split at e
 rename_i x' hx
 cases e
 exact⟨[.agg (Vn x')],⟨fun ω v=>JW hx,trivial⟩,hp.1,hk⟩
 cases e
 cases e
end
section
open Go Go.RowKit
set_option maxRecDepth 20000
theorem QrI {l:List SelD} {j:Nat} (h:j<l.length):l.getD j default∈l:=by
 simp[za,ze h]
def c52 (m:Nat) (svs:List SV) (b:Option SB):QR:=match svs,b with
 | [.sl (.sels l),.nat i,x],none=>match toI x with
  | some e=>some ([l.length<=1000000,i<l.length,e<=l.length,e<=((m:Nat):Int)+((i:Nat):Int),((i:Nat):Int)<e],.bool (szB m l i e))
  | _=>none
 | _,_=>none
theorem Qu9:Has 52:=hsf Tryz.f52
def c52s (m:Nat) (svs:List SV) (b:Option SB):QR:=match svs,b with
 | [.sl (.sels l),.nat i,.int .i64 e],none=>some ([l.length<=1000000,i<l.length,e<=l.length,e<=((m+1:Nat):Int)+((i:Nat):Int),((i:Nat):Int)<e],.bool (szB (m+1) l i e))
 | _,_=>none
noncomputable def W52 (m:Nat):Wk:=⟨[(52,.pure (c52 m))],Qh Tryz.f52,false,false,[.tmp 6],[4],[(5,387)],[]⟩
theorem ncz1 {c0 p0 q:Prop} (k:q) (h:c0->p0/\True:=by intro g0;(try simp at g0);exact⟨(by first | omega | (unfold inI;omega) | (have q1:=QaO h2;first | omega | (unfold inI;omega))),trivial⟩):(c0->p0/\True)/\q:=⟨h,k⟩
theorem Qff {p q:Prop} (k:q) (h:p:=by first | omega | (unfold inI;omega) | (have q1:=QaO h2;first | omega | (unfold inI;omega))):p/\q:=⟨h,k⟩
theorem QvB (m:Nat) (hG:Sat 52 (Ql (c52 m))):Sat 52 (Ql (c52s m)):=by
 have hD:Qb (W52 m).D:=(Qb.cons Qu9 hG Qb.nil)
 refine (W52 m).sa hD Tryz.f52 fun svs b K hP=>?_
 obtain⟨ps,v,e,hp,hk⟩:=Qd hP
 unfold c52s at e
 split at e
 rename_i l i e
 cases e
 obtain⟨h01,h02,h03,h04,h05,_⟩:=hp
 have L5:∀(mm:Nat) (k:Nat),(i+(l.getD i default).size-k).toNat=mm->((k:Int)<=i+(l.getD i default).size/\szB (m+1) l i e=Qi3 (szB m l) l (i+(l.getD i default).size) k/\1<=(l.getD i default).size/\(i:Int)+(l.getD i default).size<=e/\i+1<=k)->(W52 m).L K 5 (mkS 44 [(0,(.sl (.sels l))),(1,(.nat i)),(7,(.int .i64 ((l.getD i default).size))),(8,(.nat k))] [] 1):=by
  intro mm
  induction mm using zi with
  | _ mm ih=>
   intro k hm hI
   obtain⟨k1,k2,k3,k4,k5⟩:=hI
   refine (W52 m).aL hD (have a0:=((i:Nat):Int)+(l.getD i default).size;(inI a0)/\cond (decide (((k:Nat):Int)<a0)) ((inI a0)/\(l.length<=1000000)/\(k<l.length)/\(a0<=l.length)/\(a0<=((m:Nat):Int)+((k:Nat):Int))/\(((k:Nat):Int)<a0)/\cond (!(szB m l k a0)) (K (.val (.bool false)) none) ((k<l.length)/\(inI (((k:Nat):Int)+(l.getD k default).size))/\(W52 m).L K 5 (mkS 44 [(0,(.sl (.sels l))),(1,(.nat i)),(7,(.int .i64 ((l.getD i default).size))),(8,(.int .i64 (((k:Nat):Int)+(l.getD k default).size)))] [] 1))) (K (.val (.bool true)) none)) ?_
   refine Qff ?_
   refine Qa ?_ ?_<;>intro h1<;>try simp[-za,-zb]at h1
   refine Qff (Qff (Qff (Qff (Qff (Qff ?_)))))
   refine Qa ?_ ?_<;>intro h2<;>try simp[-za,-zb]at h2
   refine Vd hk ?_
   rw[k2,Qi3,if_pos h1,if_neg (by rw[h2];exact zo)]
   refine Qff (Qff ?_)
   obtain⟨q1,q2⟩:=QaO h2
   have e0:((k:Int)+(l.getD k default).size)=((k+(l.getD k default).size.toNat:Nat):Int):=by omega
   rw[e0]
   exact Wk.L.rn [0] (ih _ (by omega) (k+(l.getD k default).size.toNat) rfl ⟨by omega,by rw[k2,Qi3,if_pos h1,if_pos h2,if_pos q1],k3,k4,by omega⟩)
   refine Vd hk ?_
   rw[k2,Qi3,if_neg (by omega)]
 refine (W52 m).en (have a0:=l.getD i default;(i<l.length)/\((decide (a0.size<(1:Int)))=false->(inI (e-((i:Nat):Int)))/\True)/\cond ((decide (a0.size<(1:Int)))||(decide ((e-((i:Nat):Int))<a0.size))) (K (.val (.bool false)) none) ((i+1<=9223372036854775807)/\(W52 m).L K 5 (mkS 44 [(0,(.sl (.sels l))),(1,(.nat i)),(7,(.int .i64 (a0.size))),(8,(.nat (i+1)))] [] 1))) ?_
 refine Qff (ncz1 ?_)
 refine Qa ?_ ?_<;>intro h1<;>try simp[-za,-zb]at h1
 refine Vd hk ?_
 rw[szB,if_pos (by omega)]
 refine Qff ?_
 exact L5 _ (i+1) rfl ⟨by omega,by rw[szB,if_neg (by omega)],by omega,by omega,zj _⟩
 cases e
theorem QuG:∀m,Sat 52 (Ql (c52 m))
 | 0=>by
  intro g0 w M ω svs args b K hS hn hr hP
  exfalso
  obtain⟨ps,v,e,hp,hk⟩:=Qd hP
  unfold c52 at e
  split at e
  split at e
  cases e
  have:=hp.2.2.2.1
  have:=hp.2.2.2.2.1
  omega
  cases e
  cases e
 | m+1=>by
  refine Sat.wk (QvB m (QuG m)) fun svs b K h=>?_
  obtain⟨ps,v,e,hp,hk⟩:=Qd h
  unfold c52 at e
  split at e
  rename_i l i x
  split at e
  rename_i e' hx
  cases e
  exact⟨[.sl (.sels l),.nat i,.int .i64 e'],⟨fun ω v hr=>hr,fun ω v hr=>hr,fun ω v=>YA hx,trivial⟩,hp.1,hp.2.1,hp.2.2.1,hp.2.2.2.1,hp.2.2.2.2.1,hk⟩
  cases e
  cases e
theorem Ql6 (l:List SelD) (i:Nat):(Yc l i).length<=l.length:=by
 unfold Yc
 split
 simp
 rw[zI,zF];omega
def c54 (svs:List SV) (b:Option SB):QR:=match svs,b with
 | [.sl (.sels l),.nat i],none=>some ([l.length<=1000000,UM l i],.bool (shB l i))
 | _,_=>none
noncomputable def W54:Wk:=⟨[(17,.fn c17),(24,.pure c24),(55,.pure c55),(79,.pure c79),(80,.pure c80)],Qh Tryz.f54,false,false,[.tmp 4],[4],[(6,161),(17,289)],[]⟩
theorem has54:Has 54:=hsf Tryz.f54
theorem ncz4 {c0 p0 p1 q:Prop} (k:q) (h:c0->p0/\p1/\True:=by intro g0;(try simp at g0);exact⟨(by first | omega | exact (n5 _ (by omega)).1 | exact fun k hk=>by (have:=(n3 k hk).2.1;omega) | exact fun _=>n2 | exact fun _=>(n5 _ (by omega)).2 | (have:=n6 i;omega) | (have:=n6 ((Qe l i).getD 0 0);omega) | (have:=(n5 0 (by omega)).1;omega) | (simp;done)),(by first | omega | exact (n5 _ (by omega)).1 | exact fun k hk=>by (have:=(n3 k hk).2.1;omega) | exact fun _=>n2 | exact fun _=>(n5 _ (by omega)).2 | (have:=n6 i;omega) | (have:=n6 ((Qe l i).getD 0 0);omega) | (have:=(n5 0 (by omega)).1;omega) | (simp;done)),trivial⟩):(c0->p0/\p1/\True)/\q:=⟨h,k⟩
theorem JR {c0 p0 q:Prop} (k:q) (h:c0->p0/\True:=by intro g0;(try simp at g0);exact⟨(by first | omega | exact (n5 _ (by omega)).1 | exact fun k hk=>by (have:=(n3 k hk).2.1;omega) | exact fun _=>n2 | exact fun _=>(n5 _ (by omega)).2 | (have:=n6 i;omega) | (have:=n6 ((Qe l i).getD 0 0);omega) | (have:=(n5 0 (by omega)).1;omega) | (simp;done)),trivial⟩):(c0->p0/\True)/\q:=⟨h,k⟩
theorem QbD {p q:Prop} (k:q) (h:p:=by first | omega | exact (n5 _ (by omega)).1 | exact fun k hk=>by (have:=(n3 k hk).2.1;omega) | exact fun _=>n2 | exact fun _=>(n5 _ (by omega)).2 | (have:=n6 i;omega) | (have:=n6 ((Qe l i).getD 0 0);omega) | (have:=(n5 0 (by omega)).1;omega) | (simp;done)):p/\q:=⟨h,k⟩
theorem sat54:Sat 54 (Ql c54):=by
 have hD:Qb W54.D:=(Qb.cons Qkl Qji (Qb.cons Qvd QuL (Qb.cons Qu8 QuF (Qb.cons has79 sat79 (Qb.cons Qu6 QuD Qb.nil)))))
 refine W54.sa hD Tryz.f54 fun svs b K hP=>?_
 obtain⟨ps,v,e,hp,hk⟩:=Qd hP
 unfold c54 at e
 split at e
 rename_i l i
 cases e
 obtain⟨h01,h02,_⟩:=hp
 obtain⟨n1,n2,n3,n4⟩:=h02.kids
 have n5:∀j,j<(Qe l i).length->(Qe l i).getD j 0<l.length/\0<=(l.getD ((Qe l i).getD j 0) default).size/\(((Qe l i).getD j 0:Nat):Int)+(l.getD ((Qe l i).getD j 0) default).size<=l.length:=fun j hj=>⟨(n3 _ (ZZ hj)).1,(n3 _ (ZZ hj)).2.2.1,(n3 _ (ZZ hj)).2.2.2.1⟩
 have n6:=Ql6 l
 have L6:∀(mm:Nat) (j:Nat),(Qe l i).length-j=mm->((l.getD i default).kind=23/\j<=(Qe l i).length/\∀q,q<j->Q0 (knd l ((Qe l i).getD q 0))=true)->W54.L K 6 (mkS 149 [(0,(.sl (.sels l))),(5,(.own 1)),(7,(.nat j))] [(1,.row (.ints (Qe l i)) true)] 2):=by
  intro mm
  induction mm using zi with
  | _ mm ih=>
   intro j hm hI
   obtain⟨k0,k1,k2⟩:=hI
   refine W54.aL hD (cond (decide (j<(Qe l i).length)) ((j<(Qe l i).length)/\(j<(Qe l i).length)/\((Qe l i).getD j 0<l.length)/\cond (!(Q0 ((l.getD ((Qe l i).getD j 0) default).kind))) (K (.val (.bool false)) none) ((j+1<=9223372036854775807)/\(W54).L K 6 (mkS 149 [(0,(.sl (.sels l))),(5,(.own 1)),(7,(.nat (j+1)))] [(1,.row (.ints (Qe l i)) true)] 2))) (K (.val (.bool (decide (0<(Qe l i).length)))) none)) ?_
   refine Qa ?_ ?_<;>intro h1<;>try simp[-za,-zb]at h1
   refine QbD (QbD (QbD ?_))
   refine Qa ?_ ?_<;>intro h2<;>try simp[-za,-zb]at h2
   refine Vd hk ?_
   unfold shB
   have kk:knd l i=(l.getD i default).kind:=rfl
   rw[if_pos (by omega),Qax (p:=fun j=>Q0 (knd l ((Qe l i).getD j 0))) h1 h2]
   rfl
   refine QbD ?_
   exact ih _ (by omega) (j+1) rfl ⟨k0,by omega,fun q hq=>by
    rcases (by omega:q<j\/q=j) with w | w
    exact k2 q w
    subst w;exact h2⟩
   refine Vd hk ?_
   unfold shB
   have kk:knd l i=(l.getD i default).kind:=rfl
   rw[if_pos (by omega),U8 (p:=fun j=>Q0 (knd l ((Qe l i).getD j 0))) (fun j hj=>k2 j (by omega))]
   rfl
 have L17:∀(mm:Nat) (j:Nat),(Qe l i).length-j=mm->((l.getD i default).kind=21/\j<=(Qe l i).length/\∀q,q<j->(Qy (knd l ((Qe l i).getD q 0)) && !(decide (knd l ((Qe l i).getD q 0)=2)&&decide (0<q)))=true)->W54.L K 17 (mkS 149 [(0,(.sl (.sels l))),(5,(.own 1)),(8,(.nat j))] [(1,.row (.ints (Qe l i)) true)] 2):=by
  intro mm
  induction mm using zi with
  | _ mm ih=>
   intro j hm hI
   obtain⟨k0,k1,k2⟩:=hI
   refine W54.aL hD (cond (decide (j<(Qe l i).length)) ((j<(Qe l i).length)/\(j<(Qe l i).length)/\((Qe l i).getD j 0<l.length)/\cond (!(Qy ((l.getD ((Qe l i).getD j 0) default).kind))) (K (.val (.bool false)) none) ((j<(Qe l i).length)/\(j<(Qe l i).length)/\((Qe l i).getD j 0<l.length)/\cond ((decide ((l.getD ((Qe l i).getD j 0) default).kind=(2:Int)))&&(decide (0<j))) (K (.val (.bool false)) none) ((j+1<=9223372036854775807)/\(W54).L K 17 (mkS 149 [(0,(.sl (.sels l))),(5,(.own 1)),(8,(.nat (j+1)))] [(1,.row (.ints (Qe l i)) true)] 2)))) (K (.val (.bool true)) none)) ?_
   refine Qa ?_ ?_<;>intro h1<;>try simp[-za,-zb]at h1
   refine QbD (QbD (QbD ?_))
   refine Qa ?_ ?_<;>intro h2<;>try simp[-za,-zb]at h2
   refine Vd hk ?_
   unfold shB
   have kk:knd l i=(l.getD i default).kind:=rfl
   rw[if_neg (by omega),if_neg (by omega),if_pos (by omega),Qax (p:=fun j=>Qy (knd l ((Qe l i).getD j 0)) && !(decide (knd l ((Qe l i).getD j 0)=2)&&decide (0<j))) h1 (show (Qy (l.getD ((Qe l i).getD j 0) default).kind && !(decide ((l.getD ((Qe l i).getD j 0) default).kind=2)&&decide (0<j)))=false by rw[h2];rfl)]
   refine QbD (QbD (QbD ?_))
   refine Qa ?_ ?_<;>intro h3<;>try simp[-za,-zb]at h3
   refine Vd hk ?_
   unfold shB
   have kk:knd l i=(l.getD i default).kind:=rfl
   rw[if_neg (by omega),if_neg (by omega),if_pos (by omega),Qax (p:=fun j=>Qy (knd l ((Qe l i).getD j 0)) && !(decide (knd l ((Qe l i).getD j 0)=2)&&decide (0<j))) h1 (show (Qy (l.getD ((Qe l i).getD j 0) default).kind && !(decide ((l.getD ((Qe l i).getD j 0) default).kind=2)&&decide (0<j)))=false by rw[decide_eq_true h3.1,decide_eq_true h3.2];simp)]
   refine QbD ?_
   exact ih _ (by omega) (j+1) rfl ⟨k0,by omega,fun q hq=>by
    rcases (by omega:q<j\/q=j) with w | w
    exact k2 q w
    subst w;show (Qy (l.getD ((Qe l i).getD q 0) default).kind && !(decide ((l.getD ((Qe l i).getD q 0) default).kind=2)&&decide (0<q)))=true;rw[h2];simp only[Bool.true_and,zO,zV,decide_eq_true_eq,decide_eq_false_iff_not];omega⟩
   refine Vd hk ?_
   unfold shB
   have kk:knd l i=(l.getD i default).kind:=rfl
   rw[if_neg (by omega),if_neg (by omega),if_pos (by omega),U8 (p:=fun j=>Qy (knd l ((Qe l i).getD j 0)) && !(decide (knd l ((Qe l i).getD j 0)=2)&&decide (0<j))) (fun j hj=>k2 j (by omega))]
 refine W54.en (have a2:=l.getD i default;have a3:=(decide ((Qe l i).length=1))=true->(0<(Qe l i).length)/\True;have a7:=(decide ((Qe l i).length=1))=true->((Qe l i).getD 0 0<l.length)/\True;have a10:=(decide ((Qe l i).length=2))=true->(0<(Qe l i).length)/\True;have a11:=(Qe l i).getD 0 0;have a1:=(decide ((Qe l i).length=1))&&(decide ((l.getD a11 default).kind=(23:Int)));have a4:=a1=true->(i<=1000000000000/\l.length<=1000000000000)/\(i<l.length->0<=a2.size/\((i:Nat):Int)+a2.size<=l.length)/\True;have a6:=(decide ((Qe l i).length=2))&&(Q0 ((l.getD a11 default).kind));have a0:=a6&&(Q0 ((l.getD ((Qe l i).getD 1 0) default).kind));have a5:=a0&&(!(decide ((l.getD ((Qe l i).getD 1 0) default).kind=(22:Int))));have a8:=a1=true->((Yc l i).length<=1000000000)/\True;have a9:Out:=.val (.bool (a1&&(!((Yc l i).any YK))));have a12:=a6=true->(1<(Qe l i).length)/\True;have a13:=a0=true->(1<(Qe l i).length)/\True;have a14:=a5=true->(0<(Qe l i).length)/\True;(i<l.length/\l.length<=1000000000000)/\(0<=a2.size/\((i:Nat):Int)+a2.size<=l.length)/\(∀k,k∈Qe l i->(l.getD k default).size<=1000000000000)/\(i<l.length)/\cond (decide (a2.kind=(23:Int))) ((W54).L K 6 (mkS 149 [(0,(.sl (.sels l))),(5,(.own 1)),(7,(.nat 0))] [(2,.blk 33 [(.int .i64 (a2.kind)),(.int .i64 (a2.op)),(.str (a2.key)),(.str (a2.val)),(.int .i64 (a2.a)),(.int .i64 (a2.b)),(.int .i64 (a2.flag)),(.int .i64 (a2.size))]),(1,.row (.ints (Qe l i)) true)] 3)) (cond (decide (a2.kind=(18:Int))) (a3/\a3/\a7/\a4/\a8/\K a9 none) (cond (decide (a2.kind=(19:Int))) (a3/\a3/\a7/\a4/\a8/\K a9 none) (cond (decide (a2.kind=(20:Int))) (a3/\a3/\a7/\a4/\a8/\K a9 none) (cond (decide (a2.kind=(21:Int))) ((W54).L K 17 (mkS 149 [(0,(.sl (.sels l))),(5,(.own 1)),(8,(.nat 0))] [(2,.blk 33 [(.int .i64 (a2.kind)),(.int .i64 (a2.op)),(.str (a2.key)),(.str (a2.val)),(.int .i64 (a2.a)),(.int .i64 (a2.b)),(.int .i64 (a2.flag)),(.int .i64 (a2.size))]),(1,.row (.ints (Qe l i)) true)] 3)) (cond (decide (a2.kind=(22:Int))) (a10/\a10/\((decide ((Qe l i).length=2))=true->((Qe l i).getD 0 0<l.length)/\True)/\a12/\a12/\(a6=true->((Qe l i).getD 1 0<l.length)/\True)/\a13/\a13/\(a0=true->((Qe l i).getD 1 0<l.length)/\True)/\a14/\a14/\(a5=true->((Qe l i).getD 0 0<=1000000000000/\l.length<=1000000000000)/\((Qe l i).getD 0 0<l.length->0<=(l.getD a11 default).size/\(((Qe l i).getD 0 0:Nat):Int)+(l.getD a11 default).size<=l.length)/\True)/\(a5=true->((Yc l a11).length<=1000000000)/\True)/\K (.val (.bool (a5&&(!((Yc l a11).any YK))))) none) ((i<l.length)/\K (.val (.bool ((Qy (a2.kind))&&(decide ((Qe l i).length=0))))) none))))))) ?_
 refine QbD (QbD (QbD (QbD ?_)))
 refine Qa ?_ ?_<;>intro h1<;>try simp[-za,-zb]at h1
 exact Wk.L.rn [0,1] (L6 _ 0 rfl ⟨h1,by omega,fun j hj=>by omega⟩)
 refine Qa (fun h2=>?_) (fun h2=>?_)
 try simp[-za,-zb]at h2
 refine JR (JR (JR (ncz4 (JR ?_))))
 refine Vd hk ?_
 unfold shB
 have kk:knd l i=(l.getD i default).kind:=rfl
 rw[if_neg (by omega),if_pos (by omega)]
 rfl
 try simp[-za,-zb]at h2
 refine Qa ?_ ?_<;>intro h3<;>try simp[-za,-zb]at h3
 refine JR (JR (JR (ncz4 (JR ?_))))
 refine Vd hk ?_
 unfold shB
 have kk:knd l i=(l.getD i default).kind:=rfl
 rw[if_neg (by omega),if_pos (by omega)]
 rfl
 refine Qa (fun h4=>?_) (fun h4=>?_)
 try simp[-za,-zb]at h4
 refine JR (JR (JR (ncz4 (JR ?_))))
 refine Vd hk ?_
 unfold shB
 have kk:knd l i=(l.getD i default).kind:=rfl
 rw[if_neg (by omega),if_pos (by omega)]
 rfl
 try simp[-za,-zb]at h4
 refine Qa ?_ ?_<;>intro h5<;>try simp[-za,-zb]at h5
 exact Wk.L.rn [0,1] (L17 _ 0 rfl ⟨h5,by omega,fun j hj=>by omega⟩)
 refine Qa (fun h6=>?_) (fun h6=>?_)
 try simp[-za,-zb]at h6
 refine JR (JR (JR (JR (JR (JR (JR (JR (JR (JR (JR (ncz4 (JR ?_))))))))))))
 refine Vd hk ?_
 unfold shB
 have kk:knd l i=(l.getD i default).kind:=rfl
 rw[if_neg (by omega),if_neg (by omega),if_neg (by omega),if_pos (by omega)]
 rfl
 try simp[-za,-zb]at h6
 refine QbD ?_
 refine Vd hk ?_
 unfold shB
 have kk:knd l i=(l.getD i default).kind:=rfl
 rw[if_neg (by omega),if_neg (by omega),if_neg (by omega),if_neg (by omega)]
 rfl
 cases e
def c32 (svs:List SV) (b:Option SB):QR:=match svs,b with
 | [.sl (.sels l)],none=>some ([l.length<=1000,∀x∈l,x.key.length<=1000/\x.val.length<=1000],.bool (QaZ l))
 | _,_=>none
noncomputable def W32:Wk:=⟨[(52,.pure (c52 2000)),(53,.pure c53),(54,.pure c54),(55,.pure c55)],Qh Tryz.f32,false,false,[.tmp 2],[4],[(4,9)],[]⟩
theorem has32:Has 32:=hsf Tryz.f32
theorem ncz8 {c0 p0 p1 p2 p3 p4 q:Prop} (k:q) (h:c0->p0/\p1/\p2/\p3/\p4/\True:=by intro g0;(try simp at g0);exact⟨(by first | omega | exact k7 _ h1 | (have:=k8 i h1;refine⟨?_,?_⟩<;>(simp only;omega)) | (have:=zw.2 g0;omega) | (have:=zw.2 g0.1;omega) | (simp;done) | assumption),(by first | omega | exact k7 _ h1 | (have:=k8 i h1;refine⟨?_,?_⟩<;>(simp only;omega)) | (have:=zw.2 g0;omega) | (have:=zw.2 g0.1;omega) | (simp;done) | assumption),(by first | omega | exact k7 _ h1 | (have:=k8 i h1;refine⟨?_,?_⟩<;>(simp only;omega)) | (have:=zw.2 g0;omega) | (have:=zw.2 g0.1;omega) | (simp;done) | assumption),(by first | omega | exact k7 _ h1 | (have:=k8 i h1;refine⟨?_,?_⟩<;>(simp only;omega)) | (have:=zw.2 g0;omega) | (have:=zw.2 g0.1;omega) | (simp;done) | assumption),(by first | omega | exact k7 _ h1 | (have:=k8 i h1;refine⟨?_,?_⟩<;>(simp only;omega)) | (have:=zw.2 g0;omega) | (have:=zw.2 g0.1;omega) | (simp;done) | assumption),trivial⟩):(c0->p0/\p1/\p2/\p3/\p4/\True)/\q:=⟨h,k⟩
theorem ncz7 {c0 p0 q:Prop} (k:q) (h:c0->p0/\True:=by intro g0;(try simp at g0);exact⟨(by first | omega | exact k7 _ h1 | (have:=k8 i h1;refine⟨?_,?_⟩<;>(simp only;omega)) | (have:=zw.2 g0;omega) | (have:=zw.2 g0.1;omega) | (simp;done) | assumption),trivial⟩):(c0->p0/\True)/\q:=⟨h,k⟩
theorem ncz6 {c0 p0 p1 q:Prop} (k:q) (h:c0->p0/\p1/\True:=by intro g0;(try simp at g0);exact⟨(by first | omega | exact k7 _ h1 | (have:=k8 i h1;refine⟨?_,?_⟩<;>(simp only;omega)) | (have:=zw.2 g0;omega) | (have:=zw.2 g0.1;omega) | (simp;done) | assumption),(by first | omega | exact k7 _ h1 | (have:=k8 i h1;refine⟨?_,?_⟩<;>(simp only;omega)) | (have:=zw.2 g0;omega) | (have:=zw.2 g0.1;omega) | (simp;done) | assumption),trivial⟩):(c0->p0/\p1/\True)/\q:=⟨h,k⟩
theorem ncz5 {p q:Prop} (k:q) (h:p:=by first | omega | exact k7 _ h1 | (have:=k8 i h1;refine⟨?_,?_⟩<;>(simp only;omega)) | (have:=zw.2 g0;omega) | (have:=zw.2 g0.1;omega) | (simp;done) | assumption):p/\q:=⟨h,k⟩
theorem sat32:Sat 32 (Ql c32):=by
 have hD:Qb W32.D:=(Qb.cons Qu9 (QuG 2000) (Qb.cons has53 sat53 (Qb.cons has54 sat54 (Qb.cons Qu8 QuF Qb.nil))))
 refine W32.sa hD Tryz.f32 fun svs b K hP=>?_
 obtain⟨ps,v,e,hp,hk⟩:=Qd hP
 unfold c32 at e
 split at e
 rename_i l
 cases e
 obtain⟨h01,h02,_⟩:=hp
 have L4:∀(mm:Nat) (i:Nat),l.length-i=mm->((l.length≠0/\(l.getD 0 default).size=(l.length:Nat)/\szB 2000 l 0 (l.length:Nat)=true)/\i<=l.length/\∀j,j<i->(UJ (l.getD j default)&&shB l j)=true)->W32.L K 4 (mkS 53 [(0,(.sl (.sels l))),(3,(.nat i))] [] 1):=by
  intro mm
  induction mm using zi with
  | _ mm ih=>
   intro i hm hI
   obtain⟨⟨k4,k5,k6⟩,k1,k2⟩:=hI
   have k7:=QnT k5 k6
   have k8:∀j,j<l.length->(l.getD j default).key.length<=1000/\(l.getD j default).val.length<=1000:=fun j hj=>h02 _ (QrI hj)
   refine W32.aL hD (have a0:=SelD.mk ((l.getD i default).kind) ((l.getD i default).op) ((l.getD i default).key) ((l.getD i default).val) ((l.getD i default).a) ((l.getD i default).b) ((l.getD i default).flag) ((l.getD i default).size);have a1:=decide ((l.getD 0 default).kind=(23:Int));cond (decide (i<l.length)) ((i<l.length)/\(a0.key.length<=1000000/\a0.val.length<=1000000)/\((!(UJ a0))=false->(l.length<=1000000)/\(UM l i)/\True)/\cond ((!(UJ a0))||(!(shB l i))) (K (.val (.bool false)) none) ((i+1<=9223372036854775807)/\(W32).L K 4 (mkS 53 [(0,(.sl (.sels l))),(3,(.nat (i+1)))] [] 1))) ((0<l.length)/\(a1=false->(0<l.length)/\True)/\K (.val (.bool (a1||(Q0 ((l.getD 0 default).kind))))) none)) ?_
   refine Qa ?_ ?_<;>intro h1<;>try simp[-za,-zb]at h1
   refine ncz5 (ncz5 (ncz6 ?_))
   refine Qa ?_ ?_<;>intro h2<;>try simp[-za,-zb]at h2
   refine Vd hk ?_
   unfold QaZ
   rw[if_neg (by rintro (q | q | q);exact k4 q;exact q k5;rw[k6]at q;cases q),Qax (p:=fun i=>UJ (l.getD i default)&&shB l i) h1 (by rcases h2 with h2 | h2;exact (Bool.and_eq_false_iff.2 (.inl h2));exact (Bool.and_eq_false_iff.2 (.inr h2)))]
   rfl
   refine ncz5 ?_
   exact ih _ (by omega) (i+1) rfl ⟨⟨k4,k5,k6⟩,by omega,fun j hj=>by
    rcases (by omega:j<i\/j=i) with q | q
    exact k2 j q
    subst q;exact Bool.and_eq_true_iff.2 h2⟩
   refine ncz5 (ncz7 ?_)
   refine Vd hk ?_
   unfold QaZ
   rw[if_neg (by rintro (q | q | q);exact k4 q;exact q k5;rw[k6]at q;cases q),U8 (p:=fun i=>UJ (l.getD i default)&&shB l i) (fun j hj=>k2 j (by omega))]
   rfl
 refine W32.en (have a0:=((l.length:Nat):Int);have a1:=(decide (l.length=0))||(!(decide ((l.getD 0 default).size=a0)));((decide (l.length=0))=false->(0<l.length)/\True)/\(a1=false->(l.length<=1000000)/\(0<l.length)/\(a0<=l.length)/\(a0<=((2000:Nat):Int)+((0:Nat):Int))/\(((0:Nat):Int)<a0)/\True)/\cond (a1||(!(szB 2000 l 0 a0))) (K (.val (.bool false)) none) ((W32).L K 4 (mkS 53 [(0,(.sl (.sels l))),(3,(.nat 0))] [] 1))) ?_
 refine ncz7 (ncz8 ?_)
 refine Qa ?_ ?_<;>intro h1<;>try simp[-za,-zb]at h1
 refine Vd hk ?_
 unfold QaZ
 rw[if_pos]
 rcases h1 with (h1 | h1) | h1
 exact .inl (by rw[h1];rfl)
 exact .inr (.inl h1)
 exact .inr (.inr h1)
 exact L4 _ 0 rfl ⟨⟨fun q=>h1.1.1 (xh.1 q),h1.1.2,h1.2⟩,by omega,fun j hj=>by omega⟩
 cases e
end
end Go.Proofs.YtengepcafdnalaaGreatDoor
