/-
  Parts of the proof that the law FnPrintGrammar holds for every input (texts Nd, Ne). Conditions: none.
-/
import Derived.Test.YtengepcafdnalaaGreatDoorM34
namespace Go.Proofs.YtengepcafdnalaaGreatDoor
open _root_.Bool renaming and_eq_true → zh, not_eq_true' → zO, or_eq_false_iff → zz
open _root_.List renaming take_add_one → zN, getElem?_eq_getElem → ze, getD_eq_getElem?_getD → za, take_of_length_le → zS, mem_cons → zp, range → xa, take_length → xi, length_append → zf, length_cons → zg, length_nil → zl, length_eq_zero_iff → xh
open _root_.Nat renaming strongRecOn → zi
open _root_.UInt8 renaming toNat_or → zb
section
open Go Go.RowKit
set_option maxRecDepth 20000
def mbL:List SelD->Nat
 | []=>0
 | x::l=>min (x.key.length+x.val.length) 1000+mbL l
theorem QmX:∀a b:List SelD,mbL (a++b)=mbL a+mbL b
 | [],b=>by simp[mbL]
 | x::a,b=>by simp only[List.cons_append,mbL,QmX a b];omega
theorem QjW {l:List SelD} {i:Nat} (h:i<l.length):mbL (l.take (i+1))=mbL (l.take i)+min ((l.getD i default).key.length+(l.getD i default).val.length) 1000:=by
 rw[zN,ze h,QmX]
 simp[mbL,za,ze h]
theorem Qxc {l:List SelD}:∀{i:Nat},mbL (l.take i)<=1000*i:=by
 intro i
 induction i with
 | zero=>simp[mbL]
 | succ i ih=>
  by_cases h:i<l.length
  rw[QjW h];omega
  rw[zS (by omega)]at ih ⊢;omega
theorem QcI {l:List SelD} (h:mbL l<=500):∀x∈l,x.key.length+x.val.length<=500:=by
 induction l with
 | nil=>intro x hx;cases hx
 | cons y l ih=>
  intro x hx
  rw[mbL]at h
  rcases zp.1 hx with e | e
  subst e;omega
  exact ih (by omega) x e
def QdV (x:SelD):Bool:=(decide (x.kind=15)||(decide (x.kind=16)||decide (x.kind=17))) && !QbY x.val
def QbK (l:List SelD):Bool:=
 if 60<l.length then false else (xa l.length).all (fun i => !QdV (l.getD i default))&&(decide (mbL l<=500)&&QaZ l)
theorem QrO {l:List SelD} (h:Qc0 l=true):l.length<=2147483647/\∀j,j<l.length->(l.getD j default).key.length<=2147483647/\(l.getD j default).val.length<=2147483647:=by
 unfold Qc0 at h
 rw[zh,U9]at h
 refine⟨by have:=h.1;simp at this;omega,fun j hj=>?_⟩
 have:=h.2 j hj
 unfold Qgf at this
 rw[zh]at this
 obtain⟨h1,h2⟩:=this
 simp only[zO,decide_eq_false_iff_not]at h1 h2
 omega
def c15 (svs:List SV) (b:Option SB):QR:=match svs,b with
 | [.sl (.sels l)],none=>some ([Qc0 l=true],.bool (QbK l))
 | _,_=>none
noncomputable def W15:Wk:=⟨[(31,.pure c31),(32,.pure c32)],Qh Tryz.f15,false,false,[.tmp 2],[4],[(5,25)],[]⟩
theorem has15:Has 15:=hsf Tryz.f15
theorem ndz2 {c0 p0 p1 q:Prop} (k:q) (h:c0->p0/\p1/\True:=by intro g0;(try simp at g0);exact⟨(by first | omega | (have:=f2 i h1;omega) | (have:=QcI (l:=l) (by have:=k5 (by omega);omega);intro x hx;have:=this x hx;omega) | (simp;done) | assumption),(by first | omega | (have:=f2 i h1;omega) | (have:=QcI (l:=l) (by have:=k5 (by omega);omega);intro x hx;have:=this x hx;omega) | (simp;done) | assumption),trivial⟩):(c0->p0/\p1/\True)/\q:=⟨h,k⟩
theorem ndz1 {c0 p0 q:Prop} (k:q) (h:c0->p0/\True:=by intro g0;(try simp at g0);exact⟨(by first | omega | (have:=f2 i h1;omega) | (have:=QcI (l:=l) (by have:=k5 (by omega);omega);intro x hx;have:=this x hx;omega) | (simp;done) | assumption),trivial⟩):(c0->p0/\True)/\q:=⟨h,k⟩
theorem Qoy {p q:Prop} (k:q) (h:p:=by first | omega | (have:=f2 i h1;omega) | (have:=QcI (l:=l) (by have:=k5 (by omega);omega);intro x hx;have:=this x hx;omega) | (simp;done) | assumption):p/\q:=⟨h,k⟩
theorem sat15:Sat 15 (Ql c15):=by
 have hD:Qb W15.D:=(Qb.cons has31 sat31 (Qb.cons has32 sat32 Qb.nil))
 refine W15.sa hD Tryz.f15 fun svs b K hP=>?_
 obtain⟨ps,v,e,hp,hk⟩:=Qd hP
 unfold c15 at e
 split at e
 rename_i l
 cases e
 obtain⟨h01,_⟩:=hp
 obtain⟨f1,f2⟩:=QrO h01
 have L5:∀(mm:Nat) (b:Nat) (i:Nat),l.length-i=mm->(l.length<=60/\i<=l.length/\(∀j,j<i->(!QdV (l.getD j default))=true)/\b=mbL (l.take i))->W15.L K 5 (mkS 61 [(0,(.sl (.sels l))),(3,(.nat b)),(4,(.nat i))] [] 1):=by
  intro mm
  induction mm using zi with
  | _ mm ih=>
   intro b i hm hI
   obtain⟨k0,k1,k2,k3⟩:=hI
   have k4:=Qxc (l:=l) (i:=i)
   have k5:i=l.length->b=mbL l:=fun q=>by rw[k3,q,xi]
   refine W15.aL hD (have a1:=l.getD i default;have a0:=((decide (a1.kind=(15:Int)))||(decide (a1.kind=(16:Int))))||(decide (a1.kind=(17:Int)));have a2:=min ((a1.key).length+(a1.val).length) 1000;cond (decide (i<l.length)) ((i<l.length)/\(i<l.length)/\((a1.key).length+(a1.val).length<=9223372036854775807)/\(b+a2<=9223372036854775807)/\(i<l.length)/\(a0=true->(i<l.length)/\True)/\(a0=true->((a1.val).length<=1000000000000)/\True)/\cond (a0&&(!(QbY (a1.val)))) (K (.val (.bool false)) none) ((i+1<=9223372036854775807)/\(W15).L K 5 (mkS 61 [(0,(.sl (.sels l))),(3,(.nat (b+a2))),(4,(.nat (i+1)))] [] 1))) (((decide (b<=500))=true->(l.length<=1000)/\(∀x∈l,x.key.length<=1000/\x.val.length<=1000)/\True)/\K (.val (.bool ((decide (b<=500))&&(QaZ l)))) none)) ?_
   refine Qa ?_ ?_<;>intro h1<;>try simp[-za,-zb]at h1
   refine Qoy (Qoy (Qoy (Qoy (Qoy (ndz1 (ndz1 ?_))))))
   refine Qa ?_ ?_<;>intro h2<;>try simp[-za,-zb]at h2
   refine Vd hk ?_
   unfold QbK
   rw[if_neg (by omega),Qax (p:=fun i => !QdV (l.getD i default)) h1 (by unfold QdV;simp only[h2.2];have:=h2.1;simp[-za];omega)]
   rfl
   refine Qoy ?_
   exact ih _ (by omega) _ (i+1) rfl ⟨k0,by omega,fun j hj=>by
    rcases (by omega:j<i\/j=i) with q | q
    exact k2 j q
    subst q
    unfold QdV
    by_cases hc:((l.getD j default).kind=15\/(l.getD j default).kind=16)\/(l.getD j default).kind=17
    rw[h2 hc];simp
    have e1:(decide ((l.getD j default).kind=15)||(decide ((l.getD j default).kind=16)||decide ((l.getD j default).kind=17)))=false:=by simp only[zz,decide_eq_false_iff_not];omega
    rw[e1];rfl,by rw[QjW h1,k3]⟩
   refine ndz2 ?_
   refine Vd hk ?_
   unfold QbK
   rw[if_neg (by omega),U8 (p:=fun i => !QdV (l.getD i default)) (fun j hj=>k2 j (by omega)),k5 (by omega)]
   rfl
 refine W15.en (cond (decide (60<l.length)) (K (.val (.bool false)) none) ((W15).L K 5 (mkS 61 [(0,(.sl (.sels l))),(3,(.nat 0)),(4,(.nat 0))] [] 1))) ?_
 refine Qa ?_ ?_<;>intro h1<;>try simp[-za,-zb]at h1
 refine Vd hk ?_
 unfold QbK
 rw[if_pos h1]
 exact L5 _ 0 0 rfl ⟨h1,by omega,fun j hj=>by omega,rfl⟩
 cases e
def c57i (svs:List SV) (b:Option SB):QR:=match svs,b with
 | [.agg [.int .i64 k,.int .i64 o,.str ke,.str va,.int .i64 a,.int .i64 bb,.int .i64 fl,.int .i64 sz]],none=>some ([Way.Fld (SelD.mk k o ke va a bb fl sz),Qy (SelD.mk k o ke va a bb fl sz).kind=true/\¬((SelD.mk k o ke va a bb fl sz).kind=18\/(SelD.mk k o ke va a bb fl sz).kind=19\/(SelD.mk k o ke va a bb fl sz).kind=20),(SelD.mk k o ke va a bb fl sz).key.length+(SelD.mk k o ke va a bb fl sz).val.length<=100000],.str (Qw (SelD.mk k o ke va a bb fl sz)))
 | _,_=>none
noncomputable def W57:Wk:=⟨[(62,.pure c62),(81,.pure c81),(82,.pure c82),(83,.pure c83)],Qh Tryz.f57,false,false,[.tmp 2],[9],[],[]⟩
theorem has57:Has 57:=hsf Tryz.f57
theorem YV {p q:Prop} (k:q) (h:p:=by first | omega | (simp only[zf,zg,zl];omega) | (unfold inI;omega) | (simp;done)):p/\q:=⟨h,k⟩
theorem Qvz:Sat 57 (Ql c57i):=by
 have hD:Qb W57.D:=(Qb.cons Qrs QpX (Qb.cons has81 sat81 (Qb.cons has82 sat82 (Qb.cons has83 sat83 Qb.nil))))
 refine W57.sa hD Tryz.f57 fun svs b K hP=>?_
 obtain⟨ps,v,e,hp,hk⟩:=Qd hP
 unfold c57i at e
 split at e
 rename_i k o ke va a bb fl sz
 cases e
 obtain⟨h01,⟨h02,h03⟩,h04,_⟩:=hp
 simp only[Qy,zh,decide_eq_true_eq]at h02 h03 h04
 obtain⟨r1,r2,r3,r4⟩:=h01.rng
 have f5:=h01.attr
 have f6:=h01.nth
 have f7:=h01.only
 simp only at r1 r2 r3 r4 f5 f6 f7
 have l1:=Zp ke
 have l2:=Zp va
 have l3:=QdR va
 have l4:=Qau (a:=a) (b:=bb) (by omega) (by omega)
 have s1:=Yb (l:=YQ) (n:=2) (by decide) o.toNat
 have s2:=Yb (l:=([[],[32,105]]:List Bs)) (n:=2) (by decide) fl.toNat
 have s3:=Yb (l:=YT) (n:=12) (by decide) fl.toNat
 have s4:=Yb (l:=Yp) (n:=7) (by decide) fl.toNat
 have s5:=Yb (l:=Qp) (n:=8) (by decide) (k-8).toNat
 unfold YT at s3
 unfold Yp at s4
 unfold Qp at s5
 refine W57.en (have a0:=([[99,104,105,108,100],[108,97,115,116,45,99,104,105,108,100],[111,102,45,116,121,112,101],[108,97,115,116,45,111,102,45,116,121,112,101]]:List (List UInt8)).getD ((fl).toNat) [];have a1:=([[101,109,112,116,121],[114,111,111,116],[105,110,112,117,116],[108,105,110,107],[101,110,97,98,108,101,100],[100,105,115,97,98,108,101,100],[99,104,101,99,107,101,100]]:List (List UInt8)).getD (((k-(8:Int))).toNat) [];have a2:=([[],[32,105]]:List (List UInt8)).getD ((fl).toNat) [];have a3:=([[99,104,105,108,100],[],[111,102,45,116,121,112,101]]:List (List UInt8)).getD ((fl).toNat) [];have a4:=YQ.getD (o).toNat [];have a5:=va.length<=100000;cond (decide (k=(1:Int))) (K (.val (.str [42])) none) (cond (decide (k=(2:Int))) ((ke.length<=100000)/\K (.val (.str (Q2 ke))) none) (cond (decide (k=(3:Int))) (a5/\(1+(Q2 va).length<=2305843009213693952)/\K (.val (.str ([46]++(Q2 va)))) none) (cond (decide (k=(4:Int))) (a5/\(1+(Q2 va).length<=2305843009213693952)/\K (.val (.str ([35]++(Q2 va)))) none) (cond (decide (k=(5:Int))) (cond (decide (o=(1:Int))) ((ke.length<=100000)/\(1+(Q2 ke).length<=2305843009213693952)/\(([91]++(Q2 ke)).length+1<=2305843009213693952)/\K (.val (.str ([91]++(Q2 ke)++[93]))) none) ((ke.length<=100000)/\(1+(Q2 ke).length<=2305843009213693952)/\(0<=o/\o<9)/\(([91]++(Q2 ke)).length+a4.length<=2305843009213693952)/\a5/\(([91]++(Q2 ke)++a4).length+(Ye va).length<=2305843009213693952)/\(0<=fl/\fl<(2:Nat))/\(([91]++(Q2 ke)++a4++(Ye va)).length+a2.length<=2305843009213693952)/\(([91]++(Q2 ke)++a4++(Ye va)++a2).length+1<=2305843009213693952)/\K (.val (.str ([91]++(Q2 ke)++a4++(Ye va)++a2++[93]))) none)) (cond (decide (k=(6:Int))) ((0<=fl/\fl<(4:Nat))/\(5+a0.length<=2305843009213693952)/\(([58,110,116,104,45]++a0).length+1<=2305843009213693952)/\(-100000000000000000<=a/\a<=100000000000000000)/\(-100000000000000000<=bb/\bb<=100000000000000000)/\(([58,110,116,104,45]++a0++[40]).length+(YH a bb).length<=2305843009213693952)/\(([58,110,116,104,45]++a0++[40]++(YH a bb)).length+1<=2305843009213693952)/\K (.val (.str ([58,110,116,104,45]++a0++[40]++(YH a bb)++[41]))) none) (cond (decide (k=(7:Int))) ((0<=fl/\fl<(3:Nat))/\((fl).toNat<3)/\(6+a3.length<=2305843009213693952)/\K (.val (.str ([58,111,110,108,121,45]++a3))) none) (cond (decide (k=(15:Int))) (a5/\(6+(Q2 va).length<=2305843009213693952)/\(([58,108,97,110,103,40]++(Q2 va)).length+1<=2305843009213693952)/\K (.val (.str ([58,108,97,110,103,40]++(Q2 va)++[41]))) none) (cond (decide (k=(16:Int))) (a5/\(10+(Ye va).length<=2305843009213693952)/\(([58,99,111,110,116,97,105,110,115,40]++(Ye va)).length+1<=2305843009213693952)/\K (.val (.str ([58,99,111,110,116,97,105,110,115,40]++(Ye va)++[41]))) none) (cond (decide (k=(17:Int))) (a5/\(13+(Ye va).length<=2305843009213693952)/\(([58,99,111,110,116,97,105,110,115,79,119,110,40]++(Ye va)).length+1<=2305843009213693952)/\K (.val (.str ([58,99,111,110,116,97,105,110,115,79,119,110,40]++(Ye va)++[41]))) none) ((inI (k-(8:Int)))/\(0<=(k-(8:Int))/\(k-(8:Int))<(7:Nat))/\(((k-(8:Int))).toNat<7)/\(1+a1.length<=2305843009213693952)/\K (.val (.str ([58]++a1))) none))))))))))) ?_
 refine Qa ?_ ?_<;>intro h1<;>try simp[-za,-zb]at h1
 refine Vv hk ?_
 simp[Qw,h1,YT,Yp,Qp,-za]
 refine Qa (fun h2=>?_) (fun h2=>?_)
 try simp[-za,-zb]at h2
 refine YV ?_
 refine Vv hk ?_
 simp[Qw,h1,h2,YT,Yp,Qp,-za]
 try simp[-za,-zb]at h2
 refine Qa ?_ ?_<;>intro h3<;>try simp[-za,-zb]at h3
 refine YV (YV ?_)
 refine Vv hk ?_
 simp[Qw,h1,h2,h3,YT,Yp,Qp,-za]
 refine Qa (fun h4=>?_) (fun h4=>?_)
 try simp[-za,-zb]at h4
 refine YV (YV ?_)
 refine Vv hk ?_
 simp[Qw,h1,h2,h3,h4,YT,Yp,Qp,-za]
 try simp[-za,-zb]at h4
 refine Qa ?_ ?_<;>intro h5<;>try simp[-za,-zb]at h5
 refine Qa (fun h6=>?_) (fun h6=>?_)
 try simp[-za,-zb]at h6
 refine YV (YV (YV ?_))
 refine Vv hk ?_
 simp[Qw,h1,h2,h3,h4,h5,h6,YT,Yp,Qp,-za]
 try simp[-za,-zb]at h6
 refine YV (YV (YV (YV (YV (YV (YV (YV (YV ?_))))))))
 refine Vv hk ?_
 simp[Qw,h1,h2,h3,h4,h5,h6,YT,Yp,Qp,-za]
 refine Qa (fun h6=>?_) (fun h6=>?_)
 try simp[-za,-zb]at h6
 refine YV (YV (YV (YV (YV (YV (YV ?_))))))
 refine Vv hk ?_
 simp[Qw,h1,h2,h3,h4,h5,h6,YT,Yp,Qp,-za]
 try simp[-za,-zb]at h6
 refine Qa ?_ ?_<;>intro h7<;>try simp[-za,-zb]at h7
 refine YV (YV (YV ?_))
 refine Vv hk ?_
 simp[Qw,h1,h2,h3,h4,h5,h6,h7,YT,Yp,Qp,-za]
 refine Qa (fun h8=>?_) (fun h8=>?_)
 try simp[-za,-zb]at h8
 refine YV (YV (YV ?_))
 refine Vv hk ?_
 simp[Qw,h1,h2,h3,h4,h5,h6,h7,h8,YT,Yp,Qp,-za]
 try simp[-za,-zb]at h8
 refine Qa ?_ ?_<;>intro h9<;>try simp[-za,-zb]at h9
 refine YV (YV (YV ?_))
 refine Vv hk ?_
 simp[Qw,h1,h2,h3,h4,h5,h6,h7,h8,h9,YT,Yp,Qp,-za]
 refine Qa (fun h10=>?_) (fun h10=>?_)
 try simp[-za,-zb]at h10
 refine YV (YV (YV ?_))
 refine Vv hk ?_
 simp[Qw,h1,h2,h3,h4,h5,h6,h7,h8,h9,h10,YT,Yp,Qp,-za]
 try simp[-za,-zb]at h10
 refine YV (YV (YV (YV ?_)))
 refine Vv hk ?_
 simp[Qw,h1,h2,h3,h4,h5,h6,h7,h8,h9,h10,YT,Yp,Qp,-za]
 cases e
def c57 (svs:List SV) (b:Option SB):QR:=match svs,b with
 | [x],none=>match QbL x with
  | some x=>some ([Way.Fld x,Qy x.kind=true/\¬(x.kind=18\/x.kind=19\/x.kind=20),x.key.length+x.val.length<=100000],.str (Qw x))
  | _=>none
 | _,_=>none
theorem sat57:Sat 57 (Ql c57):=by
 refine Sat.wk Qvz fun svs b K h=>?_
 obtain⟨ps,v,e,hp,hk⟩:=Qd h
 unfold c57 at e
 split at e
 rename_i x
 split at e
 rename_i x' hx
 cases e
 exact⟨[.agg (Vn x')],⟨fun ω v=>JW hx,trivial⟩,hp.1,hp.2.1,hp.2.2.1,hk⟩
 cases e
 cases e
end
section
open Go Go.RowKit
set_option maxRecDepth 20000
def c33 (m:Nat) (svs:List SV) (b:Option SB):QR:=match svs,b with
 | [.sl (.sels l),.nat i],none=>some ([l.length<=1000000/\wtL l<=100000,WAt l m i],.str (sWr m l i))
 | _,_=>none
theorem Qrt:Has 33:=hsf Tryz.f33
theorem Qo8 {f r t:Bs} {k:Int} (h:k=2):VA (f,r) (k,t)=(t,r):=by unfold VA;simp[h]
theorem Ql3 {f r t:Bs} {k:Int} (h2:¬k=2) (h:k=1) (e:f=[]):VA (f,r) (k,t)=([42],r):=by unfold VA;simp[h,e]
theorem Qo9 {f r t:Bs} {k:Int} (h2:¬k=2) (h:k=1) (e:¬f=[]):VA (f,r) (k,t)=(f,r):=by unfold VA;simp[h,e]
theorem Qpa {f r t:Bs} {k:Int} (h2:¬k=2) (h:¬k=1):VA (f,r) (k,t)=(f,r++t):=by unfold VA;simp[h2,h]
def c56 (m:Nat) (svs:List SV) (b:Option SB):QR:=match svs,b with
 | [.sl (.sels l),.nat i],none=>some ([l.length<=1000000/\wtL l<=100000,WAt l (m+1) i],.str (Qjj m l i))
 | _,_=>none
noncomputable def W56 (m:Nat):Wk:=⟨[(17,.fn c17),(33,.pure (c33 m)),(62,.pure c62)],Qh Tryz.f56,false,false,[.tmp 4],[9],[(4,483)],[]⟩
theorem has56:Has 56:=hsf Tryz.f56
theorem QY {p q:Prop} (k:q) (h:p:=by first | omega | (unfold inI;omega) | exact n5 _ (by omega) | exact w2 _ (ZZ (by omega)) | exact fun k hk=>by (have:=(n3 k hk).2.1;omega) | exact h03 | exact w4 | (have:=w9 j (by omega);omega) | (have:=w9 0 (by omega);have:=w9 1 (by omega);omega) | (refine⟨w8 (by omega) (by omega) (by omega) (by omega),?_⟩;show ¬((l.getD i default).kind=18\/(l.getD i default).kind=19\/(l.getD i default).kind=20);omega) | (have:=w9 j (by omega);simp only[zf,zg,zl];omega) | (have:=w9 0 (by omega);have:=w9 1 (by omega);simp only[zf,zg,zl];omega) | (have:=w9 0 (by omega);simp only[zf,zg,zl];omega) | (simp only[zf,zg,zl];omega) | (simp;done)):p/\q:=⟨h,k⟩
theorem sat56 (m:Nat) (hG:Sat 33 (Ql (c33 m))):Sat 56 (Ql (c56 m)):=by
 have hD:Qb (W56 m).D:=(Qb.cons Qkl Qji (Qb.cons Qrt hG (Qb.cons Qrs QpX Qb.nil)))
 refine (W56 m).sa hD Tryz.f56 fun svs b K hP=>?_
 obtain⟨ps,v,e,hp,hk⟩:=Qd hP
 unfold c56 at e
 split at e
 rename_i l i
 cases e
 obtain⟨⟨h01,h02⟩,h03,_⟩:=hp
 obtain⟨wn,w2,w3,w4,w5,w6,w7,w8⟩:=h03.kids
 obtain⟨n1,n2,n3,n4⟩:=wn.kids
 have kk:knd l i=(l.getD i default).kind:=rfl
 have n5:∀j,j<(Qe l i).length->(Qe l i).getD j 0<l.length:=fun j hj=>(n3 _ (ZZ hj)).1
 have w9:∀j,j<(Qe l i).length->(sWr m l ((Qe l i).getD j 0)).length<=100000:=fun j hj=>Nat.le_trans (w2 _ (ZZ hj)).len h02
 have w10:=Zp (l.getD i default).val
 have L4:∀(mm:Nat) (j:Nat) (f r:List UInt8),(Qe l i).length-j=mm->(j<=(Qe l i).length/\(f,r)=QiE m l i j)->(W56 m).L K 4 (mkS 68 [(0,(.sl (.sels l))),(1,(.nat i)),(5,(.own 1)),(6,(.str f)),(7,(.str r)),(8,(.nat j))] [(1,.row (.ints (Qe l i)) true)] 2):=by
  intro mm
  induction mm using zi with
  | _ mm ih=>
   intro j f r hm hI
   obtain⟨k1,k2⟩:=hI
   have k3:=Qr8 (n:=m) (l:=l) (i:=i) (j:=j)
   rw[<-k2]at k3
   simp only at k3
   refine (W56 m).aL hD (have a1:=(Qe l i).getD j 0;have a2:=j+1<=9223372036854775807;have a3:RV:=.ints (Qe l i);have a4:=l.getD i default;have a0:=r++([58,58]++(Q2 (a4.val)));have a5:=f.length+a0.length<=2305843009213693952;cond (decide (j<(Qe l i).length)) ((j<(Qe l i).length)/\(j<(Qe l i).length)/\((Qe l i).getD j 0<l.length)/\cond (decide ((l.getD a1 default).kind=(2:Int))) ((j<(Qe l i).length)/\(j<(Qe l i).length)/\(l.length<=1000000/\wtL l<=100000)/\(WAt l m a1)/\a2/\(W56 m).L K 4 (mkS 68 [(0,(.sl (.sels l))),(1,(.nat i)),(5,(.own 1)),(6,(.str (sWr m l a1))),(7,(.str r)),(8,(.nat (j+1)))] [(1,.row a3 true)] 2)) (cond (decide ((l.getD a1 default).kind=(1:Int))) (cond (decide (f=[])) (a2/\(W56 m).L K 4 (mkS 68 [(0,(.sl (.sels l))),(1,(.nat i)),(5,(.own 1)),(6,(.str [42])),(7,(.str r)),(8,(.nat (j+1)))] [(1,.row a3 true)] 2)) (a2/\(W56 m).L K 4 (mkS 68 [(0,(.sl (.sels l))),(1,(.nat i)),(5,(.own 1)),(6,(.str f)),(7,(.str r)),(8,(.nat (j+1)))] [(1,.row a3 true)] 2))) ((j<(Qe l i).length)/\(j<(Qe l i).length)/\(l.length<=1000000/\wtL l<=100000)/\(WAt l m a1)/\(r.length+(sWr m l a1).length<=2305843009213693952)/\a2/\(W56 m).L K 4 (mkS 68 [(0,(.sl (.sels l))),(1,(.nat i)),(5,(.own 1)),(6,(.str f)),(7,(.str (r++(sWr m l a1)))),(8,(.nat (j+1)))] [(1,.row a3 true)] 2)))) ((i<l.length)/\cond (!(decide (a4.val=[]))) ((i<l.length)/\((a4.val).length<=100000)/\(2+(Q2 (a4.val)).length<=2305843009213693952)/\(r.length+([58,58]++(Q2 (a4.val))).length<=2305843009213693952)/\a5/\cond (decide (f++a0=[])) (K (.val (.str [42])) none) (a5/\K (.val (.str (f++a0))) none)) ((f.length+r.length<=2305843009213693952)/\cond (decide (f++r=[])) (K (.val (.str [42])) none) ((f.length+r.length<=2305843009213693952)/\K (.val (.str (f++r))) none)))) ?_
   refine Qa ?_ ?_<;>intro h1<;>try simp[-za,-zb]at h1
   refine QY (QY (QY ?_))
   refine Qa ?_ ?_<;>intro h2<;>try simp[-za,-zb]at h2
   refine QY (QY (QY (QY (QY ?_))))
   exact ih _ (by omega) (j+1) _ _ rfl ⟨by omega,by rw[QiD h1,<-k2];exact (Qo8 h2).symm⟩
   refine Qa (fun h3=>?_) (fun h3=>?_)
   try simp[-za,-zb]at h3
   refine Qa ?_ ?_<;>intro h4<;>try simp[-za,-zb]at h4
   refine QY ?_
   exact ih _ (by omega) (j+1) _ _ rfl ⟨by omega,by rw[QiD h1,<-k2];exact (Ql3 h2 h3 h4).symm⟩
   refine QY ?_
   exact ih _ (by omega) (j+1) _ _ rfl ⟨by omega,by rw[QiD h1,<-k2];exact (Qo9 h2 h3 h4).symm⟩
   try simp[-za,-zb]at h3
   refine QY (QY (QY (QY (QY (QY ?_)))))
   exact ih _ (by omega) (j+1) _ _ rfl ⟨by omega,by rw[QiD h1,<-k2];exact (Qpa h2 h3).symm⟩
   refine QY ?_
   refine Qa ?_ ?_<;>intro h2<;>try simp[-za,-zb]at h2
   refine QY (QY (QY (QY (QY ?_))))
   refine Qa (fun h3=>?_) (fun h3=>?_)
   try simp[-za,-zb]at h3
   try simp[-za,-zb]at h3
   refine QY ?_
   have e:Qjj m l i=Ue (l.getD i default).val (f,r):=by unfold Qjj QdM;rw[<-QfT (show j=_ by omega),<-k2]
   refine Vv hk ?_
   rw[e]
   simp[Ue,h2,h3,-za]
   refine QY ?_
   refine Qa ?_ ?_<;>intro h3<;>try simp[-za,-zb]at h3
   have e:Qjj m l i=Ue (l.getD i default).val (f,r):=by unfold Qjj QdM;rw[<-QfT (show j=_ by omega),<-k2]
   refine Vv hk ?_
   rw[e]
   simp[Ue,h2,h3,-za]
   refine QY ?_
   have e:Qjj m l i=Ue (l.getD i default).val (f,r):=by unfold Qjj QdM;rw[<-QfT (show j=_ by omega),<-k2]
   refine Vv hk ?_
   rw[e]
   simp[Ue,h2,h3,-za]
   exact fun a b=>absurd b (h3 a)
 refine (W56 m).en ((i<l.length/\l.length<=1000000000000)/\(0<=(l.getD i default).size/\((i:Nat):Int)+(l.getD i default).size<=l.length)/\(∀k,k∈Qe l i->(l.getD k default).size<=1000000000000)/\(W56 m).L K 4 (mkS 68 [(0,(.sl (.sels l))),(1,(.nat i)),(5,(.own 1)),(6,(.str [])),(7,(.str [])),(8,(.nat 0))] [(1,.row (.ints (Qe l i)) true)] 2)) ?_
 refine QY (QY (QY ?_))
 exact L4 _ 0 [] [] rfl ⟨by omega,rfl⟩
 cases e
def c33s (m:Nat) (svs:List SV) (b:Option SB):QR:=match svs,b with
 | [.sl (.sels l),.nat i],none=>some ([l.length<=1000000/\wtL l<=100000,WAt l (m+1) i],.str (sWr (m+1) l i))
 | _,_=>none
noncomputable def W33 (m:Nat):Wk:=⟨[(17,.fn c17),(33,.pure (c33 m)),(56,.pure (c56 m)),(57,.pure c57)],Qh Tryz.f33,false,false,[.tmp 4],[9],[(7,417)],[]⟩
theorem QvD (m:Nat) (hG:Sat 33 (Ql (c33 m))):Sat 33 (Ql (c33s m)):=by
 have hD:Qb (W33 m).D:=(Qb.cons Qkl Qji (Qb.cons Qrt hG (Qb.cons has56 (sat56 m hG) (Qb.cons has57 sat57 Qb.nil))))
 refine (W33 m).sa hD Tryz.f33 fun svs b K hP=>?_
 obtain⟨ps,v,e,hp,hk⟩:=Qd hP
 unfold c33s at e
 split at e
 rename_i l i
 cases e
 obtain⟨⟨h01,h02⟩,h03,_⟩:=hp
 obtain⟨wn,w2,w3,w4,w5,w6,w7,w8⟩:=h03.kids
 obtain⟨n1,n2,n3,n4⟩:=wn.kids
 have kk:knd l i=(l.getD i default).kind:=rfl
 have n5:∀j,j<(Qe l i).length->(Qe l i).getD j 0<l.length:=fun j hj=>(n3 _ (ZZ hj)).1
 have w9:∀j,j<(Qe l i).length->(sWr m l ((Qe l i).getD j 0)).length<=100000:=fun j hj=>Nat.le_trans (w2 _ (ZZ hj)).len h02
 have w10:=Zp (l.getD i default).val
 have f5:knd l i=22->1<=(l.getD i default).op/\(l.getD i default).op<=4/\(l.getD i default).flag=0:=w4.comb
 have s1:=Yb (l:=Qc4) (n:=3) (by decide) (l.getD i default).op.toNat
 unfold Qc4 at s1
 have s2:=Yb (l:=V3) (n:=8) (by decide) ((l.getD i default).kind-18).toNat
 unfold V3 Zy Zz nHasChild at s2
 have L7:∀(mm:Nat) (j:Nat) (o:List UInt8),(Qe l i).length-j=mm->(knd l i=23/\j<=(Qe l i).length/\o=QcM m l i j)->(W33 m).L K 7 (mkS 87 [(0,(.sl (.sels l))),(5,(.own 1)),(7,(.str o)),(8,(.nat j))] [(1,.row (.ints (Qe l i)) true)] 2):=by
  intro mm
  induction mm using zi with
  | _ mm ih=>
   intro j o hm hI
   obtain⟨k0,k1,k2⟩:=hI
   have k3:=QoK (n:=m) (l:=l) (i:=i) (j:=j)
   rw[<-k2]at k3
   refine (W33 m).aL hD (have a0:=(Qe l i).getD j 0;cond (decide (j<(Qe l i).length)) (cond (decide (0<j)) ((o.length+2<=2305843009213693952)/\(j<(Qe l i).length)/\(j<(Qe l i).length)/\(l.length<=1000000/\wtL l<=100000)/\(WAt l m a0)/\((o++[44,32]).length+(sWr m l a0).length<=2305843009213693952)/\(j+1<=9223372036854775807)/\(W33 m).L K 7 (mkS 87 [(0,(.sl (.sels l))),(5,(.own 1)),(7,(.str (o++[44,32]++(sWr m l a0)))),(8,(.nat (j+1)))] [(1,.row (.ints (Qe l i)) true)] 2)) ((j<(Qe l i).length)/\(j<(Qe l i).length)/\(l.length<=1000000/\wtL l<=100000)/\(WAt l m a0)/\(o.length+(sWr m l a0).length<=2305843009213693952)/\(j+1<=9223372036854775807)/\(W33 m).L K 7 (mkS 87 [(0,(.sl (.sels l))),(5,(.own 1)),(7,(.str (o++(sWr m l a0)))),(8,(.nat (j+1)))] [(1,.row (.ints (Qe l i)) true)] 2))) (K (.val (.str o)) none)) ?_
   refine Qa ?_ ?_<;>intro h1<;>try simp[-za,-zb]at h1
   refine Qa (fun h2=>?_) (fun h2=>?_)
   try simp[-za,-zb]at h2
   refine QY (QY (QY (QY (QY (QY (QY ?_))))))
   exact ih _ (by omega) (j+1) _ rfl ⟨k0,by omega,by rw[Qm6 h1,if_pos h2,<-k2]⟩
   try simp[-za,-zb]at h2
   refine QY (QY (QY (QY (QY (QY ?_)))))
   exact ih _ (by omega) (j+1) _ rfl ⟨k0,by omega,by rw[Qm6 h1,if_neg (by omega),<-k2]⟩
   refine Vv hk ?_
   rw[Qab]
   unfold YR
   rw[if_pos (by omega),k2,QoL (by omega)]
 refine (W33 m).en (have a2:=l.getD i default;have a1:=SelD.mk (a2.kind) (a2.op) (a2.key) (a2.val) (a2.a) (a2.b) (a2.flag) (a2.size);have a3:=(Qe l i).getD 0 0;have a4:=l.length<=1000000/\wtL l<=100000;have a5:=([[],[32],[32,62,32],[32,43,32],[32,126,32]]:List (List UInt8)).getD ((a2.op).toNat) [];have a6:=a2.kind-(18:Int);have a0:=([[110,111,116],[104,97,115],[104,97,115,99,104,105,108,100]]:List (List UInt8)).getD ((a6).toNat) [];have a7:=([58]++a0++[40]).length+(sWr m l a3).length<=2305843009213693952;have a8:=([58]++a0++[40]++(sWr m l a3)).length+1<=2305843009213693952;have a9:Out:=.val (.str ([58]++a0++[40]++(sWr m l a3)++[41]));have a10:=([58]++a0).length+1<=2305843009213693952;(i<l.length/\l.length<=1000000000000)/\(0<=a2.size/\((i:Nat):Int)+a2.size<=l.length)/\(∀k,k∈Qe l i->(l.getD k default).size<=1000000000000)/\(i<l.length)/\cond (decide (a2.kind=(23:Int))) ((W33 m).L K 7 (mkS 87 [(0,(.sl (.sels l))),(5,(.own 1)),(7,(.str [])),(8,(.nat 0))] [(2,.blk 33 [(.int .i64 (a2.kind)),(.int .i64 (a2.op)),(.str (a2.key)),(.str (a2.val)),(.int .i64 (a2.a)),(.int .i64 (a2.b)),(.int .i64 (a2.flag)),(.int .i64 (a2.size))]),(1,.row (.ints (Qe l i)) true)] 3)) (cond (decide (a2.kind=(22:Int))) ((0<(Qe l i).length)/\(0<(Qe l i).length)/\a4/\(WAt l m a3)/\(0<=a2.op/\a2.op<(5:Nat))/\((sWr m l a3).length+a5.length<=2305843009213693952)/\(1<(Qe l i).length)/\(1<(Qe l i).length)/\a4/\(WAt l m ((Qe l i).getD 1 0))/\((sWr m l a3++a5).length+(sWr m l ((Qe l i).getD 1 0)).length<=2305843009213693952)/\K (.val (.str (sWr m l a3++a5++(sWr m l ((Qe l i).getD 1 0))))) none) (cond (decide (a2.kind=(21:Int))) (a4/\(WAt l (m+1) i)/\K (.val (.str (Qjj m l i))) none) (cond (decide (a2.kind=(18:Int))) ((inI a6)/\(0<=a6/\a6<(3:Nat))/\(1+a0.length<=2305843009213693952)/\a10/\(0<(Qe l i).length)/\(0<(Qe l i).length)/\a4/\(WAt l m a3)/\a7/\a8/\K a9 none) (cond (decide (a2.kind=(19:Int))) ((inI a6)/\(0<=a6/\a6<(3:Nat))/\(1+a0.length<=2305843009213693952)/\a10/\(0<(Qe l i).length)/\(0<(Qe l i).length)/\a4/\(WAt l m a3)/\a7/\a8/\K a9 none) (cond (decide (a2.kind=(20:Int))) ((inI a6)/\(0<=a6/\a6<(3:Nat))/\(1+a0.length<=2305843009213693952)/\a10/\(0<(Qe l i).length)/\(0<(Qe l i).length)/\a4/\(WAt l m a3)/\a7/\a8/\K a9 none) ((i<l.length)/\(Way.Fld a1)/\(Qy a1.kind=true/\¬(a1.kind=18\/a1.kind=19\/a1.kind=20))/\(a1.key.length+a1.val.length<=100000)/\K (.val (.str (Qw a1))) none))))))) ?_
 refine QY (QY (QY (QY ?_)))
 refine Qa ?_ ?_<;>intro h1<;>try simp[-za,-zb]at h1
 exact Wk.L.rn [0,1] (L7 _ 0 [] rfl ⟨h1,by omega,rfl⟩)
 refine Qa (fun h2=>?_) (fun h2=>?_)
 try simp[-za,-zb]at h2
 refine QY (QY (QY (QY (QY (QY (QY (QY (QY (QY (QY ?_))))))))))
 refine Vv hk ?_
 rw[Qab]
 unfold YR
 rw[if_neg (by omega),if_pos h2,QaX (by omega),QaX (by omega)]
 rfl
 try simp[-za,-zb]at h2
 refine Qa ?_ ?_<;>intro h3<;>try simp[-za,-zb]at h3
 refine QY (QY ?_)
 refine Vv hk ?_
 rw[Qab]
 unfold YR
 rw[if_neg (by omega),if_neg (by omega),if_pos h3]
 rfl
 refine Qa (fun h4=>?_) (fun h4=>?_)
 try simp[-za,-zb]at h4
 refine QY (QY (QY (QY (QY (QY (QY (QY (QY (QY ?_)))))))))
 refine Vv hk ?_
 rw[Qab]
 unfold YR
 rw[if_neg (by omega),if_neg (by omega),if_neg (by omega),if_pos (by omega),QaX (by omega)]
 simp[V3,Zy,Zz,nHasChild,-za]
 try simp[-za,-zb]at h4
 refine Qa ?_ ?_<;>intro h5<;>try simp[-za,-zb]at h5
 refine QY (QY (QY (QY (QY (QY (QY (QY (QY (QY ?_)))))))))
 refine Vv hk ?_
 rw[Qab]
 unfold YR
 rw[if_neg (by omega),if_neg (by omega),if_neg (by omega),if_pos (by omega),QaX (by omega)]
 simp[V3,Zy,Zz,nHasChild,-za]
 refine Qa (fun h6=>?_) (fun h6=>?_)
 try simp[-za,-zb]at h6
 refine QY (QY (QY (QY (QY (QY (QY (QY (QY (QY ?_)))))))))
 refine Vv hk ?_
 rw[Qab]
 unfold YR
 rw[if_neg (by omega),if_neg (by omega),if_neg (by omega),if_pos (by omega),QaX (by omega)]
 simp[V3,Zy,Zz,nHasChild,-za]
 try simp[-za,-zb]at h6
 refine QY (QY (QY (QY ?_)))
 refine Vv hk ?_
 rw[Qab]
 unfold YR
 rw[if_neg (by omega),if_neg (by omega),if_neg (by omega),if_neg (by omega)]
 cases e
theorem QuK:∀m,Sat 33 (Ql (c33 m))
 | 0=>by
  intro g0 w M ω svs args b K hS hn hr hP
  exfalso
  obtain⟨ps,v,e,hp,hk⟩:=Qd hP
  unfold c33 at e
  split at e
  cases e
  obtain⟨⟨x,ks⟩,rest,_,h2,_⟩:=hp.2.1
  rw[ST.ht]at h2
  omega
  cases e
 | m+1=>QvD m (QuK m)
def c16 (svs:List SV) (b:Option SB):QR:=match svs,b with
 | [.sl (.sels l)],none=>some ([l.length<=2000/\wtL l<=100000,l.length≠0->WAt l 2000 0],.str (Y4 l))
 | _,_=>none
noncomputable def W16:Wk:=⟨[(33,.pure (c33 2000))],Qh Tryz.f16,false,false,[.tmp 2],[9],[],[]⟩
theorem has16:Has 16:=hsf Tryz.f16
theorem nez1 {p q:Prop} (k:q) (h:p:=by first | omega | (constructor<;>omega) | exact h03 (fun q=>h1 (xh.1 q)) | exact h03 (by omega)):p/\q:=⟨h,k⟩
theorem sat16:Sat 16 (Ql c16):=by
 have hD:Qb W16.D:=(Qb.cons Qrt (QuK 2000) Qb.nil)
 refine W16.sa hD Tryz.f16 fun svs b K hP=>?_
 obtain⟨ps,v,e,hp,hk⟩:=Qd hP
 unfold c16 at e
 split at e
 rename_i l
 cases e
 obtain⟨⟨h01,h02⟩,h03,_⟩:=hp
 refine W16.en (cond (decide (l.length=0)) (K (.val (.str [])) none) ((l.length<=1000000/\wtL l<=100000)/\(WAt l 2000 0)/\K (.val (.str (sWr 2000 l 0))) none)) ?_
 refine Qa ?_ ?_<;>intro h1<;>try simp[-za,-zb]at h1
 refine Vv hk ?_
 unfold Y4
 rw[if_pos (by rw[h1];rfl)]
 refine nez1 (nez1 ?_)
 refine Vv hk ?_
 unfold Y4
 rw[if_neg (fun q=>h1 (xh.1 q))]
 cases e
end
end Go.Proofs.YtengepcafdnalaaGreatDoor
