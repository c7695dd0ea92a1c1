/-
  Parts of the proof that the law FnPrintBack holds for every input (texts Oj, Ok). Conditions: none.
-/
import Derived.Test.YtengepcafdnalaaGreatDoorM34
namespace Go.Proofs.YtengepcafdnalaaGreatDoor
open _root_.List renaming length_append → zh, length_cons → zj, length_nil → zo, mem_cons → zu, flatten_cons → xu, getD_eq_getElem?_getD → zd, getElem?_eq_getElem → zg, replicate → zM
open _root_.Nat renaming strongRecOn → zl
open _root_.UInt8 renaming toNat_or → ze
section
open Go Go.RowKit
set_option maxRecDepth 20000
theorem QsN:∀l:List CSel,l.length<=(prG l).length+1/\∀y∈l,(pr y).length<=(prG l).length:=by
 have key:∀l:List CSel,2*l.length<=((prs l).flatMap fun u=>[44,32]++u).length/\∀y∈l,(pr y).length<=((prs l).flatMap fun u=>[44,32]++u).length:=by
  intro l
  induction l with
  | nil=>exact⟨by simp[prs],fun y hy=>by cases hy⟩
  | cons x l ih=>
   obtain⟨i1,i2⟩:=ih
   rw[prs,List.flatMap_cons,zh]
   simp only[zh,zj,zo]
   refine⟨by omega,fun y hy=>?_⟩
   rcases zu.1 hy with e | e
   subst e;omega
   have:=i2 y e;omega
 intro l
 cases l with
 | nil=>exact⟨by simp,fun y hy=>by cases hy⟩
 | cons x l=>
  obtain⟨i1,i2⟩:=key l
  unfold prG
  rw[prs,Qcc,zh,zj]
  refine⟨by omega,fun y hy=>?_⟩
  rcases zu.1 hy with e | e
  subst e;omega
  have:=i2 y e;omega
theorem Qta (l:List CSel):∀y∈l,(pr y).length<=(prs l).flatten.length:=by
 induction l with
 | nil=>intro y hy;cases hy
 | cons x l ih=>
  intro y hy
  rw[prs,xu,zh]
  rcases zu.1 hy with e | e
  subst e;omega
  have:=ih y e;omega
def gS (m:Nat) (x:CSel):Option (List Prop×List UInt8):=some ([okM m x],pr x)
theorem Qja {l:List CSel} {i:Nat} (h:i<l.length):l.getD i default∈l:=by
 rw[zd,zg h]
 exact List.getElem_mem h
def c40 (m:Nat) (svs:List SV) (b:Option SB):QR:=match svs,b with
 | [.sl (.csels l)],none=>some ([l.length<=1000000/\∀y∈l,okM m y,(prG l).length<=1000000],.str (prG l))
 | _,_=>none
noncomputable def W40 (m:Nat):Wk:=⟨[(63,.pure c63),(199,.meth (gS m))],Qe Tryz.f40,false,false,[.tmp 2],[9],[(3,3592)],[]⟩
theorem Quc:Has 40:=hsf Tryz.f40
theorem Qi4 {p q:Prop} (k:q) (h:p:=by first | omega | exact h02 _ (Qja (by omega)) | (rw[QlX l i (by omega)];omega) | (rw[QaL (by omega),Qji,QdU];exact⟨by omega,by have:=h03;unfold prG at this;omega⟩) | (simp;done)):p/\q:=⟨h,k⟩
theorem QtN (m:Nat) (hM:UX (gS m)):Sat 40 (Qz (c40 m)):=by
 have hD:Qa (W40 m).D:=(Qa.cons Qt8 QtJ (Qa.cons Qe4 hM Qa.nil))
 refine (W40 m).sa hD Tryz.f40 fun svs b K hP=>?_
 obtain⟨ps,v,e,hp,hk⟩:=Qh hP
 unfold c40 at e
 split at e
 rename_i l
 cases e
 obtain⟨⟨h01,h02⟩,h03,_⟩:=hp
 have L3:∀(mm:Nat) (i:Nat),l.length-i=mm->(i<=l.length)->(W40 m).L K 3 (mkS 24 [(3,(.own 1)),(9,(.sl (.csels l))),(10,(.nat l.length)),(11,(.nat i))] [(1,.row (.strs (prR l i)) true)] 2):=by
  intro mm
  induction mm using zl with
  | _ mm ih=>
   intro i hm hI
   refine (W40 m).aL hD (cond (decide (i<l.length)) ((i<l.length)/\(okM m (l.getD i default))/\(i<(prR l i).length)/\(i<(prR l i).length)/\(i+1<=9223372036854775807)/\(W40 m).L K 3 (mkS 24 [(3,(.own 1)),(9,(.sl (.csels l))),(10,(.nat l.length)),(11,(.nat (i+1)))] [(1,.row (.strs ((prR l i).set i (pr (l.getD i default)))) true)] 2)) (((prR l i).length<=1000000000/\(Lib.join (prR l i) [44,32]).length<=1000000000)/\K (.val (.str (Lib.join (prR l i) [44,32]))) none)) ?_
   refine Qb ?_ ?_<;>intro h1<;>try simp[-zd,-ze]at h1
   refine Qi4 (Qi4 (Qi4 (Qi4 (Qi4 ?_))))
   rw[QtX h1]
   exact ih _ (by omega) (i+1) rfl (by omega)
   refine Qi4 ?_
   refine YW hk ?_
   rw[QaL (by omega),Qji]
   rfl
 refine (W40 m).en ((l.length=l.length)/\(l.length<=1099511627776)/\(W40 m).L K 3 (mkS 24 [(3,(.own 1)),(9,(.sl (.csels l))),(10,(.nat l.length)),(11,(.nat 0))] [(1,.row (.strs (zM l.length ([]:List UInt8))) true)] 2)) ?_
 refine Qi4 (Qi4 ?_)
 exact L3 _ 0 rfl (by omega)
 cases e
def c244 (m:Nat) (svs:List SV) (b:Option SB):QR:=match svs,b with
 | [.agg [.str n,.sl (.csels l)]],none=>some ([l.length<=1000000/\∀y∈l,okM m y,(prG l).length<=1000000,n.length<=1000000],.str (pr (.rel n l)))
 | _,_=>none
noncomputable def W244 (m:Nat):Wk:=⟨[(40,.pure (c40 m))],Qe Tryz.f244,false,false,[.tmp 2],[9],[],[]⟩
theorem Qwq:Has 244:=hsf Tryz.f244
theorem QnJ {p q:Prop} (k:q) (h:p:=by first | omega | exact⟨h01,h02⟩ | (simp;done) | (simp only[zh,zj,zo];omega)):p/\q:=⟨h,k⟩
theorem QuG (m:Nat) (hM:UX (gS m)):Sat 244 (Qz (c244 m)):=by
 have hD:Qa (W244 m).D:=(Qa.cons Quc (QtN m hM) Qa.nil)
 refine (W244 m).sa hD Tryz.f244 fun svs b K hP=>?_
 obtain⟨ps,v,e,hp,hk⟩:=Qh hP
 unfold c244 at e
 split at e
 rename_i n l
 cases e
 obtain⟨⟨h01,h02⟩,h03,h04,_⟩:=hp
 refine (W244 m).en ((1+n.length<=2305843009213693952)/\(([58]++n).length+1<=2305843009213693952)/\(l.length<=1000000/\∀y∈l,okM m y)/\((prG l).length<=1000000)/\(([58]++n++[40]).length+(prG l).length<=2305843009213693952)/\(([58]++n++[40]++(prG l)).length+1<=2305843009213693952)/\K (.val (.str ([58]++n++[40]++(prG l)++[41]))) none) ?_
 refine QnJ (QnJ (QnJ (QnJ (QnJ (QnJ ?_)))))
 refine YW hk ?_
 rw[pr]
 unfold prG
 simp
 cases e
def c248 (m:Nat) (svs:List SV) (b:Option SB):QR:=match svs,b with
 | [.agg [.sl (.csels l),.str pe]],none=>some ([l.length<=1000000/\∀y∈l,okM m y,(prs l).flatten.length<=1000000,pe.length<=1000000],.str (pr (.compound l pe)))
 | _,_=>none
noncomputable def Qlj (m:Nat):Wk:=⟨[(63,.pure c63),(199,.meth (gS m))],Qe Tryz.f248,false,false,[.tmp 2],[9],[(5,14680074)],[]⟩
theorem QqH:Has 248:=hsf Tryz.f248
theorem QfL {p q:Prop} (k:q) (h:p:=by first | omega | exact h02 _ (Qja (by omega)) | (rw[QlX l i (by omega)];omega) | (rw[QaL (by omega),QaP,QdU];exact⟨by omega,by omega⟩) | (rw[QaL (by omega),QaP];first | omega | (simp only[zh,zj,zo];omega)) | (simp;done) | (simp only[zh,zj,zo];omega)):p/\q:=⟨h,k⟩
theorem Qph (m:Nat) (hM:UX (gS m)):Sat 248 (Qz (c248 m)):=by
 have hD:Qa (Qlj m).D:=(Qa.cons Qt8 QtJ (Qa.cons Qe4 hM Qa.nil))
 refine (Qlj m).sa hD Tryz.f248 fun svs b K hP=>?_
 obtain⟨ps,v,e,hp,hk⟩:=Qh hP
 unfold c248 at e
 split at e
 rename_i l pe
 cases e
 obtain⟨⟨h01,h02⟩,h03,h04,_⟩:=hp
 have L5:∀(mm:Nat) (i:Nat),l.length-i=mm->(i<=l.length/\¬(l=[]/\pe=[]))->(Qlj m).L K 5 (mkS 45 [(1,(.ptr 1 0)),(3,(.own 2)),(21,(.sl (.csels l))),(22,(.nat l.length)),(23,(.nat i))] [(1,.blk 129 [(.sl (.csels l)),(.str pe)]),(2,.row (.strs (prR l i)) true)] 3):=by
  intro mm
  induction mm using zl with
  | _ mm ih=>
   intro i hm hI
   obtain⟨k1,k2⟩:=hI
   refine (Qlj m).aL hD (cond (decide (i<l.length)) ((i<l.length)/\(okM m (l.getD i default))/\(i<(prR l i).length)/\(i<(prR l i).length)/\(i+1<=9223372036854775807)/\(Qlj m).L K 5 (mkS 45 [(1,(.ptr 1 0)),(3,(.own 2)),(21,(.sl (.csels l))),(22,(.nat l.length)),(23,(.nat (i+1)))] [(1,.blk 129 [(.sl (.csels l)),(.str pe)]),(2,.row (.strs ((prR l i).set i (pr (l.getD i default)))) true)] 3)) (((prR l i).length<=1000000000/\(Lib.join (prR l i) []).length<=1000000000)/\cond (!(decide (pe=[]))) ((2+pe.length<=2305843009213693952)/\((Lib.join (prR l i) []).length+([58,58]++pe).length<=2305843009213693952)/\K (.val (.str (Lib.join (prR l i) []++([58,58]++pe)))) none) (K (.val (.str (Lib.join (prR l i) []))) none))) ?_
   refine Qb ?_ ?_<;>intro h1<;>try simp[-zd,-ze]at h1
   refine QfL (QfL (QfL (QfL (QfL ?_))))
   rw[QtX h1]
   exact ih _ (by omega) (i+1) rfl ⟨by omega,k2⟩
   refine QfL ?_
   refine Qb ?_ ?_<;>intro h2<;>try simp[-zd,-ze]at h2
   refine QfL (QfL ?_)
   refine YW hk ?_
   rw[QaL (by omega),QaP,pr,if_neg k2,if_neg h2]
   rfl
   refine YW hk ?_
   rw[QaL (by omega),QaP,pr,if_neg k2,if_pos h2,List.append_nil]
 refine (Qlj m).en (cond ((decide (l.length=0))&&(decide (pe=[]))) (K (.val (.str [42])) none) ((l.length=l.length)/\(l.length<=1099511627776)/\(Qlj m).L K 5 (mkS 45 [(1,(.ptr 1 0)),(3,(.own 2)),(21,(.sl (.csels l))),(22,(.nat l.length)),(23,(.nat 0))] [(2,.row (.strs (zM l.length ([]:List UInt8))) true),(1,.blk 129 [(.sl (.csels l)),(.str pe)])] 3))) ?_
 refine Qb ?_ ?_<;>intro h1<;>try simp[-zd,-ze]at h1
 refine YW hk ?_
 rw[pr,if_pos h1]
 refine QfL (QfL ?_)
 exact Wk.L.rn [0,1,2] (L5 _ 0 rfl ⟨by omega,fun q=>h1 q.1 q.2⟩)
 cases e
def c252 (m:Nat) (svs:List SV) (b:Option SB):QR:=match svs,b with
 | [.agg [.cs f,.byt c,.cs s]],none=>some ([okM m f,okM m s,(YM c.toNat).length<=1000000],.str (pr (.combined f c s)))
 | _,_=>none
noncomputable def W252 (m:Nat):Wk:=⟨[(199,.meth (gS m))],Qe Tryz.f252,false,false,[.tmp 2],[9],[],[]⟩
theorem Qwp:Has 252:=hsf Tryz.f252
theorem QnI {p q:Prop} (k:q) (h:p:=by first | omega | exact h01 | exact h02 | (simp;done) | (simp only[zh,zj,zo];omega)):p/\q:=⟨h,k⟩
theorem QuF (m:Nat) (hM:UX (gS m)):Sat 252 (Qz (c252 m)):=by
 have hD:Qa (W252 m).D:=(Qa.cons Qe4 hM Qa.nil)
 refine (W252 m).sa hD Tryz.f252 fun svs b K hP=>?_
 obtain⟨ps,v,e,hp,hk⟩:=Qh hP
 unfold c252 at e
 split at e
 rename_i f c s
 cases e
 obtain⟨h01,h02,h03,_⟩:=hp
 have e1:=h01.2.2.1
 have e2:=h02.2.2.1
 refine (W252 m).en (have a0:=YM ((c.toNat:Nat):Int);(okM m f)/\(1+a0.length<=2305843009213693952)/\(([32]++a0).length+1<=2305843009213693952)/\(okM m s)/\(([32]++a0++[32]).length+(pr s).length<=2305843009213693952)/\((pr f).length+([32]++a0++[32]++(pr s)).length<=2305843009213693952)/\K (.val (.str (pr f++([32]++a0++[32]++(pr s))))) none) ?_
 refine QnI (QnI (QnI (QnI (QnI (QnI ?_)))))
 refine YW hk ?_
 rw[pr]
 simp
 cases e
theorem Qv8 (m:Nat) (hM:UX (gS m)):UX (gS (m+1)):=by
 intro x ps s e hp
 cases e
 obtain⟨⟨h1,h2,h3,h4⟩,_⟩:=hp
 have kids:∀{l:List CSel},QhU l<=m->Qi3 l->(∀y∈l,(pr y).length<=1000000)->(Qm l).length<=1000000->∀y∈l,okM m y:=fun a b c d y hy=>⟨Qe1 a y hy,QpV b y hy,c y hy,Nat.le_trans (QjF y hy) d⟩
 cases x
 case tag k=>exact⟨199,c199,_,Qe4,QuX,rfl,trivial,fun u w=>by kernel_rfl⟩
 case cls k=>
  have:=ZI k
  rw[pr,zj]at h3
  exact⟨203,c203,_,QwF,QuW,rfl,⟨by omega,trivial⟩,fun u w=>by kernel_rfl⟩
 case idn k=>
  have:=ZI k
  rw[pr,zj]at h3
  exact⟨208,c208,_,QwE,QuV,rfl,⟨by omega,trivial⟩,fun u w=>by kernel_rfl⟩
 case attr k v o i=>
  rw[pr]at h3
  simp only[zh,zj,zo]at h3
  have hv:v.length<=1000000:=by
   split at h3
   omega
   simp only[zh,zj,zo]at h3
   omega
  exact⟨212,c212,_,QwD,QuU,rfl,⟨⟨by omega,hv,by omega⟩,trivial⟩,fun u w=>by kernel_rfl⟩
 case nth a b l t=>
  simp only[okC]at h2
  exact⟨216,c216,_,QwC,QuT,rfl,⟨h2,trivial⟩,fun u w=>by kernel_rfl⟩
 case only t=>exact⟨218,c218,_,QwB,QuS,rfl,trivial,fun u w=>by kernel_rfl⟩
 case empty=>exact⟨220,c220,_,QwA,QuR,rfl,trivial,fun u w=>by kernel_rfl⟩
 case root=>exact⟨222,c222,_,Qwz,QuQ,rfl,trivial,fun u w=>by kernel_rfl⟩
 case input=>exact⟨224,c224,_,Qwy,QuP,rfl,trivial,fun u w=>by kernel_rfl⟩
 case link=>exact⟨226,c226,_,Qwx,QuO,rfl,trivial,fun u w=>by kernel_rfl⟩
 case enabled=>exact⟨228,c228,_,Qww,QuN,rfl,trivial,fun u w=>by kernel_rfl⟩
 case disabled=>exact⟨230,c230,_,Qwv,QuM,rfl,trivial,fun u w=>by kernel_rfl⟩
 case checked=>exact⟨232,c232,_,Qwu,QuL,rfl,trivial,fun u w=>by kernel_rfl⟩
 case lang v=>
  rw[pr]at h3
  simp only[zh,zj,zo]at h3
  exact⟨234,c234,_,Qwt,QuK,rfl,⟨by omega,trivial⟩,fun u w=>by kernel_rfl⟩
 case contains v o=>
  rw[pr]at h3
  simp only[zh,zj,zo]at h3
  exact⟨236,c236,_,Qws,QuJ,rfl,⟨by omega,trivial⟩,fun u w=>by kernel_rfl⟩
 case never v=>exact⟨240,c240,_,Qwr,QuH,rfl,trivial,fun u w=>by kernel_rfl⟩
 case rel n l=>
  rw[hgt]at h1
  rw[okC]at h2
  rw[pr]at h3
  simp only[zh,zj,zo]at h3
  obtain⟨j1,j2⟩:=QsN l
  have j3:(Qcc (prs l)).length=(prG l).length:=rfl
  exact⟨244,c244 m,_,Qwq,QuG m hM,rfl,⟨⟨by omega,kids (by omega) h2 (fun y hy=>by have:=j2 y hy;omega) (by simp[Qj,Ql]at h4;omega)⟩,by omega,by omega,trivial⟩,fun u w=>by kernel_rfl⟩
 case compound l pe=>
  rw[hgt]at h1
  rw[okC]at h2
  rw[pr]at h3
  by_cases e:l=[]/\pe=[]
  obtain⟨rfl,rfl⟩:=e
  exact⟨248,c248 m,_,QqH,Qph m hM,rfl,⟨⟨by simp,fun y hy=>by cases hy⟩,by simp[prs],by simp,trivial⟩,fun u w=>by kernel_rfl⟩
  rw[if_neg e,zh]at h3
  have hpe:pe.length<=1000000:=by
   split at h3
   rename_i q;rw[q];simp
   simp only[zj]at h3;omega
  have hd:(Qm l).length<=1000000:=by simp[Qj,Ql]at h4;omega
  have hn:=QjG l
  exact⟨248,c248 m,_,QqH,Qph m hM,rfl,⟨⟨by omega,kids (by omega) h2 (fun y hy=>by have:=Qta l y hy;omega) hd⟩,by omega,hpe,trivial⟩,fun u w=>by kernel_rfl⟩
 case combined f c s=>
  rw[hgt]at h1
  rw[okC]at h2
  rw[pr]at h3
  simp only[zh,zj,zo]at h3
  exact⟨252,c252 m,_,Qwp,QuF m hM,rfl,⟨⟨by omega,h2.1,by omega,by simp[Qj,Ql]at h4;omega⟩,⟨by omega,h2.2,by omega,by simp[Qj,Ql]at h4;omega⟩,by omega,trivial⟩,fun u w=>by kernel_rfl⟩
theorem meth:∀m,UX (gS m)
 | 0=>by
  intro x ps s e hp
  cases e
  have:=Qmq x
  have:=hp.1.1
  omega
 | m+1=>Qv8 m (meth m)
end
section
open Go Go.RowKit
set_option maxRecDepth 20000
def prO (s:Bs) (m p:Bool):Bs×Bool:=
 match QV s m p with
 | some v=>(if m=true then prG v else pr (v.headD default),true)
 | none=>([],false)
def QrG (v:List CSel):Prop:=v.length<=1000000/\(∀y∈v,okM 3000 y)/\(prG v).length<=1000000/\okM 3000 (v.headD default)
def PrOk (s:Bs) (m p:Bool):Prop:=∀v,QV s m p=some v->QrG v
def c21 (svs:List SV) (b:Option SB):QR:=match svs,b with
 | [.str s,.bool m,.bool p],none=>some ([s.length<=1000000,PrOk s m p],.tup [.str (prO s m p).1,.bool (prO s m p).2])
 | _,_=>none
noncomputable def W21:Wk:=⟨[(25,.plain c25),(40,.pure (c40 3000)),(199,.meth (gS 3000))],Qe Tryz.f21,false,false,[.tmp 6,.tmp 7],[9,4],[],[]⟩
theorem has21:Has 21:=hsf Tryz.f21
theorem Qhs {p q:Prop} (k:q) (h:p:=by first | omega | (simp;done) | exact⟨(h02 _ (by rw[h1];exact h2)).1,(h02 _ (by rw[h1];exact h2)).2.1⟩ | exact (h02 _ (by rw[h1];exact h2)).2.2.1 | exact (h02 _ (by rw[h1];exact h2)).2.2.2 | (exfalso;rw[h1]at h3;exact absurd h3 (by decide))):p/\q:=⟨h,k⟩
theorem sat21:Sat 21 (Qz c21):=by
 have hD:Qa W21.D:=(Qa.cons Que QtP (Qa.cons Quc (QtN 3000 (meth 3000)) (Qa.cons Qe4 (meth 3000) Qa.nil)))
 refine W21.sa hD Tryz.f21 fun svs b K hP=>?_
 obtain⟨ps,v,e,hp,hk⟩:=Qh hP
 unfold c21 at e
 split at e
 rename_i s m p
 cases e
 obtain⟨h01,h02,_⟩:=hp
 refine W21.en ((s.length<=1000000)/\cond m (Qt (QV s true p) (fun v1=>cond m ((v1.length<=1000000/\∀y∈v1,okM 3000 y)/\((prG v1).length<=1000000)/\K (.val (.tup [(.str (prG v1)),(.bool true)])) none) ((0<v1.length)/\(okM 3000 (v1.getD 0 default))/\K (.val (.tup [(.str (pr (v1.getD 0 default))),(.bool true)])) none)) (K (.val (.tup [(.str []),(.bool false)])) none)) (Qt (QV s false p) (fun v2=>cond m (([v2.headD default].length<=1000000/\∀y∈[v2.headD default],okM 3000 y)/\((prG [v2.headD default]).length<=1000000)/\K (.val (.tup [(.str (prG [v2.headD default])),(.bool true)])) none) ((0<1)/\(okM 3000 (([v2.headD default]:List CSel).getD 0 default))/\K (.val (.tup [(.str (pr (([v2.headD default]:List CSel).getD 0 default))),(.bool true)])) none)) (K (.val (.tup [(.str []),(.bool false)])) none))) ?_
 refine Qhs ?_
 refine Qb ?_ ?_<;>intro h1<;>try simp[-zd,-ze]at h1
 refine QJ (fun v1 h2=>?_) (fun h2=>?_)
 refine Qb ?_ ?_<;>intro h3<;>try simp[-zd,-ze]at h3
 refine Qhs (Qhs ?_)
 subst h1
 have e:prO s true p=(prG v1,true):=by unfold prO;rw[h2];try rfl
 rw[e]at hk
 exact hk
 refine Qhs (Qhs ?_)
 exfalso
 rw[h1]at h3
 exact absurd h3 (by decide)
 subst h1
 have e:prO s true p=([],false):=by unfold prO;rw[h2];try rfl
 rw[e]at hk
 exact hk
 refine QJ (fun v2 h2=>?_) (fun h2=>?_)
 refine Qb ?_ ?_<;>intro h3<;>try simp[-zd,-ze]at h3
 refine Qhs (Qhs ?_)
 exfalso
 rw[h1]at h3
 exact absurd h3 (by decide)
 refine Qhs (Qhs ?_)
 subst h1
 have e:prO s false p=(pr (v2.headD default),true):=by unfold prO;rw[h2];try rfl
 rw[e]at hk
 exact hk
 subst h1
 have e:prO s false p=([],false):=by unfold prO;rw[h2];try rfl
 rw[e]at hk
 exact hk
 cases e
end
end Go.Proofs.YtengepcafdnalaaGreatDoor
