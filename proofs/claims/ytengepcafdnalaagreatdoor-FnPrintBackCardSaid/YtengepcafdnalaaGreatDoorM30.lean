/-
  Parts of the proof that the law FnPrintBack holds for every input (texts Lk, Ll, Lm). Conditions: none.
-/
import Derived.Test.YtengepcafdnalaaGreatDoorM29
namespace Go.Proofs.YtengepcafdnalaaGreatDoor
open _root_.List renaming getD_eq_getElem?_getD → zd, take_add_one → zU, getElem?_eq_getElem → zg, length_append → zh, take_of_length_le → zS, append_assoc → zw, length_cons → zj, length_nil → zo, length_take → zP, length_drop → zR
open _root_.Nat renaming le_refl → zm, strongRecOn → zl, zero_le → zO
open _root_.Option renaming map_eq_some_iff → zi
open _root_.UInt8 renaming toNat_or → ze
section
open Go Go.RowKit
set_option maxRecDepth 20000
theorem QrL (x:CSel):VN x<=19:=by cases x<;>simp[VN]
def mkN (p:Nat×Nat×Bs×Bs×Int×Int×Nat):SelD:=⟨p.1,p.2.1,p.2.2.1,p.2.2.2.1,p.2.2.2.2.1,p.2.2.2.2.2.1,p.2.2.2.2.2.2,(0:Nat)⟩
theorem Ql4 (x:CSel):mkN (QC (VN x) (Q1 x) (Q0 x) (Vq x) (Yu x) (Yt x) (Ys x) (Yr x) (Vp x) (Vr x))=Qy x:=by
 cases x
 case attr k v o i=>
  have e:attrSigns=[[61],[33,61],[126,61],[124,61],[94,61],[36,61],[42,61]]:=rfl
  cases i<;>simp[mkN,QC,Qy,VN,Q1,Q0,Vq,Yu,Yt,Ys,Yr,Vp,Vr,b2i,Qer,e]
 case rel n ks=>
  have e:[Zz,ZA,QN]=[[110,111,116],[104,97,115],[104,97,115,99,104,105,108,100]]:=rfl
  simp[mkN,QC,Qy,VN,Q1,Q0,Vq,Yu,Yt,Ys,Yr,Vp,Vr,Qer,e]
 case combined f c y=>simp[mkN,QC,Qy,VN,Q1,Q0,Vq,Yu,Yt,Ys,Yr,Vp,Vr,Qer]
 case nth a b l t=>cases l<;>cases t<;>simp[mkN,QC,Qy,VN,Q1,Q0,Vq,Yu,Yt,Ys,Yr,Vp,Vr,b2i,Qcp]
 case only t=>cases t<;>simp[mkN,QC,Qy,VN,Q1,Q0,Vq,Yu,Yt,Ys,Yr,Vp,Vr,b2i,Qcp]
 case contains v o=>cases o<;>simp[mkN,QC,Qy,VN,Q1,Q0,Vq,Yu,Yt,Ys,Yr,Vp,Vr,b2i]
 all_goals simp[mkN,QC,Qy,VN,Q1,Q0,Vq,Yu,Yt,Ys,Yr,Vp,Vr]
theorem QgN {x:CSel} (h:VN x=17):Qj x=Ql (Qy x) (Ql Q4 (Qm (Yk x))):=by
 cases x<;>simp[VN]at h
 simp[Qj,Yk]
theorem QjE {x:CSel} (h:¬VN x=17):Qj x=Ql (Qy x) (Qm (Yk x)):=by
 cases x<;>simp[VN]at h<;>simp[Qj,Yk,Qm]
theorem Qbm {l c:List SelD} {x:SelD}:QcA (l++x::c) l.length=l++Ql x c:=by
 unfold QcA Ql
 rw[List.set_append_right _ _ (zm _)]
 simp[zd]
theorem UT {ks:List CSel} {j:Nat} (h:j<ks.length):Qm (ks.take (j+1))=Qm (ks.take j)++Qj (ks.getD j default):=by
 have app:∀(a b:List CSel),Qm (a++b)=Qm a++Qm b:=by
  intro a b
  induction a with
  | nil=>simp[Qm]
  | cons x a ih=>simp[Qm,ih]
 rw[zU,app,zd,zg h]
 simp[Qm]
theorem QbA {ks:List CSel}:∀{j:Nat},(Qm (ks.take j)).length<=(Qm ks).length:=by
 intro j
 have app:∀(a b:List CSel),(Qm (a++b)).length=(Qm a).length+(Qm b).length:=by
  intro a b
  induction a with
  | nil=>simp[Qm]
  | cons x a ih=>simp[Qm,ih];omega
 have:=app (ks.take j) (ks.drop j)
 rw[List.take_append_drop]at this
 omega
theorem Qdt {ks:List CSel} {j:Nat} (h:j<ks.length):(Qm (ks.take j)).length+(Qj (ks.getD j default)).length<=(Qm ks).length:=by
 have h1:=QbA (ks:=ks) (j:=j+1)
 rw[UT h,zh]at h1
 exact h1
theorem Qt5 {ks:List CSel}:ks.length<=(Qm ks).length:=by
 have pos:∀x:CSel,0<(Qj x).length:=by intro x;cases x<;>simp[Qj,Ql]
 induction ks with
 | nil=>simp
 | cons x ks ih=>have:=pos x;simp[Qm];omega
theorem Qfj (x:CSel):0<(Qj x).length:=by cases x<;>simp[Qj,Ql]
def c27 (m:Nat) (svs:List SV) (b:Option SB) (K:Out->Option SB->Prop):Prop:=match svs,b with
 | [.cs x,.own 0],some (.row (.sels l) true)=>l.length+(Qj x).length<=1000000000/\(Qj x).length<=m/\∀b':Option SB,K (.row (.sels (l++Qj x))) b'
 | _,_=>False
theorem QqG:Has 27:=hsf Tryz.f27
def c26 (m:Nat) (svs:List SV) (b:Option SB) (K:Out->Option SB->Prop):Prop:=match svs,b with
 | [.sl (.csels ks),.own 0],some (.row (.sels l) true)=>l.length+(Qm ks).length+1<=1000000000/\(Qm ks).length<=m/\∀b':Option SB,K (.row (.sels (l++Ql Q4 (Qm ks)))) b'
 | _,_=>False
noncomputable def W26 (m:Nat):Wk:=⟨[(27,.own 22 (c27 m)),(48,.own 22 c48)],Qe Tryz.f26,true,true,[.tmp 4],[22],[(4,114722)],[]⟩
theorem Qud:Has 26:=hsf Tryz.f26
theorem UN {p q:Prop} (k:q) (h:p:=by first | omega | (simp;done) | (simp;omega) | (simp;assumption)):p/\q:=⟨h,k⟩
theorem QtO (m:Nat) (hG:Sat 27 (c27 m)):Sat 26 (c26 m):=by
 have hD:Qa (W26 m).D:=(Qa.cons QqG hG (Qa.cons Qua QtL Qa.nil))
 refine (W26 m).sa hD Tryz.f26 fun svs b K hP=>?_
 unfold c26 at hP
 split at hP
 rename_i ks l
 obtain⟨h01,h02,hk⟩:=hP
 have w0:=Qt5 (ks:=ks)
 have L4:∀(mm:Nat) (j:Nat) (r:List SelD),ks.length-j=mm->(j<=ks.length/\r=l++Q4::Qm (ks.take j))->(W26 m).L K 4 (mkS 27 [(1,(.own 1)),(5,(.nat l.length)),(14,(.sl (.csels ks))),(15,(.nat ks.length)),(16,(.nat j))] [(1,.row (.sels r) true)] 2):=by
  intro mm
  induction mm using zl with
  | _ mm ih=>
   intro j r hm hI
   obtain⟨k1,k2⟩:=hI
   have w1:r.length=l.length+1+(Qm (ks.take j)).length:=by rw[k2];simp;omega
   have w2:=QbA (ks:=ks) (j:=j)
   have w3:j<ks.length->_:=fun h=>Qdt (ks:=ks) (j:=j) h
   refine (W26 m).aL hD (cond (decide (j<ks.length)) ((j<ks.length)/\(r.length+(Qj (ks.getD j default)).length<=1000000000)/\((Qj (ks.getD j default)).length<=m)/\∀b1:Option SB,(j+1<=9223372036854775807)/\(W26 m).L K 4 (mkS 27 [(1,(.own 2)),(5,(.nat l.length)),(14,(.sl (.csels ks))),(15,(.nat ks.length)),(16,(.nat (j+1)))] [(2,.row (.sels (r++Qj (ks.getD j default))) true)] 3)) ((r.length<=1000000000)/\(l.length<r.length)/\∀b2:Option SB,K (.row (.sels (QcA r l.length))) none)) ?_
   refine Qb ?_ ?_<;>intro h1<;>try simp[-zd,-ze]at h1
   refine UN (UN (UN ?_))
   intro b1
   refine UN ?_
   exact Wk.L.rn [0,2] (ih _ (by omega) (j+1) (r++Qj (ks.getD j default)) rfl ⟨by omega,by rw[UT h1,k2];simp⟩)
   refine UN (UN ?_)
   intro b2
   have e:ks.take j=ks:=zS (by omega)
   rw[e]at k2
   subst k2
   rw[Qbm]
   exact hk _
 refine (W26 m).en ((l.length+1<=1099511627776)/\(W26 m).L K 4 (mkS 27 [(1,(.own 2)),(5,(.nat l.length)),(14,(.sl (.csels ks))),(15,(.nat ks.length)),(16,(.nat 0))] [(2,.row (.sels (l++[SelD.mk (23:Int) (0:Int) [] [] (0:Int) (0:Int) (0:Int) (0:Int)])) true)] 3)) ?_
 refine UN ?_
 exact Wk.L.rn [0,2] (L4 _ 0 (l++[Q4]) rfl ⟨by omega,by simp[Qm]⟩)
 exact hP.elim
def c27s (m:Nat) (svs:List SV) (b:Option SB) (K:Out->Option SB->Prop):Prop:=match svs,b with
 | [.cs x,.own 0],some (.row (.sels l) true)=>l.length+(Qj x).length<=1000000000/\(Qj x).length<=m+1/\∀b':Option SB,K (.row (.sels (l++Qj x))) b'
 | _,_=>False
noncomputable def W27 (m:Nat):Wk:=⟨[(26,.own 22 (c26 m)),(27,.own 22 (c27 m)),(48,.own 22 c48),(49,.plain c49),(50,.plain c50)],Qe Tryz.f27,true,true,[.tmp 4],[22],[(7,1879048226)],[]⟩
theorem QuE (m:Nat) (hG:Sat 26 (c26 m)) (hH:Sat 27 (c27 m)):Sat 27 (c27s m):=by
 have hD:Qa (W27 m).D:=(Qa.cons Qud hG (Qa.cons QqG hH (Qa.cons Qua QtL (Qa.cons has49 sat49 (Qa.cons has50 sat50 Qa.nil)))))
 refine (W27 m).sa hD Tryz.f27 fun svs b K hP=>?_
 unfold c27s at hP
 split at hP
 rename_i x l
 obtain⟨h01,h02,hk⟩:=hP
 have w0:=Qt5 (ks:=Yk x)
 have w1:=QrL x
 have w2:=Qfj x
 have w3:VN x=17->(Qj x).length=2+(Qm (Yk x)).length:=fun h=>by rw[QgN h];simp[Ql];omega
 have w4:¬VN x=17->(Qj x).length=1+(Qm (Yk x)).length:=fun h=>by rw[QjE h];simp[Ql];omega
 have w5:(Ql Q4 (Qm (Yk x))).length=1+(Qm (Yk x)).length:=by simp[Ql];omega
 have L7:∀(mm:Nat) (j:Nat) (r:List SelD),(Yk x).length-j=mm->(¬VN x=17/\j<=(Yk x).length/\r=l++Qy x::Qm ((Yk x).take j))->(W27 m).L K 7 (mkS 41 [(1,(.own 1)),(5,(.nat l.length)),(28,(.sl (.csels (Yk x)))),(29,(.nat ((Yk x).length))),(30,(.nat j))] [(1,.row (.sels r) true)] 2):=by
  intro mm
  induction mm using zl with
  | _ mm ih=>
   intro j r hm hI
   obtain⟨k0,k1,k2⟩:=hI
   have u1:r.length=l.length+1+(Qm ((Yk x).take j)).length:=by rw[k2];simp;omega
   have u2:=QbA (ks:=Yk x) (j:=j)
   have u3:j<(Yk x).length->_:=fun h=>Qdt (ks:=Yk x) (j:=j) h
   have u4:=w4 k0
   refine (W27 m).aL hD (have a0:=(Yk x).getD j default;cond (decide (j<(Yk x).length)) ((j<(Yk x).length)/\(r.length+(Qj a0).length<=1000000000)/\((Qj a0).length<=m)/\∀b3:Option SB,(j+1<=9223372036854775807)/\(W27 m).L K 7 (mkS 41 [(1,(.own 2)),(5,(.nat l.length)),(28,(.sl (.csels (Yk x)))),(29,(.nat ((Yk x).length))),(30,(.nat (j+1)))] [(2,.row (.sels (r++Qj a0)) true)] 3)) ((r.length<=1000000000)/\(l.length<r.length)/\∀b4:Option SB,K (.row (.sels (QcA r l.length))) none)) ?_
   refine Qb ?_ ?_<;>intro h1<;>try simp[-zd,-ze]at h1
   refine UN (UN (UN ?_))
   intro b3
   refine UN ?_
   exact Wk.L.rn [0,2] (ih _ (by omega) (j+1) (r++Qj ((Yk x).getD j default)) rfl ⟨k0,by omega,by rw[UT h1,k2];simp⟩)
   refine UN (UN ?_)
   intro b4
   have e:(Yk x).take j=Yk x:=zS (by omega)
   rw[e]at k2
   subst k2
   rw[Qbm,<-QjE k0]
   exact hk _
 refine (W27 m).en (have a0:=Qm (Yk x);(VN x<=19)/\(l.length+1<=1099511627776)/\cond (decide (VN x=17)) (((l++[SelD.mk (((QC (VN x) (Q1 x) (Q0 x) (Vq x) (Yu x) (Yt x) (Ys x) (Yr x) (Vp x) (Vr x)).1:Nat):Int) (((QC (VN x) (Q1 x) (Q0 x) (Vq x) (Yu x) (Yt x) (Ys x) (Yr x) (Vp x) (Vr x)).2.1:Nat):Int) ((QC (VN x) (Q1 x) (Q0 x) (Vq x) (Yu x) (Yt x) (Ys x) (Yr x) (Vp x) (Vr x)).2.2.1) ((QC (VN x) (Q1 x) (Q0 x) (Vq x) (Yu x) (Yt x) (Ys x) (Yr x) (Vp x) (Vr x)).2.2.2.1) ((QC (VN x) (Q1 x) (Q0 x) (Vq x) (Yu x) (Yt x) (Ys x) (Yr x) (Vp x) (Vr x)).2.2.2.2.1) ((QC (VN x) (Q1 x) (Q0 x) (Vq x) (Yu x) (Yt x) (Ys x) (Yr x) (Vp x) (Vr x)).2.2.2.2.2.1) (((QC (VN x) (Q1 x) (Q0 x) (Vq x) (Yu x) (Yt x) (Ys x) (Yr x) (Vp x) (Vr x)).2.2.2.2.2.2:Nat):Int) (0:Int)]).length+a0.length+1<=1000000000)/\(a0.length<=m)/\∀b1:Option SB,(((l++[SelD.mk (((QC (VN x) (Q1 x) (Q0 x) (Vq x) (Yu x) (Yt x) (Ys x) (Yr x) (Vp x) (Vr x)).1:Nat):Int) (((QC (VN x) (Q1 x) (Q0 x) (Vq x) (Yu x) (Yt x) (Ys x) (Yr x) (Vp x) (Vr x)).2.1:Nat):Int) ((QC (VN x) (Q1 x) (Q0 x) (Vq x) (Yu x) (Yt x) (Ys x) (Yr x) (Vp x) (Vr x)).2.2.1) ((QC (VN x) (Q1 x) (Q0 x) (Vq x) (Yu x) (Yt x) (Ys x) (Yr x) (Vp x) (Vr x)).2.2.2.1) ((QC (VN x) (Q1 x) (Q0 x) (Vq x) (Yu x) (Yt x) (Ys x) (Yr x) (Vp x) (Vr x)).2.2.2.2.1) ((QC (VN x) (Q1 x) (Q0 x) (Vq x) (Yu x) (Yt x) (Ys x) (Yr x) (Vp x) (Vr x)).2.2.2.2.2.1) (((QC (VN x) (Q1 x) (Q0 x) (Vq x) (Yu x) (Yt x) (Ys x) (Yr x) (Vp x) (Vr x)).2.2.2.2.2.2:Nat):Int) (0:Int)])++Ql Q4 a0).length<=1000000000)/\(l.length<((l++[SelD.mk (((QC (VN x) (Q1 x) (Q0 x) (Vq x) (Yu x) (Yt x) (Ys x) (Yr x) (Vp x) (Vr x)).1:Nat):Int) (((QC (VN x) (Q1 x) (Q0 x) (Vq x) (Yu x) (Yt x) (Ys x) (Yr x) (Vp x) (Vr x)).2.1:Nat):Int) ((QC (VN x) (Q1 x) (Q0 x) (Vq x) (Yu x) (Yt x) (Ys x) (Yr x) (Vp x) (Vr x)).2.2.1) ((QC (VN x) (Q1 x) (Q0 x) (Vq x) (Yu x) (Yt x) (Ys x) (Yr x) (Vp x) (Vr x)).2.2.2.1) ((QC (VN x) (Q1 x) (Q0 x) (Vq x) (Yu x) (Yt x) (Ys x) (Yr x) (Vp x) (Vr x)).2.2.2.2.1) ((QC (VN x) (Q1 x) (Q0 x) (Vq x) (Yu x) (Yt x) (Ys x) (Yr x) (Vp x) (Vr x)).2.2.2.2.2.1) (((QC (VN x) (Q1 x) (Q0 x) (Vq x) (Yu x) (Yt x) (Ys x) (Yr x) (Vp x) (Vr x)).2.2.2.2.2.2:Nat):Int) (0:Int)])++Ql Q4 a0).length)/\∀b2:Option SB,K (.row (.sels (QcA ((l++[SelD.mk (((QC (VN x) (Q1 x) (Q0 x) (Vq x) (Yu x) (Yt x) (Ys x) (Yr x) (Vp x) (Vr x)).1:Nat):Int) (((QC (VN x) (Q1 x) (Q0 x) (Vq x) (Yu x) (Yt x) (Ys x) (Yr x) (Vp x) (Vr x)).2.1:Nat):Int) ((QC (VN x) (Q1 x) (Q0 x) (Vq x) (Yu x) (Yt x) (Ys x) (Yr x) (Vp x) (Vr x)).2.2.1) ((QC (VN x) (Q1 x) (Q0 x) (Vq x) (Yu x) (Yt x) (Ys x) (Yr x) (Vp x) (Vr x)).2.2.2.1) ((QC (VN x) (Q1 x) (Q0 x) (Vq x) (Yu x) (Yt x) (Ys x) (Yr x) (Vp x) (Vr x)).2.2.2.2.1) ((QC (VN x) (Q1 x) (Q0 x) (Vq x) (Yu x) (Yt x) (Ys x) (Yr x) (Vp x) (Vr x)).2.2.2.2.2.1) (((QC (VN x) (Q1 x) (Q0 x) (Vq x) (Yu x) (Yt x) (Ys x) (Yr x) (Vp x) (Vr x)).2.2.2.2.2.2:Nat):Int) (0:Int)])++Ql Q4 a0) l.length))) none) ((W27 m).L K 7 (mkS 41 [(1,(.own 3)),(5,(.nat l.length)),(28,(.sl (.csels (Yk x)))),(29,(.nat ((Yk x).length))),(30,(.nat 0))] [(3,.row (.sels (l++[SelD.mk (((QC (VN x) (Q1 x) (Q0 x) (Vq x) (Yu x) (Yt x) (Ys x) (Yr x) (Vp x) (Vr x)).1:Nat):Int) (((QC (VN x) (Q1 x) (Q0 x) (Vq x) (Yu x) (Yt x) (Ys x) (Yr x) (Vp x) (Vr x)).2.1:Nat):Int) ((QC (VN x) (Q1 x) (Q0 x) (Vq x) (Yu x) (Yt x) (Ys x) (Yr x) (Vp x) (Vr x)).2.2.1) ((QC (VN x) (Q1 x) (Q0 x) (Vq x) (Yu x) (Yt x) (Ys x) (Yr x) (Vp x) (Vr x)).2.2.2.1) ((QC (VN x) (Q1 x) (Q0 x) (Vq x) (Yu x) (Yt x) (Ys x) (Yr x) (Vp x) (Vr x)).2.2.2.2.1) ((QC (VN x) (Q1 x) (Q0 x) (Vq x) (Yu x) (Yt x) (Ys x) (Yr x) (Vp x) (Vr x)).2.2.2.2.2.1) (((QC (VN x) (Q1 x) (Q0 x) (Vq x) (Yu x) (Yt x) (Ys x) (Yr x) (Vp x) (Vr x)).2.2.2.2.2.2:Nat):Int) (0:Int)])) true),(1,.blk 76 [(.nat (VN x)),(.str (Q1 x)),(.str (Q0 x)),(.str (Vq x)),(.int .i64 (Yu x)),(.int .i64 (Yt x)),(.bool (Ys x)),(.bool (Yr x)),(.bool (Vp x)),(.bool (Vr x)),(.sl (.csels (Yk x)))])] 4))) ?_
 refine UN (UN ?_)
 refine Qb ?_ ?_<;>intro h1<;>try simp[-zd,-ze]at h1
 refine UN (UN ?_)
 intro b1
 refine UN (UN ?_)
 intro b2
 refine (congrArg (fun q=>K (.row (.sels q)) _) ?_).mpr (hk _)
 rw[QgN h1,<-Ql4 x,zw]
 exact Qbm
 exact Wk.L.rn [0,3] (L7 _ 0 (l++[mkN (QC (VN x) (Q1 x) (Q0 x) (Vq x) (Yu x) (Yt x) (Ys x) (Yr x) (Vp x) (Vr x))]) rfl ⟨h1,by omega,by rw[Ql4];simp[Qm]⟩)
 exact hP.elim
end
section
open Go Go.RowKit
set_option maxRecDepth 20000
def IB (G:Nat->Option (List CSel×Nat)):Prop:=∀i v,G i=some v->(Qm v.1).length+2*i<=2*v.2+1
section
variable {G:Nat->Option (List CSel×Nat)} {s:Bs} {a:Bool}
theorem Qdu (l:List CSel) (x:CSel):(Qm (l++[x])).length=(Qm l).length+(Qj x).length:=by
 induction l with
 | nil=>simp[Qm]
 | cons y l ih=>simp[Qm,ih];omega
theorem Qce {i k:Nat} (h:Vu s i=some k):i<k:=by
 unfold Vu at h
 split at h
 cases h;have:=QQ s (i+1);omega
 cases h
theorem QaR {i k:Nat} (h:QT s i=some k):i<k:=by
 unfold QT at h
 split at h
 cases h;have:=QQ s i;omega
 cases h
theorem VL {α:Type} {c:Prop} [Decidable c] {p q:Option α} {x:α} {P:Prop} (h:(if c then p else q)=some x) (hp:p=some x->P) (hq:q=some x->P):P:=by
 by_cases hc:c
 rw[if_pos hc]at h;exact hp h
 rw[if_neg hc]at h;exact hq h
theorem Qkt {n:Bs} {x:CSel} (h:Jm n=some x):(Qj x).length=1:=by
 unfold Jm at h
 iterate 14 refine VL h (fun h=>by cases h;rfl) (fun h=>?_)
 cases h
theorem ps_b (hG:IB G) {i j:Nat} {x:CSel} {n:Bs} (h:iPs G s i=some (some x,n,j)) (hj:i<j):(Qj x).length+2*i<=2*j:=by
 unfold iPs at h
 split at h
 split at h
 cases h
 rename_i nm p hp
 split at h
 cases h
 have hlt:i+1<p:=by
  have:=(Law.iIdent_lt hp).1
  split at this<;>omega
 unfold VX at h
 split at h
 simp only[zi,Prod.mk.injEq,Option.some.injEq]at h
 obtain⟨⟨y,e⟩,h1,rfl,_,rfl⟩:=h
 unfold Y7 at h1
 split at h1
 cases h1
 rename_i k hk
 split at h1
 cases h1
 rename_i l m hg
 simp only[zi,Prod.mk.injEq]at h1
 obtain⟨e',h2,rfl,rfl⟩:=h1
 have h3:=hG _ _ hg
 have h4:=Qce hk
 have h5:=QaR h2
 simp only[Qj,Ql,zj]
 dsimp only at h3 ⊢
 omega
 split at h
 simp only[zi,Prod.mk.injEq,Option.some.injEq]at h
 obtain⟨⟨y,e⟩,h1,rfl,_,rfl⟩:=h
 have:(Qj y).length=1:=by
  unfold YY at h1
  split at h1
  cases h1
  split at h1
  split at h1
  cases h1
  simp only[zi,Prod.mk.injEq]at h1
  obtain⟨_,_,rfl,_⟩:=h1;rfl
  cases h1
 dsimp only at hj ⊢
 omega
 split at h
 simp only[zi,Prod.mk.injEq,Option.some.injEq]at h
 obtain⟨⟨y,e⟩,h1,rfl,_,rfl⟩:=h
 have:(Qj y).length=1:=by
  unfold YZ at h1
  split at h1
  cases h1
  split at h1
  cases h1
  simp only[zi,Prod.mk.injEq]at h1
  obtain⟨_,_,rfl,_⟩:=h1;rfl
 dsimp only at hj ⊢
 omega
 split at h
 simp only[zi,Prod.mk.injEq,Option.some.injEq]at h
 obtain⟨⟨y,e⟩,h1,rfl,_,rfl⟩:=h
 have:(Qj y).length=1:=by
  unfold Zf at h1
  split at h1
  cases h1
  split at h1
  split at h1
  cases h1
  simp only[zi,Prod.mk.injEq]at h1
  obtain⟨_,_,rfl,_⟩:=h1;rfl
  cases h1
 dsimp only at hj ⊢
 omega
 split at h
 rename_i y hy
 simp only[Option.some.injEq,Prod.mk.injEq]at h
 obtain⟨rfl,_,rfl⟩:=h
 have:=Qkt hy
 omega
 split at h
 simp at h
 cases h
 cases h
theorem QoT (hG:IB G) {i j:Nat} {x:CSel} {n:Bs} (h:Vd G s i=some (some x,n,j)) (hj:i<j):(Qj x).length+2*i<=2*j:=by
 unfold Vd at h
 split at h
 simp only[zi,Prod.mk.injEq,Option.some.injEq]at h
 obtain⟨⟨y,e⟩,_,rfl,_,rfl⟩:=h
 have:(Qj (CSel.idn y)).length=1:=rfl
 dsimp only at hj ⊢
 omega
 split at h
 simp only[zi,Prod.mk.injEq,Option.some.injEq]at h
 obtain⟨⟨y,e⟩,_,rfl,_,rfl⟩:=h
 have:(Qj (CSel.cls y)).length=1:=rfl
 dsimp only at hj ⊢
 omega
 split at h
 rw[QdZ]at h
 simp only[zi,Prod.mk.injEq,Option.some.injEq]at h
 obtain⟨_,⟨y,_,rfl⟩,rfl,_,rfl⟩:=h
 have:(Qj (attrOf y).1).length=1:=rfl
 omega
 exact ps_b hG h hj
theorem Qo4 (l:List CSel) (pe:Bs):(Qj (VT l pe)).length<=(Qm l).length+1:=by
 unfold VT
 split
 simp[Qm]
 simp[Qj,Ql]
theorem Qg3 (hG:IB G) {i0:Nat}:∀(n i:Nat) (l:List CSel) (pe:Bs),s.length-i=n->(Qm l).length+2*i0<=2*i->∀x m,QS G s a i l pe=some (x,m)->(Qj x).length+2*i0<=2*m+1:=by
 intro n
 induction n using zl with
 | _ n ih=>
  intro i l pe hn hl x m h
  rw[QS]at h
  split at h
  rename_i hc
  split at h
  cases h
  rename_i y nm j hy
  split at h
  rename_i hj
  split at h
  split at h
  exact ih _ (by omega) j l nm rfl (by omega) x m h
  cases h
  rename_i z
  have hb:=QoT hG hy hj
  split at h
  exact ih _ (by omega) j (l++[z]) pe rfl (by rw[Qdu];omega) x m h
  cases h
  cases h
  simp only[Option.some.injEq,Prod.mk.injEq]at h
  obtain⟨rfl,rfl⟩:=h
  have:=Qo4 l pe
  omega
theorem Qo1 (hG:IB G) {i:Nat} {x:CSel} {m:Nat} (h:V8 G s a i=some (x,m)):(Qj x).length+2*i<=2*m+1:=by
 unfold V8 at h
 split at h
 split at h
 exact Qg3 hG _ _ [] [] rfl (by simp only[Qm,zo];split<;>omega) x m h
 split at h
 exact Qg3 hG _ _ [] [] rfl (by simp[Qm]) x m h
 split at h
 cases h
 rename_i t j ht
 have:=(Law.iIdent_lt ht).1
 exact Qg3 hG _ _ _ [] rfl (by simp[Qm,Qj,Ql];omega) x m h
 cases h
theorem Qr1 (hG:IB G) {i0:Nat}:∀(n j:Nat) (x:CSel),s.length-j=n->(Qj x).length+2*i0<=2*j+1->∀y m,Q6 G s a x j=some (y,m)->(Qj y).length+2*i0<=2*m+1:=by
 intro n
 induction n using zl with
 | _ n ih=>
  intro j x hn hx y m h
  have w0:=QQ s j
  have w1:=QQ s (iWs s j+1)
  rw[Q6]at h
  split at h
  split at h
  split at h
  cases h
  rename_i z p hz
  split at h
  have:=Qo1 hG hz
  exact ih _ (by omega) p _ rfl (by simp only[Qj,Ql,zj,zh];omega) y m h
  cases h
  split at h
  simp only[Option.some.injEq,Prod.mk.injEq]at h
  obtain⟨rfl,rfl⟩:=h
  omega
  split at h
  cases h
  rename_i z p hz
  split at h
  have:=Qo1 hG hz
  exact ih _ (by omega) p _ rfl (by simp only[Qj,Ql,zj,zh];omega) y m h
  cases h
  simp only[Option.some.injEq,Prod.mk.injEq]at h
  obtain⟨rfl,rfl⟩:=h
  omega
theorem Qo7 (hG:IB G) {i:Nat} {x:CSel} {m:Nat} (h:YX G s a i=some (x,m)):(Qj x).length+2*i<=2*m+1:=by
 unfold YX at h
 split at h
 cases h
 rename_i y j hy
 have:=Qo1 hG hy
 have w0:=QQ s i
 exact Qr1 hG _ _ _ rfl (by omega) x m h
theorem Qs5 (hG:IB G) {i0:Nat}:∀(n j:Nat) (l:List CSel),s.length-j=n->(Qm l).length+2*i0<=2*j+1->∀v m,VM G s a l j=some (v,m)->(Qm v).length+2*i0<=2*m+1:=by
 intro n
 induction n using zl with
 | _ n ih=>
  intro j l hn hx v m h
  rw[VM]at h
  split at h
  split at h
  cases h
  rename_i z p hz
  split at h
  have:=Qo7 hG hz
  exact ih _ (by omega) p _ rfl (by rw[Qdu];omega) v m h
  cases h
  simp only[Option.some.injEq,Prod.mk.injEq]at h
  obtain⟨rfl,rfl⟩:=h
  omega
theorem Qmt:∀k,IB (Qw s a k)
 | 0=>fun i v h=>by simp[Qw]at h
 | k+1=>fun i v h=>by
  obtain⟨v,m⟩:=v
  rw[Qw]at h
  split at h
  cases h
  rename_i x j hx
  have:=Qo7 (Qmt k) hx
  exact Qs5 (Qmt k) _ _ _ rfl (by simp[Qm];omega) v m h
end
section
variable {G:Nat->Option (List CSel×Nat)} {s:Bs} {a:Bool}
theorem QaS {i k:Nat} (h:QT s i=some k):k<=s.length:=by
 unfold QT at h
 split at h
 cases h;omega
 cases h
theorem ps_le {i j:Nat} {x:Option CSel} {n:Bs} (h:iPs G s i=some (x,n,j)):j<=s.length:=by
 unfold iPs at h
 split at h
 split at h
 cases h
 rename_i nm p hp
 split at h
 cases h
 have hle:=(Law.iIdent_lt hp).2
 unfold VX at h
 split at h
 simp only[zi,Prod.mk.injEq]at h
 obtain⟨⟨y,e⟩,h1,_,_,rfl⟩:=h
 unfold Y7 at h1
 split at h1
 cases h1
 split at h1
 cases h1
 simp only[zi,Prod.mk.injEq]at h1
 obtain⟨e',h2,_,rfl⟩:=h1
 exact QaS h2
 split at h
 simp only[zi,Prod.mk.injEq]at h
 obtain⟨⟨y,e⟩,h1,_,_,rfl⟩:=h
 unfold YY at h1
 split at h1
 cases h1
 split at h1
 split at h1
 cases h1
 simp only[zi,Prod.mk.injEq]at h1
 obtain⟨e',h2,_,rfl⟩:=h1
 exact QaS h2
 cases h1
 split at h
 simp only[zi,Prod.mk.injEq]at h
 obtain⟨⟨y,e⟩,h1,_,_,rfl⟩:=h
 unfold YZ at h1
 split at h1
 cases h1
 split at h1
 cases h1
 simp only[zi,Prod.mk.injEq]at h1
 obtain⟨e',h2,_,rfl⟩:=h1
 exact QaS h2
 split at h
 simp only[zi,Prod.mk.injEq]at h
 obtain⟨⟨y,e⟩,h1,_,_,rfl⟩:=h
 unfold Zf at h1
 split at h1
 cases h1
 split at h1
 split at h1
 cases h1
 simp only[zi,Prod.mk.injEq]at h1
 obtain⟨e',h2,_,rfl⟩:=h1
 exact QaS h2
 cases h1
 split at h
 simp only[Option.some.injEq,Prod.mk.injEq]at h
 obtain⟨_,_,rfl⟩:=h
 exact hle
 split at h
 simp only[Option.some.injEq,Prod.mk.injEq]at h
 obtain⟨_,_,rfl⟩:=h
 exact hle
 cases h
 cases h
theorem aV_le {key op:Bs} {k:Nat} {v:(Bs×Bs×Bs×Bool)×Nat} (h:aV s key op k=some v):v.2<=s.length:=by
 unfold aV at h
 refine VL h (fun h=>?_) (fun h=>by cases h)
 split at h
 cases h
 rename_i val m hv
 unfold aW at h
 refine VL h (fun h=>?_) (fun h=>by cases h)
 unfold aE at h
 by_cases hc:iWs s (if bat s (iWs s m)=105\/bat s (iWs s m)=73 then iWs s m+1 else iWs s m)<s.length/\bat s (iWs s (if bat s (iWs s m)=105\/bat s (iWs s m)=73 then iWs s m+1 else iWs s m))=93/\op∈attrSigns
 rw[if_pos hc]at h
 cases h
 exact hc.1
 rw[if_neg hc]at h
 cases h
theorem QmY {i:Nat} {v:(Bs×Bs×Bs×Bool)×Nat} (h:Yo s i=some v):v.2<=s.length:=by
 unfold Yo at h
 split at h
 cases h
 split at h
 refine VL h (fun h=>?_) (fun h=>?_)
 cases h;simp only;omega
 exact VL h (fun h=>aV_le h) (fun h=>by cases h)
 cases h
theorem Qm8 {i j:Nat} {x:Option CSel} {n:Bs} (h:Vd G s i=some (x,n,j)):j<=s.length:=by
 unfold Vd at h
 split at h
 simp only[zi,Prod.mk.injEq]at h
 obtain⟨⟨y,e⟩,h1,_,_,rfl⟩:=h
 exact (Law.iName_lt h1).2
 split at h
 simp only[zi,Prod.mk.injEq]at h
 obtain⟨⟨y,e⟩,h1,_,_,rfl⟩:=h
 exact (Law.iIdent_lt h1).2
 split at h
 rw[QdZ]at h
 simp only[zi,Prod.mk.injEq]at h
 obtain⟨_,⟨y,h1,rfl⟩,_,_,rfl⟩:=h
 exact QmY h1
 exact ps_le h
theorem Qet:∀(n i:Nat) (l:List CSel) (pe:Bs),s.length-i=n->i<=s.length->∀x m,QS G s a i l pe=some (x,m)->m<=s.length:=by
 intro n
 induction n using zl with
 | _ n ih=>
  intro i l pe hn hl x m h
  rw[QS]at h
  split at h
  split at h
  cases h
  rename_i y nm j hy
  have hb:=Qm8 hy
  split at h
  rename_i hj
  split at h
  split at h
  exact ih _ (by omega) j l nm rfl hb x m h
  cases h
  split at h
  exact ih _ (by omega) j _ pe rfl hb x m h
  cases h
  cases h
  simp only[Option.some.injEq,Prod.mk.injEq]at h
  obtain⟨rfl,rfl⟩:=h
  exact hl
theorem Qj4 {i:Nat} {x:CSel} {m:Nat} (h:V8 G s a i=some (x,m)):m<=s.length:=by
 unfold V8 at h
 split at h
 split at h
 exact Qet _ _ [] [] rfl (by split<;>omega) x m h
 split at h
 exact Qet _ _ [] [] rfl (by omega) x m h
 split at h
 cases h
 rename_i t j ht
 exact Qet _ _ _ [] rfl (Law.iIdent_lt ht).2 x m h
 cases h
theorem Qpa:∀(n j:Nat) (x:CSel),s.length-j=n->j<=s.length->∀y m,Q6 G s a x j=some (y,m)->m<=s.length:=by
 intro n
 induction n using zl with
 | _ n ih=>
  intro j x hn hx y m h
  have w0:=Vw s j hx
  have w00:=QQ s j
  rw[Q6]at h
  split at h
  split at h
  split at h
  cases h
  rename_i z p hz
  split at h
  exact ih _ (by omega) p _ rfl (Qj4 hz) y m h
  cases h
  split at h
  simp only[Option.some.injEq,Prod.mk.injEq]at h
  obtain⟨rfl,rfl⟩:=h
  exact w0
  split at h
  cases h
  rename_i z p hz
  split at h
  exact ih _ (by omega) p _ rfl (Qj4 hz) y m h
  cases h
  simp only[Option.some.injEq,Prod.mk.injEq]at h
  obtain⟨rfl,rfl⟩:=h
  exact w0
theorem Qg5 {i:Nat} {x:CSel} {m:Nat} (h:YX G s a i=some (x,m)):m<=s.length:=by
 unfold YX at h
 split at h
 cases h
 rename_i y j hy
 exact Qpa _ _ _ rfl (Qj4 hy) x m h
theorem QqR:∀(n j:Nat) (l:List CSel),s.length-j=n->j<=s.length->∀v m,VM G s a l j=some (v,m)->m<=s.length:=by
 intro n
 induction n using zl with
 | _ n ih=>
  intro j l hn hx v m h
  rw[VM]at h
  split at h
  split at h
  cases h
  rename_i z p hz
  split at h
  exact ih _ (by omega) p _ rfl (Qg5 hz) v m h
  cases h
  simp only[Option.some.injEq,Prod.mk.injEq]at h
  obtain⟨rfl,rfl⟩:=h
  exact hx
theorem QqQ:∀{k i:Nat} {v:List CSel×Nat},Qw s a k i=some v->v.2<=s.length
 | 0,i,v,h=>by simp[Qw]at h
 | k+1,i,v,h=>by
  obtain⟨v,m⟩:=v
  rw[Qw]at h
  split at h
  cases h
  rename_i x j hx
  exact QqR _ _ _ rfl (Qg5 hx) v m h
theorem QaM {s:Bs} {many p:Bool} {l:List CSel} (h:QV s many p=some l):(QG many l).length<=2*s.length+2:=by
 unfold QV at h
 split at h
 rename_i hm
 split at h
 rename_i l' j hg
 split at h
 cases h
 cases h
 have h1:=Qmt 1001 _ _ hg
 have h2:=QqQ hg
 unfold QG
 rw[if_pos hm]
 simp only[Ql,zj]
 dsimp only at h1 h2
 omega
 cases h
 rename_i hm
 split at h
 rename_i x j hg
 split at h
 cases h
 cases h
 have h1:=Qo7 (Qmt 1001) hg
 have h2:=Qg5 hg
 unfold QG
 rw[if_neg hm]
 simp only[List.headD_cons]
 omega
 cases h
end
theorem QfI {many:Bool} {a b:List SelD} (h:Law.Alike many a b):(0<a.length/\0<b.length)/\Ye (VP a)/\Ye (VP b)/\Qdi (VP a) (VP b)=true:=by
 obtain⟨A,B,rfl,rfl,h1,h2,h3,_⟩:=h
 have hd:∀T:ST,(T.flat.getD 0 default).kind=T.node.kind:=by
  intro T
  cases T with
  | mk x ks=>simp[ST.flat,Ql,ST.node]
 have pos:∀T:ST,0<T.flat.length:=by
  intro T
  cases T with
  | mk x ks=>simp[ST.flat,Ql]
 have one:∀T:ST,Qi Q4 T.flat=(ST.mk Q4 [T]).flat:=by
  intro T
  simp[Qi,ST.flat,ST.flats]
 refine⟨⟨pos A,pos B⟩,?_⟩
 unfold VP
 rw[hd,hd]
 cases many with
 | true=>
  rw[if_pos (h2.2 rfl),if_pos (h3.2 rfl)]
  refine⟨⟨A,rfl⟩,⟨B,rfl⟩,?_⟩
  unfold Qdi
  rw[Ye.normed,Ye.normed,h1]
  exact QbJ _
 | false=>
  rw[if_neg (fun q=>by cases h2.1 q),if_neg (fun q=>by cases h3.1 q),one,one]
  refine⟨⟨_,rfl⟩,⟨_,rfl⟩,?_⟩
  unfold Qdi
  rw[Ye.normed,Ye.normed]
  have:(ST.mk Q4 [A]).norm=(ST.mk Q4 [B]).norm:=by simp only[ST.norm,ST.norms,h1]
  rw[this]
  exact QbJ _
theorem Qdj {s:Bs} {many p:Bool} (h:s.length<=1000):(QX s many p).1.length<=100000000:=by
 unfold QX
 split
 have a:=Qhc (c:=3*(s.length+1)+8) (by omega) (Za s p (s.length+1)) p many p ⟨0,false,false⟩ (zO _)
 have d:(3*(s.length+1)+8+3)*(VI (Qq s p (s.length+1)) s p many p ⟨0,false,false⟩).2.p<=4000*1001:=Nat.mul_le_mul (by omega) (by have:=a.1.2;omega)
 have b:=a.2
 simp only
 split
 simp
 simp only
 split
 omega
 simp only[zP,zR];omega
 simp
end
section
open Go Go.RowKit
set_option maxRecDepth 20000
theorem Qg8:∀m,Sat 27 (c27 m)/\Sat 26 (c26 m)
 | 0=>by
  have h:Sat 27 (c27 0):=by
   intro g0 w M ω svs args b K hS hn hr hP
   unfold c27 at hP
   split at hP
   rename_i x l
   have:=Qfj x
   omega
   exact hP.elim
  exact⟨h,QtO 0 h⟩
 | m+1=>by
  obtain⟨h1,h2⟩:=Qg8 m
  have h:Sat 27 (c27 (m+1)):=QuE m h2 h1
  exact⟨h,QtO (m+1) h⟩
theorem Qso {s:Bs} {p:Bool} {v:List CSel} (h:QV s true p=some v):(Qm v).length<=2*s.length+2:=by
 have:=QaM h
 simp only[QG,if_true,Ql,zj]at this
 omega
theorem Ql1 {s:Bs} {p:Bool} {v:List CSel} (h:QV s false p=some v):(Qj (v.headD default)).length<=2*s.length+2:=by
 have:=QaM h
 exact this
def c11 (svs:List SV) (b:Option SB) (K:Out->Option SB->Prop):Prop:=match svs,b with
 | [.str s,.bool m,.bool p],none=>s.length<=1000000/\Qt (QV s m p) (fun v=>K (.val (.tup [.sl (.sels (QG m v)),.bool true])) none) (K (.val (.tup [.sl (.sels []),.bool false])) none)
 | _,_=>False
noncomputable def W11:Wk:=⟨[(25,.plain c25),(26,.own 22 (c26 10000000)),(27,.own 22 (c27 10000000))],Qe Tryz.f11,false,false,[.tmp 6,.tmp 7],[22,4],[],[]⟩
theorem has11:Has 11:=hsf Tryz.f11
theorem QeQ {p q:Prop} (k:q) (h:p:=by first | omega | (simp;done) | (have q:=Qso h2;omega) | (have q:=Ql1 h2;show (Qj (v2.headD default)).length<=_;omega) | (have q:=Ql1 h2;show 0+(Qj (v2.headD default)).length<=_;omega) | exact absurd (h1.symm.trans h3) (by decide)):p/\q:=⟨h,k⟩
theorem sat11:Sat 11 c11:=by
 have hD:Qa W11.D:=(Qa.cons Que QtP (Qa.cons Qud (Qg8 10000000).2 (Qa.cons QqG (Qg8 10000000).1 Qa.nil)))
 refine W11.sa hD Tryz.f11 fun svs b K hP=>?_
 unfold c11 at hP
 split at hP
 rename_i s m p
 obtain⟨h01,hk⟩:=hP
 refine W11.en (have a0:Out:=.val (.tup [(.sl (.sels [])),(.bool false)]);(s.length<=1000000)/\cond m (Qt (QV s true p) (fun v1=>cond m ((0+(Qm v1).length+1<=1000000000)/\((Qm v1).length<=10000000)/\∀b3:Option SB,K (.val (.tup [(.sl (.sels ([]++Ql Q4 (Qm v1)))),(.bool true)])) none) ((0<v1.length)/\(0+(Qj (v1.getD 0 default)).length<=1000000000)/\((Qj (v1.getD 0 default)).length<=10000000)/\∀b4:Option SB,K (.val (.tup [(.sl (.sels ([]++Qj (v1.getD 0 default)))),(.bool true)])) none)) (K a0 none)) (Qt (QV s false p) (fun v2=>cond m ((0+(Qm [v2.headD default]).length+1<=1000000000)/\((Qm [v2.headD default]).length<=10000000)/\∀b5:Option SB,K (.val (.tup [(.sl (.sels ([]++Ql Q4 (Qm [v2.headD default])))),(.bool true)])) none) ((0<1)/\(0+(Qj (([v2.headD default]:List CSel).getD 0 default)).length<=1000000000)/\((Qj (([v2.headD default]:List CSel).getD 0 default)).length<=10000000)/\∀b6:Option SB,K (.val (.tup [(.sl (.sels ([]++Qj (([v2.headD default]:List CSel).getD 0 default)))),(.bool true)])) none)) (K a0 none))) ?_
 refine QeQ ?_
 refine Qb ?_ ?_<;>intro h1<;>try simp[-zd,-ze]at h1
 refine QJ (fun v1 h2=>?_) (fun h2=>?_)
 refine Qb ?_ ?_<;>intro h3<;>try simp[-zd,-ze]at h3
 refine QeQ (QeQ ?_)
 intro b3
 subst h1
 have q:=Qd hk h2
 exact q
 refine QeQ (QeQ (QeQ ?_))
 intro b4
 exact absurd (h1.symm.trans h3) (by decide)
 subst h1
 exact Qc hk h2
 refine QJ (fun v2 h2=>?_) (fun h2=>?_)
 refine Qb ?_ ?_<;>intro h3<;>try simp[-zd,-ze]at h3
 refine QeQ (QeQ ?_)
 intro b5
 exact absurd (h1.symm.trans h3) (by decide)
 refine QeQ (QeQ (QeQ ?_))
 intro b6
 subst h1
 have q:=Qd hk h2
 exact q
 subst h1
 exact Qc hk h2
 exact hP.elim
theorem QgE (l:List SelD):(VP l).length<=l.length+1:=by
 unfold VP
 split
 omega
 simp[Qi,Ql]
theorem QnV {s:Bs} {m p:Bool} {v:List CSel} (h2:s.length<=1000) (h3:(QX s m p).2.2=true) (h4:QV s m p=some v) :
 (QX s m p).2.1=true/\(0<(QG m v).length/\(QG m v).length<=100000)/\(0<(QX s m p).1.length/\(QX s m p).1.length<=100000000) /\
 Ye (VP (QG m v))/\Ye (VP (QX s m p).1)/\Qdi (VP (QG m v)) (VP (QX s m p).1)=true /\
 (VP (QG m v)).length<=1000000000/\(VP (QX s m p).1).length<=1000000000:=by
 rcases Law.parse_sim s m p h2 h3 with ⟨l,h5,h6,h7⟩ | ⟨h5,_⟩
 rw[h4]at h5
 cases h5
 obtain⟨⟨k1,k2⟩,k3,k4,k5⟩:=QfI h7
 have k6:=QaM h4
 have k7:=Qdj (many:=m) (p:=p) h2
 have k8:=QgE (QG m v)
 have k9:=QgE (QX s m p).1
 exact⟨h6,⟨k1,by omega⟩,⟨k2,k7⟩,k3,k4,k5,by omega,by omega⟩
 rw[h4]at h5;cases h5
def c3 (svs:List SV) (b:Option SB) (K:Out->Option SB->Prop):Prop:=match svs,b with
 | [.str s,.bool m,.bool p],none=>s.length<=9223372036854775807/\K (.val (.bool true)) none
 | _,_=>False
end
end Go.Proofs.YtengepcafdnalaaGreatDoor
