/-
  Parts of the proof that the law FnPrintBack holds for every input (texts Kr, Kt, Ku, Kv, Kw, Ks, Kx). Conditions: none.
-/
import Derived.Test.YtengepcafdnalaaGreatDoorM24
import Derived.Shelf.Strconv.AtoiAll
import Derived.Shelf.Strings.Repeat
import Derived.Lib.AtoiErrMem
namespace Go.Proofs.YtengepcafdnalaaGreatDoor
open _root_.Bool renaming and_eq_true → zk
open _root_.List renaming getD_eq_getElem?_getD → zd, length_append → zh, drop_eq_nil_iff → xv, append_assoc → zw, length_drop → zR, mem_cons → zu, getElem?_cons_zero → zB, length_cons → zj, take_add_one → zU, getElem?_eq_getElem → zg, take_length → xg, drop_eq_getElem_cons → zI, foldl_cons → xi, take_of_length_le → zS, replicate → zM
open _root_.Nat renaming strongRecOn → zl, mul_le_mul_left → zz, zero_le → zO, le_refl → zm
open Go.Proofs.Tryz renaming prog → zf, underlying4 → xm
open _root_.UInt8 renaming toNat_add → xf
section
open Go Go.RowKit
set_option maxRecDepth 20000
theorem QgJ {a b:List SelD}:[a,b].flatten.length=a.length+b.length:=by simp
def cpxM (s:Bs) (t:RS):Nat:=if t.bad=true then 0 else s.length+2-t.p
structure Cpx3 (s:Bs) (ps pseudo:Bool) (m:Nat) (t0 t:RS) (left:List SelD):Prop where
 up:Up s t0 t
 n5:left.length<=(3*(m+1)+11)*t.p+5
 n2:t.bad=false->left.length<=(3*(m+1)+11)*t.p+2
 lf:Lf left
 e:Yh (Qq s ps (m+1)) s ps pseudo t0=VU (Qq s ps (m+1)) s ps pseudo t left
def c42 (m:Nat) (svs:List SV) (b:Option SB):FR:=match svs,b with
 | [.ptr 0 0,.bool pseudo],some (.blk 46 [.str s,.nat p,.bool bad,.bool un,.bool ps])=>some ([s.length<=100000,p<=s.length+1,s.length<=m+p,m<=200000],.row (.sels (Yh (Qq s ps (m+1)) s ps pseudo ⟨p,bad,un⟩).1),some (.blk 46 [.str s,.nat (Yh (Qq s ps (m+1)) s ps pseudo ⟨p,bad,un⟩).2.p,.bool (Yh (Qq s ps (m+1)) s ps pseudo ⟨p,bad,un⟩).2.bad,.bool (Yh (Qq s ps (m+1)) s ps pseudo ⟨p,bad,un⟩).2.un,.bool ps]))
 | _,_=>none
noncomputable def W42 (m:Nat):Wk:=⟨[(29,.fn c29),(64,.fn c64),(65,.fn (c65 m)),(66,.pure c66),(67,.pure c67),(68,.fn c68)],Qe Tryz.f42,true,true,[.tmp 4],[22],[(3,35),(21,163)],[21]⟩
theorem has42:Has 42:=hsf Tryz.f42
theorem krz3 {c0 p0 p1 p2 q:Prop} (k:q) (h:c0->p0/\p1/\p2/\True:=by intro g0;(try simp at g0);exact⟨(by first | omega | (simp;done) | exact k1.lf.2 g0 | exact k1.lf.2 g1 | (rw[QgJ];omega) | (simp;omega) | (have:=QZ (s:=s) (p:=(sSp s t).p) (by omega);omega) | (have:=QZ (s:=s) (p:=(sSp s t).p) (by omega);exact QB s _ (by show _+1<=_;omega)) | (simp[h1];done) | exact (QF s ⟨p,bad,un⟩ h02).2 | (have u0:=QF s ⟨p,bad,un⟩ h02;have u9:=u0.1;have u8:=u0.2;simp only at u9;omega)),(by first | omega | (simp;done) | exact k1.lf.2 g0 | exact k1.lf.2 g1 | (rw[QgJ];omega) | (simp;omega) | (have:=QZ (s:=s) (p:=(sSp s t).p) (by omega);omega) | (have:=QZ (s:=s) (p:=(sSp s t).p) (by omega);exact QB s _ (by show _+1<=_;omega)) | (simp[h1];done) | exact (QF s ⟨p,bad,un⟩ h02).2 | (have u0:=QF s ⟨p,bad,un⟩ h02;have u9:=u0.1;have u8:=u0.2;simp only at u9;omega)),(by first | omega | (simp;done) | exact k1.lf.2 g0 | exact k1.lf.2 g1 | (rw[QgJ];omega) | (simp;omega) | (have:=QZ (s:=s) (p:=(sSp s t).p) (by omega);omega) | (have:=QZ (s:=s) (p:=(sSp s t).p) (by omega);exact QB s _ (by show _+1<=_;omega)) | (simp[h1];done) | exact (QF s ⟨p,bad,un⟩ h02).2 | (have u0:=QF s ⟨p,bad,un⟩ h02;have u9:=u0.1;have u8:=u0.2;simp only at u9;omega)),trivial⟩):(c0->p0/\p1/\p2/\True)/\q:=⟨h,k⟩
theorem krz2 {c0 c1 p0 q:Prop} (k:q) (h:c0->c1->p0/\True:=by intro g0 g1;(try simp at g0);(try simp at g1);exact⟨(by first | omega | (simp;done) | exact k1.lf.2 g0 | exact k1.lf.2 g1 | (rw[QgJ];omega) | (simp;omega) | (have:=QZ (s:=s) (p:=(sSp s t).p) (by omega);omega) | (have:=QZ (s:=s) (p:=(sSp s t).p) (by omega);exact QB s _ (by show _+1<=_;omega)) | (simp[h1];done) | exact (QF s ⟨p,bad,un⟩ h02).2 | (have u0:=QF s ⟨p,bad,un⟩ h02;have u9:=u0.1;have u8:=u0.2;simp only at u9;omega)),trivial⟩):(c0->c1->p0/\True)/\q:=⟨h,k⟩
theorem krz1 {c0 p0 q:Prop} (k:q) (h:c0->p0/\True:=by intro g0;(try simp at g0);exact⟨(by first | omega | (simp;done) | exact k1.lf.2 g0 | exact k1.lf.2 g1 | (rw[QgJ];omega) | (simp;omega) | (have:=QZ (s:=s) (p:=(sSp s t).p) (by omega);omega) | (have:=QZ (s:=s) (p:=(sSp s t).p) (by omega);exact QB s _ (by show _+1<=_;omega)) | (simp[h1];done) | exact (QF s ⟨p,bad,un⟩ h02).2 | (have u0:=QF s ⟨p,bad,un⟩ h02;have u9:=u0.1;have u8:=u0.2;simp only at u9;omega)),trivial⟩):(c0->p0/\True)/\q:=⟨h,k⟩
theorem ZR {p q:Prop} (k:q) (h:p:=by first | omega | (simp;done) | exact k1.lf.2 g0 | exact k1.lf.2 g1 | (rw[QgJ];omega) | (simp;omega) | (have:=QZ (s:=s) (p:=(sSp s t).p) (by omega);omega) | (have:=QZ (s:=s) (p:=(sSp s t).p) (by omega);exact QB s _ (by show _+1<=_;omega)) | (simp[h1];done) | exact (QF s ⟨p,bad,un⟩ h02).2 | (have u0:=QF s ⟨p,bad,un⟩ h02;have u9:=u0.1;have u8:=u0.2;simp only at u9;omega)):p/\q:=⟨h,k⟩
theorem sat42 (m:Nat) (hG:Sat 23 (fnS (c23 m))):Sat 42 (fnS (c42 m)):=by
 have hD:Qa (W42 m).D:=(Qa.cons Qcm QbW (Qa.cons Qms QlK (Qa.cons has65 (sat65 m hG) (Qa.cons JO JJ (Qa.cons has67 sat67 (Qa.cons Qjv QiG Qa.nil))))))
 refine (W42 m).sa hD Tryz.f42 fun svs b K hP=>?_
 obtain⟨ps,o,b',e,hp,hk⟩:=Vy hP
 unfold c42 at e
 split at e
 rename_i pseudo s p bad un ps
 cases e
 obtain⟨h01,h02,h03,h04,_⟩:=hp
 have L21:∀(mm:Nat) (op:Nat) (left:List SelD) (t:RS),0=mm->(Cpx3 s ps pseudo m ⟨p,bad,un⟩ t left/\t.bad=false/\(op:Int)=J8 s t/\¬JS s t/\∀t' left',cpxM s t'<cpxM s t->Cpx3 s ps pseudo m ⟨p,bad,un⟩ t' left'->(W42 m).L K 3 (mkS 103 [(0,(.ptr 0 0)),(1,(.bool pseudo)),(5,(.own 1))] [(1,.row (.sels left') true),(0,.blk 46 [(.str s),(.nat t'.p),(.bool t'.bad),(.bool t'.un),(.bool ps)])] 2))->(W42 m).C K 21 (mkS 103 [(0,(.ptr 0 0)),(1,(.bool pseudo)),(5,(.sl (.sels left))),(7,(.nat op))] [(0,.blk 46 [(.str s),(.nat ((VA s t).p)),(.bool ((VA s t).bad)),(.bool ((VA s t).un)),(.bool ps)])] 1):=by
  intro mm
  induction mm using zl with
  | _ mm ih=>
   intro op left t hm hI
   obtain⟨k1,k2,k3,k4,ih3⟩:=hI
   have u:=k1.up
   have u2:=u.trans (Qcs u.2)
   have k6:p<=(VA s t).p:=u2.1
   have k7:(VA s t).p<=s.length+1:=u2.2
   have z1:=k1.lf.1.1
   have kn:=k1.n2 k2
   have kc:(3*(m+1)+11)*t.p<=700011*100001:=Nat.mul_le_mul (by omega) (by have:=u.2;omega)
   have kr:=Qey (c:=3*(m+1)+8) (by omega) (Za s ps (m+1)) ps pseudo (VA s t) u2.2
   have kr2:(3*(m+1)+8)*(VB (Qq s ps (m+1)) s ps pseudo (VA s t)).2.p<=700011*100001:=Nat.mul_le_mul (by omega) (by have:=kr.1.2;omega)
   have kr3:=kr.2
   refine (W42 m).aC hD (have a0:=VB (Qq s ps (m+1)) s ps pseudo (VA s t);have a1:=(decide ((left.getD 0 default).kind=(21:Int)))&&(!(decide ((left.getD 0 default).val=[])));have a2:=decide ((left.getD 0 default).kind=(22:Int));(0<left.length)/\((decide ((left.getD 0 default).kind=(21:Int)))=true->(0<left.length)/\True)/\(a1=false->(0<left.length)/\True)/\(a1=false->a2=true->(∃n a c,LastOk left n a c)/\True)/\cond (a1||(a2&&(!(decide (JM left (left.length+1) 0=[]))))) (K (.row (.sels failL)) (some (.blk 46 [(.str s),(.nat ((VA s t).p)),(.bool true),(.bool true),(.bool ps)]))) ((s.length<=100000)/\((VA s t).p<=s.length+1)/\(s.length<=m+(VA s t).p)/\(m<=200000)/\(([left,a0.1]:List (List SelD)).length<=1000000000)/\(([left,a0.1]:List (List SelD)).flatten.length<=1000000000000)/\(W42 m).L K 3 (mkS 103 [(0,(.ptr 0 0)),(1,(.bool pseudo)),(5,(.own 3))] [(3,.row (.sels (Qi (SelD.mk (22:Int) ((op:Nat):Int) [] [] (0:Int) (0:Int) (0:Int) (0:Int)) ([left,a0.1]:List (List SelD)).flatten)) true),(0,.blk 46 [(.str s),(.nat (a0.2.p)),(.bool (a0.2.bad)),(.bool (a0.2.un)),(.bool ps)])] 4))) ?_
   refine ZR (krz1 (krz1 (krz2 ?_)))
   refine Qb ?_ ?_<;>intro h1<;>try simp[-zd]at h1
   refine V7 hk (k1.e.trans ((Qnt k2 k4 ?_).trans ?_))
   unfold Qc2
   simp[-zd]
   exact h1
   simp[RS.unI,RS.no]
   refine ZR (ZR (ZR (ZR (ZR (ZR ?_)))))
   have hpe:Qc2 left=false:=by
    unfold Qc2
    simp[-zd]
    exact h1
   have st:=QiL (c:=(3*(m+1)+8)) (ps:=ps) (pseudo:=pseudo) (by omega) (Za s ps (m+1)) u.2 k2 k4 hpe
   have hC:∀x,(3*(m+1)+11)*x=(3*(m+1)+8)*x+3*x:=fun x=>by rw[<-Nat.add_mul]
   have q1:=zz (3*(m+1)+8) (Qcs (s:=s) u.2).1
   have q2:=kr.2
   have q3:=((Qcs (s:=s) u.2).trans kr.1).1
   have q4:=hC t.p
   have q5:=hC (VB (Qq s ps (m+1)) s ps pseudo (VA s t)).2.p
   have q6:(Qi ⟨22,J8 s t,[],[],0,0,0,0⟩ (left++(VB (Qq s ps (m+1)) s ps pseudo (VA s t)).1)).length=left.length+(VB (Qq s ps (m+1)) s ps pseudo (VA s t)).1.length+1:=by simp[Qi,Ql]
   rw[show ([left,(VB (Qq s ps (m+1)) s ps pseudo (VA s t)).1]:List (List SelD)).flatten=left++(VB (Qq s ps (m+1)) s ps pseudo (VA s t)).1 from by simp,k3]
   exact Wk.L.rn [0,3] (ih3 (VB (Qq s ps (m+1)) s ps pseudo (VA s t)).2 (Qi ⟨22,J8 s t,[],[],0,0,0,0⟩ (left++(VB (Qq s ps (m+1)) s ps pseudo (VA s t)).1)) (by
    unfold cpxM
    rw[k2]
    rcases st.2 with q | q
    rw[q];simp;have:=u.2;omega
    split
    simp;have:=u.2;omega
    simp;have:=u.2;omega) ⟨u2.trans kr.1,by rw[q6];omega,fun q=>by
    rcases st.2 with q' | q'
    rw[q]at q';cases q'
    rw[q6];omega,Lf.comb k1.lf (Qhd _) (by omega),k1.e.trans st.1⟩)
 have L3:∀(mm:Nat) (t:RS) (left:List SelD),cpxM s t=mm->(Cpx3 s ps pseudo m ⟨p,bad,un⟩ t left)->(W42 m).L K 3 (mkS 103 [(0,(.ptr 0 0)),(1,(.bool pseudo)),(5,(.own 1))] [(1,.row (.sels left) true),(0,.blk 46 [(.str s),(.nat t.p),(.bool t.bad),(.bool t.un),(.bool ps)])] 2):=by
  intro mm
  induction mm using zl with
  | _ mm ih=>
   intro t left hm hI
   have u:=hI.up
   have u1:=QF s t u.2
   have k6:p<=t.p:=u.1
   have k7:t.p<=s.length+1:=u.2
   have k8:=u1.1
   have k9:=u1.2
   have z1:=hI.lf.1.1
   refine (W42 m).aL hD (have a0:=sSp s (RS.mk ((sSp s t).p+1) ((sSp s t).bad) ((sSp s t).un));have a2:=decide (s.length<=(sSp s t).p);have a1:=a2||(decide (bat s ((sSp s t).p)=44));have a3:=s.length<=1000000;have a4:Option SB:=some (.blk 46 [(.str s),(.nat ((sSp s t).p)),(.bool ((sSp s t).bad)),(.bool ((sSp s t).un)),(.bool ps)]);have a5:=(sSp s t).p+1<=9223372036854775807;have a6:=(sSp s t).p+1<=s.length+1;have a7:=(sSp s t).p<=s.length+1;cond (!t.bad) (a3/\(t.p<=s.length+1)/\a3/\a7/\cond (decide (bat s ((sSp s t).p)=62)) (a5/\a3/\a6/\(W42 m).C K 21 (mkS 103 [(0,(.ptr 0 0)),(1,(.bool pseudo)),(5,(.own 1)),(7,(.nat 2))] [(1,.row (.sels left) true),(0,.blk 46 [(.str s),(.nat (a0.p)),(.bool (a0.bad)),(.bool (a0.un)),(.bool ps)])] 2)) (cond (decide (bat s ((sSp s t).p)=43)) (a5/\a3/\a6/\(W42 m).C K 21 (mkS 103 [(0,(.ptr 0 0)),(1,(.bool pseudo)),(5,(.own 1)),(7,(.nat 3))] [(1,.row (.sels left) true),(0,.blk 46 [(.str s),(.nat (a0.p)),(.bool (a0.bad)),(.bool (a0.un)),(.bool ps)])] 2)) (cond (decide (bat s ((sSp s t).p)=126)) (a5/\a3/\a6/\(W42 m).C K 21 (mkS 103 [(0,(.ptr 0 0)),(1,(.bool pseudo)),(5,(.own 1)),(7,(.nat 4))] [(1,.row (.sels left) true),(0,.blk 46 [(.str s),(.nat (a0.p)),(.bool (a0.bad)),(.bool (a0.un)),(.bool ps)])] 2)) ((a2=false->((a2==false)=true)/\a3/\a7/\True)/\(a2=false->((a2==false)=true)/\True)/\(a2=false->(a2==false)=true)/\(a1=false->((a1==false)=true)/\a3/\a7/\True)/\(a1=false->((a1==false)=true)/\True)/\(a1=false->(a1==false)=true)/\cond (a1||(decide (bat s ((sSp s t).p)=41))) (K (.row (.sels left)) a4) (cond (decide (t.p<(sSp s t).p)) ((W42 m).C K 21 (mkS 103 [(0,(.ptr 0 0)),(1,(.bool pseudo)),(5,(.own 1)),(7,(.nat 1))] [(1,.row (.sels left) true),(0,.blk 46 [(.str s),(.nat ((sSp s t).p)),(.bool ((sSp s t).bad)),(.bool ((sSp s t).un)),(.bool ps)])] 2)) (K (.row (.sels left)) a4)))))) (K (.row (.sels left)) (some (.blk 46 [(.str s),(.nat t.p),(.bool t.bad),(.bool t.un),(.bool ps)])))) ?_
   refine Qb ?_ ?_<;>intro h1<;>try simp[-zd]at h1
   refine ZR (ZR (ZR (ZR ?_)))
   refine Qb ?_ ?_<;>intro h2<;>try simp[-zd]at h2
   refine ZR (ZR (ZR ?_))
   have hz:Va (bat s (sSp s t).p)=2:=by unfold Va;rw[if_pos h2]
   have e2:VA s t=sSp s ((sSp s t).go ((sSp s t).p+1)):=by unfold VA;rw[hz];rfl
   have ho:((2:Nat):Int)=J8 s t:=by unfold J8;rw[hz];rfl
   have hn:¬JS s t:=by
    rintro⟨q1,q2⟩
    rw[hz]at q1;cases q1
   have ih9:=L21 _ 2 left t rfl ⟨hI,h1,ho,hn,fun t' left' hlt h'=>ih _ (by omega) t' left' rfl h'⟩
   rw[e2]at ih9
   exact Wk.C.le (V9.pub 1 (b:=.row (.sels left) true) (by kernel_rfl)) (Wk.C.rn [0] (ih9))
   refine Qb (fun h3=>?_) (fun h3=>?_)
   try simp[-zd]at h3
   refine ZR (ZR (ZR ?_))
   have hz:Va (bat s (sSp s t).p)=3:=by unfold Va;rw[if_neg h2,if_pos h3]
   have e2:VA s t=sSp s ((sSp s t).go ((sSp s t).p+1)):=by unfold VA;rw[hz];rfl
   have ho:((3:Nat):Int)=J8 s t:=by unfold J8;rw[hz];rfl
   have hn:¬JS s t:=by
    rintro⟨q1,q2⟩
    rw[hz]at q1;cases q1
   have ih9:=L21 _ 3 left t rfl ⟨hI,h1,ho,hn,fun t' left' hlt h'=>ih _ (by omega) t' left' rfl h'⟩
   rw[e2]at ih9
   exact Wk.C.le (V9.pub 1 (b:=.row (.sels left) true) (by kernel_rfl)) (Wk.C.rn [0] (ih9))
   try simp[-zd]at h3
   refine Qb ?_ ?_<;>intro h4<;>try simp[-zd]at h4
   refine ZR (ZR (ZR ?_))
   have hz:Va (bat s (sSp s t).p)=4:=by unfold Va;rw[if_neg h2,if_neg h3,if_pos h4]
   have e2:VA s t=sSp s ((sSp s t).go ((sSp s t).p+1)):=by unfold VA;rw[hz];rfl
   have ho:((4:Nat):Int)=J8 s t:=by unfold J8;rw[hz];rfl
   have hn:¬JS s t:=by
    rintro⟨q1,q2⟩
    rw[hz]at q1;cases q1
   have ih9:=L21 _ 4 left t rfl ⟨hI,h1,ho,hn,fun t' left' hlt h'=>ih _ (by omega) t' left' rfl h'⟩
   rw[e2]at ih9
   exact Wk.C.le (V9.pub 1 (b:=.row (.sels left) true) (by kernel_rfl)) (Wk.C.rn [0] (ih9))
   refine krz3 (krz1 (ZR (krz3 (krz1 (ZR ?_)))))
   refine Qb ?_ ?_<;>intro h5<;>try simp[-zd]at h5
   exact V7 hk (hI.e.trans ((Qev h1 ⟨by unfold Va;rw[if_neg h2,if_neg h3,if_neg h4],by omega⟩).trans rfl))
   refine Qb (fun h6=>?_) (fun h6=>?_)
   try simp[-zd]at h6
   have hz:Va (bat s (sSp s t).p)=0:=by unfold Va;rw[if_neg h2,if_neg h3,if_neg h4]
   have e2:VA s t=sSp s t:=by unfold VA;rw[hz];rfl
   have ho:((1:Nat):Int)=J8 s t:=by unfold J8;rw[hz];rfl
   have hn:¬JS s t:=by
    rintro⟨q1,q2⟩
    omega
   have ih9:=L21 _ 1 left t rfl ⟨hI,h1,ho,hn,fun t' left' hlt h'=>ih _ (by omega) t' left' rfl h'⟩
   rw[e2]at ih9
   exact Wk.C.le (V9.pub 1 (b:=.row (.sels left) true) (by kernel_rfl)) (Wk.C.rn [0] (ih9))
   try simp[-zd]at h6
   exact V7 hk (hI.e.trans ((Qev h1 ⟨by unfold Va;rw[if_neg h2,if_neg h3,if_neg h4],by omega⟩).trans rfl))
   exact V7 hk (hI.e.trans ((Qew h1).trans rfl))
 refine (W42 m).en (have a0:=VB (Qq s ps (m+1)) s ps pseudo (sSp s (RS.mk p bad un));(s.length<=1000000)/\(p<=s.length+1)/\(s.length<=100000)/\((sSp s (RS.mk p bad un)).p<=s.length+1)/\(s.length<=m+(sSp s (RS.mk p bad un)).p)/\(m<=200000)/\(W42 m).L K 3 (mkS 103 [(0,(.ptr 0 0)),(1,(.bool pseudo)),(5,(.own 1))] [(1,.row (.sels (a0.1)) true),(0,.blk 46 [(.str s),(.nat (a0.2.p)),(.bool (a0.2.bad)),(.bool (a0.2.un)),(.bool ps)])] 2)) ?_
 refine ZR (ZR (ZR (ZR (ZR (ZR ?_)))))
 have u1:=QF s ⟨p,bad,un⟩ h02
 have a:=Qey (c:=(3*(m+1)+8)) (by omega) (Za s ps (m+1)) ps pseudo (sSp s ⟨p,bad,un⟩) u1.2
 have hC:∀x,(3*(m+1)+11)*x=(3*(m+1)+8)*x+3*x:=fun x=>by rw[<-Nat.add_mul]
 have q1:=hC (VB (Qq s ps (m+1)) s ps pseudo (sSp s ⟨p,bad,un⟩)).2.p
 have q2:=a.2
 exact L3 _ (VB (Qq s ps (m+1)) s ps pseudo (sSp s ⟨p,bad,un⟩)).2 (VB (Qq s ps (m+1)) s ps pseudo (sSp s ⟨p,bad,un⟩)).1 rfl ⟨u1.trans a.1,by omega,fun _=>by omega,(Qhd _).lf,rfl⟩
 cases e
end
section
open Go Go.RowKit
set_option maxRecDepth 20000
theorem Qf7 {G:RS->List SelD×RS} {s:Bs} {ps pseudo:Bool} {t:RS} {l:List SelD} (h:¬(t.bad=false/\t.p<s.length/\bat s t.p=44)):YG G s ps pseudo t l=(l,t):=by
 unfold YG;rw[if_neg h]
theorem Qnr {G:RS->List SelD×RS} {s:Bs} {ps pseudo:Bool} {t:RS} {l:List SelD} (h:t.bad=false/\t.p<s.length/\bat s t.p=44) (hl:t.p<(Yh G s ps pseudo (t.go (t.p+1))).2.p) :
 YG G s ps pseudo t l=YG G s ps pseudo (Yh G s ps pseudo (t.go (t.p+1))).2 (l++(Yh G s ps pseudo (t.go (t.p+1))).1):=by
 conv=>lhs;unfold YG
 rw[if_pos h];simp only;rw[if_pos hl]
def c23s (m:Nat) (svs:List SV) (b:Option SB):FR:=match svs,b with
 | [.ptr 0 0,.bool many,.bool pseudo],some (.blk 46 [.str s,.nat p,.bool bad,.bool un,.bool ps])=>some ([s.length<=100000,p<=s.length+1,s.length<=m+p,m<=200000],.row (.sels (VI (Qq s ps (m+1)) s ps many pseudo ⟨p,bad,un⟩).1),some (.blk 46 [.str s,.nat (VI (Qq s ps (m+1)) s ps many pseudo ⟨p,bad,un⟩).2.p,.bool (VI (Qq s ps (m+1)) s ps many pseudo ⟨p,bad,un⟩).2.bad,.bool (VI (Qq s ps (m+1)) s ps many pseudo ⟨p,bad,un⟩).2.un,.bool ps]))
 | _,_=>none
noncomputable def W23 (m:Nat):Wk:=⟨[(29,.fn c29),(42,.fn (c42 m)),(43,.plain c43)],Qe Tryz.f23,true,true,[.tmp 6],[22],[(2,135)],[]⟩
theorem Qa4 {p q:Prop} (k:q) (h:p:=by first | omega | (simp;done) | (simp;omega) | (have hl:=QW (h44t h2) (by decide);have:=(kx (by omega)).2;have:=ky (by omega);omega) | (have:=(QcI (c:=3*(m+1)+8) (by omega) (Za s ps (m+1)) ps pseudo ⟨p,bad,un⟩ h02).1.2;omega)):p/\q:=⟨h,k⟩
theorem QuI (m:Nat) (hG:Sat 23 (fnS (c23 m))):Sat 23 (fnS (c23s m)):=by
 have hD:Qa (W23 m).D:=(Qa.cons Qcm QbW (Qa.cons has42 (sat42 m hG) (Qa.cons Qcl QbV Qa.nil)))
 refine (W23 m).sa hD Tryz.f23 fun svs b K hP=>?_
 obtain⟨ps,o,b',e,hp,hk⟩:=Vy hP
 unfold c23s at e
 split at e
 rename_i many pseudo s p bad un ps
 cases e
 obtain⟨h01,h02,h03,h04,_⟩:=hp
 have L2:∀(mm:Nat) (t:RS) (r:List SelD),s.length+2-t.p=mm->(Up s ⟨p,bad,un⟩ t/\r.length<=(3*(m+1)+11)*t.p+5/\(if many=true then YG (Qq s ps (m+1)) s ps pseudo (Yh (Qq s ps (m+1)) s ps pseudo ⟨p,bad,un⟩).2 (Yh (Qq s ps (m+1)) s ps pseudo ⟨p,bad,un⟩).1 else (Yh (Qq s ps (m+1)) s ps pseudo ⟨p,bad,un⟩))=(if many=true then YG (Qq s ps (m+1)) s ps pseudo t r else (r,t)))->(W23 m).L K 2 (mkS 32 [(0,(.ptr 0 0)),(1,(.bool many)),(2,(.bool pseudo)),(7,(.own 1))] [(1,.row (.sels r) true),(0,.blk 46 [(.str s),(.nat t.p),(.bool t.bad),(.bool t.un),(.bool ps)])] 2):=by
  intro mm
  induction mm using zl with
  | _ mm ih=>
   intro t r hm hI
   obtain⟨k1,k2,k3⟩:=hI
   have k6:p<=t.p:=k1.1
   have k7:t.p<=s.length+1:=k1.2
   have kc:(3*(m+1)+11)*t.p<=700011*100001:=Nat.mul_le_mul (by omega) (by omega)
   have kx:t.p+1<=s.length+1->Up s (t.go (t.p+1)) (Yh (Qq s ps (m+1)) s ps pseudo (RS.mk (t.p+1) t.bad t.un)).2/\(Yh (Qq s ps (m+1)) s ps pseudo (RS.mk (t.p+1) t.bad t.un)).1.length+(3*(m+1)+11)*(t.p+1)<=(3*(m+1)+11)*(Yh (Qq s ps (m+1)) s ps pseudo (RS.mk (t.p+1) t.bad t.un)).2.p+5:=fun h=>QcI (c:=3*(m+1)+8) (by omega) (Za s ps (m+1)) ps pseudo (t.go (t.p+1)) h
   have ky:t.p+1<=s.length+1->(3*(m+1)+11)*(Yh (Qq s ps (m+1)) s ps pseudo (RS.mk (t.p+1) t.bad t.un)).2.p<=700011*100001:=fun h=>Nat.mul_le_mul (by omega) (by have:=(kx h).1.2;omega)
   refine (W23 m).aL hD (have a0:=Yh (Qq s ps (m+1)) s ps pseudo (RS.mk (t.p+1) t.bad t.un);have a1:Out:=.row (.sels (Qi (SelD.mk (23:Int) (0:Int) [] [] (0:Int) (0:Int) (0:Int) (0:Int)) ([r]:List (List SelD)).flatten));have a2:Option SB:=some (.blk 46 [(.str s),(.nat t.p),(.bool t.bad),(.bool t.un),(.bool ps)]);have a3:=([r]:List (List SelD)).flatten.length<=1000000000000;have a4:=([r]:List (List SelD)).length<=1000000000;(((!t.bad)&&many)=true->(s.length<=1000000)/\(t.p<=s.length+1)/\(1<=1000)/\cond (Q5 s [44] t.p) ((s.length<=100000)/\(t.p+1<=s.length+1)/\(s.length<=m+t.p+1)/\(m<=200000)/\(r.length+(a0.1).length<=1099511627776)/\(W23 m).L K 2 (mkS 32 [(0,(.ptr 0 0)),(1,(.bool many)),(2,(.bool pseudo)),(7,(.own 3))] [(3,.row (.sels (r++(a0.1))) true),(0,.blk 46 [(.str s),(.nat (a0.2.p)),(.bool (a0.2.bad)),(.bool (a0.2.un)),(.bool ps)])] 4)) (a4/\a3/\K a1 a2))/\(((!t.bad)&&many)=false->a4/\a3/\K a1 a2)) ?_
   refine⟨fun h1=>?_,fun h1=>?_⟩
   try simp[-zd]at h1
   refine Qa4 (Qa4 (Qa4 ?_))
   refine Qb ?_ ?_<;>intro h2<;>try simp[-zd]at h2
   refine Qa4 (Qa4 (Qa4 (Qa4 (Qa4 ?_))))
   have hl:=QW (h44t h2) (by decide)
   obtain⟨a1,a2⟩:=kx (by omega)
   have a3:=a1.1
   simp only[RS.go_p]at a3
   rw[show (3*(m+1)+11)*(t.p+1)=(3*(m+1)+11)*t.p+(3*(m+1)+11) from Nat.mul_succ _ _]at a2
   exact Wk.L.rn [0,3] (ih _ (by omega) (Yh (Qq s ps (m+1)) s ps pseudo (RS.mk (t.p+1) t.bad t.un)).2 (r++(Yh (Qq s ps (m+1)) s ps pseudo (RS.mk (t.p+1) t.bad t.un)).1) rfl ⟨⟨by show p<=(Yh (Qq s ps (m+1)) s ps pseudo (RS.mk (t.p+1) t.bad t.un)).2.p;omega,a1.2⟩,by rw[zh];omega,by
    refine k3.trans ?_
    rw[h1.2,if_pos rfl,if_pos rfl]
    exact Qnr ⟨h1.1,hl,h44t h2⟩ (show t.p<(Yh (Qq s ps (m+1)) s ps pseudo (RS.mk (t.p+1) t.bad t.un)).2.p from by omega)⟩)
   refine Qa4 (Qa4 ?_)
   refine V7 hk ?_
   unfold VI
   simp only
   have e:(if many=true then YG (Qq s ps (m+1)) s ps pseudo (Yh (Qq s ps (m+1)) s ps pseudo ⟨p,bad,un⟩).2 (Yh (Qq s ps (m+1)) s ps pseudo ⟨p,bad,un⟩).1 else (Yh (Qq s ps (m+1)) s ps pseudo ⟨p,bad,un⟩))=(r,t):=by
    refine k3.trans ?_
    cases hm:many with
    | true=>rw[if_pos rfl,Qf7 (fun h=>h44f h2 h.2.2)]
    | false=>rfl
   rw[e]
   simp[Q4]
   try simp[-zd]at h1
   refine Qa4 (Qa4 ?_)
   refine V7 hk ?_
   unfold VI
   simp only
   have e:(if many=true then YG (Qq s ps (m+1)) s ps pseudo (Yh (Qq s ps (m+1)) s ps pseudo ⟨p,bad,un⟩).2 (Yh (Qq s ps (m+1)) s ps pseudo ⟨p,bad,un⟩).1 else (Yh (Qq s ps (m+1)) s ps pseudo ⟨p,bad,un⟩))=(r,t):=by
    refine k3.trans ?_
    cases hm:many with
    | true=>rw[if_pos rfl,Qf7 (fun h=>by have q:=h1 h.1;rw[hm]at q;cases q)]
    | false=>rfl
   rw[e]
   simp[Q4]
 refine (W23 m).en (have a0:=Yh (Qq s ps (m+1)) s ps pseudo (RS.mk p bad un);(s.length<=100000)/\(p<=s.length+1)/\(s.length<=m+p)/\(m<=200000)/\(W23 m).L K 2 (mkS 32 [(0,(.ptr 0 0)),(1,(.bool many)),(2,(.bool pseudo)),(7,(.own 1))] [(1,.row (.sels (a0.1)) true),(0,.blk 46 [(.str s),(.nat (a0.2.p)),(.bool (a0.2.bad)),(.bool (a0.2.un)),(.bool ps)])] 2)) ?_
 refine Qa4 (Qa4 (Qa4 (Qa4 ?_)))
 have a:=QcI (c:=3*(m+1)+8) (by omega) (Za s ps (m+1)) ps pseudo ⟨p,bad,un⟩ h02
 have a2:(Yh (Qq s ps (m+1)) s ps pseudo ⟨p,bad,un⟩).1.length+(3*(m+1)+11)*p<=(3*(m+1)+11)*(Yh (Qq s ps (m+1)) s ps pseudo ⟨p,bad,un⟩).2.p+5:=a.2
 exact L2 _ (Yh (Qq s ps (m+1)) s ps pseudo ⟨p,bad,un⟩).2 (Yh (Qq s ps (m+1)) s ps pseudo ⟨p,bad,un⟩).1 rfl ⟨a.1,by omega,by cases many<;>rfl⟩
 cases e
theorem QtQ:∀m,Sat 23 (fnS (c23 m))
 | 0=>by
  intro g0 w M ω svs args b K _ _ _ hP
  exfalso
  obtain⟨ps,o,b',e,hp,hk⟩:=Vy hP
  unfold c23 at e
  split at e
  cases e
  have h1:=hp.2.1
  have h2:=hp.2.2.1
  omega
  cases e
 | m+1=>by
  refine Sat.wk (QuI m (QtQ m)) fun svs b K h=>?_
  obtain⟨ps,o,b',e,hp,hk⟩:=Vy h
  unfold c23 at e
  split at e
  cases e
  rename_i many pseudo s p bad un ps
  have h1:=hp.1
  have h2:=hp.2.1
  have h3:=hp.2.2.1
  have h4:=hp.2.2.2.1
  exact⟨[.ptr 0 0,.bool many,.bool pseudo],⟨fun _ _ h=>h,fun _ _ h=>h,fun _ _ h=>h,trivial⟩,h1,by omega,by omega,by omega,hk⟩
  cases e
end
section
open Go Go.RowKit
set_option maxRecDepth 20000
theorem Qns {G:RS->List SelD×RS} {s:Bs} {ps pseudo:Bool} (t:RS) (left:List SelD) (h:Sz left):Sz (VU G s ps pseudo t left).1:=by
 fun_induction VU G s ps pseudo t left with
 | case1=>exact h
 | case2=>exact h
 | case3=>exact Sz.fail
 | case4 t left hb t1 cc op t2 h1 he r hlt ih=>exact ih (Sz.made _ _)
 | case5=>exact Sz.made _ _
theorem Qsa {G:RS->List SelD×RS} {s:Bs} {ps pseudo:Bool} (t:RS):Sz (Yh G s ps pseudo t).1:=Qns _ _ (Qhd _).1
theorem Qqe {K:Out->Option SB->Prop} {r:List SelD×Bool×Bool} {l:List SelD} {a u:Bool} (hk:K (.val (.tup [.sl (.sels r.1),.bool r.2.1,.bool r.2.2])) none) (e:r=(l,a,u)):K (.val (.tup [.sl (.sels l),.bool a,.bool u])) none:=by
 rw[e]at hk;exact hk
theorem QjL {l:List SelD} (h:0<=(l.getD 1 default).size):Uz l 1=(l.drop 1).take (l.getD 1 default).size.toNat:=by
 unfold Uz
 split
 rename_i hl;rw[xv.2 hl];simp
 rw[List.drop_take]
 congr 1
 omega
theorem Qs1 {s:Bs} {m:Nat} {many pseudo:Bool} (hs:s.length<=100000) (hm:m<=200000):(VI (Qq s pseudo m) s pseudo many pseudo ⟨0,false,false⟩).1.length<=1000000000000:=by
 have a:=Qhc (c:=3*m+8) (by omega) (Za s pseudo m) pseudo many pseudo ⟨0,false,false⟩ (zO _)
 have d:(3*m+8+3)*(VI (Qq s pseudo m) s pseudo many pseudo ⟨0,false,false⟩).2.p<=700000*100001:=Nat.mul_le_mul (by omega) (by have:=a.1.2;omega)
 have:=a.2
 omega
theorem QhX {G:RS->List SelD×RS} {s:Bs} {ps pseudo:Bool} {t:RS}:((VI G s ps false pseudo t).1.getD 1 default).size=((Yh G s ps pseudo t).1.length:Nat)/\(VI G s ps false pseudo t).1.length=(Yh G s ps pseudo t).1.length+1:=by
 have h:=Qsa (G:=G) (s:=s) (ps:=ps) (pseudo:=pseudo) t
 refine⟨?_,by simp[VI,Qi,Ql]⟩
 rw[<-h.2]
 simp[VI,Qi,Ql,zd]
theorem Sat.ex {f:FuncId} {P:Nat->Spec} (h:∀m,Sat f (P m)):Sat f fun svs b K=>∃m,P m svs b K:=by
 intro g0 w M ω svs args b K hS hn hr ⟨m,hP⟩
 exact h m g0 w M ω svs args b K hS hn hr hP
def c10i (m:Nat) (svs:List SV) (b:Option SB):QR:=match svs,b with
 | [.str s,.bool many,.bool pseudo],none=>some ([s.length<=100000,m=s.length+1],.tup [.sl (.sels (QX s many pseudo).1),.bool (QX s many pseudo).2.1,.bool (QX s many pseudo).2.2])
 | _,_=>none
noncomputable def W10 (m:Nat):Wk:=⟨[(22,.pure c22),(23,.fn (c23 m)),(24,.pure c24)],Qe Tryz.f10,false,false,[.tmp 6,.tmp 7,.tmp 8],[22,4,4],[],[]⟩
theorem has10:Has 10:=hsf Tryz.f10
theorem QkJ {p q:Prop} (k:q) (h:p:=by first | omega | (simp;done) | (simp;omega) | (intro _;rw[h4,QhX.1,QhX.2];omega)):p/\q:=⟨h,k⟩
theorem Qvz (m:Nat):Sat 10 (Qz (c10i m)):=by
 have hD:Qa (W10 m).D:=(Qa.cons has22 sat22 (Qa.cons Quf (QtQ m) (Qa.cons has24 sat24 Qa.nil)))
 refine (W10 m).sa hD Tryz.f10 fun svs b K hP=>?_
 obtain⟨ps,v,e,hp,hk⟩:=Qh hP
 unfold c10i at e
 split at e
 rename_i s many pseudo
 cases e
 obtain⟨h01,h02,_⟩:=hp
 have gl:=Qs1 (s:=s) (m:=m) (many:=many) (pseudo:=pseudo) h01 (by omega)
 refine (W10 m).en (have a0:=VI (Qq s pseudo m) s pseudo many pseudo (RS.mk 0 false false);have a1:Out:=.val (.tup [(.sl (.sels [])),(.bool false),(.bool (!a0.2.un))]);(s.length<=1000000)/\cond (!(YH s 0)) (K (.val (.tup [(.sl (.sels [])),(.bool false),(.bool false)])) none) ((s.length<=100000)/\(0<=s.length)/\(s.length+1<=m+0)/\(m<=200000)/\cond ((!a0.2.bad)&&(decide (a0.2.p<s.length))) (K a1 none) (cond a0.2.bad (K a1 none) (cond (!many) ((1<=1000000000000/\(a0.1).length<=1000000000000)/\(1<(a0.1).length->0<=((a0.1).getD 1 default).size/\((1:Nat):Int)+((a0.1).getD 1 default).size<=(a0.1).length)/\K (.val (.tup [(.sl (.sels (Uz (a0.1) 1))),(.bool true),(.bool (!a0.2.un))])) none) (K (.val (.tup [(.sl (.sels (a0.1))),(.bool true),(.bool (!a0.2.un))])) none))))) ?_
 refine QkJ ?_
 refine Qb ?_ ?_<;>intro h1<;>try simp[-zd]at h1
 refine Qqe hk ?_
 unfold QX
 rw[<-h02]
 rw[if_neg (by rw[h1];simp)]
 refine QkJ (QkJ (QkJ (QkJ ?_)))
 refine Qb ?_ ?_<;>intro h2<;>try simp[-zd]at h2
 refine Qqe hk ?_
 unfold QX
 rw[<-h02]
 rw[if_pos (by simpa using h1)]
 simp only
 rw[if_pos (.inr h2.2)]
 refine Qb (fun h3=>?_) (fun h3=>?_)
 try simp[-zd]at h3
 refine Qqe hk ?_
 unfold QX
 rw[<-h02]
 rw[if_pos (by simpa using h1)]
 simp only
 rw[if_pos (.inl h3)]
 try simp[-zd]at h3
 refine Qb ?_ ?_<;>intro h4<;>try simp[-zd]at h4
 refine QkJ (QkJ ?_)
 refine Qqe hk ?_
 unfold QX
 rw[<-h02]
 rw[if_pos (by simpa using h1)]
 simp only
 have hn:¬((VI (Qq s pseudo m) s pseudo many pseudo ⟨0,false,false⟩).2.bad=true\/(VI (Qq s pseudo m) s pseudo many pseudo ⟨0,false,false⟩).2.p<s.length):=by
  rintro (q | q)
  rw[h3]at q;cases q
  have:=h2 h3;omega
 rw[if_neg hn,if_neg (by rw[h4];simp),QjL (by rw[h4,QhX.1];omega)]
 refine Qqe hk ?_
 unfold QX
 rw[<-h02]
 rw[if_pos (by simpa using h1)]
 simp only
 have hn:¬((VI (Qq s pseudo m) s pseudo many pseudo ⟨0,false,false⟩).2.bad=true\/(VI (Qq s pseudo m) s pseudo many pseudo ⟨0,false,false⟩).2.p<s.length):=by
  rintro (q | q)
  rw[h3]at q;cases q
  have:=h2 h3;omega
 rw[if_neg hn,if_pos h4]
 cases e
theorem Sat.imp {f:FuncId} {P P':Spec} (h:Sat f P) (hw:∀svs b K,P' svs b K->P svs b K):Sat f P':=
 fun g0 w M ω svs args b K hS hn hr hP=>h g0 w M ω svs args b K hS hn hr (hw svs b K hP)
def c10 (svs:List SV) (b:Option SB):QR:=match svs,b with
 | [.str s,.bool many,.bool pseudo],none=>some ([s.length<=100000],.tup [.sl (.sels (QX s many pseudo).1),.bool (QX s many pseudo).2.1,.bool (QX s many pseudo).2.2])
 | _,_=>none
theorem sat10:Sat 10 (Qz c10):=by
 refine Sat.imp (Sat.ex (P:=fun m=>Qz (c10i m)) Qvz) fun svs b K h=>?_
 obtain⟨ps,v,e,hp,hk⟩:=Qh h
 unfold c10 at e
 split at e
 rename_i s many pseudo
 cases e
 exact⟨s.length+1,hp.1,rfl,hk⟩
 cases e
end
section
open Go Go.RowKit
mutual
def ST.ht:ST->Nat
 | .mk _ ks=>ST.hts ks+1
def ST.hts:List ST->Nat
 | []=>0
 | t::l=>max t.ht (ST.hts l)
end
def J5 (x:SelD) (y:List SelD):Bool := !(decide (x.kind=21)&&decide ((y.getD 0 default).kind=1))
def anyL:List SelD:=[⟨1,0,[],[],0,0,0,1⟩]
def YK:Nat->List SelD->Nat->List SelD
 | 0,_,_=>[]
 | n+1,l,i=>
  let x:=l.getD i default
  let ys:=((Vi l i).map (YK n l)).filter (J5 x)
  if x.kind=21/\x.val=[] then
   (if ys.length=0 then anyL else if ys.length=1 then ys.getD 0 [] else Qi x ys.flatten)
  else Qi x ys.flatten
theorem QgI (T:ST):∃x rest,T.flat=x::rest/\x.size=(T.flat.length:Nat)/\x={ T.node with size:=x.size }:=by
 obtain⟨x,ks⟩:=T
 exact⟨_,_,by rw[ST.flat,Ql],by simp[ST.flat,Ql],by simp[ST.node]⟩
theorem Qc4 {l:List SelD} {i:Nat} {x:SelD} {r:List SelD} (h:l.drop i=x::r):l.getD i default=x:=by
 have:(l.drop i)[0]? = some x:=by rw[h];rfl
 rw[List.getElem?_drop]at this
 simp[zd,show l[i]? = some x from this]
theorem QmK {l:List SelD} {i:Nat} {x:SelD} {r:List SelD} (h:l.drop i=x::r):i<l.length:=by
 have:=congrArg List.length h
 simp at this;omega
theorem Qc3 {l:List SelD} {i:Nat} {a b:List SelD} (h:l.drop i=a++b):l.drop (i+a.length)=b:=by
 rw[<-List.drop_drop,h,List.drop_left]
def Z6:Nat->List ST->List Nat
 | _,[]=>[]
 | k,t::l=>k::Z6 (k+t.flat.length) l
theorem Qcb {l:List SelD}:∀(ks:List ST) (k:Nat) (rest:List SelD) (fin:Int),l.drop k=ST.flats ks++rest->k<=l.length->fin=((k+(ST.flats ks).length:Nat):Int)->ZH l fin k=Z6 k ks
 | [],k,rest,fin,h,hk,hf=>by
  rw[ZH,if_neg (by rw[hf];simp[ST.flats])];rfl
 | t::ks,k,rest,fin,h,hk,hf=>by
  obtain⟨x,r,e1,e2,_⟩:=QgI t
  rw[ST.flats,zw]at h
  have h0:l.drop k=x::(r++(ST.flats ks++rest)):=by rw[h,e1];rfl
  have hlt:=QmK h0
  have hn:t.flat.length=r.length+1:=by rw[e1];simp
  have hx:(l.getD k default).size=(t.flat.length:Nat):=by rw[Qc4 h0,e2]
  have hd:=Qc3 h
  have hlen:=congrArg List.length h
  simp only[zh,zR]at hlen
  rw[ZH,if_pos ⟨by rw[hf,ST.flats,zh];omega,hlt⟩,hx,Z6,
   show (max 1 ((t.flat.length:Nat):Int)).toNat=t.flat.length from by omega]
  rw[Qcb ks (k+t.flat.length) rest fin hd (by omega) (by rw[hf,ST.flats,zh];omega)]
theorem Qbt {l:List SelD} {i:Nat} {x:SelD} {ks:List ST} {rest:List SelD} (h:l.drop i=(ST.mk x ks).flat++rest) :
 Vi l i=Z6 (i+1) ks/\l.drop (i+1)=ST.flats ks++rest/\i<l.length/\l.getD i default={ x with size:=((ST.flats ks).length:Nat)+1 }/\i+(ST.flats ks).length+1<=l.length:=by
 have h0:l.drop i={ x with size:=((ST.flats ks).length:Nat)+1 }::(ST.flats ks++rest):=by rw[h,ST.flat,Ql];rfl
 have h1:l.drop (i+1)=ST.flats ks++rest:=by rw[<-List.drop_drop,h0];rfl
 have hlt:=QmK h0
 have hlen:=congrArg List.length h1
 simp only[zh,zR]at hlen
 refine⟨?_,h1,hlt,Qc4 h0,by omega⟩
 unfold Vi
 rw[Qc4 h0]
 exact Qcb ks (i+1) rest _ h1 (by omega) (by simp only;omega)
def U2 (l:List SelD) (n:Nat) (k:Nat):Prop:=∃(T:ST) (rest:List SelD),l.drop k=T.flat++rest/\T.ht<=n
theorem Qgg {l:List SelD} {n:Nat}:∀(ks:List ST) (k:Nat) (rest:List SelD),l.drop k=ST.flats ks++rest->ST.hts ks<=n->∀p∈Z6 k ks,U2 l n p
 | [],k,rest,h,hn,p,hp=>by simp[Z6]at hp
 | t::ks,k,rest,h,hn,p,hp=>by
  rw[ST.flats,zw]at h
  rw[ST.hts]at hn
  simp only[Z6,zu]at hp
  rcases hp with hp | hp
  subst hp;exact⟨t,_,h,by omega⟩
  exact Qgg ks _ rest (Qc3 h) (by omega) p hp
theorem UE {l:List SelD} {n:Nat} (ih:∀i T rest,l.drop i=ST.flat T++rest->T.ht<=n->YK n l i=T.norm.flat):∀(ks:List ST) (k:Nat) (rest:List SelD),l.drop k=ST.flats ks++rest->ST.hts ks<=n ->
 (Z6 k ks).map (YK n l)=(ST.norms ks).map ST.flat
 | [],k,rest,h,hn=>by simp[Z6,ST.norms]
 | t::ks,k,rest,h,hn=>by
  rw[ST.flats,zw]at h
  rw[ST.hts]at hn
  simp only[Z6,ST.norms,List.map_cons]
  rw[ih k t _ h (by omega),UE ih ks _ rest (Qc3 h) (by omega)]
theorem QaW:∀ks:List ST,ST.flats ks=(ks.map ST.flat).flatten
 | []=>by simp[ST.flats]
 | t::ks=>by simp[ST.flats,QaW ks]
theorem QeW (x:SelD) (T:ST):J5 x T.flat = !(decide (x.kind=21)&&Qbu T):=by
 obtain⟨y,r,e1,e2,e3⟩:=QgI T
 unfold J5 Qbu
 rw[e1]
 simp only[zd,zB,Option.getD_some]
 rw[e3]
theorem Qjh (x:SelD) (z:Int) (ks:List ST):(ks.map ST.flat).filter (J5 { x with size:=z })=(ZV x ks).map ST.flat:=by
 unfold ZV
 rw[List.filter_map]
 split
 rename_i h
 congr 1
 apply List.filter_congr
 intro t _
 simp[QeW,h]
 rename_i h
 rw[List.filter_eq_self.2]
 intro t _
 simp[QeW,h]
theorem QbY (l:List SelD):∀(n i:Nat) (T:ST) (rest:List SelD),l.drop i=T.flat++rest->T.ht<=n->YK n l i=T.norm.flat
 | 0,i,T,rest,h,hn=>by obtain⟨x,ks⟩:=T;simp[ST.ht]at hn
 | n+1,i,.mk x ks,rest,h,hn=>by
  obtain⟨h1,h2,h3,h4,h5⟩:=Qbt h
  rw[ST.ht]at hn
  have h6:=UE (l:=l) (n:=n) (fun i T rest=>QbY l n i T rest) ks (i+1) rest h2 (by omega)
  rw[YK]
  rw[h1,h4,h6,Qjh,ST.norm];unfold Qaa
  simp only[List.length_map]
  split
  generalize ZV x (ST.norms ks)=ys
  match ys with
  | []=>simp[ST.flat,ST.flats,Ql,Qry,anyL]
  | [y]=>simp
  | y::y'::ys=>simp[ST.flat,Qi,Ql,QaW]
  simp[ST.flat,Qi,Ql,QaW]
theorem UR (p:ST->Bool):∀ks:List ST,(ST.flats (ks.filter p)).length<=(ST.flats ks).length
 | []=>by simp
 | t::ks=>by
  have:=UR p ks
  rw[List.filter_cons]
  split<;>simp only[ST.flats,zh]<;>omega
theorem Qm3 (x:SelD) (ks:List ST):(Qaa x ks).flat.length<=(ST.flats ks).length+1:=by
 unfold Qaa
 split
 split<;>simp[ST.flat,ST.flats,Ql]
 simp[ST.flat,Ql]
mutual
theorem QeK:∀T:ST,T.norm.flat.length<=T.flat.length
 | .mk x ks=>by
  have h1:=QcK ks
  have h2:=Qm3 x (ZV x (ST.norms ks))
  have h3:(ST.flats (ZV x (ST.norms ks))).length<=(ST.flats (ST.norms ks)).length:=by
   unfold ZV;split
   exact UR _ _
   exact zm _
  rw[ST.norm,ST.flat,Ql,zj]
  omega
theorem QcK:∀ks:List ST,(ST.flats (ST.norms ks)).length<=(ST.flats ks).length
 | []=>by simp[ST.norms]
 | t::ks=>by
  have h1:=QeK t
  have h2:=QcK ks
  simp only[ST.norms,ST.flats,zh]
  omega
end
theorem Qe9 (T:ST):0<T.flat.length:=by obtain⟨x,ks⟩:=T;simp[ST.flat,Ql]
mutual
theorem QkU:∀T:ST,T.ht<=T.flat.length
 | .mk x ks=>by have:=Qmm ks;simp only[ST.ht,ST.flat,Ql,zj];omega
theorem Qmm:∀ks:List ST,ST.hts ks<=(ST.flats ks).length
 | []=>by simp[ST.hts]
 | t::ks=>by have:=QkU t;have:=Qmm ks;simp only[ST.hts,ST.flats,zh];omega
end
end
section
open Go Go.RowKit
set_option maxRecDepth 20000
theorem U2.sz {l:List SelD} {n k:Nat} (h:U2 l n k):k<l.length/\0<(l.getD k default).size/\(l.getD k default).size<=l.length/\((k:Nat):Int)+(l.getD k default).size<=l.length/\0<(YK n l k).length/\(YK n l k).length<=l.length:=by
 obtain⟨T,rest,h,hn⟩:=h
 rw[QbY l n k T rest h hn]
 have h1:=Qe9 T.norm
 have h2:=QeK T
 obtain⟨x,ks⟩:=T
 obtain⟨_,_,q3,q4,q5⟩:=Qbt h
 have h3:(ST.mk x ks).flat.length=(ST.flats ks).length+1:=by simp[ST.flat,Ql]
 rw[q4]
 exact⟨q3,by simp only;omega,by simp only;omega,by simp only;omega,h1,by omega⟩
def J4 (n:Nat) (l:List SelD) (i:Nat):List (List SelD):=((Vi l i).map (YK n l)).filter (J5 (l.getD i default))
theorem U2.kids {l:List SelD} {n i:Nat} (h:U2 l (n+1) i):(∀k∈Vi l i,U2 l n k)/\(Vi l i).length<=l.length/\(J4 n l i).flatten.length<=l.length/\(J4 n l i).length<=l.length:=by
 obtain⟨⟨x,ks⟩,rest,h,hn⟩:=h
 obtain⟨q1,q2,q3,q4,q5⟩:=Qbt h
 rw[ST.ht]at hn
 have h6:=UE (l:=l) (n:=n) (fun i T rest=>QbY l n i T rest) ks (i+1) rest q2 (by omega)
 have q6:(Vi l i).length<=l.length:=by
  have:=QkM l (i+(l.getD i default).size) (i+1)
  unfold Vi;omega
 refine⟨fun k hk=>Qgg ks (i+1) rest q2 (by omega) k (by rw[<-q1];exact hk),q6,?_,?_⟩
 unfold J4
 rw[q1,q4,h6,Qjh,<-QaW]
 have:=QcK ks
 have:(ST.flats (ZV x (ST.norms ks))).length<=(ST.flats (ST.norms ks)).length:=by
  unfold ZV;split
  exact UR _ _
  exact zm _
 omega
 unfold J4
 exact Nat.le_trans (List.length_filter_le _ _) (by simpa using q6)
theorem QiN (p:List SelD->Bool) (f:Nat->List SelD) (K:List Nat) (j:Nat) (h:j<K.length):((K.take (j+1)).map f).filter p=((K.take j).map f).filter p++(if p (f (K.getD j 0))=true then [f (K.getD j 0)] else []):=by
 rw[zU,zg h]
 have e:K.getD j 0=K[j]:=by simp[zd,zg h]
 rw[e,Option.toList_some,List.map_append,List.filter_append]
 simp[List.filter_cons]
theorem Qsc (p:List SelD->Bool) (f:Nat->List SelD) (K:List Nat) (j:Nat):(((K.take j).map f).filter p).length<=j:=by
 refine Nat.le_trans (List.length_filter_le _ _) ?_
 simp;omega
theorem Qp1 {K:List Nat} {j:Nat} (h:j<K.length):K.getD j 0∈K:=by
 simp[zd,zg h]
def c51 (m:Nat) (svs:List SV) (b:Option SB):QR:=match svs,b with
 | [.sl (.sels l),.nat i],none=>some ([l.length<=1000000000,U2 l m i],.sl (.sels (YK m l i)))
 | _,_=>none
theorem QeT {K:Out->Option SB->Prop} {a c:List SelD} (hk:K (.val (.sl (.sels a))) none) (e:a=c):K (.val (.sl (.sels c))) none:=by rw[e]at hk;exact hk
def c51s (m:Nat) (svs:List SV) (b:Option SB):QR:=match svs,b with
 | [.sl (.sels l),.nat i],none=>some ([l.length<=1000000000,U2 l (m+1) i],.sl (.sels (YK (m+1) l i)))
 | _,_=>none
noncomputable def W51 (m:Nat):Wk:=⟨[(17,.fn c17),(29,.fn c29),(51,.pure (c51 m))],Qe Tryz.f51,false,false,[.tmp 4],[22],[(4,227)],[]⟩
theorem Qt9:Has 51:=hsf Tryz.f51
theorem kwz1 {c0 p0 q:Prop} (k:q) (h:c0->p0/\True:=by intro g0;(try simp at g0);exact⟨(by first | omega | (have:=k5 h1;omega) | exact k4 h1 | (have:=k6 h1;omega) | exact fun k hk=>by have:=(q1 k hk).sz;omega | (simp;done) | (simp;omega)),trivial⟩):(c0->p0/\True)/\q:=⟨h,k⟩
theorem JY {p q:Prop} (k:q) (h:p:=by first | omega | (have:=k5 h1;omega) | exact k4 h1 | (have:=k6 h1;omega) | exact fun k hk=>by have:=(q1 k hk).sz;omega | (simp;done) | (simp;omega)):p/\q:=⟨h,k⟩
theorem QuA (m:Nat) (hG:Sat 51 (Qz (c51 m))):Sat 51 (Qz (c51s m)):=by
 have hD:Qa (W51 m).D:=(Qa.cons Qug QtR (Qa.cons Qcm QbW (Qa.cons Qt9 hG Qa.nil)))
 refine (W51 m).sa hD Tryz.f51 fun svs b K hP=>?_
 obtain⟨ps,v,e,hp,hk⟩:=Qh hP
 unfold c51s at e
 split at e
 rename_i l i
 cases e
 obtain⟨h01,h02,_⟩:=hp
 obtain⟨q1,q2,q3,q4⟩:=h02.kids
 have q5:=h02.sz
 have L4:∀(mm:Nat) (j:Nat) (r:List (List SelD)),(Vi l i).length-j=mm->(j<=(Vi l i).length/\r=(((Vi l i).take j).map (YK m l)).filter (J5 (l.getD i default)))->(W51 m).L K 4 (mkS 72 [(0,(.sl (.sels l))),(1,(.nat i)),(5,(.own 2)),(6,(.own 1)),(7,(.nat j))] [(2,.row (.selss r) true),(1,.row (.ints (Vi l i)) true)] 3):=by
  intro mm
  induction mm using zl with
  | _ mm ih=>
   intro j r hm hI
   obtain⟨k1,k2⟩:=hI
   have k3:r.length<=j:=by rw[k2];exact Qsc _ _ _ _
   have k4:j<(Vi l i).length->U2 l m ((Vi l i).getD j 0):=fun h=>q1 _ (Qp1 h)
   have k5:=fun h=>(k4 h).sz
   have k6:¬j<(Vi l i).length->r.flatten.length<=l.length:=fun h=>by rw[k2,show j=(Vi l i).length from by omega,xg];exact q3
   refine (W51 m).aL hD (have a0:=l.getD i default;have a1:Out:=.val (.sl (.sels (Qi (SelD.mk (a0.kind) (a0.op) (a0.key) (a0.val) (a0.a) (a0.b) (a0.flag) (a0.size)) (r:List (List SelD)).flatten)));have a2:=decide (a0.kind=(21:Int));have a3:=(Vi l i).getD j 0;have a4:=i<l.length;cond (decide (j<(Vi l i).length)) ((j<(Vi l i).length)/\(j<(Vi l i).length)/\(l.length<=1000000000)/\(U2 l m a3)/\a4/\((!a2)=false->(0<(YK m l a3).length)/\True)/\cond ((!a2)||(!(decide (((YK m l a3).getD 0 default).kind=(1:Int))))) ((r.length+1<=1099511627776)/\(j+1<=9223372036854775807)/\(W51 m).L K 4 (mkS 72 [(0,(.sl (.sels l))),(1,(.nat i)),(5,(.own 4)),(6,(.own 1)),(7,(.nat (j+1)))] [(4,.row (.selss (r++[YK m l a3])) true),(1,.row (.ints (Vi l i)) true)] 5)) ((j+1<=9223372036854775807)/\(W51 m).L K 4 (mkS 72 [(0,(.sl (.sels l))),(1,(.nat i)),(5,(.own 2)),(6,(.own 1)),(7,(.nat (j+1)))] [(2,.row (.selss r) true),(1,.row (.ints (Vi l i)) true)] 3))) (a4/\(a2=true->a4/\True)/\cond (a2&&(decide (a0.val=[]))) (cond (decide (r.length=0)) ((([]:List (List SelD)).length<=1000000000)/\(([]:List (List SelD)).flatten.length<=1000000000000)/\K (.val (.sl (.sels (Qi (SelD.mk (1:Int) (0:Int) [] [] (0:Int) (0:Int) (0:Int) (0:Int)) ([]:List (List SelD)).flatten)))) none) (cond (decide (r.length=1)) ((0<r.length)/\(0<r.length)/\K (.val (.sl (.sels (r.getD 0 [])))) none) (a4/\((r:List (List SelD)).length<=1000000000)/\((r:List (List SelD)).flatten.length<=1000000000000)/\K a1 none))) (a4/\((r:List (List SelD)).length<=1000000000)/\((r:List (List SelD)).flatten.length<=1000000000000)/\K a1 none))) ?_
   refine Qb ?_ ?_<;>intro h1<;>try simp[-zd]at h1
   refine JY (JY (JY (JY (JY (kwz1 ?_)))))
   refine Qb ?_ ?_<;>intro h2<;>try simp[-zd]at h2
   refine JY (JY ?_)
   have e:(((Vi l i).take (j+1)).map (YK m l)).filter (J5 (l.getD i default))=r++[YK m l ((Vi l i).getD j 0)]:=by
    rw[QiN _ _ _ _ h1,<-k2,if_pos (by unfold J5;simp[-zd];exact h2)]
   exact Wk.L.rn [0,1,4] (ih _ (by omega) (j+1) (r++[YK m l ((Vi l i).getD j 0)]) rfl ⟨by omega,e.symm⟩)
   refine JY ?_
   have e:(((Vi l i).take (j+1)).map (YK m l)).filter (J5 (l.getD i default))=r:=by
    rw[QiN _ _ _ _ h1,<-k2,if_neg (by unfold J5;simp[-zd];exact h2),List.append_nil]
   exact ih _ (by omega) (j+1) r rfl ⟨by omega,e.symm⟩
   refine JY (kwz1 ?_)
   refine Qb ?_ ?_<;>intro h2<;>try simp[-zd]at h2
   refine Qb (fun h3=>?_) (fun h3=>?_)
   try simp[-zd]at h3
   refine JY (JY ?_)
   have er:r=J4 m l i:=by rw[k2,show j=(Vi l i).length from by omega,xg];rfl
   refine QeT hk ?_
   rw[YK]
   rw[show List.filter (J5 (l.getD i default)) (List.map (YK m l) (Vi l i))=r from er.symm]
   rw[if_pos h2,if_pos (by rw[h3];rfl)]
   rfl
   try simp[-zd]at h3
   refine Qb ?_ ?_<;>intro h4<;>try simp[-zd]at h4
   refine JY (JY ?_)
   have er:r=J4 m l i:=by rw[k2,show j=(Vi l i).length from by omega,xg];rfl
   refine QeT hk ?_
   rw[YK]
   rw[show List.filter (J5 (l.getD i default)) (List.map (YK m l) (Vi l i))=r from er.symm]
   rw[if_pos h2,if_neg (by omega),if_pos h4]
   refine JY (JY (JY ?_))
   have er:r=J4 m l i:=by rw[k2,show j=(Vi l i).length from by omega,xg];rfl
   refine QeT hk ?_
   rw[YK]
   rw[show List.filter (J5 (l.getD i default)) (List.map (YK m l) (Vi l i))=r from er.symm]
   rw[if_pos h2,if_neg (by intro q;exact h3 (List.length_eq_zero_iff.1 q)),if_neg h4]
   refine JY (JY (JY ?_))
   have er:r=J4 m l i:=by rw[k2,show j=(Vi l i).length from by omega,xg];rfl
   refine QeT hk ?_
   rw[YK]
   rw[show List.filter (J5 (l.getD i default)) (List.map (YK m l) (Vi l i))=r from er.symm]
   rw[if_neg (fun q=>h2 q.1 q.2)]
 refine (W51 m).en ((i<l.length/\l.length<=1000000000000)/\(0<=(l.getD i default).size/\((i:Nat):Int)+(l.getD i default).size<=l.length)/\(∀k,k∈Vi l i->(l.getD k default).size<=1000000000000)/\(W51 m).L K 4 (mkS 72 [(0,(.sl (.sels l))),(1,(.nat i)),(5,.nilsl),(6,(.own 1)),(7,(.nat 0))] [(1,.row (.ints (Vi l i)) true)] 2)) ?_
 refine JY (JY (JY ?_))
 exact Wk.L.le (V9.adopt 5 (T:=79) (x:=.selss []) (by kernel_rfl) (by kernel_rfl)) (Wk.L.rn [0,1,2] (L4 _ 0 [] rfl ⟨by omega,by simp⟩))
 cases e
theorem QtK:∀m,Sat 51 (Qz (c51 m))
 | 0=>by
  intro g0 w M ω svs args b K _ _ _ hP
  exfalso
  obtain⟨ps,v,e,hp,hk⟩:=Qh hP
  unfold c51 at e
  split at e
  cases e
  obtain⟨T,rest,h1,h2⟩:=hp.2.1
  obtain⟨x,ks⟩:=T
  rw[ST.ht]at h2
  omega
  cases e
 | m+1=>QuA m (QtK m)
def Vx (l:List SelD):List SelD:=YK l.length l 0
def Ye (l:List SelD):Prop:=∃T:ST,l=T.flat
theorem Ye.kid {l:List SelD} (h:Ye l):U2 l l.length 0:=by
 obtain⟨T,h⟩:=h
 exact⟨T,[],by rw[<-h];simp,by rw[h];exact QkU T⟩
theorem Ye.normed {T:ST}:Vx T.flat=T.norm.flat:=QbY _ _ _ T [] (by simp) (QkU T)
theorem Ye.len {l:List SelD} (h:Ye l):0<l.length/\0<(Vx l).length/\(Vx l).length<=l.length:=by
 obtain⟨T,h⟩:=h
 rw[h,Ye.normed]
 exact⟨Qe9 T,Qe9 _,QeK T⟩
def Qbi:List SelD->List SelD->Bool
 | [],[]=>true
 | x::a,y::b=>Qdh x y&&Qbi a b
 | _,_=>false
def Qdi (l r:List SelD):Bool:=Qbi (Vx l) (Vx r)
theorem QgU:∀{a b:List SelD},a.length≠b.length->Qbi a b=false
 | [],[],h=>absurd rfl h
 | x::a,y::b,h=>by rw[Qbi,QgU (by simpa using h),Bool.and_false]
 | [],y::b,h=>rfl
 | x::a,[],h=>rfl
theorem QbJ:∀a:List SelD,Qbi a a=true
 | []=>rfl
 | x::a=>by rw[Qbi,QbJ a];simp[Qdh]
theorem Qfx {a b:List SelD} {i:Nat} (h:i<a.length) (h':i<b.length):Qbi (a.drop i) (b.drop i)=(Qdh (a.getD i default) (b.getD i default)&&Qbi (a.drop (i+1)) (b.drop (i+1))):=by
 rw[zI h,zI h',Qbi]
 simp[zd,zg h,zg h']
def VP (l:List SelD):List SelD:=if (l.getD 0 default).kind=23 then l else Qi Q4 l
theorem ZW {K:Out->Option SB->Prop} {a c:Bool} (hk:K (.val (.bool a)) none) (e:a=c):K (.val (.bool c)) none:=by rw[e]at hk;exact hk
def c28i (m:Nat) (svs:List SV) (b:Option SB):QR:=match svs,b with
 | [.sl (.sels l)],none=>some ([l.length<=1000000000,Ye l,m=l.length],.sl (.sels (Vx l)))
 | _,_=>none
noncomputable def W28 (m:Nat):Wk:=⟨[(51,.pure (c51 m))],Qe Tryz.f28,false,false,[.tmp 2],[22],[],[]⟩
theorem has28:Has 28:=hsf Tryz.f28
theorem kwz2 {p q:Prop} (k:q) (h:p:=by first | omega | (rw[h03];exact h02.kid)):p/\q:=⟨h,k⟩
theorem QuD (m:Nat):Sat 28 (Qz (c28i m)):=by
 have hD:Qa (W28 m).D:=(Qa.cons Qt9 (QtK m) Qa.nil)
 refine (W28 m).sa hD Tryz.f28 fun svs b K hP=>?_
 obtain⟨ps,v,e,hp,hk⟩:=Qh hP
 unfold c28i at e
 split at e
 rename_i l
 cases e
 obtain⟨h01,h02,h03,_⟩:=hp
 have q:=h02.len
 refine (W28 m).en (cond (decide (l.length=0)) (K (.val (.sl (.sels []))) none) ((l.length<=1000000000)/\(U2 l m 0)/\K (.val (.sl (.sels (YK m l 0)))) none)) ?_
 refine Qb ?_ ?_<;>intro h1<;>try simp[-zd]at h1
 simp[h1]at q
 refine kwz2 (kwz2 ?_)
 exact QeT hk (by rw[h03];rfl)
 cases e
def c28 (svs:List SV) (b:Option SB):QR:=match svs,b with
 | [.sl (.sels l)],none=>some ([l.length<=1000000000,Ye l],.sl (.sels (Vx l)))
 | _,_=>none
theorem sat28:Sat 28 (Qz c28):=by
 refine Sat.imp (Sat.ex QuD) fun svs b K h=>?_
 obtain⟨ps,v,e,hp,hk⟩:=Qh h
 unfold c28 at e
 split at e
 cases e
 rename_i l
 exact⟨l.length,hp.1,hp.2.1,rfl,hk⟩
 cases e
def c12 (svs:List SV) (b:Option SB):QR:=match svs,b with
 | [.sl (.sels l),.sl (.sels r)],none=>some ([l.length<=1000000000/\r.length<=1000000000,Ye l,Ye r],.bool (Qdi l r))
 | _,_=>none
noncomputable def W12:Wk:=⟨[(28,.pure c28)],Qe Tryz.f12,false,false,[.tmp 4],[4],[(5,35)],[]⟩
theorem has12:Has 12:=hsf Tryz.f12
theorem QkI {p q:Prop} (k:q) (h:p:=by first | omega | assumption):p/\q:=⟨h,k⟩
theorem sat12:Sat 12 (Qz c12):=by
 have hD:Qa W12.D:=(Qa.cons has28 sat28 Qa.nil)
 refine W12.sa hD Tryz.f12 fun svs b K hP=>?_
 obtain⟨ps,v,e,hp,hk⟩:=Qh hP
 unfold c12 at e
 split at e
 rename_i l r
 cases e
 obtain⟨h01,h02,h03,_⟩:=hp
 have q1:=h02.len
 have q2:=h03.len
 have L5:∀(mm:Nat) (i:Nat),(Vx l).length-i=mm->((Vx l).length=(Vx r).length/\i<=(Vx l).length/\Qdi l r=Qbi ((Vx l).drop i) ((Vx r).drop i))->W12.L K 5 (mkS 30 [(0,(.sl (.sels (Vx l)))),(1,(.sl (.sels (Vx r)))),(5,(.nat i))] [] 1):=by
  intro mm
  induction mm using zl with
  | _ mm ih=>
   intro i hm hI
   obtain⟨k1,k2,k3⟩:=hI
   refine W12.aL hD (cond (decide (i<(Vx l).length)) ((i<(Vx l).length)/\(i<(Vx r).length)/\cond (!(Qdh ((Vx l).getD i default) ((Vx r).getD i default))) (K (.val (.bool false)) none) ((i+1<=9223372036854775807)/\(W12).L K 5 (mkS 30 [(0,(.sl (.sels (Vx l)))),(1,(.sl (.sels (Vx r)))),(5,(.nat (i+1)))] [] 1))) (K (.val (.bool true)) none)) ?_
   refine Qb ?_ ?_<;>intro h1<;>try simp[-zd]at h1
   refine QkI (QkI ?_)
   refine Qb ?_ ?_<;>intro h2<;>try simp[-zd]at h2
   refine ZW hk ?_
   rw[k3,Qfx h1 (by omega),h2];rfl
   refine QkI ?_
   exact ih _ (by omega) (i+1) rfl ⟨k1,by omega,by rw[k3,Qfx h1 (by omega),h2];rfl⟩
   refine ZW hk ?_
   rw[k3,xv.2 h1,xv.2 (by omega)];rfl
 refine W12.en ((l.length<=1000000000)/\(Ye l)/\(r.length<=1000000000)/\(Ye r)/\cond (!(decide ((Vx l).length=(Vx r).length))) (K (.val (.bool false)) none) ((W12).L K 5 (mkS 30 [(0,(.sl (.sels (Vx l)))),(1,(.sl (.sels (Vx r)))),(5,(.nat 0))] [] 1))) ?_
 refine QkI (QkI (QkI (QkI ?_)))
 refine Qb ?_ ?_<;>intro h1<;>try simp[-zd]at h1
 refine ZW hk ?_
 exact QgU h1
 exact L5 _ 0 rfl ⟨h1,by omega,rfl⟩
 cases e
def c13 (svs:List SV) (b:Option SB):QR:=match svs,b with
 | [.sl (.sels l)],none=>some ([0<l.length/\l.length<=1000000000],.sl (.sels (VP l)))
 | _,_=>none
noncomputable def W13:Wk:=⟨[(29,.fn c29)],Qe Tryz.f13,false,false,[.tmp 2],[22],[],[]⟩
theorem has13:Has 13:=hsf Tryz.f13
theorem kwz4 {p q:Prop} (k:q) (h:p:=by first | omega | (simp;done) | (simp;omega)):p/\q:=⟨h,k⟩
theorem sat13:Sat 13 (Qz c13):=by
 have hD:Qa W13.D:=(Qa.cons Qcm QbW Qa.nil)
 refine W13.sa hD Tryz.f13 fun svs b K hP=>?_
 obtain⟨ps,v,e,hp,hk⟩:=Qh hP
 unfold c13 at e
 split at e
 rename_i l
 cases e
 obtain⟨h01,_⟩:=hp
 refine W13.en ((0<l.length)/\cond (decide ((l.getD 0 default).kind=(23:Int))) (K (.val (.sl (.sels l))) none) ((([l]:List (List SelD)).length<=1000000000)/\(([l]:List (List SelD)).flatten.length<=1000000000000)/\K (.val (.sl (.sels (Qi (SelD.mk (23:Int) (0:Int) [] [] (0:Int) (0:Int) (0:Int) (0:Int)) ([l]:List (List SelD)).flatten)))) none)) ?_
 refine kwz4 ?_
 refine Qb ?_ ?_<;>intro h1<;>try simp[-zd]at h1
 exact QeT hk (by unfold VP;rw[if_pos h1])
 refine kwz4 (kwz4 ?_)
 exact QeT hk (by unfold VP;rw[if_neg h1];simp[Q4])
 cases e
end
section
open Go Go.RowKit Go.Shelf
def lays172_ren:Go.Shelf.Ren:=⟨fun | 172=>153 | 244=>158 | 245=>157 | 247=>165 | 279=>161 | 280=>162 | 281=>163 | 282=>164 | 287=>156 | 316=>166 | 171=>167 | 205=>71 | 321=>159 | 322=>160 | 243=>168 | 246=>169 | 283=>170 | 284=>171 | 285=>172 | 286=>173 | 129=>175 | 317=>174 | 318=>176 | 319=>177 | 320=>178 | 337=>179 | 338=>180 | n=>n,fun | 9=>9 | 3=>3 | 75=>71 | 76=>141 | 4=>4 | 5=>5 | 167=>191 | 37=>37 | 0=>0 | 85=>196 | 2=>2 | 168=>193 | 53=>182 | 175=>183 | 46=>88 | 210=>199 | 127=>149 | 145=>147 | 143=>145 | 21=>21 | 171=>201 | 173=>204 | 212=>207 | 51=>185 | 20=>20 | 213=>208 | 232=>211 | 233=>212 | 80=>63 | n=>n,fun | 15=>4 | 16=>5 | 17=>6 | 18=>7 | 19=>8 | n=>n⟩
theorem QhF:Go.Proofs.LaysC.n172 zf lays172_ren:={
 mixed:=by kernel_rfl,
 f129:=Tryz.func175.trans (congrArg some (by kernel_rfl)),
 f171:=Tryz.func167.trans (congrArg some (by kernel_rfl)),
 f172:=Tryz.func153.trans (congrArg some (by kernel_rfl)),
 f205:=Tryz.func71.trans (congrArg some (by kernel_rfl)),
 f243:=Tryz.func168.trans (congrArg some (by kernel_rfl)),
 f244:=Tryz.func158.trans (congrArg some (by kernel_rfl)),
 f245:=Tryz.func157.trans (congrArg some (by kernel_rfl)),
 f246:=Tryz.func169.trans (congrArg some (by kernel_rfl)),
 f247:=Tryz.func165.trans (congrArg some (by kernel_rfl)),
 f279:=Tryz.func161.trans (congrArg some (by kernel_rfl)),
 f280:=Tryz.func162.trans (congrArg some (by kernel_rfl)),
 f281:=Tryz.func163.trans (congrArg some (by kernel_rfl)),
 f282:=Tryz.func164.trans (congrArg some (by kernel_rfl)),
 f283:=Tryz.func170.trans (congrArg some (by kernel_rfl)),
 f284:=Tryz.func171.trans (congrArg some (by kernel_rfl)),
 f285:=Tryz.func172.trans (congrArg some (by kernel_rfl)),
 f286:=Tryz.func173.trans (congrArg some (by kernel_rfl)),
 f287:=Tryz.func156.trans (congrArg some (by kernel_rfl)),
 f316:=Tryz.func166.trans (congrArg some (by kernel_rfl)),
 f317:=Tryz.func174.trans (congrArg some (by kernel_rfl)),
 f318:=Tryz.func176.trans (congrArg some (by kernel_rfl)),
 f319:=Tryz.func177.trans (congrArg some (by kernel_rfl)),
 f320:=Tryz.func178.trans (congrArg some (by kernel_rfl)),
 f321:=Tryz.func159.trans (congrArg some (by kernel_rfl)),
 f322:=Tryz.func160.trans (congrArg some (by kernel_rfl)),
 f337:=Tryz.func179.trans (congrArg some (by kernel_rfl)),
 f338:=Tryz.func180.trans (congrArg some (by kernel_rfl)),
 t0:=Tryz.underlying0,
 a0:=Tryz.isAgg0,
 z0:=Tryz.sizeOf0,
 v0:=Tryz.zeroValue0,
 t2:=Tryz.underlying2,
 a2:=Tryz.isAgg2,
 z2:=Tryz.sizeOf2,
 v2:=Tryz.zeroValue2,
 t3:=Tryz.underlying3,
 a3:=Tryz.isAgg3,
 z3:=Tryz.sizeOf3,
 v3:=Tryz.zeroValue3,
 t4:=xm,
 a4:=Tryz.isAgg4,
 z4:=Tryz.sizeOf4,
 v4:=Tryz.zeroValue4,
 t5:=Tryz.underlying5,
 a5:=Tryz.isAgg5,
 z5:=Tryz.sizeOf5,
 v5:=Tryz.zeroValue5,
 t9:=Tryz.underlying9,
 a9:=Tryz.isAgg9,
 z9:=Tryz.sizeOf9,
 v9:=Tryz.zeroValue9,
 t20:=Tryz.underlying20,
 a20:=Tryz.isAgg20,
 z20:=Tryz.sizeOf20,
 v20:=Tryz.zeroValue20,
 t21:=Tryz.underlying21,
 a21:=Tryz.isAgg21,
 z21:=Tryz.sizeOf21,
 v21:=Tryz.zeroValue21,
 t37:=Tryz.underlying37,
 a37:=Tryz.isAgg37,
 z37:=Tryz.sizeOf37,
 v37:=Tryz.zeroValue37,
 t46:=Tryz.underlying88,
 a46:=Tryz.isAgg88,
 z46:=Tryz.sizeOf88,
 v46:=Tryz.zeroValue88,
 t51:=Tryz.underlying185,
 a51:=Tryz.isAgg185,
 z51:=Tryz.sizeOf185,
 v51:=Tryz.zeroValue185,
 t53:=Tryz.underlying182,
 a53:=Tryz.isAgg182,
 z53:=Tryz.sizeOf182,
 v53:=Tryz.zeroValue182,
 t75:=Tryz.underlying71,
 a75:=Tryz.isAgg71,
 z75:=Tryz.sizeOf71,
 v75:=Tryz.zeroValue71,
 t76:=Tryz.underlying141,
 a76:=Tryz.isAgg141,
 z76:=Tryz.sizeOf141,
 v76:=Tryz.zeroValue141,
 t85:=Tryz.underlying196,
 a85:=Tryz.isAgg196,
 z85:=Tryz.sizeOf196,
 v85:=Tryz.zeroValue196,
 t127:=Tryz.underlying149,
 a127:=Tryz.isAgg149,
 z127:=Tryz.sizeOf149,
 v127:=Tryz.zeroValue149,
 t143:=Tryz.underlying145,
 a143:=Tryz.isAgg145,
 z143:=Tryz.sizeOf145,
 v143:=Tryz.zeroValue145,
 t145:=Tryz.underlying147,
 a145:=Tryz.isAgg147,
 z145:=Tryz.sizeOf147,
 v145:=Tryz.zeroValue147,
 t167:=Tryz.underlying191,
 a167:=Tryz.isAgg191,
 z167:=Tryz.sizeOf191,
 v167:=Tryz.zeroValue191,
 t168:=Tryz.underlying193,
 a168:=Tryz.isAgg193,
 z168:=Tryz.sizeOf193,
 v168:=Tryz.zeroValue193,
 t171:=Tryz.underlying201,
 a171:=Tryz.isAgg201,
 z171:=Tryz.sizeOf201,
 v171:=Tryz.zeroValue201,
 t173:=Tryz.underlying204,
 a173:=Tryz.isAgg204,
 z173:=Tryz.sizeOf204,
 v173:=Tryz.zeroValue204,
 t175:=Tryz.underlying183,
 a175:=Tryz.isAgg183,
 z175:=Tryz.sizeOf183,
 v175:=Tryz.zeroValue183,
 t210:=Tryz.underlying199,
 a210:=Tryz.isAgg199,
 z210:=Tryz.sizeOf199,
 v210:=Tryz.zeroValue199,
 t212:=Tryz.underlying207,
 a212:=Tryz.isAgg207,
 z212:=Tryz.sizeOf207,
 v212:=Tryz.zeroValue207,
 t213:=Tryz.underlying208,
 a213:=Tryz.isAgg208,
 z213:=Tryz.sizeOf208,
 t232:=Tryz.underlying211,
 a232:=Tryz.isAgg211,
 z232:=Tryz.sizeOf211,
 v232:=Tryz.zeroValue211,
 t233:=Tryz.underlying212,
 a233:=Tryz.isAgg212,
 z233:=Tryz.sizeOf212,
 v233:=Tryz.zeroValue212,
 g15:=by kernel_rfl,
 g16:=by kernel_rfl,
 g17:=by kernel_rfl,
 g18:=by kernel_rfl,
 g19:=by kernel_rfl,
 t80:=Tryz.underlying63,
 a80:=Tryz.isAgg63,
 z80:=Tryz.sizeOf63,
 v80:=Tryz.zeroValue63,
 i0:=by kernel_rfl,
 i2:=by kernel_rfl,
 i3:=by kernel_rfl,
 i4:=by kernel_rfl,
 i5:=by kernel_rfl,
 i9:=by kernel_rfl,
 i20:=by kernel_rfl,
 i21:=by kernel_rfl,
 i37:=by kernel_rfl,
 i46:=by kernel_rfl,
 i51:=by kernel_rfl,
 i53:=by kernel_rfl,
 i75:=by kernel_rfl,
 i76:=by kernel_rfl,
 i80:=by kernel_rfl,
 i85:=by kernel_rfl,
 i127:=by kernel_rfl,
 i143:=by kernel_rfl,
 i145:=by kernel_rfl,
 i167:=by kernel_rfl,
 i168:=by kernel_rfl,
 i171:=by kernel_rfl,
 i173:=by kernel_rfl,
 i175:=by kernel_rfl,
 i210:=by kernel_rfl,
 i212:=by kernel_rfl,
 i232:=by kernel_rfl,
 i233:=by kernel_rfl,
 m15:=by kernel_rfl,
 m16:=by kernel_rfl,
 m17:=by kernel_rfl,
 m18:=by kernel_rfl,
 m19:=by kernel_rfl,
 c0:=by kernel_rfl,
 c2:=by kernel_rfl,
 c3:=by kernel_rfl,
 c4:=by kernel_rfl,
 c5:=by kernel_rfl,
 c9:=by kernel_rfl,
 c20:=by kernel_rfl,
 c21:=by kernel_rfl,
 c37:=by kernel_rfl,
 c46:=by kernel_rfl,
 c51:=by kernel_rfl,
 c53:=by kernel_rfl,
 c75:=by kernel_rfl,
 c76:=by kernel_rfl,
 c80:=by kernel_rfl,
 c85:=by kernel_rfl,
 c127:=by kernel_rfl,
 c143:=by kernel_rfl,
 c145:=by kernel_rfl,
 c167:=by kernel_rfl,
 c168:=by kernel_rfl,
 c171:=by kernel_rfl,
 c173:=by kernel_rfl,
 c175:=by kernel_rfl,
 c210:=by kernel_rfl,
 c212:=by kernel_rfl,
 c213:=by kernel_rfl,
 c232:=by kernel_rfl,
 c233:=by kernel_rfl }
def lays105_ren:Go.Shelf.Ren:=⟨fun | 105=>143 | 212=>149 | 99=>113 | 165=>90 | 166=>91 | 170=>150 | 169=>92 | 263=>154 | 264=>155 | 206=>128 | 240=>105 | 241=>106 | 276=>120 | 277=>121 | n=>n,fun | 9=>9 | 3=>3 | 4=>4 | 20=>20 | 0=>0 | 46=>88 | 109=>179 | 5=>5 | 72=>139 | 76=>141 | 51=>185 | 146=>186 | 53=>182 | 148=>188 | 70=>137 | 37=>37 | 75=>71 | 127=>149 | 164=>161 | 80=>63 | n=>n,fun | n=>n⟩
theorem Jw:Go.Proofs.Lays.n105 zf lays105_ren:={
 mixed:=by kernel_rfl,
 f99:=Tryz.func113.trans (congrArg some (by kernel_rfl)),
 f105:=Tryz.func143.trans (congrArg some (by kernel_rfl)),
 f165:=Tryz.func90.trans (congrArg some (by kernel_rfl)),
 f166:=Tryz.func91.trans (congrArg some (by kernel_rfl)),
 f169:=Tryz.func92.trans (congrArg some (by kernel_rfl)),
 f170:=Tryz.func150.trans (congrArg some (by kernel_rfl)),
 f206:=Tryz.func128.trans (congrArg some (by kernel_rfl)),
 f212:=Tryz.func149.trans (congrArg some (by kernel_rfl)),
 f240:=Tryz.func105.trans (congrArg some (by kernel_rfl)),
 f241:=Tryz.func106.trans (congrArg some (by kernel_rfl)),
 f263:=Tryz.func154.trans (congrArg some (by kernel_rfl)),
 f264:=Tryz.func155.trans (congrArg some (by kernel_rfl)),
 f276:=Tryz.func120.trans (congrArg some (by kernel_rfl)),
 f277:=Tryz.func121.trans (congrArg some (by kernel_rfl)),
 t0:=Tryz.underlying0,
 a0:=Tryz.isAgg0,
 z0:=Tryz.sizeOf0,
 v0:=Tryz.zeroValue0,
 t3:=Tryz.underlying3,
 a3:=Tryz.isAgg3,
 z3:=Tryz.sizeOf3,
 v3:=Tryz.zeroValue3,
 t4:=xm,
 a4:=Tryz.isAgg4,
 z4:=Tryz.sizeOf4,
 v4:=Tryz.zeroValue4,
 t5:=Tryz.underlying5,
 a5:=Tryz.isAgg5,
 z5:=Tryz.sizeOf5,
 v5:=Tryz.zeroValue5,
 t9:=Tryz.underlying9,
 a9:=Tryz.isAgg9,
 z9:=Tryz.sizeOf9,
 v9:=Tryz.zeroValue9,
 t20:=Tryz.underlying20,
 a20:=Tryz.isAgg20,
 z20:=Tryz.sizeOf20,
 v20:=Tryz.zeroValue20,
 t37:=Tryz.underlying37,
 a37:=Tryz.isAgg37,
 z37:=Tryz.sizeOf37,
 v37:=Tryz.zeroValue37,
 t46:=Tryz.underlying88,
 a46:=Tryz.isAgg88,
 z46:=Tryz.sizeOf88,
 v46:=Tryz.zeroValue88,
 t51:=Tryz.underlying185,
 a51:=Tryz.isAgg185,
 z51:=Tryz.sizeOf185,
 v51:=Tryz.zeroValue185,
 t53:=Tryz.underlying182,
 a53:=Tryz.isAgg182,
 z53:=Tryz.sizeOf182,
 v53:=Tryz.zeroValue182,
 t70:=Tryz.underlying137,
 a70:=Tryz.isAgg137,
 z70:=Tryz.sizeOf137,
 v70:=Tryz.zeroValue137,
 t72:=Tryz.underlying139,
 a72:=Tryz.isAgg139,
 z72:=Tryz.sizeOf139,
 v72:=Tryz.zeroValue139,
 t75:=Tryz.underlying71,
 a75:=Tryz.isAgg71,
 z75:=Tryz.sizeOf71,
 v75:=Tryz.zeroValue71,
 t76:=Tryz.underlying141,
 a76:=Tryz.isAgg141,
 z76:=Tryz.sizeOf141,
 v76:=Tryz.zeroValue141,
 t109:=Tryz.underlying179,
 a109:=Tryz.isAgg179,
 z109:=Tryz.sizeOf179,
 v109:=Tryz.zeroValue179,
 t127:=Tryz.underlying149,
 a127:=Tryz.isAgg149,
 z127:=Tryz.sizeOf149,
 v127:=Tryz.zeroValue149,
 t146:=Tryz.underlying186,
 a146:=Tryz.isAgg186,
 z146:=Tryz.sizeOf186,
 v146:=Tryz.zeroValue186,
 t148:=Tryz.underlying188,
 a148:=Tryz.isAgg188,
 z148:=Tryz.sizeOf188,
 v148:=Tryz.zeroValue188,
 t164:=Tryz.underlying161,
 a164:=Tryz.isAgg161,
 z164:=Tryz.sizeOf161,
 v164:=Tryz.zeroValue161 }
theorem QqZ:Builder.Extra zf lays105_ren:={
 sizeBuilder:=by kernel_rfl,
 liesBuilder:=by kernel_rfl,
 t5:=Jw.t5,
 a5:=Jw.a5,
 z5:=Jw.z5,
 v5:=Jw.v5,
 infoByte:=by kernel_rfl,
 cellsByte:=by kernel_rfl,
 sizeByte:=by kernel_rfl,
 neB5:=by decide }
theorem Sat.lib {f:FuncId} {P:Spec} (h:∀(w:World) (ω:Wit) (svs:List SV) (args:Array Value) (b:Option SB) (K:Out->Option SB->Prop),
 (∀g,QjB g=true->∃t v,w.cell? ⟨g,0,none⟩=some (.iface t v))->args.size=svs.length->(∀(i:Nat) (s:SV) (v:Value),svs[i]? = some s->args[i]? = some v->Rel ω s v)->P svs b K ->
 b=none/\Calls zf f args w fun e w'=>∃v s,e=.returned v/\K (.val s) none/\s.lt 0=true/\Rel ω s v/\Below w.heap.size w w'):Sat f P:=by
 intro g0 w M ω svs args b K hS hn hr hP
 obtain⟨rfl,hc⟩:=h w ω svs args b K (fun g hg=>by
  obtain⟨t,v,T,hG⟩:=g0.err g hg
  obtain⟨fr,hh⟩:=hS.gam g _ _ (hS.gl _ _ hG)
  exact⟨t,v,by rw[Z8 hh];rfl⟩) hn hr hP
 refine hc.mono ?_
 rintro e w' ⟨v,s,he,hk,hl,hv,hb⟩
 refine⟨v,.val s,none,he,hk,ω,loc none,?_,(fun c e=>by cases e),hl,hv⟩
 have:=hS.grow (Wit.le.refl ω) hb.os hb.tape hb.output hb.size hb.block (fun b c T e=>.inl e)
 rw[hS.wn]at this
 exact this
theorem QiQ {ω:Wit} {a b:SV} {u v:Value} (h:Rel ω a u) (k:Rel ω b v):Rel ω (.tup [a,b]) (.tuple #[u,v]):=by
 refine .tup _ _ rfl fun i s x h1 h2=>?_
 match i with
 | 0=>simp at h1 h2;rw[<-h1,<-h2];exact h
 | 1=>simp at h1 h2;rw[<-h1,<-h2];exact k
 | i+2=>simp at h1
theorem Qs9 (l:Bs):∀n:Nat,n<=l.foldl (fun n c=>10*n+(c.toNat-48)) n:=by
 induction l with
 | nil=>intro n;exact zm _
 | cons c l ih=>intro n;have:=ih (10*n+(c.toNat-48));simp only[xi];omega
theorem Ql2:∀(l:Bs) (acc:Nat),acc<18446744073709551616->(∀c∈l,Qu c.toNat=true) ->
 Lib.parseUint10 acc l=if l.foldl (fun n c=>10*n+(c.toNat-48)) acc<18446744073709551616 then .ok (l.foldl (fun n c=>10*n+(c.toNat-48)) acc) else .range
 | [],acc,h,hd=>by rw[Lib.parseUint10,List.foldl_nil,if_pos h]
 | c::r,acc,h,hd=>by
  have hc:=hd c (by simp)
  simp only[Qu,zk,decide_eq_true_eq]at hc
  have hf:=Qs9 r (10*acc+(c.toNat-48))
  rw[Lib.parseUint10,if_pos hc,xi]
  split
  rw[if_neg (by omega)]
  split
  rw[if_neg (by omega)]
  rw[show acc*10+(c.toNat-48)=10*acc+(c.toNat-48) from by omega]
  exact Ql2 r _ (by omega) fun x hx=>hd x (by simp[hx])
theorem QjN {l:Bs} (h0:0<l.length) (hd:∀c∈l,Qu c.toNat=true):Lib.atoiAll l=if YO l<=9223372036854775807 then .ok (YO l:Int) else .range:=by
 match l,h0 with
 | c::r,_=>
  have hc:=hd c (by simp)
  simp only[Qu,zk,decide_eq_true_eq]at hc
  have hp:=Ql2 (c::r) 0 (by omega) hd
  have e:(c::r).foldl (fun n c=>10*n+(c.toNat-48)) 0=YO (c::r):=rfl
  rw[e]at hp
  unfold Lib.atoiAll
  simp only
  rw[if_neg (by omega),Lib.parseMag,if_neg (by simp),hp]
  by_cases h1:YO (c::r)<18446744073709551616
  rw[if_pos h1]
  simp only
  by_cases h2:YO (c::r)<=9223372036854775807
  rw[if_neg (by omega),if_neg (by omega),if_pos h2,if_neg (by omega)]
  rw[if_pos (by omega),if_neg h2]
  rw[if_neg h1,if_neg (by omega)]
def c153 (svs:List SV) (b:Option SB) (K:Out->Option SB->Prop):Prop:=match svs,b with
 | [.str l],none=>l.length<=1000000/\0<l.length/\(∀c∈l,Qu c.toNat=true) /\
  cond (decide (YO l<=9223372036854775807)) (K (.val (.tup [.nat (YO l),.nilif])) none) (∀n:Int,K (.val (.tup [.int .i64 n,.ifx])) none)
 | _,_=>False
theorem QwK:Has 153:=hsf Tryz.f153
theorem Qu2:Sat 153 c153:=by
 refine Sat.lib fun w ω svs args b K hg hn hr hP=>?_
 unfold c153 at hP
 split at hP
 rename_i l
 obtain⟨h1,h2,h3,h4⟩:=hP
 refine⟨rfl,?_⟩
 obtain⟨xs⟩:=args
 match xs,hn with
 | [x],_=>
  have hx:=(hr 0 _ x rfl rfl).str_inv
  subst hx
  have hs:(⟨l.toArray⟩:ByteArray).data.toList=l:=rfl
  have hz:(⟨l.toArray⟩:ByteArray).size=l.length:=rfl
  have ha:=QjN h2 h3
  by_cases hv:YO l<=9223372036854775807
  rw[if_pos hv]at ha
  rw[decide_eq_true hv]at h4
  have hA:=Any.strconv_Atoi_ok QhF ⟨l.toArray⟩ (by rw[hz];omega) _ (by rw[hs];exact ha) w
  refine hA.mono ?_
  rintro e w' ⟨he,hw⟩
  refine⟨_,_,he,h4,rfl,QiQ (.nat _) .nilif,?_⟩
  rcases hw with rfl | ⟨t,rfl⟩
  exact Below.refl _ _
  exact Lib.bytesWorld_below w _ t
  rw[if_neg hv]at ha
  rw[decide_eq_false hv]at h4
  obtain⟨t,v,hc⟩:=hg 5 rfl
  have hA:=Any.strconv_Atoi_range QhF ⟨l.toArray⟩ (by rw[hz];omega) (by rw[hs];exact ha) _ w hc (.inr ⟨t,v,rfl⟩)
  refine hA.mono ?_
  rintro e w' ⟨N,he,_,_,hb⟩
  exact⟨_,_,he,h4 _,rfl,QiQ (.int _ _) (.ifx _ _),hb⟩
 exact hP.elim
def c143 (svs:List SV) (b:Option SB):QR:=match svs,b with
 | [.str l,.nat c],none=>some ([l.length*c<=140737488355328/\c<=9223372036854775807],.str (Lib.repeatL l c))
 | _,_=>none
theorem QwR:Has 143:=hsf Tryz.f143
theorem Qu9:Sat 143 (Qz c143):=by
 refine Sat.lib fun w ω svs args b K hg hn hr hP=>?_
 obtain⟨ps,v,e,hp,hk⟩:=Qh hP
 unfold c143 at e
 split at e
 rename_i l c
 cases e
 refine⟨rfl,?_⟩
 obtain⟨xs⟩:=args
 match xs,hn with
 | [x,y],_=>
  have hx:=(hr 0 _ x rfl rfl).str_inv
  have hy:=(hr 1 _ y rfl rfl).nat_inv
  subst hx
  subst hy
  have hz:(⟨l.toArray⟩:ByteArray).size=l.length:=rfl
  have hA:=Any.strings_Repeat Jw QqZ ⟨l.toArray⟩ c w hp.1.2 (by rw[hz];exact hp.1.1)
  refine hA.mono ?_
  rintro e w' ⟨he,hb⟩
  exact⟨_,_,he,hk,rfl,.str _,hb⟩
 cases e
end
section
open Go Go.RowKit
set_option maxRecDepth 20000
theorem Qkz {l:Bs} {i:Nat} (h:low (l.take i)=l.take i):low (l.take i)++l.drop i=l:=by rw[h,List.take_append_drop]
theorem Qhy (l:Bs) (i:Nat) (h:l.length<=i):low (l.take i)++l.drop i=low l:=by rw[zS h,xv.2 h,List.append_nil]
theorem byt32 (c:UInt8):c+97-65=c+32:=by
 apply UInt8.toNat_inj.1
 rw[UInt8.toNat_sub,xf,xf]
 have h1:(97:UInt8).toNat=97:=rfl
 have h2:(65:UInt8).toNat=65:=rfl
 have h3:(32:UInt8).toNat=32:=rfl
 omega
def c133 (svs:List SV) (b:Option SB) (K:Out->Option SB->Prop):Prop:=match svs,b with
 | [.ptr 0 0],some (.blk 94 [.str s,.nat i,.nat d,.bool a])=>s.length<=1000000/\i<=s.length/\Qt (Vu s i) (fun j=>i<j/\j<=s.length->K (.val (.bool true)) (some (.blk 94 [.str s,.nat j,.nat d,.bool a]))) (K (.val (.bool false)) (some (.blk 94 [.str s,.nat i,.nat d,.bool a])))
 | _,_=>False
noncomputable def W133:Wk:=⟨[(99,.fn c99)],Qe Tryz.f133,true,false,[.tmp 2],[4],[],[]⟩
theorem Qw1:Has 133:=hsf Tryz.f133
theorem Qjf {p q:Prop} (k:q) (h:p:=by first | omega | (have:=Vw s i h02;omega) | (simp;done) | (simp;omega) | (simp;have:=Vw s i h02;omega)):p/\q:=⟨h,k⟩
theorem kxz1 {c0 p0 p1 p2 q:Prop} (k:q) (h:c0->p0/\p1/\p2/\True:=by intro g0;(try simp at g0);exact⟨(by first | omega | (have:=Vw s i h02;omega) | (simp;done) | (simp;omega) | (simp;have:=Vw s i h02;omega)),(by first | omega | (have:=Vw s i h02;omega) | (simp;done) | (simp;omega) | (simp;have:=Vw s i h02;omega)),(by first | omega | (have:=Vw s i h02;omega) | (simp;done) | (simp;omega) | (simp;have:=Vw s i h02;omega)),trivial⟩):(c0->p0/\p1/\p2/\True)/\q:=⟨h,k⟩
theorem Qca {c0 p0 q:Prop} (k:q) (h:c0->p0/\True:=by intro g0;(try simp at g0);exact⟨(by first | omega | (have:=Vw s i h02;omega) | (simp;done) | (simp;omega) | (simp;have:=Vw s i h02;omega)),trivial⟩):(c0->p0/\True)/\q:=⟨h,k⟩
theorem Qvj:Sat 133 c133:=by
 have hD:Qa W133.D:=(Qa.cons QgA Qf2 Qa.nil)
 refine W133.sa hD Tryz.f133 fun svs b K hP=>?_
 unfold c133 at hP
 split at hP
 rename_i s i d a
 obtain⟨h01,h02,hk⟩:=hP
 refine W133.en (have a1:=decide (i<s.length);have a0:=a1=true->((a1==true)=true)/\True;a0/\a0/\a0/\a0/\a0/\a0/\(a1=true->((a1==true)=true)/\((a1==true)=true)/\(i<s.length)/\True)/\a0/\(a1=true->(a1==true)=true)/\cond (a1&&(decide (bat s i=40))) ((i+1<=9223372036854775807)/\(s.length<=1000000)/\(i+1<=s.length)/\K (.val (.bool true)) (some (.blk 94 [(.str s),(.nat (iWs s (i+1))),(.nat d),(.bool a)]))) (K (.val (.bool false)) (some (.blk 94 [(.str s),(.nat i),(.nat d),(.bool a)])))) ?_
 refine Qca (Qca (Qca (Qca (Qca (Qca (kxz1 (Qca (Qjf ?_))))))))
 refine Qb ?_ ?_<;>intro h1<;>try simp[-zd]at h1
 refine Qjf (Qjf (Qjf ?_))
 have e:Vu s i=some (iWs s (i+1)):=by unfold Vu;rw[if_pos h1]
 rw[e]at hk
 exact hk ⟨by have:=QQ s (i+1);omega,Vw s (i+1) (by omega)⟩
 have e:Vu s i=none:=by unfold Vu;rw[if_neg (by intro q;exact h1 q.1 q.2)]
 rw[e]at hk
 exact hk
 exact hP.elim
def c134 (svs:List SV) (b:Option SB) (K:Out->Option SB->Prop):Prop:=match svs,b with
 | [.ptr 0 0],some (.blk 94 [.str s,.nat i,.nat d,.bool a])=>s.length<=1000000/\i<=s.length/\Qt (QT s i) (fun j=>i<j/\j<=s.length->K (.val (.bool true)) (some (.blk 94 [.str s,.nat j,.nat d,.bool a]))) (K (.val (.bool false)) (some (.blk 94 [.str s,.nat i,.nat d,.bool a])))
 | _,_=>False
noncomputable def W134:Wk:=⟨[(99,.fn c99)],Qe Tryz.f134,true,false,[.tmp 2],[4],[],[]⟩
theorem Qw0:Has 134:=hsf Tryz.f134
theorem Qvi:Sat 134 c134:=by
 have hD:Qa W134.D:=(Qa.cons QgA Qf2 Qa.nil)
 refine W134.sa hD Tryz.f134 fun svs b K hP=>?_
 unfold c134 at hP
 split at hP
 rename_i s i d a
 obtain⟨h01,h02,hk⟩:=hP
 refine W134.en (have a1:=decide (iWs s i<s.length);have a0:=a1=true->((a1==true)=true)/\True;(s.length<=1000000)/\(i<=s.length)/\a0/\a0/\a0/\a0/\a0/\a0/\(a1=true->((a1==true)=true)/\((a1==true)=true)/\(iWs s i<s.length)/\True)/\a0/\(a1=true->(a1==true)=true)/\cond (a1&&(decide (bat s (iWs s i)=41))) ((iWs s i+1<=9223372036854775807)/\K (.val (.bool true)) (some (.blk 94 [(.str s),(.nat (iWs s i+1)),(.nat d),(.bool a)]))) (K (.val (.bool false)) (some (.blk 94 [(.str s),(.nat i),(.nat d),(.bool a)])))) ?_
 refine Qjf (Qjf (Qca (Qca (Qca (Qca (Qca (Qca (kxz1 (Qca (Qjf ?_))))))))))
 refine Qb ?_ ?_<;>intro h1<;>try simp[-zd]at h1
 refine Qjf ?_
 have e:QT s i=some (iWs s i+1):=by unfold QT;rw[if_pos h1]
 rw[e]at hk
 exact hk ⟨by have:=QQ s i;omega,by omega⟩
 have e:QT s i=none:=by unfold QT;rw[if_neg (by intro q;exact h1 q.1 q.2)]
 rw[e]at hk
 exact hk
 exact hP.elim
def Qol (svs:List SV) (b:Option SB):QR:=match svs,b with
 | [.str l],none=>some ([l.length<=1000000000],.str (low l))
 | _,_=>none
noncomputable def QdF:Wk:=⟨[],Qe Tryz.f130,false,false,[.tmp 2],[9],[(3,25)],[]⟩
theorem QhV:Has 130:=hsf Tryz.f130
theorem Jx {p q:Prop} (k:q) (h:p:=by first | omega | (simp[low];omega) | (simp;done) | (simp;omega)):p/\q:=⟨h,k⟩
theorem Qg9:Sat 130 (Qz Qol):=by
 have hD:Qa QdF.D:=Qa.nil
 refine QdF.sa hD Tryz.f130 fun svs b K hP=>?_
 obtain⟨ps,v,e,hp,hk⟩:=Qh hP
 unfold Qol at e
 split at e
 rename_i l
 cases e
 obtain⟨h01,_⟩:=hp
 have L3b:∀(mm:Nat) (i:Nat),l.length-i=mm->(i<=l.length/\0<l.length)->QdF.L K 3 (mkS 41 [(0,(.str l)),(3,(.own 1)),(4,(.nat i))] [(1,.row (.bytes (low (l.take i)++l.drop i)) true)] 2):=by
  intro mm
  induction mm using zl with
  | _ mm ih=>
   intro i hm hI
   refine QdF.aL hD (have a0:=low (l.take i)++l.drop i;cond (decide (i<l.length)) ((i<l.length)/\cond ((decide (65<=bat l i))&&(decide (bat l i<=90))) ((0<a0.length)/\(i<l.length)/\(i<a0.length)/\(i<a0.length)/\(i+1<=9223372036854775807)/\(QdF).L K 3 (mkS 41 [(0,(.str l)),(3,(.own 1)),(4,(.nat (i+1)))] [(1,.row (.bytes (a0.set i (l.getD i 0+32))) true)] 2)) ((i+1<=9223372036854775807)/\(QdF).L K 3 (mkS 41 [(0,(.str l)),(3,(.own 1)),(4,(.nat (i+1)))] [(1,.row (.bytes a0) true)] 2))) ((0<a0.length)/\K (.val (.str a0)) none)) ?_
   refine Qb ?_ ?_<;>intro h1<;>try simp[-zd]at h1
   refine Jx ?_
   refine Qb ?_ ?_<;>intro h2<;>try simp[-zd]at h2
   refine Jx (Jx (Jx (Jx (Jx ?_))))
   have e:(low (l.take i)++l.drop i).set i (l.getD i 0+32)=low (l.take (i+1))++l.drop (i+1):=by
    rw[<-QdW l i h1];unfold Uf;rw[if_pos (show 65<=(l.getD i 0).toNat/\(l.getD i 0).toNat<=90 from h2)]
   rw[e]
   exact ih _ (by omega) (i+1) rfl ⟨by omega,by omega⟩
   refine Jx ?_
   rw[Qb8 l i h1 (by unfold Uf;rw[if_neg (fun h=>by have:=h2 h.1;have h3:bat l i<=90:=h.2;omega)])]
   exact ih _ (by omega) (i+1) rfl ⟨by omega,by omega⟩
   refine Jx ?_
   rw[Qhy l i (by omega)]
   exact hk
 have L3:∀(mm:Nat) (i:Nat),l.length-i=mm->(i<=l.length/\low (l.take i)=l.take i)->QdF.L K 3 (mkS 41 [(0,(.str l)),(3,.nilsl),(4,(.nat i))] [] 1):=by
  intro mm
  induction mm using zl with
  | _ mm ih=>
   intro i hm hI
   obtain⟨k1,k2⟩:=hI
   refine QdF.aL hD (cond (decide (i<l.length)) ((i<l.length)/\cond ((decide (65<=bat l i))&&(decide (bat l i<=90))) ((l.length=l.length)/\(l.length<=1099511627776)/\((zM l.length (0:UInt8)).length=l.length)/\(i<l.length)/\(i<l.length)/\(i<l.length)/\(i+1<=9223372036854775807)/\(QdF).L K 3 (mkS 41 [(0,(.str l)),(3,(.own 1)),(4,(.nat (i+1)))] [(1,.row (.bytes (l.set i (l.getD i 0+32))) true)] 2)) ((i+1<=9223372036854775807)/\(QdF).L K 3 (mkS 41 [(0,(.str l)),(3,.nilsl),(4,(.nat (i+1)))] [] 1))) (K (.val (.str l)) none)) ?_
   refine Qb ?_ ?_<;>intro h1<;>try simp[-zd]at h1
   refine Jx ?_
   refine Qb ?_ ?_<;>intro h2<;>try simp[-zd]at h2
   refine Jx (Jx (Jx (Jx (Jx (Jx (Jx ?_))))))
   have e:l.set i (l.getD i 0+32)=low (l.take (i+1))++l.drop (i+1):=by
    rw[<-QdW l i h1,Qkz k2];unfold Uf;rw[if_pos (show 65<=(l.getD i 0).toNat/\(l.getD i 0).toNat<=90 from h2)]
   rw[e]
   exact L3b _ (i+1) rfl ⟨by omega,by omega⟩
   refine Jx ?_
   have e:=Qb8 l i h1 (by unfold Uf;rw[if_neg (fun h=>by have:=h2 h.1;have h3:bat l i<=90:=h.2;omega)])
   rw[Qkz k2]at e
   exact ih _ (by omega) (i+1) rfl ⟨by omega,List.append_cancel_right (bs:=l.drop (i+1)) (by rw[List.take_append_drop];exact e.symm)⟩
   have e:=Qhy l i (by omega)
   rw[Qkz k2]at e
   rw[<-e]at hk
   exact hk
 refine QdF.en ((QdF).L K 3 (mkS 41 [(0,(.str l)),(3,.nilsl),(4,(.nat 0))] [] 1)) ?_
 exact L3 _ 0 rfl ⟨by omega,by simp[low]⟩
 cases e
def c135 (svs:List SV) (b:Option SB):QR:=match svs,b with
 | [.str l],none=>some ([l.length<=1000000000],.str (low l))
 | _,_=>none
noncomputable def QjQ:Wk:=⟨[],Qe Tryz.f135,false,false,[.tmp 2],[9],[(3,1800)],[]⟩
theorem QwZ:Has 135:=hsf Tryz.f135
theorem Qvh:Sat 135 (Qz c135):=by
 have hD:Qa QjQ.D:=Qa.nil
 refine QjQ.sa hD Tryz.f135 fun svs b K hP=>?_
 obtain⟨ps,v,e,hp,hk⟩:=Qh hP
 unfold c135 at e
 split at e
 rename_i l
 cases e
 obtain⟨h01,_⟩:=hp
 have L3:∀(mm:Nat) (i:Nat),l.length-i=mm->(i<=l.length)->QjQ.L K 3 (mkS 30 [(3,(.own 1)),(8,(.own 1)),(9,(.nat l.length)),(10,(.nat i))] [(1,.row (.bytes (low (l.take i)++l.drop i)) false)] 2):=by
  intro mm
  induction mm using zl with
  | _ mm ih=>
   intro i hm hI
   refine QjQ.aL hD (have a0:=low (l.take i)++l.drop i;cond (decide (i<l.length)) ((i<a0.length)/\(i<a0.length)/\cond ((decide (65<=bat a0 i))&&(decide (bat a0 i<=90))) ((i<a0.length)/\(i<a0.length)/\(i+1<=9223372036854775807)/\(QjQ).L K 3 (mkS 30 [(3,(.own 1)),(8,(.own 1)),(9,(.nat l.length)),(10,(.nat (i+1)))] [(1,.row (.bytes (a0.set i (a0.getD i 0+97-65))) false)] 2)) ((i+1<=9223372036854775807)/\(QjQ).L K 3 (mkS 30 [(3,(.own 1)),(8,(.own 1)),(9,(.nat l.length)),(10,(.nat (i+1)))] [(1,.row (.bytes a0) false)] 2))) (K (.val (.str a0)) none)) ?_
   refine Qb ?_ ?_<;>intro h1<;>try simp[-zd]at h1
   refine Jx (Jx ?_)
   refine Qb ?_ ?_<;>intro h2<;>try simp[-zd]at h2
   refine Jx (Jx (Jx ?_))
   rw[Qd8 l i h1]at h2
   have e:(low (l.take i)++l.drop i).set i ((low (l.take i)++l.drop i).getD i 0+97-65)=low (l.take (i+1))++l.drop (i+1):=by
    rw[<-QdW l i h1,QkA l i h1,byt32];unfold Uf;rw[if_pos (show 65<=(l.getD i 0).toNat/\(l.getD i 0).toNat<=90 from h2)]
   rw[e]
   exact ih _ (by omega) (i+1) rfl (by omega)
   refine Jx ?_
   rw[Qd8 l i h1]at h2
   rw[Qb8 l i h1 (by unfold Uf;rw[if_neg (fun h=>by have:=h2 h.1;have h3:bat l i<=90:=h.2;omega)])]
   exact ih _ (by omega) (i+1) rfl (by omega)
   rw[Qhy l i (by omega)]
   exact hk
 refine QjQ.en ((l.length<=1099511627776)/\(QjQ).L K 3 (mkS 30 [(3,(.own 1)),(8,(.own 1)),(9,(.nat l.length)),(10,(.nat 0))] [(1,.row (.bytes l) false)] 2)) ?_
 refine Jx ?_
 exact L3 _ 0 rfl (by omega)
 cases e
end
end Go.Proofs.YtengepcafdnalaaGreatDoor
