/-
  Parts of the proof that the law FnPrintGrammar holds for every input (texts Kr, Kt, Ku, Kv, Kw, Ks, Kx). Conditions: none.
-/
import Derived.Test.YtengepcafdnalaaGreatDoorM24
import Derived.Shelf.Strconv.AtoiAll
import Derived.Shelf.Strings.Repeat
import Derived.Lib.AtoiErrMem
namespace Go.Proofs.YtengepcafdnalaaGreatDoor
open _root_.Bool renaming and_eq_true → zh
open _root_.List renaming getD_eq_getElem?_getD → za, length_append → zf, drop_eq_nil_iff → xy, append_assoc → zq, length_drop → zI, mem_cons → zp, map_cons → zY, getElem?_cons_zero → zC, length_cons → zg, take_add_one → zN, getElem?_eq_getElem → ze, take_length → xi, append_nil → zD, length_eq_zero_iff → xh, drop_eq_getElem_cons → zG, foldl_cons → z8, take_of_length_le → zS, replicate → zR
open _root_.Nat renaming strongRecOn → zi, mul_le_mul_left → zA, le_refl → zj
open Go.Proofs.Tryz renaming prog → zd
open _root_.UInt8 renaming toNat_add → xj
section
open Go Go.RowKit
set_option maxRecDepth 20000
theorem Qhf {a b:List SelD}:[a,b].flatten.length=a.length+b.length:=by simp
def cpxM (s:Bs) (t:RS):Nat:=if t.bad=true then 0 else s.length+2-t.p
structure Cpx3 (s:Bs) (ps pseudo:Bool) (m:Nat) (t0 t:RS) (left:List SelD):Prop where
 up:Up s t0 t
 n5:left.length<=(3*(m+1)+11)*t.p+5
 n2:t.bad=false->left.length<=(3*(m+1)+11)*t.p+2
 lf:Lf left
 e:Yj (Qo s ps (m+1)) s ps pseudo t0=VU (Qo s ps (m+1)) s ps pseudo t left
def c42 (m:Nat) (svs:List SV) (b:Option SB):FR:=match svs,b with
 | [.ptr 0 0,.bool pseudo],some (.blk 46 [.str s,.nat p,.bool bad,.bool un,.bool ps])=>some ([s.length<=100000,p<=s.length+1,s.length<=m+p,m<=200000],.row (.sels (Yj (Qo s ps (m+1)) s ps pseudo ⟨p,bad,un⟩).1),some (.blk 46 [.str s,.nat (Yj (Qo s ps (m+1)) s ps pseudo ⟨p,bad,un⟩).2.p,.bool (Yj (Qo s ps (m+1)) s ps pseudo ⟨p,bad,un⟩).2.bad,.bool (Yj (Qo s ps (m+1)) s ps pseudo ⟨p,bad,un⟩).2.un,.bool ps]))
 | _,_=>none
noncomputable def W42 (m:Nat):Wk:=⟨[(29,.fn c29),(64,.fn c64),(65,.fn (c65 m)),(66,.pure c66),(67,.pure c67),(68,.fn c68)],Qh Tryz.f42,true,true,[.tmp 4],[22],[(3,35),(21,163)],[21]⟩
theorem has42:Has 42:=hsf Tryz.f42
theorem krz3 {c0 p0 p1 p2 q:Prop} (k:q) (h:c0->p0/\p1/\p2/\True:=by intro g0;(try simp at g0);exact⟨(by first | omega | (simp;done) | exact k1.lf.2 g0 | exact k1.lf.2 g1 | (rw[Qhf];omega) | (simp;omega) | (have:=QX (s:=s) (p:=(sSp s t).p) (by omega);omega) | (have:=QX (s:=s) (p:=(sSp s t).p) (by omega);exact QB s _ (by show _+1<=_;omega)) | (simp[h1];done) | exact (QG s ⟨p,bad,un⟩ h02).2 | (have u0:=QG s ⟨p,bad,un⟩ h02;have u9:=u0.1;have u8:=u0.2;simp only at u9;omega)),(by first | omega | (simp;done) | exact k1.lf.2 g0 | exact k1.lf.2 g1 | (rw[Qhf];omega) | (simp;omega) | (have:=QX (s:=s) (p:=(sSp s t).p) (by omega);omega) | (have:=QX (s:=s) (p:=(sSp s t).p) (by omega);exact QB s _ (by show _+1<=_;omega)) | (simp[h1];done) | exact (QG s ⟨p,bad,un⟩ h02).2 | (have u0:=QG s ⟨p,bad,un⟩ h02;have u9:=u0.1;have u8:=u0.2;simp only at u9;omega)),(by first | omega | (simp;done) | exact k1.lf.2 g0 | exact k1.lf.2 g1 | (rw[Qhf];omega) | (simp;omega) | (have:=QX (s:=s) (p:=(sSp s t).p) (by omega);omega) | (have:=QX (s:=s) (p:=(sSp s t).p) (by omega);exact QB s _ (by show _+1<=_;omega)) | (simp[h1];done) | exact (QG s ⟨p,bad,un⟩ h02).2 | (have u0:=QG s ⟨p,bad,un⟩ h02;have u9:=u0.1;have u8:=u0.2;simp only at u9;omega)),trivial⟩):(c0->p0/\p1/\p2/\True)/\q:=⟨h,k⟩
theorem krz2 {c0 c1 p0 q:Prop} (k:q) (h:c0->c1->p0/\True:=by intro g0 g1;(try simp at g0);(try simp at g1);exact⟨(by first | omega | (simp;done) | exact k1.lf.2 g0 | exact k1.lf.2 g1 | (rw[Qhf];omega) | (simp;omega) | (have:=QX (s:=s) (p:=(sSp s t).p) (by omega);omega) | (have:=QX (s:=s) (p:=(sSp s t).p) (by omega);exact QB s _ (by show _+1<=_;omega)) | (simp[h1];done) | exact (QG s ⟨p,bad,un⟩ h02).2 | (have u0:=QG s ⟨p,bad,un⟩ h02;have u9:=u0.1;have u8:=u0.2;simp only at u9;omega)),trivial⟩):(c0->c1->p0/\True)/\q:=⟨h,k⟩
theorem krz1 {c0 p0 q:Prop} (k:q) (h:c0->p0/\True:=by intro g0;(try simp at g0);exact⟨(by first | omega | (simp;done) | exact k1.lf.2 g0 | exact k1.lf.2 g1 | (rw[Qhf];omega) | (simp;omega) | (have:=QX (s:=s) (p:=(sSp s t).p) (by omega);omega) | (have:=QX (s:=s) (p:=(sSp s t).p) (by omega);exact QB s _ (by show _+1<=_;omega)) | (simp[h1];done) | exact (QG s ⟨p,bad,un⟩ h02).2 | (have u0:=QG s ⟨p,bad,un⟩ h02;have u9:=u0.1;have u8:=u0.2;simp only at u9;omega)),trivial⟩):(c0->p0/\True)/\q:=⟨h,k⟩
theorem Ja {p q:Prop} (k:q) (h:p:=by first | omega | (simp;done) | exact k1.lf.2 g0 | exact k1.lf.2 g1 | (rw[Qhf];omega) | (simp;omega) | (have:=QX (s:=s) (p:=(sSp s t).p) (by omega);omega) | (have:=QX (s:=s) (p:=(sSp s t).p) (by omega);exact QB s _ (by show _+1<=_;omega)) | (simp[h1];done) | exact (QG s ⟨p,bad,un⟩ h02).2 | (have u0:=QG s ⟨p,bad,un⟩ h02;have u9:=u0.1;have u8:=u0.2;simp only at u9;omega)):p/\q:=⟨h,k⟩
theorem sat42 (m:Nat) (hG:Sat 23 (fnS (c23 m))):Sat 42 (fnS (c42 m)):=by
 have hD:Qb (W42 m).D:=(Qb.cons QcV Qcv (Qb.cons Qni QmB (Qb.cons has65 (sat65 m hG) (Qb.cons Ua J6 (Qb.cons has67 sat67 (Qb.cons Qkk Qjh Qb.nil))))))
 refine (W42 m).sa hD Tryz.f42 fun svs b K hP=>?_
 obtain⟨ps,o,b',e,hp,hk⟩:=Vy hP
 unfold c42 at e
 split at e
 rename_i pseudo s p bad un ps
 cases e
 obtain⟨h01,h02,h03,h04,_⟩:=hp
 have L21:∀(mm:Nat) (op:Nat) (left:List SelD) (t:RS),0=mm->(Cpx3 s ps pseudo m ⟨p,bad,un⟩ t left/\t.bad=false/\(op:Int)=Uy s t/\¬Ud s t/\∀t' left',cpxM s t'<cpxM s t->Cpx3 s ps pseudo m ⟨p,bad,un⟩ t' left'->(W42 m).L K 3 (mkS 103 [(0,(.ptr 0 0)),(1,(.bool pseudo)),(5,(.own 1))] [(1,.row (.sels left') true),(0,.blk 46 [(.str s),(.nat t'.p),(.bool t'.bad),(.bool t'.un),(.bool ps)])] 2))->(W42 m).C K 21 (mkS 103 [(0,(.ptr 0 0)),(1,(.bool pseudo)),(5,(.sl (.sels left))),(7,(.nat op))] [(0,.blk 46 [(.str s),(.nat ((VB s t).p)),(.bool ((VB s t).bad)),(.bool ((VB s t).un)),(.bool ps)])] 1):=by
  intro mm
  induction mm using zi with
  | _ mm ih=>
   intro op left t hm hI
   obtain⟨k1,k2,k3,k4,ih3⟩:=hI
   have u:=k1.up
   have u2:=u.trans (Qc3 u.2)
   have k6:p<=(VB s t).p:=u2.1
   have k7:(VB s t).p<=s.length+1:=u2.2
   have z1:=k1.lf.1.1
   have kn:=k1.n2 k2
   have kc:(3*(m+1)+11)*t.p<=700011*100001:=Nat.mul_le_mul (by omega) (by have:=u.2;omega)
   have kr:=Qe0 (c:=3*(m+1)+8) (by omega) (Zf s ps (m+1)) ps pseudo (VB s t) u2.2
   have kr2:(3*(m+1)+8)*(VG (Qo s ps (m+1)) s ps pseudo (VB s t)).2.p<=700011*100001:=Nat.mul_le_mul (by omega) (by have:=kr.1.2;omega)
   have kr3:=kr.2
   refine (W42 m).aC hD (have a0:=VG (Qo s ps (m+1)) s ps pseudo (VB s t);have a1:=(decide ((left.getD 0 default).kind=(21:Int)))&&(!(decide ((left.getD 0 default).val=[])));have a2:=decide ((left.getD 0 default).kind=(22:Int));(0<left.length)/\((decide ((left.getD 0 default).kind=(21:Int)))=true->(0<left.length)/\True)/\(a1=false->(0<left.length)/\True)/\(a1=false->a2=true->(∃n a c,LastOk left n a c)/\True)/\cond (a1||(a2&&(!(decide (J7 left (left.length+1) 0=[]))))) (K (.row (.sels failL)) (some (.blk 46 [(.str s),(.nat ((VB s t).p)),(.bool true),(.bool true),(.bool ps)]))) ((s.length<=100000)/\((VB s t).p<=s.length+1)/\(s.length<=m+(VB s t).p)/\(m<=200000)/\(([left,a0.1]:List (List SelD)).length<=1000000000)/\(([left,a0.1]:List (List SelD)).flatten.length<=1000000000000)/\(W42 m).L K 3 (mkS 103 [(0,(.ptr 0 0)),(1,(.bool pseudo)),(5,(.own 3))] [(3,.row (.sels (Qj (SelD.mk (22:Int) ((op:Nat):Int) [] [] (0:Int) (0:Int) (0:Int) (0:Int)) ([left,a0.1]:List (List SelD)).flatten)) true),(0,.blk 46 [(.str s),(.nat (a0.2.p)),(.bool (a0.2.bad)),(.bool (a0.2.un)),(.bool ps)])] 4))) ?_
   refine Ja (krz1 (krz1 (krz2 ?_)))
   refine Qa ?_ ?_<;>intro h1<;>try simp[-za]at h1
   refine V9 hk (k1.e.trans ((Qoa k2 k4 ?_).trans ?_))
   unfold QdA
   simp[-za]
   exact h1
   simp[RS.unI,RS.no]
   refine Ja (Ja (Ja (Ja (Ja (Ja ?_)))))
   have hpe:QdA left=false:=by
    unfold QdA
    simp[-za]
    exact h1
   have st:=Qjo (c:=(3*(m+1)+8)) (ps:=ps) (pseudo:=pseudo) (by omega) (Zf s ps (m+1)) u.2 k2 k4 hpe
   have hC:∀x,(3*(m+1)+11)*x=(3*(m+1)+8)*x+3*x:=fun x=>by rw[<-Nat.add_mul]
   have q1:=zA (3*(m+1)+8) (Qc3 (s:=s) u.2).1
   have q2:=kr.2
   have q3:=((Qc3 (s:=s) u.2).trans kr.1).1
   have q4:=hC t.p
   have q5:=hC (VG (Qo s ps (m+1)) s ps pseudo (VB s t)).2.p
   have q6:(Qj ⟨22,Uy s t,[],[],0,0,0,0⟩ (left++(VG (Qo s ps (m+1)) s ps pseudo (VB s t)).1)).length=left.length+(VG (Qo s ps (m+1)) s ps pseudo (VB s t)).1.length+1:=by simp[Qj,Qr]
   rw[show ([left,(VG (Qo s ps (m+1)) s ps pseudo (VB s t)).1]:List (List SelD)).flatten=left++(VG (Qo s ps (m+1)) s ps pseudo (VB s t)).1 from by simp,k3]
   exact Wk.L.rn [0,3] (ih3 (VG (Qo s ps (m+1)) s ps pseudo (VB s t)).2 (Qj ⟨22,Uy s t,[],[],0,0,0,0⟩ (left++(VG (Qo s ps (m+1)) s ps pseudo (VB s t)).1)) (by
    unfold cpxM
    rw[k2]
    rcases st.2 with q | q
    rw[q];simp;have:=u.2;omega
    split
    simp;have:=u.2;omega
    simp;have:=u.2;omega) ⟨u2.trans kr.1,by rw[q6];omega,fun q=>by
    rcases st.2 with q' | q'
    rw[q]at q';cases q'
    rw[q6];omega,Lf.comb k1.lf (QhI _) (by omega),k1.e.trans st.1⟩)
 have L3:∀(mm:Nat) (t:RS) (left:List SelD),cpxM s t=mm->(Cpx3 s ps pseudo m ⟨p,bad,un⟩ t left)->(W42 m).L K 3 (mkS 103 [(0,(.ptr 0 0)),(1,(.bool pseudo)),(5,(.own 1))] [(1,.row (.sels left) true),(0,.blk 46 [(.str s),(.nat t.p),(.bool t.bad),(.bool t.un),(.bool ps)])] 2):=by
  intro mm
  induction mm using zi with
  | _ mm ih=>
   intro t left hm hI
   have u:=hI.up
   have u1:=QG s t u.2
   have k6:p<=t.p:=u.1
   have k7:t.p<=s.length+1:=u.2
   have k8:=u1.1
   have k9:=u1.2
   have z1:=hI.lf.1.1
   refine (W42 m).aL hD (have a0:=sSp s (RS.mk ((sSp s t).p+1) ((sSp s t).bad) ((sSp s t).un));have a2:=decide (s.length<=(sSp s t).p);have a1:=a2||(decide (bat s ((sSp s t).p)=44));have a3:=s.length<=1000000;have a4:Option SB:=some (.blk 46 [(.str s),(.nat ((sSp s t).p)),(.bool ((sSp s t).bad)),(.bool ((sSp s t).un)),(.bool ps)]);have a5:=(sSp s t).p+1<=9223372036854775807;have a6:=(sSp s t).p+1<=s.length+1;have a7:=(sSp s t).p<=s.length+1;cond (!t.bad) (a3/\(t.p<=s.length+1)/\a3/\a7/\cond (decide (bat s ((sSp s t).p)=62)) (a5/\a3/\a6/\(W42 m).C K 21 (mkS 103 [(0,(.ptr 0 0)),(1,(.bool pseudo)),(5,(.own 1)),(7,(.nat 2))] [(1,.row (.sels left) true),(0,.blk 46 [(.str s),(.nat (a0.p)),(.bool (a0.bad)),(.bool (a0.un)),(.bool ps)])] 2)) (cond (decide (bat s ((sSp s t).p)=43)) (a5/\a3/\a6/\(W42 m).C K 21 (mkS 103 [(0,(.ptr 0 0)),(1,(.bool pseudo)),(5,(.own 1)),(7,(.nat 3))] [(1,.row (.sels left) true),(0,.blk 46 [(.str s),(.nat (a0.p)),(.bool (a0.bad)),(.bool (a0.un)),(.bool ps)])] 2)) (cond (decide (bat s ((sSp s t).p)=126)) (a5/\a3/\a6/\(W42 m).C K 21 (mkS 103 [(0,(.ptr 0 0)),(1,(.bool pseudo)),(5,(.own 1)),(7,(.nat 4))] [(1,.row (.sels left) true),(0,.blk 46 [(.str s),(.nat (a0.p)),(.bool (a0.bad)),(.bool (a0.un)),(.bool ps)])] 2)) ((a2=false->((a2==false)=true)/\a3/\a7/\True)/\(a2=false->((a2==false)=true)/\True)/\(a2=false->(a2==false)=true)/\(a1=false->((a1==false)=true)/\a3/\a7/\True)/\(a1=false->((a1==false)=true)/\True)/\(a1=false->(a1==false)=true)/\cond (a1||(decide (bat s ((sSp s t).p)=41))) (K (.row (.sels left)) a4) (cond (decide (t.p<(sSp s t).p)) ((W42 m).C K 21 (mkS 103 [(0,(.ptr 0 0)),(1,(.bool pseudo)),(5,(.own 1)),(7,(.nat 1))] [(1,.row (.sels left) true),(0,.blk 46 [(.str s),(.nat ((sSp s t).p)),(.bool ((sSp s t).bad)),(.bool ((sSp s t).un)),(.bool ps)])] 2)) (K (.row (.sels left)) a4)))))) (K (.row (.sels left)) (some (.blk 46 [(.str s),(.nat t.p),(.bool t.bad),(.bool t.un),(.bool ps)])))) ?_
   refine Qa ?_ ?_<;>intro h1<;>try simp[-za]at h1
   refine Ja (Ja (Ja (Ja ?_)))
   refine Qa ?_ ?_<;>intro h2<;>try simp[-za]at h2
   refine Ja (Ja (Ja ?_))
   have hz:Q6 (bat s (sSp s t).p)=2:=by unfold Q6;rw[if_pos h2]
   have e2:VB s t=sSp s ((sSp s t).go ((sSp s t).p+1)):=by unfold VB;rw[hz];rfl
   have ho:((2:Nat):Int)=Uy s t:=by unfold Uy;rw[hz];rfl
   have hn:¬Ud s t:=by
    rintro⟨q1,q2⟩
    rw[hz]at q1;cases q1
   have ih9:=L21 _ 2 left t rfl ⟨hI,h1,ho,hn,fun t' left' hlt h'=>ih _ (by omega) t' left' rfl h'⟩
   rw[e2]at ih9
   exact Wk.C.le (Yd.pub 1 (b:=.row (.sels left) true) (by kernel_rfl)) (Wk.C.rn [0] (ih9))
   refine Qa (fun h3=>?_) (fun h3=>?_)
   try simp[-za]at h3
   refine Ja (Ja (Ja ?_))
   have hz:Q6 (bat s (sSp s t).p)=3:=by unfold Q6;rw[if_neg h2,if_pos h3]
   have e2:VB s t=sSp s ((sSp s t).go ((sSp s t).p+1)):=by unfold VB;rw[hz];rfl
   have ho:((3:Nat):Int)=Uy s t:=by unfold Uy;rw[hz];rfl
   have hn:¬Ud s t:=by
    rintro⟨q1,q2⟩
    rw[hz]at q1;cases q1
   have ih9:=L21 _ 3 left t rfl ⟨hI,h1,ho,hn,fun t' left' hlt h'=>ih _ (by omega) t' left' rfl h'⟩
   rw[e2]at ih9
   exact Wk.C.le (Yd.pub 1 (b:=.row (.sels left) true) (by kernel_rfl)) (Wk.C.rn [0] (ih9))
   try simp[-za]at h3
   refine Qa ?_ ?_<;>intro h4<;>try simp[-za]at h4
   refine Ja (Ja (Ja ?_))
   have hz:Q6 (bat s (sSp s t).p)=4:=by unfold Q6;rw[if_neg h2,if_neg h3,if_pos h4]
   have e2:VB s t=sSp s ((sSp s t).go ((sSp s t).p+1)):=by unfold VB;rw[hz];rfl
   have ho:((4:Nat):Int)=Uy s t:=by unfold Uy;rw[hz];rfl
   have hn:¬Ud s t:=by
    rintro⟨q1,q2⟩
    rw[hz]at q1;cases q1
   have ih9:=L21 _ 4 left t rfl ⟨hI,h1,ho,hn,fun t' left' hlt h'=>ih _ (by omega) t' left' rfl h'⟩
   rw[e2]at ih9
   exact Wk.C.le (Yd.pub 1 (b:=.row (.sels left) true) (by kernel_rfl)) (Wk.C.rn [0] (ih9))
   refine krz3 (krz1 (Ja (krz3 (krz1 (Ja ?_)))))
   refine Qa ?_ ?_<;>intro h5<;>try simp[-za]at h5
   exact V9 hk (hI.e.trans ((QeX h1 ⟨by unfold Q6;rw[if_neg h2,if_neg h3,if_neg h4],by omega⟩).trans rfl))
   refine Qa (fun h6=>?_) (fun h6=>?_)
   try simp[-za]at h6
   have hz:Q6 (bat s (sSp s t).p)=0:=by unfold Q6;rw[if_neg h2,if_neg h3,if_neg h4]
   have e2:VB s t=sSp s t:=by unfold VB;rw[hz];rfl
   have ho:((1:Nat):Int)=Uy s t:=by unfold Uy;rw[hz];rfl
   have hn:¬Ud s t:=by
    rintro⟨q1,q2⟩
    omega
   have ih9:=L21 _ 1 left t rfl ⟨hI,h1,ho,hn,fun t' left' hlt h'=>ih _ (by omega) t' left' rfl h'⟩
   rw[e2]at ih9
   exact Wk.C.le (Yd.pub 1 (b:=.row (.sels left) true) (by kernel_rfl)) (Wk.C.rn [0] (ih9))
   try simp[-za]at h6
   exact V9 hk (hI.e.trans ((QeX h1 ⟨by unfold Q6;rw[if_neg h2,if_neg h3,if_neg h4],by omega⟩).trans rfl))
   exact V9 hk (hI.e.trans ((QeY h1).trans rfl))
 refine (W42 m).en (have a0:=VG (Qo s ps (m+1)) s ps pseudo (sSp s (RS.mk p bad un));(s.length<=1000000)/\(p<=s.length+1)/\(s.length<=100000)/\((sSp s (RS.mk p bad un)).p<=s.length+1)/\(s.length<=m+(sSp s (RS.mk p bad un)).p)/\(m<=200000)/\(W42 m).L K 3 (mkS 103 [(0,(.ptr 0 0)),(1,(.bool pseudo)),(5,(.own 1))] [(1,.row (.sels (a0.1)) true),(0,.blk 46 [(.str s),(.nat (a0.2.p)),(.bool (a0.2.bad)),(.bool (a0.2.un)),(.bool ps)])] 2)) ?_
 refine Ja (Ja (Ja (Ja (Ja (Ja ?_)))))
 have u1:=QG s ⟨p,bad,un⟩ h02
 have a:=Qe0 (c:=(3*(m+1)+8)) (by omega) (Zf s ps (m+1)) ps pseudo (sSp s ⟨p,bad,un⟩) u1.2
 have hC:∀x,(3*(m+1)+11)*x=(3*(m+1)+8)*x+3*x:=fun x=>by rw[<-Nat.add_mul]
 have q1:=hC (VG (Qo s ps (m+1)) s ps pseudo (sSp s ⟨p,bad,un⟩)).2.p
 have q2:=a.2
 exact L3 _ (VG (Qo s ps (m+1)) s ps pseudo (sSp s ⟨p,bad,un⟩)).2 (VG (Qo s ps (m+1)) s ps pseudo (sSp s ⟨p,bad,un⟩)).1 rfl ⟨u1.trans a.1,by omega,fun _=>by omega,(QhI _).lf,rfl⟩
 cases e
end
section
open Go Go.RowKit
set_option maxRecDepth 20000
theorem Qgz {G:RS->List SelD×RS} {s:Bs} {ps pseudo:Bool} {t:RS} {l:List SelD} (h:¬(t.bad=false/\t.p<s.length/\bat s t.p=44)):YJ G s ps pseudo t l=(l,t):=by
 unfold YJ;rw[if_neg h]
theorem Qn8 {G:RS->List SelD×RS} {s:Bs} {ps pseudo:Bool} {t:RS} {l:List SelD} (h:t.bad=false/\t.p<s.length/\bat s t.p=44) (hl:t.p<(Yj G s ps pseudo (t.go (t.p+1))).2.p) :
 YJ G s ps pseudo t l=YJ G s ps pseudo (Yj G s ps pseudo (t.go (t.p+1))).2 (l++(Yj G s ps pseudo (t.go (t.p+1))).1):=by
 conv=>lhs;unfold YJ
 rw[if_pos h];simp only;rw[if_pos hl]
def c23s (m:Nat) (svs:List SV) (b:Option SB):FR:=match svs,b with
 | [.ptr 0 0,.bool many,.bool pseudo],some (.blk 46 [.str s,.nat p,.bool bad,.bool un,.bool ps])=>some ([s.length<=100000,p<=s.length+1,s.length<=m+p,m<=200000],.row (.sels (VF (Qo s ps (m+1)) s ps many pseudo ⟨p,bad,un⟩).1),some (.blk 46 [.str s,.nat (VF (Qo s ps (m+1)) s ps many pseudo ⟨p,bad,un⟩).2.p,.bool (VF (Qo s ps (m+1)) s ps many pseudo ⟨p,bad,un⟩).2.bad,.bool (VF (Qo s ps (m+1)) s ps many pseudo ⟨p,bad,un⟩).2.un,.bool ps]))
 | _,_=>none
noncomputable def W23 (m:Nat):Wk:=⟨[(29,.fn c29),(42,.fn (c42 m)),(43,.plain c43)],Qh Tryz.f23,true,true,[.tmp 6],[22],[(2,135)],[]⟩
theorem QbF {p q:Prop} (k:q) (h:p:=by first | omega | (simp;done) | (simp;omega) | (have hl:=QV (h44t h2) (by decide);have:=(kx (by omega)).2;have:=ky (by omega);omega) | (have:=(Qdi (c:=3*(m+1)+8) (by omega) (Zf s ps (m+1)) ps pseudo ⟨p,bad,un⟩ h02).1.2;omega)):p/\q:=⟨h,k⟩
theorem QvK (m:Nat) (hG:Sat 23 (fnS (c23 m))):Sat 23 (fnS (c23s m)):=by
 have hD:Qb (W23 m).D:=(Qb.cons QcV Qcv (Qb.cons has42 (sat42 m hG) (Qb.cons QcU Qcu Qb.nil)))
 refine (W23 m).sa hD Tryz.f23 fun svs b K hP=>?_
 obtain⟨ps,o,b',e,hp,hk⟩:=Vy hP
 unfold c23s at e
 split at e
 rename_i many pseudo s p bad un ps
 cases e
 obtain⟨h01,h02,h03,h04,_⟩:=hp
 have L2:∀(mm:Nat) (t:RS) (r:List SelD),s.length+2-t.p=mm->(Up s ⟨p,bad,un⟩ t/\r.length<=(3*(m+1)+11)*t.p+5/\(if many=true then YJ (Qo s ps (m+1)) s ps pseudo (Yj (Qo s ps (m+1)) s ps pseudo ⟨p,bad,un⟩).2 (Yj (Qo s ps (m+1)) s ps pseudo ⟨p,bad,un⟩).1 else (Yj (Qo s ps (m+1)) s ps pseudo ⟨p,bad,un⟩))=(if many=true then YJ (Qo s ps (m+1)) s ps pseudo t r else (r,t)))->(W23 m).L K 2 (mkS 32 [(0,(.ptr 0 0)),(1,(.bool many)),(2,(.bool pseudo)),(7,(.own 1))] [(1,.row (.sels r) true),(0,.blk 46 [(.str s),(.nat t.p),(.bool t.bad),(.bool t.un),(.bool ps)])] 2):=by
  intro mm
  induction mm using zi with
  | _ mm ih=>
   intro t r hm hI
   obtain⟨k1,k2,k3⟩:=hI
   have k6:p<=t.p:=k1.1
   have k7:t.p<=s.length+1:=k1.2
   have kc:(3*(m+1)+11)*t.p<=700011*100001:=Nat.mul_le_mul (by omega) (by omega)
   have kx:t.p+1<=s.length+1->Up s (t.go (t.p+1)) (Yj (Qo s ps (m+1)) s ps pseudo (RS.mk (t.p+1) t.bad t.un)).2/\(Yj (Qo s ps (m+1)) s ps pseudo (RS.mk (t.p+1) t.bad t.un)).1.length+(3*(m+1)+11)*(t.p+1)<=(3*(m+1)+11)*(Yj (Qo s ps (m+1)) s ps pseudo (RS.mk (t.p+1) t.bad t.un)).2.p+5:=fun h=>Qdi (c:=3*(m+1)+8) (by omega) (Zf s ps (m+1)) ps pseudo (t.go (t.p+1)) h
   have ky:t.p+1<=s.length+1->(3*(m+1)+11)*(Yj (Qo s ps (m+1)) s ps pseudo (RS.mk (t.p+1) t.bad t.un)).2.p<=700011*100001:=fun h=>Nat.mul_le_mul (by omega) (by have:=(kx h).1.2;omega)
   refine (W23 m).aL hD (have a0:=Yj (Qo s ps (m+1)) s ps pseudo (RS.mk (t.p+1) t.bad t.un);have a1:Out:=.row (.sels (Qj (SelD.mk (23:Int) (0:Int) [] [] (0:Int) (0:Int) (0:Int) (0:Int)) ([r]:List (List SelD)).flatten));have a2:Option SB:=some (.blk 46 [(.str s),(.nat t.p),(.bool t.bad),(.bool t.un),(.bool ps)]);have a3:=([r]:List (List SelD)).flatten.length<=1000000000000;have a4:=([r]:List (List SelD)).length<=1000000000;(((!t.bad)&&many)=true->(s.length<=1000000)/\(t.p<=s.length+1)/\(1<=1000)/\cond (Q3 s [44] t.p) ((s.length<=100000)/\(t.p+1<=s.length+1)/\(s.length<=m+t.p+1)/\(m<=200000)/\(r.length+(a0.1).length<=1099511627776)/\(W23 m).L K 2 (mkS 32 [(0,(.ptr 0 0)),(1,(.bool many)),(2,(.bool pseudo)),(7,(.own 3))] [(3,.row (.sels (r++(a0.1))) true),(0,.blk 46 [(.str s),(.nat (a0.2.p)),(.bool (a0.2.bad)),(.bool (a0.2.un)),(.bool ps)])] 4)) (a4/\a3/\K a1 a2))/\(((!t.bad)&&many)=false->a4/\a3/\K a1 a2)) ?_
   refine⟨fun h1=>?_,fun h1=>?_⟩
   try simp[-za]at h1
   refine QbF (QbF (QbF ?_))
   refine Qa ?_ ?_<;>intro h2<;>try simp[-za]at h2
   refine QbF (QbF (QbF (QbF (QbF ?_))))
   have hl:=QV (h44t h2) (by decide)
   obtain⟨a1,a2⟩:=kx (by omega)
   have a3:=a1.1
   simp only[RS.go_p]at a3
   rw[show (3*(m+1)+11)*(t.p+1)=(3*(m+1)+11)*t.p+(3*(m+1)+11) from Nat.mul_succ _ _]at a2
   exact Wk.L.rn [0,3] (ih _ (by omega) (Yj (Qo s ps (m+1)) s ps pseudo (RS.mk (t.p+1) t.bad t.un)).2 (r++(Yj (Qo s ps (m+1)) s ps pseudo (RS.mk (t.p+1) t.bad t.un)).1) rfl ⟨⟨by show p<=(Yj (Qo s ps (m+1)) s ps pseudo (RS.mk (t.p+1) t.bad t.un)).2.p;omega,a1.2⟩,by rw[zf];omega,by
    refine k3.trans ?_
    rw[h1.2,if_pos rfl,if_pos rfl]
    exact Qn8 ⟨h1.1,hl,h44t h2⟩ (show t.p<(Yj (Qo s ps (m+1)) s ps pseudo (RS.mk (t.p+1) t.bad t.un)).2.p from by omega)⟩)
   refine QbF (QbF ?_)
   refine V9 hk ?_
   unfold VF
   simp only
   have e:(if many=true then YJ (Qo s ps (m+1)) s ps pseudo (Yj (Qo s ps (m+1)) s ps pseudo ⟨p,bad,un⟩).2 (Yj (Qo s ps (m+1)) s ps pseudo ⟨p,bad,un⟩).1 else (Yj (Qo s ps (m+1)) s ps pseudo ⟨p,bad,un⟩))=(r,t):=by
    refine k3.trans ?_
    cases hm:many with
    | true=>rw[if_pos rfl,Qgz (fun h=>h44f h2 h.2.2)]
    | false=>rfl
   rw[e]
   simp[Vj]
   try simp[-za]at h1
   refine QbF (QbF ?_)
   refine V9 hk ?_
   unfold VF
   simp only
   have e:(if many=true then YJ (Qo s ps (m+1)) s ps pseudo (Yj (Qo s ps (m+1)) s ps pseudo ⟨p,bad,un⟩).2 (Yj (Qo s ps (m+1)) s ps pseudo ⟨p,bad,un⟩).1 else (Yj (Qo s ps (m+1)) s ps pseudo ⟨p,bad,un⟩))=(r,t):=by
    refine k3.trans ?_
    cases hm:many with
    | true=>rw[if_pos rfl,Qgz (fun h=>by have q:=h1 h.1;rw[hm]at q;cases q)]
    | false=>rfl
   rw[e]
   simp[Vj]
 refine (W23 m).en (have a0:=Yj (Qo s ps (m+1)) s ps pseudo (RS.mk p bad un);(s.length<=100000)/\(p<=s.length+1)/\(s.length<=m+p)/\(m<=200000)/\(W23 m).L K 2 (mkS 32 [(0,(.ptr 0 0)),(1,(.bool many)),(2,(.bool pseudo)),(7,(.own 1))] [(1,.row (.sels (a0.1)) true),(0,.blk 46 [(.str s),(.nat (a0.2.p)),(.bool (a0.2.bad)),(.bool (a0.2.un)),(.bool ps)])] 2)) ?_
 refine QbF (QbF (QbF (QbF ?_)))
 have a:=Qdi (c:=3*(m+1)+8) (by omega) (Zf s ps (m+1)) ps pseudo ⟨p,bad,un⟩ h02
 have a2:(Yj (Qo s ps (m+1)) s ps pseudo ⟨p,bad,un⟩).1.length+(3*(m+1)+11)*p<=(3*(m+1)+11)*(Yj (Qo s ps (m+1)) s ps pseudo ⟨p,bad,un⟩).2.p+5:=a.2
 exact L2 _ (Yj (Qo s ps (m+1)) s ps pseudo ⟨p,bad,un⟩).2 (Yj (Qo s ps (m+1)) s ps pseudo ⟨p,bad,un⟩).1 rfl ⟨a.1,by omega,by cases many<;>rfl⟩
 cases e
theorem QuM:∀m,Sat 23 (fnS (c23 m))
 | 0=>by
  intro g0 w M ω svs args b K _ _ _ hP
  exfalso
  obtain⟨ps,o,b',e,hp,hk⟩:=Vy hP
  unfold c23 at e
  split at e
  cases e
  have h1:=hp.2.1
  have h2:=hp.2.2.1
  omega
  cases e
 | m+1=>by
  refine Sat.wk (QvK m (QuM m)) fun svs b K h=>?_
  obtain⟨ps,o,b',e,hp,hk⟩:=Vy h
  unfold c23 at e
  split at e
  cases e
  rename_i many pseudo s p bad un ps
  have h1:=hp.1
  have h2:=hp.2.1
  have h3:=hp.2.2.1
  have h4:=hp.2.2.2.1
  exact⟨[.ptr 0 0,.bool many,.bool pseudo],⟨fun _ _ h=>h,fun _ _ h=>h,fun _ _ h=>h,trivial⟩,h1,by omega,by omega,by omega,hk⟩
  cases e
end
section
open Go Go.RowKit
set_option maxRecDepth 20000
theorem Qn9 {G:RS->List SelD×RS} {s:Bs} {ps pseudo:Bool} (t:RS) (left:List SelD) (h:Sz left):Sz (VU G s ps pseudo t left).1:=by
 fun_induction VU G s ps pseudo t left with
 | case1=>exact h
 | case2=>exact h
 | case3=>exact Sz.fail
 | case4 t left hb t1 cc op t2 h1 he r hlt ih=>exact ih (Sz.made _ _)
 | case5=>exact Sz.made _ _
theorem QsZ {G:RS->List SelD×RS} {s:Bs} {ps pseudo:Bool} (t:RS):Sz (Yj G s ps pseudo t).1:=Qn9 _ _ (QhI _).1
theorem Qq1 {K:Out->Option SB->Prop} {r:List SelD×Bool×Bool} {l:List SelD} {a u:Bool} (hk:K (.val (.tup [.sl (.sels r.1),.bool r.2.1,.bool r.2.2])) none) (e:r=(l,a,u)):K (.val (.tup [.sl (.sels l),.bool a,.bool u])) none:=by
 rw[e]at hk;exact hk
theorem QkB {l:List SelD} (h:0<=(l.getD 1 default).size):Yc l 1=(l.drop 1).take (l.getD 1 default).size.toNat:=by
 unfold Yc
 split
 rename_i hl;rw[xy.2 hl];simp
 rw[List.drop_take]
 congr 1
 omega
theorem QtS {s:Bs} {m:Nat} {many pseudo:Bool} (hs:s.length<=100000) (hm:m<=200000):(VF (Qo s pseudo m) s pseudo many pseudo ⟨0,false,false⟩).1.length<=1000000000000:=by
 have a:=QhH (c:=3*m+8) (by omega) (Zf s pseudo m) pseudo many pseudo ⟨0,false,false⟩ (Nat.zero_le _)
 have d:(3*m+8+3)*(VF (Qo s pseudo m) s pseudo many pseudo ⟨0,false,false⟩).2.p<=700000*100001:=Nat.mul_le_mul (by omega) (by have:=a.1.2;omega)
 have:=a.2
 omega
theorem Qit {G:RS->List SelD×RS} {s:Bs} {ps pseudo:Bool} {t:RS}:((VF G s ps false pseudo t).1.getD 1 default).size=((Yj G s ps pseudo t).1.length:Nat)/\(VF G s ps false pseudo t).1.length=(Yj G s ps pseudo t).1.length+1:=by
 have h:=QsZ (G:=G) (s:=s) (ps:=ps) (pseudo:=pseudo) t
 refine⟨?_,by simp[VF,Qj,Qr]⟩
 rw[<-h.2]
 simp[VF,Qj,Qr,za]
theorem Sat.ex {f:FuncId} {P:Nat->Spec} (h:∀m,Sat f (P m)):Sat f fun svs b K=>∃m,P m svs b K:=by
 intro g0 w M ω svs args b K hS hn hr ⟨m,hP⟩
 exact h m g0 w M ω svs args b K hS hn hr hP
def c10i (m:Nat) (svs:List SV) (b:Option SB):QR:=match svs,b with
 | [.str s,.bool many,.bool pseudo],none=>some ([s.length<=100000,m=s.length+1],.tup [.sl (.sels (Vi s many pseudo).1),.bool (Vi s many pseudo).2.1,.bool (Vi s many pseudo).2.2])
 | _,_=>none
noncomputable def W10 (m:Nat):Wk:=⟨[(22,.pure c22),(23,.fn (c23 m)),(24,.pure c24)],Qh Tryz.f10,false,false,[.tmp 6,.tmp 7,.tmp 8],[22,4,4],[],[]⟩
theorem has10:Has 10:=hsf Tryz.f10
theorem QlF {p q:Prop} (k:q) (h:p:=by first | omega | (simp;done) | (simp;omega) | (intro _;rw[h4,Qit.1,Qit.2];omega)):p/\q:=⟨h,k⟩
theorem QwB (m:Nat):Sat 10 (Ql (c10i m)):=by
 have hD:Qb (W10 m).D:=(Qb.cons Qvf QuN (Qb.cons Qve (QuM m) (Qb.cons Qvd QuL Qb.nil)))
 refine (W10 m).sa hD Tryz.f10 fun svs b K hP=>?_
 obtain⟨ps,v,e,hp,hk⟩:=Qd hP
 unfold c10i at e
 split at e
 rename_i s many pseudo
 cases e
 obtain⟨h01,h02,_⟩:=hp
 have gl:=QtS (s:=s) (m:=m) (many:=many) (pseudo:=pseudo) h01 (by omega)
 refine (W10 m).en (have a0:=VF (Qo s pseudo m) s pseudo many pseudo (RS.mk 0 false false);have a1:Out:=.val (.tup [(.sl (.sels [])),(.bool false),(.bool (!a0.2.un))]);(s.length<=1000000)/\cond (!(VV s 0)) (K (.val (.tup [(.sl (.sels [])),(.bool false),(.bool false)])) none) ((s.length<=100000)/\(0<=s.length)/\(s.length+1<=m+0)/\(m<=200000)/\cond ((!a0.2.bad)&&(decide (a0.2.p<s.length))) (K a1 none) (cond a0.2.bad (K a1 none) (cond (!many) ((1<=1000000000000/\(a0.1).length<=1000000000000)/\(1<(a0.1).length->0<=((a0.1).getD 1 default).size/\((1:Nat):Int)+((a0.1).getD 1 default).size<=(a0.1).length)/\K (.val (.tup [(.sl (.sels (Yc (a0.1) 1))),(.bool true),(.bool (!a0.2.un))])) none) (K (.val (.tup [(.sl (.sels (a0.1))),(.bool true),(.bool (!a0.2.un))])) none))))) ?_
 refine QlF ?_
 refine Qa ?_ ?_<;>intro h1<;>try simp[-za]at h1
 refine Qq1 hk ?_
 unfold Vi
 rw[<-h02]
 rw[if_neg (by rw[h1];simp)]
 refine QlF (QlF (QlF (QlF ?_)))
 refine Qa ?_ ?_<;>intro h2<;>try simp[-za]at h2
 refine Qq1 hk ?_
 unfold Vi
 rw[<-h02]
 rw[if_pos (by simpa using h1)]
 simp only
 rw[if_pos (.inr h2.2)]
 refine Qa (fun h3=>?_) (fun h3=>?_)
 try simp[-za]at h3
 refine Qq1 hk ?_
 unfold Vi
 rw[<-h02]
 rw[if_pos (by simpa using h1)]
 simp only
 rw[if_pos (.inl h3)]
 try simp[-za]at h3
 refine Qa ?_ ?_<;>intro h4<;>try simp[-za]at h4
 refine QlF (QlF ?_)
 refine Qq1 hk ?_
 unfold Vi
 rw[<-h02]
 rw[if_pos (by simpa using h1)]
 simp only
 have hn:¬((VF (Qo s pseudo m) s pseudo many pseudo ⟨0,false,false⟩).2.bad=true\/(VF (Qo s pseudo m) s pseudo many pseudo ⟨0,false,false⟩).2.p<s.length):=by
  rintro (q | q)
  rw[h3]at q;cases q
  have:=h2 h3;omega
 rw[if_neg hn,if_neg (by rw[h4];simp),QkB (by rw[h4,Qit.1];omega)]
 refine Qq1 hk ?_
 unfold Vi
 rw[<-h02]
 rw[if_pos (by simpa using h1)]
 simp only
 have hn:¬((VF (Qo s pseudo m) s pseudo many pseudo ⟨0,false,false⟩).2.bad=true\/(VF (Qo s pseudo m) s pseudo many pseudo ⟨0,false,false⟩).2.p<s.length):=by
  rintro (q | q)
  rw[h3]at q;cases q
  have:=h2 h3;omega
 rw[if_neg hn,if_pos h4]
 cases e
theorem Sat.imp {f:FuncId} {P P':Spec} (h:Sat f P) (hw:∀svs b K,P' svs b K->P svs b K):Sat f P':=
 fun g0 w M ω svs args b K hS hn hr hP=>h g0 w M ω svs args b K hS hn hr (hw svs b K hP)
def c10 (svs:List SV) (b:Option SB):QR:=match svs,b with
 | [.str s,.bool many,.bool pseudo],none=>some ([s.length<=100000],.tup [.sl (.sels (Vi s many pseudo).1),.bool (Vi s many pseudo).2.1,.bool (Vi s many pseudo).2.2])
 | _,_=>none
theorem sat10:Sat 10 (Ql c10):=by
 refine Sat.imp (Sat.ex (P:=fun m=>Ql (c10i m)) QwB) fun svs b K h=>?_
 obtain⟨ps,v,e,hp,hk⟩:=Qd h
 unfold c10 at e
 split at e
 rename_i s many pseudo
 cases e
 exact⟨s.length+1,hp.1,rfl,hk⟩
 cases e
end
section
open Go Go.RowKit
mutual
def ST.ht:ST->Nat
 | .mk _ ks=>ST.hts ks+1
def ST.hts:List ST->Nat
 | []=>0
 | t::l=>max t.ht (ST.hts l)
end
def Uu (x:SelD) (y:List SelD):Bool := !(decide (x.kind=21)&&decide ((y.getD 0 default).kind=1))
def anyL:List SelD:=[⟨1,0,[],[],0,0,0,1⟩]
def YO:Nat->List SelD->Nat->List SelD
 | 0,_,_=>[]
 | n+1,l,i=>
  let x:=l.getD i default
  let ys:=((Qe l i).map (YO n l)).filter (Uu x)
  if x.kind=21/\x.val=[] then
   (if ys.length=0 then anyL else if ys.length=1 then ys.getD 0 [] else Qj x ys.flatten)
  else Qj x ys.flatten
theorem Qdy (T:ST):∃x rest,T.flat=x::rest/\x.size=(T.flat.length:Nat)/\x={ T.node with size:=x.size }:=by
 obtain⟨x,ks⟩:=T
 exact⟨_,_,by rw[ST.flat,Qr],by simp[ST.flat,Qr],by simp[ST.node]⟩
theorem Qby {l:List SelD} {i:Nat} {x:SelD} {r:List SelD} (h:l.drop i=x::r):l.getD i default=x:=by
 have:(l.drop i)[0]? = some x:=by rw[h];rfl
 rw[List.getElem?_drop]at this
 simp[za,show l[i]? = some x from this]
theorem Qnx {l:List SelD} {i:Nat} {x:SelD} {r:List SelD} (h:l.drop i=x::r):i<l.length:=by
 have:=congrArg List.length h
 simp at this;omega
theorem ZR {l:List SelD} {i:Nat} {a b:List SelD} (h:l.drop i=a++b):l.drop (i+a.length)=b:=by
 rw[<-List.drop_drop,h,List.drop_left]
def Yg:Nat->List ST->List Nat
 | _,[]=>[]
 | k,t::l=>k::Yg (k+t.flat.length) l
theorem QcL {l:List SelD}:∀(ks:List ST) (k:Nat) (rest:List SelD) (fin:Int),l.drop k=ST.flats ks++rest->k<=l.length->fin=((k+(ST.flats ks).length:Nat):Int)->Z0 l fin k=Yg k ks
 | [],k,rest,fin,h,hk,hf=>by
  rw[Z0,if_neg (by rw[hf];simp[ST.flats])];rfl
 | t::ks,k,rest,fin,h,hk,hf=>by
  obtain⟨x,r,e1,e2,_⟩:=Qdy t
  rw[ST.flats,zq]at h
  have h0:l.drop k=x::(r++(ST.flats ks++rest)):=by rw[h,e1];rfl
  have hlt:=Qnx h0
  have hn:t.flat.length=r.length+1:=by rw[e1];simp
  have hx:(l.getD k default).size=(t.flat.length:Nat):=by rw[Qby h0,e2]
  have hd:=ZR h
  have hlen:=congrArg List.length h
  simp only[zf,zI]at hlen
  rw[Z0,if_pos ⟨by rw[hf,ST.flats,zf];omega,hlt⟩,hx,Yg,
   show (max 1 ((t.flat.length:Nat):Int)).toNat=t.flat.length from by omega]
  rw[QcL ks (k+t.flat.length) rest fin hd (by omega) (by rw[hf,ST.flats,zf];omega)]
theorem VE {l:List SelD} {i:Nat} {x:SelD} {ks:List ST} {rest:List SelD} (h:l.drop i=(ST.mk x ks).flat++rest) :
 Qe l i=Yg (i+1) ks/\l.drop (i+1)=ST.flats ks++rest/\i<l.length/\l.getD i default={ x with size:=((ST.flats ks).length:Nat)+1 }/\i+(ST.flats ks).length+1<=l.length:=by
 have h0:l.drop i={ x with size:=((ST.flats ks).length:Nat)+1 }::(ST.flats ks++rest):=by rw[h,ST.flat,Qr];rfl
 have h1:l.drop (i+1)=ST.flats ks++rest:=by rw[<-List.drop_drop,h0];rfl
 have hlt:=Qnx h0
 have hlen:=congrArg List.length h1
 simp only[zf,zI]at hlen
 refine⟨?_,h1,hlt,Qby h0,by omega⟩
 unfold Qe
 rw[Qby h0]
 exact QcL ks (i+1) rest _ h1 (by omega) (by simp only;omega)
def QaF (l:List SelD) (n:Nat) (k:Nat):Prop:=∃(T:ST) (rest:List SelD),l.drop k=T.flat++rest/\T.ht<=n
theorem Qdj {l:List SelD} {n:Nat}:∀(ks:List ST) (k:Nat) (rest:List SelD),l.drop k=ST.flats ks++rest->ST.hts ks<=n->∀p∈Yg k ks,QaF l n p
 | [],k,rest,h,hn,p,hp=>by simp[Yg]at hp
 | t::ks,k,rest,h,hn,p,hp=>by
  rw[ST.flats,zq]at h
  rw[ST.hts]at hn
  simp only[Yg,zp]at hp
  rcases hp with hp | hp
  subst hp;exact⟨t,_,h,by omega⟩
  exact Qdj ks _ rest (ZR h) (by omega) p hp
theorem Qad {l:List SelD} {n:Nat} (ih:∀i T rest,l.drop i=ST.flat T++rest->T.ht<=n->YO n l i=T.norm.flat):∀(ks:List ST) (k:Nat) (rest:List SelD),l.drop k=ST.flats ks++rest->ST.hts ks<=n ->
 (Yg k ks).map (YO n l)=(ST.norms ks).map ST.flat
 | [],k,rest,h,hn=>by simp[Yg,ST.norms]
 | t::ks,k,rest,h,hn=>by
  rw[ST.flats,zq]at h
  rw[ST.hts]at hn
  simp only[Yg,ST.norms,zY]
  rw[ih k t _ h (by omega),Qad ih ks _ rest (ZR h) (by omega)]
theorem Qbu:∀ks:List ST,ST.flats ks=(ks.map ST.flat).flatten
 | []=>by simp[ST.flats]
 | t::ks=>by simp[ST.flats,Qbu ks]
theorem Qfq (x:SelD) (T:ST):Uu x T.flat = !(decide (x.kind=21)&&Qdp T):=by
 obtain⟨y,r,e1,e2,e3⟩:=Qdy T
 unfold Uu Qdp
 rw[e1]
 simp only[za,zC,Option.getD_some]
 rw[e3]
theorem Qj3 (x:SelD) (z:Int) (ks:List ST):(ks.map ST.flat).filter (Uu { x with size:=z })=(Z1 x ks).map ST.flat:=by
 unfold Z1
 rw[List.filter_map]
 split
 rename_i h
 congr 1
 apply List.filter_congr
 intro t _
 simp[Qfq,h]
 rename_i h
 rw[List.filter_eq_self.2]
 intro t _
 simp[Qfq,h]
theorem Qcx (l:List SelD):∀(n i:Nat) (T:ST) (rest:List SelD),l.drop i=T.flat++rest->T.ht<=n->YO n l i=T.norm.flat
 | 0,i,T,rest,h,hn=>by obtain⟨x,ks⟩:=T;simp[ST.ht]at hn
 | n+1,i,.mk x ks,rest,h,hn=>by
  obtain⟨h1,h2,h3,h4,h5⟩:=VE h
  rw[ST.ht]at hn
  have h6:=Qad (l:=l) (n:=n) (fun i T rest=>Qcx l n i T rest) ks (i+1) rest h2 (by omega)
  rw[YO]
  rw[h1,h4,h6,Qj3,ST.norm];unfold UN
  simp only[List.length_map]
  split
  generalize Z1 x (ST.norms ks)=ys
  match ys with
  | []=>simp[ST.flat,ST.flats,Qr,Qsq,anyL]
  | [y]=>simp
  | y::y'::ys=>simp[ST.flat,Qj,Qr,Qbu]
  simp[ST.flat,Qj,Qr,Qbu]
theorem Qas (p:ST->Bool):∀ks:List ST,(ST.flats (ks.filter p)).length<=(ST.flats ks).length
 | []=>by simp
 | t::ks=>by
  have:=Qas p ks
  rw[List.filter_cons]
  split<;>simp only[ST.flats,zf]<;>omega
theorem QnQ (x:SelD) (ks:List ST):(UN x ks).flat.length<=(ST.flats ks).length+1:=by
 unfold UN
 split
 split<;>simp[ST.flat,ST.flats,Qr]
 simp[ST.flat,Qr]
mutual
theorem Qfe:∀T:ST,T.norm.flat.length<=T.flat.length
 | .mk x ks=>by
  have h1:=Qdl ks
  have h2:=QnQ x (Z1 x (ST.norms ks))
  have h3:(ST.flats (Z1 x (ST.norms ks))).length<=(ST.flats (ST.norms ks)).length:=by
   unfold Z1;split
   exact Qas _ _
   exact zj _
  rw[ST.norm,ST.flat,Qr,zg]
  omega
theorem Qdl:∀ks:List ST,(ST.flats (ST.norms ks)).length<=(ST.flats ks).length
 | []=>by simp[ST.norms]
 | t::ks=>by
  have h1:=Qfe t
  have h2:=Qdl ks
  simp only[ST.norms,ST.flats,zf]
  omega
end
theorem Qba (T:ST):0<T.flat.length:=by obtain⟨x,ks⟩:=T;simp[ST.flat,Qr]
mutual
theorem Qfw:∀T:ST,T.ht<=T.flat.length
 | .mk x ks=>by have:=Qnd ks;simp only[ST.ht,ST.flat,Qr,zg];omega
theorem Qnd:∀ks:List ST,ST.hts ks<=(ST.flats ks).length
 | []=>by simp[ST.hts]
 | t::ks=>by have:=Qfw t;have:=Qnd ks;simp only[ST.hts,ST.flats,zf];omega
end
end
section
open Go Go.RowKit
set_option maxRecDepth 20000
theorem QaF.sz {l:List SelD} {n k:Nat} (h:QaF l n k):k<l.length/\0<(l.getD k default).size/\(l.getD k default).size<=l.length/\((k:Nat):Int)+(l.getD k default).size<=l.length/\0<(YO n l k).length/\(YO n l k).length<=l.length:=by
 obtain⟨T,rest,h,hn⟩:=h
 rw[Qcx l n k T rest h hn]
 have h1:=Qba T.norm
 have h2:=Qfe T
 obtain⟨x,ks⟩:=T
 obtain⟨_,_,q3,q4,q5⟩:=VE h
 have h3:(ST.mk x ks).flat.length=(ST.flats ks).length+1:=by simp[ST.flat,Qr]
 rw[q4]
 exact⟨q3,by simp only;omega,by simp only;omega,by simp only;omega,h1,by omega⟩
def Ut (n:Nat) (l:List SelD) (i:Nat):List (List SelD):=((Qe l i).map (YO n l)).filter (Uu (l.getD i default))
theorem QaF.kids {l:List SelD} {n i:Nat} (h:QaF l (n+1) i):(∀k∈Qe l i,QaF l n k)/\(Qe l i).length<=l.length/\(Ut n l i).flatten.length<=l.length/\(Ut n l i).length<=l.length:=by
 obtain⟨⟨x,ks⟩,rest,h,hn⟩:=h
 obtain⟨q1,q2,q3,q4,q5⟩:=VE h
 rw[ST.ht]at hn
 have h6:=Qad (l:=l) (n:=n) (fun i T rest=>Qcx l n i T rest) ks (i+1) rest q2 (by omega)
 have q6:(Qe l i).length<=l.length:=by
  have:=Qfo l (i+(l.getD i default).size) (i+1)
  unfold Qe;omega
 refine⟨fun k hk=>Qdj ks (i+1) rest q2 (by omega) k (by rw[<-q1];exact hk),q6,?_,?_⟩
 unfold Ut
 rw[q1,q4,h6,Qj3,<-Qbu]
 have:=Qdl ks
 have:(ST.flats (Z1 x (ST.norms ks))).length<=(ST.flats (ST.norms ks)).length:=by
  unfold Z1;split
  exact Qas _ _
  exact zj _
 omega
 unfold Ut
 exact Nat.le_trans (List.length_filter_le _ _) (by simpa using q6)
theorem Qjq (p:List SelD->Bool) (f:Nat->List SelD) (K:List Nat) (j:Nat) (h:j<K.length):((K.take (j+1)).map f).filter p=((K.take j).map f).filter p++(if p (f (K.getD j 0))=true then [f (K.getD j 0)] else []):=by
 rw[zN,ze h]
 have e:K.getD j 0=K[j]:=by simp[za,ze h]
 rw[e,Option.toList_some,List.map_append,List.filter_append]
 simp[List.filter_cons]
theorem Qs1 (p:List SelD->Bool) (f:Nat->List SelD) (K:List Nat) (j:Nat):(((K.take j).map f).filter p).length<=j:=by
 refine Nat.le_trans (List.length_filter_le _ _) ?_
 simp;omega
theorem ZZ {K:List Nat} {j:Nat} (h:j<K.length):K.getD j 0∈K:=by
 simp[za,ze h]
def c51 (m:Nat) (svs:List SV) (b:Option SB):QR:=match svs,b with
 | [.sl (.sels l),.nat i],none=>some ([l.length<=1000000000,QaF l m i],.sl (.sels (YO m l i)))
 | _,_=>none
theorem Qfm {K:Out->Option SB->Prop} {a c:List SelD} (hk:K (.val (.sl (.sels a))) none) (e:a=c):K (.val (.sl (.sels c))) none:=by rw[e]at hk;exact hk
def c51s (m:Nat) (svs:List SV) (b:Option SB):QR:=match svs,b with
 | [.sl (.sels l),.nat i],none=>some ([l.length<=1000000000,QaF l (m+1) i],.sl (.sels (YO (m+1) l i)))
 | _,_=>none
noncomputable def W51 (m:Nat):Wk:=⟨[(17,.fn c17),(29,.fn c29),(51,.pure (c51 m))],Qh Tryz.f51,false,false,[.tmp 4],[22],[(4,227)],[]⟩
theorem Qva:Has 51:=hsf Tryz.f51
theorem kwz1 {c0 p0 q:Prop} (k:q) (h:c0->p0/\True:=by intro g0;(try simp at g0);exact⟨(by first | omega | (have:=k5 h1;omega) | exact k4 h1 | (have:=k6 h1;omega) | exact fun k hk=>by have:=(q1 k hk).sz;omega | (simp;done) | (simp;omega)),trivial⟩):(c0->p0/\True)/\q:=⟨h,k⟩
theorem Uk {p q:Prop} (k:q) (h:p:=by first | omega | (have:=k5 h1;omega) | exact k4 h1 | (have:=k6 h1;omega) | exact fun k hk=>by have:=(q1 k hk).sz;omega | (simp;done) | (simp;omega)):p/\q:=⟨h,k⟩
theorem QvC (m:Nat) (hG:Sat 51 (Ql (c51 m))):Sat 51 (Ql (c51s m)):=by
 have hD:Qb (W51 m).D:=(Qb.cons Qkl Qji (Qb.cons QcV Qcv (Qb.cons Qva hG Qb.nil)))
 refine (W51 m).sa hD Tryz.f51 fun svs b K hP=>?_
 obtain⟨ps,v,e,hp,hk⟩:=Qd hP
 unfold c51s at e
 split at e
 rename_i l i
 cases e
 obtain⟨h01,h02,_⟩:=hp
 obtain⟨q1,q2,q3,q4⟩:=h02.kids
 have q5:=h02.sz
 have L4:∀(mm:Nat) (j:Nat) (r:List (List SelD)),(Qe l i).length-j=mm->(j<=(Qe l i).length/\r=(((Qe l i).take j).map (YO m l)).filter (Uu (l.getD i default)))->(W51 m).L K 4 (mkS 72 [(0,(.sl (.sels l))),(1,(.nat i)),(5,(.own 2)),(6,(.own 1)),(7,(.nat j))] [(2,.row (.selss r) true),(1,.row (.ints (Qe l i)) true)] 3):=by
  intro mm
  induction mm using zi with
  | _ mm ih=>
   intro j r hm hI
   obtain⟨k1,k2⟩:=hI
   have k3:r.length<=j:=by rw[k2];exact Qs1 _ _ _ _
   have k4:j<(Qe l i).length->QaF l m ((Qe l i).getD j 0):=fun h=>q1 _ (ZZ h)
   have k5:=fun h=>(k4 h).sz
   have k6:¬j<(Qe l i).length->r.flatten.length<=l.length:=fun h=>by rw[k2,show j=(Qe l i).length from by omega,xi];exact q3
   refine (W51 m).aL hD (have a0:=l.getD i default;have a1:Out:=.val (.sl (.sels (Qj (SelD.mk (a0.kind) (a0.op) (a0.key) (a0.val) (a0.a) (a0.b) (a0.flag) (a0.size)) (r:List (List SelD)).flatten)));have a2:=decide (a0.kind=(21:Int));have a3:=(Qe l i).getD j 0;have a4:=i<l.length;cond (decide (j<(Qe l i).length)) ((j<(Qe l i).length)/\(j<(Qe l i).length)/\(l.length<=1000000000)/\(QaF l m a3)/\a4/\((!a2)=false->(0<(YO m l a3).length)/\True)/\cond ((!a2)||(!(decide (((YO m l a3).getD 0 default).kind=(1:Int))))) ((r.length+1<=1099511627776)/\(j+1<=9223372036854775807)/\(W51 m).L K 4 (mkS 72 [(0,(.sl (.sels l))),(1,(.nat i)),(5,(.own 4)),(6,(.own 1)),(7,(.nat (j+1)))] [(4,.row (.selss (r++[YO m l a3])) true),(1,.row (.ints (Qe l i)) true)] 5)) ((j+1<=9223372036854775807)/\(W51 m).L K 4 (mkS 72 [(0,(.sl (.sels l))),(1,(.nat i)),(5,(.own 2)),(6,(.own 1)),(7,(.nat (j+1)))] [(2,.row (.selss r) true),(1,.row (.ints (Qe l i)) true)] 3))) (a4/\(a2=true->a4/\True)/\cond (a2&&(decide (a0.val=[]))) (cond (decide (r.length=0)) ((([]:List (List SelD)).length<=1000000000)/\(([]:List (List SelD)).flatten.length<=1000000000000)/\K (.val (.sl (.sels (Qj (SelD.mk (1:Int) (0:Int) [] [] (0:Int) (0:Int) (0:Int) (0:Int)) ([]:List (List SelD)).flatten)))) none) (cond (decide (r.length=1)) ((0<r.length)/\(0<r.length)/\K (.val (.sl (.sels (r.getD 0 [])))) none) (a4/\((r:List (List SelD)).length<=1000000000)/\((r:List (List SelD)).flatten.length<=1000000000000)/\K a1 none))) (a4/\((r:List (List SelD)).length<=1000000000)/\((r:List (List SelD)).flatten.length<=1000000000000)/\K a1 none))) ?_
   refine Qa ?_ ?_<;>intro h1<;>try simp[-za]at h1
   refine Uk (Uk (Uk (Uk (Uk (kwz1 ?_)))))
   refine Qa ?_ ?_<;>intro h2<;>try simp[-za]at h2
   refine Uk (Uk ?_)
   have e:(((Qe l i).take (j+1)).map (YO m l)).filter (Uu (l.getD i default))=r++[YO m l ((Qe l i).getD j 0)]:=by
    rw[Qjq _ _ _ _ h1,<-k2,if_pos (by unfold Uu;simp[-za];exact h2)]
   exact Wk.L.rn [0,1,4] (ih _ (by omega) (j+1) (r++[YO m l ((Qe l i).getD j 0)]) rfl ⟨by omega,e.symm⟩)
   refine Uk ?_
   have e:(((Qe l i).take (j+1)).map (YO m l)).filter (Uu (l.getD i default))=r:=by
    rw[Qjq _ _ _ _ h1,<-k2,if_neg (by unfold Uu;simp[-za];exact h2),zD]
   exact ih _ (by omega) (j+1) r rfl ⟨by omega,e.symm⟩
   refine Uk (kwz1 ?_)
   refine Qa ?_ ?_<;>intro h2<;>try simp[-za]at h2
   refine Qa (fun h3=>?_) (fun h3=>?_)
   try simp[-za]at h3
   refine Uk (Uk ?_)
   have er:r=Ut m l i:=by rw[k2,show j=(Qe l i).length from by omega,xi];rfl
   refine Qfm hk ?_
   rw[YO]
   rw[show List.filter (Uu (l.getD i default)) (List.map (YO m l) (Qe l i))=r from er.symm]
   rw[if_pos h2,if_pos (by rw[h3];rfl)]
   rfl
   try simp[-za]at h3
   refine Qa ?_ ?_<;>intro h4<;>try simp[-za]at h4
   refine Uk (Uk ?_)
   have er:r=Ut m l i:=by rw[k2,show j=(Qe l i).length from by omega,xi];rfl
   refine Qfm hk ?_
   rw[YO]
   rw[show List.filter (Uu (l.getD i default)) (List.map (YO m l) (Qe l i))=r from er.symm]
   rw[if_pos h2,if_neg (by omega),if_pos h4]
   refine Uk (Uk (Uk ?_))
   have er:r=Ut m l i:=by rw[k2,show j=(Qe l i).length from by omega,xi];rfl
   refine Qfm hk ?_
   rw[YO]
   rw[show List.filter (Uu (l.getD i default)) (List.map (YO m l) (Qe l i))=r from er.symm]
   rw[if_pos h2,if_neg (by intro q;exact h3 (xh.1 q)),if_neg h4]
   refine Uk (Uk (Uk ?_))
   have er:r=Ut m l i:=by rw[k2,show j=(Qe l i).length from by omega,xi];rfl
   refine Qfm hk ?_
   rw[YO]
   rw[show List.filter (Uu (l.getD i default)) (List.map (YO m l) (Qe l i))=r from er.symm]
   rw[if_neg (fun q=>h2 q.1 q.2)]
 refine (W51 m).en ((i<l.length/\l.length<=1000000000000)/\(0<=(l.getD i default).size/\((i:Nat):Int)+(l.getD i default).size<=l.length)/\(∀k,k∈Qe l i->(l.getD k default).size<=1000000000000)/\(W51 m).L K 4 (mkS 72 [(0,(.sl (.sels l))),(1,(.nat i)),(5,.nilsl),(6,(.own 1)),(7,(.nat 0))] [(1,.row (.ints (Qe l i)) true)] 2)) ?_
 refine Uk (Uk (Uk ?_))
 exact Wk.L.le (Yd.adopt 5 (T:=79) (x:=.selss []) (by kernel_rfl) (by kernel_rfl)) (Wk.L.rn [0,1,2] (L4 _ 0 [] rfl ⟨by omega,by simp⟩))
 cases e
theorem QuH:∀m,Sat 51 (Ql (c51 m))
 | 0=>by
  intro g0 w M ω svs args b K _ _ _ hP
  exfalso
  obtain⟨ps,v,e,hp,hk⟩:=Qd hP
  unfold c51 at e
  split at e
  cases e
  obtain⟨T,rest,h1,h2⟩:=hp.2.1
  obtain⟨x,ks⟩:=T
  rw[ST.ht]at h2
  omega
  cases e
 | m+1=>QvC m (QuH m)
def Vx (l:List SelD):List SelD:=YO l.length l 0
def Yx (l:List SelD):Prop:=∃T:ST,l=T.flat
theorem Yx.kid {l:List SelD} (h:Yx l):QaF l l.length 0:=by
 obtain⟨T,h⟩:=h
 exact⟨T,[],by rw[<-h];simp,by rw[h];exact Qfw T⟩
theorem Yx.normed {T:ST}:Vx T.flat=T.norm.flat:=Qcx _ _ _ T [] (by simp) (Qfw T)
theorem Yx.len {l:List SelD} (h:Yx l):0<l.length/\0<(Vx l).length/\(Vx l).length<=l.length:=by
 obtain⟨T,h⟩:=h
 rw[h,Yx.normed]
 exact⟨Qba T,Qba _,Qfe T⟩
def QbU:List SelD->List SelD->Bool
 | [],[]=>true
 | x::a,y::b=>QdO x y&&QbU a b
 | _,_=>false
def QeW (l r:List SelD):Bool:=QbU (Vx l) (Vx r)
theorem Qhq:∀{a b:List SelD},a.length≠b.length->QbU a b=false
 | [],[],h=>absurd rfl h
 | x::a,y::b,h=>by rw[QbU,Qhq (by simpa using h),Bool.and_false]
 | [],y::b,h=>rfl
 | x::a,[],h=>rfl
theorem Qcl:∀a:List SelD,QbU a a=true
 | []=>rfl
 | x::a=>by rw[QbU,Qcl a];simp[QdO]
theorem Qf4 {a b:List SelD} {i:Nat} (h:i<a.length) (h':i<b.length):QbU (a.drop i) (b.drop i)=(QdO (a.getD i default) (b.getD i default)&&QbU (a.drop (i+1)) (b.drop (i+1))):=by
 rw[zG h,zG h',QbU]
 simp[za,ze h,ze h']
def Yh (l:List SelD):List SelD:=if (l.getD 0 default).kind=23 then l else Qj Vj l
theorem Vd {K:Out->Option SB->Prop} {a c:Bool} (hk:K (.val (.bool a)) none) (e:a=c):K (.val (.bool c)) none:=by rw[e]at hk;exact hk
def c28i (m:Nat) (svs:List SV) (b:Option SB):QR:=match svs,b with
 | [.sl (.sels l)],none=>some ([l.length<=1000000000,Yx l,m=l.length],.sl (.sels (Vx l)))
 | _,_=>none
noncomputable def W28 (m:Nat):Wk:=⟨[(51,.pure (c51 m))],Qh Tryz.f28,false,false,[.tmp 2],[22],[],[]⟩
theorem has28:Has 28:=hsf Tryz.f28
theorem kwz2 {p q:Prop} (k:q) (h:p:=by first | omega | (rw[h03];exact h02.kid)):p/\q:=⟨h,k⟩
theorem QvG (m:Nat):Sat 28 (Ql (c28i m)):=by
 have hD:Qb (W28 m).D:=(Qb.cons Qva (QuH m) Qb.nil)
 refine (W28 m).sa hD Tryz.f28 fun svs b K hP=>?_
 obtain⟨ps,v,e,hp,hk⟩:=Qd hP
 unfold c28i at e
 split at e
 rename_i l
 cases e
 obtain⟨h01,h02,h03,_⟩:=hp
 have q:=h02.len
 refine (W28 m).en (cond (decide (l.length=0)) (K (.val (.sl (.sels []))) none) ((l.length<=1000000000)/\(QaF l m 0)/\K (.val (.sl (.sels (YO m l 0)))) none)) ?_
 refine Qa ?_ ?_<;>intro h1<;>try simp[-za]at h1
 simp[h1]at q
 refine kwz2 (kwz2 ?_)
 exact Qfm hk (by rw[h03];rfl)
 cases e
def c28 (svs:List SV) (b:Option SB):QR:=match svs,b with
 | [.sl (.sels l)],none=>some ([l.length<=1000000000,Yx l],.sl (.sels (Vx l)))
 | _,_=>none
theorem sat28:Sat 28 (Ql c28):=by
 refine Sat.imp (Sat.ex QvG) fun svs b K h=>?_
 obtain⟨ps,v,e,hp,hk⟩:=Qd h
 unfold c28 at e
 split at e
 cases e
 rename_i l
 exact⟨l.length,hp.1,hp.2.1,rfl,hk⟩
 cases e
def c12 (svs:List SV) (b:Option SB):QR:=match svs,b with
 | [.sl (.sels l),.sl (.sels r)],none=>some ([l.length<=1000000000/\r.length<=1000000000,Yx l,Yx r],.bool (QeW l r))
 | _,_=>none
noncomputable def W12:Wk:=⟨[(28,.pure c28)],Qh Tryz.f12,false,false,[.tmp 4],[4],[(5,35)],[]⟩
theorem has12:Has 12:=hsf Tryz.f12
theorem QlE {p q:Prop} (k:q) (h:p:=by first | omega | assumption):p/\q:=⟨h,k⟩
theorem sat12:Sat 12 (Ql c12):=by
 have hD:Qb W12.D:=(Qb.cons has28 sat28 Qb.nil)
 refine W12.sa hD Tryz.f12 fun svs b K hP=>?_
 obtain⟨ps,v,e,hp,hk⟩:=Qd hP
 unfold c12 at e
 split at e
 rename_i l r
 cases e
 obtain⟨h01,h02,h03,_⟩:=hp
 have q1:=h02.len
 have q2:=h03.len
 have L5:∀(mm:Nat) (i:Nat),(Vx l).length-i=mm->((Vx l).length=(Vx r).length/\i<=(Vx l).length/\QeW l r=QbU ((Vx l).drop i) ((Vx r).drop i))->W12.L K 5 (mkS 30 [(0,(.sl (.sels (Vx l)))),(1,(.sl (.sels (Vx r)))),(5,(.nat i))] [] 1):=by
  intro mm
  induction mm using zi with
  | _ mm ih=>
   intro i hm hI
   obtain⟨k1,k2,k3⟩:=hI
   refine W12.aL hD (cond (decide (i<(Vx l).length)) ((i<(Vx l).length)/\(i<(Vx r).length)/\cond (!(QdO ((Vx l).getD i default) ((Vx r).getD i default))) (K (.val (.bool false)) none) ((i+1<=9223372036854775807)/\(W12).L K 5 (mkS 30 [(0,(.sl (.sels (Vx l)))),(1,(.sl (.sels (Vx r)))),(5,(.nat (i+1)))] [] 1))) (K (.val (.bool true)) none)) ?_
   refine Qa ?_ ?_<;>intro h1<;>try simp[-za]at h1
   refine QlE (QlE ?_)
   refine Qa ?_ ?_<;>intro h2<;>try simp[-za]at h2
   refine Vd hk ?_
   rw[k3,Qf4 h1 (by omega),h2];rfl
   refine QlE ?_
   exact ih _ (by omega) (i+1) rfl ⟨k1,by omega,by rw[k3,Qf4 h1 (by omega),h2];rfl⟩
   refine Vd hk ?_
   rw[k3,xy.2 h1,xy.2 (by omega)];rfl
 refine W12.en ((l.length<=1000000000)/\(Yx l)/\(r.length<=1000000000)/\(Yx r)/\cond (!(decide ((Vx l).length=(Vx r).length))) (K (.val (.bool false)) none) ((W12).L K 5 (mkS 30 [(0,(.sl (.sels (Vx l)))),(1,(.sl (.sels (Vx r)))),(5,(.nat 0))] [] 1))) ?_
 refine QlE (QlE (QlE (QlE ?_)))
 refine Qa ?_ ?_<;>intro h1<;>try simp[-za]at h1
 refine Vd hk ?_
 exact Qhq h1
 exact L5 _ 0 rfl ⟨h1,by omega,rfl⟩
 cases e
def c13 (svs:List SV) (b:Option SB):QR:=match svs,b with
 | [.sl (.sels l)],none=>some ([0<l.length/\l.length<=1000000000],.sl (.sels (Yh l)))
 | _,_=>none
noncomputable def W13:Wk:=⟨[(29,.fn c29)],Qh Tryz.f13,false,false,[.tmp 2],[22],[],[]⟩
theorem has13:Has 13:=hsf Tryz.f13
theorem kwz4 {p q:Prop} (k:q) (h:p:=by first | omega | (simp;done) | (simp;omega)):p/\q:=⟨h,k⟩
theorem sat13:Sat 13 (Ql c13):=by
 have hD:Qb W13.D:=(Qb.cons QcV Qcv Qb.nil)
 refine W13.sa hD Tryz.f13 fun svs b K hP=>?_
 obtain⟨ps,v,e,hp,hk⟩:=Qd hP
 unfold c13 at e
 split at e
 rename_i l
 cases e
 obtain⟨h01,_⟩:=hp
 refine W13.en ((0<l.length)/\cond (decide ((l.getD 0 default).kind=(23:Int))) (K (.val (.sl (.sels l))) none) ((([l]:List (List SelD)).length<=1000000000)/\(([l]:List (List SelD)).flatten.length<=1000000000000)/\K (.val (.sl (.sels (Qj (SelD.mk (23:Int) (0:Int) [] [] (0:Int) (0:Int) (0:Int) (0:Int)) ([l]:List (List SelD)).flatten)))) none)) ?_
 refine kwz4 ?_
 refine Qa ?_ ?_<;>intro h1<;>try simp[-za]at h1
 exact Qfm hk (by unfold Yh;rw[if_pos h1])
 refine kwz4 (kwz4 ?_)
 exact Qfm hk (by unfold Yh;rw[if_neg h1];simp[Vj])
 cases e
end
section
open Go Go.RowKit Go.Shelf
def lays172_ren:Go.Shelf.Ren:=⟨fun | 172=>153 | 244=>158 | 245=>157 | 247=>165 | 279=>161 | 280=>162 | 281=>163 | 282=>164 | 287=>156 | 316=>166 | 171=>167 | 205=>71 | 321=>159 | 322=>160 | 243=>168 | 246=>169 | 283=>170 | 284=>171 | 285=>172 | 286=>173 | 129=>175 | 317=>174 | 318=>176 | 319=>177 | 320=>178 | 337=>179 | 338=>180 | n=>n,fun | 9=>9 | 3=>3 | 75=>71 | 76=>141 | 4=>4 | 5=>5 | 167=>191 | 37=>37 | 0=>0 | 85=>196 | 2=>2 | 168=>193 | 53=>182 | 175=>183 | 46=>88 | 210=>199 | 127=>149 | 145=>147 | 143=>145 | 21=>21 | 171=>201 | 173=>204 | 212=>207 | 51=>185 | 20=>20 | 213=>208 | 232=>211 | 233=>212 | 80=>63 | n=>n,fun | 15=>4 | 16=>5 | 17=>6 | 18=>7 | 19=>8 | n=>n⟩
theorem Qia:Go.Proofs.LaysC.n172 zd lays172_ren:={
 mixed:=by kernel_rfl,
 f129:=Tryz.func175.trans (congrArg some (by kernel_rfl)),
 f171:=Tryz.func167.trans (congrArg some (by kernel_rfl)),
 f172:=Tryz.func153.trans (congrArg some (by kernel_rfl)),
 f205:=Tryz.func71.trans (congrArg some (by kernel_rfl)),
 f243:=Tryz.func168.trans (congrArg some (by kernel_rfl)),
 f244:=Tryz.func158.trans (congrArg some (by kernel_rfl)),
 f245:=Tryz.func157.trans (congrArg some (by kernel_rfl)),
 f246:=Tryz.func169.trans (congrArg some (by kernel_rfl)),
 f247:=Tryz.func165.trans (congrArg some (by kernel_rfl)),
 f279:=Tryz.func161.trans (congrArg some (by kernel_rfl)),
 f280:=Tryz.func162.trans (congrArg some (by kernel_rfl)),
 f281:=Tryz.func163.trans (congrArg some (by kernel_rfl)),
 f282:=Tryz.func164.trans (congrArg some (by kernel_rfl)),
 f283:=Tryz.func170.trans (congrArg some (by kernel_rfl)),
 f284:=Tryz.func171.trans (congrArg some (by kernel_rfl)),
 f285:=Tryz.func172.trans (congrArg some (by kernel_rfl)),
 f286:=Tryz.func173.trans (congrArg some (by kernel_rfl)),
 f287:=Tryz.func156.trans (congrArg some (by kernel_rfl)),
 f316:=Tryz.func166.trans (congrArg some (by kernel_rfl)),
 f317:=Tryz.func174.trans (congrArg some (by kernel_rfl)),
 f318:=Tryz.func176.trans (congrArg some (by kernel_rfl)),
 f319:=Tryz.func177.trans (congrArg some (by kernel_rfl)),
 f320:=Tryz.func178.trans (congrArg some (by kernel_rfl)),
 f321:=Tryz.func159.trans (congrArg some (by kernel_rfl)),
 f322:=Tryz.func160.trans (congrArg some (by kernel_rfl)),
 f337:=Tryz.func179.trans (congrArg some (by kernel_rfl)),
 f338:=Tryz.func180.trans (congrArg some (by kernel_rfl)),
 t0:=Tryz.underlying0,
 a0:=Tryz.isAgg0,
 z0:=Tryz.sizeOf0,
 v0:=Tryz.zeroValue0,
 t2:=Tryz.underlying2,
 a2:=Tryz.isAgg2,
 z2:=Tryz.sizeOf2,
 v2:=Tryz.zeroValue2,
 t3:=Tryz.underlying3,
 a3:=Tryz.isAgg3,
 z3:=Tryz.sizeOf3,
 v3:=Tryz.zeroValue3,
 t4:=Tryz.underlying4,
 a4:=Tryz.isAgg4,
 z4:=Tryz.sizeOf4,
 v4:=Tryz.zeroValue4,
 t5:=Tryz.underlying5,
 a5:=Tryz.isAgg5,
 z5:=Tryz.sizeOf5,
 v5:=Tryz.zeroValue5,
 t9:=Tryz.underlying9,
 a9:=Tryz.isAgg9,
 z9:=Tryz.sizeOf9,
 v9:=Tryz.zeroValue9,
 t20:=Tryz.underlying20,
 a20:=Tryz.isAgg20,
 z20:=Tryz.sizeOf20,
 v20:=Tryz.zeroValue20,
 t21:=Tryz.underlying21,
 a21:=Tryz.isAgg21,
 z21:=Tryz.sizeOf21,
 v21:=Tryz.zeroValue21,
 t37:=Tryz.underlying37,
 a37:=Tryz.isAgg37,
 z37:=Tryz.sizeOf37,
 v37:=Tryz.zeroValue37,
 t46:=Tryz.underlying88,
 a46:=Tryz.isAgg88,
 z46:=Tryz.sizeOf88,
 v46:=Tryz.zeroValue88,
 t51:=Tryz.underlying185,
 a51:=Tryz.isAgg185,
 z51:=Tryz.sizeOf185,
 v51:=Tryz.zeroValue185,
 t53:=Tryz.underlying182,
 a53:=Tryz.isAgg182,
 z53:=Tryz.sizeOf182,
 v53:=Tryz.zeroValue182,
 t75:=Tryz.underlying71,
 a75:=Tryz.isAgg71,
 z75:=Tryz.sizeOf71,
 v75:=Tryz.zeroValue71,
 t76:=Tryz.underlying141,
 a76:=Tryz.isAgg141,
 z76:=Tryz.sizeOf141,
 v76:=Tryz.zeroValue141,
 t85:=Tryz.underlying196,
 a85:=Tryz.isAgg196,
 z85:=Tryz.sizeOf196,
 v85:=Tryz.zeroValue196,
 t127:=Tryz.underlying149,
 a127:=Tryz.isAgg149,
 z127:=Tryz.sizeOf149,
 v127:=Tryz.zeroValue149,
 t143:=Tryz.underlying145,
 a143:=Tryz.isAgg145,
 z143:=Tryz.sizeOf145,
 v143:=Tryz.zeroValue145,
 t145:=Tryz.underlying147,
 a145:=Tryz.isAgg147,
 z145:=Tryz.sizeOf147,
 v145:=Tryz.zeroValue147,
 t167:=Tryz.underlying191,
 a167:=Tryz.isAgg191,
 z167:=Tryz.sizeOf191,
 v167:=Tryz.zeroValue191,
 t168:=Tryz.underlying193,
 a168:=Tryz.isAgg193,
 z168:=Tryz.sizeOf193,
 v168:=Tryz.zeroValue193,
 t171:=Tryz.underlying201,
 a171:=Tryz.isAgg201,
 z171:=Tryz.sizeOf201,
 v171:=Tryz.zeroValue201,
 t173:=Tryz.underlying204,
 a173:=Tryz.isAgg204,
 z173:=Tryz.sizeOf204,
 v173:=Tryz.zeroValue204,
 t175:=Tryz.underlying183,
 a175:=Tryz.isAgg183,
 z175:=Tryz.sizeOf183,
 v175:=Tryz.zeroValue183,
 t210:=Tryz.underlying199,
 a210:=Tryz.isAgg199,
 z210:=Tryz.sizeOf199,
 v210:=Tryz.zeroValue199,
 t212:=Tryz.underlying207,
 a212:=Tryz.isAgg207,
 z212:=Tryz.sizeOf207,
 v212:=Tryz.zeroValue207,
 t213:=Tryz.underlying208,
 a213:=Tryz.isAgg208,
 z213:=Tryz.sizeOf208,
 t232:=Tryz.underlying211,
 a232:=Tryz.isAgg211,
 z232:=Tryz.sizeOf211,
 v232:=Tryz.zeroValue211,
 t233:=Tryz.underlying212,
 a233:=Tryz.isAgg212,
 z233:=Tryz.sizeOf212,
 v233:=Tryz.zeroValue212,
 g15:=by kernel_rfl,
 g16:=by kernel_rfl,
 g17:=by kernel_rfl,
 g18:=by kernel_rfl,
 g19:=by kernel_rfl,
 t80:=Tryz.underlying63,
 a80:=Tryz.isAgg63,
 z80:=Tryz.sizeOf63,
 v80:=Tryz.zeroValue63,
 i0:=by kernel_rfl,
 i2:=by kernel_rfl,
 i3:=by kernel_rfl,
 i4:=by kernel_rfl,
 i5:=by kernel_rfl,
 i9:=by kernel_rfl,
 i20:=by kernel_rfl,
 i21:=by kernel_rfl,
 i37:=by kernel_rfl,
 i46:=by kernel_rfl,
 i51:=by kernel_rfl,
 i53:=by kernel_rfl,
 i75:=by kernel_rfl,
 i76:=by kernel_rfl,
 i80:=by kernel_rfl,
 i85:=by kernel_rfl,
 i127:=by kernel_rfl,
 i143:=by kernel_rfl,
 i145:=by kernel_rfl,
 i167:=by kernel_rfl,
 i168:=by kernel_rfl,
 i171:=by kernel_rfl,
 i173:=by kernel_rfl,
 i175:=by kernel_rfl,
 i210:=by kernel_rfl,
 i212:=by kernel_rfl,
 i232:=by kernel_rfl,
 i233:=by kernel_rfl,
 m15:=by kernel_rfl,
 m16:=by kernel_rfl,
 m17:=by kernel_rfl,
 m18:=by kernel_rfl,
 m19:=by kernel_rfl,
 c0:=by kernel_rfl,
 c2:=by kernel_rfl,
 c3:=by kernel_rfl,
 c4:=by kernel_rfl,
 c5:=by kernel_rfl,
 c9:=by kernel_rfl,
 c20:=by kernel_rfl,
 c21:=by kernel_rfl,
 c37:=by kernel_rfl,
 c46:=by kernel_rfl,
 c51:=by kernel_rfl,
 c53:=by kernel_rfl,
 c75:=by kernel_rfl,
 c76:=by kernel_rfl,
 c80:=by kernel_rfl,
 c85:=by kernel_rfl,
 c127:=by kernel_rfl,
 c143:=by kernel_rfl,
 c145:=by kernel_rfl,
 c167:=by kernel_rfl,
 c168:=by kernel_rfl,
 c171:=by kernel_rfl,
 c173:=by kernel_rfl,
 c175:=by kernel_rfl,
 c210:=by kernel_rfl,
 c212:=by kernel_rfl,
 c213:=by kernel_rfl,
 c232:=by kernel_rfl,
 c233:=by kernel_rfl }
def lays105_ren:Go.Shelf.Ren:=⟨fun | 105=>143 | 212=>149 | 99=>113 | 165=>90 | 166=>91 | 170=>150 | 169=>92 | 263=>154 | 264=>155 | 206=>128 | 240=>105 | 241=>106 | 276=>120 | 277=>121 | n=>n,fun | 9=>9 | 3=>3 | 4=>4 | 20=>20 | 0=>0 | 46=>88 | 109=>179 | 5=>5 | 72=>139 | 76=>141 | 51=>185 | 146=>186 | 53=>182 | 148=>188 | 70=>137 | 37=>37 | 75=>71 | 127=>149 | 164=>161 | 80=>63 | n=>n,fun | n=>n⟩
theorem JS:Go.Proofs.Lays.n105 zd lays105_ren:={
 mixed:=by kernel_rfl,
 f99:=Tryz.func113.trans (congrArg some (by kernel_rfl)),
 f105:=Tryz.func143.trans (congrArg some (by kernel_rfl)),
 f165:=Tryz.func90.trans (congrArg some (by kernel_rfl)),
 f166:=Tryz.func91.trans (congrArg some (by kernel_rfl)),
 f169:=Tryz.func92.trans (congrArg some (by kernel_rfl)),
 f170:=Tryz.func150.trans (congrArg some (by kernel_rfl)),
 f206:=Tryz.func128.trans (congrArg some (by kernel_rfl)),
 f212:=Tryz.func149.trans (congrArg some (by kernel_rfl)),
 f240:=Tryz.func105.trans (congrArg some (by kernel_rfl)),
 f241:=Tryz.func106.trans (congrArg some (by kernel_rfl)),
 f263:=Tryz.func154.trans (congrArg some (by kernel_rfl)),
 f264:=Tryz.func155.trans (congrArg some (by kernel_rfl)),
 f276:=Tryz.func120.trans (congrArg some (by kernel_rfl)),
 f277:=Tryz.func121.trans (congrArg some (by kernel_rfl)),
 t0:=Tryz.underlying0,
 a0:=Tryz.isAgg0,
 z0:=Tryz.sizeOf0,
 v0:=Tryz.zeroValue0,
 t3:=Tryz.underlying3,
 a3:=Tryz.isAgg3,
 z3:=Tryz.sizeOf3,
 v3:=Tryz.zeroValue3,
 t4:=Tryz.underlying4,
 a4:=Tryz.isAgg4,
 z4:=Tryz.sizeOf4,
 v4:=Tryz.zeroValue4,
 t5:=Tryz.underlying5,
 a5:=Tryz.isAgg5,
 z5:=Tryz.sizeOf5,
 v5:=Tryz.zeroValue5,
 t9:=Tryz.underlying9,
 a9:=Tryz.isAgg9,
 z9:=Tryz.sizeOf9,
 v9:=Tryz.zeroValue9,
 t20:=Tryz.underlying20,
 a20:=Tryz.isAgg20,
 z20:=Tryz.sizeOf20,
 v20:=Tryz.zeroValue20,
 t37:=Tryz.underlying37,
 a37:=Tryz.isAgg37,
 z37:=Tryz.sizeOf37,
 v37:=Tryz.zeroValue37,
 t46:=Tryz.underlying88,
 a46:=Tryz.isAgg88,
 z46:=Tryz.sizeOf88,
 v46:=Tryz.zeroValue88,
 t51:=Tryz.underlying185,
 a51:=Tryz.isAgg185,
 z51:=Tryz.sizeOf185,
 v51:=Tryz.zeroValue185,
 t53:=Tryz.underlying182,
 a53:=Tryz.isAgg182,
 z53:=Tryz.sizeOf182,
 v53:=Tryz.zeroValue182,
 t70:=Tryz.underlying137,
 a70:=Tryz.isAgg137,
 z70:=Tryz.sizeOf137,
 v70:=Tryz.zeroValue137,
 t72:=Tryz.underlying139,
 a72:=Tryz.isAgg139,
 z72:=Tryz.sizeOf139,
 v72:=Tryz.zeroValue139,
 t75:=Tryz.underlying71,
 a75:=Tryz.isAgg71,
 z75:=Tryz.sizeOf71,
 v75:=Tryz.zeroValue71,
 t76:=Tryz.underlying141,
 a76:=Tryz.isAgg141,
 z76:=Tryz.sizeOf141,
 v76:=Tryz.zeroValue141,
 t109:=Tryz.underlying179,
 a109:=Tryz.isAgg179,
 z109:=Tryz.sizeOf179,
 v109:=Tryz.zeroValue179,
 t127:=Tryz.underlying149,
 a127:=Tryz.isAgg149,
 z127:=Tryz.sizeOf149,
 v127:=Tryz.zeroValue149,
 t146:=Tryz.underlying186,
 a146:=Tryz.isAgg186,
 z146:=Tryz.sizeOf186,
 v146:=Tryz.zeroValue186,
 t148:=Tryz.underlying188,
 a148:=Tryz.isAgg188,
 z148:=Tryz.sizeOf188,
 v148:=Tryz.zeroValue188,
 t164:=Tryz.underlying161,
 a164:=Tryz.isAgg161,
 z164:=Tryz.sizeOf161,
 v164:=Tryz.zeroValue161 }
theorem QrQ:Builder.Extra zd lays105_ren:={
 sizeBuilder:=by kernel_rfl,
 liesBuilder:=by kernel_rfl,
 t5:=JS.t5,
 a5:=JS.a5,
 z5:=JS.z5,
 v5:=JS.v5,
 infoByte:=by kernel_rfl,
 cellsByte:=by kernel_rfl,
 sizeByte:=by kernel_rfl,
 neB5:=by decide }
theorem Sat.lib {f:FuncId} {P:Spec} (h:∀(w:World) (ω:Wit) (svs:List SV) (args:Array Value) (b:Option SB) (K:Out->Option SB->Prop),
 (∀g,Qkr g=true->∃t v,w.cell? ⟨g,0,none⟩=some (.iface t v))->args.size=svs.length->(∀(i:Nat) (s:SV) (v:Value),svs[i]? = some s->args[i]? = some v->Rel ω s v)->P svs b K ->
 b=none/\Calls zd f args w fun e w'=>∃v s,e=.returned v/\K (.val s) none/\s.lt 0=true/\Rel ω s v/\Below w.heap.size w w'):Sat f P:=by
 intro g0 w M ω svs args b K hS hn hr hP
 obtain⟨rfl,hc⟩:=h w ω svs args b K (fun g hg=>by
  obtain⟨t,v,T,hG⟩:=g0.err g hg
  obtain⟨fr,hh⟩:=hS.gam g _ _ (hS.gl _ _ hG)
  exact⟨t,v,by rw[Jr hh];rfl⟩) hn hr hP
 refine hc.mono ?_
 rintro e w' ⟨v,s,he,hk,hl,hv,hb⟩
 refine⟨v,.val s,none,he,hk,ω,loc none,?_,(fun c e=>by cases e),hl,hv⟩
 have:=hS.grow (Wit.le.refl ω) hb.os hb.tape hb.output hb.size hb.block (fun b c T e=>.inl e)
 rw[hS.wn]at this
 exact this
theorem Qjv {ω:Wit} {a b:SV} {u v:Value} (h:Rel ω a u) (k:Rel ω b v):Rel ω (.tup [a,b]) (.tuple #[u,v]):=by
 refine .tup _ _ rfl fun i s x h1 h2=>?_
 match i with
 | 0=>simp at h1 h2;rw[<-h1,<-h2];exact h
 | 1=>simp at h1 h2;rw[<-h1,<-h2];exact k
 | i+2=>simp at h1
theorem QtZ (l:Bs):∀n:Nat,n<=l.foldl (fun n c=>10*n+(c.toNat-48)) n:=by
 induction l with
 | nil=>intro n;exact zj _
 | cons c l ih=>intro n;have:=ih (10*n+(c.toNat-48));simp only[z8];omega
theorem QmT:∀(l:Bs) (acc:Nat),acc<18446744073709551616->(∀c∈l,Qv c.toNat=true) ->
 Lib.parseUint10 acc l=if l.foldl (fun n c=>10*n+(c.toNat-48)) acc<18446744073709551616 then .ok (l.foldl (fun n c=>10*n+(c.toNat-48)) acc) else .range
 | [],acc,h,hd=>by rw[Lib.parseUint10,List.foldl_nil,if_pos h]
 | c::r,acc,h,hd=>by
  have hc:=hd c (by simp)
  simp only[Qv,zh,decide_eq_true_eq]at hc
  have hf:=QtZ r (10*acc+(c.toNat-48))
  rw[Lib.parseUint10,if_pos hc,z8]
  split
  rw[if_neg (by omega)]
  split
  rw[if_neg (by omega)]
  rw[show acc*10+(c.toNat-48)=10*acc+(c.toNat-48) from by omega]
  exact QmT r _ (by omega) fun x hx=>hd x (by simp[hx])
theorem QkC {l:Bs} (h0:0<l.length) (hd:∀c∈l,Qv c.toNat=true):Lib.atoiAll l=if YU l<=9223372036854775807 then .ok (YU l:Int) else .range:=by
 match l,h0 with
 | c::r,_=>
  have hc:=hd c (by simp)
  simp only[Qv,zh,decide_eq_true_eq]at hc
  have hp:=QmT (c::r) 0 (by omega) hd
  have e:(c::r).foldl (fun n c=>10*n+(c.toNat-48)) 0=YU (c::r):=rfl
  rw[e]at hp
  unfold Lib.atoiAll
  simp only
  rw[if_neg (by omega),Lib.parseMag,if_neg (by simp),hp]
  by_cases h1:YU (c::r)<18446744073709551616
  rw[if_pos h1]
  simp only
  by_cases h2:YU (c::r)<=9223372036854775807
  rw[if_neg (by omega),if_neg (by omega),if_pos h2,if_neg (by omega)]
  rw[if_pos (by omega),if_neg h2]
  rw[if_neg h1,if_neg (by omega)]
def c153 (svs:List SV) (b:Option SB) (K:Out->Option SB->Prop):Prop:=match svs,b with
 | [.str l],none=>l.length<=1000000/\0<l.length/\(∀c∈l,Qv c.toNat=true) /\
  cond (decide (YU l<=9223372036854775807)) (K (.val (.tup [.nat (YU l),.nilif])) none) (∀n:Int,K (.val (.tup [.int .i64 n,.ifx])) none)
 | _,_=>False
theorem QxM:Has 153:=hsf Tryz.f153
theorem Qv4:Sat 153 c153:=by
 refine Sat.lib fun w ω svs args b K hg hn hr hP=>?_
 unfold c153 at hP
 split at hP
 rename_i l
 obtain⟨h1,h2,h3,h4⟩:=hP
 refine⟨rfl,?_⟩
 obtain⟨xs⟩:=args
 match xs,hn with
 | [x],_=>
  have hx:=(hr 0 _ x rfl rfl).str_inv
  subst hx
  have hs:(⟨l.toArray⟩:ByteArray).data.toList=l:=rfl
  have hz:(⟨l.toArray⟩:ByteArray).size=l.length:=rfl
  have ha:=QkC h2 h3
  by_cases hv:YU l<=9223372036854775807
  rw[if_pos hv]at ha
  rw[decide_eq_true hv]at h4
  have hA:=Any.strconv_Atoi_ok Qia ⟨l.toArray⟩ (by rw[hz];omega) _ (by rw[hs];exact ha) w
  refine hA.mono ?_
  rintro e w' ⟨he,hw⟩
  refine⟨_,_,he,h4,rfl,Qjv (.nat _) .nilif,?_⟩
  rcases hw with rfl | ⟨t,rfl⟩
  exact Below.refl _ _
  exact Lib.bytesWorld_below w _ t
  rw[if_neg hv]at ha
  rw[decide_eq_false hv]at h4
  obtain⟨t,v,hc⟩:=hg 5 rfl
  have hA:=Any.strconv_Atoi_range Qia ⟨l.toArray⟩ (by rw[hz];omega) (by rw[hs];exact ha) _ w hc (.inr ⟨t,v,rfl⟩)
  refine hA.mono ?_
  rintro e w' ⟨N,he,_,_,hb⟩
  exact⟨_,_,he,h4 _,rfl,Qjv (.int _ _) (.ifx _ _),hb⟩
 exact hP.elim
def c143 (svs:List SV) (b:Option SB):QR:=match svs,b with
 | [.str l,.nat c],none=>some ([l.length*c<=140737488355328/\c<=9223372036854775807],.str (Lib.repeatL l c))
 | _,_=>none
theorem QxT:Has 143:=hsf Tryz.f143
theorem Qwb:Sat 143 (Ql c143):=by
 refine Sat.lib fun w ω svs args b K hg hn hr hP=>?_
 obtain⟨ps,v,e,hp,hk⟩:=Qd hP
 unfold c143 at e
 split at e
 rename_i l c
 cases e
 refine⟨rfl,?_⟩
 obtain⟨xs⟩:=args
 match xs,hn with
 | [x,y],_=>
  have hx:=(hr 0 _ x rfl rfl).str_inv
  have hy:=(hr 1 _ y rfl rfl).nat_inv
  subst hx
  subst hy
  have hz:(⟨l.toArray⟩:ByteArray).size=l.length:=rfl
  have hA:=Any.strings_Repeat JS QrQ ⟨l.toArray⟩ c w hp.1.2 (by rw[hz];exact hp.1.1)
  refine hA.mono ?_
  rintro e w' ⟨he,hb⟩
  exact⟨_,_,he,hk,rfl,.str _,hb⟩
 cases e
end
section
open Go Go.RowKit
set_option maxRecDepth 20000
theorem Qlv {l:Bs} {i:Nat} (h:low (l.take i)=l.take i):low (l.take i)++l.drop i=l:=by rw[h,List.take_append_drop]
theorem Qh4 (l:Bs) (i:Nat) (h:l.length<=i):low (l.take i)++l.drop i=low l:=by rw[zS h,xy.2 h,zD]
theorem byt32 (c:UInt8):c+97-65=c+32:=by
 apply UInt8.toNat_inj.1
 rw[UInt8.toNat_sub,xj,xj]
 have h1:(97:UInt8).toNat=97:=rfl
 have h2:(65:UInt8).toNat=65:=rfl
 have h3:(32:UInt8).toNat=32:=rfl
 omega
def c133 (svs:List SV) (b:Option SB) (K:Out->Option SB->Prop):Prop:=match svs,b with
 | [.ptr 0 0],some (.blk 94 [.str s,.nat i,.nat d,.bool a])=>s.length<=1000000/\i<=s.length/\Qu (Vs s i) (fun j=>i<j/\j<=s.length->K (.val (.bool true)) (some (.blk 94 [.str s,.nat j,.nat d,.bool a]))) (K (.val (.bool false)) (some (.blk 94 [.str s,.nat i,.nat d,.bool a])))
 | _,_=>False
noncomputable def W133:Wk:=⟨[(99,.fn c99)],Qh Tryz.f133,true,false,[.tmp 2],[4],[],[]⟩
theorem Qx3:Has 133:=hsf Tryz.f133
theorem Qj1 {p q:Prop} (k:q) (h:p:=by first | omega | (have:=Vw s i h02;omega) | (simp;done) | (simp;omega) | (simp;have:=Vw s i h02;omega)):p/\q:=⟨h,k⟩
theorem kxz1 {c0 p0 p1 p2 q:Prop} (k:q) (h:c0->p0/\p1/\p2/\True:=by intro g0;(try simp at g0);exact⟨(by first | omega | (have:=Vw s i h02;omega) | (simp;done) | (simp;omega) | (simp;have:=Vw s i h02;omega)),(by first | omega | (have:=Vw s i h02;omega) | (simp;done) | (simp;omega) | (simp;have:=Vw s i h02;omega)),(by first | omega | (have:=Vw s i h02;omega) | (simp;done) | (simp;omega) | (simp;have:=Vw s i h02;omega)),trivial⟩):(c0->p0/\p1/\p2/\True)/\q:=⟨h,k⟩
theorem QcK {c0 p0 q:Prop} (k:q) (h:c0->p0/\True:=by intro g0;(try simp at g0);exact⟨(by first | omega | (have:=Vw s i h02;omega) | (simp;done) | (simp;omega) | (simp;have:=Vw s i h02;omega)),trivial⟩):(c0->p0/\True)/\q:=⟨h,k⟩
theorem Qwl:Sat 133 c133:=by
 have hD:Qb W133.D:=(Qb.cons Qg8 Qgv Qb.nil)
 refine W133.sa hD Tryz.f133 fun svs b K hP=>?_
 unfold c133 at hP
 split at hP
 rename_i s i d a
 obtain⟨h01,h02,hk⟩:=hP
 refine W133.en (have a1:=decide (i<s.length);have a0:=a1=true->((a1==true)=true)/\True;a0/\a0/\a0/\a0/\a0/\a0/\(a1=true->((a1==true)=true)/\((a1==true)=true)/\(i<s.length)/\True)/\a0/\(a1=true->(a1==true)=true)/\cond (a1&&(decide (bat s i=40))) ((i+1<=9223372036854775807)/\(s.length<=1000000)/\(i+1<=s.length)/\K (.val (.bool true)) (some (.blk 94 [(.str s),(.nat (iWs s (i+1))),(.nat d),(.bool a)]))) (K (.val (.bool false)) (some (.blk 94 [(.str s),(.nat i),(.nat d),(.bool a)])))) ?_
 refine QcK (QcK (QcK (QcK (QcK (QcK (kxz1 (QcK (Qj1 ?_))))))))
 refine Qa ?_ ?_<;>intro h1<;>try simp[-za]at h1
 refine Qj1 (Qj1 (Qj1 ?_))
 have e:Vs s i=some (iWs s (i+1)):=by unfold Vs;rw[if_pos h1]
 rw[e]at hk
 exact hk ⟨by have:=Q4 s (i+1);omega,Vw s (i+1) (by omega)⟩
 have e:Vs s i=none:=by unfold Vs;rw[if_neg (by intro q;exact h1 q.1 q.2)]
 rw[e]at hk
 exact hk
 exact hP.elim
def c134 (svs:List SV) (b:Option SB) (K:Out->Option SB->Prop):Prop:=match svs,b with
 | [.ptr 0 0],some (.blk 94 [.str s,.nat i,.nat d,.bool a])=>s.length<=1000000/\i<=s.length/\Qu (QP s i) (fun j=>i<j/\j<=s.length->K (.val (.bool true)) (some (.blk 94 [.str s,.nat j,.nat d,.bool a]))) (K (.val (.bool false)) (some (.blk 94 [.str s,.nat i,.nat d,.bool a])))
 | _,_=>False
noncomputable def W134:Wk:=⟨[(99,.fn c99)],Qh Tryz.f134,true,false,[.tmp 2],[4],[],[]⟩
theorem Qx2:Has 134:=hsf Tryz.f134
theorem Qwk:Sat 134 c134:=by
 have hD:Qb W134.D:=(Qb.cons Qg8 Qgv Qb.nil)
 refine W134.sa hD Tryz.f134 fun svs b K hP=>?_
 unfold c134 at hP
 split at hP
 rename_i s i d a
 obtain⟨h01,h02,hk⟩:=hP
 refine W134.en (have a1:=decide (iWs s i<s.length);have a0:=a1=true->((a1==true)=true)/\True;(s.length<=1000000)/\(i<=s.length)/\a0/\a0/\a0/\a0/\a0/\a0/\(a1=true->((a1==true)=true)/\((a1==true)=true)/\(iWs s i<s.length)/\True)/\a0/\(a1=true->(a1==true)=true)/\cond (a1&&(decide (bat s (iWs s i)=41))) ((iWs s i+1<=9223372036854775807)/\K (.val (.bool true)) (some (.blk 94 [(.str s),(.nat (iWs s i+1)),(.nat d),(.bool a)]))) (K (.val (.bool false)) (some (.blk 94 [(.str s),(.nat i),(.nat d),(.bool a)])))) ?_
 refine Qj1 (Qj1 (QcK (QcK (QcK (QcK (QcK (QcK (kxz1 (QcK (Qj1 ?_))))))))))
 refine Qa ?_ ?_<;>intro h1<;>try simp[-za]at h1
 refine Qj1 ?_
 have e:QP s i=some (iWs s i+1):=by unfold QP;rw[if_pos h1]
 rw[e]at hk
 exact hk ⟨by have:=Q4 s i;omega,by omega⟩
 have e:QP s i=none:=by unfold QP;rw[if_neg (by intro q;exact h1 q.1 q.2)]
 rw[e]at hk
 exact hk
 exact hP.elim
def Qpc (svs:List SV) (b:Option SB):QR:=match svs,b with
 | [.str l],none=>some ([l.length<=1000000000],.str (low l))
 | _,_=>none
noncomputable def Qeb:Wk:=⟨[],Qh Tryz.f130,false,false,[.tmp 2],[9],[(3,25)],[]⟩
theorem Qir:Has 130:=hsf Tryz.f130
theorem JT {p q:Prop} (k:q) (h:p:=by first | omega | (simp[low];omega) | (simp;done) | (simp;omega)):p/\q:=⟨h,k⟩
theorem QhC:Sat 130 (Ql Qpc):=by
 have hD:Qb Qeb.D:=Qb.nil
 refine Qeb.sa hD Tryz.f130 fun svs b K hP=>?_
 obtain⟨ps,v,e,hp,hk⟩:=Qd hP
 unfold Qpc at e
 split at e
 rename_i l
 cases e
 obtain⟨h01,_⟩:=hp
 have L3b:∀(mm:Nat) (i:Nat),l.length-i=mm->(i<=l.length/\0<l.length)->Qeb.L K 3 (mkS 41 [(0,(.str l)),(3,(.own 1)),(4,(.nat i))] [(1,.row (.bytes (low (l.take i)++l.drop i)) true)] 2):=by
  intro mm
  induction mm using zi with
  | _ mm ih=>
   intro i hm hI
   refine Qeb.aL hD (have a0:=low (l.take i)++l.drop i;cond (decide (i<l.length)) ((i<l.length)/\cond ((decide (65<=bat l i))&&(decide (bat l i<=90))) ((0<a0.length)/\(i<l.length)/\(i<a0.length)/\(i<a0.length)/\(i+1<=9223372036854775807)/\(Qeb).L K 3 (mkS 41 [(0,(.str l)),(3,(.own 1)),(4,(.nat (i+1)))] [(1,.row (.bytes (a0.set i (l.getD i 0+32))) true)] 2)) ((i+1<=9223372036854775807)/\(Qeb).L K 3 (mkS 41 [(0,(.str l)),(3,(.own 1)),(4,(.nat (i+1)))] [(1,.row (.bytes a0) true)] 2))) ((0<a0.length)/\K (.val (.str a0)) none)) ?_
   refine Qa ?_ ?_<;>intro h1<;>try simp[-za]at h1
   refine JT ?_
   refine Qa ?_ ?_<;>intro h2<;>try simp[-za]at h2
   refine JT (JT (JT (JT (JT ?_))))
   have e:(low (l.take i)++l.drop i).set i (l.getD i 0+32)=low (l.take (i+1))++l.drop (i+1):=by
    rw[<-Qeo l i h1];unfold QbE;rw[if_pos (show 65<=(l.getD i 0).toNat/\(l.getD i 0).toNat<=90 from h2)]
   rw[e]
   exact ih _ (by omega) (i+1) rfl ⟨by omega,by omega⟩
   refine JT ?_
   rw[QcJ l i h1 (by unfold QbE;rw[if_neg (fun h=>by have:=h2 h.1;have h3:bat l i<=90:=h.2;omega)])]
   exact ih _ (by omega) (i+1) rfl ⟨by omega,by omega⟩
   refine JT ?_
   rw[Qh4 l i (by omega)]
   exact hk
 have L3:∀(mm:Nat) (i:Nat),l.length-i=mm->(i<=l.length/\low (l.take i)=l.take i)->Qeb.L K 3 (mkS 41 [(0,(.str l)),(3,.nilsl),(4,(.nat i))] [] 1):=by
  intro mm
  induction mm using zi with
  | _ mm ih=>
   intro i hm hI
   obtain⟨k1,k2⟩:=hI
   refine Qeb.aL hD (cond (decide (i<l.length)) ((i<l.length)/\cond ((decide (65<=bat l i))&&(decide (bat l i<=90))) ((l.length=l.length)/\(l.length<=1099511627776)/\((zR l.length (0:UInt8)).length=l.length)/\(i<l.length)/\(i<l.length)/\(i<l.length)/\(i+1<=9223372036854775807)/\(Qeb).L K 3 (mkS 41 [(0,(.str l)),(3,(.own 1)),(4,(.nat (i+1)))] [(1,.row (.bytes (l.set i (l.getD i 0+32))) true)] 2)) ((i+1<=9223372036854775807)/\(Qeb).L K 3 (mkS 41 [(0,(.str l)),(3,.nilsl),(4,(.nat (i+1)))] [] 1))) (K (.val (.str l)) none)) ?_
   refine Qa ?_ ?_<;>intro h1<;>try simp[-za]at h1
   refine JT ?_
   refine Qa ?_ ?_<;>intro h2<;>try simp[-za]at h2
   refine JT (JT (JT (JT (JT (JT (JT ?_))))))
   have e:l.set i (l.getD i 0+32)=low (l.take (i+1))++l.drop (i+1):=by
    rw[<-Qeo l i h1,Qlv k2];unfold QbE;rw[if_pos (show 65<=(l.getD i 0).toNat/\(l.getD i 0).toNat<=90 from h2)]
   rw[e]
   exact L3b _ (i+1) rfl ⟨by omega,by omega⟩
   refine JT ?_
   have e:=QcJ l i h1 (by unfold QbE;rw[if_neg (fun h=>by have:=h2 h.1;have h3:bat l i<=90:=h.2;omega)])
   rw[Qlv k2]at e
   exact ih _ (by omega) (i+1) rfl ⟨by omega,List.append_cancel_right (bs:=l.drop (i+1)) (by rw[List.take_append_drop];exact e.symm)⟩
   have e:=Qh4 l i (by omega)
   rw[Qlv k2]at e
   rw[<-e]at hk
   exact hk
 refine Qeb.en ((Qeb).L K 3 (mkS 41 [(0,(.str l)),(3,.nilsl),(4,(.nat 0))] [] 1)) ?_
 exact L3 _ 0 rfl ⟨by omega,by simp[low]⟩
 cases e
def c135 (svs:List SV) (b:Option SB):QR:=match svs,b with
 | [.str l],none=>some ([l.length<=1000000000],.str (low l))
 | _,_=>none
noncomputable def QkG:Wk:=⟨[],Qh Tryz.f135,false,false,[.tmp 2],[9],[(3,1800)],[]⟩
theorem Qx1:Has 135:=hsf Tryz.f135
theorem Qwj:Sat 135 (Ql c135):=by
 have hD:Qb QkG.D:=Qb.nil
 refine QkG.sa hD Tryz.f135 fun svs b K hP=>?_
 obtain⟨ps,v,e,hp,hk⟩:=Qd hP
 unfold c135 at e
 split at e
 rename_i l
 cases e
 obtain⟨h01,_⟩:=hp
 have L3:∀(mm:Nat) (i:Nat),l.length-i=mm->(i<=l.length)->QkG.L K 3 (mkS 30 [(3,(.own 1)),(8,(.own 1)),(9,(.nat l.length)),(10,(.nat i))] [(1,.row (.bytes (low (l.take i)++l.drop i)) false)] 2):=by
  intro mm
  induction mm using zi with
  | _ mm ih=>
   intro i hm hI
   refine QkG.aL hD (have a0:=low (l.take i)++l.drop i;cond (decide (i<l.length)) ((i<a0.length)/\(i<a0.length)/\cond ((decide (65<=bat a0 i))&&(decide (bat a0 i<=90))) ((i<a0.length)/\(i<a0.length)/\(i+1<=9223372036854775807)/\(QkG).L K 3 (mkS 30 [(3,(.own 1)),(8,(.own 1)),(9,(.nat l.length)),(10,(.nat (i+1)))] [(1,.row (.bytes (a0.set i (a0.getD i 0+97-65))) false)] 2)) ((i+1<=9223372036854775807)/\(QkG).L K 3 (mkS 30 [(3,(.own 1)),(8,(.own 1)),(9,(.nat l.length)),(10,(.nat (i+1)))] [(1,.row (.bytes a0) false)] 2))) (K (.val (.str a0)) none)) ?_
   refine Qa ?_ ?_<;>intro h1<;>try simp[-za]at h1
   refine JT (JT ?_)
   refine Qa ?_ ?_<;>intro h2<;>try simp[-za]at h2
   refine JT (JT (JT ?_))
   rw[QeB l i h1]at h2
   have e:(low (l.take i)++l.drop i).set i ((low (l.take i)++l.drop i).getD i 0+97-65)=low (l.take (i+1))++l.drop (i+1):=by
    rw[<-Qeo l i h1,Qlw l i h1,byt32];unfold QbE;rw[if_pos (show 65<=(l.getD i 0).toNat/\(l.getD i 0).toNat<=90 from h2)]
   rw[e]
   exact ih _ (by omega) (i+1) rfl (by omega)
   refine JT ?_
   rw[QeB l i h1]at h2
   rw[QcJ l i h1 (by unfold QbE;rw[if_neg (fun h=>by have:=h2 h.1;have h3:bat l i<=90:=h.2;omega)])]
   exact ih _ (by omega) (i+1) rfl (by omega)
   rw[Qh4 l i (by omega)]
   exact hk
 refine QkG.en ((l.length<=1099511627776)/\(QkG).L K 3 (mkS 30 [(3,(.own 1)),(8,(.own 1)),(9,(.nat l.length)),(10,(.nat 0))] [(1,.row (.bytes l) false)] 2)) ?_
 refine JT ?_
 exact L3 _ 0 rfl (by omega)
 cases e
end
end Go.Proofs.YtengepcafdnalaaGreatDoor
