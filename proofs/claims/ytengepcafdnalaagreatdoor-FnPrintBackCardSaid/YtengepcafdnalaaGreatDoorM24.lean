/-
  Parts of the proof that the law FnPrintBack holds for every input (texts Km, Kn, Ko, Kp, Kq). Conditions: none.
-/
import Derived.Test.YtengepcafdnalaaGreatDoorM23
namespace Go.Proofs.YtengepcafdnalaaGreatDoor
open _root_.Bool renaming noConfusion → z6, or_assoc → zY
open _root_.List renaming getD_eq_getElem?_getD → zd, length_append → zh, length_singleton → zF, flatten_append → xr, mem_cons → zu, not_mem_nil → zJ
open _root_.Nat renaming strongRecOn → zl, mul_le_mul_left → zz, le_refl → zm
section
open Go Go.RowKit
set_option maxRecDepth 20000
def c23 (m:Nat) (svs:List SV) (b:Option SB):FR:=match svs,b with
 | [.ptr 0 0,.bool many,.bool pseudo],some (.blk 46 [.str s,.nat p,.bool bad,.bool un,.bool ps])=>some ([s.length<=100000,p<=s.length,s.length+1<=m+p,m<=200000],.row (.sels (VI (Qq s ps m) s ps many pseudo ⟨p,bad,un⟩).1),
  some (.blk 46 [.str s,.nat (VI (Qq s ps m) s ps many pseudo ⟨p,bad,un⟩).2.p,.bool (VI (Qq s ps m) s ps many pseudo ⟨p,bad,un⟩).2.bad,.bool (VI (Qq s ps m) s ps many pseudo ⟨p,bad,un⟩).2.un,.bool ps]))
 | _,_=>none
theorem QqX {l:List SelD} (h:l.length<=100000000000):[l].flatten.length<=1000000000000:=by simp;omega
theorem Quf:Has 23:=hsf Tryz.f23
def Qum (m:Nat) (svs:List SV) (b:Option SB):FR:=match svs,b with
 | [.ptr 0 0,.int .i64 k,.int .i64 f],some (.blk 46 [.str s,.nat p,.bool bad,.bool un,.bool ps])=>some ([s.length<=100000,p<=s.length,s.length+1<=m+p,m<=200000,k<=20],.row (.sels (V3 (Qq s ps (m+1)) s k f ⟨p,bad,un⟩).1),some (.blk 46 [.str s,.nat (V3 (Qq s ps (m+1)) s k f ⟨p,bad,un⟩).2.p,.bool (V3 (Qq s ps (m+1)) s k f ⟨p,bad,un⟩).2.bad,.bool (V3 (Qq s ps (m+1)) s k f ⟨p,bad,un⟩).2.un,.bool ps]))
 | _,_=>none
noncomputable def W127 (m:Nat):Wk:=⟨[(23,.fn (c23 m)),(29,.fn c29),(43,.plain c43),(64,.fn c64),(66,.pure c66),(68,.fn c68),(96,.fn c96),(123,.fn c123),(140,.fn c140),(141,.fn c141)],Qe Tryz.f127,true,true,[.tmp 6],[22],[],[]⟩
theorem Qw3:Has 127:=hsf Tryz.f127
theorem kmz1 {c0 p0 p1 q:Prop} (k:q) (h:c0->p0/\p1/\True:=by intro g0;(try simp at g0);exact⟨(by first | omega | (simp;done) | (have:=Qhb (s:=s) (t:=⟨p,bad,un⟩) h02;have:=QcF s ⟨p,bad,un⟩;simp only at *;omega)   | (have u1:=QF s ⟨p,bad,un⟩ (show p<=_ from by omega);have u2:=u1.trans (QaH s _ u1.2);have u3:=u2.trans (QF s _ u2.2);first | exact u1.2 | exact u2.2 | exact u3.2 | (have:=u1.2;have:=u2.2;have:=u3.2;omega) | (have:=QW (U5 h3) (by decide);omega))   | (refine QqX (Qbn (m:=m+1) h01 (by omega) ?_);first | exact (QF s ⟨p,bad,un⟩ (show p<=_ from by omega)).2)   | (have u1:=QF s ⟨p,bad,un⟩ (show p<=_ from by omega);have u2:=(Za s ps (m+1) ⟨(sSp s ⟨p,bad,un⟩).p,(sSp s ⟨p,bad,un⟩).bad,true⟩ u1.2).1;have u3:=(Za s ps (m+1) (sSp s ⟨p,bad,un⟩) u1.2).1;first | exact u2.2 | exact u3.2 | (have:=QW (U5 h5) (by decide);omega))   | (have u1:=QF s ⟨p,bad,un⟩ (show p<=_ from by omega);have u2:=Ve s ⟨(sSp s ⟨p,bad,un⟩).p,(sSp s ⟨p,bad,un⟩).bad,true⟩ u1.2;have u3:=Ve s (sSp s ⟨p,bad,un⟩) u1.2;have n2:=YB s ⟨(sSp s ⟨p,bad,un⟩).p,(sSp s ⟨p,bad,un⟩).bad,true⟩ u1.2;have n3:=YB s (sSp s ⟨p,bad,un⟩) u1.2;first | exact u2.2 | exact u3.2 | omega)   | (have u1:=QF s ⟨p,bad,un⟩ (show p<=_ from by omega);exact QB s _ (Ve s ⟨(sSp s ⟨p,bad,un⟩).p,(sSp s ⟨p,bad,un⟩).bad,true⟩ u1.2).2)   | (have u1:=QF s ⟨p,bad,un⟩ (show p<=_ from by omega);exact QB s _ (Ve s (sSp s ⟨p,bad,un⟩) u1.2).2)   | (have:=QW (U5 h6) (by decide);omega) | (have:=QW (U5 h5) (by decide);omega)   | (have u1:=QF s ⟨p,bad,un⟩ (show p<=_ from by omega);have u3:=JA s (sSp s ⟨p,bad,un⟩) u1.2;have n3:=QcE s (sSp s ⟨p,bad,un⟩) u1.2;first | exact u3.2 | exact QB s _ u3.2 | omega)),(by first | omega | (simp;done) | (have:=Qhb (s:=s) (t:=⟨p,bad,un⟩) h02;have:=QcF s ⟨p,bad,un⟩;simp only at *;omega)   | (have u1:=QF s ⟨p,bad,un⟩ (show p<=_ from by omega);have u2:=u1.trans (QaH s _ u1.2);have u3:=u2.trans (QF s _ u2.2);first | exact u1.2 | exact u2.2 | exact u3.2 | (have:=u1.2;have:=u2.2;have:=u3.2;omega) | (have:=QW (U5 h3) (by decide);omega))   | (refine QqX (Qbn (m:=m+1) h01 (by omega) ?_);first | exact (QF s ⟨p,bad,un⟩ (show p<=_ from by omega)).2)   | (have u1:=QF s ⟨p,bad,un⟩ (show p<=_ from by omega);have u2:=(Za s ps (m+1) ⟨(sSp s ⟨p,bad,un⟩).p,(sSp s ⟨p,bad,un⟩).bad,true⟩ u1.2).1;have u3:=(Za s ps (m+1) (sSp s ⟨p,bad,un⟩) u1.2).1;first | exact u2.2 | exact u3.2 | (have:=QW (U5 h5) (by decide);omega))   | (have u1:=QF s ⟨p,bad,un⟩ (show p<=_ from by omega);have u2:=Ve s ⟨(sSp s ⟨p,bad,un⟩).p,(sSp s ⟨p,bad,un⟩).bad,true⟩ u1.2;have u3:=Ve s (sSp s ⟨p,bad,un⟩) u1.2;have n2:=YB s ⟨(sSp s ⟨p,bad,un⟩).p,(sSp s ⟨p,bad,un⟩).bad,true⟩ u1.2;have n3:=YB s (sSp s ⟨p,bad,un⟩) u1.2;first | exact u2.2 | exact u3.2 | omega)   | (have u1:=QF s ⟨p,bad,un⟩ (show p<=_ from by omega);exact QB s _ (Ve s ⟨(sSp s ⟨p,bad,un⟩).p,(sSp s ⟨p,bad,un⟩).bad,true⟩ u1.2).2)   | (have u1:=QF s ⟨p,bad,un⟩ (show p<=_ from by omega);exact QB s _ (Ve s (sSp s ⟨p,bad,un⟩) u1.2).2)   | (have:=QW (U5 h6) (by decide);omega) | (have:=QW (U5 h5) (by decide);omega)   | (have u1:=QF s ⟨p,bad,un⟩ (show p<=_ from by omega);have u3:=JA s (sSp s ⟨p,bad,un⟩) u1.2;have n3:=QcE s (sSp s ⟨p,bad,un⟩) u1.2;first | exact u3.2 | exact QB s _ u3.2 | omega)),trivial⟩):(c0->p0/\p1/\True)/\q:=⟨h,k⟩
theorem Vs {p q:Prop} (k:q) (h:p:=by first | omega | (simp;done) | (have:=Qhb (s:=s) (t:=⟨p,bad,un⟩) h02;have:=QcF s ⟨p,bad,un⟩;simp only at *;omega)   | (have u1:=QF s ⟨p,bad,un⟩ (show p<=_ from by omega);have u2:=u1.trans (QaH s _ u1.2);have u3:=u2.trans (QF s _ u2.2);first | exact u1.2 | exact u2.2 | exact u3.2 | (have:=u1.2;have:=u2.2;have:=u3.2;omega) | (have:=QW (U5 h3) (by decide);omega))   | (refine QqX (Qbn (m:=m+1) h01 (by omega) ?_);first | exact (QF s ⟨p,bad,un⟩ (show p<=_ from by omega)).2)   | (have u1:=QF s ⟨p,bad,un⟩ (show p<=_ from by omega);have u2:=(Za s ps (m+1) ⟨(sSp s ⟨p,bad,un⟩).p,(sSp s ⟨p,bad,un⟩).bad,true⟩ u1.2).1;have u3:=(Za s ps (m+1) (sSp s ⟨p,bad,un⟩) u1.2).1;first | exact u2.2 | exact u3.2 | (have:=QW (U5 h5) (by decide);omega))   | (have u1:=QF s ⟨p,bad,un⟩ (show p<=_ from by omega);have u2:=Ve s ⟨(sSp s ⟨p,bad,un⟩).p,(sSp s ⟨p,bad,un⟩).bad,true⟩ u1.2;have u3:=Ve s (sSp s ⟨p,bad,un⟩) u1.2;have n2:=YB s ⟨(sSp s ⟨p,bad,un⟩).p,(sSp s ⟨p,bad,un⟩).bad,true⟩ u1.2;have n3:=YB s (sSp s ⟨p,bad,un⟩) u1.2;first | exact u2.2 | exact u3.2 | omega)   | (have u1:=QF s ⟨p,bad,un⟩ (show p<=_ from by omega);exact QB s _ (Ve s ⟨(sSp s ⟨p,bad,un⟩).p,(sSp s ⟨p,bad,un⟩).bad,true⟩ u1.2).2)   | (have u1:=QF s ⟨p,bad,un⟩ (show p<=_ from by omega);exact QB s _ (Ve s (sSp s ⟨p,bad,un⟩) u1.2).2)   | (have:=QW (U5 h6) (by decide);omega) | (have:=QW (U5 h5) (by decide);omega)   | (have u1:=QF s ⟨p,bad,un⟩ (show p<=_ from by omega);have u3:=JA s (sSp s ⟨p,bad,un⟩) u1.2;have n3:=QcE s (sSp s ⟨p,bad,un⟩) u1.2;first | exact u3.2 | exact QB s _ u3.2 | omega)):p/\q:=⟨h,k⟩
theorem Qr6 (m:Nat) (hG:Sat 23 (fnS (c23 m))):Sat 127 (fnS (Qum m)):=by
 have hD:Qa (W127 m).D:=(Qa.cons Quf hG (Qa.cons Qcm QbW (Qa.cons Qcl QbV (Qa.cons Qms QlK (Qa.cons JO JJ (Qa.cons Qjv QiG (Qa.cons Qe3 Qeu (Qa.cons QqL Qpl (Qa.cons QwU Qvc (Qa.cons QwT Qvb Qa.nil))))))))))
 refine (W127 m).sa hD Tryz.f127 fun svs b K hP=>?_
 obtain⟨ps,o,b',e,hp,hk⟩:=Vy hP
 unfold Qum at e
 split at e
 rename_i k f s p bad un ps
 cases e
 obtain⟨h01,h02,h03,h04,h05,_⟩:=hp
 refine (W127 m).en (have a0:=sSp s (RS.mk p bad un);have a2:=sSp s (RS.mk ((Qg s a0).2.p) ((Qg s a0).2.bad) ((Qg s a0).2.un||hiB ((Qg s a0).1)));have a3:=sSp s (RS.mk ((Qs s a0).2.p) ((Qs s a0).2.bad) ((Qs s a0).2.un||hiB ((Qs s a0).1)));have a4:=VI (Qq s ps m) s ps true false (RS.mk (a0.p) (a0.bad) true);have a5:=VI (Qq s ps m) s ps true false a0;have a6:=s.length<=1000000;have a7:=sSp s ((VG s a0).2);have a8:Out:=.row (.sels failL);have a9:=([[]]:List (List SelD)).flatten.length<=1000000000000;have a10:=([[]]:List (List SelD)).length<=1000000000;have a12:Option SB:=some (.blk 46 [(.str s),(.nat (a2.p)),(.bool true),(.bool (a2.un||(decide (bat s (a2.p)=44)))),(.bool ps)]);have a13:=a0.p<=s.length+1;have a14:Option SB:=some (.blk 46 [(.str s),(.nat (a4.2.p)),(.bool true),(.bool (a4.2.un)),(.bool ps)]);have a15:Option SB:=some (.blk 46 [(.str s),(.nat (a5.2.p)),(.bool true),(.bool (a5.2.un)),(.bool ps)]);have a16:Option SB:=some (.blk 46 [(.str s),(.nat (a7.p)),(.bool true),(.bool (a7.un)),(.bool ps)]);have a17:Option SB:=some (.blk 46 [(.str s),(.nat (a3.p)),(.bool true),(.bool (a3.un)),(.bool ps)]);have a18:=Qg s (RS.mk (a0.p) (a0.bad) true);have a1:=sSp s (RS.mk (a18.2.p) (a18.2.bad) (a18.2.un||hiB (a18.1)));have a11:Option SB:=some (.blk 46 [(.str s),(.nat (a1.p)),(.bool true),(.bool (a1.un||(decide (bat s (a1.p)=44)))),(.bool ps)]);have a19:=SelD.mk k (0:Int) [] [] (0:Int) (0:Int) (0:Int) (0:Int);have a20:=p<=s.length+1;cond (decide ((0:Int)<=f)) (a6/\a20/\a6/\a13/\a6/\((VG s a0).2.p<=s.length+1)/\(a7.bad=false->a6/\(a7.p<=s.length+1)/\(1<=1000)/\cond (Q5 s [41] (a7.p)) (a10/\a9/\K (.row (.sels (Qi (SelD.mk (6:Int) (0:Int) [] [] ((VG s a0).1.1) ((VG s a0).1.2) f (0:Int)) ([[]]:List (List SelD)).flatten))) (some (.blk 46 [(.str s),(.nat (a7.p+1)),(.bool (a7.bad)),(.bool (a7.un)),(.bool ps)]))) (K a8 a16))/\(a7.bad=true->K a8 a16)) (cond (((decide (k=(18:Int)))||(decide (k=(19:Int))))||(decide (k=(20:Int)))) (a6/\a20/\a6/\a13/\cond (((decide (bat s (a0.p)=62))||(decide (bat s (a0.p)=43)))||(decide (bat s (a0.p)=126))) ((s.length<=100000)/\(a0.p<=s.length)/\(s.length+1<=m+a0.p)/\(m<=200000)/\(a4.2.bad=false->a6/\(a4.2.p<=s.length+1)/\(1<=1000)/\cond (Q5 s [41] (a4.2.p)) ((([a4.1]:List (List SelD)).length<=1000000000)/\(([a4.1]:List (List SelD)).flatten.length<=1000000000000)/\K (.row (.sels (Qi a19 ([a4.1]:List (List SelD)).flatten))) (some (.blk 46 [(.str s),(.nat (a4.2.p+1)),(.bool (a4.2.bad)),(.bool (a4.2.un)),(.bool ps)]))) (K a8 a14))/\(a4.2.bad=true->K a8 a14)) ((s.length<=100000)/\(a0.p<=s.length)/\(s.length+1<=m+a0.p)/\(m<=200000)/\(a5.2.bad=false->a6/\(a5.2.p<=s.length+1)/\(1<=1000)/\cond (Q5 s [41] (a5.2.p)) ((([a5.1]:List (List SelD)).length<=1000000000)/\(([a5.1]:List (List SelD)).flatten.length<=1000000000000)/\K (.row (.sels (Qi a19 ([a5.1]:List (List SelD)).flatten))) (some (.blk 46 [(.str s),(.nat (a5.2.p+1)),(.bool (a5.2.bad)),(.bool (a5.2.un)),(.bool ps)]))) (K a8 a15))/\(a5.2.bad=true->K a8 a15))) (cond (decide (k=(15:Int))) (a6/\a20/\a6/\a13/\cond (((decide (bat s (a0.p)=34))||(decide (bat s (a0.p)=39)))||(decide (bat s (a0.p)=42))) (a6/\a13/\((a18.1).length<=1000000000)/\a6/\(a18.2.p<=s.length+1)/\(a1.un=false->a6/\(a1.p<=s.length+1)/\True)/\(a1.bad=false->a6/\(a1.p<=s.length+1)/\(1<=1000)/\cond (Q5 s [41] (a1.p)) (a10/\a9/\K (.row (.sels (Qi (SelD.mk k (0:Int) [] (low (a18.1)) (0:Int) (0:Int) (0:Int) (0:Int)) ([[]]:List (List SelD)).flatten))) (some (.blk 46 [(.str s),(.nat (a1.p+1)),(.bool (a1.bad)),(.bool (a1.un||(decide (bat s (a1.p)=44)))),(.bool ps)]))) (K a8 a11))/\(a1.bad=true->K a8 a11)) (a6/\a13/\(((Qg s a0).1).length<=1000000000)/\a6/\((Qg s a0).2.p<=s.length+1)/\(a2.un=false->a6/\(a2.p<=s.length+1)/\True)/\(a2.bad=false->a6/\(a2.p<=s.length+1)/\(1<=1000)/\cond (Q5 s [41] (a2.p)) (a10/\a9/\K (.row (.sels (Qi (SelD.mk k (0:Int) [] (low ((Qg s a0).1)) (0:Int) (0:Int) (0:Int) (0:Int)) ([[]]:List (List SelD)).flatten))) (some (.blk 46 [(.str s),(.nat (a2.p+1)),(.bool (a2.bad)),(.bool (a2.un||(decide (bat s (a2.p)=44)))),(.bool ps)]))) (K a8 a12))/\(a2.bad=true->K a8 a12))) (a6/\a20/\a6/\a13/\(((Qs s a0).1).length<=1000000000)/\a6/\((Qs s a0).2.p<=s.length+1)/\(a3.bad=false->a6/\(a3.p<=s.length+1)/\(1<=1000)/\cond (Q5 s [41] (a3.p)) (a10/\a9/\K (.row (.sels (Qi (SelD.mk k (0:Int) [] (low ((Qs s a0).1)) (0:Int) (0:Int) (0:Int) (0:Int)) ([[]]:List (List SelD)).flatten))) (some (.blk 46 [(.str s),(.nat (a3.p+1)),(.bool (a3.bad)),(.bool (a3.un)),(.bool ps)]))) (K a8 a17))/\(a3.bad=true->K a8 a17))))) ?_
 refine Qb ?_ ?_<;>intro h1<;>try simp[-zd]at h1
 refine Vs (Vs (Vs (Vs (Vs (Vs ?_)))))
 refine⟨fun h2=>?_,fun h2=>?_⟩
 try simp[-zd]at h2
 refine Vs (Vs (Vs ?_))
 refine Qb ?_ ?_<;>intro h3<;>try simp[-zd]at h3
 refine Vs (Vs ?_)
 refine V7 hk ?_
 unfold V3
 simp only
 rw[if_pos h1]
 split
 rename_i hb;exact z6 (h2.symm.trans hb)
 refine Eq.trans (UH ?_) ?_
 exact U5 h3
 first | rfl | (simp[RS.go,VJ];done) | simp[RS.go,RS.no,RS.unI,VJ]
 refine V7 hk ?_
 unfold V3
 simp only
 rw[if_pos h1]
 split
 rename_i hb;exact z6 (h2.symm.trans hb)
 refine Eq.trans (UI ?_) ?_
 exact Qn8 h3
 first | rfl | (simp[RS.go,VJ];done) | simp[RS.go,RS.no,RS.unI,VJ]
 try simp[-zd]at h2
 refine V7 hk ?_
 unfold V3
 simp only
 rw[if_pos h1]
 split
 first | rfl | (simp[RS.no,RS.unI];done)
 rename_i hb;exact absurd h2 hb
 refine Qb (fun h2=>?_) (fun h2=>?_)
 try simp[-zd]at h2
 refine Vs (Vs (Vs (Vs ?_)))
 refine Qb ?_ ?_<;>intro h3<;>try simp[-zd]at h3
 refine Vs (Vs (Vs (Vs ?_)))
 refine⟨fun h4=>?_,fun h4=>?_⟩
 try simp[-zd]at h4
 refine Vs (Vs (Vs ?_))
 refine Qb ?_ ?_<;>intro h5<;>try simp[-zd]at h5
 refine Vs (Vs ?_)
 have e0:(sSp s ⟨p,bad,un⟩).unI (decide (bat s (sSp s ⟨p,bad,un⟩).p=62)||decide (bat s (sSp s ⟨p,bad,un⟩).p=43)||decide (bat s (sSp s ⟨p,bad,un⟩).p=126))=(RS.mk (sSp s ⟨p,bad,un⟩).p (sSp s ⟨p,bad,un⟩).bad true):=by
  rw[show (decide (bat s (sSp s ⟨p,bad,un⟩).p=62)||decide (bat s (sSp s ⟨p,bad,un⟩).p=43)||decide (bat s (sSp s ⟨p,bad,un⟩).p=126))=true from by simp;omega]
  simp[RS.unI]
 refine V7 hk ?_
 unfold V3
 simp only
 rw[if_neg (by omega),if_pos (by omega),show Qq s ps (m+1)=VI (Qq s ps m) s ps true false from rfl,e0]
 split
 rename_i hb;exact z6 (h4.symm.trans hb)
 refine Eq.trans (UH ?_) ?_
 exact U5 h5
 first | rfl | (simp[RS.go,VJ];done) | simp[RS.go,RS.no,RS.unI,VJ]
 have e0:(sSp s ⟨p,bad,un⟩).unI (decide (bat s (sSp s ⟨p,bad,un⟩).p=62)||decide (bat s (sSp s ⟨p,bad,un⟩).p=43)||decide (bat s (sSp s ⟨p,bad,un⟩).p=126))=(RS.mk (sSp s ⟨p,bad,un⟩).p (sSp s ⟨p,bad,un⟩).bad true):=by
  rw[show (decide (bat s (sSp s ⟨p,bad,un⟩).p=62)||decide (bat s (sSp s ⟨p,bad,un⟩).p=43)||decide (bat s (sSp s ⟨p,bad,un⟩).p=126))=true from by simp;omega]
  simp[RS.unI]
 refine V7 hk ?_
 unfold V3
 simp only
 rw[if_neg (by omega),if_pos (by omega),show Qq s ps (m+1)=VI (Qq s ps m) s ps true false from rfl,e0]
 split
 rename_i hb;exact z6 (h4.symm.trans hb)
 refine Eq.trans (UI ?_) ?_
 exact Qn8 h5
 first | rfl | (simp[RS.go,VJ];done) | simp[RS.go,RS.no,RS.unI,VJ]
 try simp[-zd]at h4
 have e0:(sSp s ⟨p,bad,un⟩).unI (decide (bat s (sSp s ⟨p,bad,un⟩).p=62)||decide (bat s (sSp s ⟨p,bad,un⟩).p=43)||decide (bat s (sSp s ⟨p,bad,un⟩).p=126))=(RS.mk (sSp s ⟨p,bad,un⟩).p (sSp s ⟨p,bad,un⟩).bad true):=by
  rw[show (decide (bat s (sSp s ⟨p,bad,un⟩).p=62)||decide (bat s (sSp s ⟨p,bad,un⟩).p=43)||decide (bat s (sSp s ⟨p,bad,un⟩).p=126))=true from by simp;omega]
  simp[RS.unI]
 refine V7 hk ?_
 unfold V3
 simp only
 rw[if_neg (by omega),if_pos (by omega),show Qq s ps (m+1)=VI (Qq s ps m) s ps true false from rfl,e0]
 split
 first | rfl | (simp[RS.no,RS.unI];done)
 rename_i hb;exact absurd h4 hb
 refine Vs (Vs (Vs (Vs ?_)))
 refine⟨fun h4=>?_,fun h4=>?_⟩
 try simp[-zd]at h4
 refine Vs (Vs (Vs ?_))
 refine Qb ?_ ?_<;>intro h5<;>try simp[-zd]at h5
 refine Vs (Vs ?_)
 have e0:(sSp s ⟨p,bad,un⟩).unI (decide (bat s (sSp s ⟨p,bad,un⟩).p=62)||decide (bat s (sSp s ⟨p,bad,un⟩).p=43)||decide (bat s (sSp s ⟨p,bad,un⟩).p=126))=(sSp s ⟨p,bad,un⟩):=by
  rw[show (decide (bat s (sSp s ⟨p,bad,un⟩).p=62)||decide (bat s (sSp s ⟨p,bad,un⟩).p=43)||decide (bat s (sSp s ⟨p,bad,un⟩).p=126))=false from by simp;omega]
  simp[RS.unI]
 refine V7 hk ?_
 unfold V3
 simp only
 rw[if_neg (by omega),if_pos (by omega),show Qq s ps (m+1)=VI (Qq s ps m) s ps true false from rfl,e0]
 split
 rename_i hb;exact z6 (h4.symm.trans hb)
 refine Eq.trans (UH ?_) ?_
 exact U5 h5
 first | rfl | (simp[RS.go,VJ];done) | simp[RS.go,RS.no,RS.unI,VJ]
 have e0:(sSp s ⟨p,bad,un⟩).unI (decide (bat s (sSp s ⟨p,bad,un⟩).p=62)||decide (bat s (sSp s ⟨p,bad,un⟩).p=43)||decide (bat s (sSp s ⟨p,bad,un⟩).p=126))=(sSp s ⟨p,bad,un⟩):=by
  rw[show (decide (bat s (sSp s ⟨p,bad,un⟩).p=62)||decide (bat s (sSp s ⟨p,bad,un⟩).p=43)||decide (bat s (sSp s ⟨p,bad,un⟩).p=126))=false from by simp;omega]
  simp[RS.unI]
 refine V7 hk ?_
 unfold V3
 simp only
 rw[if_neg (by omega),if_pos (by omega),show Qq s ps (m+1)=VI (Qq s ps m) s ps true false from rfl,e0]
 split
 rename_i hb;exact z6 (h4.symm.trans hb)
 refine Eq.trans (UI ?_) ?_
 exact Qn8 h5
 first | rfl | (simp[RS.go,VJ];done) | simp[RS.go,RS.no,RS.unI,VJ]
 try simp[-zd]at h4
 have e0:(sSp s ⟨p,bad,un⟩).unI (decide (bat s (sSp s ⟨p,bad,un⟩).p=62)||decide (bat s (sSp s ⟨p,bad,un⟩).p=43)||decide (bat s (sSp s ⟨p,bad,un⟩).p=126))=(sSp s ⟨p,bad,un⟩):=by
  rw[show (decide (bat s (sSp s ⟨p,bad,un⟩).p=62)||decide (bat s (sSp s ⟨p,bad,un⟩).p=43)||decide (bat s (sSp s ⟨p,bad,un⟩).p=126))=false from by simp;omega]
  simp[RS.unI]
 refine V7 hk ?_
 unfold V3
 simp only
 rw[if_neg (by omega),if_pos (by omega),show Qq s ps (m+1)=VI (Qq s ps m) s ps true false from rfl,e0]
 split
 first | rfl | (simp[RS.no,RS.unI];done)
 rename_i hb;exact absurd h4 hb
 try simp[-zd]at h2
 refine Qb ?_ ?_<;>intro h3<;>try simp[-zd]at h3
 refine Vs (Vs (Vs (Vs ?_)))
 refine Qb ?_ ?_<;>intro h4<;>try simp[-zd]at h4
 refine Vs (Vs (Vs (Vs (Vs (kmz1 ?_)))))
 refine⟨fun h5=>?_,fun h5=>?_⟩
 try simp[-zd]at h5
 refine Vs (Vs (Vs ?_))
 refine Qb ?_ ?_<;>intro h6<;>try simp[-zd]at h6
 refine Vs (Vs ?_)
 have e0:(sSp s ⟨p,bad,un⟩).unI (isQ (bat s (sSp s ⟨p,bad,un⟩).p)||decide (bat s (sSp s ⟨p,bad,un⟩).p=42))=(RS.mk (sSp s ⟨p,bad,un⟩).p (sSp s ⟨p,bad,un⟩).bad true):=by
  rw[show (isQ (bat s (sSp s ⟨p,bad,un⟩).p)||decide (bat s (sSp s ⟨p,bad,un⟩).p=42))=true from by simp[isQ];omega]
  simp[RS.unI]
 refine V7 hk ?_
 unfold V3
 simp only
 rw[if_neg (by omega),if_neg (by omega),if_pos (by omega),e0]
 split
 rename_i hb;exact z6 (h5.symm.trans hb)
 refine Eq.trans (UH ?_) ?_
 exact U5 h6
 first | rfl | (rw[h3];rfl) | (simp[RS.go,VJ];done) | simp[RS.go,RS.no,RS.unI,VJ]
 have e0:(sSp s ⟨p,bad,un⟩).unI (isQ (bat s (sSp s ⟨p,bad,un⟩).p)||decide (bat s (sSp s ⟨p,bad,un⟩).p=42))=(RS.mk (sSp s ⟨p,bad,un⟩).p (sSp s ⟨p,bad,un⟩).bad true):=by
  rw[show (isQ (bat s (sSp s ⟨p,bad,un⟩).p)||decide (bat s (sSp s ⟨p,bad,un⟩).p=42))=true from by simp[isQ];omega]
  simp[RS.unI]
 refine V7 hk ?_
 unfold V3
 simp only
 rw[if_neg (by omega),if_neg (by omega),if_pos (by omega),e0]
 split
 rename_i hb;exact z6 (h5.symm.trans hb)
 refine Eq.trans (UI ?_) ?_
 exact Qn8 h6
 first | rfl | (simp[RS.go,VJ];done) | simp[RS.go,RS.no,RS.unI,VJ]
 try simp[-zd]at h5
 have e0:(sSp s ⟨p,bad,un⟩).unI (isQ (bat s (sSp s ⟨p,bad,un⟩).p)||decide (bat s (sSp s ⟨p,bad,un⟩).p=42))=(RS.mk (sSp s ⟨p,bad,un⟩).p (sSp s ⟨p,bad,un⟩).bad true):=by
  rw[show (isQ (bat s (sSp s ⟨p,bad,un⟩).p)||decide (bat s (sSp s ⟨p,bad,un⟩).p=42))=true from by simp[isQ];omega]
  simp[RS.unI]
 refine V7 hk ?_
 unfold V3
 simp only
 rw[if_neg (by omega),if_neg (by omega),if_pos (by omega),e0]
 split
 first | rfl | (simp[RS.no,RS.unI];done)
 rename_i hb;exact absurd h5 hb
 refine Vs (Vs (Vs (Vs (Vs (kmz1 ?_)))))
 refine⟨fun h5=>?_,fun h5=>?_⟩
 try simp[-zd]at h5
 refine Vs (Vs (Vs ?_))
 refine Qb ?_ ?_<;>intro h6<;>try simp[-zd]at h6
 refine Vs (Vs ?_)
 have e0:(sSp s ⟨p,bad,un⟩).unI (isQ (bat s (sSp s ⟨p,bad,un⟩).p)||decide (bat s (sSp s ⟨p,bad,un⟩).p=42))=(sSp s ⟨p,bad,un⟩):=by
  rw[show (isQ (bat s (sSp s ⟨p,bad,un⟩).p)||decide (bat s (sSp s ⟨p,bad,un⟩).p=42))=false from by simp[isQ];omega]
  simp[RS.unI]
 refine V7 hk ?_
 unfold V3
 simp only
 rw[if_neg (by omega),if_neg (by omega),if_pos (by omega),e0]
 split
 rename_i hb;exact z6 (h5.symm.trans hb)
 refine Eq.trans (UH ?_) ?_
 exact U5 h6
 first | rfl | (rw[h3];rfl) | (simp[RS.go,VJ];done) | simp[RS.go,RS.no,RS.unI,VJ]
 have e0:(sSp s ⟨p,bad,un⟩).unI (isQ (bat s (sSp s ⟨p,bad,un⟩).p)||decide (bat s (sSp s ⟨p,bad,un⟩).p=42))=(sSp s ⟨p,bad,un⟩):=by
  rw[show (isQ (bat s (sSp s ⟨p,bad,un⟩).p)||decide (bat s (sSp s ⟨p,bad,un⟩).p=42))=false from by simp[isQ];omega]
  simp[RS.unI]
 refine V7 hk ?_
 unfold V3
 simp only
 rw[if_neg (by omega),if_neg (by omega),if_pos (by omega),e0]
 split
 rename_i hb;exact z6 (h5.symm.trans hb)
 refine Eq.trans (UI ?_) ?_
 exact Qn8 h6
 first | rfl | (simp[RS.go,VJ];done) | simp[RS.go,RS.no,RS.unI,VJ]
 try simp[-zd]at h5
 have e0:(sSp s ⟨p,bad,un⟩).unI (isQ (bat s (sSp s ⟨p,bad,un⟩).p)||decide (bat s (sSp s ⟨p,bad,un⟩).p=42))=(sSp s ⟨p,bad,un⟩):=by
  rw[show (isQ (bat s (sSp s ⟨p,bad,un⟩).p)||decide (bat s (sSp s ⟨p,bad,un⟩).p=42))=false from by simp[isQ];omega]
  simp[RS.unI]
 refine V7 hk ?_
 unfold V3
 simp only
 rw[if_neg (by omega),if_neg (by omega),if_pos (by omega),e0]
 split
 first | rfl | (simp[RS.no,RS.unI];done)
 rename_i hb;exact absurd h5 hb
 refine Vs (Vs (Vs (Vs (Vs (Vs (Vs ?_))))))
 refine⟨fun h4=>?_,fun h4=>?_⟩
 try simp[-zd]at h4
 refine Vs (Vs (Vs ?_))
 refine Qb ?_ ?_<;>intro h5<;>try simp[-zd]at h5
 refine Vs (Vs ?_)
 refine V7 hk ?_
 unfold V3
 simp only
 rw[if_neg (by omega),if_neg (by omega),if_neg (by omega)]
 split
 rename_i hb;exact z6 (h4.symm.trans hb)
 refine Eq.trans (UH ?_) ?_
 exact U5 h5
 first | rfl | (simp[RS.go,VJ];done) | simp[RS.go,RS.no,RS.unI,VJ]
 refine V7 hk ?_
 unfold V3
 simp only
 rw[if_neg (by omega),if_neg (by omega),if_neg (by omega)]
 split
 rename_i hb;exact z6 (h4.symm.trans hb)
 refine Eq.trans (UI ?_) ?_
 exact Qn8 h5
 first | rfl | (simp[RS.go,VJ];done) | simp[RS.go,RS.no,RS.unI,VJ]
 try simp[-zd]at h4
 refine V7 hk ?_
 unfold V3
 simp only
 rw[if_neg (by omega),if_neg (by omega),if_neg (by omega)]
 split
 first | rfl | (simp[RS.no,RS.unI];done)
 rename_i hb;exact absurd h4 hb
 cases e
def c127 (m:Nat) (svs:List SV) (b:Option SB):FR:=match svs,b with
 | [.ptr 0 0,x,y],some (.blk 46 [.str s,.nat p,.bool bad,.bool un,.bool ps])=>match toI x,toI y with
  | some k,some f=>some ([s.length<=100000,p<=s.length,s.length+1<=m+p,m<=200000,k<=20],.row (.sels (V3 (Qq s ps (m+1)) s k f ⟨p,bad,un⟩).1),some (.blk 46 [.str s,.nat (V3 (Qq s ps (m+1)) s k f ⟨p,bad,un⟩).2.p,.bool (V3 (Qq s ps (m+1)) s k f ⟨p,bad,un⟩).2.bad,.bool (V3 (Qq s ps (m+1)) s k f ⟨p,bad,un⟩).2.un,.bool ps]))
  | _,_=>none
 | _,_=>none
theorem Qvl (m:Nat) (hG:Sat 23 (fnS (c23 m))):Sat 127 (fnS (c127 m)):=by
 refine Sat.wk (Qr6 m hG) fun svs b K h=>?_
 obtain⟨ps,o,b',e,hp,hk⟩:=Vy h
 unfold c127 at e
 split at e
 rename_i x y s p bad un ps
 split at e
 rename_i k f hx hy
 cases e
 exact⟨[.ptr 0 0,.int .i64 k,.int .i64 f],⟨fun ω v hr=>hr,fun ω v=>YS hx,fun ω v=>YS hy,trivial⟩,hp.1,hp.2.1,hp.2.2.1,hp.2.2.2.1,hp.2.2.2.2.1,hk⟩
 cases e
 cases e
def c111 (svs:List SV) (b:Option SB):FR:=match svs,b with
 | [.ptr 0 0],some (.blk 46 [.str s,.nat p,.bool bad,.bool un,.bool ps])=>some ([s.length<=1000000,p<=s.length+1],.val (.str (Ja s ⟨p,bad,un⟩).1),
  some (.blk 46 [.str s,.nat (Ja s ⟨p,bad,un⟩).2.p,.bool (Ja s ⟨p,bad,un⟩).2.bad,.bool (Ja s ⟨p,bad,un⟩).2.un,.bool ps]))
 | _,_=>none
noncomputable def W111:Wk:=⟨[(66,.pure c66),(77,.pure c77),(96,.fn c96)],Qe Tryz.f111,true,false,[.tmp 2],[9],[],[]⟩
theorem Qxf:Has 111:=hsf Tryz.f111
theorem kmz3 {c0 p0 p1 q:Prop} (k:q) (h:c0->p0/\p1/\True:=by intro g0;(try simp at g0);exact⟨(by first | omega | (simp;done) | (have:=u1.2;omega)),(by first | omega | (simp;done) | (have:=u1.2;omega)),trivial⟩):(c0->p0/\p1/\True)/\q:=⟨h,k⟩
theorem kmz2 {p q:Prop} (k:q) (h:p:=by first | omega | (simp;done) | (have:=u1.2;omega)):p/\q:=⟨h,k⟩
theorem Qvx:Sat 111 (fnS c111):=by
 have hD:Qa W111.D:=(Qa.cons JO JJ (Qa.cons QgC Qf4 (Qa.cons Qe3 Qeu Qa.nil)))
 refine W111.sa hD Tryz.f111 fun svs b K hP=>?_
 obtain⟨ps,o,b',e,hp,hk⟩:=Vy hP
 unfold c111 at e
 split at e
 rename_i s p bad un ps
 cases e
 obtain⟨h01,h02,_⟩:=hp
 have u1:=Ve s ⟨p,bad,un⟩ h02
 have n1:=YB s ⟨p,bad,un⟩ h02
 refine W111.en (have a0:=Qg s (RS.mk p bad un);have a1:Option SB:=some (.blk 46 [(.str s),(.nat (a0.2.p)),(.bool (a0.2.bad)),(.bool (a0.2.un||(decide (bat s (a0.2.p)=40)))),(.bool ps)]);have a2:=a0.2.un=false->(s.length<=1000000)/\(a0.2.p<=s.length+1)/\True;have a3:Out:=.val (.str (low (a0.1)));(s.length<=1000000)/\(p<=s.length+1)/\((a0.1).length<=1000000000)/\cond (decide (low (a0.1)=[98,101,102,111,114,101])) (a2/\K a3 a1) (cond (decide (low (a0.1)=[97,102,116,101,114])) (a2/\K a3 a1) (cond (decide (low (a0.1)=[102,105,114,115,116,45,108,105,110,101])) (a2/\K a3 a1) (cond (decide (low (a0.1)=[102,105,114,115,116,45,108,101,116,116,101,114])) (a2/\K a3 a1) ((true=false->(s.length<=1000000)/\(a0.2.p<=s.length+1)/\True)/\K a3 (some (.blk 46 [(.str s),(.nat (a0.2.p)),(.bool (a0.2.bad)),(.bool true),(.bool ps)]))))))) ?_
 refine kmz2 (kmz2 (kmz2 ?_))
 refine Qb ?_ ?_<;>intro h1<;>try simp[-zd]at h1
 refine kmz3 ?_
 refine kst hk ?_
 unfold Ja YV
 simp_all [RS.unI,zY]
 refine Qb (fun h2=>?_) (fun h2=>?_)
 try simp[-zd]at h2
 refine kmz3 ?_
 refine kst hk ?_
 unfold Ja YV
 simp_all [RS.unI,zY]
 try simp[-zd]at h2
 refine Qb ?_ ?_<;>intro h3<;>try simp[-zd]at h3
 refine kmz3 ?_
 refine kst hk ?_
 unfold Ja YV
 simp_all [RS.unI,zY]
 refine Qb (fun h4=>?_) (fun h4=>?_)
 try simp[-zd]at h4
 refine kmz3 ?_
 refine kst hk ?_
 unfold Ja YV
 simp_all [RS.unI,zY]
 try simp[-zd]at h4
 refine⟨fun g0=>(by cases g0),?_⟩
 refine kst hk ?_
 unfold Ja YV
 simp_all [RS.unI,zY]
 cases e
end
section
open Go Go.RowKit
set_option maxRecDepth 20000
def c112 (m:Nat) (svs:List SV) (b:Option SB):FR:=match svs,b with
 | [.ptr 0 0],some (.blk 46 [.str s,.nat p,.bool bad,.bool un,.bool ps])=>some ([s.length<=100000,p<=s.length+1,s.length<=m+p,m<=200000],.row (.sels (Q8 (Qq s ps (m+1)) s ⟨p,bad,un⟩).1),some (.blk 46 [.str s,.nat (Q8 (Qq s ps (m+1)) s ⟨p,bad,un⟩).2.p,.bool (Q8 (Qq s ps (m+1)) s ⟨p,bad,un⟩).2.bad,.bool (Q8 (Qq s ps (m+1)) s ⟨p,bad,un⟩).2.un,.bool ps]))
 | _,_=>none
noncomputable def QdG (m:Nat):Wk:=⟨[(29,.fn c29),(43,.plain c43),(66,.pure c66),(68,.fn c68),(77,.pure c77),(96,.fn c96),(124,.plain c124),(125,.pure c125),(126,.pure c126),(127,.fn (c127 m))],Qe Tryz.f112,true,true,[.tmp 2],[22],[(28,193)],[28]⟩
theorem Qxe:Has 112:=hsf Tryz.f112
theorem Qbs {p q:Prop} (k:q) (h:p:=by first | omega | (simp;done) | (have:=u1.2;omega) | exact u1.2 | (have:=QW (h40t h2) (by decide);omega)):p/\q:=⟨h,k⟩
theorem Qvw (m:Nat) (hG:Sat 23 (fnS (c23 m))):Sat 112 (fnS (c112 m)):=by
 have hD:Qa (QdG m).D:=(Qa.cons Qcm QbW (Qa.cons Qcl QbV (Qa.cons JO JJ (Qa.cons Qjv QiG (Qa.cons QgC Qf4 (Qa.cons Qe3 Qeu (Qa.cons Qw6 Qvo (Qa.cons Qw5 Qvn (Qa.cons Qw4 Qvm (Qa.cons Qw3 (Qvl m hG) Qa.nil))))))))))
 refine (QdG m).sa hD Tryz.f112 fun svs b K hP=>?_
 obtain⟨ps,o,b',e,hp,hk⟩:=Vy hP
 unfold c112 at e
 split at e
 rename_i s p bad un ps
 cases e
 obtain⟨h01,h02,h03,h04,_⟩:=hp
 have u1:=Ve s ⟨p,bad,un⟩ h02
 have n1:=YB s ⟨p,bad,un⟩ h02
 have L28:∀(mm:Nat) (kk fl:Int) (t:RS),0=mm->(Up s ⟨p,bad,un⟩ t/\kk<=20/\Q8 (Qq s ps (m+1)) s ⟨p,bad,un⟩=if (fl<0/\kk=0)\/bat s t.p≠40 then (failL,t.no) else V3 (Qq s ps (m+1)) s kk fl (t.go (t.p+1)))->(QdG m).C K 28 (mkS 72 [(0,(.ptr 0 0)),(6,(.int .i64 fl)),(7,(.int .i64 kk))] [(0,.blk 46 [(.str s),(.nat t.p),(.bool t.bad),(.bool t.un),(.bool ps)])] 1):=by
  intro mm
  induction mm using zl with
  | _ mm ih=>
   intro kk fl t hm hI
   obtain⟨k1,k2,k3⟩:=hI
   have k4:p<=t.p:=k1.1
   have k5:t.p<=s.length+1:=k1.2
   refine (QdG m).aC hD (have a0:=V3 (Qq s ps (m+1)) s kk fl (RS.mk (t.p+1) t.bad t.un);have a1:Option SB:=some (.blk 46 [(.str s),(.nat t.p),(.bool true),(.bool t.un),(.bool ps)]);have a2:=(decide (fl<(0:Int)))&&(decide (kk=(0:Int)));(a2=false->(s.length<=1000000)/\(t.p<=s.length+1)/\(1<=1000)/\cond (Q5 s [40] t.p) ((s.length<=100000)/\(t.p+1<=s.length)/\(s.length+1<=m+t.p+1)/\(m<=200000)/\(kk<=20)/\K (.row (.sels (a0.1))) (some (.blk 46 [(.str s),(.nat (a0.2.p)),(.bool (a0.2.bad)),(.bool (a0.2.un)),(.bool ps)]))) (K (.row (.sels failL)) a1))/\(a2=true->K (.row (.sels failL)) a1)) ?_
   refine⟨fun h1=>?_,fun h1=>?_⟩
   try simp[-zd]at h1
   refine Qbs (Qbs (Qbs ?_))
   refine Qb ?_ ?_<;>intro h2<;>try simp[-zd]at h2
   refine Qbs (Qbs (Qbs (Qbs (Qbs ?_))))
   exact V7 hk ((k3.trans (if_neg (fun h=>h.elim (fun a=>h1 a.1 a.2) (fun a=>a (h40t h2))))).trans rfl)
   exact V7 hk ((k3.trans (if_pos (.inr (h40f h2)))).trans rfl)
   try simp[-zd]at h1
   exact V7 hk ((k3.trans (if_pos (.inl h1))).trans rfl)
 refine (QdG m).en (have a0:=Qg s (RS.mk p bad un);have a1:SV:=.int .i64 (QH (low (a0.1)));have a2:SV:=.nat (a0.2.p);have a3:SV:=.bool (a0.2.un);have a4:SV:=.bool (a0.2.bad);have a5:Option SB:=some (.blk 46 [(.str s),a2,(.bool true),(.bool true),(.bool ps)]);(s.length<=1000000)/\(p<=s.length+1)/\((a0.1).length<=1000000000)/\cond a0.2.bad (K (.row (.sels failL)) (some (.blk 46 [(.str s),a2,(.bool true),a3,(.bool ps)]))) (Qt (Yx (low (a0.1))) (fun x1=>(s.length<=1000000)/\(a0.2.p<=s.length+1)/\cond (decide (bat s (a0.2.p)=40)) (K (.row (.sels failL)) a5) ((([]:List (List SelD)).length<=1000000000)/\(([]:List (List SelD)).flatten.length<=1000000000000)/\K (.row (.sels (Qi (SelD.mk x1.kind x1.op x1.key x1.val x1.a x1.b x1.flag x1.size) ([]:List (List SelD)).flatten))) (some (.blk 46 [(.str s),a2,a4,a3,(.bool ps)])))) (cond (decide ((low (a0.1))∈VD)) (K (.row (.sels failL)) a5) (cond (decide (low (a0.1)=[110,111,116])) ((QdG m).C K 28 (mkS 72 [(0,(.ptr 0 0)),(6,a1),(7,(.nat 18))] [(1,.blk 33 [(.int .i64 0),(.int .i64 0),(.str []),(.str []),(.int .i64 0),(.int .i64 0),(.int .i64 0),(.int .i64 0)]),(0,.blk 46 [(.str s),a2,a4,a3,(.bool ps)])] 2)) (cond (decide (low (a0.1)=[104,97,115])) ((QdG m).C K 28 (mkS 72 [(0,(.ptr 0 0)),(6,a1),(7,(.nat 19))] [(1,.blk 33 [(.int .i64 0),(.int .i64 0),(.str []),(.str []),(.int .i64 0),(.int .i64 0),(.int .i64 0),(.int .i64 0)]),(0,.blk 46 [(.str s),a2,a4,a3,(.bool ps)])] 2)) (cond (decide (low (a0.1)=[104,97,115,99,104,105,108,100])) ((QdG m).C K 28 (mkS 72 [(0,(.ptr 0 0)),(6,a1),(7,(.nat 20))] [(1,.blk 33 [(.int .i64 0),(.int .i64 0),(.str []),(.str []),(.int .i64 0),(.int .i64 0),(.int .i64 0),(.int .i64 0)]),(0,.blk 46 [(.str s),a2,a4,a3,(.bool ps)])] 2)) (cond (decide (low (a0.1)=[99,111,110,116,97,105,110,115])) ((QdG m).C K 28 (mkS 72 [(0,(.ptr 0 0)),(6,a1),(7,(.nat 16))] [(1,.blk 33 [(.int .i64 0),(.int .i64 0),(.str []),(.str []),(.int .i64 0),(.int .i64 0),(.int .i64 0),(.int .i64 0)]),(0,.blk 46 [(.str s),a2,a4,a3,(.bool ps)])] 2)) (cond (decide (low (a0.1)=[99,111,110,116,97,105,110,115,111,119,110])) ((QdG m).C K 28 (mkS 72 [(0,(.ptr 0 0)),(6,a1),(7,(.nat 17))] [(1,.blk 33 [(.int .i64 0),(.int .i64 0),(.str []),(.str []),(.int .i64 0),(.int .i64 0),(.int .i64 0),(.int .i64 0)]),(0,.blk 46 [(.str s),a2,a4,a3,(.bool ps)])] 2)) (cond (decide (low (a0.1)=[108,97,110,103])) ((QdG m).C K 28 (mkS 72 [(0,(.ptr 0 0)),(6,a1),(7,(.nat 15))] [(1,.blk 33 [(.int .i64 0),(.int .i64 0),(.str []),(.str []),(.int .i64 0),(.int .i64 0),(.int .i64 0),(.int .i64 0)]),(0,.blk 46 [(.str s),a2,a4,a3,(.bool ps)])] 2)) ((QdG m).C K 28 (mkS 72 [(0,(.ptr 0 0)),(6,a1),(7,(.nat 0))] [(1,.blk 33 [(.int .i64 0),(.int .i64 0),(.str []),(.str []),(.int .i64 0),(.int .i64 0),(.int .i64 0),(.int .i64 0)]),(0,.blk 46 [(.str s),a2,a4,a3,(.bool ps)])] 2))))))))))) ?_
 refine Qbs (Qbs (Qbs ?_))
 refine Qb ?_ ?_<;>intro h1<;>try simp[-zd]at h1
 refine V7 hk ?_
 unfold Q8
 simp only
 rw[if_pos h1]
 rfl
 refine QJ (fun x1 h2=>?_) (fun h2=>?_)
 refine Qbs (Qbs ?_)
 refine Qb ?_ ?_<;>intro h3<;>try simp[-zd]at h3
 refine V7 hk ?_
 unfold Q8
 simp only
 rw[if_neg (by rw[h1];simp),h2]
 simp only
 rw[if_pos h3]
 simp[RS.unI,RS.no]
 refine Qbs (Qbs ?_)
 refine V7 hk ?_
 unfold Q8
 simp only
 rw[if_neg (by rw[h1];simp),h2]
 simp only
 rw[if_neg h3]
 rfl
 refine Qb ?_ ?_<;>intro h3<;>try simp[-zd]at h3
 refine V7 hk ?_
 unfold Q8
 simp only
 rw[if_neg (by rw[h1];simp),h2]
 simp only
 rw[if_pos h3]
 simp[RS.unI,RS.no]
 refine Qb (fun h4=>?_) (fun h4=>?_)
 try simp[-zd]at h4
 have e:Q8 (Qq s ps (m+1)) s ⟨p,bad,un⟩=if (QH (low (Qg s ⟨p,bad,un⟩).1)<0/\VW (low (Qg s ⟨p,bad,un⟩).1)=0)\/bat s (Qg s ⟨p,bad,un⟩).2.p≠40 then (failL,(Qg s ⟨p,bad,un⟩).2.no) else V3 (Qq s ps (m+1)) s (VW (low (Qg s ⟨p,bad,un⟩).1)) (QH (low (Qg s ⟨p,bad,un⟩).1)) ((Qg s ⟨p,bad,un⟩).2.go ((Qg s ⟨p,bad,un⟩).2.p+1)):=by
  unfold Q8
  simp only
  rw[if_neg (by rw[h1];simp),h2]
  simp only
  rw[if_neg h3]
 have ek:VW (low (Qg s ⟨p,bad,un⟩).1)=18:=by unfold VW Zz ZA QN VV Vc Jc;rw[if_pos h4]
 rw[ek]at e
 exact Wk.C.rn [0] (L28 _ 18 (QH (low (Qg s ⟨p,bad,un⟩).1)) (Qg s ⟨p,bad,un⟩).2 rfl ⟨u1,by omega,e⟩)
 try simp[-zd]at h4
 refine Qb ?_ ?_<;>intro h5<;>try simp[-zd]at h5
 . have e:Q8 (Qq s ps (m+1)) s ⟨p,bad,un⟩=if (QH (low (Qg s ⟨p,bad,un⟩).1)<0/\VW (low (Qg s ⟨p,bad,un⟩).1)=0)\/bat s (Qg s ⟨p,bad,un⟩).2.p≠40 then (failL,(Qg s ⟨p,bad,un⟩).2.no) else V3 (Qq s ps (m+1)) s (VW (low (Qg s ⟨p,bad,un⟩).1)) (QH (low (Qg s ⟨p,bad,un⟩).1)) ((Qg s ⟨p,bad,un⟩).2.go ((Qg s ⟨p,bad,un⟩).2.p+1)):=by
    unfold Q8
    simp only
    rw[if_neg (by rw[h1];simp),h2]
    simp only
    rw[if_neg h3]
   have ek:VW (low (Qg s ⟨p,bad,un⟩).1)=19:=by unfold VW Zz ZA QN VV Vc Jc;rw[if_neg h4,if_pos h5]
   rw[ek]at e
   exact Wk.C.rn [0] (L28 _ 19 (QH (low (Qg s ⟨p,bad,un⟩).1)) (Qg s ⟨p,bad,un⟩).2 rfl ⟨u1,by omega,e⟩)
 refine Qb (fun h6=>?_) (fun h6=>?_)
 try simp[-zd]at h6
 have e:Q8 (Qq s ps (m+1)) s ⟨p,bad,un⟩=if (QH (low (Qg s ⟨p,bad,un⟩).1)<0/\VW (low (Qg s ⟨p,bad,un⟩).1)=0)\/bat s (Qg s ⟨p,bad,un⟩).2.p≠40 then (failL,(Qg s ⟨p,bad,un⟩).2.no) else V3 (Qq s ps (m+1)) s (VW (low (Qg s ⟨p,bad,un⟩).1)) (QH (low (Qg s ⟨p,bad,un⟩).1)) ((Qg s ⟨p,bad,un⟩).2.go ((Qg s ⟨p,bad,un⟩).2.p+1)):=by
  unfold Q8
  simp only
  rw[if_neg (by rw[h1];simp),h2]
  simp only
  rw[if_neg h3]
 have ek:VW (low (Qg s ⟨p,bad,un⟩).1)=20:=by unfold VW Zz ZA QN VV Vc Jc;rw[if_neg h4,if_neg h5,if_pos h6]
 rw[ek]at e
 exact Wk.C.rn [0] (L28 _ 20 (QH (low (Qg s ⟨p,bad,un⟩).1)) (Qg s ⟨p,bad,un⟩).2 rfl ⟨u1,by omega,e⟩)
 try simp[-zd]at h6
 refine Qb ?_ ?_<;>intro h7<;>try simp[-zd]at h7
 . have e:Q8 (Qq s ps (m+1)) s ⟨p,bad,un⟩=if (QH (low (Qg s ⟨p,bad,un⟩).1)<0/\VW (low (Qg s ⟨p,bad,un⟩).1)=0)\/bat s (Qg s ⟨p,bad,un⟩).2.p≠40 then (failL,(Qg s ⟨p,bad,un⟩).2.no) else V3 (Qq s ps (m+1)) s (VW (low (Qg s ⟨p,bad,un⟩).1)) (QH (low (Qg s ⟨p,bad,un⟩).1)) ((Qg s ⟨p,bad,un⟩).2.go ((Qg s ⟨p,bad,un⟩).2.p+1)):=by
    unfold Q8
    simp only
    rw[if_neg (by rw[h1];simp),h2]
    simp only
    rw[if_neg h3]
   have ek:VW (low (Qg s ⟨p,bad,un⟩).1)=16:=by unfold VW Zz ZA QN VV Vc Jc;rw[if_neg h4,if_neg h5,if_neg h6,if_pos h7]
   rw[ek]at e
   exact Wk.C.rn [0] (L28 _ 16 (QH (low (Qg s ⟨p,bad,un⟩).1)) (Qg s ⟨p,bad,un⟩).2 rfl ⟨u1,by omega,e⟩)
 refine Qb (fun h8=>?_) (fun h8=>?_)
 try simp[-zd]at h8
 have e:Q8 (Qq s ps (m+1)) s ⟨p,bad,un⟩=if (QH (low (Qg s ⟨p,bad,un⟩).1)<0/\VW (low (Qg s ⟨p,bad,un⟩).1)=0)\/bat s (Qg s ⟨p,bad,un⟩).2.p≠40 then (failL,(Qg s ⟨p,bad,un⟩).2.no) else V3 (Qq s ps (m+1)) s (VW (low (Qg s ⟨p,bad,un⟩).1)) (QH (low (Qg s ⟨p,bad,un⟩).1)) ((Qg s ⟨p,bad,un⟩).2.go ((Qg s ⟨p,bad,un⟩).2.p+1)):=by
  unfold Q8
  simp only
  rw[if_neg (by rw[h1];simp),h2]
  simp only
  rw[if_neg h3]
 have ek:VW (low (Qg s ⟨p,bad,un⟩).1)=17:=by unfold VW Zz ZA QN VV Vc Jc;rw[if_neg h4,if_neg h5,if_neg h6,if_neg h7,if_pos h8]
 rw[ek]at e
 exact Wk.C.rn [0] (L28 _ 17 (QH (low (Qg s ⟨p,bad,un⟩).1)) (Qg s ⟨p,bad,un⟩).2 rfl ⟨u1,by omega,e⟩)
 try simp[-zd]at h8
 refine Qb ?_ ?_<;>intro h9<;>try simp[-zd]at h9
 . have e:Q8 (Qq s ps (m+1)) s ⟨p,bad,un⟩=if (QH (low (Qg s ⟨p,bad,un⟩).1)<0/\VW (low (Qg s ⟨p,bad,un⟩).1)=0)\/bat s (Qg s ⟨p,bad,un⟩).2.p≠40 then (failL,(Qg s ⟨p,bad,un⟩).2.no) else V3 (Qq s ps (m+1)) s (VW (low (Qg s ⟨p,bad,un⟩).1)) (QH (low (Qg s ⟨p,bad,un⟩).1)) ((Qg s ⟨p,bad,un⟩).2.go ((Qg s ⟨p,bad,un⟩).2.p+1)):=by
    unfold Q8
    simp only
    rw[if_neg (by rw[h1];simp),h2]
    simp only
    rw[if_neg h3]
   have ek:VW (low (Qg s ⟨p,bad,un⟩).1)=15:=by unfold VW Zz ZA QN VV Vc Jc;rw[if_neg h4,if_neg h5,if_neg h6,if_neg h7,if_neg h8,if_pos h9]
   rw[ek]at e
   exact Wk.C.rn [0] (L28 _ 15 (QH (low (Qg s ⟨p,bad,un⟩).1)) (Qg s ⟨p,bad,un⟩).2 rfl ⟨u1,by omega,e⟩)
 have e:Q8 (Qq s ps (m+1)) s ⟨p,bad,un⟩=if (QH (low (Qg s ⟨p,bad,un⟩).1)<0/\VW (low (Qg s ⟨p,bad,un⟩).1)=0)\/bat s (Qg s ⟨p,bad,un⟩).2.p≠40 then (failL,(Qg s ⟨p,bad,un⟩).2.no) else V3 (Qq s ps (m+1)) s (VW (low (Qg s ⟨p,bad,un⟩).1)) (QH (low (Qg s ⟨p,bad,un⟩).1)) ((Qg s ⟨p,bad,un⟩).2.go ((Qg s ⟨p,bad,un⟩).2.p+1)):=by
  unfold Q8
  simp only
  rw[if_neg (by rw[h1];simp),h2]
  simp only
  rw[if_neg h3]
 have ek:VW (low (Qg s ⟨p,bad,un⟩).1)=0:=by unfold VW Zz ZA QN VV Vc Jc;rw[if_neg h4,if_neg h5,if_neg h6,if_neg h7,if_neg h8,if_neg h9]
 rw[ek]at e
 exact Wk.C.rn [0] (L28 _ 0 (QH (low (Qg s ⟨p,bad,un⟩).1)) (Qg s ⟨p,bad,un⟩).2 rfl ⟨u1,by omega,e⟩)
 cases e
theorem Qqd {K:Out->Option SB->Prop} {s:Bs} {ps:Bool} {r:(List SelD×Bs)×RS} {v:List SelD} {n:Bs} {p:Nat} {b u:Bool}
 (hk:K (.val (.tup [.sl (.sels r.1.1),.str r.1.2,.bool true])) (some (.blk 46 [.str s,.nat r.2.p,.bool r.2.bad,.bool r.2.un,.bool ps]))) (e:r=((v,n),⟨p,b,u⟩)) :
 K (.val (.tup [.sl (.sels v),.str n,.bool true])) (some (.blk 46 [.str s,.nat p,.bool b,.bool u,.bool ps])):=by rw[e]at hk;exact hk
def c97 (m:Nat):Spec:=fun svs b K=>match svs,b with
 | [.ptr 0 0],some (.blk 46 [.str s,.nat p,.bool bad,.bool un,.bool ps])=>s.length<=100000/\p<=s.length+1/\s.length<=m+p/\m<=200000/\cond (Qv (bat s p))
  (K (.val (.tup [.sl (.sels (Qo (Qq s ps (m+1)) s ⟨p,bad,un⟩).1.1),.str (Qo (Qq s ps (m+1)) s ⟨p,bad,un⟩).1.2,.bool true])) (some (.blk 46 [.str s,.nat (Qo (Qq s ps (m+1)) s ⟨p,bad,un⟩).2.p,.bool (Qo (Qq s ps (m+1)) s ⟨p,bad,un⟩).2.bad,.bool (Qo (Qq s ps (m+1)) s ⟨p,bad,un⟩).2.un,.bool ps])))
  (K (.val (.tup [.sl (.sels []),.str [],.bool false])) (some (.blk 46 [.str s,.nat p,.bool bad,.bool un,.bool ps])))
 | _,_=>False
noncomputable def W97 (m:Nat):Wk:=⟨[(29,.fn c29),(43,.plain c43),(66,.pure c66),(96,.fn c96),(109,.fn c109),(110,.fn c110),(111,.fn c111),(112,.fn (c112 m))],Qe Tryz.f97,true,false,[.tmp 2,.tmp 3,.tmp 4],[22,9,4],[],[]⟩
theorem has97:Has 97:=hsf Tryz.f97
theorem Jp {p q:Prop} (k:q) (h:p:=by first | omega | (simp;done) | (have:=QZ (s:=s) (p:=p) (by omega);omega) | (have:=QW (h58t h5) (by decide);omega)):p/\q:=⟨h,k⟩
theorem sat97 (m:Nat) (hG:Sat 23 (fnS (c23 m))):Sat 97 (c97 m):=by
 have hD:Qa (W97 m).D:=(Qa.cons Qcm QbW (Qa.cons Qcl QbV (Qa.cons JO JJ (Qa.cons Qe3 Qeu (Qa.cons Qxh QvA (Qa.cons Qxg Qvy (Qa.cons Qxf Qvx (Qa.cons Qxe (Qvw m hG) Qa.nil))))))))
 refine (W97 m).sa hD Tryz.f97 fun svs b K hP=>?_
 unfold c97 at hP
 split at hP
 rename_i s p bad un ps
 obtain⟨h01,h02,h03,h04,hk⟩:=hP
 refine (W97 m).en (have a0:=RS.mk (p+1) bad un;have a1:=s.length<=1000000;have a2:=Q8 (Qq s ps (m+1)) s a0;have a3:=Ja s (RS.mk (p+2) bad un);have a4:=p+1<=9223372036854775807;have a5:=p+1<=s.length+1;have a6:=([]:List (List SelD)).flatten.length<=1000000000000;have a7:=([]:List (List SelD)).length<=1000000000;a1/\(p<=s.length+1)/\cond (decide (bat s p=46)) (a4/\a1/\a5/\a7/\a6/\K (.val (.tup [(.sl (.sels (Qi (SelD.mk (3:Int) (0:Int) [] ((Qg s a0).1) (0:Int) (0:Int) (0:Int) (0:Int)) ([]:List (List SelD)).flatten))),(.str []),(.bool true)])) (some (.blk 46 [(.str s),(.nat ((Qg s a0).2.p)),(.bool ((Qg s a0).2.bad)),(.bool ((Qg s a0).2.un)),(.bool ps)]))) (cond (decide (bat s p=35)) (a4/\a1/\a5/\a7/\a6/\K (.val (.tup [(.sl (.sels (Qi (SelD.mk (4:Int) (0:Int) [] ((Zl s a0).1) (0:Int) (0:Int) (0:Int) (0:Int)) ([]:List (List SelD)).flatten))),(.str []),(.bool true)])) (some (.blk 46 [(.str s),(.nat ((Zl s a0).2.p)),(.bool ((Zl s a0).2.bad)),(.bool ((Zl s a0).2.un)),(.bool ps)]))) (cond (decide (bat s p=91)) (a4/\a1/\a5/\K (.val (.tup [(.sl (.sels ((Zy s a0).1))),(.str []),(.bool true)])) (some (.blk 46 [(.str s),(.nat ((Zy s a0).2.p)),(.bool ((Zy s a0).2.bad)),(.bool ((Zy s a0).2.un)),(.bool ps)]))) (cond (decide (bat s p=58)) (a4/\a1/\a5/\(1<=1000)/\cond (Q5 s [58] (p+1)) (a1/\(p+2<=s.length+1)/\K (.val (.tup [(.sl (.sels [])),(.str (a3.1)),(.bool true)])) (some (.blk 46 [(.str s),(.nat (a3.2.p)),(.bool (a3.2.bad)),(.bool (a3.2.un)),(.bool ps)]))) ((s.length<=100000)/\a5/\(s.length<=m+p+1)/\(m<=200000)/\K (.val (.tup [(.sl (.sels (a2.1))),(.str []),(.bool true)])) (some (.blk 46 [(.str s),(.nat (a2.2.p)),(.bool (a2.2.bad)),(.bool (a2.2.un)),(.bool ps)])))) (K (.val (.tup [(.sl (.sels [])),(.str []),(.bool false)])) (some (.blk 46 [(.str s),(.nat p),(.bool bad),(.bool un),(.bool ps)]))))))) ?_
 refine Jp (Jp ?_)
 refine Qb ?_ ?_<;>intro h1<;>try simp[-zd]at h1
 refine Jp (Jp (Jp (Jp (Jp ?_))))
 rw[show Qv (bat s p)=true from by rw[Qv];simp;omega]at hk
 refine Qqd hk ?_
 unfold Qo
 rw[if_pos h1]
 rfl
 refine Qb (fun h2=>?_) (fun h2=>?_)
 try simp[-zd]at h2
 refine Jp (Jp (Jp (Jp (Jp ?_))))
 rw[show Qv (bat s p)=true from by rw[Qv];simp;omega]at hk
 refine Qqd hk ?_
 unfold Qo
 rw[if_neg h1,if_pos h2]
 rfl
 try simp[-zd]at h2
 refine Qb ?_ ?_<;>intro h3<;>try simp[-zd]at h3
 refine Jp (Jp (Jp ?_))
 rw[show Qv (bat s p)=true from by rw[Qv];simp;omega]at hk
 refine Qqd hk ?_
 unfold Qo
 rw[if_neg h1,if_neg h2,if_pos h3]
 rfl
 refine Qb (fun h4=>?_) (fun h4=>?_)
 try simp[-zd]at h4
 refine Jp (Jp (Jp (Jp ?_)))
 refine Qb ?_ ?_<;>intro h5<;>try simp[-zd]at h5
 refine Jp (Jp ?_)
 rw[show Qv (bat s p)=true from by rw[Qv];simp;omega]at hk
 refine Qqd hk ?_
 unfold Qo
 rw[if_neg h1,if_neg h2,if_neg h3,if_pos (h58t h5)]
 rfl
 refine Jp (Jp (Jp (Jp ?_)))
 rw[show Qv (bat s p)=true from by rw[Qv];simp;omega]at hk
 refine Qqd hk ?_
 unfold Qo
 rw[if_neg h1,if_neg h2,if_neg h3,if_neg (h58f h5)]
 rfl
 try simp[-zd]at h4
 rw[show Qv (bat s p)=false from by rw[Qv];simp;omega]at hk
 exact hk
 exact hP.elim
end
section
open Go Go.RowKit
set_option maxRecDepth 20000
section
variable {G:RS->List SelD×RS} {s:Bs} {ps pseudo:Bool} {t:RS} {l:List SelD} {pe:Bs} {many:Nat}
theorem Zx (h:¬(t.bad=false/\t.p<s.length/\Qv (bat s t.p)=true)):Vh G s ps pseudo t l pe many =
 if many=0 then (failL,(t.unI (decide (bat s t.p=124)||decide (bat s t.p=42))).no) else (Qi ⟨21,0,[],pe,0,0,0,0⟩ l,t.unI (decide (bat s t.p=124)||decide (bat s t.p=42))):=by
 unfold Vh;rw[if_neg h]
theorem Qnw (h:t.bad=false/\t.p<s.length/\Qv (bat s t.p)=true) (hv:(Qo G s t).1.2≠[]) (hp:pseudo=false):Vh G s ps pseudo t l pe many=(failL,((Qo G s t).2.unI ps).no):=by
 unfold Vh;rw[if_pos h];simp only;rw[if_pos hv,if_pos hp]
theorem Qkg (h:t.bad=false/\t.p<s.length/\Qv (bat s t.p)=true) (hv:(Qo G s t).1.2≠[]) (hp:pseudo=true) (he:pe≠[]):Vh G s ps pseudo t l pe many=(failL,((Qo G s t).2.unI true).no):=by
 unfold Vh;rw[if_pos h];simp only;rw[if_pos hv,if_neg (by rw[hp];simp),if_pos he]
theorem Qnx (h:t.bad=false/\t.p<s.length/\Qv (bat s t.p)=true) (hv:(Qo G s t).1.2≠[]) (hp:pseudo=true) (he:pe=[]) (hl:t.p<(Qo G s t).2.p) :
 Vh G s ps pseudo t l pe many=Vh G s ps pseudo (Qo G s t).2 l (Qo G s t).1.2 (many+1):=by
 conv=>lhs;unfold Vh
 rw[if_pos h];simp only;rw[if_pos hv,if_neg (by rw[hp];simp),if_neg (by rw[he];simp),if_pos hl]
theorem Qf9 (h:t.bad=false/\t.p<s.length/\Qv (bat s t.p)=true) (hv:(Qo G s t).1.2=[]) (hl:t.p<(Qo G s t).2.p) :
 Vh G s ps pseudo t l pe many=Vh G s ps pseudo ((Qo G s t).2.unI (decide (pe≠[]))) (l++(Qo G s t).1.1) pe (many+1):=by
 conv=>lhs;unfold Vh
 rw[if_pos h];simp only;rw[if_neg (by rw[hv];simp),if_pos hl]
end
def c65 (m:Nat) (svs:List SV) (b:Option SB):FR:=match svs,b with
 | [.ptr 0 0,.bool pseudo],some (.blk 46 [.str s,.nat p,.bool bad,.bool un,.bool ps])=>some ([s.length<=100000,p<=s.length+1,s.length<=m+p,m<=200000],.row (.sels (VB (Qq s ps (m+1)) s ps pseudo ⟨p,bad,un⟩).1),some (.blk 46 [.str s,.nat (VB (Qq s ps (m+1)) s ps pseudo ⟨p,bad,un⟩).2.p,.bool (VB (Qq s ps (m+1)) s ps pseudo ⟨p,bad,un⟩).2.bad,.bool (VB (Qq s ps (m+1)) s ps pseudo ⟨p,bad,un⟩).2.un,.bool ps]))
 | _,_=>none
noncomputable def W65 (m:Nat):Wk:=⟨[(29,.fn c29),(43,.plain c43),(66,.pure c66),(68,.fn c68),(77,.pure c77),(95,.fn c95),(96,.fn c96),(97,.plain (c97 m))],Qe Tryz.f65,true,true,[.tmp 4],[22],[(9,227)],[]⟩
theorem has65:Has 65:=hsf Tryz.f65
theorem Zo {p q:Prop} (k:q) (h:p:=by first | omega | (simp;done) | (simp[g0];done) | (have n1:=YB s ⟨p,bad,un||VS s p⟩ h02;have n2:=(Ve s ⟨p,bad,un||VS s p⟩ h02).2;omega) | (have a:=kb h1.2;have:=a.1.2;omega) | (have a:=QW (Qn7 h1) (by decide);omega)):p/\q:=⟨h,k⟩
theorem koz1 {c0 p0 p1 q:Prop} (k:q) (h:c0->p0/\p1/\True:=by intro g0;(try simp at g0);exact⟨(by first | omega | (simp;done) | (simp[g0];done) | (have n1:=YB s ⟨p,bad,un||VS s p⟩ h02;have n2:=(Ve s ⟨p,bad,un||VS s p⟩ h02).2;omega) | (have a:=kb h1.2;have:=a.1.2;omega) | (have a:=QW (Qn7 h1) (by decide);omega)),(by first | omega | (simp;done) | (simp[g0];done) | (have n1:=YB s ⟨p,bad,un||VS s p⟩ h02;have n2:=(Ve s ⟨p,bad,un||VS s p⟩ h02).2;omega) | (have a:=kb h1.2;have:=a.1.2;omega) | (have a:=QW (Qn7 h1) (by decide);omega)),trivial⟩):(c0->p0/\p1/\True)/\q:=⟨h,k⟩
theorem QkK {c0 p0 q:Prop} (k:q) (h:c0->p0/\True:=by intro g0;(try simp at g0);exact⟨(by first | omega | (simp;done) | (simp[g0];done) | (have n1:=YB s ⟨p,bad,un||VS s p⟩ h02;have n2:=(Ve s ⟨p,bad,un||VS s p⟩ h02).2;omega) | (have a:=kb h1.2;have:=a.1.2;omega) | (have a:=QW (Qn7 h1) (by decide);omega)),trivial⟩):(c0->p0/\True)/\q:=⟨h,k⟩
theorem sat65 (m:Nat) (hG:Sat 23 (fnS (c23 m))):Sat 65 (fnS (c65 m)):=by
 have hD:Qa (W65 m).D:=(Qa.cons Qcm QbW (Qa.cons Qcl QbV (Qa.cons JO JJ (Qa.cons Qjv QiG (Qa.cons QgC Qf4 (Qa.cons Qmr QlJ (Qa.cons Qe3 Qeu (Qa.cons has97 (sat97 m hG) Qa.nil))))))))
 refine (W65 m).sa hD Tryz.f65 fun svs b K hP=>?_
 obtain⟨ps,o,b',e,hp,hk⟩:=Vy hP
 unfold c65 at e
 split at e
 rename_i pseudo s p bad un ps
 cases e
 obtain⟨h01,h02,h03,h04,_⟩:=hp
 have L9:∀(mm:Nat) (t:RS) (pe:Bs) (ks:List (List SelD)) (many:Nat),s.length+1-t.p=mm->(Up s ⟨p,bad,un⟩ t/\ks.length<=t.p+1/\many<=t.p+1/\ks.flatten.length<=(3*(m+1)+8)*t.p+1/\VB (Qq s ps (m+1)) s ps pseudo ⟨p,bad,un⟩=Vh (Qq s ps (m+1)) s ps pseudo t ks.flatten pe many)->(W65 m).L K 9 (mkS 115 [(0,(.ptr 0 0)),(1,(.bool pseudo)),(5,(.ptr 1 0)),(6,(.own 2)),(7,(.nat many))] [(0,.blk 46 [(.str s),(.nat t.p),(.bool t.bad),(.bool t.un),(.bool ps)]),(1,.blk 33 [(.nat 21),(.nat 0),(.str []),(.str pe),(.nat 0),(.nat 0),(.nat 0),(.nat 0)]),(2,.row (.selss ks) true)] 3):=by
  intro mm
  induction mm using zl with
  | _ mm ih=>
   intro t pe ks many hm hI
   obtain⟨k1,k2,k3,k4,k5⟩:=hI
   have k6:p<=t.p:=k1.1
   have k7:t.p<=s.length+1:=k1.2
   have kb:=fun h=>Zh (c:=3*(m+1)+8) (by omega) (Za s ps (m+1)) t h
   have kc:(3*(m+1)+8)*t.p<=700000*100001:=Nat.mul_le_mul (by omega) (by omega)
   refine (W65 m).aL hD (have a0:=Qo (Qq s ps (m+1)) s t;have a1:Out:=.row (.sels (Qi (SelD.mk (21:Int) (0:Int) [] pe (0:Int) (0:Int) (0:Int) (0:Int)) (ks:List (List SelD)).flatten));have a2:=(!t.bad)=true->(((!t.bad)==true)=true)/\True;have a3:Out:=.row (.sels failL);have a4:Option SB:=some (.blk 46 [(.str s),(.nat t.p),(.bool t.bad),(.bool true),(.bool ps)]);have a5:Option SB:=some (.blk 46 [(.str s),(.nat t.p),(.bool t.bad),(.bool t.un),(.bool ps)]);have a6:Option SB:=some (.blk 46 [(.str s),(.nat t.p),(.bool true),(.bool true),(.bool ps)]);have a7:Option SB:=some (.blk 46 [(.str s),(.nat t.p),(.bool true),(.bool t.un),(.bool ps)]);have a8:=(decide (bat s t.p=124))||(decide (bat s t.p=42));have a9:SV:=.nat (a0.2.p);have a10:=decide (many=0);a2/\a2/\a2/\a2/\a2/\a2/\a2/\((!t.bad)=true->(((!t.bad)==true)=true)/\(((!t.bad)==true)=true)/\True)/\((!t.bad)=true->((!t.bad)==true)=true)/\cond ((!t.bad)&&(decide (t.p<s.length))) ((s.length<=100000)/\(t.p<=s.length+1)/\(s.length<=m+t.p)/\(m<=200000)/\cond (Qv (bat s t.p)) ((many+1<=9223372036854775807)/\cond (!(decide (a0.1.2=[]))) (cond (!pseudo) (K a3 (some (.blk 46 [(.str s),a9,(.bool true),(.bool (a0.2.un||ps)),(.bool ps)]))) (cond (!(decide (pe=[]))) (K a3 (some (.blk 46 [(.str s),a9,(.bool true),(.bool true),(.bool ps)]))) ((W65 m).L K 9 (mkS 115 [(0,(.ptr 0 0)),(1,(.bool pseudo)),(5,(.ptr 1 0)),(6,(.own 2)),(7,(.nat (many+1)))] [(0,.blk 46 [(.str s),a9,(.bool (a0.2.bad)),(.bool (a0.2.un)),(.bool ps)]),(1,.blk 33 [(.nat 21),(.nat 0),(.str []),(.str (a0.1.2)),(.nat 0),(.nat 0),(.nat 0),(.nat 0)]),(2,.row (.selss ks) true)] 3)))) (cond (!(decide (pe=[]))) ((ks.length+1<=1099511627776)/\(W65 m).L K 9 (mkS 115 [(0,(.ptr 0 0)),(1,(.bool pseudo)),(5,(.ptr 1 0)),(6,(.own 4)),(7,(.nat (many+1)))] [(4,.row (.selss (ks++[a0.1.1])) true),(0,.blk 46 [(.str s),a9,(.bool (a0.2.bad)),(.bool true),(.bool ps)]),(1,.blk 33 [(.nat 21),(.nat 0),(.str []),(.str pe),(.nat 0),(.nat 0),(.nat 0),(.nat 0)])] 5)) ((ks.length+1<=1099511627776)/\(W65 m).L K 9 (mkS 115 [(0,(.ptr 0 0)),(1,(.bool pseudo)),(5,(.ptr 1 0)),(6,(.own 4)),(7,(.nat (many+1)))] [(4,.row (.selss (ks++[a0.1.1])) true),(0,.blk 46 [(.str s),a9,(.bool (a0.2.bad)),(.bool (a0.2.un)),(.bool ps)]),(1,.blk 33 [(.nat 21),(.nat 0),(.str []),(.str pe),(.nat 0),(.nat 0),(.nat 0),(.nat 0)])] 5)))) ((s.length<=1000000)/\(t.p<=s.length+1)/\cond a8 (cond a10 (K a3 a6) (((ks:List (List SelD)).length<=1000000000)/\((ks:List (List SelD)).flatten.length<=1000000000000)/\K a1 a4)) (cond a10 (K a3 a7) (((ks:List (List SelD)).length<=1000000000)/\((ks:List (List SelD)).flatten.length<=1000000000000)/\K a1 a5)))) ((s.length<=1000000)/\(t.p<=s.length+1)/\cond a8 (cond a10 (K a3 a6) (((ks:List (List SelD)).length<=1000000000)/\((ks:List (List SelD)).flatten.length<=1000000000000)/\K a1 a4)) (cond a10 (K a3 a7) (((ks:List (List SelD)).length<=1000000000)/\((ks:List (List SelD)).flatten.length<=1000000000000)/\K a1 a5)))) ?_
   refine QkK (QkK (QkK (QkK (QkK (QkK (QkK (koz1 (Zo ?_))))))))
   refine Qb ?_ ?_<;>intro h1<;>try simp[-zd]at h1
   refine Zo (Zo (Zo (Zo ?_)))
   refine Qb ?_ ?_<;>intro h2<;>try simp[-zd]at h2
   refine Zo ?_
   refine Qb ?_ ?_<;>intro h3<;>try simp[-zd]at h3
   refine Qb (fun h4=>?_) (fun h4=>?_)
   try simp[-zd]at h4
   exact V7 hk (k5.trans ((Qnw ⟨h1.1,h1.2,h2⟩ h3 h4).trans rfl))
   try simp[-zd]at h4
   refine Qb ?_ ?_<;>intro h5<;>try simp[-zd]at h5
   refine V7 hk (k5.trans ((Qkg ⟨h1.1,h1.2,h2⟩ h3 h4 h5).trans ?_))
   simp[RS.unI,RS.no]
   obtain⟨a1,a2,a3⟩:=kb h1.2
   have a4:=a1.2
   have a5:=a1.1
   have a6:=zz (3*(m+1)+8) a5
   exact ih _ (by omega) (Qo (Qq s ps (m+1)) s t).2 (Qo (Qq s ps (m+1)) s t).1.2 ks (many+1) rfl ⟨⟨by show p<=(Qo (Qq s ps (m+1)) s t).2.p;omega,a4⟩,by omega,by omega,by omega,by rw[k5,Qnx ⟨h1.1,h1.2,h2⟩ h3 h4 h5 a2]⟩
   refine Qb (fun h4=>?_) (fun h4=>?_)
   try simp[-zd]at h4
   refine Zo ?_
   obtain⟨a1,a2,a3⟩:=kb h1.2
   have a4:=a1.2
   have a5:=a1.1
   have a6:=zz (3*(m+1)+8) a5
   exact Wk.L.rn [0,1,4] (ih _ (by show s.length+1-(Qo (Qq s ps (m+1)) s t).2.p<mm;omega) (RS.mk (Qo (Qq s ps (m+1)) s t).2.p (Qo (Qq s ps (m+1)) s t).2.bad true) pe (ks++[(Qo (Qq s ps (m+1)) s t).1.1]) (many+1) rfl ⟨⟨by show p<=(Qo (Qq s ps (m+1)) s t).2.p;omega,a4⟩,by show (ks++[(Qo (Qq s ps (m+1)) s t).1.1]).length<=(Qo (Qq s ps (m+1)) s t).2.p+1;simp only[zh,zF];omega,by show many+1<=(Qo (Qq s ps (m+1)) s t).2.p+1;omega,by
    show (ks++[(Qo (Qq s ps (m+1)) s t).1.1]).flatten.length<=(3*(m+1)+8)*(Qo (Qq s ps (m+1)) s t).2.p+1
    rw[xr,zh,show [(Qo (Qq s ps (m+1)) s t).1.1].flatten=(Qo (Qq s ps (m+1)) s t).1.1 from by simp];omega,by
    rw[k5,Qf9 ⟨h1.1,h1.2,h2⟩ h3 a2,xr,show [(Qo (Qq s ps (m+1)) s t).1.1].flatten=(Qo (Qq s ps (m+1)) s t).1.1 from by simp,show (Qo (Qq s ps (m+1)) s t).2.unI (decide (pe≠[]))=(RS.mk (Qo (Qq s ps (m+1)) s t).2.p (Qo (Qq s ps (m+1)) s t).2.bad true) from by simp[RS.unI,h4]]⟩)
   try simp[-zd]at h4
   refine Zo ?_
   obtain⟨a1,a2,a3⟩:=kb h1.2
   have a4:=a1.2
   have a5:=a1.1
   have a6:=zz (3*(m+1)+8) a5
   exact Wk.L.rn [0,1,4] (ih _ (by show s.length+1-(Qo (Qq s ps (m+1)) s t).2.p<mm;omega) (Qo (Qq s ps (m+1)) s t).2 pe (ks++[(Qo (Qq s ps (m+1)) s t).1.1]) (many+1) rfl ⟨⟨by show p<=(Qo (Qq s ps (m+1)) s t).2.p;omega,a4⟩,by show (ks++[(Qo (Qq s ps (m+1)) s t).1.1]).length<=(Qo (Qq s ps (m+1)) s t).2.p+1;simp only[zh,zF];omega,by show many+1<=(Qo (Qq s ps (m+1)) s t).2.p+1;omega,by
    show (ks++[(Qo (Qq s ps (m+1)) s t).1.1]).flatten.length<=(3*(m+1)+8)*(Qo (Qq s ps (m+1)) s t).2.p+1
    rw[xr,zh,show [(Qo (Qq s ps (m+1)) s t).1.1].flatten=(Qo (Qq s ps (m+1)) s t).1.1 from by simp];omega,by
    rw[k5,Qf9 ⟨h1.1,h1.2,h2⟩ h3 a2,xr,show [(Qo (Qq s ps (m+1)) s t).1.1].flatten=(Qo (Qq s ps (m+1)) s t).1.1 from by simp,show (Qo (Qq s ps (m+1)) s t).2.unI (decide (pe≠[]))=(Qo (Qq s ps (m+1)) s t).2 from by simp[RS.unI,h4]]⟩)
   refine Zo (Zo ?_)
   refine Qb ?_ ?_<;>intro h3<;>try simp[-zd]at h3
   refine Qb (fun h4=>?_) (fun h4=>?_)
   try simp[-zd]at h4
   refine V7 hk (k5.trans ((Zx (fun h=>by rw[h.2.2]at h2;cases h2)).trans ?_))
   rw[show (decide (bat s t.p=124)||decide (bat s t.p=42))=true from by simp;omega]
   rw[if_pos h4]
   simp[RS.unI,RS.no]
   try simp[-zd]at h4
   refine Zo (Zo ?_)
   refine V7 hk (k5.trans ((Zx (fun h=>by rw[h.2.2]at h2;cases h2)).trans ?_))
   rw[show (decide (bat s t.p=124)||decide (bat s t.p=42))=true from by simp;omega]
   rw[if_neg h4]
   simp[RS.unI,RS.no]
   refine Qb (fun h4=>?_) (fun h4=>?_)
   try simp[-zd]at h4
   refine V7 hk (k5.trans ((Zx (fun h=>by rw[h.2.2]at h2;cases h2)).trans ?_))
   rw[show (decide (bat s t.p=124)||decide (bat s t.p=42))=false from by simp;omega]
   rw[if_pos h4]
   simp[RS.unI,RS.no]
   try simp[-zd]at h4
   refine Zo (Zo ?_)
   refine V7 hk (k5.trans ((Zx (fun h=>by rw[h.2.2]at h2;cases h2)).trans ?_))
   rw[show (decide (bat s t.p=124)||decide (bat s t.p=42))=false from by simp;omega]
   rw[if_neg h4]
   simp[RS.unI,RS.no]
   refine Zo (Zo ?_)
   refine Qb ?_ ?_<;>intro h2<;>try simp[-zd]at h2
   refine Qb (fun h3=>?_) (fun h3=>?_)
   try simp[-zd]at h3
   refine V7 hk (k5.trans ((Zx (fun h=>by have q1:=h1 h.1;have q2:=h.2.1;omega)).trans ?_))
   rw[show (decide (bat s t.p=124)||decide (bat s t.p=42))=true from by simp;omega]
   rw[if_pos h3]
   simp[RS.unI,RS.no]
   try simp[-zd]at h3
   refine Zo (Zo ?_)
   refine V7 hk (k5.trans ((Zx (fun h=>by have q1:=h1 h.1;have q2:=h.2.1;omega)).trans ?_))
   rw[show (decide (bat s t.p=124)||decide (bat s t.p=42))=true from by simp;omega]
   rw[if_neg h3]
   simp[RS.unI,RS.no]
   refine Qb (fun h3=>?_) (fun h3=>?_)
   try simp[-zd]at h3
   refine V7 hk (k5.trans ((Zx (fun h=>by have q1:=h1 h.1;have q2:=h.2.1;omega)).trans ?_))
   rw[show (decide (bat s t.p=124)||decide (bat s t.p=42))=false from by simp;omega]
   rw[if_pos h3]
   simp[RS.unI,RS.no]
   try simp[-zd]at h3
   refine Zo (Zo ?_)
   refine V7 hk (k5.trans ((Zx (fun h=>by have q1:=h1 h.1;have q2:=h.2.1;omega)).trans ?_))
   rw[show (decide (bat s t.p=124)||decide (bat s t.p=42))=false from by simp;omega]
   rw[if_neg h3]
   simp[RS.unI,RS.no]
 refine (W65 m).en (have a0:=Qg s (RS.mk p bad (un||VS s p));(s.length<=1000000)/\(p<=s.length+1)/\(1<=1000)/\cond (Q5 s [42] p) ((1<=9223372036854775807)/\(W65 m).L K 9 (mkS 115 [(0,(.ptr 0 0)),(1,(.bool pseudo)),(5,(.ptr 1 0)),(6,.nilsl),(7,(.nat 1))] [(1,.blk 33 [(.nat 21),(.nat 0),(.str []),(.str []),(.nat 0),(.nat 0),(.nat 0),(.nat 0)]),(0,.blk 46 [(.str s),(.nat (p+1)),(.bool bad),(.bool un),(.bool ps)])] 2)) ((s.length<=1000000)/\(p<=s.length+1)/\cond (Vo s p) ((s.length<=1000000)/\(p<=s.length+1)/\((a0.1).length<=1000000000)/\(([]:List (List SelD)).length<=1000000000)/\(([]:List (List SelD)).flatten.length<=1000000000000)/\(0+1<=1099511627776)/\(1<=9223372036854775807)/\(W65 m).L K 9 (mkS 115 [(0,(.ptr 0 0)),(1,(.bool pseudo)),(5,(.ptr 1 0)),(6,(.own 4)),(7,(.nat 1))] [(4,.row (.selss ([]++[Qi (SelD.mk (2:Int) (0:Int) (low (a0.1)) [] (0:Int) (0:Int) (0:Int) (0:Int)) ([]:List (List SelD)).flatten])) true),(1,.blk 33 [(.nat 21),(.nat 0),(.str []),(.str []),(.nat 0),(.nat 0),(.nat 0),(.nat 0)]),(0,.blk 46 [(.str s),(.nat (a0.2.p)),(.bool (a0.2.bad)),(.bool (a0.2.un)),(.bool ps)])] 5)) ((W65 m).L K 9 (mkS 115 [(0,(.ptr 0 0)),(1,(.bool pseudo)),(5,(.ptr 1 0)),(6,.nilsl),(7,(.nat 0))] [(1,.blk 33 [(.nat 21),(.nat 0),(.str []),(.str []),(.nat 0),(.nat 0),(.nat 0),(.nat 0)]),(0,.blk 46 [(.str s),(.nat p),(.bool bad),(.bool (un||VS s p)),(.bool ps)])] 2)))) ?_
 refine Zo (Zo (Zo ?_))
 refine Qb ?_ ?_<;>intro h1<;>try simp[-zd]at h1
 refine Zo ?_
 have a:=QW (Qn7 h1) (by decide)
 exact Wk.L.le (V9.adopt 6 (T:=79) (x:=.selss []) (by kernel_rfl) (by kernel_rfl)) (Wk.L.rn [0,1,2] (L9 _ (RS.go ⟨p,bad,un⟩ (p+1)) [] [] 1 rfl ⟨⟨Nat.le_succ p,by show p+1<=_;omega⟩,by simp,by simp,by simp,by unfold VB;rw[if_pos (Qn7 h1)];rfl⟩))
 refine Zo (Zo ?_)
 refine Qb ?_ ?_<;>intro h2<;>try simp[-zd]at h2
 refine Zo (Zo (Zo (Zo (Zo (Zo (Zo ?_))))))
 have a:=Ve s ⟨p,bad,un||VS s p⟩ h02
 exact Wk.L.rn [0,1,4] (L9 _ (Qg s ⟨p,bad,un||VS s p⟩).2 [] [Qi ⟨2,0,low (Qg s ⟨p,bad,un||VS s p⟩).1,[],0,0,0,0⟩ []] 1 rfl ⟨a,by simp,by omega,by simp[Qi,Ql],by unfold VB;rw[if_neg (h42f h1),if_pos h2];rfl⟩)
 exact Wk.L.le (V9.adopt 6 (T:=79) (x:=.selss []) (by kernel_rfl) (by kernel_rfl)) (Wk.L.rn [0,1,2] (L9 _ ⟨p,bad,un||VS s p⟩ [] [] 0 rfl ⟨⟨zm _,h02⟩,by simp,by omega,by simp,by unfold VB;rw[if_neg (h42f h1),if_neg (by rw[h2];simp)];rfl⟩))
 cases e
end
section
open Go Go.RowKit
set_option maxRecDepth 20000
structure LastOk (l:List SelD) (n:SelD) (a c:List SelD):Prop where
 e:l=Qi n (a++c)
 k:n.kind=22
 a1:1<=a.length
 az:(a.getD 0 default).size=(a.length:Nat)
 c1:1<=c.length
 cz:(c.getD 0 default).size=(c.length:Nat)
 ck:(c.getD 0 default).kind≠22
 len:l.length<=1000000000000
section
variable {l:List SelD} {n:SelD} {a c:List SelD}
theorem LastOk.ll (h:LastOk l n a c):l.length=a.length+c.length+1:=by rw[h.e];simp[Qi,Ql]
theorem LastOk.g0 (h:LastOk l n a c):l.getD 0 default={ n with size:=((a.length+c.length:Nat):Int)+1 }:=by rw[h.e];simp[Qi,Ql,zd]
theorem LastOk.g1 (h:LastOk l n a c):l.getD 1 default=a.getD 0 default:=by
 have:=h.a1
 rw[h.e];simp[Qi,Ql,zd,List.getElem?_append_left this]
theorem LastOk.g2 (h:LastOk l n a c):l.getD (1+a.length) default=c.getD 0 default:=by
 rw[h.e,Nat.add_comm];simp[Qi,Ql,zd,List.getElem?_append_right]
theorem LastOk.kids (h:LastOk l n a c):Vi l 0=[1,1+a.length]:=by
 have a1:=h.a1
 have c1:=h.c1
 have ll:=h.ll
 have z0:(l.getD 0 default).size=((a.length+c.length:Nat):Int)+1:=by rw[h.g0]
 unfold Vi
 rw[z0,ZH,if_pos ⟨by omega,by omega⟩,h.g1,h.az,show 0+1+(max 1 ((a.length:Nat):Int)).toNat=1+a.length from by omega,ZH,if_pos ⟨by omega,by omega⟩,h.g2,h.cz,
  ZH,if_neg (by omega)]
theorem LastOk.pe (h:LastOk l n a c):JM l (l.length+1) 0=if (c.getD 0 default).kind=21 then (c.getD 0 default).val else []:=by
 have a1:=h.a1
 have c1:=h.c1
 have ll:=h.ll
 obtain⟨m,hm⟩:∃m,l.length=m+3:=⟨l.length-3,by omega⟩
 have z0:(l.getD 0 default).size.toNat=l.length:=by rw[h.g0,ll];simp only;omega
 have k0:(l.getD 0 default).kind=22:=by rw[h.g0];exact h.k
 have lk:JM.lastKid l (0+l.length) 1 1 l.length=1+a.length:=by
  conv=>lhs;rw[hm]
  unfold JM.lastKid
  rw[if_pos (by omega),h.g1,h.az,show 1+max 1 ((a.length:Nat):Int).toNat=1+a.length from by omega]
  unfold JM.lastKid
  rw[if_pos (by omega),h.g2,h.cz]
  unfold JM.lastKid
  rw[if_neg (by omega)]
 unfold JM
 simp only
 rw[if_pos k0,z0,lk,hm]
 unfold JM
 simp only
 rw[h.g2,if_neg h.ck]
end
def c67 (svs:List SV) (b:Option SB):QR:=match svs,b with
 | [.sl (.sels l)],none=>some ([∃n a c,LastOk l n a c],.str (JM l (l.length+1) 0))
 | _,_=>none
noncomputable def W67:Wk:=⟨[(17,.fn c17)],Qe Tryz.f67,false,false,[.tmp 2],[9],[(2,9)],[]⟩
theorem has67:Has 67:=hsf Tryz.f67
theorem QhJ {p q:Prop} (k:q) (h:p:=by first | omega | (obtain rfl:=hi0 h1;first | omega | (rw[z0];omega) | (rw[fk];simp;done) | (intro k hk;rw[fk]at hk;simp only[zu,zJ,or_false]at hk;rcases hk with rfl | rfl;rw[h01.g1,h01.az];omega;rw[h01.g2,h01.cz];omega))):p/\q:=⟨h,k⟩
theorem sat67:Sat 67 (Qz c67):=by
 have hD:Qa W67.D:=(Qa.cons Qug QtR Qa.nil)
 refine W67.sa hD Tryz.f67 fun svs b K hP=>?_
 obtain⟨ps,v,e,hp,hk⟩:=Qh hP
 unfold c67 at e
 split at e
 rename_i l
 cases e
 obtain⟨⟨n,a,c,h01⟩,_⟩:=hp
 have ll:=h01.ll
 have a1:=h01.a1
 have c1:=h01.c1
 have fk:=h01.kids
 have lm:=h01.len
 have z0:(l.getD 0 default).size=((a.length+c.length:Nat):Int)+1:=by rw[h01.g0]
 have k0:(l.getD 0 default).kind=22:=by rw[h01.g0];exact h01.k
 have k2:(l.getD (1+a.length) default).kind≠22:=by rw[h01.g2];exact h01.ck
 have L2:∀(mm:Nat) (i:Nat),1-i=mm->(i=0\/i=1+a.length)->W67.L K 2 (mkS 31 [(0,(.sl (.sels l))),(3,(.nat i))] [] 1):=by
  intro mm
  induction mm using zl with
  | _ mm ih=>
   intro i hm hI
   have hi0:(l.getD i default).kind=22->i=0:=by
    intro e
    rcases hI with h | h
    exact h
    subst h;exact absurd e k2
   have hi1:(l.getD i default).kind≠22->i=1+a.length:=by
    intro e
    rcases hI with h | h
    subst h;exact absurd k0 e
    exact h
   refine W67.aL hD (have a0:=l.getD i default;(i<l.length)/\cond (decide (a0.kind=(22:Int))) ((i<l.length/\l.length<=1000000000000)/\(0<=a0.size/\((i:Nat):Int)+a0.size<=l.length)/\(∀k,k∈Vi l i->(l.getD k default).size<=1000000000000)/\(1<=(Vi l i).length/\(Vi l i).length<=9223372036854775807)/\((Vi l i).length-1<(Vi l i).length)/\((Vi l i).length-1<(Vi l i).length)/\(W67).L K 2 (mkS 31 [(0,(.sl (.sels l))),(3,(.nat ((Vi l i).getD ((Vi l i).length-1) 0)))] [(1,.row (.ints (Vi l i)) true)] 2)) ((i<l.length)/\cond (decide (a0.kind=(21:Int))) ((i<l.length)/\K (.val (.str (a0.val))) none) (K (.val (.str [])) none))) ?_
   refine QhJ ?_
   refine Qb ?_ ?_<;>intro h1<;>try simp[-zd]at h1
   refine QhJ (QhJ (QhJ (QhJ (QhJ (QhJ ?_)))))
   obtain rfl:=hi0 h1
   rw[fk]
   exact Wk.L.rn [0] (ih _ (by omega) (1+a.length) rfl (.inr rfl))
   refine QhJ ?_
   refine Qb ?_ ?_<;>intro h2<;>try simp[-zd]at h2
   refine QhJ ?_
   obtain rfl:=hi1 h1
   rw[h01.pe,if_pos (by rw[<-h01.g2];exact h2),<-h01.g2]at hk
   exact hk
   obtain rfl:=hi1 h1
   rw[h01.pe,if_neg (by rw[<-h01.g2];exact h2)]at hk
   exact hk
 refine W67.en ((W67).L K 2 (mkS 31 [(0,(.sl (.sels l))),(3,(.nat 0))] [] 1)) ?_
 exact L2 _ 0 rfl (.inl rfl)
 cases e
end
section
open Go Go.RowKit
set_option maxRecDepth 20000
theorem Qkd {s:Bs} {t:RS} (h:Vo s t.p=true):(Qg s t).2.bad=true\/t.p<(Qg s t).2.p:=by
 unfold Qg
 rw[if_pos h]
 generalize hw:t.unI (VS s t.p)=w
 have hp:w.p=t.p:=by rw[<-hw];rfl
 rw[<-hp]at h ⊢
 cases hb:w.bad with
 | true=>
  left
  unfold VZ
  rw[if_neg (by rw[hb];simp)]
  exact hb
 | false=>
  right
  by_cases hc:Qr (bat s w.p)=true
  rw[QiK (QZ (by intro e;rw[e]at hc;cases hc)) hb hc]
  have:=QbX s (w.go (w.p+1)) ([]++[s.getD w.p 0])
  simp only[RS.go_p]at this
  omega
  have h45:¬bat s w.p=45:=by intro e;rw[e]at hc;exact hc rfl
  have hat:Ud s w.p=w.p:=by unfold Ud;rw[if_neg (fun q=>h45 q.2)]
  unfold Vo at h
  rw[hat]at h
  have hst:QK (bat s w.p)=false:=by
   rw[<-Bool.not_eq_true];intro e;exact hc (by unfold Qr;rw[e];rfl)
  rw[hst]at h
  simp at h
  rw[QiJ (by have:=Qh1 h;omega) hb (by simpa using hc) h]
  have:=QbX s (VQ s w).2 ([]++(VQ s w).1)
  have:=UF s w
  omega
section
variable {s:Bs} {c:Nat} {G:RS->List SelD×RS} {ps pseudo:Bool}
def Sz (l:List SelD):Prop:=1<=l.length/\(l.getD 0 default).size=(l.length:Nat)
theorem Sz.made (x:SelD) (l:List SelD):Sz (Qi x l):=by
 unfold Sz Qi Ql
 simp
theorem Sz.fail:Sz failL:=by unfold Sz failL;simp
def U3 (l:List SelD):Prop:=Sz l/\(l.getD 0 default).kind≠22
theorem U3.fail:U3 failL:=⟨Sz.fail,by unfold failL;simp⟩
theorem Qnv (t:RS) (l:List SelD) (pe:Bs) (many:Nat):U3 (Vh G s ps pseudo t l pe many).1:=by
 fun_induction Vh G s ps pseudo t l pe many with
 | case1=>exact U3.fail
 | case2=>exact U3.fail
 | case3 t l pe many h1 v hv hps hpe hlt ih=>exact ih
 | case4=>exact U3.fail
 | case5 t l pe many h1 v hv hlt ih=>exact ih
 | case6=>exact U3.fail
 | case7=>exact U3.fail
 | case8=>exact⟨Sz.made _ _,by simp[Qi,Ql]⟩
theorem Qhd (t:RS):U3 (VB G s ps pseudo t).1:=by
 unfold VB
 repeat' split
 all_goals exact Qnv _ _ _ _
theorem Qaf (h8:8<=c) (hG:GB s c G) (t:RS) (l:List SelD) (pe:Bs) (many:Nat) (h:t.p<=s.length+1) (p0:Nat) (hp:p0<=t.p) (hm:many=0\/p0<t.p\/t.bad=true) :
 (Vh G s ps pseudo t l pe many).2.bad=true\/p0<(Vh G s ps pseudo t l pe many).2.p:=by
 fun_induction Vh G s ps pseudo t l pe many with
 | case1=>exact .inl rfl
 | case2=>exact .inl rfl
 | case3 t l pe many h1 v hv hps hpe hlt ih=>
  have a:Up s t v.2:=(Zh h8 hG t h1.2.1).1
  exact ih a.2 (by omega) (.inr (.inl (by omega)))
 | case4=>exact .inl rfl
 | case5 t l pe many h1 v hv hlt ih=>
  have a:Up s t v.2:=(Zh h8 hG t h1.2.1).1
  exact ih (by simp only[RS.unI_p];exact a.2) (by simp only[RS.unI_p];omega) (.inr (.inl (by simp only[RS.unI_p];omega)))
 | case6=>exact .inl rfl
 | case7=>exact .inl rfl
 | case8 t l pe many h1 t1 hm0=>
  rcases hm with hm | hm | hm
  exact absurd hm hm0
  exact .inr hm
  exact .inl hm
theorem Qnu (h8:8<=c) (hG:GB s c G) (t:RS) (h:t.p<=s.length+1):(VB G s ps pseudo t).2.bad=true\/t.p<(VB G s ps pseudo t).2.p:=by
 unfold VB
 split
 rename_i e
 have:=QW e (by decide)
 exact Qaf h8 hG (t.go (t.p+1)) [] [] 1 (by simp only[RS.go_p];omega) t.p (by simp only[RS.go_p];omega) (.inr (.inl (by simp only[RS.go_p];omega)))
 split
 rename_i e
 have hn:=Qkd (s:=s) (t:=t.unI (VS s t.p)) e
 have hu:=Ve s (t.unI (VS s t.p)) h
 refine Qaf h8 hG (Qg s (t.unI (VS s t.p))).2 _ [] 1 hu.2 t.p hu.1 (.inr ?_)
 rcases hn with hn | hn
 exact .inr hn
 exact .inl hn
 exact Qaf h8 hG (t.unI (VS s t.p)) [] [] 0 h t.p (zm _) (.inl rfl)
def Lf (l:List SelD):Prop:=Sz l/\((l.getD 0 default).kind=22->∃n a c,LastOk l n a c)
theorem U3.lf {l:List SelD} (h:U3 l):Lf l:=⟨h.1,fun e=>absurd e h.2⟩
theorem Lf.comb {l r:List SelD} {op:Int} (h:Lf l) (k:U3 r) (hn:l.length+r.length+1<=1000000000000):Lf (Qi ⟨22,op,[],[],0,0,0,0⟩ (l++r)):=
 ⟨Sz.made _ _,fun _=>⟨⟨22,op,[],[],0,0,0,0⟩,l,r,rfl,rfl,h.1.1,h.1.2,k.1.1,k.1.2,k.2,by simp[Qi,Ql];omega⟩⟩
def VA (s:Bs) (t:RS):RS:=if Va (bat s (sSp s t).p)≠0 then sSp s ((sSp s t).go ((sSp s t).p+1)) else sSp s t
def J8 (s:Bs) (t:RS):Int:=if Va (bat s (sSp s t).p)≠0 then Va (bat s (sSp s t).p) else 1
def JS (s:Bs) (t:RS):Prop:=Va (bat s (sSp s t).p)=0/\(s.length<=(sSp s t).p\/bat s (sSp s t).p=44\/bat s (sSp s t).p=41\/(sSp s t).p<=t.p)
theorem Qew {t:RS} {left:List SelD} (hb:t.bad=true):VU G s ps pseudo t left=(left,t):=by
 unfold VU;rw[if_pos hb]
theorem Qev {t:RS} {left:List SelD} (hb:t.bad=false) (he:JS s t):VU G s ps pseudo t left=(left,sSp s t):=by
 unfold JS at he
 unfold VU;rw[if_neg (by rw[hb];simp)];simp only;rw[if_pos he]
theorem Qnt {t:RS} {left:List SelD} (hb:t.bad=false) (he:¬JS s t) (hp:Qc2 left=true):VU G s ps pseudo t left=(failL,((VA s t).unI true).no):=by
 unfold JS at he
 unfold VU;rw[if_neg (by rw[hb];simp)];simp only;rw[if_neg he,if_pos hp];rfl
theorem Qcs {t:RS} (h:t.p<=s.length+1):Up s t (VA s t):=by
 have u:=QF s t h
 unfold VA
 split
 rename_i e
 have hl:(sSp s t).p<s.length:=QZ (by intro e0;apply e;rw[e0];rfl)
 have v:Up s t ((sSp s t).go ((sSp s t).p+1)):=⟨by have:=u.1;simp only[RS.go_p];omega,by simp only[RS.go_p];omega⟩
 exact v.trans (QF s _ v.2)
 exact u
theorem QiL (h8:8<=c) (hG:GB s c G) {t:RS} {left:List SelD} (h:t.p<=s.length+1) (hb:t.bad=false) (he:¬JS s t) (hp:Qc2 left=false) :
 VU G s ps pseudo t left=VU G s ps pseudo (VB G s ps pseudo (VA s t)).2 (Qi ⟨22,J8 s t,[],[],0,0,0,0⟩ (left++(VB G s ps pseudo (VA s t)).1)) /\
 ((VB G s ps pseudo (VA s t)).2.bad=true\/t.p<(VB G s ps pseudo (VA s t)).2.p):=by
 have u:=Qcs (s:=s) h
 have pr:=Qnu (ps:=ps) (pseudo:=pseudo) h8 hG (VA s t) u.2
 have pr':(VB G s ps pseudo (VA s t)).2.bad=true\/t.p<(VB G s ps pseudo (VA s t)).2.p:=by
  rcases pr with pr | pr
  exact .inl pr
  exact .inr (Nat.lt_of_le_of_lt u.1 pr)
 refine⟨?_,pr'⟩
 unfold JS at he
 conv=>lhs;unfold VU
 rw[if_neg (by rw[hb];simp)]
 simp only
 rw[if_neg he,if_neg (by rw[hp];simp)]
 show (if t.p<(VB G s ps pseudo (VA s t)).2.p/\t.p<s.length then VU G s ps pseudo (VB G s ps pseudo (VA s t)).2 (Qi ⟨22,J8 s t,[],[],0,0,0,0⟩ (left++(VB G s ps pseudo (VA s t)).1))
  else (Qi ⟨22,J8 s t,[],[],0,0,0,0⟩ (left++(VB G s ps pseudo (VA s t)).1),(VB G s ps pseudo (VA s t)).2))=_
 split
 rfl
 rename_i hn
 have:(VB G s ps pseudo (VA s t)).2.bad=true:=by
  rcases pr' with pr | pr
  exact pr
  refine absurd ⟨pr,?_⟩ hn
  apply Decidable.byContradiction
  intro hl
  refine he ⟨?_,.inl ?_⟩
  have:=QcF s t
  rw[bat_out (by omega)];rfl
  have:=QcF s t
  omega
 rw[Qew this]
end
end
end Go.Proofs.YtengepcafdnalaaGreatDoor
