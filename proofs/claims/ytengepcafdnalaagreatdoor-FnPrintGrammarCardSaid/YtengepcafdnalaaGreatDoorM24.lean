/-
  Parts of the proof that the law FnPrintGrammar holds for every input (texts Km, Kn, Ko, Kp, Kq). Conditions: none.
-/
import Derived.Test.YtengepcafdnalaaGreatDoorM23
namespace Go.Proofs.YtengepcafdnalaaGreatDoor
open _root_.Bool renaming noConfusion → z7, or_assoc → zZ
open _root_.List renaming getD_eq_getElem?_getD → za, length_append → zf, length_singleton → zH, flatten_append → xv, mem_cons → zp, not_mem_nil → zT
open _root_.Nat renaming strongRecOn → zi, mul_le_mul_left → zA, le_refl → zj
section
open Go Go.RowKit
set_option maxRecDepth 20000
def c23 (m:Nat) (svs:List SV) (b:Option SB):FR:=match svs,b with
 | [.ptr 0 0,.bool many,.bool pseudo],some (.blk 46 [.str s,.nat p,.bool bad,.bool un,.bool ps])=>some ([s.length<=100000,p<=s.length,s.length+1<=m+p,m<=200000],.row (.sels (VF (Qo s ps m) s ps many pseudo ⟨p,bad,un⟩).1),
  some (.blk 46 [.str s,.nat (VF (Qo s ps m) s ps many pseudo ⟨p,bad,un⟩).2.p,.bool (VF (Qo s ps m) s ps many pseudo ⟨p,bad,un⟩).2.bad,.bool (VF (Qo s ps m) s ps many pseudo ⟨p,bad,un⟩).2.un,.bool ps]))
 | _,_=>none
theorem QrN {l:List SelD} (h:l.length<=100000000000):[l].flatten.length<=1000000000000:=by simp;omega
theorem Qve:Has 23:=hsf Tryz.f23
def Qvm (m:Nat) (svs:List SV) (b:Option SB):FR:=match svs,b with
 | [.ptr 0 0,.int .i64 k,.int .i64 f],some (.blk 46 [.str s,.nat p,.bool bad,.bool un,.bool ps])=>some ([s.length<=100000,p<=s.length,s.length+1<=m+p,m<=200000,k<=20],.row (.sels (V2 (Qo s ps (m+1)) s k f ⟨p,bad,un⟩).1),some (.blk 46 [.str s,.nat (V2 (Qo s ps (m+1)) s k f ⟨p,bad,un⟩).2.p,.bool (V2 (Qo s ps (m+1)) s k f ⟨p,bad,un⟩).2.bad,.bool (V2 (Qo s ps (m+1)) s k f ⟨p,bad,un⟩).2.un,.bool ps]))
 | _,_=>none
noncomputable def W127 (m:Nat):Wk:=⟨[(23,.fn (c23 m)),(29,.fn c29),(43,.plain c43),(64,.fn c64),(66,.pure c66),(68,.fn c68),(96,.fn c96),(123,.fn c123),(140,.fn c140),(141,.fn c141)],Qh Tryz.f127,true,true,[.tmp 6],[22],[],[]⟩
theorem Qx5:Has 127:=hsf Tryz.f127
theorem kmz1 {c0 p0 p1 q:Prop} (k:q) (h:c0->p0/\p1/\True:=by intro g0;(try simp at g0);exact⟨(by first | omega | (simp;done) | (have:=QhF (s:=s) (t:=⟨p,bad,un⟩) h02;have:=Qdf s ⟨p,bad,un⟩;simp only at *;omega)   | (have u1:=QG s ⟨p,bad,un⟩ (show p<=_ from by omega);have u2:=u1.trans (Qbk s _ u1.2);have u3:=u2.trans (QG s _ u2.2);first | exact u1.2 | exact u2.2 | exact u3.2 | (have:=u1.2;have:=u2.2;have:=u3.2;omega) | (have:=QV (QaJ h3) (by decide);omega))   | (refine QrN (QbZ (m:=m+1) h01 (by omega) ?_);first | exact (QG s ⟨p,bad,un⟩ (show p<=_ from by omega)).2)   | (have u1:=QG s ⟨p,bad,un⟩ (show p<=_ from by omega);have u2:=(Zf s ps (m+1) ⟨(sSp s ⟨p,bad,un⟩).p,(sSp s ⟨p,bad,un⟩).bad,true⟩ u1.2).1;have u3:=(Zf s ps (m+1) (sSp s ⟨p,bad,un⟩) u1.2).1;first | exact u2.2 | exact u3.2 | (have:=QV (QaJ h5) (by decide);omega))   | (have u1:=QG s ⟨p,bad,un⟩ (show p<=_ from by omega);have u2:=Q9 s ⟨(sSp s ⟨p,bad,un⟩).p,(sSp s ⟨p,bad,un⟩).bad,true⟩ u1.2;have u3:=Q9 s (sSp s ⟨p,bad,un⟩) u1.2;have n2:=YB s ⟨(sSp s ⟨p,bad,un⟩).p,(sSp s ⟨p,bad,un⟩).bad,true⟩ u1.2;have n3:=YB s (sSp s ⟨p,bad,un⟩) u1.2;first | exact u2.2 | exact u3.2 | omega)   | (have u1:=QG s ⟨p,bad,un⟩ (show p<=_ from by omega);exact QB s _ (Q9 s ⟨(sSp s ⟨p,bad,un⟩).p,(sSp s ⟨p,bad,un⟩).bad,true⟩ u1.2).2)   | (have u1:=QG s ⟨p,bad,un⟩ (show p<=_ from by omega);exact QB s _ (Q9 s (sSp s ⟨p,bad,un⟩) u1.2).2)   | (have:=QV (QaJ h6) (by decide);omega) | (have:=QV (QaJ h5) (by decide);omega)   | (have u1:=QG s ⟨p,bad,un⟩ (show p<=_ from by omega);have u3:=JX s (sSp s ⟨p,bad,un⟩) u1.2;have n3:=Qde s (sSp s ⟨p,bad,un⟩) u1.2;first | exact u3.2 | exact QB s _ u3.2 | omega)),(by first | omega | (simp;done) | (have:=QhF (s:=s) (t:=⟨p,bad,un⟩) h02;have:=Qdf s ⟨p,bad,un⟩;simp only at *;omega)   | (have u1:=QG s ⟨p,bad,un⟩ (show p<=_ from by omega);have u2:=u1.trans (Qbk s _ u1.2);have u3:=u2.trans (QG s _ u2.2);first | exact u1.2 | exact u2.2 | exact u3.2 | (have:=u1.2;have:=u2.2;have:=u3.2;omega) | (have:=QV (QaJ h3) (by decide);omega))   | (refine QrN (QbZ (m:=m+1) h01 (by omega) ?_);first | exact (QG s ⟨p,bad,un⟩ (show p<=_ from by omega)).2)   | (have u1:=QG s ⟨p,bad,un⟩ (show p<=_ from by omega);have u2:=(Zf s ps (m+1) ⟨(sSp s ⟨p,bad,un⟩).p,(sSp s ⟨p,bad,un⟩).bad,true⟩ u1.2).1;have u3:=(Zf s ps (m+1) (sSp s ⟨p,bad,un⟩) u1.2).1;first | exact u2.2 | exact u3.2 | (have:=QV (QaJ h5) (by decide);omega))   | (have u1:=QG s ⟨p,bad,un⟩ (show p<=_ from by omega);have u2:=Q9 s ⟨(sSp s ⟨p,bad,un⟩).p,(sSp s ⟨p,bad,un⟩).bad,true⟩ u1.2;have u3:=Q9 s (sSp s ⟨p,bad,un⟩) u1.2;have n2:=YB s ⟨(sSp s ⟨p,bad,un⟩).p,(sSp s ⟨p,bad,un⟩).bad,true⟩ u1.2;have n3:=YB s (sSp s ⟨p,bad,un⟩) u1.2;first | exact u2.2 | exact u3.2 | omega)   | (have u1:=QG s ⟨p,bad,un⟩ (show p<=_ from by omega);exact QB s _ (Q9 s ⟨(sSp s ⟨p,bad,un⟩).p,(sSp s ⟨p,bad,un⟩).bad,true⟩ u1.2).2)   | (have u1:=QG s ⟨p,bad,un⟩ (show p<=_ from by omega);exact QB s _ (Q9 s (sSp s ⟨p,bad,un⟩) u1.2).2)   | (have:=QV (QaJ h6) (by decide);omega) | (have:=QV (QaJ h5) (by decide);omega)   | (have u1:=QG s ⟨p,bad,un⟩ (show p<=_ from by omega);have u3:=JX s (sSp s ⟨p,bad,un⟩) u1.2;have n3:=Qde s (sSp s ⟨p,bad,un⟩) u1.2;first | exact u3.2 | exact QB s _ u3.2 | omega)),trivial⟩):(c0->p0/\p1/\True)/\q:=⟨h,k⟩
theorem Vq {p q:Prop} (k:q) (h:p:=by first | omega | (simp;done) | (have:=QhF (s:=s) (t:=⟨p,bad,un⟩) h02;have:=Qdf s ⟨p,bad,un⟩;simp only at *;omega)   | (have u1:=QG s ⟨p,bad,un⟩ (show p<=_ from by omega);have u2:=u1.trans (Qbk s _ u1.2);have u3:=u2.trans (QG s _ u2.2);first | exact u1.2 | exact u2.2 | exact u3.2 | (have:=u1.2;have:=u2.2;have:=u3.2;omega) | (have:=QV (QaJ h3) (by decide);omega))   | (refine QrN (QbZ (m:=m+1) h01 (by omega) ?_);first | exact (QG s ⟨p,bad,un⟩ (show p<=_ from by omega)).2)   | (have u1:=QG s ⟨p,bad,un⟩ (show p<=_ from by omega);have u2:=(Zf s ps (m+1) ⟨(sSp s ⟨p,bad,un⟩).p,(sSp s ⟨p,bad,un⟩).bad,true⟩ u1.2).1;have u3:=(Zf s ps (m+1) (sSp s ⟨p,bad,un⟩) u1.2).1;first | exact u2.2 | exact u3.2 | (have:=QV (QaJ h5) (by decide);omega))   | (have u1:=QG s ⟨p,bad,un⟩ (show p<=_ from by omega);have u2:=Q9 s ⟨(sSp s ⟨p,bad,un⟩).p,(sSp s ⟨p,bad,un⟩).bad,true⟩ u1.2;have u3:=Q9 s (sSp s ⟨p,bad,un⟩) u1.2;have n2:=YB s ⟨(sSp s ⟨p,bad,un⟩).p,(sSp s ⟨p,bad,un⟩).bad,true⟩ u1.2;have n3:=YB s (sSp s ⟨p,bad,un⟩) u1.2;first | exact u2.2 | exact u3.2 | omega)   | (have u1:=QG s ⟨p,bad,un⟩ (show p<=_ from by omega);exact QB s _ (Q9 s ⟨(sSp s ⟨p,bad,un⟩).p,(sSp s ⟨p,bad,un⟩).bad,true⟩ u1.2).2)   | (have u1:=QG s ⟨p,bad,un⟩ (show p<=_ from by omega);exact QB s _ (Q9 s (sSp s ⟨p,bad,un⟩) u1.2).2)   | (have:=QV (QaJ h6) (by decide);omega) | (have:=QV (QaJ h5) (by decide);omega)   | (have u1:=QG s ⟨p,bad,un⟩ (show p<=_ from by omega);have u3:=JX s (sSp s ⟨p,bad,un⟩) u1.2;have n3:=Qde s (sSp s ⟨p,bad,un⟩) u1.2;first | exact u3.2 | exact QB s _ u3.2 | omega)):p/\q:=⟨h,k⟩
theorem QsU (m:Nat) (hG:Sat 23 (fnS (c23 m))):Sat 127 (fnS (Qvm m)):=by
 have hD:Qb (W127 m).D:=(Qb.cons Qve hG (Qb.cons QcV Qcv (Qb.cons QcU Qcu (Qb.cons Qni QmB (Qb.cons Ua J6 (Qb.cons Qkk Qjh (Qb.cons Qfz QeU (Qb.cons Qry Qp2 (Qb.cons QxW Qwe (Qb.cons QxV Qwd Qb.nil))))))))))
 refine (W127 m).sa hD Tryz.f127 fun svs b K hP=>?_
 obtain⟨ps,o,b',e,hp,hk⟩:=Vy hP
 unfold Qvm at e
 split at e
 rename_i k f s p bad un ps
 cases e
 obtain⟨h01,h02,h03,h04,h05,_⟩:=hp
 refine (W127 m).en (have a0:=sSp s (RS.mk p bad un);have a2:=sSp s (RS.mk ((Qi s a0).2.p) ((Qi s a0).2.bad) ((Qi s a0).2.un||hiB ((Qi s a0).1)));have a3:=sSp s (RS.mk ((Qs s a0).2.p) ((Qs s a0).2.bad) ((Qs s a0).2.un||hiB ((Qs s a0).1)));have a4:=VF (Qo s ps m) s ps true false (RS.mk (a0.p) (a0.bad) true);have a5:=VF (Qo s ps m) s ps true false a0;have a6:=s.length<=1000000;have a7:=sSp s ((VM s a0).2);have a8:Out:=.row (.sels failL);have a9:=([[]]:List (List SelD)).flatten.length<=1000000000000;have a10:=([[]]:List (List SelD)).length<=1000000000;have a12:Option SB:=some (.blk 46 [(.str s),(.nat (a2.p)),(.bool true),(.bool (a2.un||(decide (bat s (a2.p)=44)))),(.bool ps)]);have a13:=a0.p<=s.length+1;have a14:Option SB:=some (.blk 46 [(.str s),(.nat (a4.2.p)),(.bool true),(.bool (a4.2.un)),(.bool ps)]);have a15:Option SB:=some (.blk 46 [(.str s),(.nat (a5.2.p)),(.bool true),(.bool (a5.2.un)),(.bool ps)]);have a16:Option SB:=some (.blk 46 [(.str s),(.nat (a7.p)),(.bool true),(.bool (a7.un)),(.bool ps)]);have a17:Option SB:=some (.blk 46 [(.str s),(.nat (a3.p)),(.bool true),(.bool (a3.un)),(.bool ps)]);have a18:=Qi s (RS.mk (a0.p) (a0.bad) true);have a1:=sSp s (RS.mk (a18.2.p) (a18.2.bad) (a18.2.un||hiB (a18.1)));have a11:Option SB:=some (.blk 46 [(.str s),(.nat (a1.p)),(.bool true),(.bool (a1.un||(decide (bat s (a1.p)=44)))),(.bool ps)]);have a19:=SelD.mk k (0:Int) [] [] (0:Int) (0:Int) (0:Int) (0:Int);have a20:=p<=s.length+1;cond (decide ((0:Int)<=f)) (a6/\a20/\a6/\a13/\a6/\((VM s a0).2.p<=s.length+1)/\(a7.bad=false->a6/\(a7.p<=s.length+1)/\(1<=1000)/\cond (Q3 s [41] (a7.p)) (a10/\a9/\K (.row (.sels (Qj (SelD.mk (6:Int) (0:Int) [] [] ((VM s a0).1.1) ((VM s a0).1.2) f (0:Int)) ([[]]:List (List SelD)).flatten))) (some (.blk 46 [(.str s),(.nat (a7.p+1)),(.bool (a7.bad)),(.bool (a7.un)),(.bool ps)]))) (K a8 a16))/\(a7.bad=true->K a8 a16)) (cond (((decide (k=(18:Int)))||(decide (k=(19:Int))))||(decide (k=(20:Int)))) (a6/\a20/\a6/\a13/\cond (((decide (bat s (a0.p)=62))||(decide (bat s (a0.p)=43)))||(decide (bat s (a0.p)=126))) ((s.length<=100000)/\(a0.p<=s.length)/\(s.length+1<=m+a0.p)/\(m<=200000)/\(a4.2.bad=false->a6/\(a4.2.p<=s.length+1)/\(1<=1000)/\cond (Q3 s [41] (a4.2.p)) ((([a4.1]:List (List SelD)).length<=1000000000)/\(([a4.1]:List (List SelD)).flatten.length<=1000000000000)/\K (.row (.sels (Qj a19 ([a4.1]:List (List SelD)).flatten))) (some (.blk 46 [(.str s),(.nat (a4.2.p+1)),(.bool (a4.2.bad)),(.bool (a4.2.un)),(.bool ps)]))) (K a8 a14))/\(a4.2.bad=true->K a8 a14)) ((s.length<=100000)/\(a0.p<=s.length)/\(s.length+1<=m+a0.p)/\(m<=200000)/\(a5.2.bad=false->a6/\(a5.2.p<=s.length+1)/\(1<=1000)/\cond (Q3 s [41] (a5.2.p)) ((([a5.1]:List (List SelD)).length<=1000000000)/\(([a5.1]:List (List SelD)).flatten.length<=1000000000000)/\K (.row (.sels (Qj a19 ([a5.1]:List (List SelD)).flatten))) (some (.blk 46 [(.str s),(.nat (a5.2.p+1)),(.bool (a5.2.bad)),(.bool (a5.2.un)),(.bool ps)]))) (K a8 a15))/\(a5.2.bad=true->K a8 a15))) (cond (decide (k=(15:Int))) (a6/\a20/\a6/\a13/\cond (((decide (bat s (a0.p)=34))||(decide (bat s (a0.p)=39)))||(decide (bat s (a0.p)=42))) (a6/\a13/\((a18.1).length<=1000000000)/\a6/\(a18.2.p<=s.length+1)/\(a1.un=false->a6/\(a1.p<=s.length+1)/\True)/\(a1.bad=false->a6/\(a1.p<=s.length+1)/\(1<=1000)/\cond (Q3 s [41] (a1.p)) (a10/\a9/\K (.row (.sels (Qj (SelD.mk k (0:Int) [] (low (a18.1)) (0:Int) (0:Int) (0:Int) (0:Int)) ([[]]:List (List SelD)).flatten))) (some (.blk 46 [(.str s),(.nat (a1.p+1)),(.bool (a1.bad)),(.bool (a1.un||(decide (bat s (a1.p)=44)))),(.bool ps)]))) (K a8 a11))/\(a1.bad=true->K a8 a11)) (a6/\a13/\(((Qi s a0).1).length<=1000000000)/\a6/\((Qi s a0).2.p<=s.length+1)/\(a2.un=false->a6/\(a2.p<=s.length+1)/\True)/\(a2.bad=false->a6/\(a2.p<=s.length+1)/\(1<=1000)/\cond (Q3 s [41] (a2.p)) (a10/\a9/\K (.row (.sels (Qj (SelD.mk k (0:Int) [] (low ((Qi s a0).1)) (0:Int) (0:Int) (0:Int) (0:Int)) ([[]]:List (List SelD)).flatten))) (some (.blk 46 [(.str s),(.nat (a2.p+1)),(.bool (a2.bad)),(.bool (a2.un||(decide (bat s (a2.p)=44)))),(.bool ps)]))) (K a8 a12))/\(a2.bad=true->K a8 a12))) (a6/\a20/\a6/\a13/\(((Qs s a0).1).length<=1000000000)/\a6/\((Qs s a0).2.p<=s.length+1)/\(a3.bad=false->a6/\(a3.p<=s.length+1)/\(1<=1000)/\cond (Q3 s [41] (a3.p)) (a10/\a9/\K (.row (.sels (Qj (SelD.mk k (0:Int) [] (low ((Qs s a0).1)) (0:Int) (0:Int) (0:Int) (0:Int)) ([[]]:List (List SelD)).flatten))) (some (.blk 46 [(.str s),(.nat (a3.p+1)),(.bool (a3.bad)),(.bool (a3.un)),(.bool ps)]))) (K a8 a17))/\(a3.bad=true->K a8 a17))))) ?_
 refine Qa ?_ ?_<;>intro h1<;>try simp[-za]at h1
 refine Vq (Vq (Vq (Vq (Vq (Vq ?_)))))
 refine⟨fun h2=>?_,fun h2=>?_⟩
 try simp[-za]at h2
 refine Vq (Vq (Vq ?_))
 refine Qa ?_ ?_<;>intro h3<;>try simp[-za]at h3
 refine Vq (Vq ?_)
 refine V9 hk ?_
 unfold V2
 simp only
 rw[if_pos h1]
 split
 rename_i hb;exact z7 (h2.symm.trans hb)
 refine Eq.trans (Qag ?_) ?_
 exact QaJ h3
 first | rfl | (simp[RS.go,VP];done) | simp[RS.go,RS.no,RS.unI,VP]
 refine V9 hk ?_
 unfold V2
 simp only
 rw[if_pos h1]
 split
 rename_i hb;exact z7 (h2.symm.trans hb)
 refine Eq.trans (Qah ?_) ?_
 exact QoW h3
 first | rfl | (simp[RS.go,VP];done) | simp[RS.go,RS.no,RS.unI,VP]
 try simp[-za]at h2
 refine V9 hk ?_
 unfold V2
 simp only
 rw[if_pos h1]
 split
 first | rfl | (simp[RS.no,RS.unI];done)
 rename_i hb;exact absurd h2 hb
 refine Qa (fun h2=>?_) (fun h2=>?_)
 try simp[-za]at h2
 refine Vq (Vq (Vq (Vq ?_)))
 refine Qa ?_ ?_<;>intro h3<;>try simp[-za]at h3
 refine Vq (Vq (Vq (Vq ?_)))
 refine⟨fun h4=>?_,fun h4=>?_⟩
 try simp[-za]at h4
 refine Vq (Vq (Vq ?_))
 refine Qa ?_ ?_<;>intro h5<;>try simp[-za]at h5
 refine Vq (Vq ?_)
 have e0:(sSp s ⟨p,bad,un⟩).unI (decide (bat s (sSp s ⟨p,bad,un⟩).p=62)||decide (bat s (sSp s ⟨p,bad,un⟩).p=43)||decide (bat s (sSp s ⟨p,bad,un⟩).p=126))=(RS.mk (sSp s ⟨p,bad,un⟩).p (sSp s ⟨p,bad,un⟩).bad true):=by
  rw[show (decide (bat s (sSp s ⟨p,bad,un⟩).p=62)||decide (bat s (sSp s ⟨p,bad,un⟩).p=43)||decide (bat s (sSp s ⟨p,bad,un⟩).p=126))=true from by simp;omega]
  simp[RS.unI]
 refine V9 hk ?_
 unfold V2
 simp only
 rw[if_neg (by omega),if_pos (by omega),show Qo s ps (m+1)=VF (Qo s ps m) s ps true false from rfl,e0]
 split
 rename_i hb;exact z7 (h4.symm.trans hb)
 refine Eq.trans (Qag ?_) ?_
 exact QaJ h5
 first | rfl | (simp[RS.go,VP];done) | simp[RS.go,RS.no,RS.unI,VP]
 have e0:(sSp s ⟨p,bad,un⟩).unI (decide (bat s (sSp s ⟨p,bad,un⟩).p=62)||decide (bat s (sSp s ⟨p,bad,un⟩).p=43)||decide (bat s (sSp s ⟨p,bad,un⟩).p=126))=(RS.mk (sSp s ⟨p,bad,un⟩).p (sSp s ⟨p,bad,un⟩).bad true):=by
  rw[show (decide (bat s (sSp s ⟨p,bad,un⟩).p=62)||decide (bat s (sSp s ⟨p,bad,un⟩).p=43)||decide (bat s (sSp s ⟨p,bad,un⟩).p=126))=true from by simp;omega]
  simp[RS.unI]
 refine V9 hk ?_
 unfold V2
 simp only
 rw[if_neg (by omega),if_pos (by omega),show Qo s ps (m+1)=VF (Qo s ps m) s ps true false from rfl,e0]
 split
 rename_i hb;exact z7 (h4.symm.trans hb)
 refine Eq.trans (Qah ?_) ?_
 exact QoW h5
 first | rfl | (simp[RS.go,VP];done) | simp[RS.go,RS.no,RS.unI,VP]
 try simp[-za]at h4
 have e0:(sSp s ⟨p,bad,un⟩).unI (decide (bat s (sSp s ⟨p,bad,un⟩).p=62)||decide (bat s (sSp s ⟨p,bad,un⟩).p=43)||decide (bat s (sSp s ⟨p,bad,un⟩).p=126))=(RS.mk (sSp s ⟨p,bad,un⟩).p (sSp s ⟨p,bad,un⟩).bad true):=by
  rw[show (decide (bat s (sSp s ⟨p,bad,un⟩).p=62)||decide (bat s (sSp s ⟨p,bad,un⟩).p=43)||decide (bat s (sSp s ⟨p,bad,un⟩).p=126))=true from by simp;omega]
  simp[RS.unI]
 refine V9 hk ?_
 unfold V2
 simp only
 rw[if_neg (by omega),if_pos (by omega),show Qo s ps (m+1)=VF (Qo s ps m) s ps true false from rfl,e0]
 split
 first | rfl | (simp[RS.no,RS.unI];done)
 rename_i hb;exact absurd h4 hb
 refine Vq (Vq (Vq (Vq ?_)))
 refine⟨fun h4=>?_,fun h4=>?_⟩
 try simp[-za]at h4
 refine Vq (Vq (Vq ?_))
 refine Qa ?_ ?_<;>intro h5<;>try simp[-za]at h5
 refine Vq (Vq ?_)
 have e0:(sSp s ⟨p,bad,un⟩).unI (decide (bat s (sSp s ⟨p,bad,un⟩).p=62)||decide (bat s (sSp s ⟨p,bad,un⟩).p=43)||decide (bat s (sSp s ⟨p,bad,un⟩).p=126))=(sSp s ⟨p,bad,un⟩):=by
  rw[show (decide (bat s (sSp s ⟨p,bad,un⟩).p=62)||decide (bat s (sSp s ⟨p,bad,un⟩).p=43)||decide (bat s (sSp s ⟨p,bad,un⟩).p=126))=false from by simp;omega]
  simp[RS.unI]
 refine V9 hk ?_
 unfold V2
 simp only
 rw[if_neg (by omega),if_pos (by omega),show Qo s ps (m+1)=VF (Qo s ps m) s ps true false from rfl,e0]
 split
 rename_i hb;exact z7 (h4.symm.trans hb)
 refine Eq.trans (Qag ?_) ?_
 exact QaJ h5
 first | rfl | (simp[RS.go,VP];done) | simp[RS.go,RS.no,RS.unI,VP]
 have e0:(sSp s ⟨p,bad,un⟩).unI (decide (bat s (sSp s ⟨p,bad,un⟩).p=62)||decide (bat s (sSp s ⟨p,bad,un⟩).p=43)||decide (bat s (sSp s ⟨p,bad,un⟩).p=126))=(sSp s ⟨p,bad,un⟩):=by
  rw[show (decide (bat s (sSp s ⟨p,bad,un⟩).p=62)||decide (bat s (sSp s ⟨p,bad,un⟩).p=43)||decide (bat s (sSp s ⟨p,bad,un⟩).p=126))=false from by simp;omega]
  simp[RS.unI]
 refine V9 hk ?_
 unfold V2
 simp only
 rw[if_neg (by omega),if_pos (by omega),show Qo s ps (m+1)=VF (Qo s ps m) s ps true false from rfl,e0]
 split
 rename_i hb;exact z7 (h4.symm.trans hb)
 refine Eq.trans (Qah ?_) ?_
 exact QoW h5
 first | rfl | (simp[RS.go,VP];done) | simp[RS.go,RS.no,RS.unI,VP]
 try simp[-za]at h4
 have e0:(sSp s ⟨p,bad,un⟩).unI (decide (bat s (sSp s ⟨p,bad,un⟩).p=62)||decide (bat s (sSp s ⟨p,bad,un⟩).p=43)||decide (bat s (sSp s ⟨p,bad,un⟩).p=126))=(sSp s ⟨p,bad,un⟩):=by
  rw[show (decide (bat s (sSp s ⟨p,bad,un⟩).p=62)||decide (bat s (sSp s ⟨p,bad,un⟩).p=43)||decide (bat s (sSp s ⟨p,bad,un⟩).p=126))=false from by simp;omega]
  simp[RS.unI]
 refine V9 hk ?_
 unfold V2
 simp only
 rw[if_neg (by omega),if_pos (by omega),show Qo s ps (m+1)=VF (Qo s ps m) s ps true false from rfl,e0]
 split
 first | rfl | (simp[RS.no,RS.unI];done)
 rename_i hb;exact absurd h4 hb
 try simp[-za]at h2
 refine Qa ?_ ?_<;>intro h3<;>try simp[-za]at h3
 refine Vq (Vq (Vq (Vq ?_)))
 refine Qa ?_ ?_<;>intro h4<;>try simp[-za]at h4
 refine Vq (Vq (Vq (Vq (Vq (kmz1 ?_)))))
 refine⟨fun h5=>?_,fun h5=>?_⟩
 try simp[-za]at h5
 refine Vq (Vq (Vq ?_))
 refine Qa ?_ ?_<;>intro h6<;>try simp[-za]at h6
 refine Vq (Vq ?_)
 have e0:(sSp s ⟨p,bad,un⟩).unI (isQ (bat s (sSp s ⟨p,bad,un⟩).p)||decide (bat s (sSp s ⟨p,bad,un⟩).p=42))=(RS.mk (sSp s ⟨p,bad,un⟩).p (sSp s ⟨p,bad,un⟩).bad true):=by
  rw[show (isQ (bat s (sSp s ⟨p,bad,un⟩).p)||decide (bat s (sSp s ⟨p,bad,un⟩).p=42))=true from by simp[isQ];omega]
  simp[RS.unI]
 refine V9 hk ?_
 unfold V2
 simp only
 rw[if_neg (by omega),if_neg (by omega),if_pos (by omega),e0]
 split
 rename_i hb;exact z7 (h5.symm.trans hb)
 refine Eq.trans (Qag ?_) ?_
 exact QaJ h6
 first | rfl | (rw[h3];rfl) | (simp[RS.go,VP];done) | simp[RS.go,RS.no,RS.unI,VP]
 have e0:(sSp s ⟨p,bad,un⟩).unI (isQ (bat s (sSp s ⟨p,bad,un⟩).p)||decide (bat s (sSp s ⟨p,bad,un⟩).p=42))=(RS.mk (sSp s ⟨p,bad,un⟩).p (sSp s ⟨p,bad,un⟩).bad true):=by
  rw[show (isQ (bat s (sSp s ⟨p,bad,un⟩).p)||decide (bat s (sSp s ⟨p,bad,un⟩).p=42))=true from by simp[isQ];omega]
  simp[RS.unI]
 refine V9 hk ?_
 unfold V2
 simp only
 rw[if_neg (by omega),if_neg (by omega),if_pos (by omega),e0]
 split
 rename_i hb;exact z7 (h5.symm.trans hb)
 refine Eq.trans (Qah ?_) ?_
 exact QoW h6
 first | rfl | (simp[RS.go,VP];done) | simp[RS.go,RS.no,RS.unI,VP]
 try simp[-za]at h5
 have e0:(sSp s ⟨p,bad,un⟩).unI (isQ (bat s (sSp s ⟨p,bad,un⟩).p)||decide (bat s (sSp s ⟨p,bad,un⟩).p=42))=(RS.mk (sSp s ⟨p,bad,un⟩).p (sSp s ⟨p,bad,un⟩).bad true):=by
  rw[show (isQ (bat s (sSp s ⟨p,bad,un⟩).p)||decide (bat s (sSp s ⟨p,bad,un⟩).p=42))=true from by simp[isQ];omega]
  simp[RS.unI]
 refine V9 hk ?_
 unfold V2
 simp only
 rw[if_neg (by omega),if_neg (by omega),if_pos (by omega),e0]
 split
 first | rfl | (simp[RS.no,RS.unI];done)
 rename_i hb;exact absurd h5 hb
 refine Vq (Vq (Vq (Vq (Vq (kmz1 ?_)))))
 refine⟨fun h5=>?_,fun h5=>?_⟩
 try simp[-za]at h5
 refine Vq (Vq (Vq ?_))
 refine Qa ?_ ?_<;>intro h6<;>try simp[-za]at h6
 refine Vq (Vq ?_)
 have e0:(sSp s ⟨p,bad,un⟩).unI (isQ (bat s (sSp s ⟨p,bad,un⟩).p)||decide (bat s (sSp s ⟨p,bad,un⟩).p=42))=(sSp s ⟨p,bad,un⟩):=by
  rw[show (isQ (bat s (sSp s ⟨p,bad,un⟩).p)||decide (bat s (sSp s ⟨p,bad,un⟩).p=42))=false from by simp[isQ];omega]
  simp[RS.unI]
 refine V9 hk ?_
 unfold V2
 simp only
 rw[if_neg (by omega),if_neg (by omega),if_pos (by omega),e0]
 split
 rename_i hb;exact z7 (h5.symm.trans hb)
 refine Eq.trans (Qag ?_) ?_
 exact QaJ h6
 first | rfl | (rw[h3];rfl) | (simp[RS.go,VP];done) | simp[RS.go,RS.no,RS.unI,VP]
 have e0:(sSp s ⟨p,bad,un⟩).unI (isQ (bat s (sSp s ⟨p,bad,un⟩).p)||decide (bat s (sSp s ⟨p,bad,un⟩).p=42))=(sSp s ⟨p,bad,un⟩):=by
  rw[show (isQ (bat s (sSp s ⟨p,bad,un⟩).p)||decide (bat s (sSp s ⟨p,bad,un⟩).p=42))=false from by simp[isQ];omega]
  simp[RS.unI]
 refine V9 hk ?_
 unfold V2
 simp only
 rw[if_neg (by omega),if_neg (by omega),if_pos (by omega),e0]
 split
 rename_i hb;exact z7 (h5.symm.trans hb)
 refine Eq.trans (Qah ?_) ?_
 exact QoW h6
 first | rfl | (simp[RS.go,VP];done) | simp[RS.go,RS.no,RS.unI,VP]
 try simp[-za]at h5
 have e0:(sSp s ⟨p,bad,un⟩).unI (isQ (bat s (sSp s ⟨p,bad,un⟩).p)||decide (bat s (sSp s ⟨p,bad,un⟩).p=42))=(sSp s ⟨p,bad,un⟩):=by
  rw[show (isQ (bat s (sSp s ⟨p,bad,un⟩).p)||decide (bat s (sSp s ⟨p,bad,un⟩).p=42))=false from by simp[isQ];omega]
  simp[RS.unI]
 refine V9 hk ?_
 unfold V2
 simp only
 rw[if_neg (by omega),if_neg (by omega),if_pos (by omega),e0]
 split
 first | rfl | (simp[RS.no,RS.unI];done)
 rename_i hb;exact absurd h5 hb
 refine Vq (Vq (Vq (Vq (Vq (Vq (Vq ?_))))))
 refine⟨fun h4=>?_,fun h4=>?_⟩
 try simp[-za]at h4
 refine Vq (Vq (Vq ?_))
 refine Qa ?_ ?_<;>intro h5<;>try simp[-za]at h5
 refine Vq (Vq ?_)
 refine V9 hk ?_
 unfold V2
 simp only
 rw[if_neg (by omega),if_neg (by omega),if_neg (by omega)]
 split
 rename_i hb;exact z7 (h4.symm.trans hb)
 refine Eq.trans (Qag ?_) ?_
 exact QaJ h5
 first | rfl | (simp[RS.go,VP];done) | simp[RS.go,RS.no,RS.unI,VP]
 refine V9 hk ?_
 unfold V2
 simp only
 rw[if_neg (by omega),if_neg (by omega),if_neg (by omega)]
 split
 rename_i hb;exact z7 (h4.symm.trans hb)
 refine Eq.trans (Qah ?_) ?_
 exact QoW h5
 first | rfl | (simp[RS.go,VP];done) | simp[RS.go,RS.no,RS.unI,VP]
 try simp[-za]at h4
 refine V9 hk ?_
 unfold V2
 simp only
 rw[if_neg (by omega),if_neg (by omega),if_neg (by omega)]
 split
 first | rfl | (simp[RS.no,RS.unI];done)
 rename_i hb;exact absurd h4 hb
 cases e
def c127 (m:Nat) (svs:List SV) (b:Option SB):FR:=match svs,b with
 | [.ptr 0 0,x,y],some (.blk 46 [.str s,.nat p,.bool bad,.bool un,.bool ps])=>match toI x,toI y with
  | some k,some f=>some ([s.length<=100000,p<=s.length,s.length+1<=m+p,m<=200000,k<=20],.row (.sels (V2 (Qo s ps (m+1)) s k f ⟨p,bad,un⟩).1),some (.blk 46 [.str s,.nat (V2 (Qo s ps (m+1)) s k f ⟨p,bad,un⟩).2.p,.bool (V2 (Qo s ps (m+1)) s k f ⟨p,bad,un⟩).2.bad,.bool (V2 (Qo s ps (m+1)) s k f ⟨p,bad,un⟩).2.un,.bool ps]))
  | _,_=>none
 | _,_=>none
theorem Qwn (m:Nat) (hG:Sat 23 (fnS (c23 m))):Sat 127 (fnS (c127 m)):=by
 refine Sat.wk (QsU m hG) fun svs b K h=>?_
 obtain⟨ps,o,b',e,hp,hk⟩:=Vy h
 unfold c127 at e
 split at e
 rename_i x y s p bad un ps
 split at e
 rename_i k f hx hy
 cases e
 exact⟨[.ptr 0 0,.int .i64 k,.int .i64 f],⟨fun ω v hr=>hr,fun ω v=>YA hx,fun ω v=>YA hy,trivial⟩,hp.1,hp.2.1,hp.2.2.1,hp.2.2.2.1,hp.2.2.2.2.1,hk⟩
 cases e
 cases e
def c111 (svs:List SV) (b:Option SB):FR:=match svs,b with
 | [.ptr 0 0],some (.blk 46 [.str s,.nat p,.bool bad,.bool un,.bool ps])=>some ([s.length<=1000000,p<=s.length+1],.val (.str (Ju s ⟨p,bad,un⟩).1),
  some (.blk 46 [.str s,.nat (Ju s ⟨p,bad,un⟩).2.p,.bool (Ju s ⟨p,bad,un⟩).2.bad,.bool (Ju s ⟨p,bad,un⟩).2.un,.bool ps]))
 | _,_=>none
noncomputable def W111:Wk:=⟨[(66,.pure c66),(77,.pure c77),(96,.fn c96)],Qh Tryz.f111,true,false,[.tmp 2],[9],[],[]⟩
theorem Qyh:Has 111:=hsf Tryz.f111
theorem kmz3 {c0 p0 p1 q:Prop} (k:q) (h:c0->p0/\p1/\True:=by intro g0;(try simp at g0);exact⟨(by first | omega | (simp;done) | (have:=u1.2;omega)),(by first | omega | (simp;done) | (have:=u1.2;omega)),trivial⟩):(c0->p0/\p1/\True)/\q:=⟨h,k⟩
theorem kmz2 {p q:Prop} (k:q) (h:p:=by first | omega | (simp;done) | (have:=u1.2;omega)):p/\q:=⟨h,k⟩
theorem Qwz:Sat 111 (fnS c111):=by
 have hD:Qb W111.D:=(Qb.cons Ua J6 (Qb.cons QfA QeV (Qb.cons Qfz QeU Qb.nil)))
 refine W111.sa hD Tryz.f111 fun svs b K hP=>?_
 obtain⟨ps,o,b',e,hp,hk⟩:=Vy hP
 unfold c111 at e
 split at e
 rename_i s p bad un ps
 cases e
 obtain⟨h01,h02,_⟩:=hp
 have u1:=Q9 s ⟨p,bad,un⟩ h02
 have n1:=YB s ⟨p,bad,un⟩ h02
 refine W111.en (have a0:=Qi s (RS.mk p bad un);have a1:Option SB:=some (.blk 46 [(.str s),(.nat (a0.2.p)),(.bool (a0.2.bad)),(.bool (a0.2.un||(decide (bat s (a0.2.p)=40)))),(.bool ps)]);have a2:=a0.2.un=false->(s.length<=1000000)/\(a0.2.p<=s.length+1)/\True;have a3:Out:=.val (.str (low (a0.1)));(s.length<=1000000)/\(p<=s.length+1)/\((a0.1).length<=1000000000)/\cond (decide (low (a0.1)=[98,101,102,111,114,101])) (a2/\K a3 a1) (cond (decide (low (a0.1)=[97,102,116,101,114])) (a2/\K a3 a1) (cond (decide (low (a0.1)=[102,105,114,115,116,45,108,105,110,101])) (a2/\K a3 a1) (cond (decide (low (a0.1)=[102,105,114,115,116,45,108,101,116,116,101,114])) (a2/\K a3 a1) ((true=false->(s.length<=1000000)/\(a0.2.p<=s.length+1)/\True)/\K a3 (some (.blk 46 [(.str s),(.nat (a0.2.p)),(.bool (a0.2.bad)),(.bool true),(.bool ps)]))))))) ?_
 refine kmz2 (kmz2 (kmz2 ?_))
 refine Qa ?_ ?_<;>intro h1<;>try simp[-za]at h1
 refine kmz3 ?_
 refine kst hk ?_
 unfold Ju Y2
 simp_all [RS.unI,zZ]
 refine Qa (fun h2=>?_) (fun h2=>?_)
 try simp[-za]at h2
 refine kmz3 ?_
 refine kst hk ?_
 unfold Ju Y2
 simp_all [RS.unI,zZ]
 try simp[-za]at h2
 refine Qa ?_ ?_<;>intro h3<;>try simp[-za]at h3
 refine kmz3 ?_
 refine kst hk ?_
 unfold Ju Y2
 simp_all [RS.unI,zZ]
 refine Qa (fun h4=>?_) (fun h4=>?_)
 try simp[-za]at h4
 refine kmz3 ?_
 refine kst hk ?_
 unfold Ju Y2
 simp_all [RS.unI,zZ]
 try simp[-za]at h4
 refine⟨fun g0=>(by cases g0),?_⟩
 refine kst hk ?_
 unfold Ju Y2
 simp_all [RS.unI,zZ]
 cases e
end
section
open Go Go.RowKit
set_option maxRecDepth 20000
def c112 (m:Nat) (svs:List SV) (b:Option SB):FR:=match svs,b with
 | [.ptr 0 0],some (.blk 46 [.str s,.nat p,.bool bad,.bool un,.bool ps])=>some ([s.length<=100000,p<=s.length+1,s.length<=m+p,m<=200000],.row (.sels (Q5 (Qo s ps (m+1)) s ⟨p,bad,un⟩).1),some (.blk 46 [.str s,.nat (Q5 (Qo s ps (m+1)) s ⟨p,bad,un⟩).2.p,.bool (Q5 (Qo s ps (m+1)) s ⟨p,bad,un⟩).2.bad,.bool (Q5 (Qo s ps (m+1)) s ⟨p,bad,un⟩).2.un,.bool ps]))
 | _,_=>none
noncomputable def Qec (m:Nat):Wk:=⟨[(29,.fn c29),(43,.plain c43),(66,.pure c66),(68,.fn c68),(77,.pure c77),(96,.fn c96),(124,.plain c124),(125,.pure c125),(126,.pure c126),(127,.fn (c127 m))],Qh Tryz.f112,true,true,[.tmp 2],[22],[(28,193)],[28]⟩
theorem Qyg:Has 112:=hsf Tryz.f112
theorem Qb7 {p q:Prop} (k:q) (h:p:=by first | omega | (simp;done) | (have:=u1.2;omega) | exact u1.2 | (have:=QV (h40t h2) (by decide);omega)):p/\q:=⟨h,k⟩
theorem Qwy (m:Nat) (hG:Sat 23 (fnS (c23 m))):Sat 112 (fnS (c112 m)):=by
 have hD:Qb (Qec m).D:=(Qb.cons QcV Qcv (Qb.cons QcU Qcu (Qb.cons Ua J6 (Qb.cons Qkk Qjh (Qb.cons QfA QeV (Qb.cons Qfz QeU (Qb.cons Qx8 Qwq (Qb.cons Qx7 Qwp (Qb.cons Qx6 Qwo (Qb.cons Qx5 (Qwn m hG) Qb.nil))))))))))
 refine (Qec m).sa hD Tryz.f112 fun svs b K hP=>?_
 obtain⟨ps,o,b',e,hp,hk⟩:=Vy hP
 unfold c112 at e
 split at e
 rename_i s p bad un ps
 cases e
 obtain⟨h01,h02,h03,h04,_⟩:=hp
 have u1:=Q9 s ⟨p,bad,un⟩ h02
 have n1:=YB s ⟨p,bad,un⟩ h02
 have L28:∀(mm:Nat) (kk fl:Int) (t:RS),0=mm->(Up s ⟨p,bad,un⟩ t/\kk<=20/\Q5 (Qo s ps (m+1)) s ⟨p,bad,un⟩=if (fl<0/\kk=0)\/bat s t.p≠40 then (failL,t.no) else V2 (Qo s ps (m+1)) s kk fl (t.go (t.p+1)))->(Qec m).C K 28 (mkS 72 [(0,(.ptr 0 0)),(6,(.int .i64 fl)),(7,(.int .i64 kk))] [(0,.blk 46 [(.str s),(.nat t.p),(.bool t.bad),(.bool t.un),(.bool ps)])] 1):=by
  intro mm
  induction mm using zi with
  | _ mm ih=>
   intro kk fl t hm hI
   obtain⟨k1,k2,k3⟩:=hI
   have k4:p<=t.p:=k1.1
   have k5:t.p<=s.length+1:=k1.2
   refine (Qec m).aC hD (have a0:=V2 (Qo s ps (m+1)) s kk fl (RS.mk (t.p+1) t.bad t.un);have a1:Option SB:=some (.blk 46 [(.str s),(.nat t.p),(.bool true),(.bool t.un),(.bool ps)]);have a2:=(decide (fl<(0:Int)))&&(decide (kk=(0:Int)));(a2=false->(s.length<=1000000)/\(t.p<=s.length+1)/\(1<=1000)/\cond (Q3 s [40] t.p) ((s.length<=100000)/\(t.p+1<=s.length)/\(s.length+1<=m+t.p+1)/\(m<=200000)/\(kk<=20)/\K (.row (.sels (a0.1))) (some (.blk 46 [(.str s),(.nat (a0.2.p)),(.bool (a0.2.bad)),(.bool (a0.2.un)),(.bool ps)]))) (K (.row (.sels failL)) a1))/\(a2=true->K (.row (.sels failL)) a1)) ?_
   refine⟨fun h1=>?_,fun h1=>?_⟩
   try simp[-za]at h1
   refine Qb7 (Qb7 (Qb7 ?_))
   refine Qa ?_ ?_<;>intro h2<;>try simp[-za]at h2
   refine Qb7 (Qb7 (Qb7 (Qb7 (Qb7 ?_))))
   exact V9 hk ((k3.trans (if_neg (fun h=>h.elim (fun a=>h1 a.1 a.2) (fun a=>a (h40t h2))))).trans rfl)
   exact V9 hk ((k3.trans (if_pos (.inr (h40f h2)))).trans rfl)
   try simp[-za]at h1
   exact V9 hk ((k3.trans (if_pos (.inl h1))).trans rfl)
 refine (Qec m).en (have a0:=Qi s (RS.mk p bad un);have a1:SV:=.int .i64 (QJ (low (a0.1)));have a2:SV:=.nat (a0.2.p);have a3:SV:=.bool (a0.2.un);have a4:SV:=.bool (a0.2.bad);have a5:Option SB:=some (.blk 46 [(.str s),a2,(.bool true),(.bool true),(.bool ps)]);(s.length<=1000000)/\(p<=s.length+1)/\((a0.1).length<=1000000000)/\cond a0.2.bad (K (.row (.sels failL)) (some (.blk 46 [(.str s),a2,(.bool true),a3,(.bool ps)]))) (Qu (Yt (low (a0.1))) (fun x1=>(s.length<=1000000)/\(a0.2.p<=s.length+1)/\cond (decide (bat s (a0.2.p)=40)) (K (.row (.sels failL)) a5) ((([]:List (List SelD)).length<=1000000000)/\(([]:List (List SelD)).flatten.length<=1000000000000)/\K (.row (.sels (Qj (SelD.mk x1.kind x1.op x1.key x1.val x1.a x1.b x1.flag x1.size) ([]:List (List SelD)).flatten))) (some (.blk 46 [(.str s),a2,a4,a3,(.bool ps)])))) (cond (decide ((low (a0.1))∈VH)) (K (.row (.sels failL)) a5) (cond (decide (low (a0.1)=[110,111,116])) ((Qec m).C K 28 (mkS 72 [(0,(.ptr 0 0)),(6,a1),(7,(.nat 18))] [(1,.blk 33 [(.int .i64 0),(.int .i64 0),(.str []),(.str []),(.int .i64 0),(.int .i64 0),(.int .i64 0),(.int .i64 0)]),(0,.blk 46 [(.str s),a2,a4,a3,(.bool ps)])] 2)) (cond (decide (low (a0.1)=[104,97,115])) ((Qec m).C K 28 (mkS 72 [(0,(.ptr 0 0)),(6,a1),(7,(.nat 19))] [(1,.blk 33 [(.int .i64 0),(.int .i64 0),(.str []),(.str []),(.int .i64 0),(.int .i64 0),(.int .i64 0),(.int .i64 0)]),(0,.blk 46 [(.str s),a2,a4,a3,(.bool ps)])] 2)) (cond (decide (low (a0.1)=[104,97,115,99,104,105,108,100])) ((Qec m).C K 28 (mkS 72 [(0,(.ptr 0 0)),(6,a1),(7,(.nat 20))] [(1,.blk 33 [(.int .i64 0),(.int .i64 0),(.str []),(.str []),(.int .i64 0),(.int .i64 0),(.int .i64 0),(.int .i64 0)]),(0,.blk 46 [(.str s),a2,a4,a3,(.bool ps)])] 2)) (cond (decide (low (a0.1)=[99,111,110,116,97,105,110,115])) ((Qec m).C K 28 (mkS 72 [(0,(.ptr 0 0)),(6,a1),(7,(.nat 16))] [(1,.blk 33 [(.int .i64 0),(.int .i64 0),(.str []),(.str []),(.int .i64 0),(.int .i64 0),(.int .i64 0),(.int .i64 0)]),(0,.blk 46 [(.str s),a2,a4,a3,(.bool ps)])] 2)) (cond (decide (low (a0.1)=[99,111,110,116,97,105,110,115,111,119,110])) ((Qec m).C K 28 (mkS 72 [(0,(.ptr 0 0)),(6,a1),(7,(.nat 17))] [(1,.blk 33 [(.int .i64 0),(.int .i64 0),(.str []),(.str []),(.int .i64 0),(.int .i64 0),(.int .i64 0),(.int .i64 0)]),(0,.blk 46 [(.str s),a2,a4,a3,(.bool ps)])] 2)) (cond (decide (low (a0.1)=[108,97,110,103])) ((Qec m).C K 28 (mkS 72 [(0,(.ptr 0 0)),(6,a1),(7,(.nat 15))] [(1,.blk 33 [(.int .i64 0),(.int .i64 0),(.str []),(.str []),(.int .i64 0),(.int .i64 0),(.int .i64 0),(.int .i64 0)]),(0,.blk 46 [(.str s),a2,a4,a3,(.bool ps)])] 2)) ((Qec m).C K 28 (mkS 72 [(0,(.ptr 0 0)),(6,a1),(7,(.nat 0))] [(1,.blk 33 [(.int .i64 0),(.int .i64 0),(.str []),(.str []),(.int .i64 0),(.int .i64 0),(.int .i64 0),(.int .i64 0)]),(0,.blk 46 [(.str s),a2,a4,a3,(.bool ps)])] 2))))))))))) ?_
 refine Qb7 (Qb7 (Qb7 ?_))
 refine Qa ?_ ?_<;>intro h1<;>try simp[-za]at h1
 refine V9 hk ?_
 unfold Q5
 simp only
 rw[if_pos h1]
 rfl
 refine QN (fun x1 h2=>?_) (fun h2=>?_)
 refine Qb7 (Qb7 ?_)
 refine Qa ?_ ?_<;>intro h3<;>try simp[-za]at h3
 refine V9 hk ?_
 unfold Q5
 simp only
 rw[if_neg (by rw[h1];simp),h2]
 simp only
 rw[if_pos h3]
 simp[RS.unI,RS.no]
 refine Qb7 (Qb7 ?_)
 refine V9 hk ?_
 unfold Q5
 simp only
 rw[if_neg (by rw[h1];simp),h2]
 simp only
 rw[if_neg h3]
 rfl
 refine Qa ?_ ?_<;>intro h3<;>try simp[-za]at h3
 refine V9 hk ?_
 unfold Q5
 simp only
 rw[if_neg (by rw[h1];simp),h2]
 simp only
 rw[if_pos h3]
 simp[RS.unI,RS.no]
 refine Qa (fun h4=>?_) (fun h4=>?_)
 try simp[-za]at h4
 have e:Q5 (Qo s ps (m+1)) s ⟨p,bad,un⟩=if (QJ (low (Qi s ⟨p,bad,un⟩).1)<0/\VW (low (Qi s ⟨p,bad,un⟩).1)=0)\/bat s (Qi s ⟨p,bad,un⟩).2.p≠40 then (failL,(Qi s ⟨p,bad,un⟩).2.no) else V2 (Qo s ps (m+1)) s (VW (low (Qi s ⟨p,bad,un⟩).1)) (QJ (low (Qi s ⟨p,bad,un⟩).1)) ((Qi s ⟨p,bad,un⟩).2.go ((Qi s ⟨p,bad,un⟩).2.p+1)):=by
  unfold Q5
  simp only
  rw[if_neg (by rw[h1];simp),h2]
  simp only
  rw[if_neg h3]
 have ek:VW (low (Qi s ⟨p,bad,un⟩).1)=18:=by unfold VW Zy Zz nHasChild VJ Q8 ZY;rw[if_pos h4]
 rw[ek]at e
 exact Wk.C.rn [0] (L28 _ 18 (QJ (low (Qi s ⟨p,bad,un⟩).1)) (Qi s ⟨p,bad,un⟩).2 rfl ⟨u1,by omega,e⟩)
 try simp[-za]at h4
 refine Qa ?_ ?_<;>intro h5<;>try simp[-za]at h5
 . have e:Q5 (Qo s ps (m+1)) s ⟨p,bad,un⟩=if (QJ (low (Qi s ⟨p,bad,un⟩).1)<0/\VW (low (Qi s ⟨p,bad,un⟩).1)=0)\/bat s (Qi s ⟨p,bad,un⟩).2.p≠40 then (failL,(Qi s ⟨p,bad,un⟩).2.no) else V2 (Qo s ps (m+1)) s (VW (low (Qi s ⟨p,bad,un⟩).1)) (QJ (low (Qi s ⟨p,bad,un⟩).1)) ((Qi s ⟨p,bad,un⟩).2.go ((Qi s ⟨p,bad,un⟩).2.p+1)):=by
    unfold Q5
    simp only
    rw[if_neg (by rw[h1];simp),h2]
    simp only
    rw[if_neg h3]
   have ek:VW (low (Qi s ⟨p,bad,un⟩).1)=19:=by unfold VW Zy Zz nHasChild VJ Q8 ZY;rw[if_neg h4,if_pos h5]
   rw[ek]at e
   exact Wk.C.rn [0] (L28 _ 19 (QJ (low (Qi s ⟨p,bad,un⟩).1)) (Qi s ⟨p,bad,un⟩).2 rfl ⟨u1,by omega,e⟩)
 refine Qa (fun h6=>?_) (fun h6=>?_)
 try simp[-za]at h6
 have e:Q5 (Qo s ps (m+1)) s ⟨p,bad,un⟩=if (QJ (low (Qi s ⟨p,bad,un⟩).1)<0/\VW (low (Qi s ⟨p,bad,un⟩).1)=0)\/bat s (Qi s ⟨p,bad,un⟩).2.p≠40 then (failL,(Qi s ⟨p,bad,un⟩).2.no) else V2 (Qo s ps (m+1)) s (VW (low (Qi s ⟨p,bad,un⟩).1)) (QJ (low (Qi s ⟨p,bad,un⟩).1)) ((Qi s ⟨p,bad,un⟩).2.go ((Qi s ⟨p,bad,un⟩).2.p+1)):=by
  unfold Q5
  simp only
  rw[if_neg (by rw[h1];simp),h2]
  simp only
  rw[if_neg h3]
 have ek:VW (low (Qi s ⟨p,bad,un⟩).1)=20:=by unfold VW Zy Zz nHasChild VJ Q8 ZY;rw[if_neg h4,if_neg h5,if_pos h6]
 rw[ek]at e
 exact Wk.C.rn [0] (L28 _ 20 (QJ (low (Qi s ⟨p,bad,un⟩).1)) (Qi s ⟨p,bad,un⟩).2 rfl ⟨u1,by omega,e⟩)
 try simp[-za]at h6
 refine Qa ?_ ?_<;>intro h7<;>try simp[-za]at h7
 . have e:Q5 (Qo s ps (m+1)) s ⟨p,bad,un⟩=if (QJ (low (Qi s ⟨p,bad,un⟩).1)<0/\VW (low (Qi s ⟨p,bad,un⟩).1)=0)\/bat s (Qi s ⟨p,bad,un⟩).2.p≠40 then (failL,(Qi s ⟨p,bad,un⟩).2.no) else V2 (Qo s ps (m+1)) s (VW (low (Qi s ⟨p,bad,un⟩).1)) (QJ (low (Qi s ⟨p,bad,un⟩).1)) ((Qi s ⟨p,bad,un⟩).2.go ((Qi s ⟨p,bad,un⟩).2.p+1)):=by
    unfold Q5
    simp only
    rw[if_neg (by rw[h1];simp),h2]
    simp only
    rw[if_neg h3]
   have ek:VW (low (Qi s ⟨p,bad,un⟩).1)=16:=by unfold VW Zy Zz nHasChild VJ Q8 ZY;rw[if_neg h4,if_neg h5,if_neg h6,if_pos h7]
   rw[ek]at e
   exact Wk.C.rn [0] (L28 _ 16 (QJ (low (Qi s ⟨p,bad,un⟩).1)) (Qi s ⟨p,bad,un⟩).2 rfl ⟨u1,by omega,e⟩)
 refine Qa (fun h8=>?_) (fun h8=>?_)
 try simp[-za]at h8
 have e:Q5 (Qo s ps (m+1)) s ⟨p,bad,un⟩=if (QJ (low (Qi s ⟨p,bad,un⟩).1)<0/\VW (low (Qi s ⟨p,bad,un⟩).1)=0)\/bat s (Qi s ⟨p,bad,un⟩).2.p≠40 then (failL,(Qi s ⟨p,bad,un⟩).2.no) else V2 (Qo s ps (m+1)) s (VW (low (Qi s ⟨p,bad,un⟩).1)) (QJ (low (Qi s ⟨p,bad,un⟩).1)) ((Qi s ⟨p,bad,un⟩).2.go ((Qi s ⟨p,bad,un⟩).2.p+1)):=by
  unfold Q5
  simp only
  rw[if_neg (by rw[h1];simp),h2]
  simp only
  rw[if_neg h3]
 have ek:VW (low (Qi s ⟨p,bad,un⟩).1)=17:=by unfold VW Zy Zz nHasChild VJ Q8 ZY;rw[if_neg h4,if_neg h5,if_neg h6,if_neg h7,if_pos h8]
 rw[ek]at e
 exact Wk.C.rn [0] (L28 _ 17 (QJ (low (Qi s ⟨p,bad,un⟩).1)) (Qi s ⟨p,bad,un⟩).2 rfl ⟨u1,by omega,e⟩)
 try simp[-za]at h8
 refine Qa ?_ ?_<;>intro h9<;>try simp[-za]at h9
 . have e:Q5 (Qo s ps (m+1)) s ⟨p,bad,un⟩=if (QJ (low (Qi s ⟨p,bad,un⟩).1)<0/\VW (low (Qi s ⟨p,bad,un⟩).1)=0)\/bat s (Qi s ⟨p,bad,un⟩).2.p≠40 then (failL,(Qi s ⟨p,bad,un⟩).2.no) else V2 (Qo s ps (m+1)) s (VW (low (Qi s ⟨p,bad,un⟩).1)) (QJ (low (Qi s ⟨p,bad,un⟩).1)) ((Qi s ⟨p,bad,un⟩).2.go ((Qi s ⟨p,bad,un⟩).2.p+1)):=by
    unfold Q5
    simp only
    rw[if_neg (by rw[h1];simp),h2]
    simp only
    rw[if_neg h3]
   have ek:VW (low (Qi s ⟨p,bad,un⟩).1)=15:=by unfold VW Zy Zz nHasChild VJ Q8 ZY;rw[if_neg h4,if_neg h5,if_neg h6,if_neg h7,if_neg h8,if_pos h9]
   rw[ek]at e
   exact Wk.C.rn [0] (L28 _ 15 (QJ (low (Qi s ⟨p,bad,un⟩).1)) (Qi s ⟨p,bad,un⟩).2 rfl ⟨u1,by omega,e⟩)
 have e:Q5 (Qo s ps (m+1)) s ⟨p,bad,un⟩=if (QJ (low (Qi s ⟨p,bad,un⟩).1)<0/\VW (low (Qi s ⟨p,bad,un⟩).1)=0)\/bat s (Qi s ⟨p,bad,un⟩).2.p≠40 then (failL,(Qi s ⟨p,bad,un⟩).2.no) else V2 (Qo s ps (m+1)) s (VW (low (Qi s ⟨p,bad,un⟩).1)) (QJ (low (Qi s ⟨p,bad,un⟩).1)) ((Qi s ⟨p,bad,un⟩).2.go ((Qi s ⟨p,bad,un⟩).2.p+1)):=by
  unfold Q5
  simp only
  rw[if_neg (by rw[h1];simp),h2]
  simp only
  rw[if_neg h3]
 have ek:VW (low (Qi s ⟨p,bad,un⟩).1)=0:=by unfold VW Zy Zz nHasChild VJ Q8 ZY;rw[if_neg h4,if_neg h5,if_neg h6,if_neg h7,if_neg h8,if_neg h9]
 rw[ek]at e
 exact Wk.C.rn [0] (L28 _ 0 (QJ (low (Qi s ⟨p,bad,un⟩).1)) (Qi s ⟨p,bad,un⟩).2 rfl ⟨u1,by omega,e⟩)
 cases e
theorem Qq0 {K:Out->Option SB->Prop} {s:Bs} {ps:Bool} {r:(List SelD×Bs)×RS} {v:List SelD} {n:Bs} {p:Nat} {b u:Bool}
 (hk:K (.val (.tup [.sl (.sels r.1.1),.str r.1.2,.bool true])) (some (.blk 46 [.str s,.nat r.2.p,.bool r.2.bad,.bool r.2.un,.bool ps]))) (e:r=((v,n),⟨p,b,u⟩)) :
 K (.val (.tup [.sl (.sels v),.str n,.bool true])) (some (.blk 46 [.str s,.nat p,.bool b,.bool u,.bool ps])):=by rw[e]at hk;exact hk
def c97 (m:Nat):Spec:=fun svs b K=>match svs,b with
 | [.ptr 0 0],some (.blk 46 [.str s,.nat p,.bool bad,.bool un,.bool ps])=>s.length<=100000/\p<=s.length+1/\s.length<=m+p/\m<=200000/\cond (Qx (bat s p))
  (K (.val (.tup [.sl (.sels (Qk (Qo s ps (m+1)) s ⟨p,bad,un⟩).1.1),.str (Qk (Qo s ps (m+1)) s ⟨p,bad,un⟩).1.2,.bool true])) (some (.blk 46 [.str s,.nat (Qk (Qo s ps (m+1)) s ⟨p,bad,un⟩).2.p,.bool (Qk (Qo s ps (m+1)) s ⟨p,bad,un⟩).2.bad,.bool (Qk (Qo s ps (m+1)) s ⟨p,bad,un⟩).2.un,.bool ps])))
  (K (.val (.tup [.sl (.sels []),.str [],.bool false])) (some (.blk 46 [.str s,.nat p,.bool bad,.bool un,.bool ps])))
 | _,_=>False
noncomputable def W97 (m:Nat):Wk:=⟨[(29,.fn c29),(43,.plain c43),(66,.pure c66),(96,.fn c96),(109,.fn c109),(110,.fn c110),(111,.fn c111),(112,.fn (c112 m))],Qh Tryz.f97,true,false,[.tmp 2,.tmp 3,.tmp 4],[22,9,4],[],[]⟩
theorem has97:Has 97:=hsf Tryz.f97
theorem JI {p q:Prop} (k:q) (h:p:=by first | omega | (simp;done) | (have:=QX (s:=s) (p:=p) (by omega);omega) | (have:=QV (h58t h5) (by decide);omega)):p/\q:=⟨h,k⟩
theorem sat97 (m:Nat) (hG:Sat 23 (fnS (c23 m))):Sat 97 (c97 m):=by
 have hD:Qb (W97 m).D:=(Qb.cons QcV Qcv (Qb.cons QcU Qcu (Qb.cons Ua J6 (Qb.cons Qfz QeU (Qb.cons Qyj QwC (Qb.cons Qyi QwA (Qb.cons Qyh Qwz (Qb.cons Qyg (Qwy m hG) Qb.nil))))))))
 refine (W97 m).sa hD Tryz.f97 fun svs b K hP=>?_
 unfold c97 at hP
 split at hP
 rename_i s p bad un ps
 obtain⟨h01,h02,h03,h04,hk⟩:=hP
 refine (W97 m).en (have a0:=RS.mk (p+1) bad un;have a1:=s.length<=1000000;have a2:=Q5 (Qo s ps (m+1)) s a0;have a3:=Ju s (RS.mk (p+2) bad un);have a4:=p+1<=9223372036854775807;have a5:=p+1<=s.length+1;have a6:=([]:List (List SelD)).flatten.length<=1000000000000;have a7:=([]:List (List SelD)).length<=1000000000;a1/\(p<=s.length+1)/\cond (decide (bat s p=46)) (a4/\a1/\a5/\a7/\a6/\K (.val (.tup [(.sl (.sels (Qj (SelD.mk (3:Int) (0:Int) [] ((Qi s a0).1) (0:Int) (0:Int) (0:Int) (0:Int)) ([]:List (List SelD)).flatten))),(.str []),(.bool true)])) (some (.blk 46 [(.str s),(.nat ((Qi s a0).2.p)),(.bool ((Qi s a0).2.bad)),(.bool ((Qi s a0).2.un)),(.bool ps)]))) (cond (decide (bat s p=35)) (a4/\a1/\a5/\a7/\a6/\K (.val (.tup [(.sl (.sels (Qj (SelD.mk (4:Int) (0:Int) [] ((Zu s a0).1) (0:Int) (0:Int) (0:Int) (0:Int)) ([]:List (List SelD)).flatten))),(.str []),(.bool true)])) (some (.blk 46 [(.str s),(.nat ((Zu s a0).2.p)),(.bool ((Zu s a0).2.bad)),(.bool ((Zu s a0).2.un)),(.bool ps)]))) (cond (decide (bat s p=91)) (a4/\a1/\a5/\K (.val (.tup [(.sl (.sels ((ZO s a0).1))),(.str []),(.bool true)])) (some (.blk 46 [(.str s),(.nat ((ZO s a0).2.p)),(.bool ((ZO s a0).2.bad)),(.bool ((ZO s a0).2.un)),(.bool ps)]))) (cond (decide (bat s p=58)) (a4/\a1/\a5/\(1<=1000)/\cond (Q3 s [58] (p+1)) (a1/\(p+2<=s.length+1)/\K (.val (.tup [(.sl (.sels [])),(.str (a3.1)),(.bool true)])) (some (.blk 46 [(.str s),(.nat (a3.2.p)),(.bool (a3.2.bad)),(.bool (a3.2.un)),(.bool ps)]))) ((s.length<=100000)/\a5/\(s.length<=m+p+1)/\(m<=200000)/\K (.val (.tup [(.sl (.sels (a2.1))),(.str []),(.bool true)])) (some (.blk 46 [(.str s),(.nat (a2.2.p)),(.bool (a2.2.bad)),(.bool (a2.2.un)),(.bool ps)])))) (K (.val (.tup [(.sl (.sels [])),(.str []),(.bool false)])) (some (.blk 46 [(.str s),(.nat p),(.bool bad),(.bool un),(.bool ps)]))))))) ?_
 refine JI (JI ?_)
 refine Qa ?_ ?_<;>intro h1<;>try simp[-za]at h1
 refine JI (JI (JI (JI (JI ?_))))
 rw[show Qx (bat s p)=true from by rw[Qx];simp;omega]at hk
 refine Qq0 hk ?_
 unfold Qk
 rw[if_pos h1]
 rfl
 refine Qa (fun h2=>?_) (fun h2=>?_)
 try simp[-za]at h2
 refine JI (JI (JI (JI (JI ?_))))
 rw[show Qx (bat s p)=true from by rw[Qx];simp;omega]at hk
 refine Qq0 hk ?_
 unfold Qk
 rw[if_neg h1,if_pos h2]
 rfl
 try simp[-za]at h2
 refine Qa ?_ ?_<;>intro h3<;>try simp[-za]at h3
 refine JI (JI (JI ?_))
 rw[show Qx (bat s p)=true from by rw[Qx];simp;omega]at hk
 refine Qq0 hk ?_
 unfold Qk
 rw[if_neg h1,if_neg h2,if_pos h3]
 rfl
 refine Qa (fun h4=>?_) (fun h4=>?_)
 try simp[-za]at h4
 refine JI (JI (JI (JI ?_)))
 refine Qa ?_ ?_<;>intro h5<;>try simp[-za]at h5
 refine JI (JI ?_)
 rw[show Qx (bat s p)=true from by rw[Qx];simp;omega]at hk
 refine Qq0 hk ?_
 unfold Qk
 rw[if_neg h1,if_neg h2,if_neg h3,if_pos (h58t h5)]
 rfl
 refine JI (JI (JI (JI ?_)))
 rw[show Qx (bat s p)=true from by rw[Qx];simp;omega]at hk
 refine Qq0 hk ?_
 unfold Qk
 rw[if_neg h1,if_neg h2,if_neg h3,if_neg (h58f h5)]
 rfl
 try simp[-za]at h4
 rw[show Qx (bat s p)=false from by rw[Qx];simp;omega]at hk
 exact hk
 exact hP.elim
end
section
open Go Go.RowKit
set_option maxRecDepth 20000
section
variable {G:RS->List SelD×RS} {s:Bs} {ps pseudo:Bool} {t:RS} {l:List SelD} {pe:Bs} {many:Nat}
theorem ZN (h:¬(t.bad=false/\t.p<s.length/\Qx (bat s t.p)=true)):Ve G s ps pseudo t l pe many =
 if many=0 then (failL,(t.unI (decide (bat s t.p=124)||decide (bat s t.p=42))).no) else (Qj ⟨21,0,[],pe,0,0,0,0⟩ l,t.unI (decide (bat s t.p=124)||decide (bat s t.p=42))):=by
 unfold Ve;rw[if_neg h]
theorem Qod (h:t.bad=false/\t.p<s.length/\Qx (bat s t.p)=true) (hv:(Qk G s t).1.2≠[]) (hp:pseudo=false):Ve G s ps pseudo t l pe many=(failL,((Qk G s t).2.unI ps).no):=by
 unfold Ve;rw[if_pos h];simp only;rw[if_pos hv,if_pos hp]
theorem Qk7 (h:t.bad=false/\t.p<s.length/\Qx (bat s t.p)=true) (hv:(Qk G s t).1.2≠[]) (hp:pseudo=true) (he:pe≠[]):Ve G s ps pseudo t l pe many=(failL,((Qk G s t).2.unI true).no):=by
 unfold Ve;rw[if_pos h];simp only;rw[if_pos hv,if_neg (by rw[hp];simp),if_pos he]
theorem Qoe (h:t.bad=false/\t.p<s.length/\Qx (bat s t.p)=true) (hv:(Qk G s t).1.2≠[]) (hp:pseudo=true) (he:pe=[]) (hl:t.p<(Qk G s t).2.p) :
 Ve G s ps pseudo t l pe many=Ve G s ps pseudo (Qk G s t).2 l (Qk G s t).1.2 (many+1):=by
 conv=>lhs;unfold Ve
 rw[if_pos h];simp only;rw[if_pos hv,if_neg (by rw[hp];simp),if_neg (by rw[he];simp),if_pos hl]
theorem QgB (h:t.bad=false/\t.p<s.length/\Qx (bat s t.p)=true) (hv:(Qk G s t).1.2=[]) (hl:t.p<(Qk G s t).2.p) :
 Ve G s ps pseudo t l pe many=Ve G s ps pseudo ((Qk G s t).2.unI (decide (pe≠[]))) (l++(Qk G s t).1.1) pe (many+1):=by
 conv=>lhs;unfold Ve
 rw[if_pos h];simp only;rw[if_neg (by rw[hv];simp),if_pos hl]
end
def c65 (m:Nat) (svs:List SV) (b:Option SB):FR:=match svs,b with
 | [.ptr 0 0,.bool pseudo],some (.blk 46 [.str s,.nat p,.bool bad,.bool un,.bool ps])=>some ([s.length<=100000,p<=s.length+1,s.length<=m+p,m<=200000],.row (.sels (VG (Qo s ps (m+1)) s ps pseudo ⟨p,bad,un⟩).1),some (.blk 46 [.str s,.nat (VG (Qo s ps (m+1)) s ps pseudo ⟨p,bad,un⟩).2.p,.bool (VG (Qo s ps (m+1)) s ps pseudo ⟨p,bad,un⟩).2.bad,.bool (VG (Qo s ps (m+1)) s ps pseudo ⟨p,bad,un⟩).2.un,.bool ps]))
 | _,_=>none
noncomputable def W65 (m:Nat):Wk:=⟨[(29,.fn c29),(43,.plain c43),(66,.pure c66),(68,.fn c68),(77,.pure c77),(95,.fn c95),(96,.fn c96),(97,.plain (c97 m))],Qh Tryz.f65,true,true,[.tmp 4],[22],[(9,227)],[]⟩
theorem has65:Has 65:=hsf Tryz.f65
theorem ZA {p q:Prop} (k:q) (h:p:=by first | omega | (simp;done) | (simp[g0];done) | (have n1:=YB s ⟨p,bad,un||VS s p⟩ h02;have n2:=(Q9 s ⟨p,bad,un||VS s p⟩ h02).2;omega) | (have a:=kb h1.2;have:=a.1.2;omega) | (have a:=QV (QoV h1) (by decide);omega)):p/\q:=⟨h,k⟩
theorem koz1 {c0 p0 p1 q:Prop} (k:q) (h:c0->p0/\p1/\True:=by intro g0;(try simp at g0);exact⟨(by first | omega | (simp;done) | (simp[g0];done) | (have n1:=YB s ⟨p,bad,un||VS s p⟩ h02;have n2:=(Q9 s ⟨p,bad,un||VS s p⟩ h02).2;omega) | (have a:=kb h1.2;have:=a.1.2;omega) | (have a:=QV (QoV h1) (by decide);omega)),(by first | omega | (simp;done) | (simp[g0];done) | (have n1:=YB s ⟨p,bad,un||VS s p⟩ h02;have n2:=(Q9 s ⟨p,bad,un||VS s p⟩ h02).2;omega) | (have a:=kb h1.2;have:=a.1.2;omega) | (have a:=QV (QoV h1) (by decide);omega)),trivial⟩):(c0->p0/\p1/\True)/\q:=⟨h,k⟩
theorem QlG {c0 p0 q:Prop} (k:q) (h:c0->p0/\True:=by intro g0;(try simp at g0);exact⟨(by first | omega | (simp;done) | (simp[g0];done) | (have n1:=YB s ⟨p,bad,un||VS s p⟩ h02;have n2:=(Q9 s ⟨p,bad,un||VS s p⟩ h02).2;omega) | (have a:=kb h1.2;have:=a.1.2;omega) | (have a:=QV (QoV h1) (by decide);omega)),trivial⟩):(c0->p0/\True)/\q:=⟨h,k⟩
theorem sat65 (m:Nat) (hG:Sat 23 (fnS (c23 m))):Sat 65 (fnS (c65 m)):=by
 have hD:Qb (W65 m).D:=(Qb.cons QcV Qcv (Qb.cons QcU Qcu (Qb.cons Ua J6 (Qb.cons Qkk Qjh (Qb.cons QfA QeV (Qb.cons Qnh QmA (Qb.cons Qfz QeU (Qb.cons has97 (sat97 m hG) Qb.nil))))))))
 refine (W65 m).sa hD Tryz.f65 fun svs b K hP=>?_
 obtain⟨ps,o,b',e,hp,hk⟩:=Vy hP
 unfold c65 at e
 split at e
 rename_i pseudo s p bad un ps
 cases e
 obtain⟨h01,h02,h03,h04,_⟩:=hp
 have L9:∀(mm:Nat) (t:RS) (pe:Bs) (ks:List (List SelD)) (many:Nat),s.length+1-t.p=mm->(Up s ⟨p,bad,un⟩ t/\ks.length<=t.p+1/\many<=t.p+1/\ks.flatten.length<=(3*(m+1)+8)*t.p+1/\VG (Qo s ps (m+1)) s ps pseudo ⟨p,bad,un⟩=Ve (Qo s ps (m+1)) s ps pseudo t ks.flatten pe many)->(W65 m).L K 9 (mkS 115 [(0,(.ptr 0 0)),(1,(.bool pseudo)),(5,(.ptr 1 0)),(6,(.own 2)),(7,(.nat many))] [(0,.blk 46 [(.str s),(.nat t.p),(.bool t.bad),(.bool t.un),(.bool ps)]),(1,.blk 33 [(.nat 21),(.nat 0),(.str []),(.str pe),(.nat 0),(.nat 0),(.nat 0),(.nat 0)]),(2,.row (.selss ks) true)] 3):=by
  intro mm
  induction mm using zi with
  | _ mm ih=>
   intro t pe ks many hm hI
   obtain⟨k1,k2,k3,k4,k5⟩:=hI
   have k6:p<=t.p:=k1.1
   have k7:t.p<=s.length+1:=k1.2
   have kb:=fun h=>Zn (c:=3*(m+1)+8) (by omega) (Zf s ps (m+1)) t h
   have kc:(3*(m+1)+8)*t.p<=700000*100001:=Nat.mul_le_mul (by omega) (by omega)
   refine (W65 m).aL hD (have a0:=Qk (Qo s ps (m+1)) s t;have a1:Out:=.row (.sels (Qj (SelD.mk (21:Int) (0:Int) [] pe (0:Int) (0:Int) (0:Int) (0:Int)) (ks:List (List SelD)).flatten));have a2:=(!t.bad)=true->(((!t.bad)==true)=true)/\True;have a3:Out:=.row (.sels failL);have a4:Option SB:=some (.blk 46 [(.str s),(.nat t.p),(.bool t.bad),(.bool true),(.bool ps)]);have a5:Option SB:=some (.blk 46 [(.str s),(.nat t.p),(.bool t.bad),(.bool t.un),(.bool ps)]);have a6:Option SB:=some (.blk 46 [(.str s),(.nat t.p),(.bool true),(.bool true),(.bool ps)]);have a7:Option SB:=some (.blk 46 [(.str s),(.nat t.p),(.bool true),(.bool t.un),(.bool ps)]);have a8:=(decide (bat s t.p=124))||(decide (bat s t.p=42));have a9:SV:=.nat (a0.2.p);have a10:=decide (many=0);a2/\a2/\a2/\a2/\a2/\a2/\a2/\((!t.bad)=true->(((!t.bad)==true)=true)/\(((!t.bad)==true)=true)/\True)/\((!t.bad)=true->((!t.bad)==true)=true)/\cond ((!t.bad)&&(decide (t.p<s.length))) ((s.length<=100000)/\(t.p<=s.length+1)/\(s.length<=m+t.p)/\(m<=200000)/\cond (Qx (bat s t.p)) ((many+1<=9223372036854775807)/\cond (!(decide (a0.1.2=[]))) (cond (!pseudo) (K a3 (some (.blk 46 [(.str s),a9,(.bool true),(.bool (a0.2.un||ps)),(.bool ps)]))) (cond (!(decide (pe=[]))) (K a3 (some (.blk 46 [(.str s),a9,(.bool true),(.bool true),(.bool ps)]))) ((W65 m).L K 9 (mkS 115 [(0,(.ptr 0 0)),(1,(.bool pseudo)),(5,(.ptr 1 0)),(6,(.own 2)),(7,(.nat (many+1)))] [(0,.blk 46 [(.str s),a9,(.bool (a0.2.bad)),(.bool (a0.2.un)),(.bool ps)]),(1,.blk 33 [(.nat 21),(.nat 0),(.str []),(.str (a0.1.2)),(.nat 0),(.nat 0),(.nat 0),(.nat 0)]),(2,.row (.selss ks) true)] 3)))) (cond (!(decide (pe=[]))) ((ks.length+1<=1099511627776)/\(W65 m).L K 9 (mkS 115 [(0,(.ptr 0 0)),(1,(.bool pseudo)),(5,(.ptr 1 0)),(6,(.own 4)),(7,(.nat (many+1)))] [(4,.row (.selss (ks++[a0.1.1])) true),(0,.blk 46 [(.str s),a9,(.bool (a0.2.bad)),(.bool true),(.bool ps)]),(1,.blk 33 [(.nat 21),(.nat 0),(.str []),(.str pe),(.nat 0),(.nat 0),(.nat 0),(.nat 0)])] 5)) ((ks.length+1<=1099511627776)/\(W65 m).L K 9 (mkS 115 [(0,(.ptr 0 0)),(1,(.bool pseudo)),(5,(.ptr 1 0)),(6,(.own 4)),(7,(.nat (many+1)))] [(4,.row (.selss (ks++[a0.1.1])) true),(0,.blk 46 [(.str s),a9,(.bool (a0.2.bad)),(.bool (a0.2.un)),(.bool ps)]),(1,.blk 33 [(.nat 21),(.nat 0),(.str []),(.str pe),(.nat 0),(.nat 0),(.nat 0),(.nat 0)])] 5)))) ((s.length<=1000000)/\(t.p<=s.length+1)/\cond a8 (cond a10 (K a3 a6) (((ks:List (List SelD)).length<=1000000000)/\((ks:List (List SelD)).flatten.length<=1000000000000)/\K a1 a4)) (cond a10 (K a3 a7) (((ks:List (List SelD)).length<=1000000000)/\((ks:List (List SelD)).flatten.length<=1000000000000)/\K a1 a5)))) ((s.length<=1000000)/\(t.p<=s.length+1)/\cond a8 (cond a10 (K a3 a6) (((ks:List (List SelD)).length<=1000000000)/\((ks:List (List SelD)).flatten.length<=1000000000000)/\K a1 a4)) (cond a10 (K a3 a7) (((ks:List (List SelD)).length<=1000000000)/\((ks:List (List SelD)).flatten.length<=1000000000000)/\K a1 a5)))) ?_
   refine QlG (QlG (QlG (QlG (QlG (QlG (QlG (koz1 (ZA ?_))))))))
   refine Qa ?_ ?_<;>intro h1<;>try simp[-za]at h1
   refine ZA (ZA (ZA (ZA ?_)))
   refine Qa ?_ ?_<;>intro h2<;>try simp[-za]at h2
   refine ZA ?_
   refine Qa ?_ ?_<;>intro h3<;>try simp[-za]at h3
   refine Qa (fun h4=>?_) (fun h4=>?_)
   try simp[-za]at h4
   exact V9 hk (k5.trans ((Qod ⟨h1.1,h1.2,h2⟩ h3 h4).trans rfl))
   try simp[-za]at h4
   refine Qa ?_ ?_<;>intro h5<;>try simp[-za]at h5
   refine V9 hk (k5.trans ((Qk7 ⟨h1.1,h1.2,h2⟩ h3 h4 h5).trans ?_))
   simp[RS.unI,RS.no]
   obtain⟨a1,a2,a3⟩:=kb h1.2
   have a4:=a1.2
   have a5:=a1.1
   have a6:=zA (3*(m+1)+8) a5
   exact ih _ (by omega) (Qk (Qo s ps (m+1)) s t).2 (Qk (Qo s ps (m+1)) s t).1.2 ks (many+1) rfl ⟨⟨by show p<=(Qk (Qo s ps (m+1)) s t).2.p;omega,a4⟩,by omega,by omega,by omega,by rw[k5,Qoe ⟨h1.1,h1.2,h2⟩ h3 h4 h5 a2]⟩
   refine Qa (fun h4=>?_) (fun h4=>?_)
   try simp[-za]at h4
   refine ZA ?_
   obtain⟨a1,a2,a3⟩:=kb h1.2
   have a4:=a1.2
   have a5:=a1.1
   have a6:=zA (3*(m+1)+8) a5
   exact Wk.L.rn [0,1,4] (ih _ (by show s.length+1-(Qk (Qo s ps (m+1)) s t).2.p<mm;omega) (RS.mk (Qk (Qo s ps (m+1)) s t).2.p (Qk (Qo s ps (m+1)) s t).2.bad true) pe (ks++[(Qk (Qo s ps (m+1)) s t).1.1]) (many+1) rfl ⟨⟨by show p<=(Qk (Qo s ps (m+1)) s t).2.p;omega,a4⟩,by show (ks++[(Qk (Qo s ps (m+1)) s t).1.1]).length<=(Qk (Qo s ps (m+1)) s t).2.p+1;simp only[zf,zH];omega,by show many+1<=(Qk (Qo s ps (m+1)) s t).2.p+1;omega,by
    show (ks++[(Qk (Qo s ps (m+1)) s t).1.1]).flatten.length<=(3*(m+1)+8)*(Qk (Qo s ps (m+1)) s t).2.p+1
    rw[xv,zf,show [(Qk (Qo s ps (m+1)) s t).1.1].flatten=(Qk (Qo s ps (m+1)) s t).1.1 from by simp];omega,by
    rw[k5,QgB ⟨h1.1,h1.2,h2⟩ h3 a2,xv,show [(Qk (Qo s ps (m+1)) s t).1.1].flatten=(Qk (Qo s ps (m+1)) s t).1.1 from by simp,show (Qk (Qo s ps (m+1)) s t).2.unI (decide (pe≠[]))=(RS.mk (Qk (Qo s ps (m+1)) s t).2.p (Qk (Qo s ps (m+1)) s t).2.bad true) from by simp[RS.unI,h4]]⟩)
   try simp[-za]at h4
   refine ZA ?_
   obtain⟨a1,a2,a3⟩:=kb h1.2
   have a4:=a1.2
   have a5:=a1.1
   have a6:=zA (3*(m+1)+8) a5
   exact Wk.L.rn [0,1,4] (ih _ (by show s.length+1-(Qk (Qo s ps (m+1)) s t).2.p<mm;omega) (Qk (Qo s ps (m+1)) s t).2 pe (ks++[(Qk (Qo s ps (m+1)) s t).1.1]) (many+1) rfl ⟨⟨by show p<=(Qk (Qo s ps (m+1)) s t).2.p;omega,a4⟩,by show (ks++[(Qk (Qo s ps (m+1)) s t).1.1]).length<=(Qk (Qo s ps (m+1)) s t).2.p+1;simp only[zf,zH];omega,by show many+1<=(Qk (Qo s ps (m+1)) s t).2.p+1;omega,by
    show (ks++[(Qk (Qo s ps (m+1)) s t).1.1]).flatten.length<=(3*(m+1)+8)*(Qk (Qo s ps (m+1)) s t).2.p+1
    rw[xv,zf,show [(Qk (Qo s ps (m+1)) s t).1.1].flatten=(Qk (Qo s ps (m+1)) s t).1.1 from by simp];omega,by
    rw[k5,QgB ⟨h1.1,h1.2,h2⟩ h3 a2,xv,show [(Qk (Qo s ps (m+1)) s t).1.1].flatten=(Qk (Qo s ps (m+1)) s t).1.1 from by simp,show (Qk (Qo s ps (m+1)) s t).2.unI (decide (pe≠[]))=(Qk (Qo s ps (m+1)) s t).2 from by simp[RS.unI,h4]]⟩)
   refine ZA (ZA ?_)
   refine Qa ?_ ?_<;>intro h3<;>try simp[-za]at h3
   refine Qa (fun h4=>?_) (fun h4=>?_)
   try simp[-za]at h4
   refine V9 hk (k5.trans ((ZN (fun h=>by rw[h.2.2]at h2;cases h2)).trans ?_))
   rw[show (decide (bat s t.p=124)||decide (bat s t.p=42))=true from by simp;omega]
   rw[if_pos h4]
   simp[RS.unI,RS.no]
   try simp[-za]at h4
   refine ZA (ZA ?_)
   refine V9 hk (k5.trans ((ZN (fun h=>by rw[h.2.2]at h2;cases h2)).trans ?_))
   rw[show (decide (bat s t.p=124)||decide (bat s t.p=42))=true from by simp;omega]
   rw[if_neg h4]
   simp[RS.unI,RS.no]
   refine Qa (fun h4=>?_) (fun h4=>?_)
   try simp[-za]at h4
   refine V9 hk (k5.trans ((ZN (fun h=>by rw[h.2.2]at h2;cases h2)).trans ?_))
   rw[show (decide (bat s t.p=124)||decide (bat s t.p=42))=false from by simp;omega]
   rw[if_pos h4]
   simp[RS.unI,RS.no]
   try simp[-za]at h4
   refine ZA (ZA ?_)
   refine V9 hk (k5.trans ((ZN (fun h=>by rw[h.2.2]at h2;cases h2)).trans ?_))
   rw[show (decide (bat s t.p=124)||decide (bat s t.p=42))=false from by simp;omega]
   rw[if_neg h4]
   simp[RS.unI,RS.no]
   refine ZA (ZA ?_)
   refine Qa ?_ ?_<;>intro h2<;>try simp[-za]at h2
   refine Qa (fun h3=>?_) (fun h3=>?_)
   try simp[-za]at h3
   refine V9 hk (k5.trans ((ZN (fun h=>by have q1:=h1 h.1;have q2:=h.2.1;omega)).trans ?_))
   rw[show (decide (bat s t.p=124)||decide (bat s t.p=42))=true from by simp;omega]
   rw[if_pos h3]
   simp[RS.unI,RS.no]
   try simp[-za]at h3
   refine ZA (ZA ?_)
   refine V9 hk (k5.trans ((ZN (fun h=>by have q1:=h1 h.1;have q2:=h.2.1;omega)).trans ?_))
   rw[show (decide (bat s t.p=124)||decide (bat s t.p=42))=true from by simp;omega]
   rw[if_neg h3]
   simp[RS.unI,RS.no]
   refine Qa (fun h3=>?_) (fun h3=>?_)
   try simp[-za]at h3
   refine V9 hk (k5.trans ((ZN (fun h=>by have q1:=h1 h.1;have q2:=h.2.1;omega)).trans ?_))
   rw[show (decide (bat s t.p=124)||decide (bat s t.p=42))=false from by simp;omega]
   rw[if_pos h3]
   simp[RS.unI,RS.no]
   try simp[-za]at h3
   refine ZA (ZA ?_)
   refine V9 hk (k5.trans ((ZN (fun h=>by have q1:=h1 h.1;have q2:=h.2.1;omega)).trans ?_))
   rw[show (decide (bat s t.p=124)||decide (bat s t.p=42))=false from by simp;omega]
   rw[if_neg h3]
   simp[RS.unI,RS.no]
 refine (W65 m).en (have a0:=Qi s (RS.mk p bad (un||VS s p));(s.length<=1000000)/\(p<=s.length+1)/\(1<=1000)/\cond (Q3 s [42] p) ((1<=9223372036854775807)/\(W65 m).L K 9 (mkS 115 [(0,(.ptr 0 0)),(1,(.bool pseudo)),(5,(.ptr 1 0)),(6,.nilsl),(7,(.nat 1))] [(1,.blk 33 [(.nat 21),(.nat 0),(.str []),(.str []),(.nat 0),(.nat 0),(.nat 0),(.nat 0)]),(0,.blk 46 [(.str s),(.nat (p+1)),(.bool bad),(.bool un),(.bool ps)])] 2)) ((s.length<=1000000)/\(p<=s.length+1)/\cond (Vo s p) ((s.length<=1000000)/\(p<=s.length+1)/\((a0.1).length<=1000000000)/\(([]:List (List SelD)).length<=1000000000)/\(([]:List (List SelD)).flatten.length<=1000000000000)/\(0+1<=1099511627776)/\(1<=9223372036854775807)/\(W65 m).L K 9 (mkS 115 [(0,(.ptr 0 0)),(1,(.bool pseudo)),(5,(.ptr 1 0)),(6,(.own 4)),(7,(.nat 1))] [(4,.row (.selss ([]++[Qj (SelD.mk (2:Int) (0:Int) (low (a0.1)) [] (0:Int) (0:Int) (0:Int) (0:Int)) ([]:List (List SelD)).flatten])) true),(1,.blk 33 [(.nat 21),(.nat 0),(.str []),(.str []),(.nat 0),(.nat 0),(.nat 0),(.nat 0)]),(0,.blk 46 [(.str s),(.nat (a0.2.p)),(.bool (a0.2.bad)),(.bool (a0.2.un)),(.bool ps)])] 5)) ((W65 m).L K 9 (mkS 115 [(0,(.ptr 0 0)),(1,(.bool pseudo)),(5,(.ptr 1 0)),(6,.nilsl),(7,(.nat 0))] [(1,.blk 33 [(.nat 21),(.nat 0),(.str []),(.str []),(.nat 0),(.nat 0),(.nat 0),(.nat 0)]),(0,.blk 46 [(.str s),(.nat p),(.bool bad),(.bool (un||VS s p)),(.bool ps)])] 2)))) ?_
 refine ZA (ZA (ZA ?_))
 refine Qa ?_ ?_<;>intro h1<;>try simp[-za]at h1
 refine ZA ?_
 have a:=QV (QoV h1) (by decide)
 exact Wk.L.le (Yd.adopt 6 (T:=79) (x:=.selss []) (by kernel_rfl) (by kernel_rfl)) (Wk.L.rn [0,1,2] (L9 _ (RS.go ⟨p,bad,un⟩ (p+1)) [] [] 1 rfl ⟨⟨Nat.le_succ p,by show p+1<=_;omega⟩,by simp,by simp,by simp,by unfold VG;rw[if_pos (QoV h1)];rfl⟩))
 refine ZA (ZA ?_)
 refine Qa ?_ ?_<;>intro h2<;>try simp[-za]at h2
 refine ZA (ZA (ZA (ZA (ZA (ZA (ZA ?_))))))
 have a:=Q9 s ⟨p,bad,un||VS s p⟩ h02
 exact Wk.L.rn [0,1,4] (L9 _ (Qi s ⟨p,bad,un||VS s p⟩).2 [] [Qj ⟨2,0,low (Qi s ⟨p,bad,un||VS s p⟩).1,[],0,0,0,0⟩ []] 1 rfl ⟨a,by simp,by omega,by simp[Qj,Qr],by unfold VG;rw[if_neg (h42f h1),if_pos h2];rfl⟩)
 exact Wk.L.le (Yd.adopt 6 (T:=79) (x:=.selss []) (by kernel_rfl) (by kernel_rfl)) (Wk.L.rn [0,1,2] (L9 _ ⟨p,bad,un||VS s p⟩ [] [] 0 rfl ⟨⟨zj _,h02⟩,by simp,by omega,by simp,by unfold VG;rw[if_neg (h42f h1),if_neg (by rw[h2];simp)];rfl⟩))
 cases e
end
section
open Go Go.RowKit
set_option maxRecDepth 20000
structure LastOk (l:List SelD) (n:SelD) (a c:List SelD):Prop where
 e:l=Qj n (a++c)
 k:n.kind=22
 a1:1<=a.length
 az:(a.getD 0 default).size=(a.length:Nat)
 c1:1<=c.length
 cz:(c.getD 0 default).size=(c.length:Nat)
 ck:(c.getD 0 default).kind≠22
 len:l.length<=1000000000000
section
variable {l:List SelD} {n:SelD} {a c:List SelD}
theorem LastOk.ll (h:LastOk l n a c):l.length=a.length+c.length+1:=by rw[h.e];simp[Qj,Qr]
theorem LastOk.g0 (h:LastOk l n a c):l.getD 0 default={ n with size:=((a.length+c.length:Nat):Int)+1 }:=by rw[h.e];simp[Qj,Qr,za]
theorem LastOk.g1 (h:LastOk l n a c):l.getD 1 default=a.getD 0 default:=by
 have:=h.a1
 rw[h.e];simp[Qj,Qr,za,List.getElem?_append_left this]
theorem LastOk.g2 (h:LastOk l n a c):l.getD (1+a.length) default=c.getD 0 default:=by
 rw[h.e,Nat.add_comm];simp[Qj,Qr,za,List.getElem?_append_right]
theorem LastOk.kids (h:LastOk l n a c):Qe l 0=[1,1+a.length]:=by
 have a1:=h.a1
 have c1:=h.c1
 have ll:=h.ll
 have z0:(l.getD 0 default).size=((a.length+c.length:Nat):Int)+1:=by rw[h.g0]
 unfold Qe
 rw[z0,Z0,if_pos ⟨by omega,by omega⟩,h.g1,h.az,show 0+1+(max 1 ((a.length:Nat):Int)).toNat=1+a.length from by omega,Z0,if_pos ⟨by omega,by omega⟩,h.g2,h.cz,
  Z0,if_neg (by omega)]
theorem LastOk.pe (h:LastOk l n a c):J7 l (l.length+1) 0=if (c.getD 0 default).kind=21 then (c.getD 0 default).val else []:=by
 have a1:=h.a1
 have c1:=h.c1
 have ll:=h.ll
 obtain⟨m,hm⟩:∃m,l.length=m+3:=⟨l.length-3,by omega⟩
 have z0:(l.getD 0 default).size.toNat=l.length:=by rw[h.g0,ll];simp only;omega
 have k0:(l.getD 0 default).kind=22:=by rw[h.g0];exact h.k
 have lk:J7.lastKid l (0+l.length) 1 1 l.length=1+a.length:=by
  conv=>lhs;rw[hm]
  unfold J7.lastKid
  rw[if_pos (by omega),h.g1,h.az,show 1+max 1 ((a.length:Nat):Int).toNat=1+a.length from by omega]
  unfold J7.lastKid
  rw[if_pos (by omega),h.g2,h.cz]
  unfold J7.lastKid
  rw[if_neg (by omega)]
 unfold J7
 simp only
 rw[if_pos k0,z0,lk,hm]
 unfold J7
 simp only
 rw[h.g2,if_neg h.ck]
end
def c67 (svs:List SV) (b:Option SB):QR:=match svs,b with
 | [.sl (.sels l)],none=>some ([∃n a c,LastOk l n a c],.str (J7 l (l.length+1) 0))
 | _,_=>none
noncomputable def W67:Wk:=⟨[(17,.fn c17)],Qh Tryz.f67,false,false,[.tmp 2],[9],[(2,9)],[]⟩
theorem has67:Has 67:=hsf Tryz.f67
theorem Qie {p q:Prop} (k:q) (h:p:=by first | omega | (obtain rfl:=hi0 h1;first | omega | (rw[z0];omega) | (rw[fk];simp;done) | (intro k hk;rw[fk]at hk;simp only[zp,zT,or_false]at hk;rcases hk with rfl | rfl;rw[h01.g1,h01.az];omega;rw[h01.g2,h01.cz];omega))):p/\q:=⟨h,k⟩
theorem sat67:Sat 67 (Ql c67):=by
 have hD:Qb W67.D:=(Qb.cons Qkl Qji Qb.nil)
 refine W67.sa hD Tryz.f67 fun svs b K hP=>?_
 obtain⟨ps,v,e,hp,hk⟩:=Qd hP
 unfold c67 at e
 split at e
 rename_i l
 cases e
 obtain⟨⟨n,a,c,h01⟩,_⟩:=hp
 have ll:=h01.ll
 have a1:=h01.a1
 have c1:=h01.c1
 have fk:=h01.kids
 have lm:=h01.len
 have z0:(l.getD 0 default).size=((a.length+c.length:Nat):Int)+1:=by rw[h01.g0]
 have k0:(l.getD 0 default).kind=22:=by rw[h01.g0];exact h01.k
 have k2:(l.getD (1+a.length) default).kind≠22:=by rw[h01.g2];exact h01.ck
 have L2:∀(mm:Nat) (i:Nat),1-i=mm->(i=0\/i=1+a.length)->W67.L K 2 (mkS 31 [(0,(.sl (.sels l))),(3,(.nat i))] [] 1):=by
  intro mm
  induction mm using zi with
  | _ mm ih=>
   intro i hm hI
   have hi0:(l.getD i default).kind=22->i=0:=by
    intro e
    rcases hI with h | h
    exact h
    subst h;exact absurd e k2
   have hi1:(l.getD i default).kind≠22->i=1+a.length:=by
    intro e
    rcases hI with h | h
    subst h;exact absurd k0 e
    exact h
   refine W67.aL hD (have a0:=l.getD i default;(i<l.length)/\cond (decide (a0.kind=(22:Int))) ((i<l.length/\l.length<=1000000000000)/\(0<=a0.size/\((i:Nat):Int)+a0.size<=l.length)/\(∀k,k∈Qe l i->(l.getD k default).size<=1000000000000)/\(1<=(Qe l i).length/\(Qe l i).length<=9223372036854775807)/\((Qe l i).length-1<(Qe l i).length)/\((Qe l i).length-1<(Qe l i).length)/\(W67).L K 2 (mkS 31 [(0,(.sl (.sels l))),(3,(.nat ((Qe l i).getD ((Qe l i).length-1) 0)))] [(1,.row (.ints (Qe l i)) true)] 2)) ((i<l.length)/\cond (decide (a0.kind=(21:Int))) ((i<l.length)/\K (.val (.str (a0.val))) none) (K (.val (.str [])) none))) ?_
   refine Qie ?_
   refine Qa ?_ ?_<;>intro h1<;>try simp[-za]at h1
   refine Qie (Qie (Qie (Qie (Qie (Qie ?_)))))
   obtain rfl:=hi0 h1
   rw[fk]
   exact Wk.L.rn [0] (ih _ (by omega) (1+a.length) rfl (.inr rfl))
   refine Qie ?_
   refine Qa ?_ ?_<;>intro h2<;>try simp[-za]at h2
   refine Qie ?_
   obtain rfl:=hi1 h1
   rw[h01.pe,if_pos (by rw[<-h01.g2];exact h2),<-h01.g2]at hk
   exact hk
   obtain rfl:=hi1 h1
   rw[h01.pe,if_neg (by rw[<-h01.g2];exact h2)]at hk
   exact hk
 refine W67.en ((W67).L K 2 (mkS 31 [(0,(.sl (.sels l))),(3,(.nat 0))] [] 1)) ?_
 exact L2 _ 0 rfl (.inl rfl)
 cases e
end
section
open Go Go.RowKit
set_option maxRecDepth 20000
theorem Qk4 {s:Bs} {t:RS} (h:Vo s t.p=true):(Qi s t).2.bad=true\/t.p<(Qi s t).2.p:=by
 unfold Qi
 rw[if_pos h]
 generalize hw:t.unI (VS s t.p)=w
 have hp:w.p=t.p:=by rw[<-hw];rfl
 rw[<-hp]at h ⊢
 cases hb:w.bad with
 | true=>
  left
  unfold VX
  rw[if_neg (by rw[hb];simp)]
  exact hb
 | false=>
  right
  by_cases hc:Qq (bat s w.p)=true
  rw[Qjn (QX (by intro e;rw[e]at hc;cases hc)) hb hc]
  have:=Qcw s (w.go (w.p+1)) ([]++[s.getD w.p 0])
  simp only[RS.go_p]at this
  omega
  have h45:¬bat s w.p=45:=by intro e;rw[e]at hc;exact hc rfl
  have hat:UG s w.p=w.p:=by unfold UG;rw[if_neg (fun q=>h45 q.2)]
  unfold Vo at h
  rw[hat]at h
  have hst:QI (bat s w.p)=false:=by
   rw[<-Bool.not_eq_true];intro e;exact hc (by unfold Qq;rw[e];rfl)
  rw[hst]at h
  simp at h
  rw[Qjm (by have:=Qiw h;omega) hb (by simpa using hc) h]
  have:=Qcw s (VR s w).2 ([]++(VR s w).1)
  have:=Qae s w
  omega
section
variable {s:Bs} {c:Nat} {G:RS->List SelD×RS} {ps pseudo:Bool}
def Sz (l:List SelD):Prop:=1<=l.length/\(l.getD 0 default).size=(l.length:Nat)
theorem Sz.made (x:SelD) (l:List SelD):Sz (Qj x l):=by
 unfold Sz Qj Qr
 simp
theorem Sz.fail:Sz failL:=by unfold Sz failL;simp
def QaG (l:List SelD):Prop:=Sz l/\(l.getD 0 default).kind≠22
theorem QaG.fail:QaG failL:=⟨Sz.fail,by unfold failL;simp⟩
theorem Qoc (t:RS) (l:List SelD) (pe:Bs) (many:Nat):QaG (Ve G s ps pseudo t l pe many).1:=by
 fun_induction Ve G s ps pseudo t l pe many with
 | case1=>exact QaG.fail
 | case2=>exact QaG.fail
 | case3 t l pe many h1 v hv hps hpe hlt ih=>exact ih
 | case4=>exact QaG.fail
 | case5 t l pe many h1 v hv hlt ih=>exact ih
 | case6=>exact QaG.fail
 | case7=>exact QaG.fail
 | case8=>exact⟨Sz.made _ _,by simp[Qj,Qr]⟩
theorem QhI (t:RS):QaG (VG G s ps pseudo t).1:=by
 unfold VG
 repeat' split
 all_goals exact Qoc _ _ _ _
theorem QaU (h8:8<=c) (hG:GB s c G) (t:RS) (l:List SelD) (pe:Bs) (many:Nat) (h:t.p<=s.length+1) (p0:Nat) (hp:p0<=t.p) (hm:many=0\/p0<t.p\/t.bad=true) :
 (Ve G s ps pseudo t l pe many).2.bad=true\/p0<(Ve G s ps pseudo t l pe many).2.p:=by
 fun_induction Ve G s ps pseudo t l pe many with
 | case1=>exact .inl rfl
 | case2=>exact .inl rfl
 | case3 t l pe many h1 v hv hps hpe hlt ih=>
  have a:Up s t v.2:=(Zn h8 hG t h1.2.1).1
  exact ih a.2 (by omega) (.inr (.inl (by omega)))
 | case4=>exact .inl rfl
 | case5 t l pe many h1 v hv hlt ih=>
  have a:Up s t v.2:=(Zn h8 hG t h1.2.1).1
  exact ih (by simp only[RS.unI_p];exact a.2) (by simp only[RS.unI_p];omega) (.inr (.inl (by simp only[RS.unI_p];omega)))
 | case6=>exact .inl rfl
 | case7=>exact .inl rfl
 | case8 t l pe many h1 t1 hm0=>
  rcases hm with hm | hm | hm
  exact absurd hm hm0
  exact .inr hm
  exact .inl hm
theorem Qob (h8:8<=c) (hG:GB s c G) (t:RS) (h:t.p<=s.length+1):(VG G s ps pseudo t).2.bad=true\/t.p<(VG G s ps pseudo t).2.p:=by
 unfold VG
 split
 rename_i e
 have:=QV e (by decide)
 exact QaU h8 hG (t.go (t.p+1)) [] [] 1 (by simp only[RS.go_p];omega) t.p (by simp only[RS.go_p];omega) (.inr (.inl (by simp only[RS.go_p];omega)))
 split
 rename_i e
 have hn:=Qk4 (s:=s) (t:=t.unI (VS s t.p)) e
 have hu:=Q9 s (t.unI (VS s t.p)) h
 refine QaU h8 hG (Qi s (t.unI (VS s t.p))).2 _ [] 1 hu.2 t.p hu.1 (.inr ?_)
 rcases hn with hn | hn
 exact .inr hn
 exact .inl hn
 exact QaU h8 hG (t.unI (VS s t.p)) [] [] 0 h t.p (zj _) (.inl rfl)
def Lf (l:List SelD):Prop:=Sz l/\((l.getD 0 default).kind=22->∃n a c,LastOk l n a c)
theorem QaG.lf {l:List SelD} (h:QaG l):Lf l:=⟨h.1,fun e=>absurd e h.2⟩
theorem Lf.comb {l r:List SelD} {op:Int} (h:Lf l) (k:QaG r) (hn:l.length+r.length+1<=1000000000000):Lf (Qj ⟨22,op,[],[],0,0,0,0⟩ (l++r)):=
 ⟨Sz.made _ _,fun _=>⟨⟨22,op,[],[],0,0,0,0⟩,l,r,rfl,rfl,h.1.1,h.1.2,k.1.1,k.1.2,k.2,by simp[Qj,Qr];omega⟩⟩
def VB (s:Bs) (t:RS):RS:=if Q6 (bat s (sSp s t).p)≠0 then sSp s ((sSp s t).go ((sSp s t).p+1)) else sSp s t
def Uy (s:Bs) (t:RS):Int:=if Q6 (bat s (sSp s t).p)≠0 then Q6 (bat s (sSp s t).p) else 1
def Ud (s:Bs) (t:RS):Prop:=Q6 (bat s (sSp s t).p)=0/\(s.length<=(sSp s t).p\/bat s (sSp s t).p=44\/bat s (sSp s t).p=41\/(sSp s t).p<=t.p)
theorem QeY {t:RS} {left:List SelD} (hb:t.bad=true):VU G s ps pseudo t left=(left,t):=by
 unfold VU;rw[if_pos hb]
theorem QeX {t:RS} {left:List SelD} (hb:t.bad=false) (he:Ud s t):VU G s ps pseudo t left=(left,sSp s t):=by
 unfold Ud at he
 unfold VU;rw[if_neg (by rw[hb];simp)];simp only;rw[if_pos he]
theorem Qoa {t:RS} {left:List SelD} (hb:t.bad=false) (he:¬Ud s t) (hp:QdA left=true):VU G s ps pseudo t left=(failL,((VB s t).unI true).no):=by
 unfold Ud at he
 unfold VU;rw[if_neg (by rw[hb];simp)];simp only;rw[if_neg he,if_pos hp];rfl
theorem Qc3 {t:RS} (h:t.p<=s.length+1):Up s t (VB s t):=by
 have u:=QG s t h
 unfold VB
 split
 rename_i e
 have hl:(sSp s t).p<s.length:=QX (by intro e0;apply e;rw[e0];rfl)
 have v:Up s t ((sSp s t).go ((sSp s t).p+1)):=⟨by have:=u.1;simp only[RS.go_p];omega,by simp only[RS.go_p];omega⟩
 exact v.trans (QG s _ v.2)
 exact u
theorem Qjo (h8:8<=c) (hG:GB s c G) {t:RS} {left:List SelD} (h:t.p<=s.length+1) (hb:t.bad=false) (he:¬Ud s t) (hp:QdA left=false) :
 VU G s ps pseudo t left=VU G s ps pseudo (VG G s ps pseudo (VB s t)).2 (Qj ⟨22,Uy s t,[],[],0,0,0,0⟩ (left++(VG G s ps pseudo (VB s t)).1)) /\
 ((VG G s ps pseudo (VB s t)).2.bad=true\/t.p<(VG G s ps pseudo (VB s t)).2.p):=by
 have u:=Qc3 (s:=s) h
 have pr:=Qob (ps:=ps) (pseudo:=pseudo) h8 hG (VB s t) u.2
 have pr':(VG G s ps pseudo (VB s t)).2.bad=true\/t.p<(VG G s ps pseudo (VB s t)).2.p:=by
  rcases pr with pr | pr
  exact .inl pr
  exact .inr (Nat.lt_of_le_of_lt u.1 pr)
 refine⟨?_,pr'⟩
 unfold Ud at he
 conv=>lhs;unfold VU
 rw[if_neg (by rw[hb];simp)]
 simp only
 rw[if_neg he,if_neg (by rw[hp];simp)]
 show (if t.p<(VG G s ps pseudo (VB s t)).2.p/\t.p<s.length then VU G s ps pseudo (VG G s ps pseudo (VB s t)).2 (Qj ⟨22,Uy s t,[],[],0,0,0,0⟩ (left++(VG G s ps pseudo (VB s t)).1))
  else (Qj ⟨22,Uy s t,[],[],0,0,0,0⟩ (left++(VG G s ps pseudo (VB s t)).1),(VG G s ps pseudo (VB s t)).2))=_
 split
 rfl
 rename_i hn
 have:(VG G s ps pseudo (VB s t)).2.bad=true:=by
  rcases pr' with pr | pr
  exact pr
  refine absurd ⟨pr,?_⟩ hn
  apply Decidable.byContradiction
  intro hl
  refine he ⟨?_,.inl ?_⟩
  have:=Qdf s t
  rw[bat_out (by omega)];rfl
  have:=Qdf s t
  omega
 rw[QeY this]
end
end
end Go.Proofs.YtengepcafdnalaaGreatDoor
