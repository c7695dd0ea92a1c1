/-
  Parts of the proof that the law FnPrintGrammar holds for every input (texts Ld, Le). Conditions: none.
-/
import Derived.Test.YtengepcafdnalaaGreatDoorM27
namespace Go.Proofs.YtengepcafdnalaaGreatDoor
open _root_.List renaming getD_eq_getElem?_getD → za, mem_cons → zp, not_mem_nil → zT, getElem?_eq_getElem → ze
open _root_.Nat renaming strongRecOn → zi
open Go.Proofs.Tryz renaming f70 → xD
open _root_.UInt8 renaming toNat_or → zb
section
open Go Go.RowKit
set_option maxRecDepth 20000
def c70 (m:Nat) (svs:List SV) (b:Option SB) (K:Out->Option SB->Prop):Prop:=match svs,b with
 | [.ptr 0 0],some (.blk 94 [.str s,.nat i,.nat d,.bool a])=>s.length<=1000000/\i<=s.length/\d<=1001/\1002<=d+m/\Qu (QD s a (1001-d) i) (fun v=>i<v.2/\v.2<=s.length->K (.val (.tup [.sl (.csels v.1),.nilif])) (some (.blk 94 [.str s,.nat v.2,.nat d,.bool a]))) (∀j,K (.val (.tup [.sl (.csels []),.ifx])) (some (.blk 94 [.str s,.nat j,.nat d,.bool a])))
 | _,_=>False
theorem Qrq:Has 70:=hsf xD
section
variable {G:Nat->Option (List CSel×Nat)} {s n:Bs} {j k:Nat}
theorem psG (hn:n=[110,111,116]\/n=[104,97,115]\/n=[104,97,115,99,104,105,108,100]):V4 G s n j=(Zw G s n j).map fun p=>(some p.1,[],p.2):=by
 unfold V4;exact if_pos hn
theorem QiO {v:List CSel×Nat} {e:Nat} (ho:Vs s j=some k) (hg:G k=some v) (hc:QP s v.2=some e):Zw G s n j=some (.rel n v.1,e):=by
 obtain⟨l,m⟩:=v
 unfold Zw;rw[ho];dsimp only;rw[hg];dsimp only;dsimp only at hc;rw[hc];rfl
theorem Qmb (ho:Vs s j=none):Zw G s n j=none:=by unfold Zw;rw[ho]
theorem Qma (ho:Vs s j=some k) (hg:G k=none):Zw G s n j=none:=by unfold Zw;rw[ho];dsimp only;rw[hg]
theorem Ql9 {v:List CSel×Nat} (ho:Vs s j=some k) (hg:G k=some v) (hc:QP s v.2=none):Zw G s n j=none:=by
 obtain⟨l,m⟩:=v
 unfold Zw;rw[ho];dsimp only;rw[hg];dsimp only;dsimp only at hc;rw[hc];rfl
theorem psV (hn:n=[99,111,110,116,97,105,110,115]\/n=[99,111,110,116,97,105,110,115,111,119,110]):V4 G s n j=(Zc s (decide (n=[99,111,110,116,97,105,110,115,111,119,110])) j).map fun p=>(some p.1,[],p.2):=by
 unfold V4;rw[if_neg (show ¬(n=Zy\/n=Zz\/n=nHasChild) from by rcases hn with h | h<;>(subst h;decide))]
 exact if_pos hn
theorem QbA {o:Bool} {v:Bs×Nat} {e:Nat} (ho:Vs s j=some k) (hl:k<s.length) (hv:(if bat s k=39\/bat s k=34 then Jb s k else QC s k)=some v) (hc:QP s (iWs s v.2)=some e):Zc s o j=some (.contains (low v.1) o,e):=by
 obtain⟨l,m⟩:=v
 have hc:QP s m=some e:=by unfold QP at hc ⊢;rwa [Law.iWs_fix]at hc
 unfold Zc;rw[ho];dsimp only;rw[if_pos hl,hv];dsimp only;rw[hc];rfl
theorem Qsl {o:Bool} (ho:Vs s j=none):Zc s o j=none:=by unfold Zc;rw[ho]
theorem Qsk {o:Bool} (ho:Vs s j=some k) (hl:¬k<s.length):Zc s o j=none:=by unfold Zc;rw[ho];dsimp only;rw[if_neg hl]
theorem QdG {o:Bool} (ho:Vs s j=some k) (hl:k<s.length) (hv:(if bat s k=39\/bat s k=34 then Jb s k else QC s k)=none):Zc s o j=none:=by
 unfold Zc;rw[ho];dsimp only;rw[if_pos hl,hv]
theorem JJ {o:Bool} {v:Bs×Nat} (ho:Vs s j=some k) (hl:k<s.length) (hv:(if bat s k=39\/bat s k=34 then Jb s k else QC s k)=some v) (hc:s.length<=iWs s v.2\/QP s (iWs s v.2)=none):Zc s o j=none:=by
 obtain⟨l,m⟩:=v
 have hc:QP s m=none:=by
  rcases hc with hc | hc
  unfold QP;rw[if_neg (fun q=>by dsimp only at hc;omega)]
  unfold QP at hc ⊢;rwa [Law.iWs_fix]at hc
 unfold Zc;rw[ho];dsimp only;rw[if_pos hl,hv];dsimp only;rw[hc];rfl
theorem psN (hn:n=[110,116,104,45,99,104,105,108,100]\/n=[110,116,104,45,108,97,115,116,45,99,104,105,108,100]\/n=[110,116,104,45,111,102,45,116,121,112,101]\/n=[110,116,104,45,108,97,115,116,45,111,102,45,116,121,112,101]) :
 V4 G s n j=(Zd s (decide (n=[110,116,104,45,108,97,115,116,45,99,104,105,108,100])||decide (n=[110,116,104,45,108,97,115,116,45,111,102,45,116,121,112,101])) (decide (n=[110,116,104,45,111,102,45,116,121,112,101])||decide (n=[110,116,104,45,108,97,115,116,45,111,102,45,116,121,112,101])) j).map fun p=>(some p.1,[],p.2):=by
 rw[<-Bool.decide_or,<-Bool.decide_or]
 unfold V4
 rw[if_neg (show ¬(n=Zy\/n=Zz\/n=nHasChild) from by rcases hn with h | h | h | h<;>(subst h;decide)),if_neg (show ¬(n=VJ\/n=Q8) from by rcases hn with h | h | h | h<;>(subst h;decide))]
 exact if_pos hn
theorem QeC {l t:Bool} {v:Int×Int×Nat} {e:Nat} (ho:Vs s j=some k) (hv:Ym s k=some v) (hc:QP s v.2.2=some e):Zd s l t j=some (.nth v.1 v.2.1 l t,e):=by
 obtain⟨x,y,m⟩:=v
 unfold Zd;rw[ho];dsimp only;rw[hv];dsimp only;dsimp only at hc;rw[hc];rfl
theorem QiN {l t:Bool} (ho:Vs s j=none):Zd s l t j=none:=by unfold Zd;rw[ho]
theorem QiM {l t:Bool} (ho:Vs s j=some k) (hv:Ym s k=none):Zd s l t j=none:=by unfold Zd;rw[ho];dsimp only;rw[hv]
theorem QiL {l t:Bool} {v:Int×Int×Nat} (ho:Vs s j=some k) (hv:Ym s k=some v) (hc:QP s v.2.2=none):Zd s l t j=none:=by
 obtain⟨x,y,m⟩:=v
 unfold Zd;rw[ho];dsimp only;rw[hv];dsimp only;dsimp only at hc;rw[hc];rfl
theorem psL (hn:n=[108,97,110,103]):V4 G s n j=(Zv s j).map fun p=>(some p.1,[],p.2):=by
 subst hn
 unfold V4;rw[if_neg (by decide),if_neg (by decide),if_neg (by decide)]
 exact if_pos rfl
theorem Quq {v:Bs×Nat} {e:Nat} (ho:Vs s j=some k) (hl:k<s.length) (hv:QC s k=some v) (hc:QP s (iWs s v.2)=some e):Zv s j=some (.lang (low v.1),e):=by
 obtain⟨l,m⟩:=v
 have hc:QP s m=some e:=by unfold QP at hc ⊢;rwa [Law.iWs_fix]at hc
 unfold Zv;rw[ho];dsimp only;rw[if_pos hl,hv];dsimp only;rw[hc];rfl
theorem Qzg (ho:Vs s j=none):Zv s j=none:=by unfold Zv;rw[ho]
theorem Qzf (ho:Vs s j=some k) (hl:¬k<s.length):Zv s j=none:=by unfold Zv;rw[ho];dsimp only;rw[if_neg hl]
theorem Qze (ho:Vs s j=some k) (hl:k<s.length) (hv:QC s k=none):Zv s j=none:=by unfold Zv;rw[ho];dsimp only;rw[if_pos hl,hv]
theorem Qso {v:Bs×Nat} (ho:Vs s j=some k) (hl:k<s.length) (hv:QC s k=some v) (hc:s.length<=iWs s v.2\/QP s (iWs s v.2)=none):Zv s j=none:=by
 obtain⟨l,m⟩:=v
 have hc:QP s m=none:=by
  rcases hc with hc | hc
  unfold QP;rw[if_neg (fun q=>by dsimp only at hc;omega)]
  unfold QP at hc ⊢;rwa [Law.iWs_fix]at hc
 unfold Zv;rw[ho];dsimp only;rw[if_pos hl,hv];dsimp only;rw[hc];rfl
theorem Qj6 {i:Nat} {v:Bs×Nat} (hl:i+1<s.length) (hv:QC s (if bat s (i+1)=58 then i+2 else i+1)=some v) (h:bat s (i+1)=58->low v.1∈elNames):iPs G s i=V4 G s (low v.1) v.2:=by
 obtain⟨w,m⟩:=v
 unfold iPs;rw[if_pos hl,hv];dsimp only;rw[if_neg (fun q=>q.2 (h q.1))]
theorem QtL {i:Nat} {v:Bs×Nat} (hv:QC s (if bat s (i+1)=58 then i+2 else i+1)=some v) (h:bat s (i+1)=58/\low v.1∉elNames):iPs G s i=none:=by
 obtain⟨w,m⟩:=v
 unfold iPs;rw[hv];dsimp only;rw[if_pos h];split<;>rfl
theorem Qna {i:Nat} (hv:QC s (if bat s (i+1)=58 then i+2 else i+1)=none):iPs G s i=none:=by
 unfold iPs;rw[hv];split<;>rfl
theorem QtK {i:Nat} (hl:¬i+1<s.length):iPs G s i=none:=by
 unfold iPs;rw[if_neg hl]
end
def c119 (m:Nat) (svs:List SV) (b:Option SB) (K:Out->Option SB->Prop):Prop:=match svs,b with
 | [.ptr 0 0],some (.blk 94 [.str s,.nat i,.nat d,.bool a])=>s.length<=1000000/\i<=s.length/\d<=1001/\1002<=d+m/\i<s.length/\bat s i=58/\Qu (iPs (QD s a (1001-d)) s i) (fun v=>i<v.2.2/\v.2.2<=s.length->Qu v.1 (fun x=>K (.val (.tup [.cs x,.str [],.nilif])) (some (.blk 94 [.str s,.nat v.2.2,.nat d,.bool a]))) (K (.val (.tup [.nilif,.str v.2.1,.nilif])) (some (.blk 94 [.str s,.nat v.2.2,.nat d,.bool a])))) (∀j,K (.val (.tup [.nilif,.str [],.ifx])) (some (.blk 94 [.str s,.nat j,.nat d,.bool a])))
 | _,_=>False
noncomputable def Qmk (m:Nat):Wk:=⟨[(70,.plain (c70 m)),(71,.pure c71),(99,.fn c99),(129,.plain c129),(130,.pure Qpc),(132,.plain c132),(133,.plain c133),(134,.plain c134),(135,.pure c135),(136,.plain c136)],Qh Tryz.f119,true,false,[.tmp 2,.tmp 3,.tmp 4],[56,9,71],[(17,93)],[17]⟩
theorem Qx9:Has 119:=hsf Tryz.f119
theorem QF {p q:Prop} (k:q) (h:p:=by first | omega | (simp;done) | (simp;omega) | (simp;assumption)):p/\q:=⟨h,k⟩
theorem Qwr (m:Nat) (hG:Sat 70 (c70 m)):Sat 119 (c119 m):=by
 have hD:Qb (Qmk m).D:=(Qb.cons Qrq hG (Qb.cons Jg Jd (Qb.cons Qg8 Qgv (Qb.cons Qis QhD (Qb.cons Qir QhC (Qb.cons Qrx Qp1 (Qb.cons Qx3 Qwl (Qb.cons Qx2 Qwk (Qb.cons Qx1 Qwj (Qb.cons Qx0 Qwi Qb.nil))))))))))
 refine (Qmk m).sa hD Tryz.f119 fun svs b K hP=>?_
 unfold c119 at hP
 split at hP
 rename_i s i d a
 obtain⟨h01,h02,h03,h04,h05,h06,hk⟩:=hP
 have L17:∀(mm:Nat) (name:Bs) (p:Nat),0=mm->(i<p/\p<=s.length/\iPs (QD s a (1001-d)) s i=V4 (QD s a (1001-d)) s name p/\name.length<=10000000)->(Qmk m).C K 17 (mkS 402 [(0,(.ptr 0 0)),(2,.nilif),(3,(.str [])),(4,.nilif),(6,(.str name))] [(0,.blk 94 [(.str s),(.nat p),(.nat d),(.bool a)])] 1):=by
  intro mm
  induction mm using zi with
  | _ mm ih=>
   intro name p hm hI
   obtain⟨k1,k2,k3,k4⟩:=hI
   refine (Qmk m).aC hD (have a0:Option SB:=some (.blk 94 [(.str s),(.nat p),(.nat d),(.bool a)]);have a1:Out:=.val (.tup [.nilif,(.str []),.ifx]);have a2:=s.length<=1000000;have a3:=decide (name=[110,116,104,45,108,97,115,116,45,111,102,45,116,121,112,101]);have a4:=decide (name=[99,111,110,116,97,105,110,115,111,119,110]);have a5:Out:=.val (.tup [.nilif,(.str name),.nilif]);have a6:=decide (name=[110,116,104,45,108,97,115,116,45,99,104,105,108,100]);have a7:=decide (name=[110,116,104,45,111,102,45,116,121,112,101]);have a8:Out:=.val (.tup [(.cs (.never ([58]++name))),(.str []),.nilif]);have a9:=p<=s.length;cond (decide (name=[110,111,116])) (a2/\a9/\Qu (Vs s p) (fun j5=>(p<j5/\j5<=s.length)->a2/\(j5<=s.length)/\(d<=1001)/\(1002<=d+m)/\Qu ((QD s a (1001-d)) j5) (fun v6=>(j5<v6.2/\v6.2<=s.length)->a2/\(v6.2<=s.length)/\Qu (QP s v6.2) (fun j8=>(v6.2<j8/\j8<=s.length)->K (.val (.tup [(.cs (.rel name v6.1)),(.str []),.nilif])) (some (.blk 94 [(.str s),(.nat j8),(.nat d),(.bool a)]))) (K a1 (some (.blk 94 [(.str s),(.nat v6.2),(.nat d),(.bool a)])))) (∀j7:Nat,K a1 (some (.blk 94 [(.str s),(.nat j7),(.nat d),(.bool a)])))) (K a1 a0)) (cond (decide (name=[104,97,115])) (a2/\a9/\Qu (Vs s p) (fun j9=>(p<j9/\j9<=s.length)->a2/\(j9<=s.length)/\(d<=1001)/\(1002<=d+m)/\Qu ((QD s a (1001-d)) j9) (fun v10=>(j9<v10.2/\v10.2<=s.length)->a2/\(v10.2<=s.length)/\Qu (QP s v10.2) (fun j12=>(v10.2<j12/\j12<=s.length)->K (.val (.tup [(.cs (.rel name v10.1)),(.str []),.nilif])) (some (.blk 94 [(.str s),(.nat j12),(.nat d),(.bool a)]))) (K a1 (some (.blk 94 [(.str s),(.nat v10.2),(.nat d),(.bool a)])))) (∀j11:Nat,K a1 (some (.blk 94 [(.str s),(.nat j11),(.nat d),(.bool a)])))) (K a1 a0)) (cond (decide (name=[104,97,115,99,104,105,108,100])) (a2/\a9/\Qu (Vs s p) (fun j13=>(p<j13/\j13<=s.length)->a2/\(j13<=s.length)/\(d<=1001)/\(1002<=d+m)/\Qu ((QD s a (1001-d)) j13) (fun v14=>(j13<v14.2/\v14.2<=s.length)->a2/\(v14.2<=s.length)/\Qu (QP s v14.2) (fun j16=>(v14.2<j16/\j16<=s.length)->K (.val (.tup [(.cs (.rel name v14.1)),(.str []),.nilif])) (some (.blk 94 [(.str s),(.nat j16),(.nat d),(.bool a)]))) (K a1 (some (.blk 94 [(.str s),(.nat v14.2),(.nat d),(.bool a)])))) (∀j15:Nat,K a1 (some (.blk 94 [(.str s),(.nat j15),(.nat d),(.bool a)])))) (K a1 a0)) (cond (decide (name=[99,111,110,116,97,105,110,115])) (a2/\a9/\Qu (Vs s p) (fun j17=>(p<j17/\j17<=s.length)->cond (decide (j17=s.length)) (K a1 (some (.blk 94 [(.str s),(.nat j17),(.nat d),(.bool a)]))) ((j17<s.length)/\cond (decide (bat s j17=39)) (a2/\(j17<=s.length)/\Qu (Jb s j17) (fun v18=>(j17<v18.2/\v18.2<=s.length/\v18.1.length<=4*(v18.2-j17))->(v18.1.length<=1000000000)/\a2/\(v18.2<=s.length)/\cond (decide (s.length<=iWs s v18.2)) (K a1 (some (.blk 94 [(.str s),(.nat (iWs s v18.2)),(.nat d),(.bool a)]))) (a2/\(iWs s v18.2<=s.length)/\Qu (QP s (iWs s v18.2)) (fun j20=>(iWs s v18.2<j20/\j20<=s.length)->K (.val (.tup [(.cs (.contains (low v18.1) a4)),(.str []),.nilif])) (some (.blk 94 [(.str s),(.nat j20),(.nat d),(.bool a)]))) (K a1 (some (.blk 94 [(.str s),(.nat (iWs s v18.2)),(.nat d),(.bool a)]))))) (∀j19:Nat,K a1 (some (.blk 94 [(.str s),(.nat j19),(.nat d),(.bool a)])))) (cond (decide (bat s j17=34)) (a2/\(j17<=s.length)/\Qu (Jb s j17) (fun v21=>(j17<v21.2/\v21.2<=s.length/\v21.1.length<=4*(v21.2-j17))->(v21.1.length<=1000000000)/\a2/\(v21.2<=s.length)/\cond (decide (s.length<=iWs s v21.2)) (K a1 (some (.blk 94 [(.str s),(.nat (iWs s v21.2)),(.nat d),(.bool a)]))) (a2/\(iWs s v21.2<=s.length)/\Qu (QP s (iWs s v21.2)) (fun j23=>(iWs s v21.2<j23/\j23<=s.length)->K (.val (.tup [(.cs (.contains (low v21.1) a4)),(.str []),.nilif])) (some (.blk 94 [(.str s),(.nat j23),(.nat d),(.bool a)]))) (K a1 (some (.blk 94 [(.str s),(.nat (iWs s v21.2)),(.nat d),(.bool a)]))))) (∀j22:Nat,K a1 (some (.blk 94 [(.str s),(.nat j22),(.nat d),(.bool a)])))) (a2/\(j17<=s.length)/\Qu (QC s j17) (fun v24=>(j17<v24.2/\v24.2<=s.length/\v24.1.length<=4*(v24.2-j17))->(v24.1.length<=1000000000)/\a2/\(v24.2<=s.length)/\cond (decide (s.length<=iWs s v24.2)) (K a1 (some (.blk 94 [(.str s),(.nat (iWs s v24.2)),(.nat d),(.bool a)]))) (a2/\(iWs s v24.2<=s.length)/\Qu (QP s (iWs s v24.2)) (fun j26=>(iWs s v24.2<j26/\j26<=s.length)->K (.val (.tup [(.cs (.contains (low v24.1) a4)),(.str []),.nilif])) (some (.blk 94 [(.str s),(.nat j26),(.nat d),(.bool a)]))) (K a1 (some (.blk 94 [(.str s),(.nat (iWs s v24.2)),(.nat d),(.bool a)]))))) (∀j25:Nat,K a1 (some (.blk 94 [(.str s),(.nat j25),(.nat d),(.bool a)]))))))) (K a1 a0)) (cond a4 (a2/\a9/\Qu (Vs s p) (fun j27=>(p<j27/\j27<=s.length)->cond (decide (j27=s.length)) (K a1 (some (.blk 94 [(.str s),(.nat j27),(.nat d),(.bool a)]))) ((j27<s.length)/\cond (decide (bat s j27=39)) (a2/\(j27<=s.length)/\Qu (Jb s j27) (fun v28=>(j27<v28.2/\v28.2<=s.length/\v28.1.length<=4*(v28.2-j27))->(v28.1.length<=1000000000)/\a2/\(v28.2<=s.length)/\cond (decide (s.length<=iWs s v28.2)) (K a1 (some (.blk 94 [(.str s),(.nat (iWs s v28.2)),(.nat d),(.bool a)]))) (a2/\(iWs s v28.2<=s.length)/\Qu (QP s (iWs s v28.2)) (fun j30=>(iWs s v28.2<j30/\j30<=s.length)->K (.val (.tup [(.cs (.contains (low v28.1) a4)),(.str []),.nilif])) (some (.blk 94 [(.str s),(.nat j30),(.nat d),(.bool a)]))) (K a1 (some (.blk 94 [(.str s),(.nat (iWs s v28.2)),(.nat d),(.bool a)]))))) (∀j29:Nat,K a1 (some (.blk 94 [(.str s),(.nat j29),(.nat d),(.bool a)])))) (cond (decide (bat s j27=34)) (a2/\(j27<=s.length)/\Qu (Jb s j27) (fun v31=>(j27<v31.2/\v31.2<=s.length/\v31.1.length<=4*(v31.2-j27))->(v31.1.length<=1000000000)/\a2/\(v31.2<=s.length)/\cond (decide (s.length<=iWs s v31.2)) (K a1 (some (.blk 94 [(.str s),(.nat (iWs s v31.2)),(.nat d),(.bool a)]))) (a2/\(iWs s v31.2<=s.length)/\Qu (QP s (iWs s v31.2)) (fun j33=>(iWs s v31.2<j33/\j33<=s.length)->K (.val (.tup [(.cs (.contains (low v31.1) a4)),(.str []),.nilif])) (some (.blk 94 [(.str s),(.nat j33),(.nat d),(.bool a)]))) (K a1 (some (.blk 94 [(.str s),(.nat (iWs s v31.2)),(.nat d),(.bool a)]))))) (∀j32:Nat,K a1 (some (.blk 94 [(.str s),(.nat j32),(.nat d),(.bool a)])))) (a2/\(j27<=s.length)/\Qu (QC s j27) (fun v34=>(j27<v34.2/\v34.2<=s.length/\v34.1.length<=4*(v34.2-j27))->(v34.1.length<=1000000000)/\a2/\(v34.2<=s.length)/\cond (decide (s.length<=iWs s v34.2)) (K a1 (some (.blk 94 [(.str s),(.nat (iWs s v34.2)),(.nat d),(.bool a)]))) (a2/\(iWs s v34.2<=s.length)/\Qu (QP s (iWs s v34.2)) (fun j36=>(iWs s v34.2<j36/\j36<=s.length)->K (.val (.tup [(.cs (.contains (low v34.1) a4)),(.str []),.nilif])) (some (.blk 94 [(.str s),(.nat j36),(.nat d),(.bool a)]))) (K a1 (some (.blk 94 [(.str s),(.nat (iWs s v34.2)),(.nat d),(.bool a)]))))) (∀j35:Nat,K a1 (some (.blk 94 [(.str s),(.nat j35),(.nat d),(.bool a)]))))))) (K a1 a0)) (cond (decide (name=[110,116,104,45,99,104,105,108,100])) (a2/\a9/\Qu (Vs s p) (fun j37=>(p<j37/\j37<=s.length)->a2/\(j37<=s.length)/\Qu (Ym s j37) (fun v38=>(j37<=v38.2.2/\v38.2.2<=s.length)->a2/\(v38.2.2<=s.length)/\Qu (QP s v38.2.2) (fun j40=>(v38.2.2<j40/\j40<=s.length)->K (.val (.tup [(.cs (.nth v38.1 v38.2.1 (a6||a3) (a7||a3))),(.str []),.nilif])) (some (.blk 94 [(.str s),(.nat j40),(.nat d),(.bool a)]))) (K a1 (some (.blk 94 [(.str s),(.nat v38.2.2),(.nat d),(.bool a)])))) (∀j39:Nat,K a1 (some (.blk 94 [(.str s),(.nat j39),(.nat d),(.bool a)])))) (K a1 a0)) (cond a6 (a2/\a9/\Qu (Vs s p) (fun j41=>(p<j41/\j41<=s.length)->a2/\(j41<=s.length)/\Qu (Ym s j41) (fun v42=>(j41<=v42.2.2/\v42.2.2<=s.length)->a2/\(v42.2.2<=s.length)/\Qu (QP s v42.2.2) (fun j44=>(v42.2.2<j44/\j44<=s.length)->K (.val (.tup [(.cs (.nth v42.1 v42.2.1 (a6||a3) (a7||a3))),(.str []),.nilif])) (some (.blk 94 [(.str s),(.nat j44),(.nat d),(.bool a)]))) (K a1 (some (.blk 94 [(.str s),(.nat v42.2.2),(.nat d),(.bool a)])))) (∀j43:Nat,K a1 (some (.blk 94 [(.str s),(.nat j43),(.nat d),(.bool a)])))) (K a1 a0)) (cond a7 (a2/\a9/\Qu (Vs s p) (fun j45=>(p<j45/\j45<=s.length)->a2/\(j45<=s.length)/\Qu (Ym s j45) (fun v46=>(j45<=v46.2.2/\v46.2.2<=s.length)->a2/\(v46.2.2<=s.length)/\Qu (QP s v46.2.2) (fun j48=>(v46.2.2<j48/\j48<=s.length)->K (.val (.tup [(.cs (.nth v46.1 v46.2.1 (a6||a3) (a7||a3))),(.str []),.nilif])) (some (.blk 94 [(.str s),(.nat j48),(.nat d),(.bool a)]))) (K a1 (some (.blk 94 [(.str s),(.nat v46.2.2),(.nat d),(.bool a)])))) (∀j47:Nat,K a1 (some (.blk 94 [(.str s),(.nat j47),(.nat d),(.bool a)])))) (K a1 a0)) (cond a3 (a2/\a9/\Qu (Vs s p) (fun j49=>(p<j49/\j49<=s.length)->a2/\(j49<=s.length)/\Qu (Ym s j49) (fun v50=>(j49<=v50.2.2/\v50.2.2<=s.length)->a2/\(v50.2.2<=s.length)/\Qu (QP s v50.2.2) (fun j52=>(v50.2.2<j52/\j52<=s.length)->K (.val (.tup [(.cs (.nth v50.1 v50.2.1 (a6||a3) (a7||a3))),(.str []),.nilif])) (some (.blk 94 [(.str s),(.nat j52),(.nat d),(.bool a)]))) (K a1 (some (.blk 94 [(.str s),(.nat v50.2.2),(.nat d),(.bool a)])))) (∀j51:Nat,K a1 (some (.blk 94 [(.str s),(.nat j51),(.nat d),(.bool a)])))) (K a1 a0)) (cond (decide (name=[102,105,114,115,116,45,99,104,105,108,100])) (K (.val (.tup [(.cs (.nth (0:Int) (1:Int) false false)),(.str []),.nilif])) a0) (cond (decide (name=[108,97,115,116,45,99,104,105,108,100])) (K (.val (.tup [(.cs (.nth (0:Int) (1:Int) true false)),(.str []),.nilif])) a0) (cond (decide (name=[102,105,114,115,116,45,111,102,45,116,121,112,101])) (K (.val (.tup [(.cs (.nth (0:Int) (1:Int) false true)),(.str []),.nilif])) a0) (cond (decide (name=[108,97,115,116,45,111,102,45,116,121,112,101])) (K (.val (.tup [(.cs (.nth (0:Int) (1:Int) true true)),(.str []),.nilif])) a0) (cond (decide (name=[111,110,108,121,45,99,104,105,108,100])) (K (.val (.tup [(.cs (.only false)),(.str []),.nilif])) a0) (cond (decide (name=[111,110,108,121,45,111,102,45,116,121,112,101])) (K (.val (.tup [(.cs (.only true)),(.str []),.nilif])) a0) (cond (decide (name=[105,110,112,117,116])) (K (.val (.tup [(.cs CSel.input),(.str []),.nilif])) a0) (cond (decide (name=[101,109,112,116,121])) (K (.val (.tup [(.cs CSel.empty),(.str []),.nilif])) a0) (cond (decide (name=[114,111,111,116])) (K (.val (.tup [(.cs CSel.root),(.str []),.nilif])) a0) (cond (decide (name=[108,105,110,107])) (K (.val (.tup [(.cs CSel.link),(.str []),.nilif])) a0) (cond (decide (name=[108,97,110,103])) (a2/\a9/\Qu (Vs s p) (fun j53=>(p<j53/\j53<=s.length)->cond (decide (j53=s.length)) (K a1 (some (.blk 94 [(.str s),(.nat j53),(.nat d),(.bool a)]))) (a2/\(j53<=s.length)/\Qu (QC s j53) (fun v54=>(j53<v54.2/\v54.2<=s.length/\v54.1.length<=4*(v54.2-j53))->(v54.1.length<=1000000000)/\a2/\(v54.2<=s.length)/\cond (decide (s.length<=iWs s v54.2)) (K a1 (some (.blk 94 [(.str s),(.nat (iWs s v54.2)),(.nat d),(.bool a)]))) (a2/\(iWs s v54.2<=s.length)/\Qu (QP s (iWs s v54.2)) (fun j56=>(iWs s v54.2<j56/\j56<=s.length)->K (.val (.tup [(.cs (.lang (low v54.1))),(.str []),.nilif])) (some (.blk 94 [(.str s),(.nat j56),(.nat d),(.bool a)]))) (K a1 (some (.blk 94 [(.str s),(.nat (iWs s v54.2)),(.nat d),(.bool a)]))))) (∀j55:Nat,K a1 (some (.blk 94 [(.str s),(.nat j55),(.nat d),(.bool a)]))))) (K a1 a0)) (cond (decide (name=[101,110,97,98,108,101,100])) (K (.val (.tup [(.cs CSel.enabled),(.str []),.nilif])) a0) (cond (decide (name=[100,105,115,97,98,108,101,100])) (K (.val (.tup [(.cs CSel.disabled),(.str []),.nilif])) a0) (cond (decide (name=[99,104,101,99,107,101,100])) (K (.val (.tup [(.cs CSel.checked),(.str []),.nilif])) a0) (cond (decide (name=[118,105,115,105,116,101,100])) ((1+name.length<=2305843009213693952)/\K a8 a0) (cond (decide (name=[104,111,118,101,114])) ((1+name.length<=2305843009213693952)/\K a8 a0) (cond (decide (name=[97,99,116,105,118,101])) ((1+name.length<=2305843009213693952)/\K a8 a0) (cond (decide (name=[102,111,99,117,115])) ((1+name.length<=2305843009213693952)/\K a8 a0) (cond (decide (name=[116,97,114,103,101,116])) ((1+name.length<=2305843009213693952)/\K a8 a0) (cond (decide (name=[97,102,116,101,114])) (K a5 a0) (cond (decide (name=[98,97,99,107,100,114,111,112])) (K a5 a0) (cond (decide (name=[98,101,102,111,114,101])) (K a5 a0) (cond (decide (name=[99,117,101])) (K a5 a0) (cond (decide (name=[102,105,114,115,116,45,108,101,116,116,101,114])) (K a5 a0) (cond (decide (name=[102,105,114,115,116,45,108,105,110,101])) (K a5 a0) (cond (decide (name=[103,114,97,109,109,97,114,45,101,114,114,111,114])) (K a5 a0) (cond (decide (name=[109,97,114,107,101,114])) (K a5 a0) (cond (decide (name=[112,108,97,99,101,104,111,108,100,101,114])) (K a5 a0) (cond (decide (name=[115,101,108,101,99,116,105,111,110])) (K a5 a0) (cond (decide (name=[115,112,101,108,108,105,110,103,45,101,114,114,111,114])) (K a5 a0) (K a1 a0)))))))))))))))))))))))))))))))))))))))) ?_
   refine Qa (fun h1=>?_) (fun h1=>?_)
   have h1:=of_decide_eq_true h1
   refine QF (QF ?_)
   refine QN (fun j5 h2=>?_) (fun h2=>?_)
   intro h3
   try simp[-za,-zb]at h3
   refine QF (QF (QF (QF ?_)))
   refine QN (fun v6 h4=>?_) (fun h4=>?_)
   intro h5
   try simp[-za,-zb]at h5
   refine QF (QF ?_)
   refine QN (fun j8 h6=>?_) (fun h6=>?_)
   intro h7
   try simp[-za,-zb]at h7
   have e:iPs (QD s a (1001-d)) s i=some (some (.rel name v6.1),[],j8):=by rw[k3,psG (.inl h1),QiO h2 h4 h6];rfl
   have q:=Qg hk e ⟨by dsimp only;omega,by dsimp only;omega⟩
   exact q
   exact Qc hk (by rw[k3,psG (.inl h1),Ql9 h2 h4 h6];rfl) _
   intro j7
   exact Qc hk (by rw[k3,psG (.inl h1),Qma h2 h4];rfl) _
   exact Qc hk (by rw[k3,psG (.inl h1),Qmb h2];rfl) _
   have h1:=of_decide_eq_false h1
   refine Qa (fun h2=>?_) (fun h2=>?_)
   have h2:=of_decide_eq_true h2
   refine QF (QF ?_)
   refine QN (fun j9 h3=>?_) (fun h3=>?_)
   intro h4
   try simp[-za,-zb]at h4
   refine QF (QF (QF (QF ?_)))
   refine QN (fun v10 h5=>?_) (fun h5=>?_)
   intro h6
   try simp[-za,-zb]at h6
   refine QF (QF ?_)
   refine QN (fun j12 h7=>?_) (fun h7=>?_)
   intro h8
   try simp[-za,-zb]at h8
   have e:iPs (QD s a (1001-d)) s i=some (some (.rel name v10.1),[],j12):=by rw[k3,psG (.inr (.inl h2)),QiO h3 h5 h7];rfl
   have q:=Qg hk e ⟨by dsimp only;omega,by dsimp only;omega⟩
   exact q
   exact Qc hk (by rw[k3,psG (.inr (.inl h2)),Ql9 h3 h5 h7];rfl) _
   intro j11
   exact Qc hk (by rw[k3,psG (.inr (.inl h2)),Qma h3 h5];rfl) _
   exact Qc hk (by rw[k3,psG (.inr (.inl h2)),Qmb h3];rfl) _
   have h2:=of_decide_eq_false h2
   refine Qa (fun h3=>?_) (fun h3=>?_)
   have h3:=of_decide_eq_true h3
   refine QF (QF ?_)
   refine QN (fun j13 h4=>?_) (fun h4=>?_)
   intro h5
   try simp[-za,-zb]at h5
   refine QF (QF (QF (QF ?_)))
   refine QN (fun v14 h6=>?_) (fun h6=>?_)
   intro h7
   try simp[-za,-zb]at h7
   refine QF (QF ?_)
   refine QN (fun j16 h8=>?_) (fun h8=>?_)
   intro h9
   try simp[-za,-zb]at h9
   have e:iPs (QD s a (1001-d)) s i=some (some (.rel name v14.1),[],j16):=by rw[k3,psG (.inr (.inr h3)),QiO h4 h6 h8];rfl
   have q:=Qg hk e ⟨by dsimp only;omega,by dsimp only;omega⟩
   exact q
   exact Qc hk (by rw[k3,psG (.inr (.inr h3)),Ql9 h4 h6 h8];rfl) _
   intro j15
   exact Qc hk (by rw[k3,psG (.inr (.inr h3)),Qma h4 h6];rfl) _
   exact Qc hk (by rw[k3,psG (.inr (.inr h3)),Qmb h4];rfl) _
   have h3:=of_decide_eq_false h3
   refine Qa (fun h4=>?_) (fun h4=>?_)
   have h4:=of_decide_eq_true h4
   refine QF (QF ?_)
   refine QN (fun j17 h5=>?_) (fun h5=>?_)
   intro h6
   try simp[-za,-zb]at h6
   refine Qa ?_ ?_<;>intro h7<;>try simp[-za,-zb]at h7
   exact Qc hk (by rw[k3,psV (.inl h4),Qsk h5 (by omega)];rfl) _
   refine QF ?_
   refine Qa ?_ ?_<;>intro h8<;>try simp[-za,-zb]at h8
   refine QF (QF ?_)
   refine QN (fun v18 h9=>?_) (fun h9=>?_)
   intro h10
   try simp[-za,-zb]at h10
   refine QF (QF (QF ?_))
   refine Qa ?_ ?_<;>intro h11<;>try simp[-za,-zb]at h11
   exact Qc hk (by rw[k3,psV (.inl h4),JJ h5 (by omega) (by rw[if_pos (.inl h8)];exact h9) (.inl (by omega))];rfl) _
   refine QF (QF ?_)
   refine QN (fun j20 h12=>?_) (fun h12=>?_)
   intro h13
   try simp[-za,-zb]at h13
   have w9:=Q4 s v18.2
   have e:iPs (QD s a (1001-d)) s i=some (some (.contains (low v18.1) (decide (name=[99,111,110,116,97,105,110,115,111,119,110]))),[],j20):=by rw[k3,psV (.inl h4),QbA h5 (by omega) (by rw[if_pos (.inl h8)];exact h9) h12];rfl
   have q:=Qg hk e ⟨by dsimp only;omega,by dsimp only;omega⟩
   exact q
   exact Qc hk (by rw[k3,psV (.inl h4),JJ h5 (by omega) (by rw[if_pos (.inl h8)];exact h9) (.inr h12)];rfl) _
   intro j19
   exact Qc hk (by rw[k3,psV (.inl h4),QdG h5 (by omega) (by rw[if_pos (.inl h8)];exact h9)];rfl) _
   refine Qa (fun h9=>?_) (fun h9=>?_)
   try simp[-za,-zb]at h9
   refine QF (QF ?_)
   refine QN (fun v21 h10=>?_) (fun h10=>?_)
   intro h11
   try simp[-za,-zb]at h11
   refine QF (QF (QF ?_))
   refine Qa ?_ ?_<;>intro h12<;>try simp[-za,-zb]at h12
   exact Qc hk (by rw[k3,psV (.inl h4),JJ h5 (by omega) (by rw[if_pos (.inr h9)];exact h10) (.inl (by omega))];rfl) _
   refine QF (QF ?_)
   refine QN (fun j23 h13=>?_) (fun h13=>?_)
   intro h14
   try simp[-za,-zb]at h14
   have w9:=Q4 s v21.2
   have e:iPs (QD s a (1001-d)) s i=some (some (.contains (low v21.1) (decide (name=[99,111,110,116,97,105,110,115,111,119,110]))),[],j23):=by rw[k3,psV (.inl h4),QbA h5 (by omega) (by rw[if_pos (.inr h9)];exact h10) h13];rfl
   have q:=Qg hk e ⟨by dsimp only;omega,by dsimp only;omega⟩
   exact q
   exact Qc hk (by rw[k3,psV (.inl h4),JJ h5 (by omega) (by rw[if_pos (.inr h9)];exact h10) (.inr h13)];rfl) _
   intro j22
   exact Qc hk (by rw[k3,psV (.inl h4),QdG h5 (by omega) (by rw[if_pos (.inr h9)];exact h10)];rfl) _
   try simp[-za,-zb]at h9
   refine QF (QF ?_)
   refine QN (fun v24 h10=>?_) (fun h10=>?_)
   intro h11
   try simp[-za,-zb]at h11
   refine QF (QF (QF ?_))
   refine Qa ?_ ?_<;>intro h12<;>try simp[-za,-zb]at h12
   exact Qc hk (by rw[k3,psV (.inl h4),JJ h5 (by omega) (by rw[if_neg (by omega)];exact h10) (.inl (by omega))];rfl) _
   refine QF (QF ?_)
   refine QN (fun j26 h13=>?_) (fun h13=>?_)
   intro h14
   try simp[-za,-zb]at h14
   have w9:=Q4 s v24.2
   have e:iPs (QD s a (1001-d)) s i=some (some (.contains (low v24.1) (decide (name=[99,111,110,116,97,105,110,115,111,119,110]))),[],j26):=by rw[k3,psV (.inl h4),QbA h5 (by omega) (by rw[if_neg (by omega)];exact h10) h13];rfl
   have q:=Qg hk e ⟨by dsimp only;omega,by dsimp only;omega⟩
   exact q
   exact Qc hk (by rw[k3,psV (.inl h4),JJ h5 (by omega) (by rw[if_neg (by omega)];exact h10) (.inr h13)];rfl) _
   intro j25
   exact Qc hk (by rw[k3,psV (.inl h4),QdG h5 (by omega) (by rw[if_neg (by omega)];exact h10)];rfl) _
   exact Qc hk (by rw[k3,psV (.inl h4),Qsl h5];rfl) _
   have h4:=of_decide_eq_false h4
   refine Qa (fun h5=>?_) (fun h5=>?_)
   have h5:=of_decide_eq_true h5
   refine QF (QF ?_)
   refine QN (fun j27 h6=>?_) (fun h6=>?_)
   intro h7
   try simp[-za,-zb]at h7
   refine Qa ?_ ?_<;>intro h8<;>try simp[-za,-zb]at h8
   exact Qc hk (by rw[k3,psV (.inr h5),Qsk h6 (by omega)];rfl) _
   refine QF ?_
   refine Qa ?_ ?_<;>intro h9<;>try simp[-za,-zb]at h9
   refine QF (QF ?_)
   refine QN (fun v28 h10=>?_) (fun h10=>?_)
   intro h11
   try simp[-za,-zb]at h11
   refine QF (QF (QF ?_))
   refine Qa ?_ ?_<;>intro h12<;>try simp[-za,-zb]at h12
   exact Qc hk (by rw[k3,psV (.inr h5),JJ h6 (by omega) (by rw[if_pos (.inl h9)];exact h10) (.inl (by omega))];rfl) _
   refine QF (QF ?_)
   refine QN (fun j30 h13=>?_) (fun h13=>?_)
   intro h14
   try simp[-za,-zb]at h14
   have w9:=Q4 s v28.2
   have e:iPs (QD s a (1001-d)) s i=some (some (.contains (low v28.1) (decide (name=[99,111,110,116,97,105,110,115,111,119,110]))),[],j30):=by rw[k3,psV (.inr h5),QbA h6 (by omega) (by rw[if_pos (.inl h9)];exact h10) h13];rfl
   have q:=Qg hk e ⟨by dsimp only;omega,by dsimp only;omega⟩
   exact q
   exact Qc hk (by rw[k3,psV (.inr h5),JJ h6 (by omega) (by rw[if_pos (.inl h9)];exact h10) (.inr h13)];rfl) _
   intro j29
   exact Qc hk (by rw[k3,psV (.inr h5),QdG h6 (by omega) (by rw[if_pos (.inl h9)];exact h10)];rfl) _
   refine Qa (fun h10=>?_) (fun h10=>?_)
   try simp[-za,-zb]at h10
   refine QF (QF ?_)
   refine QN (fun v31 h11=>?_) (fun h11=>?_)
   intro h12
   try simp[-za,-zb]at h12
   refine QF (QF (QF ?_))
   refine Qa ?_ ?_<;>intro h13<;>try simp[-za,-zb]at h13
   exact Qc hk (by rw[k3,psV (.inr h5),JJ h6 (by omega) (by rw[if_pos (.inr h10)];exact h11) (.inl (by omega))];rfl) _
   refine QF (QF ?_)
   refine QN (fun j33 h14=>?_) (fun h14=>?_)
   intro h15
   try simp[-za,-zb]at h15
   have w9:=Q4 s v31.2
   have e:iPs (QD s a (1001-d)) s i=some (some (.contains (low v31.1) (decide (name=[99,111,110,116,97,105,110,115,111,119,110]))),[],j33):=by rw[k3,psV (.inr h5),QbA h6 (by omega) (by rw[if_pos (.inr h10)];exact h11) h14];rfl
   have q:=Qg hk e ⟨by dsimp only;omega,by dsimp only;omega⟩
   exact q
   exact Qc hk (by rw[k3,psV (.inr h5),JJ h6 (by omega) (by rw[if_pos (.inr h10)];exact h11) (.inr h14)];rfl) _
   intro j32
   exact Qc hk (by rw[k3,psV (.inr h5),QdG h6 (by omega) (by rw[if_pos (.inr h10)];exact h11)];rfl) _
   try simp[-za,-zb]at h10
   refine QF (QF ?_)
   refine QN (fun v34 h11=>?_) (fun h11=>?_)
   intro h12
   try simp[-za,-zb]at h12
   refine QF (QF (QF ?_))
   refine Qa ?_ ?_<;>intro h13<;>try simp[-za,-zb]at h13
   exact Qc hk (by rw[k3,psV (.inr h5),JJ h6 (by omega) (by rw[if_neg (by omega)];exact h11) (.inl (by omega))];rfl) _
   refine QF (QF ?_)
   refine QN (fun j36 h14=>?_) (fun h14=>?_)
   intro h15
   try simp[-za,-zb]at h15
   have w9:=Q4 s v34.2
   have e:iPs (QD s a (1001-d)) s i=some (some (.contains (low v34.1) (decide (name=[99,111,110,116,97,105,110,115,111,119,110]))),[],j36):=by rw[k3,psV (.inr h5),QbA h6 (by omega) (by rw[if_neg (by omega)];exact h11) h14];rfl
   have q:=Qg hk e ⟨by dsimp only;omega,by dsimp only;omega⟩
   exact q
   exact Qc hk (by rw[k3,psV (.inr h5),JJ h6 (by omega) (by rw[if_neg (by omega)];exact h11) (.inr h14)];rfl) _
   intro j35
   exact Qc hk (by rw[k3,psV (.inr h5),QdG h6 (by omega) (by rw[if_neg (by omega)];exact h11)];rfl) _
   exact Qc hk (by rw[k3,psV (.inr h5),Qsl h6];rfl) _
   have h5:=of_decide_eq_false h5
   refine Qa (fun h6=>?_) (fun h6=>?_)
   have h6:=of_decide_eq_true h6
   refine QF (QF ?_)
   refine QN (fun j37 h7=>?_) (fun h7=>?_)
   intro h8
   try simp[-za,-zb]at h8
   refine QF (QF ?_)
   refine QN (fun v38 h9=>?_) (fun h9=>?_)
   intro h10
   try simp[-za,-zb]at h10
   refine QF (QF ?_)
   refine QN (fun j40 h11=>?_) (fun h11=>?_)
   intro h12
   try simp[-za,-zb]at h12
   have e:iPs (QD s a (1001-d)) s i=some (some (.nth v38.1 v38.2.1 ((decide (name=[110,116,104,45,108,97,115,116,45,99,104,105,108,100]))||(decide (name=[110,116,104,45,108,97,115,116,45,111,102,45,116,121,112,101]))) ((decide (name=[110,116,104,45,111,102,45,116,121,112,101]))||(decide (name=[110,116,104,45,108,97,115,116,45,111,102,45,116,121,112,101])))),[],j40):=by rw[k3,psN (.inl h6),QeC h7 h9 h11];rfl
   have q:=Qg hk e ⟨by dsimp only;omega,by dsimp only;omega⟩
   exact q
   exact Qc hk (by rw[k3,psN (.inl h6),QiL h7 h9 h11];rfl) _
   intro j39
   exact Qc hk (by rw[k3,psN (.inl h6),QiM h7 h9];rfl) _
   exact Qc hk (by rw[k3,psN (.inl h6),QiN h7];rfl) _
   have h6:=of_decide_eq_false h6
   refine Qa (fun h7=>?_) (fun h7=>?_)
   have h7:=of_decide_eq_true h7
   refine QF (QF ?_)
   refine QN (fun j41 h8=>?_) (fun h8=>?_)
   intro h9
   try simp[-za,-zb]at h9
   refine QF (QF ?_)
   refine QN (fun v42 h10=>?_) (fun h10=>?_)
   intro h11
   try simp[-za,-zb]at h11
   refine QF (QF ?_)
   refine QN (fun j44 h12=>?_) (fun h12=>?_)
   intro h13
   try simp[-za,-zb]at h13
   have e:iPs (QD s a (1001-d)) s i=some (some (.nth v42.1 v42.2.1 ((decide (name=[110,116,104,45,108,97,115,116,45,99,104,105,108,100]))||(decide (name=[110,116,104,45,108,97,115,116,45,111,102,45,116,121,112,101]))) ((decide (name=[110,116,104,45,111,102,45,116,121,112,101]))||(decide (name=[110,116,104,45,108,97,115,116,45,111,102,45,116,121,112,101])))),[],j44):=by rw[k3,psN (.inr (.inl h7)),QeC h8 h10 h12];rfl
   have q:=Qg hk e ⟨by dsimp only;omega,by dsimp only;omega⟩
   exact q
   exact Qc hk (by rw[k3,psN (.inr (.inl h7)),QiL h8 h10 h12];rfl) _
   intro j43
   exact Qc hk (by rw[k3,psN (.inr (.inl h7)),QiM h8 h10];rfl) _
   exact Qc hk (by rw[k3,psN (.inr (.inl h7)),QiN h8];rfl) _
   have h7:=of_decide_eq_false h7
   refine Qa (fun h8=>?_) (fun h8=>?_)
   have h8:=of_decide_eq_true h8
   refine QF (QF ?_)
   refine QN (fun j45 h9=>?_) (fun h9=>?_)
   intro h10
   try simp[-za,-zb]at h10
   refine QF (QF ?_)
   refine QN (fun v46 h11=>?_) (fun h11=>?_)
   intro h12
   try simp[-za,-zb]at h12
   refine QF (QF ?_)
   refine QN (fun j48 h13=>?_) (fun h13=>?_)
   intro h14
   try simp[-za,-zb]at h14
   have e:iPs (QD s a (1001-d)) s i=some (some (.nth v46.1 v46.2.1 ((decide (name=[110,116,104,45,108,97,115,116,45,99,104,105,108,100]))||(decide (name=[110,116,104,45,108,97,115,116,45,111,102,45,116,121,112,101]))) ((decide (name=[110,116,104,45,111,102,45,116,121,112,101]))||(decide (name=[110,116,104,45,108,97,115,116,45,111,102,45,116,121,112,101])))),[],j48):=by rw[k3,psN (.inr (.inr (.inl h8))),QeC h9 h11 h13];rfl
   have q:=Qg hk e ⟨by dsimp only;omega,by dsimp only;omega⟩
   exact q
   exact Qc hk (by rw[k3,psN (.inr (.inr (.inl h8))),QiL h9 h11 h13];rfl) _
   intro j47
   exact Qc hk (by rw[k3,psN (.inr (.inr (.inl h8))),QiM h9 h11];rfl) _
   exact Qc hk (by rw[k3,psN (.inr (.inr (.inl h8))),QiN h9];rfl) _
   have h8:=of_decide_eq_false h8
   refine Qa (fun h9=>?_) (fun h9=>?_)
   have h9:=of_decide_eq_true h9
   refine QF (QF ?_)
   refine QN (fun j49 h10=>?_) (fun h10=>?_)
   intro h11
   try simp[-za,-zb]at h11
   refine QF (QF ?_)
   refine QN (fun v50 h12=>?_) (fun h12=>?_)
   intro h13
   try simp[-za,-zb]at h13
   refine QF (QF ?_)
   refine QN (fun j52 h14=>?_) (fun h14=>?_)
   intro h15
   try simp[-za,-zb]at h15
   have e:iPs (QD s a (1001-d)) s i=some (some (.nth v50.1 v50.2.1 ((decide (name=[110,116,104,45,108,97,115,116,45,99,104,105,108,100]))||(decide (name=[110,116,104,45,108,97,115,116,45,111,102,45,116,121,112,101]))) ((decide (name=[110,116,104,45,111,102,45,116,121,112,101]))||(decide (name=[110,116,104,45,108,97,115,116,45,111,102,45,116,121,112,101])))),[],j52):=by rw[k3,psN (.inr (.inr (.inr h9))),QeC h10 h12 h14];rfl
   have q:=Qg hk e ⟨by dsimp only;omega,by dsimp only;omega⟩
   exact q
   exact Qc hk (by rw[k3,psN (.inr (.inr (.inr h9))),QiL h10 h12 h14];rfl) _
   intro j51
   exact Qc hk (by rw[k3,psN (.inr (.inr (.inr h9))),QiM h10 h12];rfl) _
   exact Qc hk (by rw[k3,psN (.inr (.inr (.inr h9))),QiN h10];rfl) _
   have h9:=of_decide_eq_false h9
   refine Qa (fun h10=>?_) (fun h10=>?_)
   have h10:=of_decide_eq_true h10
   have e:iPs (QD s a (1001-d)) s i=some (some (.nth (0:Int) (1:Int) false false),[],p):=by rw[k3,h10];rfl
   have q:=Qg hk e ⟨by dsimp only;omega,by dsimp only;omega⟩
   exact q
   have h10:=of_decide_eq_false h10
   refine Qa (fun h11=>?_) (fun h11=>?_)
   have h11:=of_decide_eq_true h11
   have e:iPs (QD s a (1001-d)) s i=some (some (.nth (0:Int) (1:Int) true false),[],p):=by rw[k3,h11];rfl
   have q:=Qg hk e ⟨by dsimp only;omega,by dsimp only;omega⟩
   exact q
   have h11:=of_decide_eq_false h11
   refine Qa (fun h12=>?_) (fun h12=>?_)
   have h12:=of_decide_eq_true h12
   have e:iPs (QD s a (1001-d)) s i=some (some (.nth (0:Int) (1:Int) false true),[],p):=by rw[k3,h12];rfl
   have q:=Qg hk e ⟨by dsimp only;omega,by dsimp only;omega⟩
   exact q
   have h12:=of_decide_eq_false h12
   refine Qa (fun h13=>?_) (fun h13=>?_)
   have h13:=of_decide_eq_true h13
   have e:iPs (QD s a (1001-d)) s i=some (some (.nth (0:Int) (1:Int) true true),[],p):=by rw[k3,h13];rfl
   have q:=Qg hk e ⟨by dsimp only;omega,by dsimp only;omega⟩
   exact q
   have h13:=of_decide_eq_false h13
   refine Qa (fun h14=>?_) (fun h14=>?_)
   have h14:=of_decide_eq_true h14
   have e:iPs (QD s a (1001-d)) s i=some (some (.only false),[],p):=by rw[k3,h14];rfl
   have q:=Qg hk e ⟨by dsimp only;omega,by dsimp only;omega⟩
   exact q
   have h14:=of_decide_eq_false h14
   refine Qa (fun h15=>?_) (fun h15=>?_)
   have h15:=of_decide_eq_true h15
   have e:iPs (QD s a (1001-d)) s i=some (some (.only true),[],p):=by rw[k3,h15];rfl
   have q:=Qg hk e ⟨by dsimp only;omega,by dsimp only;omega⟩
   exact q
   have h15:=of_decide_eq_false h15
   refine Qa (fun h16=>?_) (fun h16=>?_)
   have h16:=of_decide_eq_true h16
   have e:iPs (QD s a (1001-d)) s i=some (some CSel.input,[],p):=by rw[k3,h16];rfl
   have q:=Qg hk e ⟨by dsimp only;omega,by dsimp only;omega⟩
   exact q
   have h16:=of_decide_eq_false h16
   refine Qa (fun h17=>?_) (fun h17=>?_)
   have h17:=of_decide_eq_true h17
   have e:iPs (QD s a (1001-d)) s i=some (some CSel.empty,[],p):=by rw[k3,h17];rfl
   have q:=Qg hk e ⟨by dsimp only;omega,by dsimp only;omega⟩
   exact q
   have h17:=of_decide_eq_false h17
   refine Qa (fun h18=>?_) (fun h18=>?_)
   have h18:=of_decide_eq_true h18
   have e:iPs (QD s a (1001-d)) s i=some (some CSel.root,[],p):=by rw[k3,h18];rfl
   have q:=Qg hk e ⟨by dsimp only;omega,by dsimp only;omega⟩
   exact q
   have h18:=of_decide_eq_false h18
   refine Qa (fun h19=>?_) (fun h19=>?_)
   have h19:=of_decide_eq_true h19
   have e:iPs (QD s a (1001-d)) s i=some (some CSel.link,[],p):=by rw[k3,h19];rfl
   have q:=Qg hk e ⟨by dsimp only;omega,by dsimp only;omega⟩
   exact q
   have h19:=of_decide_eq_false h19
   refine Qa (fun h20=>?_) (fun h20=>?_)
   have h20:=of_decide_eq_true h20
   refine QF (QF ?_)
   refine QN (fun j53 h21=>?_) (fun h21=>?_)
   intro h22
   try simp[-za,-zb]at h22
   refine Qa ?_ ?_<;>intro h23<;>try simp[-za,-zb]at h23
   exact Qc hk (by rw[k3,psL h20,Qzf h21 (by omega)];rfl) _
   refine QF (QF ?_)
   refine QN (fun v54 h24=>?_) (fun h24=>?_)
   intro h25
   try simp[-za,-zb]at h25
   refine QF (QF (QF ?_))
   refine Qa ?_ ?_<;>intro h26<;>try simp[-za,-zb]at h26
   exact Qc hk (by rw[k3,psL h20,Qso h21 (by omega) h24 (.inl (by omega))];rfl) _
   refine QF (QF ?_)
   refine QN (fun j56 h27=>?_) (fun h27=>?_)
   intro h28
   try simp[-za,-zb]at h28
   have w9:=Q4 s v54.2
   have e:iPs (QD s a (1001-d)) s i=some (some (.lang (low v54.1)),[],j56):=by rw[k3,psL h20,Quq h21 (by omega) h24 h27];rfl
   have q:=Qg hk e ⟨by dsimp only;omega,by dsimp only;omega⟩
   exact q
   exact Qc hk (by rw[k3,psL h20,Qso h21 (by omega) h24 (.inr h27)];rfl) _
   intro j55
   exact Qc hk (by rw[k3,psL h20,Qze h21 (by omega) h24];rfl) _
   exact Qc hk (by rw[k3,psL h20,Qzg h21];rfl) _
   have h20:=of_decide_eq_false h20
   refine Qa (fun h21=>?_) (fun h21=>?_)
   have h21:=of_decide_eq_true h21
   have e:iPs (QD s a (1001-d)) s i=some (some CSel.enabled,[],p):=by rw[k3,h21];rfl
   have q:=Qg hk e ⟨by dsimp only;omega,by dsimp only;omega⟩
   exact q
   have h21:=of_decide_eq_false h21
   refine Qa (fun h22=>?_) (fun h22=>?_)
   have h22:=of_decide_eq_true h22
   have e:iPs (QD s a (1001-d)) s i=some (some CSel.disabled,[],p):=by rw[k3,h22];rfl
   have q:=Qg hk e ⟨by dsimp only;omega,by dsimp only;omega⟩
   exact q
   have h22:=of_decide_eq_false h22
   refine Qa (fun h23=>?_) (fun h23=>?_)
   have h23:=of_decide_eq_true h23
   have e:iPs (QD s a (1001-d)) s i=some (some CSel.checked,[],p):=by rw[k3,h23];rfl
   have q:=Qg hk e ⟨by dsimp only;omega,by dsimp only;omega⟩
   exact q
   have h23:=of_decide_eq_false h23
   refine Qa (fun h24=>?_) (fun h24=>?_)
   have h24:=of_decide_eq_true h24
   refine QF ?_
   have e:iPs (QD s a (1001-d)) s i=some (some (.never ([58]++name)),[],p):=by rw[k3,h24];rfl
   have q:=Qg hk e ⟨by dsimp only;omega,by dsimp only;omega⟩
   exact q
   have h24:=of_decide_eq_false h24
   refine Qa (fun h25=>?_) (fun h25=>?_)
   have h25:=of_decide_eq_true h25
   refine QF ?_
   have e:iPs (QD s a (1001-d)) s i=some (some (.never ([58]++name)),[],p):=by rw[k3,h25];rfl
   have q:=Qg hk e ⟨by dsimp only;omega,by dsimp only;omega⟩
   exact q
   have h25:=of_decide_eq_false h25
   refine Qa (fun h26=>?_) (fun h26=>?_)
   have h26:=of_decide_eq_true h26
   refine QF ?_
   have e:iPs (QD s a (1001-d)) s i=some (some (.never ([58]++name)),[],p):=by rw[k3,h26];rfl
   have q:=Qg hk e ⟨by dsimp only;omega,by dsimp only;omega⟩
   exact q
   have h26:=of_decide_eq_false h26
   refine Qa (fun h27=>?_) (fun h27=>?_)
   have h27:=of_decide_eq_true h27
   refine QF ?_
   have e:iPs (QD s a (1001-d)) s i=some (some (.never ([58]++name)),[],p):=by rw[k3,h27];rfl
   have q:=Qg hk e ⟨by dsimp only;omega,by dsimp only;omega⟩
   exact q
   have h27:=of_decide_eq_false h27
   refine Qa (fun h28=>?_) (fun h28=>?_)
   have h28:=of_decide_eq_true h28
   refine QF ?_
   have e:iPs (QD s a (1001-d)) s i=some (some (.never ([58]++name)),[],p):=by rw[k3,h28];rfl
   have q:=Qg hk e ⟨by dsimp only;omega,by dsimp only;omega⟩
   exact q
   have h28:=of_decide_eq_false h28
   refine Qa (fun h29=>?_) (fun h29=>?_)
   have h29:=of_decide_eq_true h29
   have e:iPs (QD s a (1001-d)) s i=some (none,name,p):=by rw[k3,h29];rfl
   have q:=Qg hk e ⟨by dsimp only;omega,by dsimp only;omega⟩
   exact q
   have h29:=of_decide_eq_false h29
   refine Qa (fun h30=>?_) (fun h30=>?_)
   have h30:=of_decide_eq_true h30
   have e:iPs (QD s a (1001-d)) s i=some (none,name,p):=by rw[k3,h30];rfl
   have q:=Qg hk e ⟨by dsimp only;omega,by dsimp only;omega⟩
   exact q
   have h30:=of_decide_eq_false h30
   refine Qa (fun h31=>?_) (fun h31=>?_)
   have h31:=of_decide_eq_true h31
   have e:iPs (QD s a (1001-d)) s i=some (none,name,p):=by rw[k3,h31];rfl
   have q:=Qg hk e ⟨by dsimp only;omega,by dsimp only;omega⟩
   exact q
   have h31:=of_decide_eq_false h31
   refine Qa (fun h32=>?_) (fun h32=>?_)
   have h32:=of_decide_eq_true h32
   have e:iPs (QD s a (1001-d)) s i=some (none,name,p):=by rw[k3,h32];rfl
   have q:=Qg hk e ⟨by dsimp only;omega,by dsimp only;omega⟩
   exact q
   have h32:=of_decide_eq_false h32
   refine Qa (fun h33=>?_) (fun h33=>?_)
   have h33:=of_decide_eq_true h33
   have e:iPs (QD s a (1001-d)) s i=some (none,name,p):=by rw[k3,h33];rfl
   have q:=Qg hk e ⟨by dsimp only;omega,by dsimp only;omega⟩
   exact q
   have h33:=of_decide_eq_false h33
   refine Qa (fun h34=>?_) (fun h34=>?_)
   have h34:=of_decide_eq_true h34
   have e:iPs (QD s a (1001-d)) s i=some (none,name,p):=by rw[k3,h34];rfl
   have q:=Qg hk e ⟨by dsimp only;omega,by dsimp only;omega⟩
   exact q
   have h34:=of_decide_eq_false h34
   refine Qa (fun h35=>?_) (fun h35=>?_)
   have h35:=of_decide_eq_true h35
   have e:iPs (QD s a (1001-d)) s i=some (none,name,p):=by rw[k3,h35];rfl
   have q:=Qg hk e ⟨by dsimp only;omega,by dsimp only;omega⟩
   exact q
   have h35:=of_decide_eq_false h35
   refine Qa (fun h36=>?_) (fun h36=>?_)
   have h36:=of_decide_eq_true h36
   have e:iPs (QD s a (1001-d)) s i=some (none,name,p):=by rw[k3,h36];rfl
   have q:=Qg hk e ⟨by dsimp only;omega,by dsimp only;omega⟩
   exact q
   have h36:=of_decide_eq_false h36
   refine Qa (fun h37=>?_) (fun h37=>?_)
   have h37:=of_decide_eq_true h37
   have e:iPs (QD s a (1001-d)) s i=some (none,name,p):=by rw[k3,h37];rfl
   have q:=Qg hk e ⟨by dsimp only;omega,by dsimp only;omega⟩
   exact q
   have h37:=of_decide_eq_false h37
   refine Qa (fun h38=>?_) (fun h38=>?_)
   have h38:=of_decide_eq_true h38
   have e:iPs (QD s a (1001-d)) s i=some (none,name,p):=by rw[k3,h38];rfl
   have q:=Qg hk e ⟨by dsimp only;omega,by dsimp only;omega⟩
   exact q
   have h38:=of_decide_eq_false h38
   refine Qa (fun h39=>?_) (fun h39=>?_)
   have h39:=of_decide_eq_true h39
   have e:iPs (QD s a (1001-d)) s i=some (none,name,p):=by rw[k3,h39];rfl
   have q:=Qg hk e ⟨by dsimp only;omega,by dsimp only;omega⟩
   exact q
   have h39:=of_decide_eq_false h39
   exact Qc hk (by rw[k3];simp[V4,UD,elNames,Qam,Zy,Zz,nHasChild,VJ,Q8,Vp,QH,VI,QL,ZY,h1,h2,h3,h4,h5,h6,h7,h8,h9,h10,h11,h12,h13,h14,h15,h16,h17,h18,h19,h20,h21,h22,h23,h24,h25,h26,h27,h28,h29,h30,h31,h32,h33,h34,h35,h36,h37,h38,h39]) _
 refine (Qmk m).en (have a0:Out:=.val (.tup [.nilif,(.str []),.ifx]);have a1:Option SB:=some (.blk 94 [(.str s),(.nat i),(.nat d),(.bool a)]);cond (decide (s.length<=i)) (K a0 a1) ((i<s.length)/\cond (!(decide (bat s i=58))) (K a0 a1) ((i+1<=9223372036854775807)/\cond (decide (s.length<=i+1)) (K a0 (some (.blk 94 [(.str s),(.nat (i+1)),(.nat d),(.bool a)]))) ((i+1<s.length)/\cond (decide (bat s (i+1)=58)) ((i+2<=9223372036854775807)/\(s.length<=1000000)/\(i+2<=s.length)/\Qu (QC s (i+2)) (fun v1=>(i+2<v1.2/\v1.2<=s.length/\v1.1.length<=4*(v1.2-(i+2)))->(v1.1.length<=1000000000)/\cond (((((((((((!(decide (low v1.1=[97,102,116,101,114])))&&(!(decide (low v1.1=[98,97,99,107,100,114,111,112]))))&&(!(decide (low v1.1=[98,101,102,111,114,101]))))&&(!(decide (low v1.1=[99,117,101]))))&&(!(decide (low v1.1=[102,105,114,115,116,45,108,101,116,116,101,114]))))&&(!(decide (low v1.1=[102,105,114,115,116,45,108,105,110,101]))))&&(!(decide (low v1.1=[103,114,97,109,109,97,114,45,101,114,114,111,114]))))&&(!(decide (low v1.1=[109,97,114,107,101,114]))))&&(!(decide (low v1.1=[112,108,97,99,101,104,111,108,100,101,114]))))&&(!(decide (low v1.1=[115,101,108,101,99,116,105,111,110]))))&&(!(decide (low v1.1=[115,112,101,108,108,105,110,103,45,101,114,114,111,114])))) (K a0 (some (.blk 94 [(.str s),(.nat v1.2),(.nat d),(.bool a)]))) ((Qmk m).C K 17 (mkS 402 [(0,(.ptr 0 0)),(2,.nilif),(3,(.str [])),(4,.nilif),(6,(.str (low v1.1)))] [(0,.blk 94 [(.str s),(.nat v1.2),(.nat d),(.bool a)])] 1))) (∀j2:Nat,K a0 (some (.blk 94 [(.str s),(.nat j2),(.nat d),(.bool a)])))) ((s.length<=1000000)/\(i+1<=s.length)/\Qu (QC s (i+1)) (fun v3=>(i+1<v3.2/\v3.2<=s.length/\v3.1.length<=4*(v3.2-(i+1)))->(v3.1.length<=1000000000)/\(Qmk m).C K 17 (mkS 402 [(0,(.ptr 0 0)),(2,.nilif),(3,(.str [])),(4,.nilif),(6,(.str (low v3.1)))] [(0,.blk 94 [(.str s),(.nat v3.2),(.nat d),(.bool a)])] 1)) (∀j4:Nat,K a0 (some (.blk 94 [(.str s),(.nat j4),(.nat d),(.bool a)])))))))) ?_
 refine Qa ?_ ?_<;>intro h1<;>try simp[-za,-zb]at h1
 exfalso
 omega
 refine QF ?_
 refine Qa ?_ ?_<;>intro h2<;>try simp[-za,-zb]at h2
 exfalso
 omega
 refine QF ?_
 refine Qa ?_ ?_<;>intro h3<;>try simp[-za,-zb]at h3
 exact Qc hk (QtK (by omega)) _
 refine QF ?_
 refine Qa ?_ ?_<;>intro h4<;>try simp[-za,-zb]at h4
 refine QF (QF (QF ?_))
 refine QN (fun v1 h5=>?_) (fun h5=>?_)
 intro h6
 try simp[-za,-zb]at h6
 refine QF ?_
 refine Qa ?_ ?_<;>intro h7<;>try simp[-za,-zb]at h7
 . exact Qc hk (QtL (v:=v1) (by rw[if_pos h4];exact h5) ⟨h4,by
   intro q
   simp only[elNames,zp,zT,or_false]at q
   rcases q with q | q | q | q | q | q | q | q | q | q | q<;>simp[q]at h7⟩) _
 exact L17 _ (low v1.1) v1.2 rfl ⟨by omega,by omega,Qj6 (by omega) (by rw[if_pos h4];exact h5) (fun _=>Decidable.byContradiction fun q=>by
  simp only[elNames,zp,zT,or_false,not_or]at q
  obtain⟨q1,q2,q3,q4,q5,q6,q7,q8,q9,qa,qb⟩:=q
  simp[q1,q2,q3,q4,q5,q6,q7,q8,q9,qa,qb]at h7),by simp[low];omega⟩
 intro j2
 exact Qc hk (Qna (by rw[if_pos h4];exact h5)) _
 refine QF (QF ?_)
 refine QN (fun v3 h5=>?_) (fun h5=>?_)
 intro h6
 try simp[-za,-zb]at h6
 refine QF ?_
 exact L17 _ (low v3.1) v3.2 rfl ⟨by omega,by omega,Qj6 (by omega) (by rw[if_neg h4];exact h5) (fun q=>absurd q h4),by simp[low];omega⟩
 intro j4
 exact Qc hk (Qna (by rw[if_neg h4];exact h5)) _
 exact hP.elim
end
section
open Go Go.RowKit
set_option maxRecDepth 20000
section
variable {G:Nat->Option (List CSel×Nat)} {s pe n:Bs} {a:Bool} {p j:Nat} {l:List CSel} {x:CSel}
theorem s35 (h:bat s p=35):Vm G s p=(Ya s (p+1)).map fun q=>(some (.idn q.1),[],q.2):=by unfold Vm;rw[if_pos h]
theorem s46 (h:bat s p=46):Vm G s p=(QC s (p+1)).map fun q=>(some (.cls q.1),[],q.2):=by unfold Vm;rw[if_neg (by omega),if_pos h]
theorem s91 (h:bat s p=91):Vm G s p=(YM s p).map fun q=>(some (attrOf q).1,[],q.2):=by
 unfold Vm;rw[if_neg (by omega),if_neg (by omega),if_pos h,Qim,Option.map_map];rfl
theorem s58 (h:bat s p=58):Vm G s p=iPs G s p:=by unfold Vm;rw[if_neg (by omega),if_neg (by omega),if_neg (by omega)]
theorem Qnn (h1:p<s.length) (h2:Qx (bat s p)=true) (h:Vm G s p=none):QT G s a p l pe=none:=by
 rw[QT,if_pos ⟨h1,h2⟩,h]
theorem go_x (h1:p<s.length) (h2:Qx (bat s p)=true) (h:Vm G s p=some (some x,n,j)) (hj:p<j) (he:pe=[]):QT G s a p l pe=QT G s a j (l++[x]) pe:=by
 rw[QT,if_pos ⟨h1,h2⟩,h];dsimp only;rw[if_pos hj,if_pos he]
theorem Qnl (h1:p<s.length) (h2:Qx (bat s p)=true) (h:Vm G s p=some (some x,n,j)) (hj:p<j) (he:¬pe=[]):QT G s a p l pe=none:=by
 rw[QT,if_pos ⟨h1,h2⟩,h];dsimp only;rw[if_pos hj,if_neg he]
theorem go_e (h1:p<s.length) (h2:Qx (bat s p)=true) (h:Vm G s p=some (none,n,j)) (hj:p<j) (he:pe=[]/\a=true):QT G s a p l pe=QT G s a j l n:=by
 rw[QT,if_pos ⟨h1,h2⟩,h];dsimp only;rw[if_pos hj,if_pos he]
theorem Qvg (h1:p<s.length) (h2:Qx (bat s p)=true) (h:Vm G s p=some (none,n,j)) (hj:p<j) (he:¬(pe=[]/\a=true)):QT G s a p l pe=none:=by
 rw[QT,if_pos ⟨h1,h2⟩,h];dsimp only;rw[if_pos hj,if_neg he]
theorem QrG (h:¬(p<s.length/\Qx (bat s p)=true)):QT G s a p l pe=some (VD l pe,p):=by
 rw[QT,if_neg h]
theorem QsO (h:s.length<=p):YD G s a p=none:=by unfold YD;rw[if_neg (by omega)]
theorem Qeh (h1:p<s.length) (h2:Qx (bat s p)=true):YD G s a p=QT G s a p [] []:=by
 have h3:¬bat s p=42:=fun q=>by rw[q]at h2;exact absurd h2 (by decide)
 unfold YD;rw[if_pos h1,if_neg h3,if_pos h2]
theorem QsN {v:Bs×Nat} (h1:p<s.length) (h2:¬bat s p=42) (h3:¬Qx (bat s p)=true) (h:QC s p=some v):YD G s a p=QT G s a v.2 [.tag (low v.1)] []:=by
 unfold YD;rw[if_pos h1,if_neg h2,if_neg h3,h]
theorem Qvy (h1:p<s.length) (h2:¬bat s p=42) (h3:¬Qx (bat s p)=true) (h:QC s p=none):YD G s a p=none:=by
 unfold YD;rw[if_pos h1,if_neg h2,if_neg h3,h]
theorem QpN (h1:p<s.length) (h2:bat s p=42) (h:p+3<s.length/\bat s (p+1)=124/\bat s (p+2)=42):YD G s a p=QT G s a (p+3) [] []:=by
 unfold YD;rw[if_pos h1,if_pos h2,if_pos h]
theorem QnY (h1:p<s.length) (h2:bat s p=42) (h:¬(p+3<s.length/\bat s (p+1)=124/\bat s (p+2)=42)):YD G s a p=QT G s a (p+1) [] []:=by
 unfold YD;rw[if_pos h1,if_pos h2,if_neg h]
theorem QpR (h1:l.length=1) (h2:pe=[]):VD l pe=l.getD 0 default:=by
 subst h2;match l,h1 with | [x],_=>rfl
theorem QpP (h:¬(l.length=1/\pe=[])):VD l pe=.compound l pe:=by
 unfold VD;split
 exact absurd ⟨rfl,rfl⟩ h
 rfl
theorem Qmq {c e:UInt8} (h:p+2<=s.length):(s.take (p+2)).drop p=[c,e] ↔ bat s p=c.toNat/\bat s (p+1)=e.toNat:=by
 have h1:(s.take (p+2)).drop p=[s.getD p 0,s.getD (p+1) 0]:=by
  apply List.ext_getElem
  simp;omega
  intro i h2 h3
  have:i=0\/i=1:=by simp at h3;omega
  rcases this with q | q<;>subst q<;>simp[za,ze (show p<s.length by omega),ze (show p+1<s.length by omega)]
 rw[h1]
 simp[bat,<-UInt8.toNat_inj,-za]
end
def c100 (m:Nat) (svs:List SV) (b:Option SB) (K:Out->Option SB->Prop):Prop:=match svs,b with
 | [.ptr 0 0],some (.blk 94 [.str s,.nat i,.nat d,.bool a])=>s.length<=1000000/\i<=s.length/\d<=1001/\1002<=d+m/\Qu (YD (QD s a (1001-d)) s a i) (fun v=>i<v.2/\v.2<=s.length->K (.val (.tup [.cs v.1,.nilif])) (some (.blk 94 [.str s,.nat v.2,.nat d,.bool a]))) (∀j,K (.val (.tup [.nilif,.ifx])) (some (.blk 94 [.str s,.nat j,.nat d,.bool a])))
 | _,_=>False
noncomputable def UL (m:Nat):Wk:=⟨[(71,.pure c71),(115,.plain c115),(116,.plain c116),(117,.plain c117),(118,.plain c118),(119,.plain (c119 m))],Qh Tryz.f100,true,false,[.tmp 2,.tmp 3],[56,71],[(18,145),(42,145)],[42]⟩
theorem Qyl:Has 100:=hsf Tryz.f100
theorem lez3 {c0 p0 p1 p2 p3 q:Prop} (k:q) (h:c0->p0/\p1/\p2/\p3/\True:=by intro g0;(try simp at g0);exact⟨(by first | omega | (simp;done) | (simp;omega) | (simp;assumption)),(by first | omega | (simp;done) | (simp;omega) | (simp;assumption)),(by first | omega | (simp;done) | (simp;omega) | (simp;assumption)),(by first | omega | (simp;done) | (simp;omega) | (simp;assumption)),trivial⟩):(c0->p0/\p1/\p2/\p3/\True)/\q:=⟨h,k⟩
theorem lez2 {c0 p0 p1 q:Prop} (k:q) (h:c0->p0/\p1/\True:=by intro g0;(try simp at g0);exact⟨(by first | omega | (simp;done) | (simp;omega) | (simp;assumption)),(by first | omega | (simp;done) | (simp;omega) | (simp;assumption)),trivial⟩):(c0->p0/\p1/\True)/\q:=⟨h,k⟩
theorem Qgb {c0 p0 q:Prop} (k:q) (h:c0->p0/\True:=by intro g0;(try simp at g0);exact⟨(by first | omega | (simp;done) | (simp;omega) | (simp;assumption)),trivial⟩):(c0->p0/\True)/\q:=⟨h,k⟩
theorem QW {p q:Prop} (k:q) (h:p:=by first | omega | (simp;done) | (simp;omega) | (simp;assumption)):p/\q:=⟨h,k⟩
theorem QwE (m:Nat) (hG:Sat 70 (c70 m)):Sat 100 (c100 m):=by
 have hD:Qb (UL m).D:=(Qb.cons Jg Jd (Qb.cons Qyd Qwv (Qb.cons Qyc Qwu (Qb.cons Qyb Qwt (Qb.cons Qya Qws (Qb.cons Qx9 (Qwr m hG) Qb.nil))))))
 refine (UL m).sa hD Tryz.f100 fun svs b K hP=>?_
 unfold c100 at hP
 split at hP
 rename_i s i d a
 obtain⟨h01,h02,h03,h04,hk⟩:=hP
 have L42:∀(mm:Nat) (p:Nat) (l:List CSel) (pe:Bs),0=mm->(i<p/\p<=s.length/\YD (QD s a (1001-d)) s a i=some (VD l pe,p))->(UL m).C K 42 (mkS 180 [(0,(.ptr 0 0)),(4,(.sl (.csels l))),(7,(.str pe))] [(0,.blk 94 [(.str s),(.nat p),(.nat d),(.bool a)])] 1):=by
  intro mm
  induction mm using zi with
  | _ mm ih=>
   intro p l pe hm hI
   obtain⟨k1,k2,k3⟩:=hI
   refine (UL m).aC hD (have a0:Option SB:=some (.blk 94 [(.str s),(.nat p),(.nat d),(.bool a)]);cond ((decide (l.length=1))&&(decide (pe=[]))) ((0<l.length)/\K (.val (.tup [(.cs (l.getD 0 default)),.nilif])) a0) (K (.val (.tup [(.cs (.compound l pe)),.nilif])) a0)) ?_
   refine Qa ?_ ?_<;>intro h1<;>try simp[-za,-zb]at h1
   refine QW ?_
   exact Qg hk (k3.trans (by rw[QpR h1.1 h1.2])) ⟨k1,k2⟩
   exact Qg hk (k3.trans (by rw[QpP (by simpa using h1)])) ⟨k1,k2⟩
 have L18:∀(mm:Nat) (p:Nat) (l:List CSel) (pe:Bs),s.length-p=mm->(i<=p/\p<=s.length/\(i<p\/Qx (bat s p)=true/\p<s.length)/\YD (QD s a (1001-d)) s a i=QT (QD s a (1001-d)) s a p l pe/\l.length<=p)->(UL m).L K 18 (mkS 180 [(0,(.ptr 0 0)),(4,(.own 1)),(7,(.str pe))] [(1,.row (.csels l) true),(0,.blk 94 [(.str s),(.nat p),(.nat d),(.bool a)])] 2):=by
  intro mm
  induction mm using zi with
  | _ mm ih=>
   intro p l pe hm hI
   obtain⟨k1,k2,k3,k4,k5⟩:=hI
   refine (UL m).aL hD (have a0:Out:=.val (.tup [.nilif,.ifx]);have a1:=mkS 180 [(0,(.ptr 0 0)),(4,(.own 1)),(7,(.str pe))] [(1,.row (.csels l) true),(0,.blk 94 [(.str s),(.nat p),(.nat d),(.bool a)])] 2;have a2:=l.length+1<=1099511627776;have a3 := !(decide (pe=[]));have a4:=s.length<=1000000;cond (decide (p<s.length)) ((p<s.length)/\cond (decide (bat s p=35)) (a4/\(p<=s.length)/\(p<s.length)/\(bat s p=35)/\Qu (Ya s (p+1)) (fun v3=>(p<v3.2/\v3.2<=s.length)->cond a3 (K a0 (some (.blk 94 [(.str s),(.nat v3.2),(.nat d),(.bool a)]))) (a2/\(UL m).L K 18 (mkS 180 [(0,(.ptr 0 0)),(4,(.own 3)),(7,(.str pe))] [(3,.row (.csels (l++[.idn v3.1])) true),(0,.blk 94 [(.str s),(.nat v3.2),(.nat d),(.bool a)])] 4))) (∀j4:Nat,K a0 (some (.blk 94 [(.str s),(.nat j4),(.nat d),(.bool a)])))) (cond (decide (bat s p=46)) (a4/\(p<=s.length)/\(p<s.length)/\(bat s p=46)/\Qu (QC s (p+1)) (fun v5=>(p<v5.2/\v5.2<=s.length)->cond a3 (K a0 (some (.blk 94 [(.str s),(.nat v5.2),(.nat d),(.bool a)]))) (a2/\(UL m).L K 18 (mkS 180 [(0,(.ptr 0 0)),(4,(.own 3)),(7,(.str pe))] [(3,.row (.csels (l++[.cls v5.1])) true),(0,.blk 94 [(.str s),(.nat v5.2),(.nat d),(.bool a)])] 4))) (∀j6:Nat,K a0 (some (.blk 94 [(.str s),(.nat j6),(.nat d),(.bool a)])))) (cond (decide (bat s p=91)) (a4/\(p<=s.length)/\(p<s.length)/\(bat s p=91)/\Qu (YM s p) (fun v7=>(p<v7.2/\v7.2<=s.length)->cond a3 (K a0 (some (.blk 94 [(.str s),(.nat v7.2),(.nat d),(.bool a)]))) (a2/\(UL m).L K 18 (mkS 180 [(0,(.ptr 0 0)),(4,(.own 3)),(7,(.str pe))] [(3,.row (.csels (l++[.attr v7.1.1 v7.1.2.1 v7.1.2.2.1 v7.1.2.2.2])) true),(0,.blk 94 [(.str s),(.nat v7.2),(.nat d),(.bool a)])] 4))) (∀j8:Nat,K a0 (some (.blk 94 [(.str s),(.nat j8),(.nat d),(.bool a)])))) (cond (decide (bat s p=58)) (a4/\(p<=s.length)/\(d<=1001)/\(1002<=d+m)/\(p<s.length)/\(bat s p=58)/\Qu (iPs (QD s a (1001-d)) s p) (fun v9=>(p<v9.2.2/\v9.2.2<=s.length)->Qu v9.1 (fun x10=>cond a3 (K a0 (some (.blk 94 [(.str s),(.nat v9.2.2),(.nat d),(.bool a)]))) (a2/\(UL m).L K 18 (mkS 180 [(0,(.ptr 0 0)),(4,(.own 3)),(7,(.str pe))] [(3,.row (.csels (l++[x10])) true),(0,.blk 94 [(.str s),(.nat v9.2.2),(.nat d),(.bool a)])] 4))) (cond a3 (K a0 (some (.blk 94 [(.str s),(.nat v9.2.2),(.nat d),(.bool a)]))) (cond (!a) (K a0 (some (.blk 94 [(.str s),(.nat v9.2.2),(.nat d),(.bool a)]))) ((UL m).L K 18 (mkS 180 [(0,(.ptr 0 0)),(4,(.own 1)),(7,(.str v9.2.1))] [(1,.row (.csels l) true),(0,.blk 94 [(.str s),(.nat v9.2.2),(.nat d),(.bool a)])] 2))))) (∀j11:Nat,K a0 (some (.blk 94 [(.str s),(.nat j11),(.nat d),(.bool a)])))) ((UL m).C K 42 a1))))) ((UL m).C K 42 a1)) ?_
   refine Qa ?_ ?_<;>intro h1<;>try simp[-za,-zb]at h1
   refine QW ?_
   refine Qa ?_ ?_<;>intro h2<;>try simp[-za,-zb]at h2
   refine QW (QW (QW (QW ?_)))
   refine QN (fun v3 h3=>?_) (fun h3=>?_)
   intro h4
   try simp[-za,-zb]at h4
   refine Qa ?_ ?_<;>intro h5<;>try simp[-za,-zb]at h5
   exact Qc hk (k4.trans (Qnl h1 (by simp[Qx,h2]) (by rw[s35 h2,h3];rfl) h4.1 h5)) _
   refine QW ?_
   exact Wk.L.rn [0,3] (ih _ (by omega) _ _ _ rfl ⟨by omega,h4.2,.inl (by omega),k4.trans (go_x h1 (by simp[Qx,h2]) (by rw[s35 h2,h3];rfl) h4.1 h5),by simp;omega⟩)
   intro j4
   exact Qc hk (k4.trans (Qnn h1 (by simp[Qx,h2]) (by rw[s35 h2,h3];rfl))) _
   refine Qa (fun h3=>?_) (fun h3=>?_)
   try simp[-za,-zb]at h3
   refine QW (QW (QW (QW ?_)))
   refine QN (fun v5 h4=>?_) (fun h4=>?_)
   intro h5
   try simp[-za,-zb]at h5
   refine Qa ?_ ?_<;>intro h6<;>try simp[-za,-zb]at h6
   exact Qc hk (k4.trans (Qnl h1 (by simp[Qx,h3]) (by rw[s46 h3,h4];rfl) h5.1 h6)) _
   refine QW ?_
   exact Wk.L.rn [0,3] (ih _ (by omega) _ _ _ rfl ⟨by omega,h5.2,.inl (by omega),k4.trans (go_x h1 (by simp[Qx,h3]) (by rw[s46 h3,h4];rfl) h5.1 h6),by simp;omega⟩)
   intro j6
   exact Qc hk (k4.trans (Qnn h1 (by simp[Qx,h3]) (by rw[s46 h3,h4];rfl))) _
   try simp[-za,-zb]at h3
   refine Qa ?_ ?_<;>intro h4<;>try simp[-za,-zb]at h4
   refine QW (QW (QW (QW ?_)))
   refine QN (fun v7 h5=>?_) (fun h5=>?_)
   intro h6
   try simp[-za,-zb]at h6
   refine Qa ?_ ?_<;>intro h7<;>try simp[-za,-zb]at h7
   exact Qc hk (k4.trans (Qnl h1 (by simp[Qx,h4]) (by rw[s91 h4,h5];rfl) h6.1 h7)) _
   refine QW ?_
   exact Wk.L.rn [0,3] (ih _ (by omega) _ _ _ rfl ⟨by omega,h6.2,.inl (by omega),k4.trans (go_x h1 (by simp[Qx,h4]) (by rw[s91 h4,h5];rfl) h6.1 h7),by simp;omega⟩)
   intro j8
   exact Qc hk (k4.trans (Qnn h1 (by simp[Qx,h4]) (by rw[s91 h4,h5];rfl))) _
   refine Qa (fun h5=>?_) (fun h5=>?_)
   try simp[-za,-zb]at h5
   refine QW (QW (QW (QW (QW (QW ?_)))))
   refine QN (fun v9 h6=>?_) (fun h6=>?_)
   intro h7
   try simp[-za,-zb]at h7
   refine QN (fun x10 h8=>?_) (fun h8=>?_)
   refine Qa ?_ ?_<;>intro h9<;>try simp[-za,-zb]at h9
   exact Qc hk (k4.trans (Qnl h1 (by simp[Qx,h5]) (by rw[s58 h5,h6,<-h8]) h7.1 h9)) _
   refine QW ?_
   exact Wk.L.rn [0,3] (ih _ (by omega) _ _ _ rfl ⟨by omega,h7.2,.inl (by omega),k4.trans (go_x h1 (by simp[Qx,h5]) (by rw[s58 h5,h6,<-h8]) h7.1 h9),by simp;omega⟩)
   refine Qa ?_ ?_<;>intro h9<;>try simp[-za,-zb]at h9
   exact Qc hk (k4.trans (Qvg h1 (by simp[Qx,h5]) (by rw[s58 h5,h6,<-h8]) h7.1 (fun q=>h9 q.1))) _
   refine Qa (fun h10=>?_) (fun h10=>?_)
   try simp[-za,-zb]at h10
   exact Qc hk (k4.trans (Qvg h1 (by simp[Qx,h5]) (by rw[s58 h5,h6,<-h8]) h7.1 (fun q=>by simp[h10]at q))) _
   try simp[-za,-zb]at h10
   exact ih _ (by omega) _ _ _ rfl ⟨by omega,h7.2,.inl (by omega),k4.trans (go_e h1 (by simp[Qx,h5]) (by rw[s58 h5,h6,<-h8]) h7.1 ⟨h9,h10⟩),by omega⟩
   intro j11
   exact Qc hk (k4.trans (Qnn h1 (by simp[Qx,h5]) (by rw[s58 h5,h6]))) _
   try simp[-za,-zb]at h5
   have q:¬Qx (bat s p)=true:=by simp[Qx,h2,h3,h4,h5]
   exact Wk.C.le (Yd.pub 1 (b:=.row (.csels l) true) (by kernel_rfl)) (Wk.C.rn [0] (L42 _ _ _ _ rfl ⟨k3.elim id fun w=>absurd w.1 q,k2,k4.trans (QrG fun w=>q w.2)⟩))
   exact Wk.C.le (Yd.pub 1 (b:=.row (.csels l) true) (by kernel_rfl)) (Wk.C.rn [0] (L42 _ _ _ _ rfl ⟨by omega,k2,k4.trans (QrG fun w=>by omega)⟩))
 refine (UL m).en (have a1:=mkS 180 [(0,(.ptr 0 0)),(4,.nilsl),(7,(.str []))] [(0,.blk 94 [(.str s),(.nat i),(.nat d),(.bool a)])] 1;have a2:=decide (i+3<s.length);have a3:=i+3<=9223372036854775807;have a4:=(a2==true)=true;have a0:=a2=true->a4/\True;cond (decide (s.length<=i)) (K (.val (.tup [.nilif,.ifx])) (some (.blk 94 [(.str s),(.nat i),(.nat d),(.bool a)]))) ((i<s.length)/\cond (decide (bat s i=42)) ((i+1<=9223372036854775807)/\a3/\a0/\a0/\a0/\a0/\a0/\a0/\a0/\a0/\a0/\(a2=true->a4/\a3/\True)/\(a2=true->a4/\a4/\a4/\(i+1<=i+3/\i+3<=s.length)/\True)/\a0/\(a2=true->(a2==true)=true)/\cond (a2&&(decide ((s.take (i+3)).drop (i+1)=[124,42]))) (a3/\(UL m).L K 18 (mkS 180 [(0,(.ptr 0 0)),(4,.nilsl),(7,(.str []))] [(0,.blk 94 [(.str s),(.nat (i+3)),(.nat d),(.bool a)])] 1)) ((UL m).L K 18 (mkS 180 [(0,(.ptr 0 0)),(4,.nilsl),(7,(.str []))] [(0,.blk 94 [(.str s),(.nat (i+1)),(.nat d),(.bool a)])] 1))) (cond (decide (bat s i=35)) ((UL m).L K 18 a1) (cond (decide (bat s i=46)) ((UL m).L K 18 a1) (cond (decide (bat s i=91)) ((UL m).L K 18 a1) (cond (decide (bat s i=58)) ((UL m).L K 18 a1) ((s.length<=1000000)/\(i<=s.length)/\Qu (QC s i) (fun v1=>(i<v1.2/\v1.2<=s.length)->(0+1<=1099511627776)/\(UL m).L K 18 (mkS 180 [(0,(.ptr 0 0)),(4,(.own 3)),(7,(.str []))] [(3,.row (.csels ([]++[.tag (low v1.1)])) true),(1,.blk 99 [(.str (low v1.1))]),(0,.blk 94 [(.str s),(.nat v1.2),(.nat d),(.bool a)])] 4)) (∀j2:Nat,K (.val (.tup [.nilif,.ifx])) (some (.blk 94 [(.str s),(.nat j2),(.nat d),(.bool a)])))))))))) ?_
 refine Qa ?_ ?_<;>intro h1<;>try simp[-za,-zb]at h1
 exact Qc hk (QsO (by omega)) _
 refine QW ?_
 refine Qa ?_ ?_<;>intro h2<;>try simp[-za,-zb]at h2
 refine QW (QW (Qgb (Qgb (Qgb (Qgb (Qgb (Qgb (Qgb (Qgb (Qgb (lez2 (lez3 (Qgb (QW ?_))))))))))))))
 refine Qa ?_ ?_<;>intro h3<;>try simp[-za,-zb]at h3
 refine QW ?_
 exact Wk.L.le (Yd.adopt 4 (T:=49) (x:=.csels []) (by kernel_rfl) (by kernel_rfl)) (Wk.L.rn [0,1] (L18 _ _ _ _ rfl ⟨by omega,by omega,.inl (by omega),QpN h1 h2 ⟨h3.1,(Qmq (p:=i+1) (by omega)).1 h3.2⟩,by simp⟩))
 exact Wk.L.le (Yd.adopt 4 (T:=49) (x:=.csels []) (by kernel_rfl) (by kernel_rfl)) (Wk.L.rn [0,1] (L18 _ _ _ _ rfl ⟨by omega,by omega,.inl (by omega),QnY h1 h2 (fun q=>h3 q.1 ((Qmq (p:=i+1) (by omega)).2 q.2)),by simp⟩))
 refine Qa (fun h3=>?_) (fun h3=>?_)
 try simp[-za,-zb]at h3
 exact Wk.L.le (Yd.adopt 4 (T:=49) (x:=.csels []) (by kernel_rfl) (by kernel_rfl)) (Wk.L.rn [0,1] (L18 _ _ _ _ rfl ⟨by omega,by omega,.inr ⟨(by simp[Qx,h3]),h1⟩,Qeh h1 (by simp[Qx,h3]),by simp⟩))
 try simp[-za,-zb]at h3
 refine Qa ?_ ?_<;>intro h4<;>try simp[-za,-zb]at h4
 exact Wk.L.le (Yd.adopt 4 (T:=49) (x:=.csels []) (by kernel_rfl) (by kernel_rfl)) (Wk.L.rn [0,1] (L18 _ _ _ _ rfl ⟨by omega,by omega,.inr ⟨(by simp[Qx,h4]),h1⟩,Qeh h1 (by simp[Qx,h4]),by simp⟩))
 refine Qa (fun h5=>?_) (fun h5=>?_)
 try simp[-za,-zb]at h5
 exact Wk.L.le (Yd.adopt 4 (T:=49) (x:=.csels []) (by kernel_rfl) (by kernel_rfl)) (Wk.L.rn [0,1] (L18 _ _ _ _ rfl ⟨by omega,by omega,.inr ⟨(by simp[Qx,h5]),h1⟩,Qeh h1 (by simp[Qx,h5]),by simp⟩))
 try simp[-za,-zb]at h5
 refine Qa ?_ ?_<;>intro h6<;>try simp[-za,-zb]at h6
 exact Wk.L.le (Yd.adopt 4 (T:=49) (x:=.csels []) (by kernel_rfl) (by kernel_rfl)) (Wk.L.rn [0,1] (L18 _ _ _ _ rfl ⟨by omega,by omega,.inr ⟨(by simp[Qx,h6]),h1⟩,Qeh h1 (by simp[Qx,h6]),by simp⟩))
 refine QW (QW ?_)
 refine QN (fun v1 h7=>?_) (fun h7=>?_)
 intro h8
 try simp[-za,-zb]at h8
 refine QW ?_
 exact Wk.L.rn [0,3] (L18 _ _ _ _ rfl ⟨by omega,h8.2,.inl h8.1,QsN h1 h2 (by simp[Qx,h3,h4,h5,h6]) h7,by simp;omega⟩)
 intro j2
 exact Qc hk (Qvy h1 h2 (by simp[Qx,h3,h4,h5,h6]) h7) _
 exact hP.elim
section
variable {G:Nat->Option (List CSel×Nat)} {s:Bs} {a:Bool} {p:Nat} {x:CSel} {v:CSel×Nat}
theorem selGo_end (h:¬iWs s p<s.length):Vh G s a x p=some (x,iWs s p):=by rw[Vh,if_neg h]
theorem J5 (h1:iWs s p<s.length) (h2:¬Vg (bat s (iWs s p))=true) (h3:bat s (iWs s p)=44\/bat s (iWs s p)=41\/iWs s p=p):Vh G s a x p=some (x,iWs s p):=by
 rw[Vh,if_pos h1,if_neg h2,if_pos h3]
theorem Qbi (h1:iWs s p<s.length) (h2:Vg (bat s (iWs s p))=true) (h:YD G s a (iWs s (iWs s p+1))=some v) (hj:p<v.2):Vh G s a x p=Vh G s a (.combined x (s.getD (iWs s p) 0) v.1) v.2:=by
 rw[Vh,if_pos h1,if_pos h2,h];dsimp only;rw[if_pos hj]
theorem UQ (h1:iWs s p<s.length) (h2:Vg (bat s (iWs s p))=true) (h:YD G s a (iWs s (iWs s p+1))=none):Vh G s a x p=none:=by
 rw[Vh,if_pos h1,if_pos h2,h]
theorem QsP (h1:iWs s p<s.length) (h2:¬Vg (bat s (iWs s p))=true) (h3:¬(bat s (iWs s p)=44\/bat s (iWs s p)=41\/iWs s p=p)) (h:YD G s a (iWs s p)=some v) (hj:p<v.2):Vh G s a x p=Vh G s a (.combined x 32 v.1) v.2:=by
 rw[Vh,if_pos h1,if_neg h2,if_neg h3,h];dsimp only;rw[if_pos hj]
theorem QpU (h1:iWs s p<s.length) (h2:¬Vg (bat s (iWs s p))=true) (h3:¬(bat s (iWs s p)=44\/bat s (iWs s p)=41\/iWs s p=p)) (h:YD G s a (iWs s p)=none):Vh G s a x p=none:=by
 rw[Vh,if_pos h1,if_neg h2,if_neg h3,h]
end
def c72 (m:Nat) (svs:List SV) (b:Option SB) (K:Out->Option SB->Prop):Prop:=match svs,b with
 | [.ptr 0 0],some (.blk 94 [.str s,.nat i,.nat d,.bool a])=>s.length<=1000000/\i<=s.length/\d<=1001/\1002<=d+m/\Qu (Zj (QD s a (1001-d)) s a i) (fun v=>i<v.2/\v.2<=s.length->K (.val (.tup [.cs v.1,.nilif])) (some (.blk 94 [.str s,.nat v.2,.nat d,.bool a]))) (∀j,K (.val (.tup [.nilif,.ifx])) (some (.blk 94 [.str s,.nat j,.nat d,.bool a])))
 | _,_=>False
noncomputable def W72 (m:Nat):Wk:=⟨[(99,.fn c99),(100,.plain (c100 m))],Qh Tryz.f72,true,false,[.tmp 2,.tmp 3],[56,71],[(5,17)],[]⟩
theorem Qkj:Has 72:=hsf Tryz.f72
theorem Qjf (m:Nat) (hG:Sat 70 (c70 m)):Sat 72 (c72 m):=by
 have hD:Qb (W72 m).D:=(Qb.cons Qg8 Qgv (Qb.cons Qyl (QwE m hG) Qb.nil))
 refine (W72 m).sa hD Tryz.f72 fun svs b K hP=>?_
 unfold c72 at hP
 split at hP
 rename_i s i d a
 obtain⟨h01,h02,h03,h04,hk⟩:=hP
 have u0:=Q4 s i
 have u1:=Vw s i h02
 have L5:∀(mm:Nat) (p:Nat) (x:CSel),s.length-p=mm->(i<p/\p<=s.length/\Zj (QD s a (1001-d)) s a i=Vh (QD s a (1001-d)) s a x p)->(W72 m).L K 5 (mkS 82 [(0,(.ptr 0 0)),(4,(.cs x))] [(0,.blk 94 [(.str s),(.nat p),(.nat d),(.bool a)])] 1):=by
  intro mm
  induction mm using zi with
  | _ mm ih=>
   intro p x hm hI
   obtain⟨k1,k2,k3⟩:=hI
   have w0:=Q4 s p
   have w1:=Vw s p k2
   have w2:=Q4 s (iWs s p+1)
   have w3:=Vw s (iWs s p+1)
   refine (W72 m).aL hD (have a0:Option SB:=some (.blk 94 [(.str s),(.nat (iWs s p)),(.nat d),(.bool a)]);have a1:Option SB:=some (.blk 94 [(.str s),(.nat (iWs s (iWs s p+1))),(.nat d),(.bool a)]);have a2:Out:=.val (.tup [(.cs x),.nilif]);have a3:=YD (QD s a (1001-d)) s a (iWs s (iWs s p+1));have a4:=s.length<=1000000;have a5:=iWs s p+1<=9223372036854775807;have a6:=iWs s (iWs s p+1)<=s.length;have a7:Out:=.val (.tup [.nilif,.ifx]);have a8:=decide (bat s (iWs s p)=0);have a9:=iWs s p<s.length;have a10:=iWs s p+1<=s.length;have a11:=s.getD (iWs s p) 0;a4/\(p<=s.length)/\cond (decide (p<iWs s p)) (cond (decide (s.length<=iWs s p)) (K a2 a0) (a9/\cond (decide (bat s (iWs s p)=43)) (a9/\a5/\a4/\a10/\cond a8 (K a2 a1) (a4/\a6/\(d<=1001)/\(1002<=d+m)/\Qu a3 (fun v3=>(iWs s (iWs s p+1)<v3.2/\v3.2<=s.length)->(W72 m).L K 5 (mkS 82 [(0,(.ptr 0 0)),(4,(.cs (.combined x a11 v3.1)))] [(0,.blk 94 [(.str s),(.nat v3.2),(.nat d),(.bool a)])] 1)) (∀j4:Nat,K a7 (some (.blk 94 [(.str s),(.nat j4),(.nat d),(.bool a)]))))) (cond (decide (bat s (iWs s p)=62)) (a9/\a5/\a4/\a10/\cond a8 (K a2 a1) (a4/\a6/\(d<=1001)/\(1002<=d+m)/\Qu a3 (fun v5=>(iWs s (iWs s p+1)<v5.2/\v5.2<=s.length)->(W72 m).L K 5 (mkS 82 [(0,(.ptr 0 0)),(4,(.cs (.combined x a11 v5.1)))] [(0,.blk 94 [(.str s),(.nat v5.2),(.nat d),(.bool a)])] 1)) (∀j6:Nat,K a7 (some (.blk 94 [(.str s),(.nat j6),(.nat d),(.bool a)]))))) (cond (decide (bat s (iWs s p)=126)) (a9/\a5/\a4/\a10/\cond a8 (K a2 a1) (a4/\a6/\(d<=1001)/\(1002<=d+m)/\Qu a3 (fun v7=>(iWs s (iWs s p+1)<v7.2/\v7.2<=s.length)->(W72 m).L K 5 (mkS 82 [(0,(.ptr 0 0)),(4,(.cs (.combined x a11 v7.1)))] [(0,.blk 94 [(.str s),(.nat v7.2),(.nat d),(.bool a)])] 1)) (∀j8:Nat,K a7 (some (.blk 94 [(.str s),(.nat j8),(.nat d),(.bool a)]))))) (cond (decide (bat s (iWs s p)=44)) (K a2 a0) (cond (decide (bat s (iWs s p)=41)) (K a2 a0) (a4/\(iWs s p<=s.length)/\(d<=1001)/\(1002<=d+m)/\Qu (YD (QD s a (1001-d)) s a (iWs s p)) (fun v9=>(iWs s p<v9.2/\v9.2<=s.length)->(W72 m).L K 5 (mkS 82 [(0,(.ptr 0 0)),(4,(.cs (.combined x 32 v9.1)))] [(0,.blk 94 [(.str s),(.nat v9.2),(.nat d),(.bool a)])] 1)) (∀j10:Nat,K a7 (some (.blk 94 [(.str s),(.nat j10),(.nat d),(.bool a)])))))))))) (cond (decide (s.length<=iWs s p)) (K a2 a0) (a9/\cond (decide (bat s (iWs s p)=43)) (a9/\a5/\a4/\a10/\cond a8 (K a2 a1) (a4/\a6/\(d<=1001)/\(1002<=d+m)/\Qu a3 (fun v11=>(iWs s (iWs s p+1)<v11.2/\v11.2<=s.length)->(W72 m).L K 5 (mkS 82 [(0,(.ptr 0 0)),(4,(.cs (.combined x a11 v11.1)))] [(0,.blk 94 [(.str s),(.nat v11.2),(.nat d),(.bool a)])] 1)) (∀j12:Nat,K a7 (some (.blk 94 [(.str s),(.nat j12),(.nat d),(.bool a)]))))) (cond (decide (bat s (iWs s p)=62)) (a9/\a5/\a4/\a10/\cond a8 (K a2 a1) (a4/\a6/\(d<=1001)/\(1002<=d+m)/\Qu a3 (fun v13=>(iWs s (iWs s p+1)<v13.2/\v13.2<=s.length)->(W72 m).L K 5 (mkS 82 [(0,(.ptr 0 0)),(4,(.cs (.combined x a11 v13.1)))] [(0,.blk 94 [(.str s),(.nat v13.2),(.nat d),(.bool a)])] 1)) (∀j14:Nat,K a7 (some (.blk 94 [(.str s),(.nat j14),(.nat d),(.bool a)]))))) (cond (decide (bat s (iWs s p)=126)) (a9/\a5/\a4/\a10/\cond a8 (K a2 a1) (a4/\a6/\(d<=1001)/\(1002<=d+m)/\Qu a3 (fun v15=>(iWs s (iWs s p+1)<v15.2/\v15.2<=s.length)->(W72 m).L K 5 (mkS 82 [(0,(.ptr 0 0)),(4,(.cs (.combined x a11 v15.1)))] [(0,.blk 94 [(.str s),(.nat v15.2),(.nat d),(.bool a)])] 1)) (∀j16:Nat,K a7 (some (.blk 94 [(.str s),(.nat j16),(.nat d),(.bool a)]))))) (cond (decide (bat s (iWs s p)=44)) (K a2 a0) (cond (decide (bat s (iWs s p)=41)) (K a2 a0) (K a2 a0)))))))) ?_
   refine QW (QW ?_)
   refine Qa ?_ ?_<;>intro h1<;>try simp[-za,-zb]at h1
   refine Qa (fun h2=>?_) (fun h2=>?_)
   try simp[-za,-zb]at h2
   exact Qg hk (k3.trans (selGo_end (by omega))) ⟨by omega,by omega⟩
   try simp[-za,-zb]at h2
   refine QW ?_
   refine Qa ?_ ?_<;>intro h3<;>try simp[-za,-zb]at h3
   refine QW (QW (QW (QW ?_)))
   refine Qa ?_ ?_<;>intro h4<;>try simp[-za,-zb]at h4
   exfalso
   omega
   refine QW (QW (QW (QW ?_)))
   refine QN (fun v3 h5=>?_) (fun h5=>?_)
   intro h6
   try simp[-za,-zb]at h6
   exact ih _ (by omega) _ _ rfl ⟨by omega,by omega,k3.trans (Qbi (by omega) (by simp[Vg,h3]) h5 (by omega))⟩
   intro j4
   exact Qc hk (k3.trans (UQ (by omega) (by simp[Vg,h3]) h5)) _
   refine Qa (fun h4=>?_) (fun h4=>?_)
   try simp[-za,-zb]at h4
   refine QW (QW (QW (QW ?_)))
   refine Qa ?_ ?_<;>intro h5<;>try simp[-za,-zb]at h5
   exfalso
   omega
   refine QW (QW (QW (QW ?_)))
   refine QN (fun v5 h6=>?_) (fun h6=>?_)
   intro h7
   try simp[-za,-zb]at h7
   exact ih _ (by omega) _ _ rfl ⟨by omega,by omega,k3.trans (Qbi (by omega) (by simp[Vg,h4]) h6 (by omega))⟩
   intro j6
   exact Qc hk (k3.trans (UQ (by omega) (by simp[Vg,h4]) h6)) _
   try simp[-za,-zb]at h4
   refine Qa ?_ ?_<;>intro h5<;>try simp[-za,-zb]at h5
   refine QW (QW (QW (QW ?_)))
   refine Qa ?_ ?_<;>intro h6<;>try simp[-za,-zb]at h6
   exfalso
   omega
   refine QW (QW (QW (QW ?_)))
   refine QN (fun v7 h7=>?_) (fun h7=>?_)
   intro h8
   try simp[-za,-zb]at h8
   exact ih _ (by omega) _ _ rfl ⟨by omega,by omega,k3.trans (Qbi (by omega) (by simp[Vg,h5]) h7 (by omega))⟩
   intro j8
   exact Qc hk (k3.trans (UQ (by omega) (by simp[Vg,h5]) h7)) _
   refine Qa (fun h6=>?_) (fun h6=>?_)
   try simp[-za,-zb]at h6
   exact Qg hk (k3.trans (J5 (by omega) (by simp[Vg,h3,h4,h5]) (by omega))) ⟨by omega,by omega⟩
   try simp[-za,-zb]at h6
   refine Qa ?_ ?_<;>intro h7<;>try simp[-za,-zb]at h7
   exact Qg hk (k3.trans (J5 (by omega) (by simp[Vg,h3,h4,h5]) (by omega))) ⟨by omega,by omega⟩
   refine QW (QW (QW (QW ?_)))
   refine QN (fun v9 h8=>?_) (fun h8=>?_)
   intro h9
   try simp[-za,-zb]at h9
   exact ih _ (by omega) _ _ rfl ⟨by omega,by omega,k3.trans (QsP (by omega) (by simp[Vg,h3,h4,h5]) (by omega) h8 (by omega))⟩
   intro j10
   exact Qc hk (k3.trans (QpU (by omega) (by simp[Vg,h3,h4,h5]) (by omega) h8)) _
   refine Qa (fun h2=>?_) (fun h2=>?_)
   try simp[-za,-zb]at h2
   exact Qg hk (k3.trans (selGo_end (by omega))) ⟨by omega,by omega⟩
   try simp[-za,-zb]at h2
   refine QW ?_
   refine Qa ?_ ?_<;>intro h3<;>try simp[-za,-zb]at h3
   refine QW (QW (QW (QW ?_)))
   refine Qa ?_ ?_<;>intro h4<;>try simp[-za,-zb]at h4
   exfalso
   omega
   refine QW (QW (QW (QW ?_)))
   refine QN (fun v11 h5=>?_) (fun h5=>?_)
   intro h6
   try simp[-za,-zb]at h6
   exact ih _ (by omega) _ _ rfl ⟨by omega,by omega,k3.trans (Qbi (by omega) (by simp[Vg,h3]) h5 (by omega))⟩
   intro j12
   exact Qc hk (k3.trans (UQ (by omega) (by simp[Vg,h3]) h5)) _
   refine Qa (fun h4=>?_) (fun h4=>?_)
   try simp[-za,-zb]at h4
   refine QW (QW (QW (QW ?_)))
   refine Qa ?_ ?_<;>intro h5<;>try simp[-za,-zb]at h5
   exfalso
   omega
   refine QW (QW (QW (QW ?_)))
   refine QN (fun v13 h6=>?_) (fun h6=>?_)
   intro h7
   try simp[-za,-zb]at h7
   exact ih _ (by omega) _ _ rfl ⟨by omega,by omega,k3.trans (Qbi (by omega) (by simp[Vg,h4]) h6 (by omega))⟩
   intro j14
   exact Qc hk (k3.trans (UQ (by omega) (by simp[Vg,h4]) h6)) _
   try simp[-za,-zb]at h4
   refine Qa ?_ ?_<;>intro h5<;>try simp[-za,-zb]at h5
   refine QW (QW (QW (QW ?_)))
   refine Qa ?_ ?_<;>intro h6<;>try simp[-za,-zb]at h6
   exfalso
   omega
   refine QW (QW (QW (QW ?_)))
   refine QN (fun v15 h7=>?_) (fun h7=>?_)
   intro h8
   try simp[-za,-zb]at h8
   exact ih _ (by omega) _ _ rfl ⟨by omega,by omega,k3.trans (Qbi (by omega) (by simp[Vg,h5]) h7 (by omega))⟩
   intro j16
   exact Qc hk (k3.trans (UQ (by omega) (by simp[Vg,h5]) h7)) _
   refine Qa (fun h6=>?_) (fun h6=>?_)
   try simp[-za,-zb]at h6
   exact Qg hk (k3.trans (J5 (by omega) (by simp[Vg,h3,h4,h5]) (by omega))) ⟨by omega,by omega⟩
   try simp[-za,-zb]at h6
   refine Qa ?_ ?_<;>intro h7<;>try simp[-za,-zb]at h7
   exact Qg hk (k3.trans (J5 (by omega) (by simp[Vg,h3,h4,h5]) (by omega))) ⟨by omega,by omega⟩
   exact Qg hk (k3.trans (J5 (by omega) (by simp[Vg,h3,h4,h5]) (by omega))) ⟨by omega,by omega⟩
 refine (W72 m).en ((s.length<=1000000)/\(i<=s.length)/\(s.length<=1000000)/\(iWs s i<=s.length)/\(d<=1001)/\(1002<=d+m)/\Qu (YD (QD s a (1001-d)) s a (iWs s i)) (fun v1=>(iWs s i<v1.2/\v1.2<=s.length)->(W72 m).L K 5 (mkS 82 [(0,(.ptr 0 0)),(4,(.cs v1.1))] [(0,.blk 94 [(.str s),(.nat v1.2),(.nat d),(.bool a)])] 1)) (∀j2:Nat,K (.val (.tup [.nilif,.ifx])) (some (.blk 94 [(.str s),(.nat j2),(.nat d),(.bool a)])))) ?_
 refine QW (QW (QW (QW (QW (QW ?_)))))
 refine QN (fun v1 h1=>?_) (fun h1=>?_)
 intro h2
 try simp[-za,-zb]at h2
 exact L5 _ _ _ rfl ⟨by omega,by omega,by unfold Zj;rw[h1]⟩
 intro j2
 exact Qc hk (by unfold Zj;rw[h1]) _
 exact hP.elim
end
end Go.Proofs.YtengepcafdnalaaGreatDoor
