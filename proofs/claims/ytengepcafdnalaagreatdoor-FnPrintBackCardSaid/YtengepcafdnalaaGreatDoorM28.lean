/-
  Parts of the proof that the law FnPrintBack holds for every input (texts Ld, Le). Conditions: none.
-/
import Derived.Test.YtengepcafdnalaaGreatDoorM27
namespace Go.Proofs.YtengepcafdnalaaGreatDoor
open _root_.List renaming getD_eq_getElem?_getD → zd, mem_cons → zu, not_mem_nil → zJ, getElem?_eq_getElem → zg
open _root_.Nat renaming strongRecOn → zl
open Go.Proofs.Tryz renaming f70 → xz
open _root_.UInt8 renaming toNat_or → ze
section
open Go Go.RowKit
set_option maxRecDepth 20000
def c70 (m:Nat) (svs:List SV) (b:Option SB) (K:Out->Option SB->Prop):Prop:=match svs,b with
 | [.ptr 0 0],some (.blk 94 [.str s,.nat i,.nat d,.bool a])=>s.length<=1000000/\i<=s.length/\d<=1001/\1002<=d+m/\Qt (Qw s a (1001-d) i) (fun v=>i<v.2/\v.2<=s.length->K (.val (.tup [.sl (.csels v.1),.nilif])) (some (.blk 94 [.str s,.nat v.2,.nat d,.bool a]))) (∀j,K (.val (.tup [.sl (.csels []),.ifx])) (some (.blk 94 [.str s,.nat j,.nat d,.bool a])))
 | _,_=>False
theorem QqE:Has 70:=hsf xz
section
variable {G:Nat->Option (List CSel×Nat)} {s n:Bs} {j k:Nat}
theorem psG (hn:n=[110,111,116]\/n=[104,97,115]\/n=[104,97,115,99,104,105,108,100]):VX G s n j=(Y7 G s n j).map fun p=>(some p.1,[],p.2):=by
 unfold VX;exact if_pos hn
theorem Qie {v:List CSel×Nat} {e:Nat} (ho:Vu s j=some k) (hg:G k=some v) (hc:QT s v.2=some e):Y7 G s n j=some (.rel n v.1,e):=by
 obtain⟨l,m⟩:=v
 unfold Y7;rw[ho];dsimp only;rw[hg];dsimp only;dsimp only at hc;rw[hc];rfl
theorem Qld (ho:Vu s j=none):Y7 G s n j=none:=by unfold Y7;rw[ho]
theorem Qlc (ho:Vu s j=some k) (hg:G k=none):Y7 G s n j=none:=by unfold Y7;rw[ho];dsimp only;rw[hg]
theorem Qlb {v:List CSel×Nat} (ho:Vu s j=some k) (hg:G k=some v) (hc:QT s v.2=none):Y7 G s n j=none:=by
 obtain⟨l,m⟩:=v
 unfold Y7;rw[ho];dsimp only;rw[hg];dsimp only;dsimp only at hc;rw[hc];rfl
theorem psV (hn:n=[99,111,110,116,97,105,110,115]\/n=[99,111,110,116,97,105,110,115,111,119,110]):VX G s n j=(YY s (decide (n=[99,111,110,116,97,105,110,115,111,119,110])) j).map fun p=>(some p.1,[],p.2):=by
 unfold VX;rw[if_neg (show ¬(n=Zz\/n=ZA\/n=QN) from by rcases hn with h | h<;>(subst h;decide))]
 exact if_pos hn
theorem Qa1 {o:Bool} {v:Bs×Nat} {e:Nat} (ho:Vu s j=some k) (hl:k<s.length) (hv:(if bat s k=39\/bat s k=34 then ZB s k else Qx s k)=some v) (hc:QT s (iWs s v.2)=some e):YY s o j=some (.contains (low v.1) o,e):=by
 obtain⟨l,m⟩:=v
 have hc:QT s m=some e:=by unfold QT at hc ⊢;rwa [Law.iWs_fix]at hc
 unfold YY;rw[ho];dsimp only;rw[if_pos hl,hv];dsimp only;rw[hc];rfl
theorem Qrt {o:Bool} (ho:Vu s j=none):YY s o j=none:=by unfold YY;rw[ho]
theorem Qrs {o:Bool} (ho:Vu s j=some k) (hl:¬k<s.length):YY s o j=none:=by unfold YY;rw[ho];dsimp only;rw[if_neg hl]
theorem Qc9 {o:Bool} (ho:Vu s j=some k) (hl:k<s.length) (hv:(if bat s k=39\/bat s k=34 then ZB s k else Qx s k)=none):YY s o j=none:=by
 unfold YY;rw[ho];dsimp only;rw[if_pos hl,hv]
theorem Jq {o:Bool} {v:Bs×Nat} (ho:Vu s j=some k) (hl:k<s.length) (hv:(if bat s k=39\/bat s k=34 then ZB s k else Qx s k)=some v) (hc:s.length<=iWs s v.2\/QT s (iWs s v.2)=none):YY s o j=none:=by
 obtain⟨l,m⟩:=v
 have hc:QT s m=none:=by
  rcases hc with hc | hc
  unfold QT;rw[if_neg (fun q=>by dsimp only at hc;omega)]
  unfold QT at hc ⊢;rwa [Law.iWs_fix]at hc
 unfold YY;rw[ho];dsimp only;rw[if_pos hl,hv];dsimp only;rw[hc];rfl
theorem psN (hn:n=[110,116,104,45,99,104,105,108,100]\/n=[110,116,104,45,108,97,115,116,45,99,104,105,108,100]\/n=[110,116,104,45,111,102,45,116,121,112,101]\/n=[110,116,104,45,108,97,115,116,45,111,102,45,116,121,112,101]) :
 VX G s n j=(YZ s (decide (n=[110,116,104,45,108,97,115,116,45,99,104,105,108,100])||decide (n=[110,116,104,45,108,97,115,116,45,111,102,45,116,121,112,101])) (decide (n=[110,116,104,45,111,102,45,116,121,112,101])||decide (n=[110,116,104,45,108,97,115,116,45,111,102,45,116,121,112,101])) j).map fun p=>(some p.1,[],p.2):=by
 rw[<-Bool.decide_or,<-Bool.decide_or]
 unfold VX
 rw[if_neg (show ¬(n=Zz\/n=ZA\/n=QN) from by rcases hn with h | h | h | h<;>(subst h;decide)),if_neg (show ¬(n=VV\/n=Vc) from by rcases hn with h | h | h | h<;>(subst h;decide))]
 exact if_pos hn
theorem Qea {l t:Bool} {v:Int×Int×Nat} {e:Nat} (ho:Vu s j=some k) (hv:Yc s k=some v) (hc:QT s v.2.2=some e):YZ s l t j=some (.nth v.1 v.2.1 l t,e):=by
 obtain⟨x,y,m⟩:=v
 unfold YZ;rw[ho];dsimp only;rw[hv];dsimp only;dsimp only at hc;rw[hc];rfl
theorem Qid {l t:Bool} (ho:Vu s j=none):YZ s l t j=none:=by unfold YZ;rw[ho]
theorem Qic {l t:Bool} (ho:Vu s j=some k) (hv:Yc s k=none):YZ s l t j=none:=by unfold YZ;rw[ho];dsimp only;rw[hv]
theorem Qib {l t:Bool} {v:Int×Int×Nat} (ho:Vu s j=some k) (hv:Yc s k=some v) (hc:QT s v.2.2=none):YZ s l t j=none:=by
 obtain⟨x,y,m⟩:=v
 unfold YZ;rw[ho];dsimp only;rw[hv];dsimp only;dsimp only at hc;rw[hc];rfl
theorem psL (hn:n=[108,97,110,103]):VX G s n j=(Zf s j).map fun p=>(some p.1,[],p.2):=by
 subst hn
 unfold VX;rw[if_neg (by decide),if_neg (by decide),if_neg (by decide)]
 exact if_pos rfl
theorem Qty {v:Bs×Nat} {e:Nat} (ho:Vu s j=some k) (hl:k<s.length) (hv:Qx s k=some v) (hc:QT s (iWs s v.2)=some e):Zf s j=some (.lang (low v.1),e):=by
 obtain⟨l,m⟩:=v
 have hc:QT s m=some e:=by unfold QT at hc ⊢;rwa [Law.iWs_fix]at hc
 unfold Zf;rw[ho];dsimp only;rw[if_pos hl,hv];dsimp only;rw[hc];rfl
theorem Qyc (ho:Vu s j=none):Zf s j=none:=by unfold Zf;rw[ho]
theorem Qyb (ho:Vu s j=some k) (hl:¬k<s.length):Zf s j=none:=by unfold Zf;rw[ho];dsimp only;rw[if_neg hl]
theorem Qya (ho:Vu s j=some k) (hl:k<s.length) (hv:Qx s k=none):Zf s j=none:=by unfold Zf;rw[ho];dsimp only;rw[if_pos hl,hv]
theorem Qrw {v:Bs×Nat} (ho:Vu s j=some k) (hl:k<s.length) (hv:Qx s k=some v) (hc:s.length<=iWs s v.2\/QT s (iWs s v.2)=none):Zf s j=none:=by
 obtain⟨l,m⟩:=v
 have hc:QT s m=none:=by
  rcases hc with hc | hc
  unfold QT;rw[if_neg (fun q=>by dsimp only at hc;omega)]
  unfold QT at hc ⊢;rwa [Law.iWs_fix]at hc
 unfold Zf;rw[ho];dsimp only;rw[if_pos hl,hv];dsimp only;rw[hc];rfl
theorem Qjj {i:Nat} {v:Bs×Nat} (hl:i+1<s.length) (hv:Qx s (if bat s (i+1)=58 then i+2 else i+1)=some v) (h:bat s (i+1)=58->low v.1∈elNames):iPs G s i=VX G s (low v.1) v.2:=by
 obtain⟨w,m⟩:=v
 unfold iPs;rw[if_pos hl,hv];dsimp only;rw[if_neg (fun q=>q.2 (h q.1))]
theorem QsV {i:Nat} {v:Bs×Nat} (hv:Qx s (if bat s (i+1)=58 then i+2 else i+1)=some v) (h:bat s (i+1)=58/\low v.1∉elNames):iPs G s i=none:=by
 obtain⟨w,m⟩:=v
 unfold iPs;rw[hv];dsimp only;rw[if_pos h];split<;>rfl
theorem Qmi {i:Nat} (hv:Qx s (if bat s (i+1)=58 then i+2 else i+1)=none):iPs G s i=none:=by
 unfold iPs;rw[hv];split<;>rfl
theorem QsU {i:Nat} (hl:¬i+1<s.length):iPs G s i=none:=by
 unfold iPs;rw[if_neg hl]
end
def c119 (m:Nat) (svs:List SV) (b:Option SB) (K:Out->Option SB->Prop):Prop:=match svs,b with
 | [.ptr 0 0],some (.blk 94 [.str s,.nat i,.nat d,.bool a])=>s.length<=1000000/\i<=s.length/\d<=1001/\1002<=d+m/\i<s.length/\bat s i=58/\Qt (iPs (Qw s a (1001-d)) s i) (fun v=>i<v.2.2/\v.2.2<=s.length->Qt v.1 (fun x=>K (.val (.tup [.cs x,.str [],.nilif])) (some (.blk 94 [.str s,.nat v.2.2,.nat d,.bool a]))) (K (.val (.tup [.nilif,.str v.2.1,.nilif])) (some (.blk 94 [.str s,.nat v.2.2,.nat d,.bool a])))) (∀j,K (.val (.tup [.nilif,.str [],.ifx])) (some (.blk 94 [.str s,.nat j,.nat d,.bool a])))
 | _,_=>False
noncomputable def Qlr (m:Nat):Wk:=⟨[(70,.plain (c70 m)),(71,.pure c71),(99,.fn c99),(129,.plain c129),(130,.pure Qol),(132,.plain c132),(133,.plain c133),(134,.plain c134),(135,.pure c135),(136,.plain c136)],Qe Tryz.f119,true,false,[.tmp 2,.tmp 3,.tmp 4],[56,9,71],[(17,93)],[17]⟩
theorem Qw7:Has 119:=hsf Tryz.f119
theorem QE {p q:Prop} (k:q) (h:p:=by first | omega | (simp;done) | (simp;omega) | (simp;assumption)):p/\q:=⟨h,k⟩
theorem Qvp (m:Nat) (hG:Sat 70 (c70 m)):Sat 119 (c119 m):=by
 have hD:Qa (Qlr m).D:=(Qa.cons QqE hG (Qa.cons ZY ZU (Qa.cons QgA Qf2 (Qa.cons QhW Qha (Qa.cons QhV Qg9 (Qa.cons QqK Qpk (Qa.cons Qw1 Qvj (Qa.cons Qw0 Qvi (Qa.cons QwZ Qvh (Qa.cons QwY Qvg Qa.nil))))))))))
 refine (Qlr m).sa hD Tryz.f119 fun svs b K hP=>?_
 unfold c119 at hP
 split at hP
 rename_i s i d a
 obtain⟨h01,h02,h03,h04,h05,h06,hk⟩:=hP
 have L17:∀(mm:Nat) (name:Bs) (p:Nat),0=mm->(i<p/\p<=s.length/\iPs (Qw s a (1001-d)) s i=VX (Qw s a (1001-d)) s name p/\name.length<=10000000)->(Qlr m).C K 17 (mkS 402 [(0,(.ptr 0 0)),(2,.nilif),(3,(.str [])),(4,.nilif),(6,(.str name))] [(0,.blk 94 [(.str s),(.nat p),(.nat d),(.bool a)])] 1):=by
  intro mm
  induction mm using zl with
  | _ mm ih=>
   intro name p hm hI
   obtain⟨k1,k2,k3,k4⟩:=hI
   refine (Qlr m).aC hD (have a0:Option SB:=some (.blk 94 [(.str s),(.nat p),(.nat d),(.bool a)]);have a1:Out:=.val (.tup [.nilif,(.str []),.ifx]);have a2:=s.length<=1000000;have a3:=decide (name=[110,116,104,45,108,97,115,116,45,111,102,45,116,121,112,101]);have a4:=decide (name=[99,111,110,116,97,105,110,115,111,119,110]);have a5:Out:=.val (.tup [.nilif,(.str name),.nilif]);have a6:=decide (name=[110,116,104,45,108,97,115,116,45,99,104,105,108,100]);have a7:=decide (name=[110,116,104,45,111,102,45,116,121,112,101]);have a8:Out:=.val (.tup [(.cs (.never ([58]++name))),(.str []),.nilif]);have a9:=p<=s.length;cond (decide (name=[110,111,116])) (a2/\a9/\Qt (Vu s p) (fun j5=>(p<j5/\j5<=s.length)->a2/\(j5<=s.length)/\(d<=1001)/\(1002<=d+m)/\Qt ((Qw s a (1001-d)) j5) (fun v6=>(j5<v6.2/\v6.2<=s.length)->a2/\(v6.2<=s.length)/\Qt (QT s v6.2) (fun j8=>(v6.2<j8/\j8<=s.length)->K (.val (.tup [(.cs (.rel name v6.1)),(.str []),.nilif])) (some (.blk 94 [(.str s),(.nat j8),(.nat d),(.bool a)]))) (K a1 (some (.blk 94 [(.str s),(.nat v6.2),(.nat d),(.bool a)])))) (∀j7:Nat,K a1 (some (.blk 94 [(.str s),(.nat j7),(.nat d),(.bool a)])))) (K a1 a0)) (cond (decide (name=[104,97,115])) (a2/\a9/\Qt (Vu s p) (fun j9=>(p<j9/\j9<=s.length)->a2/\(j9<=s.length)/\(d<=1001)/\(1002<=d+m)/\Qt ((Qw s a (1001-d)) j9) (fun v10=>(j9<v10.2/\v10.2<=s.length)->a2/\(v10.2<=s.length)/\Qt (QT s v10.2) (fun j12=>(v10.2<j12/\j12<=s.length)->K (.val (.tup [(.cs (.rel name v10.1)),(.str []),.nilif])) (some (.blk 94 [(.str s),(.nat j12),(.nat d),(.bool a)]))) (K a1 (some (.blk 94 [(.str s),(.nat v10.2),(.nat d),(.bool a)])))) (∀j11:Nat,K a1 (some (.blk 94 [(.str s),(.nat j11),(.nat d),(.bool a)])))) (K a1 a0)) (cond (decide (name=[104,97,115,99,104,105,108,100])) (a2/\a9/\Qt (Vu s p) (fun j13=>(p<j13/\j13<=s.length)->a2/\(j13<=s.length)/\(d<=1001)/\(1002<=d+m)/\Qt ((Qw s a (1001-d)) j13) (fun v14=>(j13<v14.2/\v14.2<=s.length)->a2/\(v14.2<=s.length)/\Qt (QT s v14.2) (fun j16=>(v14.2<j16/\j16<=s.length)->K (.val (.tup [(.cs (.rel name v14.1)),(.str []),.nilif])) (some (.blk 94 [(.str s),(.nat j16),(.nat d),(.bool a)]))) (K a1 (some (.blk 94 [(.str s),(.nat v14.2),(.nat d),(.bool a)])))) (∀j15:Nat,K a1 (some (.blk 94 [(.str s),(.nat j15),(.nat d),(.bool a)])))) (K a1 a0)) (cond (decide (name=[99,111,110,116,97,105,110,115])) (a2/\a9/\Qt (Vu s p) (fun j17=>(p<j17/\j17<=s.length)->cond (decide (j17=s.length)) (K a1 (some (.blk 94 [(.str s),(.nat j17),(.nat d),(.bool a)]))) ((j17<s.length)/\cond (decide (bat s j17=39)) (a2/\(j17<=s.length)/\Qt (ZB s j17) (fun v18=>(j17<v18.2/\v18.2<=s.length/\v18.1.length<=4*(v18.2-j17))->(v18.1.length<=1000000000)/\a2/\(v18.2<=s.length)/\cond (decide (s.length<=iWs s v18.2)) (K a1 (some (.blk 94 [(.str s),(.nat (iWs s v18.2)),(.nat d),(.bool a)]))) (a2/\(iWs s v18.2<=s.length)/\Qt (QT s (iWs s v18.2)) (fun j20=>(iWs s v18.2<j20/\j20<=s.length)->K (.val (.tup [(.cs (.contains (low v18.1) a4)),(.str []),.nilif])) (some (.blk 94 [(.str s),(.nat j20),(.nat d),(.bool a)]))) (K a1 (some (.blk 94 [(.str s),(.nat (iWs s v18.2)),(.nat d),(.bool a)]))))) (∀j19:Nat,K a1 (some (.blk 94 [(.str s),(.nat j19),(.nat d),(.bool a)])))) (cond (decide (bat s j17=34)) (a2/\(j17<=s.length)/\Qt (ZB s j17) (fun v21=>(j17<v21.2/\v21.2<=s.length/\v21.1.length<=4*(v21.2-j17))->(v21.1.length<=1000000000)/\a2/\(v21.2<=s.length)/\cond (decide (s.length<=iWs s v21.2)) (K a1 (some (.blk 94 [(.str s),(.nat (iWs s v21.2)),(.nat d),(.bool a)]))) (a2/\(iWs s v21.2<=s.length)/\Qt (QT s (iWs s v21.2)) (fun j23=>(iWs s v21.2<j23/\j23<=s.length)->K (.val (.tup [(.cs (.contains (low v21.1) a4)),(.str []),.nilif])) (some (.blk 94 [(.str s),(.nat j23),(.nat d),(.bool a)]))) (K a1 (some (.blk 94 [(.str s),(.nat (iWs s v21.2)),(.nat d),(.bool a)]))))) (∀j22:Nat,K a1 (some (.blk 94 [(.str s),(.nat j22),(.nat d),(.bool a)])))) (a2/\(j17<=s.length)/\Qt (Qx s j17) (fun v24=>(j17<v24.2/\v24.2<=s.length/\v24.1.length<=4*(v24.2-j17))->(v24.1.length<=1000000000)/\a2/\(v24.2<=s.length)/\cond (decide (s.length<=iWs s v24.2)) (K a1 (some (.blk 94 [(.str s),(.nat (iWs s v24.2)),(.nat d),(.bool a)]))) (a2/\(iWs s v24.2<=s.length)/\Qt (QT s (iWs s v24.2)) (fun j26=>(iWs s v24.2<j26/\j26<=s.length)->K (.val (.tup [(.cs (.contains (low v24.1) a4)),(.str []),.nilif])) (some (.blk 94 [(.str s),(.nat j26),(.nat d),(.bool a)]))) (K a1 (some (.blk 94 [(.str s),(.nat (iWs s v24.2)),(.nat d),(.bool a)]))))) (∀j25:Nat,K a1 (some (.blk 94 [(.str s),(.nat j25),(.nat d),(.bool a)]))))))) (K a1 a0)) (cond a4 (a2/\a9/\Qt (Vu s p) (fun j27=>(p<j27/\j27<=s.length)->cond (decide (j27=s.length)) (K a1 (some (.blk 94 [(.str s),(.nat j27),(.nat d),(.bool a)]))) ((j27<s.length)/\cond (decide (bat s j27=39)) (a2/\(j27<=s.length)/\Qt (ZB s j27) (fun v28=>(j27<v28.2/\v28.2<=s.length/\v28.1.length<=4*(v28.2-j27))->(v28.1.length<=1000000000)/\a2/\(v28.2<=s.length)/\cond (decide (s.length<=iWs s v28.2)) (K a1 (some (.blk 94 [(.str s),(.nat (iWs s v28.2)),(.nat d),(.bool a)]))) (a2/\(iWs s v28.2<=s.length)/\Qt (QT s (iWs s v28.2)) (fun j30=>(iWs s v28.2<j30/\j30<=s.length)->K (.val (.tup [(.cs (.contains (low v28.1) a4)),(.str []),.nilif])) (some (.blk 94 [(.str s),(.nat j30),(.nat d),(.bool a)]))) (K a1 (some (.blk 94 [(.str s),(.nat (iWs s v28.2)),(.nat d),(.bool a)]))))) (∀j29:Nat,K a1 (some (.blk 94 [(.str s),(.nat j29),(.nat d),(.bool a)])))) (cond (decide (bat s j27=34)) (a2/\(j27<=s.length)/\Qt (ZB s j27) (fun v31=>(j27<v31.2/\v31.2<=s.length/\v31.1.length<=4*(v31.2-j27))->(v31.1.length<=1000000000)/\a2/\(v31.2<=s.length)/\cond (decide (s.length<=iWs s v31.2)) (K a1 (some (.blk 94 [(.str s),(.nat (iWs s v31.2)),(.nat d),(.bool a)]))) (a2/\(iWs s v31.2<=s.length)/\Qt (QT s (iWs s v31.2)) (fun j33=>(iWs s v31.2<j33/\j33<=s.length)->K (.val (.tup [(.cs (.contains (low v31.1) a4)),(.str []),.nilif])) (some (.blk 94 [(.str s),(.nat j33),(.nat d),(.bool a)]))) (K a1 (some (.blk 94 [(.str s),(.nat (iWs s v31.2)),(.nat d),(.bool a)]))))) (∀j32:Nat,K a1 (some (.blk 94 [(.str s),(.nat j32),(.nat d),(.bool a)])))) (a2/\(j27<=s.length)/\Qt (Qx s j27) (fun v34=>(j27<v34.2/\v34.2<=s.length/\v34.1.length<=4*(v34.2-j27))->(v34.1.length<=1000000000)/\a2/\(v34.2<=s.length)/\cond (decide (s.length<=iWs s v34.2)) (K a1 (some (.blk 94 [(.str s),(.nat (iWs s v34.2)),(.nat d),(.bool a)]))) (a2/\(iWs s v34.2<=s.length)/\Qt (QT s (iWs s v34.2)) (fun j36=>(iWs s v34.2<j36/\j36<=s.length)->K (.val (.tup [(.cs (.contains (low v34.1) a4)),(.str []),.nilif])) (some (.blk 94 [(.str s),(.nat j36),(.nat d),(.bool a)]))) (K a1 (some (.blk 94 [(.str s),(.nat (iWs s v34.2)),(.nat d),(.bool a)]))))) (∀j35:Nat,K a1 (some (.blk 94 [(.str s),(.nat j35),(.nat d),(.bool a)]))))))) (K a1 a0)) (cond (decide (name=[110,116,104,45,99,104,105,108,100])) (a2/\a9/\Qt (Vu s p) (fun j37=>(p<j37/\j37<=s.length)->a2/\(j37<=s.length)/\Qt (Yc s j37) (fun v38=>(j37<=v38.2.2/\v38.2.2<=s.length)->a2/\(v38.2.2<=s.length)/\Qt (QT s v38.2.2) (fun j40=>(v38.2.2<j40/\j40<=s.length)->K (.val (.tup [(.cs (.nth v38.1 v38.2.1 (a6||a3) (a7||a3))),(.str []),.nilif])) (some (.blk 94 [(.str s),(.nat j40),(.nat d),(.bool a)]))) (K a1 (some (.blk 94 [(.str s),(.nat v38.2.2),(.nat d),(.bool a)])))) (∀j39:Nat,K a1 (some (.blk 94 [(.str s),(.nat j39),(.nat d),(.bool a)])))) (K a1 a0)) (cond a6 (a2/\a9/\Qt (Vu s p) (fun j41=>(p<j41/\j41<=s.length)->a2/\(j41<=s.length)/\Qt (Yc s j41) (fun v42=>(j41<=v42.2.2/\v42.2.2<=s.length)->a2/\(v42.2.2<=s.length)/\Qt (QT s v42.2.2) (fun j44=>(v42.2.2<j44/\j44<=s.length)->K (.val (.tup [(.cs (.nth v42.1 v42.2.1 (a6||a3) (a7||a3))),(.str []),.nilif])) (some (.blk 94 [(.str s),(.nat j44),(.nat d),(.bool a)]))) (K a1 (some (.blk 94 [(.str s),(.nat v42.2.2),(.nat d),(.bool a)])))) (∀j43:Nat,K a1 (some (.blk 94 [(.str s),(.nat j43),(.nat d),(.bool a)])))) (K a1 a0)) (cond a7 (a2/\a9/\Qt (Vu s p) (fun j45=>(p<j45/\j45<=s.length)->a2/\(j45<=s.length)/\Qt (Yc s j45) (fun v46=>(j45<=v46.2.2/\v46.2.2<=s.length)->a2/\(v46.2.2<=s.length)/\Qt (QT s v46.2.2) (fun j48=>(v46.2.2<j48/\j48<=s.length)->K (.val (.tup [(.cs (.nth v46.1 v46.2.1 (a6||a3) (a7||a3))),(.str []),.nilif])) (some (.blk 94 [(.str s),(.nat j48),(.nat d),(.bool a)]))) (K a1 (some (.blk 94 [(.str s),(.nat v46.2.2),(.nat d),(.bool a)])))) (∀j47:Nat,K a1 (some (.blk 94 [(.str s),(.nat j47),(.nat d),(.bool a)])))) (K a1 a0)) (cond a3 (a2/\a9/\Qt (Vu s p) (fun j49=>(p<j49/\j49<=s.length)->a2/\(j49<=s.length)/\Qt (Yc s j49) (fun v50=>(j49<=v50.2.2/\v50.2.2<=s.length)->a2/\(v50.2.2<=s.length)/\Qt (QT s v50.2.2) (fun j52=>(v50.2.2<j52/\j52<=s.length)->K (.val (.tup [(.cs (.nth v50.1 v50.2.1 (a6||a3) (a7||a3))),(.str []),.nilif])) (some (.blk 94 [(.str s),(.nat j52),(.nat d),(.bool a)]))) (K a1 (some (.blk 94 [(.str s),(.nat v50.2.2),(.nat d),(.bool a)])))) (∀j51:Nat,K a1 (some (.blk 94 [(.str s),(.nat j51),(.nat d),(.bool a)])))) (K a1 a0)) (cond (decide (name=[102,105,114,115,116,45,99,104,105,108,100])) (K (.val (.tup [(.cs (.nth (0:Int) (1:Int) false false)),(.str []),.nilif])) a0) (cond (decide (name=[108,97,115,116,45,99,104,105,108,100])) (K (.val (.tup [(.cs (.nth (0:Int) (1:Int) true false)),(.str []),.nilif])) a0) (cond (decide (name=[102,105,114,115,116,45,111,102,45,116,121,112,101])) (K (.val (.tup [(.cs (.nth (0:Int) (1:Int) false true)),(.str []),.nilif])) a0) (cond (decide (name=[108,97,115,116,45,111,102,45,116,121,112,101])) (K (.val (.tup [(.cs (.nth (0:Int) (1:Int) true true)),(.str []),.nilif])) a0) (cond (decide (name=[111,110,108,121,45,99,104,105,108,100])) (K (.val (.tup [(.cs (.only false)),(.str []),.nilif])) a0) (cond (decide (name=[111,110,108,121,45,111,102,45,116,121,112,101])) (K (.val (.tup [(.cs (.only true)),(.str []),.nilif])) a0) (cond (decide (name=[105,110,112,117,116])) (K (.val (.tup [(.cs CSel.input),(.str []),.nilif])) a0) (cond (decide (name=[101,109,112,116,121])) (K (.val (.tup [(.cs CSel.empty),(.str []),.nilif])) a0) (cond (decide (name=[114,111,111,116])) (K (.val (.tup [(.cs CSel.root),(.str []),.nilif])) a0) (cond (decide (name=[108,105,110,107])) (K (.val (.tup [(.cs CSel.link),(.str []),.nilif])) a0) (cond (decide (name=[108,97,110,103])) (a2/\a9/\Qt (Vu s p) (fun j53=>(p<j53/\j53<=s.length)->cond (decide (j53=s.length)) (K a1 (some (.blk 94 [(.str s),(.nat j53),(.nat d),(.bool a)]))) (a2/\(j53<=s.length)/\Qt (Qx s j53) (fun v54=>(j53<v54.2/\v54.2<=s.length/\v54.1.length<=4*(v54.2-j53))->(v54.1.length<=1000000000)/\a2/\(v54.2<=s.length)/\cond (decide (s.length<=iWs s v54.2)) (K a1 (some (.blk 94 [(.str s),(.nat (iWs s v54.2)),(.nat d),(.bool a)]))) (a2/\(iWs s v54.2<=s.length)/\Qt (QT s (iWs s v54.2)) (fun j56=>(iWs s v54.2<j56/\j56<=s.length)->K (.val (.tup [(.cs (.lang (low v54.1))),(.str []),.nilif])) (some (.blk 94 [(.str s),(.nat j56),(.nat d),(.bool a)]))) (K a1 (some (.blk 94 [(.str s),(.nat (iWs s v54.2)),(.nat d),(.bool a)]))))) (∀j55:Nat,K a1 (some (.blk 94 [(.str s),(.nat j55),(.nat d),(.bool a)]))))) (K a1 a0)) (cond (decide (name=[101,110,97,98,108,101,100])) (K (.val (.tup [(.cs CSel.enabled),(.str []),.nilif])) a0) (cond (decide (name=[100,105,115,97,98,108,101,100])) (K (.val (.tup [(.cs CSel.disabled),(.str []),.nilif])) a0) (cond (decide (name=[99,104,101,99,107,101,100])) (K (.val (.tup [(.cs CSel.checked),(.str []),.nilif])) a0) (cond (decide (name=[118,105,115,105,116,101,100])) ((1+name.length<=2305843009213693952)/\K a8 a0) (cond (decide (name=[104,111,118,101,114])) ((1+name.length<=2305843009213693952)/\K a8 a0) (cond (decide (name=[97,99,116,105,118,101])) ((1+name.length<=2305843009213693952)/\K a8 a0) (cond (decide (name=[102,111,99,117,115])) ((1+name.length<=2305843009213693952)/\K a8 a0) (cond (decide (name=[116,97,114,103,101,116])) ((1+name.length<=2305843009213693952)/\K a8 a0) (cond (decide (name=[97,102,116,101,114])) (K a5 a0) (cond (decide (name=[98,97,99,107,100,114,111,112])) (K a5 a0) (cond (decide (name=[98,101,102,111,114,101])) (K a5 a0) (cond (decide (name=[99,117,101])) (K a5 a0) (cond (decide (name=[102,105,114,115,116,45,108,101,116,116,101,114])) (K a5 a0) (cond (decide (name=[102,105,114,115,116,45,108,105,110,101])) (K a5 a0) (cond (decide (name=[103,114,97,109,109,97,114,45,101,114,114,111,114])) (K a5 a0) (cond (decide (name=[109,97,114,107,101,114])) (K a5 a0) (cond (decide (name=[112,108,97,99,101,104,111,108,100,101,114])) (K a5 a0) (cond (decide (name=[115,101,108,101,99,116,105,111,110])) (K a5 a0) (cond (decide (name=[115,112,101,108,108,105,110,103,45,101,114,114,111,114])) (K a5 a0) (K a1 a0)))))))))))))))))))))))))))))))))))))))) ?_
   refine Qb (fun h1=>?_) (fun h1=>?_)
   have h1:=of_decide_eq_true h1
   refine QE (QE ?_)
   refine QJ (fun j5 h2=>?_) (fun h2=>?_)
   intro h3
   try simp[-zd,-ze]at h3
   refine QE (QE (QE (QE ?_)))
   refine QJ (fun v6 h4=>?_) (fun h4=>?_)
   intro h5
   try simp[-zd,-ze]at h5
   refine QE (QE ?_)
   refine QJ (fun j8 h6=>?_) (fun h6=>?_)
   intro h7
   try simp[-zd,-ze]at h7
   have e:iPs (Qw s a (1001-d)) s i=some (some (.rel name v6.1),[],j8):=by rw[k3,psG (.inl h1),Qie h2 h4 h6];rfl
   have q:=Qd hk e ⟨by dsimp only;omega,by dsimp only;omega⟩
   exact q
   exact Qc hk (by rw[k3,psG (.inl h1),Qlb h2 h4 h6];rfl) _
   intro j7
   exact Qc hk (by rw[k3,psG (.inl h1),Qlc h2 h4];rfl) _
   exact Qc hk (by rw[k3,psG (.inl h1),Qld h2];rfl) _
   have h1:=of_decide_eq_false h1
   refine Qb (fun h2=>?_) (fun h2=>?_)
   have h2:=of_decide_eq_true h2
   refine QE (QE ?_)
   refine QJ (fun j9 h3=>?_) (fun h3=>?_)
   intro h4
   try simp[-zd,-ze]at h4
   refine QE (QE (QE (QE ?_)))
   refine QJ (fun v10 h5=>?_) (fun h5=>?_)
   intro h6
   try simp[-zd,-ze]at h6
   refine QE (QE ?_)
   refine QJ (fun j12 h7=>?_) (fun h7=>?_)
   intro h8
   try simp[-zd,-ze]at h8
   have e:iPs (Qw s a (1001-d)) s i=some (some (.rel name v10.1),[],j12):=by rw[k3,psG (.inr (.inl h2)),Qie h3 h5 h7];rfl
   have q:=Qd hk e ⟨by dsimp only;omega,by dsimp only;omega⟩
   exact q
   exact Qc hk (by rw[k3,psG (.inr (.inl h2)),Qlb h3 h5 h7];rfl) _
   intro j11
   exact Qc hk (by rw[k3,psG (.inr (.inl h2)),Qlc h3 h5];rfl) _
   exact Qc hk (by rw[k3,psG (.inr (.inl h2)),Qld h3];rfl) _
   have h2:=of_decide_eq_false h2
   refine Qb (fun h3=>?_) (fun h3=>?_)
   have h3:=of_decide_eq_true h3
   refine QE (QE ?_)
   refine QJ (fun j13 h4=>?_) (fun h4=>?_)
   intro h5
   try simp[-zd,-ze]at h5
   refine QE (QE (QE (QE ?_)))
   refine QJ (fun v14 h6=>?_) (fun h6=>?_)
   intro h7
   try simp[-zd,-ze]at h7
   refine QE (QE ?_)
   refine QJ (fun j16 h8=>?_) (fun h8=>?_)
   intro h9
   try simp[-zd,-ze]at h9
   have e:iPs (Qw s a (1001-d)) s i=some (some (.rel name v14.1),[],j16):=by rw[k3,psG (.inr (.inr h3)),Qie h4 h6 h8];rfl
   have q:=Qd hk e ⟨by dsimp only;omega,by dsimp only;omega⟩
   exact q
   exact Qc hk (by rw[k3,psG (.inr (.inr h3)),Qlb h4 h6 h8];rfl) _
   intro j15
   exact Qc hk (by rw[k3,psG (.inr (.inr h3)),Qlc h4 h6];rfl) _
   exact Qc hk (by rw[k3,psG (.inr (.inr h3)),Qld h4];rfl) _
   have h3:=of_decide_eq_false h3
   refine Qb (fun h4=>?_) (fun h4=>?_)
   have h4:=of_decide_eq_true h4
   refine QE (QE ?_)
   refine QJ (fun j17 h5=>?_) (fun h5=>?_)
   intro h6
   try simp[-zd,-ze]at h6
   refine Qb ?_ ?_<;>intro h7<;>try simp[-zd,-ze]at h7
   exact Qc hk (by rw[k3,psV (.inl h4),Qrs h5 (by omega)];rfl) _
   refine QE ?_
   refine Qb ?_ ?_<;>intro h8<;>try simp[-zd,-ze]at h8
   refine QE (QE ?_)
   refine QJ (fun v18 h9=>?_) (fun h9=>?_)
   intro h10
   try simp[-zd,-ze]at h10
   refine QE (QE (QE ?_))
   refine Qb ?_ ?_<;>intro h11<;>try simp[-zd,-ze]at h11
   exact Qc hk (by rw[k3,psV (.inl h4),Jq h5 (by omega) (by rw[if_pos (.inl h8)];exact h9) (.inl (by omega))];rfl) _
   refine QE (QE ?_)
   refine QJ (fun j20 h12=>?_) (fun h12=>?_)
   intro h13
   try simp[-zd,-ze]at h13
   have w9:=QQ s v18.2
   have e:iPs (Qw s a (1001-d)) s i=some (some (.contains (low v18.1) (decide (name=[99,111,110,116,97,105,110,115,111,119,110]))),[],j20):=by rw[k3,psV (.inl h4),Qa1 h5 (by omega) (by rw[if_pos (.inl h8)];exact h9) h12];rfl
   have q:=Qd hk e ⟨by dsimp only;omega,by dsimp only;omega⟩
   exact q
   exact Qc hk (by rw[k3,psV (.inl h4),Jq h5 (by omega) (by rw[if_pos (.inl h8)];exact h9) (.inr h12)];rfl) _
   intro j19
   exact Qc hk (by rw[k3,psV (.inl h4),Qc9 h5 (by omega) (by rw[if_pos (.inl h8)];exact h9)];rfl) _
   refine Qb (fun h9=>?_) (fun h9=>?_)
   try simp[-zd,-ze]at h9
   refine QE (QE ?_)
   refine QJ (fun v21 h10=>?_) (fun h10=>?_)
   intro h11
   try simp[-zd,-ze]at h11
   refine QE (QE (QE ?_))
   refine Qb ?_ ?_<;>intro h12<;>try simp[-zd,-ze]at h12
   exact Qc hk (by rw[k3,psV (.inl h4),Jq h5 (by omega) (by rw[if_pos (.inr h9)];exact h10) (.inl (by omega))];rfl) _
   refine QE (QE ?_)
   refine QJ (fun j23 h13=>?_) (fun h13=>?_)
   intro h14
   try simp[-zd,-ze]at h14
   have w9:=QQ s v21.2
   have e:iPs (Qw s a (1001-d)) s i=some (some (.contains (low v21.1) (decide (name=[99,111,110,116,97,105,110,115,111,119,110]))),[],j23):=by rw[k3,psV (.inl h4),Qa1 h5 (by omega) (by rw[if_pos (.inr h9)];exact h10) h13];rfl
   have q:=Qd hk e ⟨by dsimp only;omega,by dsimp only;omega⟩
   exact q
   exact Qc hk (by rw[k3,psV (.inl h4),Jq h5 (by omega) (by rw[if_pos (.inr h9)];exact h10) (.inr h13)];rfl) _
   intro j22
   exact Qc hk (by rw[k3,psV (.inl h4),Qc9 h5 (by omega) (by rw[if_pos (.inr h9)];exact h10)];rfl) _
   try simp[-zd,-ze]at h9
   refine QE (QE ?_)
   refine QJ (fun v24 h10=>?_) (fun h10=>?_)
   intro h11
   try simp[-zd,-ze]at h11
   refine QE (QE (QE ?_))
   refine Qb ?_ ?_<;>intro h12<;>try simp[-zd,-ze]at h12
   exact Qc hk (by rw[k3,psV (.inl h4),Jq h5 (by omega) (by rw[if_neg (by omega)];exact h10) (.inl (by omega))];rfl) _
   refine QE (QE ?_)
   refine QJ (fun j26 h13=>?_) (fun h13=>?_)
   intro h14
   try simp[-zd,-ze]at h14
   have w9:=QQ s v24.2
   have e:iPs (Qw s a (1001-d)) s i=some (some (.contains (low v24.1) (decide (name=[99,111,110,116,97,105,110,115,111,119,110]))),[],j26):=by rw[k3,psV (.inl h4),Qa1 h5 (by omega) (by rw[if_neg (by omega)];exact h10) h13];rfl
   have q:=Qd hk e ⟨by dsimp only;omega,by dsimp only;omega⟩
   exact q
   exact Qc hk (by rw[k3,psV (.inl h4),Jq h5 (by omega) (by rw[if_neg (by omega)];exact h10) (.inr h13)];rfl) _
   intro j25
   exact Qc hk (by rw[k3,psV (.inl h4),Qc9 h5 (by omega) (by rw[if_neg (by omega)];exact h10)];rfl) _
   exact Qc hk (by rw[k3,psV (.inl h4),Qrt h5];rfl) _
   have h4:=of_decide_eq_false h4
   refine Qb (fun h5=>?_) (fun h5=>?_)
   have h5:=of_decide_eq_true h5
   refine QE (QE ?_)
   refine QJ (fun j27 h6=>?_) (fun h6=>?_)
   intro h7
   try simp[-zd,-ze]at h7
   refine Qb ?_ ?_<;>intro h8<;>try simp[-zd,-ze]at h8
   exact Qc hk (by rw[k3,psV (.inr h5),Qrs h6 (by omega)];rfl) _
   refine QE ?_
   refine Qb ?_ ?_<;>intro h9<;>try simp[-zd,-ze]at h9
   refine QE (QE ?_)
   refine QJ (fun v28 h10=>?_) (fun h10=>?_)
   intro h11
   try simp[-zd,-ze]at h11
   refine QE (QE (QE ?_))
   refine Qb ?_ ?_<;>intro h12<;>try simp[-zd,-ze]at h12
   exact Qc hk (by rw[k3,psV (.inr h5),Jq h6 (by omega) (by rw[if_pos (.inl h9)];exact h10) (.inl (by omega))];rfl) _
   refine QE (QE ?_)
   refine QJ (fun j30 h13=>?_) (fun h13=>?_)
   intro h14
   try simp[-zd,-ze]at h14
   have w9:=QQ s v28.2
   have e:iPs (Qw s a (1001-d)) s i=some (some (.contains (low v28.1) (decide (name=[99,111,110,116,97,105,110,115,111,119,110]))),[],j30):=by rw[k3,psV (.inr h5),Qa1 h6 (by omega) (by rw[if_pos (.inl h9)];exact h10) h13];rfl
   have q:=Qd hk e ⟨by dsimp only;omega,by dsimp only;omega⟩
   exact q
   exact Qc hk (by rw[k3,psV (.inr h5),Jq h6 (by omega) (by rw[if_pos (.inl h9)];exact h10) (.inr h13)];rfl) _
   intro j29
   exact Qc hk (by rw[k3,psV (.inr h5),Qc9 h6 (by omega) (by rw[if_pos (.inl h9)];exact h10)];rfl) _
   refine Qb (fun h10=>?_) (fun h10=>?_)
   try simp[-zd,-ze]at h10
   refine QE (QE ?_)
   refine QJ (fun v31 h11=>?_) (fun h11=>?_)
   intro h12
   try simp[-zd,-ze]at h12
   refine QE (QE (QE ?_))
   refine Qb ?_ ?_<;>intro h13<;>try simp[-zd,-ze]at h13
   exact Qc hk (by rw[k3,psV (.inr h5),Jq h6 (by omega) (by rw[if_pos (.inr h10)];exact h11) (.inl (by omega))];rfl) _
   refine QE (QE ?_)
   refine QJ (fun j33 h14=>?_) (fun h14=>?_)
   intro h15
   try simp[-zd,-ze]at h15
   have w9:=QQ s v31.2
   have e:iPs (Qw s a (1001-d)) s i=some (some (.contains (low v31.1) (decide (name=[99,111,110,116,97,105,110,115,111,119,110]))),[],j33):=by rw[k3,psV (.inr h5),Qa1 h6 (by omega) (by rw[if_pos (.inr h10)];exact h11) h14];rfl
   have q:=Qd hk e ⟨by dsimp only;omega,by dsimp only;omega⟩
   exact q
   exact Qc hk (by rw[k3,psV (.inr h5),Jq h6 (by omega) (by rw[if_pos (.inr h10)];exact h11) (.inr h14)];rfl) _
   intro j32
   exact Qc hk (by rw[k3,psV (.inr h5),Qc9 h6 (by omega) (by rw[if_pos (.inr h10)];exact h11)];rfl) _
   try simp[-zd,-ze]at h10
   refine QE (QE ?_)
   refine QJ (fun v34 h11=>?_) (fun h11=>?_)
   intro h12
   try simp[-zd,-ze]at h12
   refine QE (QE (QE ?_))
   refine Qb ?_ ?_<;>intro h13<;>try simp[-zd,-ze]at h13
   exact Qc hk (by rw[k3,psV (.inr h5),Jq h6 (by omega) (by rw[if_neg (by omega)];exact h11) (.inl (by omega))];rfl) _
   refine QE (QE ?_)
   refine QJ (fun j36 h14=>?_) (fun h14=>?_)
   intro h15
   try simp[-zd,-ze]at h15
   have w9:=QQ s v34.2
   have e:iPs (Qw s a (1001-d)) s i=some (some (.contains (low v34.1) (decide (name=[99,111,110,116,97,105,110,115,111,119,110]))),[],j36):=by rw[k3,psV (.inr h5),Qa1 h6 (by omega) (by rw[if_neg (by omega)];exact h11) h14];rfl
   have q:=Qd hk e ⟨by dsimp only;omega,by dsimp only;omega⟩
   exact q
   exact Qc hk (by rw[k3,psV (.inr h5),Jq h6 (by omega) (by rw[if_neg (by omega)];exact h11) (.inr h14)];rfl) _
   intro j35
   exact Qc hk (by rw[k3,psV (.inr h5),Qc9 h6 (by omega) (by rw[if_neg (by omega)];exact h11)];rfl) _
   exact Qc hk (by rw[k3,psV (.inr h5),Qrt h6];rfl) _
   have h5:=of_decide_eq_false h5
   refine Qb (fun h6=>?_) (fun h6=>?_)
   have h6:=of_decide_eq_true h6
   refine QE (QE ?_)
   refine QJ (fun j37 h7=>?_) (fun h7=>?_)
   intro h8
   try simp[-zd,-ze]at h8
   refine QE (QE ?_)
   refine QJ (fun v38 h9=>?_) (fun h9=>?_)
   intro h10
   try simp[-zd,-ze]at h10
   refine QE (QE ?_)
   refine QJ (fun j40 h11=>?_) (fun h11=>?_)
   intro h12
   try simp[-zd,-ze]at h12
   have e:iPs (Qw s a (1001-d)) s i=some (some (.nth v38.1 v38.2.1 ((decide (name=[110,116,104,45,108,97,115,116,45,99,104,105,108,100]))||(decide (name=[110,116,104,45,108,97,115,116,45,111,102,45,116,121,112,101]))) ((decide (name=[110,116,104,45,111,102,45,116,121,112,101]))||(decide (name=[110,116,104,45,108,97,115,116,45,111,102,45,116,121,112,101])))),[],j40):=by rw[k3,psN (.inl h6),Qea h7 h9 h11];rfl
   have q:=Qd hk e ⟨by dsimp only;omega,by dsimp only;omega⟩
   exact q
   exact Qc hk (by rw[k3,psN (.inl h6),Qib h7 h9 h11];rfl) _
   intro j39
   exact Qc hk (by rw[k3,psN (.inl h6),Qic h7 h9];rfl) _
   exact Qc hk (by rw[k3,psN (.inl h6),Qid h7];rfl) _
   have h6:=of_decide_eq_false h6
   refine Qb (fun h7=>?_) (fun h7=>?_)
   have h7:=of_decide_eq_true h7
   refine QE (QE ?_)
   refine QJ (fun j41 h8=>?_) (fun h8=>?_)
   intro h9
   try simp[-zd,-ze]at h9
   refine QE (QE ?_)
   refine QJ (fun v42 h10=>?_) (fun h10=>?_)
   intro h11
   try simp[-zd,-ze]at h11
   refine QE (QE ?_)
   refine QJ (fun j44 h12=>?_) (fun h12=>?_)
   intro h13
   try simp[-zd,-ze]at h13
   have e:iPs (Qw s a (1001-d)) s i=some (some (.nth v42.1 v42.2.1 ((decide (name=[110,116,104,45,108,97,115,116,45,99,104,105,108,100]))||(decide (name=[110,116,104,45,108,97,115,116,45,111,102,45,116,121,112,101]))) ((decide (name=[110,116,104,45,111,102,45,116,121,112,101]))||(decide (name=[110,116,104,45,108,97,115,116,45,111,102,45,116,121,112,101])))),[],j44):=by rw[k3,psN (.inr (.inl h7)),Qea h8 h10 h12];rfl
   have q:=Qd hk e ⟨by dsimp only;omega,by dsimp only;omega⟩
   exact q
   exact Qc hk (by rw[k3,psN (.inr (.inl h7)),Qib h8 h10 h12];rfl) _
   intro j43
   exact Qc hk (by rw[k3,psN (.inr (.inl h7)),Qic h8 h10];rfl) _
   exact Qc hk (by rw[k3,psN (.inr (.inl h7)),Qid h8];rfl) _
   have h7:=of_decide_eq_false h7
   refine Qb (fun h8=>?_) (fun h8=>?_)
   have h8:=of_decide_eq_true h8
   refine QE (QE ?_)
   refine QJ (fun j45 h9=>?_) (fun h9=>?_)
   intro h10
   try simp[-zd,-ze]at h10
   refine QE (QE ?_)
   refine QJ (fun v46 h11=>?_) (fun h11=>?_)
   intro h12
   try simp[-zd,-ze]at h12
   refine QE (QE ?_)
   refine QJ (fun j48 h13=>?_) (fun h13=>?_)
   intro h14
   try simp[-zd,-ze]at h14
   have e:iPs (Qw s a (1001-d)) s i=some (some (.nth v46.1 v46.2.1 ((decide (name=[110,116,104,45,108,97,115,116,45,99,104,105,108,100]))||(decide (name=[110,116,104,45,108,97,115,116,45,111,102,45,116,121,112,101]))) ((decide (name=[110,116,104,45,111,102,45,116,121,112,101]))||(decide (name=[110,116,104,45,108,97,115,116,45,111,102,45,116,121,112,101])))),[],j48):=by rw[k3,psN (.inr (.inr (.inl h8))),Qea h9 h11 h13];rfl
   have q:=Qd hk e ⟨by dsimp only;omega,by dsimp only;omega⟩
   exact q
   exact Qc hk (by rw[k3,psN (.inr (.inr (.inl h8))),Qib h9 h11 h13];rfl) _
   intro j47
   exact Qc hk (by rw[k3,psN (.inr (.inr (.inl h8))),Qic h9 h11];rfl) _
   exact Qc hk (by rw[k3,psN (.inr (.inr (.inl h8))),Qid h9];rfl) _
   have h8:=of_decide_eq_false h8
   refine Qb (fun h9=>?_) (fun h9=>?_)
   have h9:=of_decide_eq_true h9
   refine QE (QE ?_)
   refine QJ (fun j49 h10=>?_) (fun h10=>?_)
   intro h11
   try simp[-zd,-ze]at h11
   refine QE (QE ?_)
   refine QJ (fun v50 h12=>?_) (fun h12=>?_)
   intro h13
   try simp[-zd,-ze]at h13
   refine QE (QE ?_)
   refine QJ (fun j52 h14=>?_) (fun h14=>?_)
   intro h15
   try simp[-zd,-ze]at h15
   have e:iPs (Qw s a (1001-d)) s i=some (some (.nth v50.1 v50.2.1 ((decide (name=[110,116,104,45,108,97,115,116,45,99,104,105,108,100]))||(decide (name=[110,116,104,45,108,97,115,116,45,111,102,45,116,121,112,101]))) ((decide (name=[110,116,104,45,111,102,45,116,121,112,101]))||(decide (name=[110,116,104,45,108,97,115,116,45,111,102,45,116,121,112,101])))),[],j52):=by rw[k3,psN (.inr (.inr (.inr h9))),Qea h10 h12 h14];rfl
   have q:=Qd hk e ⟨by dsimp only;omega,by dsimp only;omega⟩
   exact q
   exact Qc hk (by rw[k3,psN (.inr (.inr (.inr h9))),Qib h10 h12 h14];rfl) _
   intro j51
   exact Qc hk (by rw[k3,psN (.inr (.inr (.inr h9))),Qic h10 h12];rfl) _
   exact Qc hk (by rw[k3,psN (.inr (.inr (.inr h9))),Qid h10];rfl) _
   have h9:=of_decide_eq_false h9
   refine Qb (fun h10=>?_) (fun h10=>?_)
   have h10:=of_decide_eq_true h10
   have e:iPs (Qw s a (1001-d)) s i=some (some (.nth (0:Int) (1:Int) false false),[],p):=by rw[k3,h10];rfl
   have q:=Qd hk e ⟨by dsimp only;omega,by dsimp only;omega⟩
   exact q
   have h10:=of_decide_eq_false h10
   refine Qb (fun h11=>?_) (fun h11=>?_)
   have h11:=of_decide_eq_true h11
   have e:iPs (Qw s a (1001-d)) s i=some (some (.nth (0:Int) (1:Int) true false),[],p):=by rw[k3,h11];rfl
   have q:=Qd hk e ⟨by dsimp only;omega,by dsimp only;omega⟩
   exact q
   have h11:=of_decide_eq_false h11
   refine Qb (fun h12=>?_) (fun h12=>?_)
   have h12:=of_decide_eq_true h12
   have e:iPs (Qw s a (1001-d)) s i=some (some (.nth (0:Int) (1:Int) false true),[],p):=by rw[k3,h12];rfl
   have q:=Qd hk e ⟨by dsimp only;omega,by dsimp only;omega⟩
   exact q
   have h12:=of_decide_eq_false h12
   refine Qb (fun h13=>?_) (fun h13=>?_)
   have h13:=of_decide_eq_true h13
   have e:iPs (Qw s a (1001-d)) s i=some (some (.nth (0:Int) (1:Int) true true),[],p):=by rw[k3,h13];rfl
   have q:=Qd hk e ⟨by dsimp only;omega,by dsimp only;omega⟩
   exact q
   have h13:=of_decide_eq_false h13
   refine Qb (fun h14=>?_) (fun h14=>?_)
   have h14:=of_decide_eq_true h14
   have e:iPs (Qw s a (1001-d)) s i=some (some (.only false),[],p):=by rw[k3,h14];rfl
   have q:=Qd hk e ⟨by dsimp only;omega,by dsimp only;omega⟩
   exact q
   have h14:=of_decide_eq_false h14
   refine Qb (fun h15=>?_) (fun h15=>?_)
   have h15:=of_decide_eq_true h15
   have e:iPs (Qw s a (1001-d)) s i=some (some (.only true),[],p):=by rw[k3,h15];rfl
   have q:=Qd hk e ⟨by dsimp only;omega,by dsimp only;omega⟩
   exact q
   have h15:=of_decide_eq_false h15
   refine Qb (fun h16=>?_) (fun h16=>?_)
   have h16:=of_decide_eq_true h16
   have e:iPs (Qw s a (1001-d)) s i=some (some CSel.input,[],p):=by rw[k3,h16];rfl
   have q:=Qd hk e ⟨by dsimp only;omega,by dsimp only;omega⟩
   exact q
   have h16:=of_decide_eq_false h16
   refine Qb (fun h17=>?_) (fun h17=>?_)
   have h17:=of_decide_eq_true h17
   have e:iPs (Qw s a (1001-d)) s i=some (some CSel.empty,[],p):=by rw[k3,h17];rfl
   have q:=Qd hk e ⟨by dsimp only;omega,by dsimp only;omega⟩
   exact q
   have h17:=of_decide_eq_false h17
   refine Qb (fun h18=>?_) (fun h18=>?_)
   have h18:=of_decide_eq_true h18
   have e:iPs (Qw s a (1001-d)) s i=some (some CSel.root,[],p):=by rw[k3,h18];rfl
   have q:=Qd hk e ⟨by dsimp only;omega,by dsimp only;omega⟩
   exact q
   have h18:=of_decide_eq_false h18
   refine Qb (fun h19=>?_) (fun h19=>?_)
   have h19:=of_decide_eq_true h19
   have e:iPs (Qw s a (1001-d)) s i=some (some CSel.link,[],p):=by rw[k3,h19];rfl
   have q:=Qd hk e ⟨by dsimp only;omega,by dsimp only;omega⟩
   exact q
   have h19:=of_decide_eq_false h19
   refine Qb (fun h20=>?_) (fun h20=>?_)
   have h20:=of_decide_eq_true h20
   refine QE (QE ?_)
   refine QJ (fun j53 h21=>?_) (fun h21=>?_)
   intro h22
   try simp[-zd,-ze]at h22
   refine Qb ?_ ?_<;>intro h23<;>try simp[-zd,-ze]at h23
   exact Qc hk (by rw[k3,psL h20,Qyb h21 (by omega)];rfl) _
   refine QE (QE ?_)
   refine QJ (fun v54 h24=>?_) (fun h24=>?_)
   intro h25
   try simp[-zd,-ze]at h25
   refine QE (QE (QE ?_))
   refine Qb ?_ ?_<;>intro h26<;>try simp[-zd,-ze]at h26
   exact Qc hk (by rw[k3,psL h20,Qrw h21 (by omega) h24 (.inl (by omega))];rfl) _
   refine QE (QE ?_)
   refine QJ (fun j56 h27=>?_) (fun h27=>?_)
   intro h28
   try simp[-zd,-ze]at h28
   have w9:=QQ s v54.2
   have e:iPs (Qw s a (1001-d)) s i=some (some (.lang (low v54.1)),[],j56):=by rw[k3,psL h20,Qty h21 (by omega) h24 h27];rfl
   have q:=Qd hk e ⟨by dsimp only;omega,by dsimp only;omega⟩
   exact q
   exact Qc hk (by rw[k3,psL h20,Qrw h21 (by omega) h24 (.inr h27)];rfl) _
   intro j55
   exact Qc hk (by rw[k3,psL h20,Qya h21 (by omega) h24];rfl) _
   exact Qc hk (by rw[k3,psL h20,Qyc h21];rfl) _
   have h20:=of_decide_eq_false h20
   refine Qb (fun h21=>?_) (fun h21=>?_)
   have h21:=of_decide_eq_true h21
   have e:iPs (Qw s a (1001-d)) s i=some (some CSel.enabled,[],p):=by rw[k3,h21];rfl
   have q:=Qd hk e ⟨by dsimp only;omega,by dsimp only;omega⟩
   exact q
   have h21:=of_decide_eq_false h21
   refine Qb (fun h22=>?_) (fun h22=>?_)
   have h22:=of_decide_eq_true h22
   have e:iPs (Qw s a (1001-d)) s i=some (some CSel.disabled,[],p):=by rw[k3,h22];rfl
   have q:=Qd hk e ⟨by dsimp only;omega,by dsimp only;omega⟩
   exact q
   have h22:=of_decide_eq_false h22
   refine Qb (fun h23=>?_) (fun h23=>?_)
   have h23:=of_decide_eq_true h23
   have e:iPs (Qw s a (1001-d)) s i=some (some CSel.checked,[],p):=by rw[k3,h23];rfl
   have q:=Qd hk e ⟨by dsimp only;omega,by dsimp only;omega⟩
   exact q
   have h23:=of_decide_eq_false h23
   refine Qb (fun h24=>?_) (fun h24=>?_)
   have h24:=of_decide_eq_true h24
   refine QE ?_
   have e:iPs (Qw s a (1001-d)) s i=some (some (.never ([58]++name)),[],p):=by rw[k3,h24];rfl
   have q:=Qd hk e ⟨by dsimp only;omega,by dsimp only;omega⟩
   exact q
   have h24:=of_decide_eq_false h24
   refine Qb (fun h25=>?_) (fun h25=>?_)
   have h25:=of_decide_eq_true h25
   refine QE ?_
   have e:iPs (Qw s a (1001-d)) s i=some (some (.never ([58]++name)),[],p):=by rw[k3,h25];rfl
   have q:=Qd hk e ⟨by dsimp only;omega,by dsimp only;omega⟩
   exact q
   have h25:=of_decide_eq_false h25
   refine Qb (fun h26=>?_) (fun h26=>?_)
   have h26:=of_decide_eq_true h26
   refine QE ?_
   have e:iPs (Qw s a (1001-d)) s i=some (some (.never ([58]++name)),[],p):=by rw[k3,h26];rfl
   have q:=Qd hk e ⟨by dsimp only;omega,by dsimp only;omega⟩
   exact q
   have h26:=of_decide_eq_false h26
   refine Qb (fun h27=>?_) (fun h27=>?_)
   have h27:=of_decide_eq_true h27
   refine QE ?_
   have e:iPs (Qw s a (1001-d)) s i=some (some (.never ([58]++name)),[],p):=by rw[k3,h27];rfl
   have q:=Qd hk e ⟨by dsimp only;omega,by dsimp only;omega⟩
   exact q
   have h27:=of_decide_eq_false h27
   refine Qb (fun h28=>?_) (fun h28=>?_)
   have h28:=of_decide_eq_true h28
   refine QE ?_
   have e:iPs (Qw s a (1001-d)) s i=some (some (.never ([58]++name)),[],p):=by rw[k3,h28];rfl
   have q:=Qd hk e ⟨by dsimp only;omega,by dsimp only;omega⟩
   exact q
   have h28:=of_decide_eq_false h28
   refine Qb (fun h29=>?_) (fun h29=>?_)
   have h29:=of_decide_eq_true h29
   have e:iPs (Qw s a (1001-d)) s i=some (none,name,p):=by rw[k3,h29];rfl
   have q:=Qd hk e ⟨by dsimp only;omega,by dsimp only;omega⟩
   exact q
   have h29:=of_decide_eq_false h29
   refine Qb (fun h30=>?_) (fun h30=>?_)
   have h30:=of_decide_eq_true h30
   have e:iPs (Qw s a (1001-d)) s i=some (none,name,p):=by rw[k3,h30];rfl
   have q:=Qd hk e ⟨by dsimp only;omega,by dsimp only;omega⟩
   exact q
   have h30:=of_decide_eq_false h30
   refine Qb (fun h31=>?_) (fun h31=>?_)
   have h31:=of_decide_eq_true h31
   have e:iPs (Qw s a (1001-d)) s i=some (none,name,p):=by rw[k3,h31];rfl
   have q:=Qd hk e ⟨by dsimp only;omega,by dsimp only;omega⟩
   exact q
   have h31:=of_decide_eq_false h31
   refine Qb (fun h32=>?_) (fun h32=>?_)
   have h32:=of_decide_eq_true h32
   have e:iPs (Qw s a (1001-d)) s i=some (none,name,p):=by rw[k3,h32];rfl
   have q:=Qd hk e ⟨by dsimp only;omega,by dsimp only;omega⟩
   exact q
   have h32:=of_decide_eq_false h32
   refine Qb (fun h33=>?_) (fun h33=>?_)
   have h33:=of_decide_eq_true h33
   have e:iPs (Qw s a (1001-d)) s i=some (none,name,p):=by rw[k3,h33];rfl
   have q:=Qd hk e ⟨by dsimp only;omega,by dsimp only;omega⟩
   exact q
   have h33:=of_decide_eq_false h33
   refine Qb (fun h34=>?_) (fun h34=>?_)
   have h34:=of_decide_eq_true h34
   have e:iPs (Qw s a (1001-d)) s i=some (none,name,p):=by rw[k3,h34];rfl
   have q:=Qd hk e ⟨by dsimp only;omega,by dsimp only;omega⟩
   exact q
   have h34:=of_decide_eq_false h34
   refine Qb (fun h35=>?_) (fun h35=>?_)
   have h35:=of_decide_eq_true h35
   have e:iPs (Qw s a (1001-d)) s i=some (none,name,p):=by rw[k3,h35];rfl
   have q:=Qd hk e ⟨by dsimp only;omega,by dsimp only;omega⟩
   exact q
   have h35:=of_decide_eq_false h35
   refine Qb (fun h36=>?_) (fun h36=>?_)
   have h36:=of_decide_eq_true h36
   have e:iPs (Qw s a (1001-d)) s i=some (none,name,p):=by rw[k3,h36];rfl
   have q:=Qd hk e ⟨by dsimp only;omega,by dsimp only;omega⟩
   exact q
   have h36:=of_decide_eq_false h36
   refine Qb (fun h37=>?_) (fun h37=>?_)
   have h37:=of_decide_eq_true h37
   have e:iPs (Qw s a (1001-d)) s i=some (none,name,p):=by rw[k3,h37];rfl
   have q:=Qd hk e ⟨by dsimp only;omega,by dsimp only;omega⟩
   exact q
   have h37:=of_decide_eq_false h37
   refine Qb (fun h38=>?_) (fun h38=>?_)
   have h38:=of_decide_eq_true h38
   have e:iPs (Qw s a (1001-d)) s i=some (none,name,p):=by rw[k3,h38];rfl
   have q:=Qd hk e ⟨by dsimp only;omega,by dsimp only;omega⟩
   exact q
   have h38:=of_decide_eq_false h38
   refine Qb (fun h39=>?_) (fun h39=>?_)
   have h39:=of_decide_eq_true h39
   have e:iPs (Qw s a (1001-d)) s i=some (none,name,p):=by rw[k3,h39];rfl
   have q:=Qd hk e ⟨by dsimp only;omega,by dsimp only;omega⟩
   exact q
   have h39:=of_decide_eq_false h39
   exact Qc hk (by rw[k3];simp[VX,Jm,elNames,neverNames,Zz,ZA,QN,VV,Vc,VE,QM,VK,QL,Jc,h1,h2,h3,h4,h5,h6,h7,h8,h9,h10,h11,h12,h13,h14,h15,h16,h17,h18,h19,h20,h21,h22,h23,h24,h25,h26,h27,h28,h29,h30,h31,h32,h33,h34,h35,h36,h37,h38,h39]) _
 refine (Qlr m).en (have a0:Out:=.val (.tup [.nilif,(.str []),.ifx]);have a1:Option SB:=some (.blk 94 [(.str s),(.nat i),(.nat d),(.bool a)]);cond (decide (s.length<=i)) (K a0 a1) ((i<s.length)/\cond (!(decide (bat s i=58))) (K a0 a1) ((i+1<=9223372036854775807)/\cond (decide (s.length<=i+1)) (K a0 (some (.blk 94 [(.str s),(.nat (i+1)),(.nat d),(.bool a)]))) ((i+1<s.length)/\cond (decide (bat s (i+1)=58)) ((i+2<=9223372036854775807)/\(s.length<=1000000)/\(i+2<=s.length)/\Qt (Qx s (i+2)) (fun v1=>(i+2<v1.2/\v1.2<=s.length/\v1.1.length<=4*(v1.2-(i+2)))->(v1.1.length<=1000000000)/\cond (((((((((((!(decide (low v1.1=[97,102,116,101,114])))&&(!(decide (low v1.1=[98,97,99,107,100,114,111,112]))))&&(!(decide (low v1.1=[98,101,102,111,114,101]))))&&(!(decide (low v1.1=[99,117,101]))))&&(!(decide (low v1.1=[102,105,114,115,116,45,108,101,116,116,101,114]))))&&(!(decide (low v1.1=[102,105,114,115,116,45,108,105,110,101]))))&&(!(decide (low v1.1=[103,114,97,109,109,97,114,45,101,114,114,111,114]))))&&(!(decide (low v1.1=[109,97,114,107,101,114]))))&&(!(decide (low v1.1=[112,108,97,99,101,104,111,108,100,101,114]))))&&(!(decide (low v1.1=[115,101,108,101,99,116,105,111,110]))))&&(!(decide (low v1.1=[115,112,101,108,108,105,110,103,45,101,114,114,111,114])))) (K a0 (some (.blk 94 [(.str s),(.nat v1.2),(.nat d),(.bool a)]))) ((Qlr m).C K 17 (mkS 402 [(0,(.ptr 0 0)),(2,.nilif),(3,(.str [])),(4,.nilif),(6,(.str (low v1.1)))] [(0,.blk 94 [(.str s),(.nat v1.2),(.nat d),(.bool a)])] 1))) (∀j2:Nat,K a0 (some (.blk 94 [(.str s),(.nat j2),(.nat d),(.bool a)])))) ((s.length<=1000000)/\(i+1<=s.length)/\Qt (Qx s (i+1)) (fun v3=>(i+1<v3.2/\v3.2<=s.length/\v3.1.length<=4*(v3.2-(i+1)))->(v3.1.length<=1000000000)/\(Qlr m).C K 17 (mkS 402 [(0,(.ptr 0 0)),(2,.nilif),(3,(.str [])),(4,.nilif),(6,(.str (low v3.1)))] [(0,.blk 94 [(.str s),(.nat v3.2),(.nat d),(.bool a)])] 1)) (∀j4:Nat,K a0 (some (.blk 94 [(.str s),(.nat j4),(.nat d),(.bool a)])))))))) ?_
 refine Qb ?_ ?_<;>intro h1<;>try simp[-zd,-ze]at h1
 exfalso
 omega
 refine QE ?_
 refine Qb ?_ ?_<;>intro h2<;>try simp[-zd,-ze]at h2
 exfalso
 omega
 refine QE ?_
 refine Qb ?_ ?_<;>intro h3<;>try simp[-zd,-ze]at h3
 exact Qc hk (QsU (by omega)) _
 refine QE ?_
 refine Qb ?_ ?_<;>intro h4<;>try simp[-zd,-ze]at h4
 refine QE (QE (QE ?_))
 refine QJ (fun v1 h5=>?_) (fun h5=>?_)
 intro h6
 try simp[-zd,-ze]at h6
 refine QE ?_
 refine Qb ?_ ?_<;>intro h7<;>try simp[-zd,-ze]at h7
 . exact Qc hk (QsV (v:=v1) (by rw[if_pos h4];exact h5) ⟨h4,by
   intro q
   simp only[elNames,zu,zJ,or_false]at q
   rcases q with q | q | q | q | q | q | q | q | q | q | q<;>simp[q]at h7⟩) _
 exact L17 _ (low v1.1) v1.2 rfl ⟨by omega,by omega,Qjj (by omega) (by rw[if_pos h4];exact h5) (fun _=>Decidable.byContradiction fun q=>by
  simp only[elNames,zu,zJ,or_false,not_or]at q
  obtain⟨q1,q2,q3,q4,q5,q6,q7,q8,q9,qa,qb⟩:=q
  simp[q1,q2,q3,q4,q5,q6,q7,q8,q9,qa,qb]at h7),by simp[low];omega⟩
 intro j2
 exact Qc hk (Qmi (by rw[if_pos h4];exact h5)) _
 refine QE (QE ?_)
 refine QJ (fun v3 h5=>?_) (fun h5=>?_)
 intro h6
 try simp[-zd,-ze]at h6
 refine QE ?_
 exact L17 _ (low v3.1) v3.2 rfl ⟨by omega,by omega,Qjj (by omega) (by rw[if_neg h4];exact h5) (fun q=>absurd q h4),by simp[low];omega⟩
 intro j4
 exact Qc hk (Qmi (by rw[if_neg h4];exact h5)) _
 exact hP.elim
end
section
open Go Go.RowKit
set_option maxRecDepth 20000
section
variable {G:Nat->Option (List CSel×Nat)} {s pe n:Bs} {a:Bool} {p j:Nat} {l:List CSel} {x:CSel}
theorem s35 (h:bat s p=35):Vd G s p=(VY s (p+1)).map fun q=>(some (.idn q.1),[],q.2):=by unfold Vd;rw[if_pos h]
theorem s46 (h:bat s p=46):Vd G s p=(Qx s (p+1)).map fun q=>(some (.cls q.1),[],q.2):=by unfold Vd;rw[if_neg (by omega),if_pos h]
theorem s91 (h:bat s p=91):Vd G s p=(Yo s p).map fun q=>(some (attrOf q).1,[],q.2):=by
 unfold Vd;rw[if_neg (by omega),if_neg (by omega),if_pos h,QdZ,Option.map_map];rfl
theorem s58 (h:bat s p=58):Vd G s p=iPs G s p:=by unfold Vd;rw[if_neg (by omega),if_neg (by omega),if_neg (by omega)]
theorem Qmy (h1:p<s.length) (h2:Qv (bat s p)=true) (h:Vd G s p=none):QS G s a p l pe=none:=by
 rw[QS,if_pos ⟨h1,h2⟩,h]
theorem go_x (h1:p<s.length) (h2:Qv (bat s p)=true) (h:Vd G s p=some (some x,n,j)) (hj:p<j) (he:pe=[]):QS G s a p l pe=QS G s a j (l++[x]) pe:=by
 rw[QS,if_pos ⟨h1,h2⟩,h];dsimp only;rw[if_pos hj,if_pos he]
theorem Qmw (h1:p<s.length) (h2:Qv (bat s p)=true) (h:Vd G s p=some (some x,n,j)) (hj:p<j) (he:¬pe=[]):QS G s a p l pe=none:=by
 rw[QS,if_pos ⟨h1,h2⟩,h];dsimp only;rw[if_pos hj,if_neg he]
theorem go_e (h1:p<s.length) (h2:Qv (bat s p)=true) (h:Vd G s p=some (none,n,j)) (hj:p<j) (he:pe=[]/\a=true):QS G s a p l pe=QS G s a j l n:=by
 rw[QS,if_pos ⟨h1,h2⟩,h];dsimp only;rw[if_pos hj,if_pos he]
theorem Qui (h1:p<s.length) (h2:Qv (bat s p)=true) (h:Vd G s p=some (none,n,j)) (hj:p<j) (he:¬(pe=[]/\a=true)):QS G s a p l pe=none:=by
 rw[QS,if_pos ⟨h1,h2⟩,h];dsimp only;rw[if_pos hj,if_neg he]
theorem QqS (h:¬(p<s.length/\Qv (bat s p)=true)):QS G s a p l pe=some (VT l pe,p):=by
 rw[QS,if_neg h]
theorem QrZ (h:s.length<=p):V8 G s a p=none:=by unfold V8;rw[if_neg (by omega)]
theorem QdM (h1:p<s.length) (h2:Qv (bat s p)=true):V8 G s a p=QS G s a p [] []:=by
 have h3:¬bat s p=42:=fun q=>by rw[q]at h2;exact absurd h2 (by decide)
 unfold V8;rw[if_pos h1,if_neg h3,if_pos h2]
theorem QrY {v:Bs×Nat} (h1:p<s.length) (h2:¬bat s p=42) (h3:¬Qv (bat s p)=true) (h:Qx s p=some v):V8 G s a p=QS G s a v.2 [.tag (low v.1)] []:=by
 unfold V8;rw[if_pos h1,if_neg h2,if_neg h3,h]
theorem Quz (h1:p<s.length) (h2:¬bat s p=42) (h3:¬Qv (bat s p)=true) (h:Qx s p=none):V8 G s a p=none:=by
 unfold V8;rw[if_pos h1,if_neg h2,if_neg h3,h]
theorem Qo0 (h1:p<s.length) (h2:bat s p=42) (h:p+3<s.length/\bat s (p+1)=124/\bat s (p+2)=42):V8 G s a p=QS G s a (p+3) [] []:=by
 unfold V8;rw[if_pos h1,if_pos h2,if_pos h]
theorem Qnd (h1:p<s.length) (h2:bat s p=42) (h:¬(p+3<s.length/\bat s (p+1)=124/\bat s (p+2)=42)):V8 G s a p=QS G s a (p+1) [] []:=by
 unfold V8;rw[if_pos h1,if_pos h2,if_neg h]
theorem Qo6 (h1:l.length=1) (h2:pe=[]):VT l pe=l.getD 0 default:=by
 subst h2;match l,h1 with | [x],_=>rfl
theorem Qo3 (h:¬(l.length=1/\pe=[])):VT l pe=.compound l pe:=by
 unfold VT;split
 exact absurd ⟨rfl,rfl⟩ h
 rfl
theorem QlA {c e:UInt8} (h:p+2<=s.length):(s.take (p+2)).drop p=[c,e] ↔ bat s p=c.toNat/\bat s (p+1)=e.toNat:=by
 have h1:(s.take (p+2)).drop p=[s.getD p 0,s.getD (p+1) 0]:=by
  apply List.ext_getElem
  simp;omega
  intro i h2 h3
  have:i=0\/i=1:=by simp at h3;omega
  rcases this with q | q<;>subst q<;>simp[zd,zg (show p<s.length by omega),zg (show p+1<s.length by omega)]
 rw[h1]
 simp[bat,<-UInt8.toNat_inj,-zd]
end
def c100 (m:Nat) (svs:List SV) (b:Option SB) (K:Out->Option SB->Prop):Prop:=match svs,b with
 | [.ptr 0 0],some (.blk 94 [.str s,.nat i,.nat d,.bool a])=>s.length<=1000000/\i<=s.length/\d<=1001/\1002<=d+m/\Qt (V8 (Qw s a (1001-d)) s a i) (fun v=>i<v.2/\v.2<=s.length->K (.val (.tup [.cs v.1,.nilif])) (some (.blk 94 [.str s,.nat v.2,.nat d,.bool a]))) (∀j,K (.val (.tup [.nilif,.ifx])) (some (.blk 94 [.str s,.nat j,.nat d,.bool a])))
 | _,_=>False
noncomputable def Uh (m:Nat):Wk:=⟨[(71,.pure c71),(115,.plain c115),(116,.plain c116),(117,.plain c117),(118,.plain c118),(119,.plain (c119 m))],Qe Tryz.f100,true,false,[.tmp 2,.tmp 3],[56,71],[(18,145),(42,145)],[42]⟩
theorem Qxi:Has 100:=hsf Tryz.f100
theorem lez3 {c0 p0 p1 p2 p3 q:Prop} (k:q) (h:c0->p0/\p1/\p2/\p3/\True:=by intro g0;(try simp at g0);exact⟨(by first | omega | (simp;done) | (simp;omega) | (simp;assumption)),(by first | omega | (simp;done) | (simp;omega) | (simp;assumption)),(by first | omega | (simp;done) | (simp;omega) | (simp;assumption)),(by first | omega | (simp;done) | (simp;omega) | (simp;assumption)),trivial⟩):(c0->p0/\p1/\p2/\p3/\True)/\q:=⟨h,k⟩
theorem lez2 {c0 p0 p1 q:Prop} (k:q) (h:c0->p0/\p1/\True:=by intro g0;(try simp at g0);exact⟨(by first | omega | (simp;done) | (simp;omega) | (simp;assumption)),(by first | omega | (simp;done) | (simp;omega) | (simp;assumption)),trivial⟩):(c0->p0/\p1/\True)/\q:=⟨h,k⟩
theorem QfM {c0 p0 q:Prop} (k:q) (h:c0->p0/\True:=by intro g0;(try simp at g0);exact⟨(by first | omega | (simp;done) | (simp;omega) | (simp;assumption)),trivial⟩):(c0->p0/\True)/\q:=⟨h,k⟩
theorem QY {p q:Prop} (k:q) (h:p:=by first | omega | (simp;done) | (simp;omega) | (simp;assumption)):p/\q:=⟨h,k⟩
theorem QvB (m:Nat) (hG:Sat 70 (c70 m)):Sat 100 (c100 m):=by
 have hD:Qa (Uh m).D:=(Qa.cons ZY ZU (Qa.cons Qxb Qvt (Qa.cons Qxa Qvs (Qa.cons Qw9 Qvr (Qa.cons Qw8 Qvq (Qa.cons Qw7 (Qvp m hG) Qa.nil))))))
 refine (Uh m).sa hD Tryz.f100 fun svs b K hP=>?_
 unfold c100 at hP
 split at hP
 rename_i s i d a
 obtain⟨h01,h02,h03,h04,hk⟩:=hP
 have L42:∀(mm:Nat) (p:Nat) (l:List CSel) (pe:Bs),0=mm->(i<p/\p<=s.length/\V8 (Qw s a (1001-d)) s a i=some (VT l pe,p))->(Uh m).C K 42 (mkS 180 [(0,(.ptr 0 0)),(4,(.sl (.csels l))),(7,(.str pe))] [(0,.blk 94 [(.str s),(.nat p),(.nat d),(.bool a)])] 1):=by
  intro mm
  induction mm using zl with
  | _ mm ih=>
   intro p l pe hm hI
   obtain⟨k1,k2,k3⟩:=hI
   refine (Uh m).aC hD (have a0:Option SB:=some (.blk 94 [(.str s),(.nat p),(.nat d),(.bool a)]);cond ((decide (l.length=1))&&(decide (pe=[]))) ((0<l.length)/\K (.val (.tup [(.cs (l.getD 0 default)),.nilif])) a0) (K (.val (.tup [(.cs (.compound l pe)),.nilif])) a0)) ?_
   refine Qb ?_ ?_<;>intro h1<;>try simp[-zd,-ze]at h1
   refine QY ?_
   exact Qd hk (k3.trans (by rw[Qo6 h1.1 h1.2])) ⟨k1,k2⟩
   exact Qd hk (k3.trans (by rw[Qo3 (by simpa using h1)])) ⟨k1,k2⟩
 have L18:∀(mm:Nat) (p:Nat) (l:List CSel) (pe:Bs),s.length-p=mm->(i<=p/\p<=s.length/\(i<p\/Qv (bat s p)=true/\p<s.length)/\V8 (Qw s a (1001-d)) s a i=QS (Qw s a (1001-d)) s a p l pe/\l.length<=p)->(Uh m).L K 18 (mkS 180 [(0,(.ptr 0 0)),(4,(.own 1)),(7,(.str pe))] [(1,.row (.csels l) true),(0,.blk 94 [(.str s),(.nat p),(.nat d),(.bool a)])] 2):=by
  intro mm
  induction mm using zl with
  | _ mm ih=>
   intro p l pe hm hI
   obtain⟨k1,k2,k3,k4,k5⟩:=hI
   refine (Uh m).aL hD (have a0:Out:=.val (.tup [.nilif,.ifx]);have a1:=mkS 180 [(0,(.ptr 0 0)),(4,(.own 1)),(7,(.str pe))] [(1,.row (.csels l) true),(0,.blk 94 [(.str s),(.nat p),(.nat d),(.bool a)])] 2;have a2:=l.length+1<=1099511627776;have a3 := !(decide (pe=[]));have a4:=s.length<=1000000;cond (decide (p<s.length)) ((p<s.length)/\cond (decide (bat s p=35)) (a4/\(p<=s.length)/\(p<s.length)/\(bat s p=35)/\Qt (VY s (p+1)) (fun v3=>(p<v3.2/\v3.2<=s.length)->cond a3 (K a0 (some (.blk 94 [(.str s),(.nat v3.2),(.nat d),(.bool a)]))) (a2/\(Uh m).L K 18 (mkS 180 [(0,(.ptr 0 0)),(4,(.own 3)),(7,(.str pe))] [(3,.row (.csels (l++[.idn v3.1])) true),(0,.blk 94 [(.str s),(.nat v3.2),(.nat d),(.bool a)])] 4))) (∀j4:Nat,K a0 (some (.blk 94 [(.str s),(.nat j4),(.nat d),(.bool a)])))) (cond (decide (bat s p=46)) (a4/\(p<=s.length)/\(p<s.length)/\(bat s p=46)/\Qt (Qx s (p+1)) (fun v5=>(p<v5.2/\v5.2<=s.length)->cond a3 (K a0 (some (.blk 94 [(.str s),(.nat v5.2),(.nat d),(.bool a)]))) (a2/\(Uh m).L K 18 (mkS 180 [(0,(.ptr 0 0)),(4,(.own 3)),(7,(.str pe))] [(3,.row (.csels (l++[.cls v5.1])) true),(0,.blk 94 [(.str s),(.nat v5.2),(.nat d),(.bool a)])] 4))) (∀j6:Nat,K a0 (some (.blk 94 [(.str s),(.nat j6),(.nat d),(.bool a)])))) (cond (decide (bat s p=91)) (a4/\(p<=s.length)/\(p<s.length)/\(bat s p=91)/\Qt (Yo s p) (fun v7=>(p<v7.2/\v7.2<=s.length)->cond a3 (K a0 (some (.blk 94 [(.str s),(.nat v7.2),(.nat d),(.bool a)]))) (a2/\(Uh m).L K 18 (mkS 180 [(0,(.ptr 0 0)),(4,(.own 3)),(7,(.str pe))] [(3,.row (.csels (l++[.attr v7.1.1 v7.1.2.1 v7.1.2.2.1 v7.1.2.2.2])) true),(0,.blk 94 [(.str s),(.nat v7.2),(.nat d),(.bool a)])] 4))) (∀j8:Nat,K a0 (some (.blk 94 [(.str s),(.nat j8),(.nat d),(.bool a)])))) (cond (decide (bat s p=58)) (a4/\(p<=s.length)/\(d<=1001)/\(1002<=d+m)/\(p<s.length)/\(bat s p=58)/\Qt (iPs (Qw s a (1001-d)) s p) (fun v9=>(p<v9.2.2/\v9.2.2<=s.length)->Qt v9.1 (fun x10=>cond a3 (K a0 (some (.blk 94 [(.str s),(.nat v9.2.2),(.nat d),(.bool a)]))) (a2/\(Uh m).L K 18 (mkS 180 [(0,(.ptr 0 0)),(4,(.own 3)),(7,(.str pe))] [(3,.row (.csels (l++[x10])) true),(0,.blk 94 [(.str s),(.nat v9.2.2),(.nat d),(.bool a)])] 4))) (cond a3 (K a0 (some (.blk 94 [(.str s),(.nat v9.2.2),(.nat d),(.bool a)]))) (cond (!a) (K a0 (some (.blk 94 [(.str s),(.nat v9.2.2),(.nat d),(.bool a)]))) ((Uh m).L K 18 (mkS 180 [(0,(.ptr 0 0)),(4,(.own 1)),(7,(.str v9.2.1))] [(1,.row (.csels l) true),(0,.blk 94 [(.str s),(.nat v9.2.2),(.nat d),(.bool a)])] 2))))) (∀j11:Nat,K a0 (some (.blk 94 [(.str s),(.nat j11),(.nat d),(.bool a)])))) ((Uh m).C K 42 a1))))) ((Uh m).C K 42 a1)) ?_
   refine Qb ?_ ?_<;>intro h1<;>try simp[-zd,-ze]at h1
   refine QY ?_
   refine Qb ?_ ?_<;>intro h2<;>try simp[-zd,-ze]at h2
   refine QY (QY (QY (QY ?_)))
   refine QJ (fun v3 h3=>?_) (fun h3=>?_)
   intro h4
   try simp[-zd,-ze]at h4
   refine Qb ?_ ?_<;>intro h5<;>try simp[-zd,-ze]at h5
   exact Qc hk (k4.trans (Qmw h1 (by simp[Qv,h2]) (by rw[s35 h2,h3];rfl) h4.1 h5)) _
   refine QY ?_
   exact Wk.L.rn [0,3] (ih _ (by omega) _ _ _ rfl ⟨by omega,h4.2,.inl (by omega),k4.trans (go_x h1 (by simp[Qv,h2]) (by rw[s35 h2,h3];rfl) h4.1 h5),by simp;omega⟩)
   intro j4
   exact Qc hk (k4.trans (Qmy h1 (by simp[Qv,h2]) (by rw[s35 h2,h3];rfl))) _
   refine Qb (fun h3=>?_) (fun h3=>?_)
   try simp[-zd,-ze]at h3
   refine QY (QY (QY (QY ?_)))
   refine QJ (fun v5 h4=>?_) (fun h4=>?_)
   intro h5
   try simp[-zd,-ze]at h5
   refine Qb ?_ ?_<;>intro h6<;>try simp[-zd,-ze]at h6
   exact Qc hk (k4.trans (Qmw h1 (by simp[Qv,h3]) (by rw[s46 h3,h4];rfl) h5.1 h6)) _
   refine QY ?_
   exact Wk.L.rn [0,3] (ih _ (by omega) _ _ _ rfl ⟨by omega,h5.2,.inl (by omega),k4.trans (go_x h1 (by simp[Qv,h3]) (by rw[s46 h3,h4];rfl) h5.1 h6),by simp;omega⟩)
   intro j6
   exact Qc hk (k4.trans (Qmy h1 (by simp[Qv,h3]) (by rw[s46 h3,h4];rfl))) _
   try simp[-zd,-ze]at h3
   refine Qb ?_ ?_<;>intro h4<;>try simp[-zd,-ze]at h4
   refine QY (QY (QY (QY ?_)))
   refine QJ (fun v7 h5=>?_) (fun h5=>?_)
   intro h6
   try simp[-zd,-ze]at h6
   refine Qb ?_ ?_<;>intro h7<;>try simp[-zd,-ze]at h7
   exact Qc hk (k4.trans (Qmw h1 (by simp[Qv,h4]) (by rw[s91 h4,h5];rfl) h6.1 h7)) _
   refine QY ?_
   exact Wk.L.rn [0,3] (ih _ (by omega) _ _ _ rfl ⟨by omega,h6.2,.inl (by omega),k4.trans (go_x h1 (by simp[Qv,h4]) (by rw[s91 h4,h5];rfl) h6.1 h7),by simp;omega⟩)
   intro j8
   exact Qc hk (k4.trans (Qmy h1 (by simp[Qv,h4]) (by rw[s91 h4,h5];rfl))) _
   refine Qb (fun h5=>?_) (fun h5=>?_)
   try simp[-zd,-ze]at h5
   refine QY (QY (QY (QY (QY (QY ?_)))))
   refine QJ (fun v9 h6=>?_) (fun h6=>?_)
   intro h7
   try simp[-zd,-ze]at h7
   refine QJ (fun x10 h8=>?_) (fun h8=>?_)
   refine Qb ?_ ?_<;>intro h9<;>try simp[-zd,-ze]at h9
   exact Qc hk (k4.trans (Qmw h1 (by simp[Qv,h5]) (by rw[s58 h5,h6,<-h8]) h7.1 h9)) _
   refine QY ?_
   exact Wk.L.rn [0,3] (ih _ (by omega) _ _ _ rfl ⟨by omega,h7.2,.inl (by omega),k4.trans (go_x h1 (by simp[Qv,h5]) (by rw[s58 h5,h6,<-h8]) h7.1 h9),by simp;omega⟩)
   refine Qb ?_ ?_<;>intro h9<;>try simp[-zd,-ze]at h9
   exact Qc hk (k4.trans (Qui h1 (by simp[Qv,h5]) (by rw[s58 h5,h6,<-h8]) h7.1 (fun q=>h9 q.1))) _
   refine Qb (fun h10=>?_) (fun h10=>?_)
   try simp[-zd,-ze]at h10
   exact Qc hk (k4.trans (Qui h1 (by simp[Qv,h5]) (by rw[s58 h5,h6,<-h8]) h7.1 (fun q=>by simp[h10]at q))) _
   try simp[-zd,-ze]at h10
   exact ih _ (by omega) _ _ _ rfl ⟨by omega,h7.2,.inl (by omega),k4.trans (go_e h1 (by simp[Qv,h5]) (by rw[s58 h5,h6,<-h8]) h7.1 ⟨h9,h10⟩),by omega⟩
   intro j11
   exact Qc hk (k4.trans (Qmy h1 (by simp[Qv,h5]) (by rw[s58 h5,h6]))) _
   try simp[-zd,-ze]at h5
   have q:¬Qv (bat s p)=true:=by simp[Qv,h2,h3,h4,h5]
   exact Wk.C.le (V9.pub 1 (b:=.row (.csels l) true) (by kernel_rfl)) (Wk.C.rn [0] (L42 _ _ _ _ rfl ⟨k3.elim id fun w=>absurd w.1 q,k2,k4.trans (QqS fun w=>q w.2)⟩))
   exact Wk.C.le (V9.pub 1 (b:=.row (.csels l) true) (by kernel_rfl)) (Wk.C.rn [0] (L42 _ _ _ _ rfl ⟨by omega,k2,k4.trans (QqS fun w=>by omega)⟩))
 refine (Uh m).en (have a1:=mkS 180 [(0,(.ptr 0 0)),(4,.nilsl),(7,(.str []))] [(0,.blk 94 [(.str s),(.nat i),(.nat d),(.bool a)])] 1;have a2:=decide (i+3<s.length);have a3:=i+3<=9223372036854775807;have a4:=(a2==true)=true;have a0:=a2=true->a4/\True;cond (decide (s.length<=i)) (K (.val (.tup [.nilif,.ifx])) (some (.blk 94 [(.str s),(.nat i),(.nat d),(.bool a)]))) ((i<s.length)/\cond (decide (bat s i=42)) ((i+1<=9223372036854775807)/\a3/\a0/\a0/\a0/\a0/\a0/\a0/\a0/\a0/\a0/\(a2=true->a4/\a3/\True)/\(a2=true->a4/\a4/\a4/\(i+1<=i+3/\i+3<=s.length)/\True)/\a0/\(a2=true->(a2==true)=true)/\cond (a2&&(decide ((s.take (i+3)).drop (i+1)=[124,42]))) (a3/\(Uh m).L K 18 (mkS 180 [(0,(.ptr 0 0)),(4,.nilsl),(7,(.str []))] [(0,.blk 94 [(.str s),(.nat (i+3)),(.nat d),(.bool a)])] 1)) ((Uh m).L K 18 (mkS 180 [(0,(.ptr 0 0)),(4,.nilsl),(7,(.str []))] [(0,.blk 94 [(.str s),(.nat (i+1)),(.nat d),(.bool a)])] 1))) (cond (decide (bat s i=35)) ((Uh m).L K 18 a1) (cond (decide (bat s i=46)) ((Uh m).L K 18 a1) (cond (decide (bat s i=91)) ((Uh m).L K 18 a1) (cond (decide (bat s i=58)) ((Uh m).L K 18 a1) ((s.length<=1000000)/\(i<=s.length)/\Qt (Qx s i) (fun v1=>(i<v1.2/\v1.2<=s.length)->(0+1<=1099511627776)/\(Uh m).L K 18 (mkS 180 [(0,(.ptr 0 0)),(4,(.own 3)),(7,(.str []))] [(3,.row (.csels ([]++[.tag (low v1.1)])) true),(1,.blk 99 [(.str (low v1.1))]),(0,.blk 94 [(.str s),(.nat v1.2),(.nat d),(.bool a)])] 4)) (∀j2:Nat,K (.val (.tup [.nilif,.ifx])) (some (.blk 94 [(.str s),(.nat j2),(.nat d),(.bool a)])))))))))) ?_
 refine Qb ?_ ?_<;>intro h1<;>try simp[-zd,-ze]at h1
 exact Qc hk (QrZ (by omega)) _
 refine QY ?_
 refine Qb ?_ ?_<;>intro h2<;>try simp[-zd,-ze]at h2
 refine QY (QY (QfM (QfM (QfM (QfM (QfM (QfM (QfM (QfM (QfM (lez2 (lez3 (QfM (QY ?_))))))))))))))
 refine Qb ?_ ?_<;>intro h3<;>try simp[-zd,-ze]at h3
 refine QY ?_
 exact Wk.L.le (V9.adopt 4 (T:=49) (x:=.csels []) (by kernel_rfl) (by kernel_rfl)) (Wk.L.rn [0,1] (L18 _ _ _ _ rfl ⟨by omega,by omega,.inl (by omega),Qo0 h1 h2 ⟨h3.1,(QlA (p:=i+1) (by omega)).1 h3.2⟩,by simp⟩))
 exact Wk.L.le (V9.adopt 4 (T:=49) (x:=.csels []) (by kernel_rfl) (by kernel_rfl)) (Wk.L.rn [0,1] (L18 _ _ _ _ rfl ⟨by omega,by omega,.inl (by omega),Qnd h1 h2 (fun q=>h3 q.1 ((QlA (p:=i+1) (by omega)).2 q.2)),by simp⟩))
 refine Qb (fun h3=>?_) (fun h3=>?_)
 try simp[-zd,-ze]at h3
 exact Wk.L.le (V9.adopt 4 (T:=49) (x:=.csels []) (by kernel_rfl) (by kernel_rfl)) (Wk.L.rn [0,1] (L18 _ _ _ _ rfl ⟨by omega,by omega,.inr ⟨(by simp[Qv,h3]),h1⟩,QdM h1 (by simp[Qv,h3]),by simp⟩))
 try simp[-zd,-ze]at h3
 refine Qb ?_ ?_<;>intro h4<;>try simp[-zd,-ze]at h4
 exact Wk.L.le (V9.adopt 4 (T:=49) (x:=.csels []) (by kernel_rfl) (by kernel_rfl)) (Wk.L.rn [0,1] (L18 _ _ _ _ rfl ⟨by omega,by omega,.inr ⟨(by simp[Qv,h4]),h1⟩,QdM h1 (by simp[Qv,h4]),by simp⟩))
 refine Qb (fun h5=>?_) (fun h5=>?_)
 try simp[-zd,-ze]at h5
 exact Wk.L.le (V9.adopt 4 (T:=49) (x:=.csels []) (by kernel_rfl) (by kernel_rfl)) (Wk.L.rn [0,1] (L18 _ _ _ _ rfl ⟨by omega,by omega,.inr ⟨(by simp[Qv,h5]),h1⟩,QdM h1 (by simp[Qv,h5]),by simp⟩))
 try simp[-zd,-ze]at h5
 refine Qb ?_ ?_<;>intro h6<;>try simp[-zd,-ze]at h6
 exact Wk.L.le (V9.adopt 4 (T:=49) (x:=.csels []) (by kernel_rfl) (by kernel_rfl)) (Wk.L.rn [0,1] (L18 _ _ _ _ rfl ⟨by omega,by omega,.inr ⟨(by simp[Qv,h6]),h1⟩,QdM h1 (by simp[Qv,h6]),by simp⟩))
 refine QY (QY ?_)
 refine QJ (fun v1 h7=>?_) (fun h7=>?_)
 intro h8
 try simp[-zd,-ze]at h8
 refine QY ?_
 exact Wk.L.rn [0,3] (L18 _ _ _ _ rfl ⟨by omega,h8.2,.inl h8.1,QrY h1 h2 (by simp[Qv,h3,h4,h5,h6]) h7,by simp;omega⟩)
 intro j2
 exact Qc hk (Quz h1 h2 (by simp[Qv,h3,h4,h5,h6]) h7) _
 exact hP.elim
section
variable {G:Nat->Option (List CSel×Nat)} {s:Bs} {a:Bool} {p:Nat} {x:CSel} {v:CSel×Nat}
theorem selGo_end (h:¬iWs s p<s.length):Q6 G s a x p=some (x,iWs s p):=by rw[Q6,if_neg h]
theorem JI (h1:iWs s p<s.length) (h2:¬Vf (bat s (iWs s p))=true) (h3:bat s (iWs s p)=44\/bat s (iWs s p)=41\/iWs s p=p):Q6 G s a x p=some (x,iWs s p):=by
 rw[Q6,if_pos h1,if_neg h2,if_pos h3]
theorem QaF (h1:iWs s p<s.length) (h2:Vf (bat s (iWs s p))=true) (h:V8 G s a (iWs s (iWs s p+1))=some v) (hj:p<v.2):Q6 G s a x p=Q6 G s a (.combined x (s.getD (iWs s p) 0) v.1) v.2:=by
 rw[Q6,if_pos h1,if_pos h2,h];dsimp only;rw[if_pos hj]
theorem Uk (h1:iWs s p<s.length) (h2:Vf (bat s (iWs s p))=true) (h:V8 G s a (iWs s (iWs s p+1))=none):Q6 G s a x p=none:=by
 rw[Q6,if_pos h1,if_pos h2,h]
theorem Qr0 (h1:iWs s p<s.length) (h2:¬Vf (bat s (iWs s p))=true) (h3:¬(bat s (iWs s p)=44\/bat s (iWs s p)=41\/iWs s p=p)) (h:V8 G s a (iWs s p)=some v) (hj:p<v.2):Q6 G s a x p=Q6 G s a (.combined x 32 v.1) v.2:=by
 rw[Q6,if_pos h1,if_neg h2,if_neg h3,h];dsimp only;rw[if_pos hj]
theorem Qo9 (h1:iWs s p<s.length) (h2:¬Vf (bat s (iWs s p))=true) (h3:¬(bat s (iWs s p)=44\/bat s (iWs s p)=41\/iWs s p=p)) (h:V8 G s a (iWs s p)=none):Q6 G s a x p=none:=by
 rw[Q6,if_pos h1,if_neg h2,if_neg h3,h]
end
def c72 (m:Nat) (svs:List SV) (b:Option SB) (K:Out->Option SB->Prop):Prop:=match svs,b with
 | [.ptr 0 0],some (.blk 94 [.str s,.nat i,.nat d,.bool a])=>s.length<=1000000/\i<=s.length/\d<=1001/\1002<=d+m/\Qt (YX (Qw s a (1001-d)) s a i) (fun v=>i<v.2/\v.2<=s.length->K (.val (.tup [.cs v.1,.nilif])) (some (.blk 94 [.str s,.nat v.2,.nat d,.bool a]))) (∀j,K (.val (.tup [.nilif,.ifx])) (some (.blk 94 [.str s,.nat j,.nat d,.bool a])))
 | _,_=>False
noncomputable def W72 (m:Nat):Wk:=⟨[(99,.fn c99),(100,.plain (c100 m))],Qe Tryz.f72,true,false,[.tmp 2,.tmp 3],[56,71],[(5,17)],[]⟩
theorem Qju:Has 72:=hsf Tryz.f72
theorem QiE (m:Nat) (hG:Sat 70 (c70 m)):Sat 72 (c72 m):=by
 have hD:Qa (W72 m).D:=(Qa.cons QgA Qf2 (Qa.cons Qxi (QvB m hG) Qa.nil))
 refine (W72 m).sa hD Tryz.f72 fun svs b K hP=>?_
 unfold c72 at hP
 split at hP
 rename_i s i d a
 obtain⟨h01,h02,h03,h04,hk⟩:=hP
 have u0:=QQ s i
 have u1:=Vw s i h02
 have L5:∀(mm:Nat) (p:Nat) (x:CSel),s.length-p=mm->(i<p/\p<=s.length/\YX (Qw s a (1001-d)) s a i=Q6 (Qw s a (1001-d)) s a x p)->(W72 m).L K 5 (mkS 82 [(0,(.ptr 0 0)),(4,(.cs x))] [(0,.blk 94 [(.str s),(.nat p),(.nat d),(.bool a)])] 1):=by
  intro mm
  induction mm using zl with
  | _ mm ih=>
   intro p x hm hI
   obtain⟨k1,k2,k3⟩:=hI
   have w0:=QQ s p
   have w1:=Vw s p k2
   have w2:=QQ s (iWs s p+1)
   have w3:=Vw s (iWs s p+1)
   refine (W72 m).aL hD (have a0:Option SB:=some (.blk 94 [(.str s),(.nat (iWs s p)),(.nat d),(.bool a)]);have a1:Option SB:=some (.blk 94 [(.str s),(.nat (iWs s (iWs s p+1))),(.nat d),(.bool a)]);have a2:Out:=.val (.tup [(.cs x),.nilif]);have a3:=V8 (Qw s a (1001-d)) s a (iWs s (iWs s p+1));have a4:=s.length<=1000000;have a5:=iWs s p+1<=9223372036854775807;have a6:=iWs s (iWs s p+1)<=s.length;have a7:Out:=.val (.tup [.nilif,.ifx]);have a8:=decide (bat s (iWs s p)=0);have a9:=iWs s p<s.length;have a10:=iWs s p+1<=s.length;have a11:=s.getD (iWs s p) 0;a4/\(p<=s.length)/\cond (decide (p<iWs s p)) (cond (decide (s.length<=iWs s p)) (K a2 a0) (a9/\cond (decide (bat s (iWs s p)=43)) (a9/\a5/\a4/\a10/\cond a8 (K a2 a1) (a4/\a6/\(d<=1001)/\(1002<=d+m)/\Qt a3 (fun v3=>(iWs s (iWs s p+1)<v3.2/\v3.2<=s.length)->(W72 m).L K 5 (mkS 82 [(0,(.ptr 0 0)),(4,(.cs (.combined x a11 v3.1)))] [(0,.blk 94 [(.str s),(.nat v3.2),(.nat d),(.bool a)])] 1)) (∀j4:Nat,K a7 (some (.blk 94 [(.str s),(.nat j4),(.nat d),(.bool a)]))))) (cond (decide (bat s (iWs s p)=62)) (a9/\a5/\a4/\a10/\cond a8 (K a2 a1) (a4/\a6/\(d<=1001)/\(1002<=d+m)/\Qt a3 (fun v5=>(iWs s (iWs s p+1)<v5.2/\v5.2<=s.length)->(W72 m).L K 5 (mkS 82 [(0,(.ptr 0 0)),(4,(.cs (.combined x a11 v5.1)))] [(0,.blk 94 [(.str s),(.nat v5.2),(.nat d),(.bool a)])] 1)) (∀j6:Nat,K a7 (some (.blk 94 [(.str s),(.nat j6),(.nat d),(.bool a)]))))) (cond (decide (bat s (iWs s p)=126)) (a9/\a5/\a4/\a10/\cond a8 (K a2 a1) (a4/\a6/\(d<=1001)/\(1002<=d+m)/\Qt a3 (fun v7=>(iWs s (iWs s p+1)<v7.2/\v7.2<=s.length)->(W72 m).L K 5 (mkS 82 [(0,(.ptr 0 0)),(4,(.cs (.combined x a11 v7.1)))] [(0,.blk 94 [(.str s),(.nat v7.2),(.nat d),(.bool a)])] 1)) (∀j8:Nat,K a7 (some (.blk 94 [(.str s),(.nat j8),(.nat d),(.bool a)]))))) (cond (decide (bat s (iWs s p)=44)) (K a2 a0) (cond (decide (bat s (iWs s p)=41)) (K a2 a0) (a4/\(iWs s p<=s.length)/\(d<=1001)/\(1002<=d+m)/\Qt (V8 (Qw s a (1001-d)) s a (iWs s p)) (fun v9=>(iWs s p<v9.2/\v9.2<=s.length)->(W72 m).L K 5 (mkS 82 [(0,(.ptr 0 0)),(4,(.cs (.combined x 32 v9.1)))] [(0,.blk 94 [(.str s),(.nat v9.2),(.nat d),(.bool a)])] 1)) (∀j10:Nat,K a7 (some (.blk 94 [(.str s),(.nat j10),(.nat d),(.bool a)])))))))))) (cond (decide (s.length<=iWs s p)) (K a2 a0) (a9/\cond (decide (bat s (iWs s p)=43)) (a9/\a5/\a4/\a10/\cond a8 (K a2 a1) (a4/\a6/\(d<=1001)/\(1002<=d+m)/\Qt a3 (fun v11=>(iWs s (iWs s p+1)<v11.2/\v11.2<=s.length)->(W72 m).L K 5 (mkS 82 [(0,(.ptr 0 0)),(4,(.cs (.combined x a11 v11.1)))] [(0,.blk 94 [(.str s),(.nat v11.2),(.nat d),(.bool a)])] 1)) (∀j12:Nat,K a7 (some (.blk 94 [(.str s),(.nat j12),(.nat d),(.bool a)]))))) (cond (decide (bat s (iWs s p)=62)) (a9/\a5/\a4/\a10/\cond a8 (K a2 a1) (a4/\a6/\(d<=1001)/\(1002<=d+m)/\Qt a3 (fun v13=>(iWs s (iWs s p+1)<v13.2/\v13.2<=s.length)->(W72 m).L K 5 (mkS 82 [(0,(.ptr 0 0)),(4,(.cs (.combined x a11 v13.1)))] [(0,.blk 94 [(.str s),(.nat v13.2),(.nat d),(.bool a)])] 1)) (∀j14:Nat,K a7 (some (.blk 94 [(.str s),(.nat j14),(.nat d),(.bool a)]))))) (cond (decide (bat s (iWs s p)=126)) (a9/\a5/\a4/\a10/\cond a8 (K a2 a1) (a4/\a6/\(d<=1001)/\(1002<=d+m)/\Qt a3 (fun v15=>(iWs s (iWs s p+1)<v15.2/\v15.2<=s.length)->(W72 m).L K 5 (mkS 82 [(0,(.ptr 0 0)),(4,(.cs (.combined x a11 v15.1)))] [(0,.blk 94 [(.str s),(.nat v15.2),(.nat d),(.bool a)])] 1)) (∀j16:Nat,K a7 (some (.blk 94 [(.str s),(.nat j16),(.nat d),(.bool a)]))))) (cond (decide (bat s (iWs s p)=44)) (K a2 a0) (cond (decide (bat s (iWs s p)=41)) (K a2 a0) (K a2 a0)))))))) ?_
   refine QY (QY ?_)
   refine Qb ?_ ?_<;>intro h1<;>try simp[-zd,-ze]at h1
   refine Qb (fun h2=>?_) (fun h2=>?_)
   try simp[-zd,-ze]at h2
   exact Qd hk (k3.trans (selGo_end (by omega))) ⟨by omega,by omega⟩
   try simp[-zd,-ze]at h2
   refine QY ?_
   refine Qb ?_ ?_<;>intro h3<;>try simp[-zd,-ze]at h3
   refine QY (QY (QY (QY ?_)))
   refine Qb ?_ ?_<;>intro h4<;>try simp[-zd,-ze]at h4
   exfalso
   omega
   refine QY (QY (QY (QY ?_)))
   refine QJ (fun v3 h5=>?_) (fun h5=>?_)
   intro h6
   try simp[-zd,-ze]at h6
   exact ih _ (by omega) _ _ rfl ⟨by omega,by omega,k3.trans (QaF (by omega) (by simp[Vf,h3]) h5 (by omega))⟩
   intro j4
   exact Qc hk (k3.trans (Uk (by omega) (by simp[Vf,h3]) h5)) _
   refine Qb (fun h4=>?_) (fun h4=>?_)
   try simp[-zd,-ze]at h4
   refine QY (QY (QY (QY ?_)))
   refine Qb ?_ ?_<;>intro h5<;>try simp[-zd,-ze]at h5
   exfalso
   omega
   refine QY (QY (QY (QY ?_)))
   refine QJ (fun v5 h6=>?_) (fun h6=>?_)
   intro h7
   try simp[-zd,-ze]at h7
   exact ih _ (by omega) _ _ rfl ⟨by omega,by omega,k3.trans (QaF (by omega) (by simp[Vf,h4]) h6 (by omega))⟩
   intro j6
   exact Qc hk (k3.trans (Uk (by omega) (by simp[Vf,h4]) h6)) _
   try simp[-zd,-ze]at h4
   refine Qb ?_ ?_<;>intro h5<;>try simp[-zd,-ze]at h5
   refine QY (QY (QY (QY ?_)))
   refine Qb ?_ ?_<;>intro h6<;>try simp[-zd,-ze]at h6
   exfalso
   omega
   refine QY (QY (QY (QY ?_)))
   refine QJ (fun v7 h7=>?_) (fun h7=>?_)
   intro h8
   try simp[-zd,-ze]at h8
   exact ih _ (by omega) _ _ rfl ⟨by omega,by omega,k3.trans (QaF (by omega) (by simp[Vf,h5]) h7 (by omega))⟩
   intro j8
   exact Qc hk (k3.trans (Uk (by omega) (by simp[Vf,h5]) h7)) _
   refine Qb (fun h6=>?_) (fun h6=>?_)
   try simp[-zd,-ze]at h6
   exact Qd hk (k3.trans (JI (by omega) (by simp[Vf,h3,h4,h5]) (by omega))) ⟨by omega,by omega⟩
   try simp[-zd,-ze]at h6
   refine Qb ?_ ?_<;>intro h7<;>try simp[-zd,-ze]at h7
   exact Qd hk (k3.trans (JI (by omega) (by simp[Vf,h3,h4,h5]) (by omega))) ⟨by omega,by omega⟩
   refine QY (QY (QY (QY ?_)))
   refine QJ (fun v9 h8=>?_) (fun h8=>?_)
   intro h9
   try simp[-zd,-ze]at h9
   exact ih _ (by omega) _ _ rfl ⟨by omega,by omega,k3.trans (Qr0 (by omega) (by simp[Vf,h3,h4,h5]) (by omega) h8 (by omega))⟩
   intro j10
   exact Qc hk (k3.trans (Qo9 (by omega) (by simp[Vf,h3,h4,h5]) (by omega) h8)) _
   refine Qb (fun h2=>?_) (fun h2=>?_)
   try simp[-zd,-ze]at h2
   exact Qd hk (k3.trans (selGo_end (by omega))) ⟨by omega,by omega⟩
   try simp[-zd,-ze]at h2
   refine QY ?_
   refine Qb ?_ ?_<;>intro h3<;>try simp[-zd,-ze]at h3
   refine QY (QY (QY (QY ?_)))
   refine Qb ?_ ?_<;>intro h4<;>try simp[-zd,-ze]at h4
   exfalso
   omega
   refine QY (QY (QY (QY ?_)))
   refine QJ (fun v11 h5=>?_) (fun h5=>?_)
   intro h6
   try simp[-zd,-ze]at h6
   exact ih _ (by omega) _ _ rfl ⟨by omega,by omega,k3.trans (QaF (by omega) (by simp[Vf,h3]) h5 (by omega))⟩
   intro j12
   exact Qc hk (k3.trans (Uk (by omega) (by simp[Vf,h3]) h5)) _
   refine Qb (fun h4=>?_) (fun h4=>?_)
   try simp[-zd,-ze]at h4
   refine QY (QY (QY (QY ?_)))
   refine Qb ?_ ?_<;>intro h5<;>try simp[-zd,-ze]at h5
   exfalso
   omega
   refine QY (QY (QY (QY ?_)))
   refine QJ (fun v13 h6=>?_) (fun h6=>?_)
   intro h7
   try simp[-zd,-ze]at h7
   exact ih _ (by omega) _ _ rfl ⟨by omega,by omega,k3.trans (QaF (by omega) (by simp[Vf,h4]) h6 (by omega))⟩
   intro j14
   exact Qc hk (k3.trans (Uk (by omega) (by simp[Vf,h4]) h6)) _
   try simp[-zd,-ze]at h4
   refine Qb ?_ ?_<;>intro h5<;>try simp[-zd,-ze]at h5
   refine QY (QY (QY (QY ?_)))
   refine Qb ?_ ?_<;>intro h6<;>try simp[-zd,-ze]at h6
   exfalso
   omega
   refine QY (QY (QY (QY ?_)))
   refine QJ (fun v15 h7=>?_) (fun h7=>?_)
   intro h8
   try simp[-zd,-ze]at h8
   exact ih _ (by omega) _ _ rfl ⟨by omega,by omega,k3.trans (QaF (by omega) (by simp[Vf,h5]) h7 (by omega))⟩
   intro j16
   exact Qc hk (k3.trans (Uk (by omega) (by simp[Vf,h5]) h7)) _
   refine Qb (fun h6=>?_) (fun h6=>?_)
   try simp[-zd,-ze]at h6
   exact Qd hk (k3.trans (JI (by omega) (by simp[Vf,h3,h4,h5]) (by omega))) ⟨by omega,by omega⟩
   try simp[-zd,-ze]at h6
   refine Qb ?_ ?_<;>intro h7<;>try simp[-zd,-ze]at h7
   exact Qd hk (k3.trans (JI (by omega) (by simp[Vf,h3,h4,h5]) (by omega))) ⟨by omega,by omega⟩
   exact Qd hk (k3.trans (JI (by omega) (by simp[Vf,h3,h4,h5]) (by omega))) ⟨by omega,by omega⟩
 refine (W72 m).en ((s.length<=1000000)/\(i<=s.length)/\(s.length<=1000000)/\(iWs s i<=s.length)/\(d<=1001)/\(1002<=d+m)/\Qt (V8 (Qw s a (1001-d)) s a (iWs s i)) (fun v1=>(iWs s i<v1.2/\v1.2<=s.length)->(W72 m).L K 5 (mkS 82 [(0,(.ptr 0 0)),(4,(.cs v1.1))] [(0,.blk 94 [(.str s),(.nat v1.2),(.nat d),(.bool a)])] 1)) (∀j2:Nat,K (.val (.tup [.nilif,.ifx])) (some (.blk 94 [(.str s),(.nat j2),(.nat d),(.bool a)])))) ?_
 refine QY (QY (QY (QY (QY (QY ?_)))))
 refine QJ (fun v1 h1=>?_) (fun h1=>?_)
 intro h2
 try simp[-zd,-ze]at h2
 exact L5 _ _ _ rfl ⟨by omega,by omega,by unfold YX;rw[h1]⟩
 intro j2
 exact Qc hk (by unfold YX;rw[h1]) _
 exact hP.elim
end
end Go.Proofs.YtengepcafdnalaaGreatDoor
