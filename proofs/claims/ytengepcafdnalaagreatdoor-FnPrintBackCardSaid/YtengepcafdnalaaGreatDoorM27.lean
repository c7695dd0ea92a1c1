/-
  Parts of the proof that the law FnPrintBack holds for every input (texts Lb, Lc). Conditions: none.
-/
import Derived.Test.YtengepcafdnalaaGreatDoorM26
namespace Go.Proofs.YtengepcafdnalaaGreatDoor
open _root_.List renaming getD_eq_getElem?_getD → zd, mem_cons → zu, not_mem_nil → zJ, length_singleton → zF, length_cons → zj, length_nil → zo
open _root_.Nat renaming strongRecOn → zl
open _root_.UInt8 renaming toNat_or → ze
section
open Go Go.RowKit
set_option maxRecDepth 20000
theorem YA {s:Bs} {i:Nat} (ho:Jf (bat s i)=true) {v:Bs×Nat} (h:VY s i=some v):Yc s i=if low v.1=[111,100,100] then some (2,1,v.2) else if low v.1=[101,118,101,110] then some (2,0,v.2) else none:=by
 obtain⟨w,j⟩:=v
 rw[Law.iNth_oe ho,h]
theorem Qcg {s:Bs} {i:Nat} (ho:Jf (bat s i)=true) (h:VY s i=none):Yc s i=none:=by
 rw[Law.iNth_oe ho,h]
def c136i (svs:List SV) (b:Option SB) (K:Out->Option SB->Prop):Prop:=match svs,b with
 | [.ptr 0 0],some (.blk 94 [.str s,.nat i,.nat d,.bool a])=>s.length<=1000000/\i<=s.length/\Qt (Yc s i) (fun v=>∀x y,i<=v.2.2->v.2.2<=s.length->toI x=some v.1->toI y=some v.2.1->K (.val (.tup [x,y,.nilif])) (some (.blk 94 [.str s,.nat v.2.2,.nat d,.bool a]))) (∀j,K (.val (.tup [.nat 0,.nat 0,.ifx])) (some (.blk 94 [.str s,.nat j,.nat d,.bool a])))
 | _,_=>False
noncomputable def V5:Wk:=⟨[(71,.pure c71),(99,.fn c99),(130,.pure Qol),(131,.plain c131),(146,.plain c146)],Qe Tryz.f136,true,false,[.tmp 2,.tmp 3,.tmp 4],[3,3,71],[(34,1),(53,1),(73,5),(79,5)],[34,53,73,79]⟩
theorem QwY:Has 136:=hsf Tryz.f136
theorem Q2 {p q:Prop} (k:q) (h:p:=by first | omega | (simp;done) | (unfold inI;omega) | (have:=Vw s (iWs s p+1) (by omega);omega) | (simp;omega) | assumption):p/\q:=⟨h,k⟩
theorem Qr5:Sat 136 c136i:=by
 have hD:Qa V5.D:=(Qa.cons ZY ZU (Qa.cons QgA Qf2 (Qa.cons QhV Qg9 (Qa.cons QkY Qj9 (Qa.cons QwP Qu7 Qa.nil)))))
 refine V5.sa hD Tryz.f136 fun svs b K hP=>?_
 unfold c136i at hP
 split at hP
 rename_i s i d a
 obtain⟨h01,h02,hk⟩:=hP
 have L79:∀(mm:Nat) (x:Int) (p:Nat),0=mm->(i<=p/\p<=s.length/\inI x/\Yc s i=Y1 s x p)->V5.C K 79 (mkS 280 [(0,(.ptr 0 0)),(2,(.int .i64 x))] [(0,.blk 94 [(.str s),(.nat p),(.nat d),(.bool a)])] 1):=by
  intro mm
  induction mm using zl with
  | _ mm ih=>
   intro x p hm hI
   obtain⟨k1,k2,k3,k4⟩:=hI
   have q1:=Vw s p k2
   have q2:=QQ s p
   have q3:=QQ s (iWs s p+1)
   refine V5.aC hD (have a0:=s.length<=1000000;have a1:Out:=.val (.tup [(.nat 0),(.nat 0),.ifx]);have a2:Option SB:=some (.blk 94 [(.str s),(.nat (iWs s p)),(.nat d),(.bool a)]);a0/\(p<=s.length)/\cond (decide (s.length<=iWs s p)) (K a1 a2) ((iWs s p<s.length)/\cond (decide (bat s (iWs s p)=43)) ((iWs s p+1<=9223372036854775807)/\a0/\(iWs s p+1<=s.length)/\a0/\(iWs s (iWs s p+1)<=s.length)/\Qt (YD s (iWs s (iWs s p+1))) (fun v9=>(iWs s (iWs s p+1)<v9.2/\v9.2<=s.length/\v9.1<=9223372036854775807)->K (.val (.tup [(.int .i64 x),(.nat v9.1),.nilif])) (some (.blk 94 [(.str s),(.nat v9.2),(.nat d),(.bool a)]))) (∀j10:Nat,K a1 (some (.blk 94 [(.str s),(.nat j10),(.nat d),(.bool a)])))) (cond (decide (bat s (iWs s p)=45)) ((iWs s p+1<=9223372036854775807)/\a0/\(iWs s p+1<=s.length)/\a0/\(iWs s (iWs s p+1)<=s.length)/\Qt (YD s (iWs s (iWs s p+1))) (fun v11=>(iWs s (iWs s p+1)<v11.2/\v11.2<=s.length/\v11.1<=9223372036854775807)->(inI (0-((v11.1:Nat):Int)))/\K (.val (.tup [(.int .i64 x),(.int .i64 (0-((v11.1:Nat):Int))),.nilif])) (some (.blk 94 [(.str s),(.nat v11.2),(.nat d),(.bool a)]))) (∀j12:Nat,K a1 (some (.blk 94 [(.str s),(.nat j12),(.nat d),(.bool a)])))) (K (.val (.tup [(.int .i64 x),(.nat 0),.nilif])) a2)))) ?_
   refine Q2 (Q2 ?_)
   refine Qb ?_ ?_<;>intro h1<;>try simp[-zd,-ze]at h1
   exact Qc hk (by rw[k4];unfold Y1;rw[if_neg (by omega)]) _
   refine Q2 ?_
   refine Qb ?_ ?_<;>intro h2<;>try simp[-zd,-ze]at h2
   refine Q2 (Q2 (Q2 (Q2 (Q2 ?_))))
   refine QJ (fun v9 h3=>?_) (fun h3=>?_)
   intro h4
   try simp[-zd,-ze]at h4
   have e:Yc s i=some (x,(v9.1:Int),v9.2):=by rw[k4];unfold Y1;rw[if_pos h1,if_pos h2,Q3,h3];rfl
   have q:=Qd hk e (.int .i64 x) (.nat v9.1) (by dsimp only;omega) (by dsimp only;omega) rfl rfl
   dsimp only at q
   exact q
   intro j10
   exact Qc hk (by rw[k4];unfold Y1;rw[if_pos h1,if_pos h2,Q3,h3];rfl) _
   refine Qb (fun h3=>?_) (fun h3=>?_)
   try simp[-zd,-ze]at h3
   refine Q2 (Q2 (Q2 (Q2 (Q2 ?_))))
   refine QJ (fun v11 h4=>?_) (fun h4=>?_)
   intro h5
   try simp[-zd,-ze]at h5
   refine Q2 ?_
   have e:Yc s i=some (x,0-(v11.1:Int),v11.2):=by rw[k4];unfold Y1;rw[if_pos h1,if_neg h2,if_pos h3,Q3,h4];rfl
   have q:=Qd hk e (.int .i64 x) (.int .i64 (0-(v11.1:Int))) (by dsimp only;omega) (by dsimp only;omega) rfl rfl
   dsimp only at q
   exact q
   intro j12
   exact Qc hk (by rw[k4];unfold Y1;rw[if_pos h1,if_neg h2,if_pos h3,Q3,h4];rfl) _
   try simp[-zd,-ze]at h3
   have e:Yc s i=some (x,0,iWs s p):=by rw[k4];unfold Y1;rw[if_pos h1,if_neg h2,if_neg h3]
   have q:=Qd hk e (.int .i64 x) (.nat 0) (by dsimp only;omega) (by dsimp only;omega) rfl rfl
   dsimp only at q
   exact q
 have L73:∀(mm:Nat) (x:Int) (p:Nat),0=mm->(i<=p/\p<=s.length/\inI x/\Yc s i=Z3 s x p)->V5.C K 73 (mkS 280 [(0,(.ptr 0 0)),(2,(.int .i64 x))] [(0,.blk 94 [(.str s),(.nat p),(.nat d),(.bool a)])] 1):=by
  intro mm
  induction mm using zl with
  | _ mm ih=>
   intro x p hm hI
   obtain⟨k1,k2,k3,k4⟩:=hI
   refine V5.aC hD (have a0:=mkS 280 [(0,(.ptr 0 0)),(2,(.int .i64 x))] [(0,.blk 94 [(.str s),(.nat (p+1)),(.nat d),(.bool a)])] 1;have a1:Option SB:=some (.blk 94 [(.str s),(.nat p),(.nat d),(.bool a)]);cond (decide (s.length<=p)) (K (.val (.tup [(.nat 0),(.nat 0),.ifx])) a1) ((p<s.length)/\cond (decide (bat s p=110)) ((p+1<=9223372036854775807)/\(V5).C K 79 a0) (cond (decide (bat s p=78)) ((p+1<=9223372036854775807)/\(V5).C K 79 a0) (K (.val (.tup [(.nat 0),(.int .i64 x),.nilif])) a1)))) ?_
   refine Qb ?_ ?_<;>intro h1<;>try simp[-zd,-ze]at h1
   exact Qc hk (by rw[k4];unfold Z3;rw[if_neg (by omega)]) _
   refine Q2 ?_
   refine Qb ?_ ?_<;>intro h2<;>try simp[-zd,-ze]at h2
   refine Q2 ?_
   exact L79 _ x (p+1) rfl ⟨by omega,by omega,k3,by rw[k4];unfold Z3;rw[if_pos h1,if_pos (by simp[isN,h2])]⟩
   refine Qb (fun h3=>?_) (fun h3=>?_)
   try simp[-zd,-ze]at h3
   refine Q2 ?_
   exact L79 _ x (p+1) rfl ⟨by omega,by omega,k3,by rw[k4];unfold Z3;rw[if_pos h1,if_pos (by simp[isN,h3])]⟩
   try simp[-zd,-ze]at h3
   have e:Yc s i=some (0,x,p):=by rw[k4];unfold Z3;rw[if_pos h1,if_neg (by simp[isN];omega)]
   have q:=Qd hk e (.nat 0) (.int .i64 x) (by dsimp only;omega) (by dsimp only;omega) rfl rfl
   dsimp only at q
   exact q
 have L34:∀(mm:Nat) (p:Nat),0=mm->(i<=p/\p<=s.length/\Yc s i=Yf s p)->V5.C K 34 (mkS 280 [(0,(.ptr 0 0))] [(0,.blk 94 [(.str s),(.nat p),(.nat d),(.bool a)])] 1):=by
  intro mm
  induction mm using zl with
  | _ mm ih=>
   intro p hm hI
   obtain⟨k1,k2,k4⟩:=hI
   refine V5.aC hD (have a0:Out:=.val (.tup [(.nat 0),(.nat 0),.ifx]);have a1:=s.length<=1000000;have a2:=p<=s.length;have a3:=mkS 280 [(0,(.ptr 0 0)),(2,(.nat 1))] [(0,.blk 94 [(.str s),(.nat (p+1)),(.nat d),(.bool a)])] 1;have a4:Option SB:=some (.blk 94 [(.str s),(.nat p),(.nat d),(.bool a)]);cond (decide (s.length<=p)) (K a0 a4) ((p<s.length)/\cond (decide (bat s p=48)) (a1/\a2/\Qt (YD s p) (fun v13=>(p<v13.2/\v13.2<=s.length/\v13.1<=9223372036854775807)->(V5).C K 73 (mkS 280 [(0,(.ptr 0 0)),(2,(.nat v13.1))] [(0,.blk 94 [(.str s),(.nat v13.2),(.nat d),(.bool a)])] 1)) (∀j14:Nat,K a0 (some (.blk 94 [(.str s),(.nat j14),(.nat d),(.bool a)])))) (cond (decide (bat s p=49)) (a1/\a2/\Qt (YD s p) (fun v15=>(p<v15.2/\v15.2<=s.length/\v15.1<=9223372036854775807)->(V5).C K 73 (mkS 280 [(0,(.ptr 0 0)),(2,(.nat v15.1))] [(0,.blk 94 [(.str s),(.nat v15.2),(.nat d),(.bool a)])] 1)) (∀j16:Nat,K a0 (some (.blk 94 [(.str s),(.nat j16),(.nat d),(.bool a)])))) (cond (decide (bat s p=50)) (a1/\a2/\Qt (YD s p) (fun v17=>(p<v17.2/\v17.2<=s.length/\v17.1<=9223372036854775807)->(V5).C K 73 (mkS 280 [(0,(.ptr 0 0)),(2,(.nat v17.1))] [(0,.blk 94 [(.str s),(.nat v17.2),(.nat d),(.bool a)])] 1)) (∀j18:Nat,K a0 (some (.blk 94 [(.str s),(.nat j18),(.nat d),(.bool a)])))) (cond (decide (bat s p=51)) (a1/\a2/\Qt (YD s p) (fun v19=>(p<v19.2/\v19.2<=s.length/\v19.1<=9223372036854775807)->(V5).C K 73 (mkS 280 [(0,(.ptr 0 0)),(2,(.nat v19.1))] [(0,.blk 94 [(.str s),(.nat v19.2),(.nat d),(.bool a)])] 1)) (∀j20:Nat,K a0 (some (.blk 94 [(.str s),(.nat j20),(.nat d),(.bool a)])))) (cond (decide (bat s p=52)) (a1/\a2/\Qt (YD s p) (fun v21=>(p<v21.2/\v21.2<=s.length/\v21.1<=9223372036854775807)->(V5).C K 73 (mkS 280 [(0,(.ptr 0 0)),(2,(.nat v21.1))] [(0,.blk 94 [(.str s),(.nat v21.2),(.nat d),(.bool a)])] 1)) (∀j22:Nat,K a0 (some (.blk 94 [(.str s),(.nat j22),(.nat d),(.bool a)])))) (cond (decide (bat s p=53)) (a1/\a2/\Qt (YD s p) (fun v23=>(p<v23.2/\v23.2<=s.length/\v23.1<=9223372036854775807)->(V5).C K 73 (mkS 280 [(0,(.ptr 0 0)),(2,(.nat v23.1))] [(0,.blk 94 [(.str s),(.nat v23.2),(.nat d),(.bool a)])] 1)) (∀j24:Nat,K a0 (some (.blk 94 [(.str s),(.nat j24),(.nat d),(.bool a)])))) (cond (decide (bat s p=54)) (a1/\a2/\Qt (YD s p) (fun v25=>(p<v25.2/\v25.2<=s.length/\v25.1<=9223372036854775807)->(V5).C K 73 (mkS 280 [(0,(.ptr 0 0)),(2,(.nat v25.1))] [(0,.blk 94 [(.str s),(.nat v25.2),(.nat d),(.bool a)])] 1)) (∀j26:Nat,K a0 (some (.blk 94 [(.str s),(.nat j26),(.nat d),(.bool a)])))) (cond (decide (bat s p=55)) (a1/\a2/\Qt (YD s p) (fun v27=>(p<v27.2/\v27.2<=s.length/\v27.1<=9223372036854775807)->(V5).C K 73 (mkS 280 [(0,(.ptr 0 0)),(2,(.nat v27.1))] [(0,.blk 94 [(.str s),(.nat v27.2),(.nat d),(.bool a)])] 1)) (∀j28:Nat,K a0 (some (.blk 94 [(.str s),(.nat j28),(.nat d),(.bool a)])))) (cond (decide (bat s p=56)) (a1/\a2/\Qt (YD s p) (fun v29=>(p<v29.2/\v29.2<=s.length/\v29.1<=9223372036854775807)->(V5).C K 73 (mkS 280 [(0,(.ptr 0 0)),(2,(.nat v29.1))] [(0,.blk 94 [(.str s),(.nat v29.2),(.nat d),(.bool a)])] 1)) (∀j30:Nat,K a0 (some (.blk 94 [(.str s),(.nat j30),(.nat d),(.bool a)])))) (cond (decide (bat s p=57)) (a1/\a2/\Qt (YD s p) (fun v31=>(p<v31.2/\v31.2<=s.length/\v31.1<=9223372036854775807)->(V5).C K 73 (mkS 280 [(0,(.ptr 0 0)),(2,(.nat v31.1))] [(0,.blk 94 [(.str s),(.nat v31.2),(.nat d),(.bool a)])] 1)) (∀j32:Nat,K a0 (some (.blk 94 [(.str s),(.nat j32),(.nat d),(.bool a)])))) (cond (decide (bat s p=110)) ((p+1<=9223372036854775807)/\(V5).C K 79 a3) (cond (decide (bat s p=78)) ((p+1<=9223372036854775807)/\(V5).C K 79 a3) (K a0 a4)))))))))))))) ?_
   refine Qb ?_ ?_<;>intro h1<;>try simp[-zd,-ze]at h1
   exact Qc hk (by rw[k4];unfold Yf;rw[if_neg (by omega)]) _
   refine Q2 ?_
   refine Qb ?_ ?_<;>intro h2<;>try simp[-zd,-ze]at h2
   refine Q2 (Q2 ?_)
   refine QJ (fun v13 h3=>?_) (fun h3=>?_)
   intro h4
   try simp[-zd,-ze]at h4
   exact Wk.C.rn [0] (L73 _ (v13.1:Int) v13.2 rfl ⟨by omega,by omega,by unfold inI;omega,by rw[k4];unfold Yf;rw[if_pos h1,if_pos (by simp[Qu,h2]),Q3,h3];rfl⟩)
   intro j14
   exact Qc hk (by rw[k4];unfold Yf;rw[if_pos h1,if_pos (by simp[Qu,h2]),Q3,h3];rfl) _
   refine Qb (fun h3=>?_) (fun h3=>?_)
   try simp[-zd,-ze]at h3
   refine Q2 (Q2 ?_)
   refine QJ (fun v15 h4=>?_) (fun h4=>?_)
   intro h5
   try simp[-zd,-ze]at h5
   exact Wk.C.rn [0] (L73 _ (v15.1:Int) v15.2 rfl ⟨by omega,by omega,by unfold inI;omega,by rw[k4];unfold Yf;rw[if_pos h1,if_pos (by simp[Qu,h3]),Q3,h4];rfl⟩)
   intro j16
   exact Qc hk (by rw[k4];unfold Yf;rw[if_pos h1,if_pos (by simp[Qu,h3]),Q3,h4];rfl) _
   try simp[-zd,-ze]at h3
   refine Qb ?_ ?_<;>intro h4<;>try simp[-zd,-ze]at h4
   refine Q2 (Q2 ?_)
   refine QJ (fun v17 h5=>?_) (fun h5=>?_)
   intro h6
   try simp[-zd,-ze]at h6
   exact Wk.C.rn [0] (L73 _ (v17.1:Int) v17.2 rfl ⟨by omega,by omega,by unfold inI;omega,by rw[k4];unfold Yf;rw[if_pos h1,if_pos (by simp[Qu,h4]),Q3,h5];rfl⟩)
   intro j18
   exact Qc hk (by rw[k4];unfold Yf;rw[if_pos h1,if_pos (by simp[Qu,h4]),Q3,h5];rfl) _
   refine Qb (fun h5=>?_) (fun h5=>?_)
   try simp[-zd,-ze]at h5
   refine Q2 (Q2 ?_)
   refine QJ (fun v19 h6=>?_) (fun h6=>?_)
   intro h7
   try simp[-zd,-ze]at h7
   exact Wk.C.rn [0] (L73 _ (v19.1:Int) v19.2 rfl ⟨by omega,by omega,by unfold inI;omega,by rw[k4];unfold Yf;rw[if_pos h1,if_pos (by simp[Qu,h5]),Q3,h6];rfl⟩)
   intro j20
   exact Qc hk (by rw[k4];unfold Yf;rw[if_pos h1,if_pos (by simp[Qu,h5]),Q3,h6];rfl) _
   try simp[-zd,-ze]at h5
   refine Qb ?_ ?_<;>intro h6<;>try simp[-zd,-ze]at h6
   refine Q2 (Q2 ?_)
   refine QJ (fun v21 h7=>?_) (fun h7=>?_)
   intro h8
   try simp[-zd,-ze]at h8
   exact Wk.C.rn [0] (L73 _ (v21.1:Int) v21.2 rfl ⟨by omega,by omega,by unfold inI;omega,by rw[k4];unfold Yf;rw[if_pos h1,if_pos (by simp[Qu,h6]),Q3,h7];rfl⟩)
   intro j22
   exact Qc hk (by rw[k4];unfold Yf;rw[if_pos h1,if_pos (by simp[Qu,h6]),Q3,h7];rfl) _
   refine Qb (fun h7=>?_) (fun h7=>?_)
   try simp[-zd,-ze]at h7
   refine Q2 (Q2 ?_)
   refine QJ (fun v23 h8=>?_) (fun h8=>?_)
   intro h9
   try simp[-zd,-ze]at h9
   exact Wk.C.rn [0] (L73 _ (v23.1:Int) v23.2 rfl ⟨by omega,by omega,by unfold inI;omega,by rw[k4];unfold Yf;rw[if_pos h1,if_pos (by simp[Qu,h7]),Q3,h8];rfl⟩)
   intro j24
   exact Qc hk (by rw[k4];unfold Yf;rw[if_pos h1,if_pos (by simp[Qu,h7]),Q3,h8];rfl) _
   try simp[-zd,-ze]at h7
   refine Qb ?_ ?_<;>intro h8<;>try simp[-zd,-ze]at h8
   refine Q2 (Q2 ?_)
   refine QJ (fun v25 h9=>?_) (fun h9=>?_)
   intro h10
   try simp[-zd,-ze]at h10
   exact Wk.C.rn [0] (L73 _ (v25.1:Int) v25.2 rfl ⟨by omega,by omega,by unfold inI;omega,by rw[k4];unfold Yf;rw[if_pos h1,if_pos (by simp[Qu,h8]),Q3,h9];rfl⟩)
   intro j26
   exact Qc hk (by rw[k4];unfold Yf;rw[if_pos h1,if_pos (by simp[Qu,h8]),Q3,h9];rfl) _
   refine Qb (fun h9=>?_) (fun h9=>?_)
   try simp[-zd,-ze]at h9
   refine Q2 (Q2 ?_)
   refine QJ (fun v27 h10=>?_) (fun h10=>?_)
   intro h11
   try simp[-zd,-ze]at h11
   exact Wk.C.rn [0] (L73 _ (v27.1:Int) v27.2 rfl ⟨by omega,by omega,by unfold inI;omega,by rw[k4];unfold Yf;rw[if_pos h1,if_pos (by simp[Qu,h9]),Q3,h10];rfl⟩)
   intro j28
   exact Qc hk (by rw[k4];unfold Yf;rw[if_pos h1,if_pos (by simp[Qu,h9]),Q3,h10];rfl) _
   try simp[-zd,-ze]at h9
   refine Qb ?_ ?_<;>intro h10<;>try simp[-zd,-ze]at h10
   refine Q2 (Q2 ?_)
   refine QJ (fun v29 h11=>?_) (fun h11=>?_)
   intro h12
   try simp[-zd,-ze]at h12
   exact Wk.C.rn [0] (L73 _ (v29.1:Int) v29.2 rfl ⟨by omega,by omega,by unfold inI;omega,by rw[k4];unfold Yf;rw[if_pos h1,if_pos (by simp[Qu,h10]),Q3,h11];rfl⟩)
   intro j30
   exact Qc hk (by rw[k4];unfold Yf;rw[if_pos h1,if_pos (by simp[Qu,h10]),Q3,h11];rfl) _
   refine Qb (fun h11=>?_) (fun h11=>?_)
   try simp[-zd,-ze]at h11
   refine Q2 (Q2 ?_)
   refine QJ (fun v31 h12=>?_) (fun h12=>?_)
   intro h13
   try simp[-zd,-ze]at h13
   exact Wk.C.rn [0] (L73 _ (v31.1:Int) v31.2 rfl ⟨by omega,by omega,by unfold inI;omega,by rw[k4];unfold Yf;rw[if_pos h1,if_pos (by simp[Qu,h11]),Q3,h12];rfl⟩)
   intro j32
   exact Qc hk (by rw[k4];unfold Yf;rw[if_pos h1,if_pos (by simp[Qu,h11]),Q3,h12];rfl) _
   try simp[-zd,-ze]at h11
   refine Qb ?_ ?_<;>intro h12<;>try simp[-zd,-ze]at h12
   refine Q2 ?_
   exact Wk.C.rn [0] (L79 _ 1 (p+1) rfl ⟨by omega,by omega,by unfold inI;omega,by rw[k4];unfold Yf;rw[if_pos h1,if_neg (by simp[Qu];omega),if_pos (by simp[isN,h12])]⟩)
   refine Qb (fun h13=>?_) (fun h13=>?_)
   try simp[-zd,-ze]at h13
   refine Q2 ?_
   exact Wk.C.rn [0] (L79 _ 1 (p+1) rfl ⟨by omega,by omega,by unfold inI;omega,by rw[k4];unfold Yf;rw[if_pos h1,if_neg (by simp[Qu];omega),if_pos (by simp[isN,h13])]⟩)
   try simp[-zd,-ze]at h13
   exact Qc hk (by rw[k4];unfold Yf;rw[if_pos h1,if_neg (by simp[Qu];omega),if_neg (by simp[isN];omega)]) _
 have L53:∀(mm:Nat) (p:Nat),0=mm->(i<=p/\p<=s.length/\Yc s i=Yn s p)->V5.C K 53 (mkS 280 [(0,(.ptr 0 0))] [(0,.blk 94 [(.str s),(.nat p),(.nat d),(.bool a)])] 1):=by
  intro mm
  induction mm using zl with
  | _ mm ih=>
   intro p hm hI
   obtain⟨k1,k2,k4⟩:=hI
   refine V5.aC hD (have a0:Out:=.val (.tup [(.nat 0),(.nat 0),.ifx]);have a1:=s.length<=1000000;have a2:=p<=s.length;have a3:=mkS 280 [(0,(.ptr 0 0)),(2,(.int .i64 (-1)))] [(0,.blk 94 [(.str s),(.nat (p+1)),(.nat d),(.bool a)])] 1;have a4:Option SB:=some (.blk 94 [(.str s),(.nat p),(.nat d),(.bool a)]);cond (decide (s.length<=p)) (K a0 a4) ((p<s.length)/\cond (decide (bat s p=48)) (a1/\a2/\Qt (YD s p) (fun v33=>(p<v33.2/\v33.2<=s.length/\v33.1<=9223372036854775807)->(inI (0-((v33.1:Nat):Int)))/\(V5).C K 73 (mkS 280 [(0,(.ptr 0 0)),(2,(.int .i64 (0-((v33.1:Nat):Int))))] [(0,.blk 94 [(.str s),(.nat v33.2),(.nat d),(.bool a)])] 1)) (∀j34:Nat,K a0 (some (.blk 94 [(.str s),(.nat j34),(.nat d),(.bool a)])))) (cond (decide (bat s p=49)) (a1/\a2/\Qt (YD s p) (fun v35=>(p<v35.2/\v35.2<=s.length/\v35.1<=9223372036854775807)->(inI (0-((v35.1:Nat):Int)))/\(V5).C K 73 (mkS 280 [(0,(.ptr 0 0)),(2,(.int .i64 (0-((v35.1:Nat):Int))))] [(0,.blk 94 [(.str s),(.nat v35.2),(.nat d),(.bool a)])] 1)) (∀j36:Nat,K a0 (some (.blk 94 [(.str s),(.nat j36),(.nat d),(.bool a)])))) (cond (decide (bat s p=50)) (a1/\a2/\Qt (YD s p) (fun v37=>(p<v37.2/\v37.2<=s.length/\v37.1<=9223372036854775807)->(inI (0-((v37.1:Nat):Int)))/\(V5).C K 73 (mkS 280 [(0,(.ptr 0 0)),(2,(.int .i64 (0-((v37.1:Nat):Int))))] [(0,.blk 94 [(.str s),(.nat v37.2),(.nat d),(.bool a)])] 1)) (∀j38:Nat,K a0 (some (.blk 94 [(.str s),(.nat j38),(.nat d),(.bool a)])))) (cond (decide (bat s p=51)) (a1/\a2/\Qt (YD s p) (fun v39=>(p<v39.2/\v39.2<=s.length/\v39.1<=9223372036854775807)->(inI (0-((v39.1:Nat):Int)))/\(V5).C K 73 (mkS 280 [(0,(.ptr 0 0)),(2,(.int .i64 (0-((v39.1:Nat):Int))))] [(0,.blk 94 [(.str s),(.nat v39.2),(.nat d),(.bool a)])] 1)) (∀j40:Nat,K a0 (some (.blk 94 [(.str s),(.nat j40),(.nat d),(.bool a)])))) (cond (decide (bat s p=52)) (a1/\a2/\Qt (YD s p) (fun v41=>(p<v41.2/\v41.2<=s.length/\v41.1<=9223372036854775807)->(inI (0-((v41.1:Nat):Int)))/\(V5).C K 73 (mkS 280 [(0,(.ptr 0 0)),(2,(.int .i64 (0-((v41.1:Nat):Int))))] [(0,.blk 94 [(.str s),(.nat v41.2),(.nat d),(.bool a)])] 1)) (∀j42:Nat,K a0 (some (.blk 94 [(.str s),(.nat j42),(.nat d),(.bool a)])))) (cond (decide (bat s p=53)) (a1/\a2/\Qt (YD s p) (fun v43=>(p<v43.2/\v43.2<=s.length/\v43.1<=9223372036854775807)->(inI (0-((v43.1:Nat):Int)))/\(V5).C K 73 (mkS 280 [(0,(.ptr 0 0)),(2,(.int .i64 (0-((v43.1:Nat):Int))))] [(0,.blk 94 [(.str s),(.nat v43.2),(.nat d),(.bool a)])] 1)) (∀j44:Nat,K a0 (some (.blk 94 [(.str s),(.nat j44),(.nat d),(.bool a)])))) (cond (decide (bat s p=54)) (a1/\a2/\Qt (YD s p) (fun v45=>(p<v45.2/\v45.2<=s.length/\v45.1<=9223372036854775807)->(inI (0-((v45.1:Nat):Int)))/\(V5).C K 73 (mkS 280 [(0,(.ptr 0 0)),(2,(.int .i64 (0-((v45.1:Nat):Int))))] [(0,.blk 94 [(.str s),(.nat v45.2),(.nat d),(.bool a)])] 1)) (∀j46:Nat,K a0 (some (.blk 94 [(.str s),(.nat j46),(.nat d),(.bool a)])))) (cond (decide (bat s p=55)) (a1/\a2/\Qt (YD s p) (fun v47=>(p<v47.2/\v47.2<=s.length/\v47.1<=9223372036854775807)->(inI (0-((v47.1:Nat):Int)))/\(V5).C K 73 (mkS 280 [(0,(.ptr 0 0)),(2,(.int .i64 (0-((v47.1:Nat):Int))))] [(0,.blk 94 [(.str s),(.nat v47.2),(.nat d),(.bool a)])] 1)) (∀j48:Nat,K a0 (some (.blk 94 [(.str s),(.nat j48),(.nat d),(.bool a)])))) (cond (decide (bat s p=56)) (a1/\a2/\Qt (YD s p) (fun v49=>(p<v49.2/\v49.2<=s.length/\v49.1<=9223372036854775807)->(inI (0-((v49.1:Nat):Int)))/\(V5).C K 73 (mkS 280 [(0,(.ptr 0 0)),(2,(.int .i64 (0-((v49.1:Nat):Int))))] [(0,.blk 94 [(.str s),(.nat v49.2),(.nat d),(.bool a)])] 1)) (∀j50:Nat,K a0 (some (.blk 94 [(.str s),(.nat j50),(.nat d),(.bool a)])))) (cond (decide (bat s p=57)) (a1/\a2/\Qt (YD s p) (fun v51=>(p<v51.2/\v51.2<=s.length/\v51.1<=9223372036854775807)->(inI (0-((v51.1:Nat):Int)))/\(V5).C K 73 (mkS 280 [(0,(.ptr 0 0)),(2,(.int .i64 (0-((v51.1:Nat):Int))))] [(0,.blk 94 [(.str s),(.nat v51.2),(.nat d),(.bool a)])] 1)) (∀j52:Nat,K a0 (some (.blk 94 [(.str s),(.nat j52),(.nat d),(.bool a)])))) (cond (decide (bat s p=110)) ((p+1<=9223372036854775807)/\(V5).C K 79 a3) (cond (decide (bat s p=78)) ((p+1<=9223372036854775807)/\(V5).C K 79 a3) (K a0 a4)))))))))))))) ?_
   refine Qb ?_ ?_<;>intro h1<;>try simp[-zd,-ze]at h1
   exact Qc hk (by rw[k4];unfold Yn;rw[if_neg (by omega)]) _
   refine Q2 ?_
   refine Qb ?_ ?_<;>intro h2<;>try simp[-zd,-ze]at h2
   refine Q2 (Q2 ?_)
   refine QJ (fun v33 h3=>?_) (fun h3=>?_)
   intro h4
   try simp[-zd,-ze]at h4
   refine Q2 ?_
   exact L73 _ (0-(v33.1:Int)) v33.2 rfl ⟨by omega,by omega,by unfold inI;omega,by rw[k4];unfold Yn;rw[if_pos h1,if_pos (by simp[Qu,h2]),Q3,h3];rfl⟩
   intro j34
   exact Qc hk (by rw[k4];unfold Yn;rw[if_pos h1,if_pos (by simp[Qu,h2]),Q3,h3];rfl) _
   refine Qb (fun h3=>?_) (fun h3=>?_)
   try simp[-zd,-ze]at h3
   refine Q2 (Q2 ?_)
   refine QJ (fun v35 h4=>?_) (fun h4=>?_)
   intro h5
   try simp[-zd,-ze]at h5
   refine Q2 ?_
   exact L73 _ (0-(v35.1:Int)) v35.2 rfl ⟨by omega,by omega,by unfold inI;omega,by rw[k4];unfold Yn;rw[if_pos h1,if_pos (by simp[Qu,h3]),Q3,h4];rfl⟩
   intro j36
   exact Qc hk (by rw[k4];unfold Yn;rw[if_pos h1,if_pos (by simp[Qu,h3]),Q3,h4];rfl) _
   try simp[-zd,-ze]at h3
   refine Qb ?_ ?_<;>intro h4<;>try simp[-zd,-ze]at h4
   refine Q2 (Q2 ?_)
   refine QJ (fun v37 h5=>?_) (fun h5=>?_)
   intro h6
   try simp[-zd,-ze]at h6
   refine Q2 ?_
   exact L73 _ (0-(v37.1:Int)) v37.2 rfl ⟨by omega,by omega,by unfold inI;omega,by rw[k4];unfold Yn;rw[if_pos h1,if_pos (by simp[Qu,h4]),Q3,h5];rfl⟩
   intro j38
   exact Qc hk (by rw[k4];unfold Yn;rw[if_pos h1,if_pos (by simp[Qu,h4]),Q3,h5];rfl) _
   refine Qb (fun h5=>?_) (fun h5=>?_)
   try simp[-zd,-ze]at h5
   refine Q2 (Q2 ?_)
   refine QJ (fun v39 h6=>?_) (fun h6=>?_)
   intro h7
   try simp[-zd,-ze]at h7
   refine Q2 ?_
   exact L73 _ (0-(v39.1:Int)) v39.2 rfl ⟨by omega,by omega,by unfold inI;omega,by rw[k4];unfold Yn;rw[if_pos h1,if_pos (by simp[Qu,h5]),Q3,h6];rfl⟩
   intro j40
   exact Qc hk (by rw[k4];unfold Yn;rw[if_pos h1,if_pos (by simp[Qu,h5]),Q3,h6];rfl) _
   try simp[-zd,-ze]at h5
   refine Qb ?_ ?_<;>intro h6<;>try simp[-zd,-ze]at h6
   refine Q2 (Q2 ?_)
   refine QJ (fun v41 h7=>?_) (fun h7=>?_)
   intro h8
   try simp[-zd,-ze]at h8
   refine Q2 ?_
   exact L73 _ (0-(v41.1:Int)) v41.2 rfl ⟨by omega,by omega,by unfold inI;omega,by rw[k4];unfold Yn;rw[if_pos h1,if_pos (by simp[Qu,h6]),Q3,h7];rfl⟩
   intro j42
   exact Qc hk (by rw[k4];unfold Yn;rw[if_pos h1,if_pos (by simp[Qu,h6]),Q3,h7];rfl) _
   refine Qb (fun h7=>?_) (fun h7=>?_)
   try simp[-zd,-ze]at h7
   refine Q2 (Q2 ?_)
   refine QJ (fun v43 h8=>?_) (fun h8=>?_)
   intro h9
   try simp[-zd,-ze]at h9
   refine Q2 ?_
   exact L73 _ (0-(v43.1:Int)) v43.2 rfl ⟨by omega,by omega,by unfold inI;omega,by rw[k4];unfold Yn;rw[if_pos h1,if_pos (by simp[Qu,h7]),Q3,h8];rfl⟩
   intro j44
   exact Qc hk (by rw[k4];unfold Yn;rw[if_pos h1,if_pos (by simp[Qu,h7]),Q3,h8];rfl) _
   try simp[-zd,-ze]at h7
   refine Qb ?_ ?_<;>intro h8<;>try simp[-zd,-ze]at h8
   refine Q2 (Q2 ?_)
   refine QJ (fun v45 h9=>?_) (fun h9=>?_)
   intro h10
   try simp[-zd,-ze]at h10
   refine Q2 ?_
   exact L73 _ (0-(v45.1:Int)) v45.2 rfl ⟨by omega,by omega,by unfold inI;omega,by rw[k4];unfold Yn;rw[if_pos h1,if_pos (by simp[Qu,h8]),Q3,h9];rfl⟩
   intro j46
   exact Qc hk (by rw[k4];unfold Yn;rw[if_pos h1,if_pos (by simp[Qu,h8]),Q3,h9];rfl) _
   refine Qb (fun h9=>?_) (fun h9=>?_)
   try simp[-zd,-ze]at h9
   refine Q2 (Q2 ?_)
   refine QJ (fun v47 h10=>?_) (fun h10=>?_)
   intro h11
   try simp[-zd,-ze]at h11
   refine Q2 ?_
   exact L73 _ (0-(v47.1:Int)) v47.2 rfl ⟨by omega,by omega,by unfold inI;omega,by rw[k4];unfold Yn;rw[if_pos h1,if_pos (by simp[Qu,h9]),Q3,h10];rfl⟩
   intro j48
   exact Qc hk (by rw[k4];unfold Yn;rw[if_pos h1,if_pos (by simp[Qu,h9]),Q3,h10];rfl) _
   try simp[-zd,-ze]at h9
   refine Qb ?_ ?_<;>intro h10<;>try simp[-zd,-ze]at h10
   refine Q2 (Q2 ?_)
   refine QJ (fun v49 h11=>?_) (fun h11=>?_)
   intro h12
   try simp[-zd,-ze]at h12
   refine Q2 ?_
   exact L73 _ (0-(v49.1:Int)) v49.2 rfl ⟨by omega,by omega,by unfold inI;omega,by rw[k4];unfold Yn;rw[if_pos h1,if_pos (by simp[Qu,h10]),Q3,h11];rfl⟩
   intro j50
   exact Qc hk (by rw[k4];unfold Yn;rw[if_pos h1,if_pos (by simp[Qu,h10]),Q3,h11];rfl) _
   refine Qb (fun h11=>?_) (fun h11=>?_)
   try simp[-zd,-ze]at h11
   refine Q2 (Q2 ?_)
   refine QJ (fun v51 h12=>?_) (fun h12=>?_)
   intro h13
   try simp[-zd,-ze]at h13
   refine Q2 ?_
   exact L73 _ (0-(v51.1:Int)) v51.2 rfl ⟨by omega,by omega,by unfold inI;omega,by rw[k4];unfold Yn;rw[if_pos h1,if_pos (by simp[Qu,h11]),Q3,h12];rfl⟩
   intro j52
   exact Qc hk (by rw[k4];unfold Yn;rw[if_pos h1,if_pos (by simp[Qu,h11]),Q3,h12];rfl) _
   try simp[-zd,-ze]at h11
   refine Qb ?_ ?_<;>intro h12<;>try simp[-zd,-ze]at h12
   refine Q2 ?_
   exact L79 _ (-1) (p+1) rfl ⟨by omega,by omega,by unfold inI;omega,by rw[k4];unfold Yn;rw[if_pos h1,if_neg (by simp[Qu];omega),if_pos (by simp[isN,h12])]⟩
   refine Qb (fun h13=>?_) (fun h13=>?_)
   try simp[-zd,-ze]at h13
   refine Q2 ?_
   exact L79 _ (-1) (p+1) rfl ⟨by omega,by omega,by unfold inI;omega,by rw[k4];unfold Yn;rw[if_pos h1,if_neg (by simp[Qu];omega),if_pos (by simp[isN,h13])]⟩
   try simp[-zd,-ze]at h13
   exact Qc hk (by rw[k4];unfold Yn;rw[if_pos h1,if_neg (by simp[Qu];omega),if_neg (by simp[isN];omega)]) _
 refine V5.en (have a0:=mkS 280 [(0,(.ptr 0 0))] [(0,.blk 94 [(.str s),(.nat i),(.nat d),(.bool a)])] 1;have a1:Out:=.val (.tup [(.nat 0),(.nat 0),.ifx]);have a2:Out:=.val (.tup [(.nat 2),(.nat 1),.nilif]);have a3:Out:=.val (.tup [(.nat 2),(.nat 0),.nilif]);have a4:=mkS 280 [(0,(.ptr 0 0)),(2,(.nat 1))] [(0,.blk 94 [(.str s),(.nat (i+1)),(.nat d),(.bool a)])] 1;have a5:=mkS 280 [(0,(.ptr 0 0))] [(0,.blk 94 [(.str s),(.nat (i+1)),(.nat d),(.bool a)])] 1;have a6:=i+1<=9223372036854775807;have a7:=s.length<=1000000;have a8:Option SB:=some (.blk 94 [(.str s),(.nat i),(.nat d),(.bool a)]);cond (decide (s.length<=i)) (K a1 a8) ((i<s.length)/\cond (decide (bat s i=45)) (a6/\(V5).C K 53 a5) (cond (decide (bat s i=43)) (a6/\(V5).C K 34 a5) (cond (decide (bat s i=48)) ((V5).C K 34 a0) (cond (decide (bat s i=49)) ((V5).C K 34 a0) (cond (decide (bat s i=50)) ((V5).C K 34 a0) (cond (decide (bat s i=51)) ((V5).C K 34 a0) (cond (decide (bat s i=52)) ((V5).C K 34 a0) (cond (decide (bat s i=53)) ((V5).C K 34 a0) (cond (decide (bat s i=54)) ((V5).C K 34 a0) (cond (decide (bat s i=55)) ((V5).C K 34 a0) (cond (decide (bat s i=56)) ((V5).C K 34 a0) (cond (decide (bat s i=57)) ((V5).C K 34 a0) (cond (decide (bat s i=110)) (a6/\(V5).C K 79 a4) (cond (decide (bat s i=78)) (a6/\(V5).C K 79 a4) (cond (decide (bat s i=111)) (a7/\(i<=s.length)/\Qt (VY s i) (fun v1=>(i<v1.2/\v1.2<=s.length/\v1.1.length<=4*(v1.2-i))->(v1.1.length<=1000000000)/\cond (decide (low v1.1=[111,100,100])) (K a2 (some (.blk 94 [(.str s),(.nat v1.2),(.nat d),(.bool a)]))) (cond (decide (low v1.1=[101,118,101,110])) (K a3 (some (.blk 94 [(.str s),(.nat v1.2),(.nat d),(.bool a)]))) (K a1 (some (.blk 94 [(.str s),(.nat v1.2),(.nat d),(.bool a)]))))) (∀j2:Nat,K a1 (some (.blk 94 [(.str s),(.nat j2),(.nat d),(.bool a)])))) (cond (decide (bat s i=79)) (a7/\(i<=s.length)/\Qt (VY s i) (fun v3=>(i<v3.2/\v3.2<=s.length/\v3.1.length<=4*(v3.2-i))->(v3.1.length<=1000000000)/\cond (decide (low v3.1=[111,100,100])) (K a2 (some (.blk 94 [(.str s),(.nat v3.2),(.nat d),(.bool a)]))) (cond (decide (low v3.1=[101,118,101,110])) (K a3 (some (.blk 94 [(.str s),(.nat v3.2),(.nat d),(.bool a)]))) (K a1 (some (.blk 94 [(.str s),(.nat v3.2),(.nat d),(.bool a)]))))) (∀j4:Nat,K a1 (some (.blk 94 [(.str s),(.nat j4),(.nat d),(.bool a)])))) (cond (decide (bat s i=101)) (a7/\(i<=s.length)/\Qt (VY s i) (fun v5=>(i<v5.2/\v5.2<=s.length/\v5.1.length<=4*(v5.2-i))->(v5.1.length<=1000000000)/\cond (decide (low v5.1=[111,100,100])) (K a2 (some (.blk 94 [(.str s),(.nat v5.2),(.nat d),(.bool a)]))) (cond (decide (low v5.1=[101,118,101,110])) (K a3 (some (.blk 94 [(.str s),(.nat v5.2),(.nat d),(.bool a)]))) (K a1 (some (.blk 94 [(.str s),(.nat v5.2),(.nat d),(.bool a)]))))) (∀j6:Nat,K a1 (some (.blk 94 [(.str s),(.nat j6),(.nat d),(.bool a)])))) (cond (decide (bat s i=69)) (a7/\(i<=s.length)/\Qt (VY s i) (fun v7=>(i<v7.2/\v7.2<=s.length/\v7.1.length<=4*(v7.2-i))->(v7.1.length<=1000000000)/\cond (decide (low v7.1=[111,100,100])) (K a2 (some (.blk 94 [(.str s),(.nat v7.2),(.nat d),(.bool a)]))) (cond (decide (low v7.1=[101,118,101,110])) (K a3 (some (.blk 94 [(.str s),(.nat v7.2),(.nat d),(.bool a)]))) (K a1 (some (.blk 94 [(.str s),(.nat v7.2),(.nat d),(.bool a)]))))) (∀j8:Nat,K a1 (some (.blk 94 [(.str s),(.nat j8),(.nat d),(.bool a)])))) (K a1 a8)))))))))))))))))))) ?_
 refine Qb ?_ ?_<;>intro h1<;>try simp[-zd,-ze]at h1
 exact Qc hk (by unfold Yc;rw[if_neg (by omega)]) _
 refine Q2 ?_
 refine Qb ?_ ?_<;>intro h2<;>try simp[-zd,-ze]at h2
 refine Q2 ?_
 exact L53 _ (i+1) rfl ⟨by omega,by omega,by unfold Yc;rw[if_pos h1,if_pos h2]⟩
 refine Qb (fun h3=>?_) (fun h3=>?_)
 try simp[-zd,-ze]at h3
 refine Q2 ?_
 exact L34 _ (i+1) rfl ⟨by omega,by omega,by unfold Yc;rw[if_pos h1,if_neg h2,if_pos h3]⟩
 try simp[-zd,-ze]at h3
 refine Qb ?_ ?_<;>intro h4<;>try simp[-zd,-ze]at h4
 exact L34 _ i rfl ⟨by omega,by omega,by unfold Yc;rw[if_pos h1,if_neg h2,if_neg h3,if_pos (by simp[Qu,h4])]⟩
 refine Qb (fun h5=>?_) (fun h5=>?_)
 try simp[-zd,-ze]at h5
 exact L34 _ i rfl ⟨by omega,by omega,by unfold Yc;rw[if_pos h1,if_neg h2,if_neg h3,if_pos (by simp[Qu,h5])]⟩
 try simp[-zd,-ze]at h5
 refine Qb ?_ ?_<;>intro h6<;>try simp[-zd,-ze]at h6
 exact L34 _ i rfl ⟨by omega,by omega,by unfold Yc;rw[if_pos h1,if_neg h2,if_neg h3,if_pos (by simp[Qu,h6])]⟩
 refine Qb (fun h7=>?_) (fun h7=>?_)
 try simp[-zd,-ze]at h7
 exact L34 _ i rfl ⟨by omega,by omega,by unfold Yc;rw[if_pos h1,if_neg h2,if_neg h3,if_pos (by simp[Qu,h7])]⟩
 try simp[-zd,-ze]at h7
 refine Qb ?_ ?_<;>intro h8<;>try simp[-zd,-ze]at h8
 exact L34 _ i rfl ⟨by omega,by omega,by unfold Yc;rw[if_pos h1,if_neg h2,if_neg h3,if_pos (by simp[Qu,h8])]⟩
 refine Qb (fun h9=>?_) (fun h9=>?_)
 try simp[-zd,-ze]at h9
 exact L34 _ i rfl ⟨by omega,by omega,by unfold Yc;rw[if_pos h1,if_neg h2,if_neg h3,if_pos (by simp[Qu,h9])]⟩
 try simp[-zd,-ze]at h9
 refine Qb ?_ ?_<;>intro h10<;>try simp[-zd,-ze]at h10
 exact L34 _ i rfl ⟨by omega,by omega,by unfold Yc;rw[if_pos h1,if_neg h2,if_neg h3,if_pos (by simp[Qu,h10])]⟩
 refine Qb (fun h11=>?_) (fun h11=>?_)
 try simp[-zd,-ze]at h11
 exact L34 _ i rfl ⟨by omega,by omega,by unfold Yc;rw[if_pos h1,if_neg h2,if_neg h3,if_pos (by simp[Qu,h11])]⟩
 try simp[-zd,-ze]at h11
 refine Qb ?_ ?_<;>intro h12<;>try simp[-zd,-ze]at h12
 exact L34 _ i rfl ⟨by omega,by omega,by unfold Yc;rw[if_pos h1,if_neg h2,if_neg h3,if_pos (by simp[Qu,h12])]⟩
 refine Qb (fun h13=>?_) (fun h13=>?_)
 try simp[-zd,-ze]at h13
 exact L34 _ i rfl ⟨by omega,by omega,by unfold Yc;rw[if_pos h1,if_neg h2,if_neg h3,if_pos (by simp[Qu,h13])]⟩
 try simp[-zd,-ze]at h13
 refine Qb ?_ ?_<;>intro h14<;>try simp[-zd,-ze]at h14
 refine Q2 ?_
 exact Wk.C.rn [0] (L79 _ 1 (i+1) rfl ⟨by omega,by omega,by unfold inI;omega,by unfold Yc;rw[if_pos h1,if_neg h2,if_neg h3,if_neg (by simp[Qu];omega),if_pos (by simp[isN,h14])]⟩)
 refine Qb (fun h15=>?_) (fun h15=>?_)
 try simp[-zd,-ze]at h15
 refine Q2 ?_
 exact Wk.C.rn [0] (L79 _ 1 (i+1) rfl ⟨by omega,by omega,by unfold inI;omega,by unfold Yc;rw[if_pos h1,if_neg h2,if_neg h3,if_neg (by simp[Qu];omega),if_pos (by simp[isN,h15])]⟩)
 try simp[-zd,-ze]at h15
 refine Qb ?_ ?_<;>intro h16<;>try simp[-zd,-ze]at h16
 refine Q2 (Q2 ?_)
 refine QJ (fun v1 h17=>?_) (fun h17=>?_)
 intro h18
 try simp[-zd,-ze]at h18
 refine Q2 ?_
 refine Qb ?_ ?_<;>intro h19<;>try simp[-zd,-ze]at h19
 have q:=Qd hk (by rw[YA (by simp[Jf,h16]) h17,if_pos h19]) (.nat 2) (.nat 1) (by dsimp only;omega) (by dsimp only;omega) rfl rfl
 dsimp only at q
 exact q
 refine Qb (fun h20=>?_) (fun h20=>?_)
 try simp[-zd,-ze]at h20
 have q:=Qd hk (by rw[YA (by simp[Jf,h16]) h17,if_neg h19,if_pos h20]) (.nat 2) (.nat 0) (by dsimp only;omega) (by dsimp only;omega) rfl rfl
 dsimp only at q
 exact q
 try simp[-zd,-ze]at h20
 exact Qc hk (by rw[YA (by simp[Jf,h16]) h17,if_neg h19,if_neg h20]) _
 intro j2
 exact Qc hk (Qcg (by simp[Jf,h16]) h17) _
 refine Qb (fun h17=>?_) (fun h17=>?_)
 try simp[-zd,-ze]at h17
 refine Q2 (Q2 ?_)
 refine QJ (fun v3 h18=>?_) (fun h18=>?_)
 intro h19
 try simp[-zd,-ze]at h19
 refine Q2 ?_
 refine Qb ?_ ?_<;>intro h20<;>try simp[-zd,-ze]at h20
 have q:=Qd hk (by rw[YA (by simp[Jf,h17]) h18,if_pos h20]) (.nat 2) (.nat 1) (by dsimp only;omega) (by dsimp only;omega) rfl rfl
 dsimp only at q
 exact q
 refine Qb (fun h21=>?_) (fun h21=>?_)
 try simp[-zd,-ze]at h21
 have q:=Qd hk (by rw[YA (by simp[Jf,h17]) h18,if_neg h20,if_pos h21]) (.nat 2) (.nat 0) (by dsimp only;omega) (by dsimp only;omega) rfl rfl
 dsimp only at q
 exact q
 try simp[-zd,-ze]at h21
 exact Qc hk (by rw[YA (by simp[Jf,h17]) h18,if_neg h20,if_neg h21]) _
 intro j4
 exact Qc hk (Qcg (by simp[Jf,h17]) h18) _
 try simp[-zd,-ze]at h17
 refine Qb ?_ ?_<;>intro h18<;>try simp[-zd,-ze]at h18
 refine Q2 (Q2 ?_)
 refine QJ (fun v5 h19=>?_) (fun h19=>?_)
 intro h20
 try simp[-zd,-ze]at h20
 refine Q2 ?_
 refine Qb ?_ ?_<;>intro h21<;>try simp[-zd,-ze]at h21
 have q:=Qd hk (by rw[YA (by simp[Jf,h18]) h19,if_pos h21]) (.nat 2) (.nat 1) (by dsimp only;omega) (by dsimp only;omega) rfl rfl
 dsimp only at q
 exact q
 refine Qb (fun h22=>?_) (fun h22=>?_)
 try simp[-zd,-ze]at h22
 have q:=Qd hk (by rw[YA (by simp[Jf,h18]) h19,if_neg h21,if_pos h22]) (.nat 2) (.nat 0) (by dsimp only;omega) (by dsimp only;omega) rfl rfl
 dsimp only at q
 exact q
 try simp[-zd,-ze]at h22
 exact Qc hk (by rw[YA (by simp[Jf,h18]) h19,if_neg h21,if_neg h22]) _
 intro j6
 exact Qc hk (Qcg (by simp[Jf,h18]) h19) _
 refine Qb (fun h19=>?_) (fun h19=>?_)
 try simp[-zd,-ze]at h19
 refine Q2 (Q2 ?_)
 refine QJ (fun v7 h20=>?_) (fun h20=>?_)
 intro h21
 try simp[-zd,-ze]at h21
 refine Q2 ?_
 refine Qb ?_ ?_<;>intro h22<;>try simp[-zd,-ze]at h22
 have q:=Qd hk (by rw[YA (by simp[Jf,h19]) h20,if_pos h22]) (.nat 2) (.nat 1) (by dsimp only;omega) (by dsimp only;omega) rfl rfl
 dsimp only at q
 exact q
 refine Qb (fun h23=>?_) (fun h23=>?_)
 try simp[-zd,-ze]at h23
 have q:=Qd hk (by rw[YA (by simp[Jf,h19]) h20,if_neg h22,if_pos h23]) (.nat 2) (.nat 0) (by dsimp only;omega) (by dsimp only;omega) rfl rfl
 dsimp only at q
 exact q
 try simp[-zd,-ze]at h23
 exact Qc hk (by rw[YA (by simp[Jf,h19]) h20,if_neg h22,if_neg h23]) _
 intro j8
 exact Qc hk (Qcg (by simp[Jf,h19]) h20) _
 try simp[-zd,-ze]at h19
 exact Qc hk (by unfold Yc;rw[if_pos h1,if_neg h2,if_neg h3,if_neg (by simp[Qu];omega),if_neg (by simp[isN];omega),if_neg (by simp[Jf];omega)]) _
 exact hP.elim
def c136 (svs:List SV) (b:Option SB) (K:Out->Option SB->Prop):Prop:=match svs,b with
 | [.ptr 0 0],some (.blk 94 [.str s,.nat i,.nat d,.bool a])=>s.length<=1000000/\i<=s.length/\Qt (Yc s i) (fun v=>i<=v.2.2/\v.2.2<=s.length->K (.val (.tup [.int .i64 v.1,.int .i64 v.2.1,.nilif])) (some (.blk 94 [.str s,.nat v.2.2,.nat d,.bool a]))) (∀j,K (.val (.tup [.nat 0,.nat 0,.ifx])) (some (.blk 94 [.str s,.nat j,.nat d,.bool a])))
 | _,_=>False
theorem QoG {x y z:SV} {a c:Int} (hx:toI x=some a) (hy:toI y=some c) (ω:Wit) (v:Value) (h:Rel ω (.tup [x,y,z]) v):Rel ω (.tup [.int .i64 a,.int .i64 c,z]) v:=by
 cases h with
 | tup _ vs hn hh=>
  refine .tup _ vs (by simpa using hn) fun i s u e1 e2=>?_
  match i with
  | 0=>simp at e1;subst e1;exact YS hx (hh 0 _ u rfl e2)
  | 1=>simp at e1;subst e1;exact YS hy (hh 1 _ u rfl e2)
  | 2=>simp at e1;subst e1;exact hh 2 _ u rfl e2
  | i+3=>simp at e1
theorem Qvg:Sat 136 c136:=by
 refine Sat.outW Qr5 fun svs b K h=>?_
 unfold c136 at h
 split at h
 obtain⟨h1,h2,h3⟩:=h
 refine⟨h1,h2,?_⟩
 rename_i s i d a
 cases hn:Yc s i with
 | none=>
  rw[hn]at h3
  exact fun j=>⟨_,_,rfl,rfl,fun _ _ h=>h,h3 j⟩
 | some v=>
  rw[hn]at h3
  exact fun x y k1 k2 hx hy=>⟨_,_,rfl,rfl,QoG hx hy,h3 ⟨k1,k2⟩⟩
 exact h.elim
end
section
open Go Go.RowKit
set_option maxRecDepth 20000
def c115 (svs:List SV) (b:Option SB) (K:Out->Option SB->Prop):Prop:=match svs,b with
 | [.ptr 0 0],some (.blk 94 [.str s,.nat i,.nat d,.bool a])=>s.length<=1000000/\i<=s.length/\Qt (Qx s i) (fun v=>i<v.2/\v.2<=s.length->K (.val (.tup [.agg [.str (low v.1)],.nilif])) (some (.blk 94 [.str s,.nat v.2,.nat d,.bool a]))) (∀j,K (.val (.tup [.agg [.str []],.ifx])) (some (.blk 94 [.str s,.nat j,.nat d,.bool a])))
 | _,_=>False
noncomputable def W115:Wk:=⟨[(129,.plain c129),(130,.pure Qol)],Qe Tryz.f115,true,false,[.cell 2 99,.tmp 3],[99,71],[],[]⟩
theorem Qxb:Has 115:=hsf Tryz.f115
theorem QeS {p q:Prop} (k:q) (h:p:=by first | omega | (simp;done) | (simp;omega) | (simp;assumption)):p/\q:=⟨h,k⟩
theorem Qvt:Sat 115 c115:=by
 have hD:Qa W115.D:=(Qa.cons QhW Qha (Qa.cons QhV Qg9 Qa.nil))
 refine W115.sa hD Tryz.f115 fun svs b K hP=>?_
 unfold c115 at hP
 split at hP
 rename_i s i d a
 obtain⟨h01,h02,hk⟩:=hP
 refine W115.en ((s.length<=1000000)/\(i<=s.length)/\Qt (Qx s i) (fun v1=>(i<v1.2/\v1.2<=s.length/\v1.1.length<=4*(v1.2-i))->(v1.1.length<=1000000000)/\K (.val (.tup [(.agg [(.str (low v1.1))]),.nilif])) (some (.blk 94 [(.str s),(.nat v1.2),(.nat d),(.bool a)]))) (∀j2:Nat,K (.val (.tup [(.agg [(.str [])]),.ifx])) (some (.blk 94 [(.str s),(.nat j2),(.nat d),(.bool a)])))) ?_
 refine QeS (QeS ?_)
 refine QJ (fun v1 h1=>?_) (fun h1=>?_)
 intro h2
 try simp[-zd,-ze]at h2
 refine QeS ?_
 have q:=Qd hk h1 (by omega)
 exact q
 intro j2
 exact Qc hk h1 _
 exact hP.elim
def c116 (svs:List SV) (b:Option SB) (K:Out->Option SB->Prop):Prop:=match svs,b with
 | [.ptr 0 0],some (.blk 94 [.str s,.nat i,.nat d,.bool a])=>s.length<=1000000/\i<=s.length/\i<s.length/\bat s i=35/\Qt (VY s (i+1)) (fun v=>i<v.2/\v.2<=s.length->K (.val (.tup [.agg [.str v.1],.nilif])) (some (.blk 94 [.str s,.nat v.2,.nat d,.bool a]))) (∀j,K (.val (.tup [.agg [.str []],.ifx])) (some (.blk 94 [.str s,.nat j,.nat d,.bool a])))
 | _,_=>False
noncomputable def W116:Wk:=⟨[(71,.pure c71),(131,.plain c131)],Qe Tryz.f116,true,false,[.cell 2 103,.tmp 3],[103,71],[],[]⟩
theorem Qxa:Has 116:=hsf Tryz.f116
theorem Qvs:Sat 116 c116:=by
 have hD:Qa W116.D:=(Qa.cons ZY ZU (Qa.cons QkY Qj9 Qa.nil))
 refine W116.sa hD Tryz.f116 fun svs b K hP=>?_
 unfold c116 at hP
 split at hP
 rename_i s i d a
 obtain⟨h01,h02,h03,h04,hk⟩:=hP
 refine W116.en (have a0:Out:=.val (.tup [(.agg [(.str [])]),.ifx]);have a1:Option SB:=some (.blk 94 [(.str s),(.nat i),(.nat d),(.bool a)]);cond (decide (s.length<=i)) (K a0 a1) ((i<s.length)/\cond (!(decide (bat s i=35))) (K a0 a1) ((i+1<=9223372036854775807)/\(s.length<=1000000)/\(i+1<=s.length)/\Qt (VY s (i+1)) (fun v1=>(i+1<v1.2/\v1.2<=s.length/\v1.1.length<=4*(v1.2-(i+1)))->K (.val (.tup [(.agg [(.str v1.1)]),.nilif])) (some (.blk 94 [(.str s),(.nat v1.2),(.nat d),(.bool a)]))) (∀j2:Nat,K a0 (some (.blk 94 [(.str s),(.nat j2),(.nat d),(.bool a)])))))) ?_
 refine Qb ?_ ?_<;>intro h1<;>try simp[-zd,-ze]at h1
 omega
 refine QeS ?_
 refine Qb ?_ ?_<;>intro h2<;>try simp[-zd,-ze]at h2
 omega
 refine QeS (QeS (QeS ?_))
 refine QJ (fun v1 h3=>?_) (fun h3=>?_)
 intro h4
 try simp[-zd,-ze]at h4
 have q:=Qd hk h3 (by omega)
 exact q
 intro j2
 exact Qc hk h3 _
 exact hP.elim
def c117 (svs:List SV) (b:Option SB) (K:Out->Option SB->Prop):Prop:=match svs,b with
 | [.ptr 0 0],some (.blk 94 [.str s,.nat i,.nat d,.bool a])=>s.length<=1000000/\i<=s.length/\i<s.length/\bat s i=46/\Qt (Qx s (i+1)) (fun v=>i<v.2/\v.2<=s.length->K (.val (.tup [.agg [.str v.1],.nilif])) (some (.blk 94 [.str s,.nat v.2,.nat d,.bool a]))) (∀j,K (.val (.tup [.agg [.str []],.ifx])) (some (.blk 94 [.str s,.nat j,.nat d,.bool a])))
 | _,_=>False
noncomputable def W117:Wk:=⟨[(71,.pure c71),(129,.plain c129)],Qe Tryz.f117,true,false,[.cell 2 101,.tmp 3],[101,71],[],[]⟩
theorem Qw9:Has 117:=hsf Tryz.f117
theorem Qvr:Sat 117 c117:=by
 have hD:Qa W117.D:=(Qa.cons ZY ZU (Qa.cons QhW Qha Qa.nil))
 refine W117.sa hD Tryz.f117 fun svs b K hP=>?_
 unfold c117 at hP
 split at hP
 rename_i s i d a
 obtain⟨h01,h02,h03,h04,hk⟩:=hP
 refine W117.en (have a0:Out:=.val (.tup [(.agg [(.str [])]),.ifx]);have a1:Option SB:=some (.blk 94 [(.str s),(.nat i),(.nat d),(.bool a)]);cond (decide (s.length<=i)) (K a0 a1) ((i<s.length)/\cond (!(decide (bat s i=46))) (K a0 a1) ((i+1<=9223372036854775807)/\(s.length<=1000000)/\(i+1<=s.length)/\Qt (Qx s (i+1)) (fun v1=>(i+1<v1.2/\v1.2<=s.length/\v1.1.length<=4*(v1.2-(i+1)))->K (.val (.tup [(.agg [(.str v1.1)]),.nilif])) (some (.blk 94 [(.str s),(.nat v1.2),(.nat d),(.bool a)]))) (∀j2:Nat,K a0 (some (.blk 94 [(.str s),(.nat j2),(.nat d),(.bool a)])))))) ?_
 refine Qb ?_ ?_<;>intro h1<;>try simp[-zd,-ze]at h1
 omega
 refine QeS ?_
 refine Qb ?_ ?_<;>intro h2<;>try simp[-zd,-ze]at h2
 omega
 refine QeS (QeS (QeS ?_))
 refine QJ (fun v1 h3=>?_) (fun h3=>?_)
 intro h4
 try simp[-zd,-ze]at h4
 have q:=Qd hk h3 (by omega)
 exact q
 intro j2
 exact Qc hk h3 _
 exact hP.elim
def aE (s key op val:Bs) (ign:Bool) (m:Nat):Option ((Bs×Bs×Bs×Bool)×Nat):=
 if m<s.length/\bat s m=93/\op∈attrSigns then some ((key,val,op,ign),m+1) else none
def aW (s key op val:Bs) (m:Nat):Option ((Bs×Bs×Bs×Bool)×Nat):=
 if iWs s m<s.length then
  aE s key op val (decide (bat s (iWs s m)=105\/bat s (iWs s m)=73)) (iWs s (if bat s (iWs s m)=105\/bat s (iWs s m)=73 then iWs s m+1 else iWs s m))
 else none
def aV (s key op:Bs) (k:Nat):Option ((Bs×Bs×Bs×Bool)×Nat):=
 if k<s.length then
  match (if bat s k=39\/bat s k=34 then ZB s k else Qx s k) with
  | none=>none
  | some (val,m)=>aW s key op val m
 else none
def Yo (s:Bs) (i:Nat):Option ((Bs×Bs×Bs×Bool)×Nat):=
 match Qx s (iWs s (i+1)) with
 | none=>none
 | some (key,j)=>
  if iWs s j<s.length then
   if bat s (iWs s j)=93 then some ((low key,[],[],false),iWs s j+1)
   else if iWs s j+2<s.length/\(bat s (iWs s j)=61\/bat s (iWs s j+1)=61) then
    aV s (low key) (if bat s (iWs s j)=61 then [61] else [s.getD (iWs s j) 0,s.getD (iWs s j+1) 0])
     (iWs s (iWs s j+(if bat s (iWs s j)=61 then 1 else 2)))
   else none
  else none
def attrOf (v:(Bs×Bs×Bs×Bool)×Nat):CSel×Nat:=(.attr v.1.1 v.1.2.1 v.1.2.2.1 v.1.2.2.2,v.2)
theorem aE_C (s key op val:Bs) (ign:Bool) (m:Nat):VF.iAttrE s key op val ign m=(aE s key op val ign m).map attrOf:=by
 unfold VF.iAttrE aE;split<;>rfl
theorem aV_C (s key op:Bs) (k:Nat):VF.iAttrV s key op k=(aV s key op k).map attrOf:=by
 unfold VF.iAttrV aV
 by_cases h1:k<s.length
 rw[if_pos h1,if_pos h1]
 rcases (if bat s k=39\/bat s k=34 then ZB s k else Qx s k) with _ | ⟨val,m⟩
 rfl
 dsimp only
 unfold aW
 by_cases h2:iWs s m<s.length
 rw[if_pos h2,if_pos h2,aE_C]
 rw[if_neg h2,if_neg h2];rfl
 rw[if_neg h1,if_neg h1];rfl
theorem QdZ (s:Bs) (i:Nat):VF s i=(Yo s i).map attrOf:=by
 unfold VF Yo
 rcases Qx s (iWs s (i+1)) with _ | ⟨key,j⟩
 rfl
 dsimp only
 by_cases h1:iWs s j<s.length
 rw[if_pos h1,if_pos h1]
 by_cases h2:bat s (iWs s j)=93
 rw[if_pos h2,if_pos h2];rfl
 rw[if_neg h2,if_neg h2]
 by_cases h3:iWs s j+2<s.length/\(bat s (iWs s j)=61\/bat s (iWs s j+1)=61)
 rw[if_pos h3,if_pos h3,aV_C]
 rw[if_neg h3,if_neg h3];rfl
 rw[if_neg h1,if_neg h1];rfl
theorem Qig {s key op:Bs} {k:Nat} {v:Bs×Nat} (h1:k<s.length) (h:(if bat s k=39\/bat s k=34 then ZB s k else Qx s k)=some v):aV s key op k=aW s key op v.1 v.2:=by
 obtain⟨w,j⟩:=v
 unfold aV;rw[if_pos h1,h]
theorem Qih {s key op:Bs} {k:Nat} (h1:k<s.length) (h:(if bat s k=39\/bat s k=34 then ZB s k else Qx s k)=none):aV s key op k=none:=by
 unfold aV;rw[if_pos h1,h]
theorem JD {s:Bs} {i:Nat} {v:Bs×Nat} (h:Qx s (iWs s (i+1))=some v):Yo s i=if iWs s v.2<s.length then
      if bat s (iWs s v.2)=93 then some ((low v.1,[],[],false),iWs s v.2+1)
      else if iWs s v.2+2<s.length/\(bat s (iWs s v.2)=61\/bat s (iWs s v.2+1)=61) then
       aV s (low v.1) (if bat s (iWs s v.2)=61 then [61] else [s.getD (iWs s v.2) 0,s.getD (iWs s v.2+1) 0])
        (iWs s (iWs s v.2+(if bat s (iWs s v.2)=61 then 1 else 2)))
      else none
 else none:=by
 obtain⟨w,j⟩:=v
 unfold Yo;rw[h]
theorem Qrb {s:Bs} {p:Nat} (h:p+2<=s.length):bat ((s.take (p+2)).drop p) 0=bat s p/\bat ((s.take (p+2)).drop p) 1=bat s (p+1):=by
 constructor
 exact Qh5 (by rw[ZN h];omega)
 exact Qh5 (by rw[ZN h];omega)
theorem cut2 {s:Bs} {p:Nat} (h:p+2<=s.length):(s.take (p+2)).drop p=[s.getD p 0,s.getD (p+1) 0]:=by
 rw[show p+2=(p+1)+1 from rfl,Qfk s p (p+1) (by omega) (by omega),cut1 (by omega)];rfl
def c118 (svs:List SV) (b:Option SB) (K:Out->Option SB->Prop):Prop:=match svs,b with
 | [.ptr 0 0],some (.blk 94 [.str s,.nat i,.nat d,.bool a])=>s.length<=1000000/\i<=s.length/\i<s.length/\bat s i=91/\Qt (Yo s i) (fun v=>i<v.2/\v.2<=s.length->K (.val (.tup [.agg [.str v.1.1,.str v.1.2.1,.str v.1.2.2.1,.bool v.1.2.2.2],.nilif])) (some (.blk 94 [.str s,.nat v.2,.nat d,.bool a]))) (∀j,K (.val (.tup [.agg [.str [],.str [],.str [],.bool false],.ifx])) (some (.blk 94 [.str s,.nat j,.nat d,.bool a])))
 | _,_=>False
noncomputable def Qa8:Wk:=⟨[(71,.pure c71),(99,.fn c99),(129,.plain c129),(130,.pure Qol),(132,.plain c132)],Qe Tryz.f118,true,false,[.cell 2 105,.tmp 3],[105,71],[(24,85),(36,213),(43,469)],[24,36,43]⟩
theorem Qw8:Has 118:=hsf Tryz.f118
theorem lcz3 {c0 p0 p1 p2 q:Prop} (k:q) (h:c0->p0/\p1/\p2/\True:=by intro g0;(try simp at g0);exact⟨(by first | omega | (simp;done) | (have:=Vw s (i+1) (by omega);omega) | (have:=Vw s v1.2 (by omega);omega) | (rw[ZN (by omega)];omega) | (simp;omega) | (simp;assumption)),(by first | omega | (simp;done) | (have:=Vw s (i+1) (by omega);omega) | (have:=Vw s v1.2 (by omega);omega) | (rw[ZN (by omega)];omega) | (simp;omega) | (simp;assumption)),(by first | omega | (simp;done) | (have:=Vw s (i+1) (by omega);omega) | (have:=Vw s v1.2 (by omega);omega) | (rw[ZN (by omega)];omega) | (simp;omega) | (simp;assumption)),trivial⟩):(c0->p0/\p1/\p2/\True)/\q:=⟨h,k⟩
theorem QkF {c0 p0 q:Prop} (k:q) (h:c0->p0/\True:=by intro g0;(try simp at g0);exact⟨(by first | omega | (simp;done) | (have:=Vw s (i+1) (by omega);omega) | (have:=Vw s v1.2 (by omega);omega) | (rw[ZN (by omega)];omega) | (simp;omega) | (simp;assumption)),trivial⟩):(c0->p0/\True)/\q:=⟨h,k⟩
theorem Zd {p q:Prop} (k:q) (h:p:=by first | omega | (simp;done) | (have:=Vw s (i+1) (by omega);omega) | (have:=Vw s v1.2 (by omega);omega) | (rw[ZN (by omega)];omega) | (simp;omega) | (simp;assumption)):p/\q:=⟨h,k⟩
theorem Qvq:Sat 118 c118:=by
 have hD:Qa Qa8.D:=(Qa.cons ZY ZU (Qa.cons QgA Qf2 (Qa.cons QhW Qha (Qa.cons QhV Qg9 (Qa.cons QqK Qpk Qa.nil)))))
 refine Qa8.sa hD Tryz.f118 fun svs b K hP=>?_
 unfold c118 at hP
 split at hP
 rename_i s i d a
 obtain⟨h01,h02,h03,h04,hk⟩:=hP
 have L43:∀(mm:Nat) (key op val:Bs) (ic:Bool) (p:Nat),0=mm->(i<p/\p<=s.length/\Yo s i=aE s key op val ic (iWs s p))->Qa8.C K 43 (mkS 262 [(0,(.ptr 0 0)),(2,(.ptr 1 0)),(4,(.str key)),(6,(.str op)),(7,(.str val)),(8,(.bool ic))] [(1,.blk 105 [(.str []),(.str []),(.str []),(.bool false)]),(0,.blk 94 [(.str s),(.nat p),(.nat d),(.bool a)])] 2):=by
  intro mm
  induction mm using zl with
  | _ mm ih=>
   intro key op val ic p hm hI
   obtain⟨k1,k2,k3⟩:=hI
   have q1:=Vw s p k2
   have q2:=QQ s p
   refine Qa8.aC hD (have a0:Option SB:=some (.blk 94 [(.str s),(.nat (iWs s p+1)),(.nat d),(.bool a)]);have a1:Out:=.val (.tup [(.agg [(.str key),(.str val),(.str op),(.bool ic)]),.nilif]);have a2:Out:=.val (.tup [(.agg [(.str []),(.str []),(.str []),(.bool false)]),.ifx]);have a3:Option SB:=some (.blk 94 [(.str s),(.nat (iWs s p)),(.nat d),(.bool a)]);(s.length<=1000000)/\(p<=s.length)/\cond (decide (s.length<=iWs s p)) (K a2 a3) ((iWs s p<s.length)/\cond (!(decide (bat s (iWs s p)=93))) (K a2 a3) ((iWs s p+1<=9223372036854775807)/\cond (decide (op=[61])) (K a1 a0) (cond (decide (op=[33,61])) (K a1 a0) (cond (decide (op=[126,61])) (K a1 a0) (cond (decide (op=[124,61])) (K a1 a0) (cond (decide (op=[94,61])) (K a1 a0) (cond (decide (op=[36,61])) (K a1 a0) (cond (decide (op=[42,61])) (K a1 a0) (K a2 a0)))))))))) ?_
   refine Zd (Zd ?_)
   refine Qb ?_ ?_<;>intro h1<;>try simp[-zd,-ze]at h1
   exact Qc hk (by rw[k3];unfold aE;rw[if_neg (by omega)]) _
   refine Zd ?_
   refine Qb ?_ ?_<;>intro h2<;>try simp[-zd,-ze]at h2
   exact Qc hk (by rw[k3];unfold aE;rw[if_neg (fun q=>h2 q.2.1)]) _
   refine Zd ?_
   refine Qb ?_ ?_<;>intro h3<;>try simp[-zd,-ze]at h3
   have e:Yo s i=some ((key,val,op,ic),iWs s p+1):=by rw[k3];unfold aE;rw[if_pos ⟨h1,h2,by rw[h3];decide⟩]
   have q:=Qd hk e ⟨by dsimp only;omega,by dsimp only;omega⟩
   dsimp only at q
   exact q
   refine Qb (fun h4=>?_) (fun h4=>?_)
   try simp[-zd,-ze]at h4
   have e:Yo s i=some ((key,val,op,ic),iWs s p+1):=by rw[k3];unfold aE;rw[if_pos ⟨h1,h2,by rw[h4];decide⟩]
   have q:=Qd hk e ⟨by dsimp only;omega,by dsimp only;omega⟩
   dsimp only at q
   exact q
   try simp[-zd,-ze]at h4
   refine Qb ?_ ?_<;>intro h5<;>try simp[-zd,-ze]at h5
   have e:Yo s i=some ((key,val,op,ic),iWs s p+1):=by rw[k3];unfold aE;rw[if_pos ⟨h1,h2,by rw[h5];decide⟩]
   have q:=Qd hk e ⟨by dsimp only;omega,by dsimp only;omega⟩
   dsimp only at q
   exact q
   refine Qb (fun h6=>?_) (fun h6=>?_)
   try simp[-zd,-ze]at h6
   have e:Yo s i=some ((key,val,op,ic),iWs s p+1):=by rw[k3];unfold aE;rw[if_pos ⟨h1,h2,by rw[h6];decide⟩]
   have q:=Qd hk e ⟨by dsimp only;omega,by dsimp only;omega⟩
   dsimp only at q
   exact q
   try simp[-zd,-ze]at h6
   refine Qb ?_ ?_<;>intro h7<;>try simp[-zd,-ze]at h7
   have e:Yo s i=some ((key,val,op,ic),iWs s p+1):=by rw[k3];unfold aE;rw[if_pos ⟨h1,h2,by rw[h7];decide⟩]
   have q:=Qd hk e ⟨by dsimp only;omega,by dsimp only;omega⟩
   dsimp only at q
   exact q
   refine Qb (fun h8=>?_) (fun h8=>?_)
   try simp[-zd,-ze]at h8
   have e:Yo s i=some ((key,val,op,ic),iWs s p+1):=by rw[k3];unfold aE;rw[if_pos ⟨h1,h2,by rw[h8];decide⟩]
   have q:=Qd hk e ⟨by dsimp only;omega,by dsimp only;omega⟩
   dsimp only at q
   exact q
   try simp[-zd,-ze]at h8
   refine Qb ?_ ?_<;>intro h9<;>try simp[-zd,-ze]at h9
   have e:Yo s i=some ((key,val,op,ic),iWs s p+1):=by rw[k3];unfold aE;rw[if_pos ⟨h1,h2,by rw[h9];decide⟩]
   have q:=Qd hk e ⟨by dsimp only;omega,by dsimp only;omega⟩
   dsimp only at q
   exact q
   exact Qc hk (by rw[k3];unfold aE;rw[if_neg (fun q=>by have q3:=q.2.2;simp only[attrSigns,zu,zJ,or_false]at q3;rcases q3 with q3 | q3 | q3 | q3 | q3 | q3 | q3<;>contradiction)]) _
 have L36:∀(mm:Nat) (key op val:Bs) (p:Nat),0=mm->(i<p/\p<=s.length/\Yo s i=aW s key op val p)->Qa8.C K 36 (mkS 262 [(0,(.ptr 0 0)),(2,(.ptr 1 0)),(4,(.str key)),(6,(.str op)),(7,(.str val))] [(1,.blk 105 [(.str []),(.str []),(.str []),(.bool false)]),(0,.blk 94 [(.str s),(.nat p),(.nat d),(.bool a)])] 2):=by
  intro mm
  induction mm using zl with
  | _ mm ih=>
   intro key op val p hm hI
   obtain⟨k1,k2,k3⟩:=hI
   have q1:=Vw s p k2
   have q2:=QQ s p
   refine Qa8.aC hD (have a1:=decide (bat s (iWs s p)=105);have a0:=a1=false->((a1==false)=true)/\True;(s.length<=1000000)/\(p<=s.length)/\cond (decide (s.length<=iWs s p)) (K (.val (.tup [(.agg [(.str []),(.str []),(.str []),(.bool false)]),.ifx])) (some (.blk 94 [(.str s),(.nat (iWs s p)),(.nat d),(.bool a)]))) ((iWs s p<s.length)/\a0/\a0/\a0/\a0/\a0/\a0/\(a1=false->((a1==false)=true)/\((a1==false)=true)/\(iWs s p<s.length)/\True)/\a0/\(a1=false->(a1==false)=true)/\cond (a1||(decide (bat s (iWs s p)=73))) ((iWs s p+1<=9223372036854775807)/\(Qa8).C K 43 (mkS 262 [(0,(.ptr 0 0)),(2,(.ptr 1 0)),(4,(.str key)),(6,(.str op)),(7,(.str val)),(8,(.bool true))] [(1,.blk 105 [(.str []),(.str []),(.str []),(.bool false)]),(0,.blk 94 [(.str s),(.nat (iWs s p+1)),(.nat d),(.bool a)])] 2)) ((Qa8).C K 43 (mkS 262 [(0,(.ptr 0 0)),(2,(.ptr 1 0)),(4,(.str key)),(6,(.str op)),(7,(.str val)),(8,(.bool false))] [(1,.blk 105 [(.str []),(.str []),(.str []),(.bool false)]),(0,.blk 94 [(.str s),(.nat (iWs s p)),(.nat d),(.bool a)])] 2)))) ?_
   refine Zd (Zd ?_)
   refine Qb ?_ ?_<;>intro h1<;>try simp[-zd,-ze]at h1
   exact Qc hk (by rw[k3];unfold aW;rw[if_neg (by omega)]) _
   refine Zd (QkF (QkF (QkF (QkF (QkF (QkF (lcz3 (QkF (Zd ?_)))))))))
   refine Qb ?_ ?_<;>intro h2<;>try simp[-zd,-ze]at h2
   refine Zd ?_
   exact L43 _ key op val true (iWs s p+1) rfl ⟨by omega,by omega,by rw[k3];unfold aW;rw[if_pos h1,decide_eq_true h2,if_pos h2]⟩
   exact L43 _ key op val false (iWs s p) rfl ⟨by omega,by omega,by rw[k3];unfold aW;rw[if_pos h1,decide_eq_false (by omega),if_neg (by omega)]⟩
 have L24:∀(mm:Nat) (key op:Bs) (p:Nat),0=mm->(i<p/\p+op.length<=s.length/\op.length<=2/\Yo s i=aV s key op (iWs s (p+op.length)))->Qa8.C K 24 (mkS 262 [(0,(.ptr 0 0)),(2,(.ptr 1 0)),(4,(.str key)),(6,(.str op))] [(1,.blk 105 [(.str []),(.str []),(.str []),(.bool false)]),(0,.blk 94 [(.str s),(.nat p),(.nat d),(.bool a)])] 2):=by
  intro mm
  induction mm using zl with
  | _ mm ih=>
   intro key op p hm hI
   obtain⟨k1,k2,k3,k4⟩:=hI
   have q1:=Vw s (p+op.length) k2
   have q2:=QQ s (p+op.length)
   refine Qa8.aC hD (have a0:Out:=.val (.tup [(.agg [(.str []),(.str []),(.str []),(.bool false)]),.ifx]);have a1:=p+op.length;have a2:=s.length<=1000000;(p+op.length<=9223372036854775807)/\a2/\(p+op.length<=s.length)/\cond (decide (s.length<=iWs s a1)) (K a0 (some (.blk 94 [(.str s),(.nat (iWs s a1)),(.nat d),(.bool a)]))) ((iWs s a1<s.length)/\cond (decide (bat s (iWs s a1)=39)) (a2/\(iWs s a1<=s.length)/\Qt (ZB s (iWs s a1)) (fun v3=>(iWs s a1<v3.2/\v3.2<=s.length/\v3.1.length<=4*(v3.2-(iWs s a1)))->(Qa8).C K 36 (mkS 262 [(0,(.ptr 0 0)),(2,(.ptr 1 0)),(4,(.str key)),(6,(.str op)),(7,(.str v3.1))] [(1,.blk 105 [(.str []),(.str []),(.str []),(.bool false)]),(0,.blk 94 [(.str s),(.nat v3.2),(.nat d),(.bool a)])] 2)) (∀j4:Nat,K a0 (some (.blk 94 [(.str s),(.nat j4),(.nat d),(.bool a)])))) (cond (decide (bat s (iWs s a1)=34)) (a2/\(iWs s a1<=s.length)/\Qt (ZB s (iWs s a1)) (fun v5=>(iWs s a1<v5.2/\v5.2<=s.length/\v5.1.length<=4*(v5.2-(iWs s a1)))->(Qa8).C K 36 (mkS 262 [(0,(.ptr 0 0)),(2,(.ptr 1 0)),(4,(.str key)),(6,(.str op)),(7,(.str v5.1))] [(1,.blk 105 [(.str []),(.str []),(.str []),(.bool false)]),(0,.blk 94 [(.str s),(.nat v5.2),(.nat d),(.bool a)])] 2)) (∀j6:Nat,K a0 (some (.blk 94 [(.str s),(.nat j6),(.nat d),(.bool a)])))) (a2/\(iWs s a1<=s.length)/\Qt (Qx s (iWs s a1)) (fun v7=>(iWs s a1<v7.2/\v7.2<=s.length/\v7.1.length<=4*(v7.2-(iWs s a1)))->(Qa8).C K 36 (mkS 262 [(0,(.ptr 0 0)),(2,(.ptr 1 0)),(4,(.str key)),(6,(.str op)),(7,(.str v7.1))] [(1,.blk 105 [(.str []),(.str []),(.str []),(.bool false)]),(0,.blk 94 [(.str s),(.nat v7.2),(.nat d),(.bool a)])] 2)) (∀j8:Nat,K a0 (some (.blk 94 [(.str s),(.nat j8),(.nat d),(.bool a)]))))))) ?_
   refine Zd (Zd (Zd ?_))
   refine Qb ?_ ?_<;>intro h1<;>try simp[-zd,-ze]at h1
   exact Qc hk (by rw[k4];unfold aV;rw[if_neg (by omega)]) _
   refine Zd ?_
   refine Qb ?_ ?_<;>intro h2<;>try simp[-zd,-ze]at h2
   refine Zd (Zd ?_)
   refine QJ (fun v3 h3=>?_) (fun h3=>?_)
   intro h4
   try simp[-zd,-ze]at h4
   exact L36 _ key op v3.1 v3.2 rfl ⟨by omega,by omega,by rw[k4];exact Qig h1 (by rw[if_pos (.inl h2)];exact h3)⟩
   intro j4
   exact Qc hk (by rw[k4];exact Qih h1 (by rw[if_pos (.inl h2)];exact h3)) _
   refine Qb (fun h3=>?_) (fun h3=>?_)
   try simp[-zd,-ze]at h3
   refine Zd (Zd ?_)
   refine QJ (fun v5 h4=>?_) (fun h4=>?_)
   intro h5
   try simp[-zd,-ze]at h5
   exact L36 _ key op v5.1 v5.2 rfl ⟨by omega,by omega,by rw[k4];exact Qig h1 (by rw[if_pos (.inr h3)];exact h4)⟩
   intro j6
   exact Qc hk (by rw[k4];exact Qih h1 (by rw[if_pos (.inr h3)];exact h4)) _
   try simp[-zd,-ze]at h3
   refine Zd (Zd ?_)
   refine QJ (fun v7 h4=>?_) (fun h4=>?_)
   intro h5
   try simp[-zd,-ze]at h5
   exact L36 _ key op v7.1 v7.2 rfl ⟨by omega,by omega,by rw[k4];exact Qig h1 (by rw[if_neg (by omega)];exact h4)⟩
   intro j8
   exact Qc hk (by rw[k4];exact Qih h1 (by rw[if_neg (by omega)];exact h4)) _
 refine Qa8.en (have a0:Out:=.val (.tup [(.agg [(.str []),(.str []),(.str []),(.bool false)]),.ifx]);have a1:Option SB:=some (.blk 94 [(.str s),(.nat i),(.nat d),(.bool a)]);cond (decide (s.length<=i)) (K a0 a1) ((i<s.length)/\cond (!(decide (bat s i=91))) (K a0 a1) ((i+1<=9223372036854775807)/\(s.length<=1000000)/\(i+1<=s.length)/\(s.length<=1000000)/\(iWs s (i+1)<=s.length)/\Qt (Qx s (iWs s (i+1))) (fun v1=>(iWs s (i+1)<v1.2/\v1.2<=s.length/\v1.1.length<=4*(v1.2-(iWs s (i+1))))->(v1.1.length<=1000000000)/\(s.length<=1000000)/\(v1.2<=s.length)/\cond (decide (s.length<=iWs s v1.2)) (K a0 (some (.blk 94 [(.str s),(.nat (iWs s v1.2)),(.nat d),(.bool a)]))) ((iWs s v1.2<s.length)/\cond (decide (bat s (iWs s v1.2)=93)) ((iWs s v1.2+1<=9223372036854775807)/\K (.val (.tup [(.agg [(.str (low v1.1)),(.str []),(.str []),(.bool false)]),.nilif])) (some (.blk 94 [(.str s),(.nat (iWs s v1.2+1)),(.nat d),(.bool a)]))) ((iWs s v1.2+2<=9223372036854775807)/\cond (decide (s.length<=iWs s v1.2+2)) (K a0 (some (.blk 94 [(.str s),(.nat (iWs s v1.2)),(.nat d),(.bool a)]))) ((iWs s v1.2+2<=9223372036854775807)/\(iWs s v1.2<=iWs s v1.2+2/\iWs s v1.2+2<=s.length)/\(0<((s.take (iWs s v1.2+2)).drop (iWs s v1.2)).length)/\cond (decide (bat ((s.take (iWs s v1.2+2)).drop (iWs s v1.2)) 0=61)) ((Qa8).C K 24 (mkS 262 [(0,(.ptr 0 0)),(2,(.ptr 1 0)),(4,(.str (low v1.1))),(6,(.str [61]))] [(1,.blk 105 [(.str []),(.str []),(.str []),(.bool false)]),(0,.blk 94 [(.str s),(.nat (iWs s v1.2)),(.nat d),(.bool a)])] 2)) ((1<((s.take (iWs s v1.2+2)).drop (iWs s v1.2)).length)/\cond (!(decide (bat ((s.take (iWs s v1.2+2)).drop (iWs s v1.2)) 1=61))) (K a0 (some (.blk 94 [(.str s),(.nat (iWs s v1.2)),(.nat d),(.bool a)]))) ((Qa8).C K 24 (mkS 262 [(0,(.ptr 0 0)),(2,(.ptr 1 0)),(4,(.str (low v1.1))),(6,(.str ((s.take (iWs s v1.2+2)).drop (iWs s v1.2))))] [(1,.blk 105 [(.str []),(.str []),(.str []),(.bool false)]),(0,.blk 94 [(.str s),(.nat (iWs s v1.2)),(.nat d),(.bool a)])] 2))))))) (∀j2:Nat,K a0 (some (.blk 94 [(.str s),(.nat j2),(.nat d),(.bool a)])))))) ?_
 refine Qb ?_ ?_<;>intro h1<;>try simp[-zd,-ze]at h1
 exfalso
 omega
 refine Zd ?_
 refine Qb ?_ ?_<;>intro h2<;>try simp[-zd,-ze]at h2
 exfalso
 omega
 refine Zd (Zd (Zd (Zd (Zd ?_))))
 refine QJ (fun v1 h3=>?_) (fun h3=>?_)
 intro h4
 try simp[-zd,-ze]at h4
 refine Zd (Zd (Zd ?_))
 refine Qb ?_ ?_<;>intro h5<;>try simp[-zd,-ze]at h5
 exact Qc hk (by rw[JD h3,if_neg (by omega)]) _
 refine Zd ?_
 refine Qb ?_ ?_<;>intro h6<;>try simp[-zd,-ze]at h6
 refine Zd ?_
 have w1:=QQ s (i+1)
 have w2:=QQ s v1.2
 have w3:=Vw s v1.2 (by omega)
 have e:Yo s i=some ((low v1.1,[],[],false),iWs s v1.2+1):=by rw[JD h3,if_pos h5,if_pos h6]
 have q:=Qd hk e ⟨by dsimp only;omega,by dsimp only;omega⟩
 dsimp only at q
 exact q
 refine Zd ?_
 refine Qb ?_ ?_<;>intro h7<;>try simp[-zd,-ze]at h7
 exact Qc hk (by rw[JD h3,if_pos h5,if_neg h6,if_neg (by omega)]) _
 refine Zd (Zd (Zd ?_))
 refine Qb ?_ ?_<;>intro h8<;>try simp[-zd,-ze]at h8
 have w1:=QQ s (i+1)
 have w2:=QQ s v1.2
 have w3:=Vw s v1.2 (by omega)
 obtain⟨b1,b2⟩:=Qrb (s:=s) (p:=iWs s v1.2) (by omega)
 rw[b1]at h8
 exact L24 _ (low v1.1) [61] (iWs s v1.2) rfl ⟨by omega,by simp only[zF];omega,by simp,by rw[JD h3,if_pos h5,if_neg h6,if_pos ⟨h7,.inl h8⟩,if_pos h8,if_pos h8];rfl⟩
 refine Zd ?_
 refine Qb ?_ ?_<;>intro h9<;>try simp[-zd,-ze]at h9
 obtain⟨b1,b2⟩:=Qrb (s:=s) (p:=iWs s v1.2) (by omega)
 rw[b1]at h8
 rw[b2]at h9
 exact Qc hk (by rw[JD h3,if_pos h5,if_neg h6,if_neg (by omega)]) _
 have w1:=QQ s (i+1)
 have w2:=QQ s v1.2
 have w3:=Vw s v1.2 (by omega)
 obtain⟨b1,b2⟩:=Qrb (s:=s) (p:=iWs s v1.2) (by omega)
 rw[b1]at h8
 rw[b2]at h9
 rw[cut2 (show iWs s v1.2+2<=s.length from by omega)]
 exact L24 _ (low v1.1) [s.getD (iWs s v1.2) 0,s.getD (iWs s v1.2+1) 0] (iWs s v1.2) rfl ⟨by omega,by simp only[zj,zo];omega,by simp,by rw[JD h3,if_pos h5,if_neg h6,if_pos ⟨h7,.inr h9⟩,if_neg h8,if_neg h8];rfl⟩
 intro j2
 exact Qc hk (by unfold Yo;rw[h3]) _
 exact hP.elim
end
end Go.Proofs.YtengepcafdnalaaGreatDoor
