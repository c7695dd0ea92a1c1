/-
  Parts of the proof that the law FnPrintBack holds for every input (texts Ki, Kj, Kk, Kl). Conditions: none.
-/
import Derived.Test.YtengepcafdnalaaGreatDoorM22
namespace Go.Proofs.YtengepcafdnalaaGreatDoor
open _root_.Bool renaming eq_iff_iff → zG, or_assoc → zY, and_eq_true → zk
open _root_.List renaming take_add_one → zU, getElem?_eq_getElem → zg, getD_eq_getElem?_getD → zd, take_length → xg, length_nil → zo, length_singleton → zF, length_append → zh, length_cons → zj
open _root_.Nat renaming strongRecOn → zl, le_refl → zm, mul_le_mul_left → zz, mul_add → xB, mul_one → xk
open _root_.UInt8 renaming toNat_lt → zV
section
open Go Go.RowKit
set_option maxRecDepth 20000
def c147:Spec:=fun svs b K=>match svs,b with
 | [.ptr 0 0,.str w],some (.blk 46 [.str s,.nat p,.bool bad,.bool un,.bool ps])=>s.length<=1000000/\p<=s.length+1/\w.length<=1000/\cond (ZC s w p) (K (.val (.bool true)) (some (.blk 46 [.str s,.nat (p+w.length),.bool bad,.bool un,.bool ps])))
  (K (.val (.bool false)) (some (.blk 46 [.str s,.nat p,.bool bad,.bool un,.bool ps])))
 | _,_=>False
noncomputable def W147:Wk:=⟨[(77,.pure c77),(89,.pure c89)],Qe Tryz.f147,true,false,[.tmp 4],[4],[],[]⟩
theorem QwO:Has 147:=hsf Tryz.f147
theorem kiz6 {c0 c1 p0 p1 q:Prop} (k:q) (h:c0->c1->p0/\p1/\True:=by intro g0 g1;(try simp at g0);(try simp at g1);exact⟨(by first | omega | (simp;omega) | simp_all),(by first | omega | (simp;omega) | simp_all),trivial⟩):(c0->c1->p0/\p1/\True)/\q:=⟨h,k⟩
theorem kiz5 {c0 c1 p0 p1 p2 q:Prop} (k:q) (h:c0->c1->p0/\p1/\p2/\True:=by intro g0 g1;(try simp at g0);(try simp at g1);exact⟨(by first | omega | (simp;omega) | simp_all),(by first | omega | (simp;omega) | simp_all),(by first | omega | (simp;omega) | simp_all),trivial⟩):(c0->c1->p0/\p1/\p2/\True)/\q:=⟨h,k⟩
theorem QhK {c0 c1 p0 q:Prop} (k:q) (h:c0->c1->p0/\True:=by intro g0 g1;(try simp at g0);(try simp at g1);exact⟨(by first | omega | (simp;omega) | simp_all),trivial⟩):(c0->c1->p0/\True)/\q:=⟨h,k⟩
theorem kiz3 {c0 p0 p1 q:Prop} (k:q) (h:c0->p0/\p1/\True:=by intro g0;(try simp at g0);exact⟨(by first | omega | (simp;omega) | simp_all),(by first | omega | (simp;omega) | simp_all),trivial⟩):(c0->p0/\p1/\True)/\q:=⟨h,k⟩
theorem kiz2 {c0 p0 p1 p2 p3 q:Prop} (k:q) (h:c0->p0/\p1/\p2/\p3/\True:=by intro g0;(try simp at g0);exact⟨(by first | omega | (simp;omega) | simp_all),(by first | omega | (simp;omega) | simp_all),(by first | omega | (simp;omega) | simp_all),(by first | omega | (simp;omega) | simp_all),trivial⟩):(c0->p0/\p1/\p2/\p3/\True)/\q:=⟨h,k⟩
theorem QeU {c0 p0 q:Prop} (k:q) (h:c0->p0/\True:=by intro g0;(try simp at g0);exact⟨(by first | omega | (simp;omega) | simp_all),trivial⟩):(c0->p0/\True)/\q:=⟨h,k⟩
theorem kiz0 {p q:Prop} (k:q) (h:p:=by first | omega | (simp;omega) | simp_all):p/\q:=⟨h,k⟩
theorem Qu6:Sat 147 c147:=by
 have hD:Qa W147.D:=(Qa.cons QgC Qf4 (Qa.cons QgB Qf3 Qa.nil))
 refine W147.sat hD (fn:=Tryz.f147) (by kernel_rfl) (by kernel_rfl) (by kernel_rfl) (by decide) fun svs b K hP=>?_
 unfold c147 at hP
 split at hP
 rename_i w s p bad un ps
 obtain⟨h01,h02,h03,hk⟩:=hP
 refine W147.en (have a2:=decide (s.length<p+w.length);have a0:=a2||(!(decide (low ((s.take (p+w.length)).drop p)=w)));have a6:=a0=false->((a0==false)=true)/\True;have a7:=Qr (bat s (p+w.length));have a8:=(a2==false)=true;have a5:=a2=false->a8/\True;have a9:=decide (p+w.length<s.length);have a1:=(a0==false)&&(a9==true);have a3:=a1=true->a7=false->((a1&&(a7==false))=true)/\True;have a4:=(a0==false)=true->a9=true->(a1=true)/\True;(p+w.length<=9223372036854775807)/\a5/\a5/\a5/\a5/\a5/\a5/\(a2=false->a8/\a8/\a8/\(p<=p+w.length/\p+w.length<=s.length)/\True)/\(a2=false->a8/\(((s.take (p+w.length)).drop p).length<=1000000000)/\True)/\(a2=false->a8/\a8/\True)/\(a2=false->(a2==false)=true)/\a6/\a6/\a6/\a6/\(a0=false->((a0==false)=true)/\((a0==false)=true)/\True)/\a6/\a4/\a4/\a4/\((a0==false)=true->a9=true->(a1=true)/\(a1=true)/\(p+w.length<s.length)/\True)/\a4/\a4/\a3/\a3/\a3/\(a1=true->a7=false->((a1&&(a7==false))=true)/\((a1&&(a7==false))=true)/\(p+w.length<s.length)/\True)/\a3/\((a0==false)=true->a9=true->(a1=true)/\(a7=false->(a1&&(a7==false))=true)/\True)/\(a0=false->((a0==false)=true)/\(a9=true->a1=true)/\True)/\(a0=false->(a0==false)=true)/\cond (a0||(a9&&(a7||(decide (bat s (p+w.length)=92))))) (K (.val (.bool false)) (some (.blk 46 [(.str s),(.nat p),(.bool bad),(.bool un),(.bool ps)]))) (K (.val (.bool true)) (some (.blk 46 [(.str s),(.nat (p+w.length)),(.bool bad),(.bool un),(.bool ps)])))) ?_
 refine kiz0 (QeU (QeU (QeU (QeU (QeU (QeU (kiz2 (kiz3 (kiz3 (kiz0 (QeU (QeU (QeU (QeU (kiz3 (QeU (QhK (QhK (QhK (kiz5 (QhK (QhK (QhK (QhK (QhK (kiz5 (QhK (kiz6 (kiz3 (kiz0 ?_))))))))))))))))))))))))))))))
 refine Qb (fun h1=>?_) (fun h1=>?_)
 skip
 have e:ZC s w p=false:=by
  rw[<-Bool.not_eq_true]
  intro hh
  have h2:(!ZC s w p)=true:=by
   rw[<-h1];unfold ZC
   rw[show decide (s.length<p+w.length) = !decide (p+w.length<=s.length) from by rw[zG];simp]
   generalize decide (p+w.length<=s.length)=b1
   generalize decide (low ((s.take (p+w.length)).drop p)=w)=b2
   generalize decide (p+w.length<s.length)=b3
   generalize Qr (bat s (p+w.length))=b4
   generalize decide (bat s (p+w.length)=92)=b5
   cases b1<;>cases b2<;>cases b3<;>cases b4<;>cases b5<;>rfl
  rw[hh]at h2
  cases h2
 rw[e]at hk
 exact hk
 skip
 have e:ZC s w p=true:=by
  have h2:(!ZC s w p)=false:=by
   rw[<-h1];unfold ZC
   rw[show decide (s.length<p+w.length) = !decide (p+w.length<=s.length) from by rw[zG];simp]
   generalize decide (p+w.length<=s.length)=b1
   generalize decide (low ((s.take (p+w.length)).drop p)=w)=b2
   generalize decide (p+w.length<s.length)=b3
   generalize Qr (bat s (p+w.length))=b4
   generalize decide (bat s (p+w.length)=92)=b5
   cases b1<;>cases b2<;>cases b3<;>cases b4<;>cases b5<;>rfl
  simpa using h2
 rw[e]at hk
 exact hk
 exact hP.elim
theorem sub48 {c:UInt8} (h:48<=c.toNat):(c-48).toNat=c.toNat-48:=by
 rw[UInt8.toNat_sub];have:=zV c;simp;omega
theorem QZ {s:Bs} {p:Nat} (h:bat s p≠0):p<s.length:=QW rfl h
theorem Qtj {s:Bs} {t:RS} {n:Nat} {b:Bool} (h:Qu (bat s t.p)=true) (hl:t.p<s.length):Vt s t n b=Vt s (t.go (t.p+1)) (min (10*n+(bat s t.p-48)) 100000) true:=by
 conv=>lhs;unfold Vt
 rw[if_pos ⟨h,hl⟩]
theorem Qti {s:Bs} {t:RS} {n:Nat} {b:Bool} (h:Qu (bat s t.p)=false):Vt s t n b=(n,b,t.unI (decide (n=100000))):=by
 unfold Vt
 rw[if_neg (by rw[h];simp)]
theorem QqA (l:Bs) (i:Nat) (h:i<l.length):hiB (l.take (i+1))=(hiB (l.take i)||decide (128<=bat l i)):=by
 unfold hiB
 rw[zU,zg h,List.any_append]
 simp[bat,zd,zg h]
theorem Zu (s:Bs) (t:RS) (n:Nat) (b:Bool) (h:t.p<=s.length+1):(Vt s t n b).2.2.p<=s.length+1:=by
 fun_induction Vt s t n b with
 | case1 t n b h1 ih=>exact ih (by simp only[RS.go_p];omega)
 | case2=>exact h
theorem Qbz (s:Bs) (t:RS) (n:Nat) (b:Bool) (h:n<=100000):(Vt s t n b).1<=100000:=by
 fun_induction Vt s t n b with
 | case1 t n b h1 ih=>exact ih (by omega)
 | case2=>exact h
def c148 (svs:List SV) (b:Option SB):FR:=match svs,b with
 | [.ptr 0 0],some (.blk 46 [.str s,.nat p,.bool bad,.bool un,.bool ps])=>some ([s.length<=1000000,p<=s.length+1],.val (.tup [.nat (Vt s ⟨p,bad,un⟩ 0 false).1,.bool (Vt s ⟨p,bad,un⟩ 0 false).2.1]),
  some (.blk 46 [.str s,.nat (Vt s ⟨p,bad,un⟩ 0 false).2.2.p,.bool (Vt s ⟨p,bad,un⟩ 0 false).2.2.bad,.bool (Vt s ⟨p,bad,un⟩ 0 false).2.2.un,.bool ps]))
 | _,_=>none
noncomputable def Qlk:Wk:=⟨[(66,.pure c66)],Qe Tryz.f148,true,false,[.tmp 2,.tmp 3],[3,4],[(1,13)],[]⟩
theorem QwN:Has 148:=hsf Tryz.f148
theorem kiz8 {c0 p0 p1 q:Prop} (k:q) (h:c0->p0/\p1/\True:=by intro g0;(try simp at g0);exact⟨(by first | omega | (have:=q48 h1.1;omega) | (have:=qp h1.1;omega)),(by first | omega | (have:=q48 h1.1;omega) | (have:=qp h1.1;omega)),trivial⟩):(c0->p0/\p1/\True)/\q:=⟨h,k⟩
theorem QkL {p q:Prop} (k:q) (h:p:=by first | omega | (have:=q48 h1.1;omega) | (have:=qp h1.1;omega)):p/\q:=⟨h,k⟩
theorem Qu5:Sat 148 (fnS c148):=by
 have hD:Qa Qlk.D:=(Qa.cons JO JJ Qa.nil)
 refine Qlk.sat hD (fn:=Tryz.f148) (by kernel_rfl) (by kernel_rfl) (by kernel_rfl) (by decide) fun svs b K hP=>?_
 obtain⟨ps,o,b',e,hp,hk⟩:=Vy hP
 unfold c148 at e
 split at e
 rename_i s p bad un ps
 cases e
 obtain⟨h01,h02,_⟩:=hp
 have L1:∀(mm:Nat) (n:Nat) (q:Bool) (t:RS),s.length-t.p=mm->t.p<=s.length+1/\n<=100000/\Vt s t n q=Vt s ⟨p,bad,un⟩ 0 false->Qlk.L K 1 (mkS 40 [(0,(.ptr 0 0)),(2,(.nat n)),(3,(.bool q))] [(0,.blk 46 [(.str s),(.nat t.p),(.bool t.bad),(.bool t.un),(.bool ps)])] 1):=by
  intro mm
  induction mm using zl with
  | _ mm ih=>
   intro n q t hm hI
   obtain⟨k1,k2,k3⟩:=hI
   have q48:48<=bat s t.p->(s.getD t.p 0-48).toNat=bat s t.p-48:=fun h=>sub48 h
   have qp:48<=bat s t.p->t.p<s.length:=fun h=>QZ (by omega)
   refine Qlk.aL hD ((s.length<=1000000)/\(t.p<=s.length+1)/\((decide (48<=bat s t.p))=true->(s.length<=1000000)/\(t.p<=s.length+1)/\True)/\cond ((decide (48<=bat s t.p))&&(decide (bat s t.p<=57))) ((10*n<=9223372036854775807)/\(s.length<=1000000)/\(t.p<=s.length+1)/\((10*n)+((s.getD t.p 0-48).toNat)<=9223372036854775807)/\(t.p+1<=9223372036854775807)/\(Qlk).L K 1 (mkS 40 [(0,(.ptr 0 0)),(2,(.nat (min ((10*n)+((s.getD t.p 0-48).toNat)) 100000))),(3,(.bool true))] [(0,.blk 46 [(.str s),(.nat (t.p+1)),(.bool t.bad),(.bool t.un),(.bool ps)])] 1)) (K (.val (.tup [(.nat n),(.bool q)])) (some (.blk 46 [(.str s),(.nat t.p),(.bool t.bad),(.bool (t.un||(decide (n=100000)))),(.bool ps)])))) ?_
   refine QkL (QkL (kiz8 ?_))
   refine Qb ?_ ?_<;>intro h1<;>try simp[-zd]at h1
   refine QkL (QkL (QkL (QkL (QkL ?_))))
   have q:=qp h1.1
   rw[q48 h1.1]
   exact ih _ (by simp only[RS.go_p];omega) _ true (t.go (t.p+1)) rfl ⟨by simp only[RS.go_p];omega,by omega,by rw[<-k3];exact (Qtj (by simp[Qu];omega) q).symm⟩
   rw[Qti (by simp[Qu];omega)]at k3
   rw[<-k3]at hk
   exact hk
 refine Qlk.en ((Qlk).L K 1 (mkS 40 [(0,(.ptr 0 0)),(2,(.nat 0)),(3,(.bool false))] [(0,.blk 46 [(.str s),(.nat p),(.bool bad),(.bool un),(.bool ps)])] 1)) ?_
 exact L1 _ 0 false ⟨p,bad,un⟩ rfl ⟨h02,by omega,rfl⟩
 cases e
def c141 (svs:List SV) (b:Option SB):FR:=match svs,b with
 | [.ptr 0 0,.str l],some (.blk 46 [.str s,.nat p,.bool bad,.bool un,.bool ps])=>some ([l.length<=1000000000],.val (.str (low l)),some (.blk 46 [.str s,.nat p,.bool bad,.bool (un||hiB l),.bool ps]))
 | _,_=>none
noncomputable def Qln:Wk:=⟨[(77,.pure c77)],Qe Tryz.f141,true,false,[.tmp 4],[9],[(2,35)],[]⟩
theorem QwT:Has 141:=hsf Tryz.f141
theorem Qt6 {p q:Prop} (k:q) (h:p:=by first | omega | (simp;done) | (simp;omega)):p/\q:=⟨h,k⟩
theorem kiz9 {c0 p0 q:Prop} (k:q) (h:c0->p0/\True:=by intro g0;(try simp at g0);exact⟨(by first | omega | (simp;done) | (simp;omega)),trivial⟩):(c0->p0/\True)/\q:=⟨h,k⟩
theorem Qvb:Sat 141 (fnS c141):=by
 have hD:Qa Qln.D:=(Qa.cons QgC Qf4 Qa.nil)
 refine Qln.sat hD (fn:=Tryz.f141) (by kernel_rfl) (by kernel_rfl) (by kernel_rfl) (by decide) fun svs b K hP=>?_
 obtain⟨ps,o,b',e,hp,hk⟩:=Vy hP
 unfold c141 at e
 split at e
 rename_i l s p bad un ps
 cases e
 obtain⟨h01,_⟩:=hp
 have L2:∀(mm:Nat) (i:Nat) (u:Bool),l.length-i=mm->i<=l.length/\u=(un||hiB (l.take i))->Qln.L K 2 (mkS 27 [(0,(.ptr 0 0)),(1,(.str l)),(5,(.nat i))] [(0,.blk 46 [(.str s),(.nat p),(.bool bad),(.bool u),(.bool ps)])] 1):=by
  intro mm
  induction mm using zl with
  | _ mm ih=>
   intro i u hm hI
   obtain⟨k1,k2⟩:=hI
   refine Qln.aL hD (cond (decide (i<l.length)) ((u=false->(i<l.length)/\True)/\(i+1<=9223372036854775807)/\(Qln).L K 2 (mkS 27 [(0,(.ptr 0 0)),(1,(.str l)),(5,(.nat (i+1)))] [(0,.blk 46 [(.str s),(.nat p),(.bool bad),(.bool (u||(decide (128<=bat l i)))),(.bool ps)])] 1)) ((l.length<=1000000000)/\K (.val (.str (low l))) (some (.blk 46 [(.str s),(.nat p),(.bool bad),(.bool u),(.bool ps)])))) ?_
   refine Qb ?_ ?_<;>intro h1<;>try simp[-zd]at h1
   refine kiz9 (Qt6 ?_)
   refine ih _ (by omega) (i+1) (u||decide (128<=bat l i)) rfl ⟨by omega,?_⟩
   rw[k2,QqA l i h1,zY]
   refine Qt6 ?_
   rw[k2,show i=l.length from by omega,xg]
   exact hk
 refine Qln.en ((Qln).L K 2 (mkS 27 [(0,(.ptr 0 0)),(1,(.str l)),(5,(.nat 0))] [(0,.blk 46 [(.str s),(.nat p),(.bool bad),(.bool un),(.bool ps)])] 1)) ?_
 exact L2 _ 0 un rfl ⟨by omega,by simp[hiB]⟩
 cases e
end
section
open Go Go.RowKit
set_option maxRecDepth 20000
theorem h45t {s:Bs} {p:Nat} (h:Q5 s [45] p=true):bat s p=45:=by
 rw[ZX s p 45 (by decide)]at h;exact of_decide_eq_true h
theorem h45f {s:Bs} {p:Nat} (h:Q5 s [45] p=false):¬bat s p=45:=by
 rw[ZX s p 45 (by decide)]at h;exact of_decide_eq_false h
theorem h43t {s:Bs} {p:Nat} (h:Q5 s [43] p=true):bat s p=43:=by
 rw[ZX s p 43 (by decide)]at h;exact of_decide_eq_true h
theorem h43f {s:Bs} {p:Nat} (h:Q5 s [43] p=false):¬bat s p=43:=by
 rw[ZX s p 43 (by decide)]at h;exact of_decide_eq_false h
def Qh8 (s:Bs) (p:Nat):Nat->Bool
 | 0=>false
 | k+1=>Qh8 s p k||decide (bat s (p+k)=92)
theorem Qon (s:Bs) (p:Nat):Qh8 s p 4=Qav s p:=by simp[Qh8,Qav]
theorem QjK {s:Bs} {p k:Nat} (h:s.length<=p+k):∀j,Qh8 s p (k+j)=Qh8 s p k
 | 0=>rfl
 | j+1=>by
  show (Qh8 s p (k+j)||decide (bat s (p+(k+j))=92))=_
  rw[QjK h j,bat_out (by omega)]
  simp
theorem QnY {K:Out->Option SB->Prop} {s:Bs} {ps:Bool} {r:(Int×Int)×RS} {x y:SV} {a c:Int} {p:Nat} {b u:Bool}
 (hk:∀x y,toI x=some r.1.1->toI y=some r.1.2->K (.val (.tup [x,y])) (some (.blk 46 [.str s,.nat r.2.p,.bool r.2.bad,.bool r.2.un,.bool ps]))) (e:r=((a,c),⟨p,b,u⟩)) (hx:toI x=some a) (hy:toI y=some c) :
 K (.val (.tup [x,y])) (some (.blk 46 [.str s,.nat p,.bool b,.bool u,.bool ps])):=by subst e;exact hk x y hx hy
theorem Qex {s:Bs} {a:Int} {t:RS} (h:¬(bat s (sSp s t).p=43\/bat s (sSp s t).p=45)) :
 ZE s a t=((a,0),(sSp s t).unI ((decide ((sSp s t).p=t.p)&&(Qr (bat s (sSp s t).p)||decide (bat s (sSp s t).p=92)))||decide (bat s (sSp s t).p=111)||decide (bat s (sSp s t).p=79)||Qu (bat s (sSp s t).p))):=by
 unfold ZE;simp only;rw[if_neg h]
theorem Qbp {s:Bs} {a:Int} {t:RS} (h:bat s (sSp s t).p=43\/bat s (sSp s t).p=45) :
 ZE s a t=((a,if bat s (sSp s t).p=45 then 0-((Vt s (sSp s ((sSp s t).go ((sSp s t).p+1))) 0 false).1:Int) else ((Vt s (sSp s ((sSp s t).go ((sSp s t).p+1))) 0 false).1:Int)),
  if (Vt s (sSp s ((sSp s t).go ((sSp s t).p+1))) 0 false).2.1=true then (Vt s (sSp s ((sSp s t).go ((sSp s t).p+1))) 0 false).2.2 else (Vt s (sSp s ((sSp s t).go ((sSp s t).p+1))) 0 false).2.2.no):=by
 unfold ZE;simp only;rw[if_pos h]
theorem QeN {sg:Int} {n:Nat} (h:sg=1\/sg = -1) (hn:n<=100000):inI (sg*n):=by
 rcases h with rfl | rfl
 unfold inI;omega
 unfold inI;omega
def c140i:Spec:=fun svs b K=>match svs,b with
 | [.ptr 0 0],some (.blk 46 [.str s,.nat p,.bool bad,.bool un,.bool ps])=>s.length<=1000000/\p<=s.length+1/\∀x y,toI x=some (VG s ⟨p,bad,un⟩).1.1->toI y=some (VG s ⟨p,bad,un⟩).1.2->K (.val (.tup [x,y]))
  (some (.blk 46 [.str s,.nat (VG s ⟨p,bad,un⟩).2.p,.bool (VG s ⟨p,bad,un⟩).2.bad,.bool (VG s ⟨p,bad,un⟩).2.un,.bool ps]))
 | _,_=>False
noncomputable def Qa7:Wk:=⟨[(43,.plain c43),(64,.fn c64),(66,.pure c66),(69,.pure c69),(89,.pure c89),(147,.plain c147),(148,.fn c148)],Qe Tryz.f140,true,false,[.tmp 2,.tmp 3],[3,3],[(9,17),(14,305),(22,49)],[9,22]⟩
theorem QwU:Has 140:=hsf Tryz.f140
theorem kjz2 {c0 p0 p1 p2 q:Prop} (k:q) (h:c0->p0/\p1/\p2/\True:=by intro g0;(try simp at g0);exact⟨(by first | omega | (simp;done) | (have:=QB s t k1;omega) | exact QeN ‹_› ‹_› | (have:=Zu s t 0 false k1;omega) | (have:=Zu s t 0 false k1;have:=QZ (s:=s) (p:=(Vt s t 0 false).2.2.p) (by omega);omega)   | (have:=QB s t k1;have:=QZ (s:=s) (p:=(sSp s t).p) (by omega);omega)   | (have b1:=QZ (s:=s) (p:=(sSp s t).p) (by omega);have b2:=QB s ⟨(sSp s t).p+1,(sSp s t).bad,(sSp s t).un⟩ (by show _+1<=_;omega);first | exact b2 | omega)   | (have b3:=Qbz s (sSp s ⟨(sSp s t).p+1,(sSp s t).bad,(sSp s t).un⟩) 0 false (by omega);unfold inI;omega)),(by first | omega | (simp;done) | (have:=QB s t k1;omega) | exact QeN ‹_› ‹_› | (have:=Zu s t 0 false k1;omega) | (have:=Zu s t 0 false k1;have:=QZ (s:=s) (p:=(Vt s t 0 false).2.2.p) (by omega);omega)   | (have:=QB s t k1;have:=QZ (s:=s) (p:=(sSp s t).p) (by omega);omega)   | (have b1:=QZ (s:=s) (p:=(sSp s t).p) (by omega);have b2:=QB s ⟨(sSp s t).p+1,(sSp s t).bad,(sSp s t).un⟩ (by show _+1<=_;omega);first | exact b2 | omega)   | (have b3:=Qbz s (sSp s ⟨(sSp s t).p+1,(sSp s t).bad,(sSp s t).un⟩) 0 false (by omega);unfold inI;omega)),(by first | omega | (simp;done) | (have:=QB s t k1;omega) | exact QeN ‹_› ‹_› | (have:=Zu s t 0 false k1;omega) | (have:=Zu s t 0 false k1;have:=QZ (s:=s) (p:=(Vt s t 0 false).2.2.p) (by omega);omega)   | (have:=QB s t k1;have:=QZ (s:=s) (p:=(sSp s t).p) (by omega);omega)   | (have b1:=QZ (s:=s) (p:=(sSp s t).p) (by omega);have b2:=QB s ⟨(sSp s t).p+1,(sSp s t).bad,(sSp s t).un⟩ (by show _+1<=_;omega);first | exact b2 | omega)   | (have b3:=Qbz s (sSp s ⟨(sSp s t).p+1,(sSp s t).bad,(sSp s t).un⟩) 0 false (by omega);unfold inI;omega)),trivial⟩):(c0->p0/\p1/\p2/\True)/\q:=⟨h,k⟩
theorem Zr {p q:Prop} (k:q) (h:p:=by first | omega | (simp;done) | (have:=QB s t k1;omega) | exact QeN ‹_› ‹_› | (have:=Zu s t 0 false k1;omega) | (have:=Zu s t 0 false k1;have:=QZ (s:=s) (p:=(Vt s t 0 false).2.2.p) (by omega);omega)   | (have:=QB s t k1;have:=QZ (s:=s) (p:=(sSp s t).p) (by omega);omega)   | (have b1:=QZ (s:=s) (p:=(sSp s t).p) (by omega);have b2:=QB s ⟨(sSp s t).p+1,(sSp s t).bad,(sSp s t).un⟩ (by show _+1<=_;omega);first | exact b2 | omega)   | (have b3:=Qbz s (sSp s ⟨(sSp s t).p+1,(sSp s t).bad,(sSp s t).un⟩) 0 false (by omega);unfold inI;omega)):p/\q:=⟨h,k⟩
theorem kjz0 {c0 p0 q:Prop} (k:q) (h:c0->p0/\True:=by intro g0;(try simp at g0);exact⟨(by first | omega | (simp;done) | (have:=QB s t k1;omega) | exact QeN ‹_› ‹_› | (have:=Zu s t 0 false k1;omega) | (have:=Zu s t 0 false k1;have:=QZ (s:=s) (p:=(Vt s t 0 false).2.2.p) (by omega);omega)   | (have:=QB s t k1;have:=QZ (s:=s) (p:=(sSp s t).p) (by omega);omega)   | (have b1:=QZ (s:=s) (p:=(sSp s t).p) (by omega);have b2:=QB s ⟨(sSp s t).p+1,(sSp s t).bad,(sSp s t).un⟩ (by show _+1<=_;omega);first | exact b2 | omega)   | (have b3:=Qbz s (sSp s ⟨(sSp s t).p+1,(sSp s t).bad,(sSp s t).un⟩) 0 false (by omega);unfold inI;omega)),trivial⟩):(c0->p0/\True)/\q:=⟨h,k⟩
theorem Qr4:Sat 140 c140i:=by
 have hD:Qa Qa7.D:=(Qa.cons Qcl QbV (Qa.cons Qms QlK (Qa.cons JO JJ (Qa.cons QqF Qpb (Qa.cons QgB Qf3 (Qa.cons QwO Qu6 (Qa.cons QwN Qu5 Qa.nil)))))))
 refine Qa7.sat hD (fn:=Tryz.f140) (by kernel_rfl) (by kernel_rfl) (by kernel_rfl) (by decide) fun svs b K hP=>?_
 unfold c140i at hP
 split at hP
 rename_i s p bad un ps
 obtain⟨h01,h02,hk⟩:=hP
 have L14:∀(mm:Nat) (sg:Int) (n k:Nat) (u:Bool) (t:RS),4-k=mm->t.p<=s.length+1/\k<=4/\n<=100000/\(sg=1\/sg = -1)/\u=(t.un||Qh8 s t.p k)/\VG s ⟨p,bad,un⟩=((0,sg*n),t.unI (Qav s t.p||(decide (bat s t.p=111)&&decide (bat s (t.p+1)=102))))->Qa7.L K 14 (mkS 195 [(0,(.ptr 0 0)),(4,(.int .i64 sg)),(5,(.nat n)),(8,(.nat (t.p+k)))] [(0,.blk 46 [(.str s),(.nat t.p),(.bool t.bad),(.bool u),(.bool ps)])] 1):=by
  intro mm
  induction mm using zl with
  | _ mm ih=>
   intro sg n k u t hm hI
   obtain⟨k1,k2,k3,k4,k5,k6⟩:=hI
   refine Qa7.aL hD (((decide (t.p+k<s.length))=true->(t.p+4<=9223372036854775807)/\True)/\cond ((decide (t.p+k<s.length))&&(decide (t.p+k<t.p+4))) ((u=false->(t.p+k<s.length)/\True)/\(t.p+k+1<=9223372036854775807)/\(Qa7).L K 14 (mkS 195 [(0,(.ptr 0 0)),(4,(.int .i64 sg)),(5,(.nat n)),(8,(.nat (t.p+k+1)))] [(0,.blk 46 [(.str s),(.nat t.p),(.bool t.bad),(.bool (u||(decide (bat s (t.p+k)=92)))),(.bool ps)])] 1)) ((u=false->(s.length<=1000000)/\(t.p<=s.length+1)/\(2<=1000)/\True)/\(inI (sg*((n:Nat):Int)))/\K (.val (.tup [(.nat 0),(.int .i64 (sg*((n:Nat):Int)))])) (some (.blk 46 [(.str s),(.nat t.p),(.bool t.bad),(.bool (u||(Q5 s [111,102] t.p))),(.bool ps)])))) ?_
   refine kjz0 ?_
   refine Qb ?_ ?_<;>intro h1<;>try simp[-zd]at h1
   refine kjz0 (Zr ?_)
   exact ih _ (by omega) sg n (k+1) (u||decide (bat s (t.p+k)=92)) t rfl ⟨k1,by omega,k3,k4,by rw[k5,zY];rfl,k6⟩
   refine kjz2 (Zr ?_)
   have q:Qh8 s t.p k=Qav s t.p:=by
    rw[<-Qon]
    by_cases h4:k=4
    rw[h4]
    have:=QjK (s:=s) (p:=t.p) (k:=k) (by omega) (4-k)
    rw[<-this,show k+(4-k)=4 from by omega]
   refine QnY hk ?_ rfl rfl
   rw[k6,k5,q,show Q5 s [111,102] t.p=(decide (bat s t.p=111)&&decide (bat s (t.p+1)=102)) from by rw[Qbe s t.p 111 102 (by decide),Bool.decide_and];rfl]
   simp[RS.unI,zY]
 have L22:∀(mm:Nat) (sg:Int) (n:Nat) (t:RS),0=mm->t.p<=s.length+1/\n<=100000/\(sg=1\/sg = -1)/\VG s ⟨p,bad,un⟩=ZE s (sg*n) t->Qa7.C K 22 (mkS 195 [(0,(.ptr 0 0)),(4,(.int .i64 sg)),(5,(.nat n))] [(0,.blk 46 [(.str s),(.nat t.p),(.bool t.bad),(.bool t.un),(.bool ps)])] 1):=by
  intro mm
  induction mm using zl with
  | _ mm ih=>
   intro sg n t hm hI
   obtain⟨k1,k2,k3,k4⟩:=hI
   refine Qa7.aC hD (have a0:=Vt s (sSp s (RS.mk ((sSp s t).p+1) ((sSp s t).bad) ((sSp s t).un))) 0 false;have a1:Option SB:=some (.blk 46 [(.str s),(.nat (a0.2.2.p)),(.bool (a0.2.2.bad||(!a0.2.1))),(.bool (a0.2.2.un)),(.bool ps)]);have a2:=sg*((n:Nat):Int);have a3:=s.length<=1000000;a3/\(t.p<=s.length+1)/\a3/\((sSp s t).p<=s.length+1)/\cond ((!(decide (bat s ((sSp s t).p)=43)))&&(!(decide (bat s ((sSp s t).p)=45)))) ((inI a2)/\K (.val (.tup [(.int .i64 a2),(.nat 0)])) (some (.blk 46 [(.str s),(.nat ((sSp s t).p)),(.bool ((sSp s t).bad)),(.bool (((((sSp s t).un||((decide ((sSp s t).p=t.p))&&((Qr (bat s ((sSp s t).p)))||(decide (bat s ((sSp s t).p)=92)))))||(decide (bat s ((sSp s t).p)=111)))||(decide (bat s ((sSp s t).p)=79)))||((decide (48<=bat s ((sSp s t).p)))&&(decide (bat s ((sSp s t).p)<=57))))),(.bool ps)]))) (((sSp s t).p+1<=9223372036854775807)/\a3/\((sSp s t).p+1<=s.length+1)/\a3/\((sSp s (RS.mk ((sSp s t).p+1) ((sSp s t).bad) ((sSp s t).un))).p<=s.length+1)/\cond (decide (bat s ((sSp s t).p)=45)) ((inI (0-((a0.1:Nat):Int)))/\(inI a2)/\K (.val (.tup [(.int .i64 a2),(.int .i64 (0-((a0.1:Nat):Int)))])) a1) ((inI a2)/\K (.val (.tup [(.int .i64 a2),(.nat (a0.1))])) a1))) ?_
   refine Zr (Zr (Zr (Zr ?_)))
   refine Qb ?_ ?_<;>intro h1<;>try simp[-zd]at h1
   refine Zr ?_
   refine QnY hk ?_ rfl rfl
   rw[k4,Qex (by omega)]
   simp[RS.unI,zY,Qu]
   refine Zr (Zr (Zr (Zr (Zr ?_))))
   refine Qb ?_ ?_<;>intro h2<;>try simp[-zd]at h2
   refine Zr (Zr ?_)
   refine QnY hk ?_ rfl rfl
   rw[k4,Qbp (by omega),if_pos h2]
   cases hd:(Vt s (sSp s ⟨(sSp s t).p+1,(sSp s t).bad,(sSp s t).un⟩) 0 false).2.1<;>simp[RS.go,RS.no,hd]
   refine Zr ?_
   refine QnY hk ?_ rfl rfl
   rw[k4,Qbp (by omega),if_neg h2]
   cases hd:(Vt s (sSp s ⟨(sSp s t).p+1,(sSp s t).bad,(sSp s t).un⟩) 0 false).2.1<;>simp[RS.go,RS.no,hd]
 have L9:∀(mm:Nat) (sg:Int) (t:RS),0=mm->t.p<=s.length+1/\(sg=1\/sg = -1)/\VG s ⟨p,bad,un⟩=YT s sg t->Qa7.C K 9 (mkS 195 [(0,(.ptr 0 0)),(4,(.int .i64 sg))] [(0,.blk 46 [(.str s),(.nat t.p),(.bool t.bad),(.bool t.un),(.bool ps)])] 1):=by
  intro mm
  induction mm using zl with
  | _ mm ih=>
   intro sg t hm hI
   obtain⟨k1,k2,k3⟩:=hI
   refine Qa7.aC hD (have a0:=Vt s t 0 false;(s.length<=1000000)/\(t.p<=s.length+1)/\(s.length<=1000000)/\(a0.2.2.p<=s.length+1)/\cond ((!(decide (bat s (a0.2.2.p)=110)))&&(!(decide (bat s (a0.2.2.p)=78)))) ((Qa7).L K 14 (mkS 195 [(0,(.ptr 0 0)),(4,(.int .i64 sg)),(5,(.nat (a0.1))),(8,(.nat (a0.2.2.p)))] [(0,.blk 46 [(.str s),(.nat (a0.2.2.p)),(.bool (a0.2.2.bad||(!a0.2.1))),(.bool (a0.2.2.un)),(.bool ps)])] 1)) ((a0.2.2.p+1<=9223372036854775807)/\cond (!a0.2.1) ((Qa7).C K 22 (mkS 195 [(0,(.ptr 0 0)),(4,(.int .i64 sg)),(5,(.nat 1))] [(0,.blk 46 [(.str s),(.nat (a0.2.2.p+1)),(.bool (a0.2.2.bad)),(.bool (a0.2.2.un)),(.bool ps)])] 1)) ((Qa7).C K 22 (mkS 195 [(0,(.ptr 0 0)),(4,(.int .i64 sg)),(5,(.nat (a0.1)))] [(0,.blk 46 [(.str s),(.nat (a0.2.2.p+1)),(.bool (a0.2.2.bad)),(.bool (a0.2.2.un)),(.bool ps)])] 1)))) ?_
   refine Zr (Zr (Zr (Zr ?_)))
   refine Qb ?_ ?_<;>intro h1<;>try simp[-zd]at h1
   . exact L14 _ sg (Vt s t 0 false).1 0 (Vt s t 0 false).2.2.un ⟨(Vt s t 0 false).2.2.p,(Vt s t 0 false).2.2.bad || !(Vt s t 0 false).2.1,(Vt s t 0 false).2.2.un⟩ rfl ⟨Zu s t 0 false k1,by omega,Qbz s t 0 false (by omega),k2,by simp[Qh8],by
     rw[k3]
     unfold YT
     simp only
     rw[if_neg (by simp[isN];omega)]
     cases hd:(Vt s t 0 false).2.1<;>simp[RS.no,RS.unI]⟩
   refine Zr ?_
   refine Qb ?_ ?_<;>intro h2<;>try simp[-zd]at h2
   . exact L22 _ sg 1 ((Vt s t 0 false).2.2.go ((Vt s t 0 false).2.2.p+1)) rfl ⟨by have:=QZ (s:=s) (p:=(Vt s t 0 false).2.2.p) (by omega);simp only[RS.go_p];omega,by omega,k2,by
     rw[k3]
     unfold YT
     simp only
     rw[if_pos (by simp[isN];omega),h2,if_neg (by simp),show ((1:Nat):Int)=1 from rfl,Int.mul_one]⟩
   exact L22 _ sg (Vt s t 0 false).1 ((Vt s t 0 false).2.2.go ((Vt s t 0 false).2.2.p+1)) rfl ⟨by have:=QZ (s:=s) (p:=(Vt s t 0 false).2.2.p) (by omega);simp only[RS.go_p];omega,Qbz s t 0 false (by omega),k2,by
    rw[k3]
    unfold YT
    simp only
    rw[if_pos (by simp[isN];omega),h2,if_pos rfl]⟩
 refine Qa7.en (have a0:=s.length<=1000000;have a1:=p<=s.length+1;a0/\a1/\(3<=1000)/\cond (ZC s [111,100,100] p) (K (.val (.tup [(.nat 2),(.nat 1)])) (some (.blk 46 [(.str s),(.nat (p+3)),(.bool bad),(.bool un),(.bool ps)]))) (a0/\a1/\(4<=1000)/\cond (ZC s [101,118,101,110] p) (K (.val (.tup [(.nat 2),(.nat 0)])) (some (.blk 46 [(.str s),(.nat (p+4)),(.bool bad),(.bool un),(.bool ps)]))) (a0/\a1/\(1<=1000)/\cond (Q5 s [45] p) ((Qa7).C K 9 (mkS 195 [(0,(.ptr 0 0)),(4,(.int .i64 (-1)))] [(0,.blk 46 [(.str s),(.nat (p+1)),(.bool bad),(.bool un),(.bool ps)])] 1)) (a0/\a1/\(1<=1000)/\cond (Q5 s [43] p) ((Qa7).C K 9 (mkS 195 [(0,(.ptr 0 0)),(4,(.nat 1))] [(0,.blk 46 [(.str s),(.nat (p+1)),(.bool bad),(.bool un),(.bool ps)])] 1)) ((Qa7).C K 9 (mkS 195 [(0,(.ptr 0 0)),(4,(.nat 1))] [(0,.blk 46 [(.str s),(.nat p),(.bool bad),(.bool un),(.bool ps)])] 1)))))) ?_
 refine Zr (Zr (Zr ?_))
 refine Qb ?_ ?_<;>intro h1<;>try simp[-zd]at h1
 exact QnY hk (by unfold VG;rw[if_pos h1];rfl) rfl rfl
 refine Zr (Zr (Zr ?_))
 refine Qb ?_ ?_<;>intro h2<;>try simp[-zd]at h2
 exact QnY hk (by unfold VG;rw[if_neg (by rw[h1];simp),if_pos h2];rfl) rfl rfl
 refine Zr (Zr (Zr ?_))
 refine Qb ?_ ?_<;>intro h3<;>try simp[-zd]at h3
 exact L9 _ (-1) (RS.go ⟨p,bad,un⟩ (p+1)) rfl ⟨by have:=QW (h45t h3) (by decide);simp only[RS.go_p];omega,.inr rfl,by unfold VG;rw[if_neg (by rw[h1];simp),if_neg (by rw[h2];simp),if_pos (h45t h3)]⟩
 refine Zr (Zr (Zr ?_))
 refine Qb ?_ ?_<;>intro h4<;>try simp[-zd]at h4
 exact Wk.C.rn [0] (L9 _ 1 (RS.go ⟨p,bad,un⟩ (p+1)) rfl ⟨by have:=QW (h43t h4) (by decide);simp only[RS.go_p];omega,.inl rfl,by unfold VG;rw[if_neg (by rw[h1];simp),if_neg (by rw[h2];simp),if_neg (h45f h3),if_pos (h43t h4)]⟩)
 exact Wk.C.rn [0] (L9 _ 1 ⟨p,bad,un⟩ rfl ⟨h02,.inl rfl,by unfold VG;rw[if_neg (by rw[h1];simp),if_neg (by rw[h2];simp),if_neg (h45f h3),if_neg (h43f h4)]⟩)
 exact hP.elim
def c140 (svs:List SV) (b:Option SB):FR:=match svs,b with
 | [.ptr 0 0],some (.blk 46 [.str s,.nat p,.bool bad,.bool un,.bool ps])=>some ([s.length<=1000000,p<=s.length+1],.val (.tup [.int .i64 (VG s ⟨p,bad,un⟩).1.1,.int .i64 (VG s ⟨p,bad,un⟩).1.2]),
  some (.blk 46 [.str s,.nat (VG s ⟨p,bad,un⟩).2.p,.bool (VG s ⟨p,bad,un⟩).2.bad,.bool (VG s ⟨p,bad,un⟩).2.un,.bool ps]))
 | _,_=>none
theorem Qvc:Sat 140 (fnS c140):=by
 refine Sat.outW Qr4 fun svs b K h=>?_
 obtain⟨ps,o,b',e,hp,hk⟩:=Vy h
 unfold c140 at e
 split at e
 cases e
 exact⟨hp.1,hp.2.1,fun x y hx hy=>⟨_,_,rfl,rfl,QoH hx hy,hk⟩⟩
 cases e
end
section
open Go Go.RowKit
set_option maxRecDepth 20000
def p6 (n:Bs):Prop:=n≠[102,105,114,115,116,45,99,104,105,108,100]/\n≠[108,97,115,116,45,99,104,105,108,100]/\n≠[102,105,114,115,116,45,111,102,45,116,121,112,101]/\n≠[108,97,115,116,45,111,102,45,116,121,112,101]/\n≠[111,110,108,121,45,99,104,105,108,100]/\n≠[111,110,108,121,45,111,102,45,116,121,112,101]
def Ue:List Bs:=[[101,109,112,116,121],[114,111,111,116],[105,110,112,117,116],[108,105,110,107],[101,110,97,98,108,101,100],[100,105,115,97,98,108,101,100],[99,104,101,99,107,101,100]]
theorem QnQ {n:Bs} {i:Nat} (h:i<7) (e:Ue.getD i []=n):Yx n=some (VJ ((8+i:Nat):Int)):=by
 subst e
 obtain rfl | rfl | rfl | rfl | rfl | rfl | rfl:i=0\/i=1\/i=2\/i=3\/i=4\/i=5\/i=6:=by omega
 all_goals kernel_rfl
theorem QnP {n:Bs} (h6:p6 n) (h:∀j,j<7->¬Ue.getD j []=n):Yx n=none:=by
 obtain⟨a1,a2,a3,a4,a5,a6⟩:=h6
 unfold Yx
 rw[if_neg a1,if_neg a2,if_neg a3,if_neg a4,if_neg a5,if_neg a6,if_neg (fun e=>h 0 (by omega) e.symm),if_neg (fun e=>h 1 (by omega) e.symm),if_neg (fun e=>h 2 (by omega) e.symm),if_neg (fun e=>h 3 (by omega) e.symm),
  if_neg (fun e=>h 4 (by omega) e.symm),if_neg (fun e=>h 5 (by omega) e.symm),if_neg (fun e=>h 6 (by omega) e.symm)]
def c124i:Spec:=fun svs b K=>match svs,b with
 | [.str n],none=>Qt (Yx n) (fun x=>∀a,Qdf a=some x->K (.val (.tup [a,.bool true])) none) (∀a,Qdf a=some default->K (.val (.tup [a,.bool false])) none)
 | _,_=>False
noncomputable def Qlq:Wk:=⟨[],Qe Tryz.f124,false,false,[.cell 2 33,.tmp 3],[33,4],[(17,117)],[]⟩
theorem Qw6:Has 124:=hsf Tryz.f124
theorem Qjg {p q:Prop} (k:q) (h:p:=by first | omega | (simp;done) | (simp;omega)):p/\q:=⟨h,k⟩
theorem Qr8:Sat 124 c124i:=by
 have hD:Qa Qlq.D:=Qa.nil
 refine Qlq.sat hD (fn:=Tryz.f124) (by kernel_rfl) (by kernel_rfl) (by kernel_rfl) (by decide) fun svs b K hP=>?_
 unfold c124i at hP
 split at hP
 rename_i n
 have hk:=hP
 have L17:∀(mm:Nat) (i:Nat),7-i=mm->(i<=7/\p6 n/\∀j,j<i->¬Ue.getD j []=n)->Qlq.L K 17 (mkS 46 [(0,(.str n)),(2,(.ptr 1 0)),(4,(.own 2)),(5,(.own 3)),(6,(.nat i))] [(3,.row (.ints [8,9,10,11,12,13,14]) true),(2,.row (.strs Ue) true),(1,.blk 33 [(.nat 0),(.nat 0),(.str []),(.str []),(.nat 0),(.nat 0),(.nat 0),(.nat 0)])] 4):=by
  intro mm
  induction mm using zl with
  | _ mm ih=>
   intro i hm hI
   obtain⟨k1,k2,k3⟩:=hI
   have q7:Ue.length=7:=rfl
   refine Qlq.aL hD (cond (decide (i<Ue.length)) ((i<Ue.length)/\(i<Ue.length)/\cond (decide (Ue.getD i []=n)) ((i<7)/\(i<7)/\K (.val (.tup [(.agg [(.nat (([8,9,10,11,12,13,14]:List Nat).getD i 0)),(.nat 0),(.str []),(.str []),(.nat 0),(.nat 0),(.nat 0),(.nat 0)]),(.bool true)])) none) ((i+1<=9223372036854775807)/\(Qlq).L K 17 (mkS 46 [(0,(.str n)),(2,(.ptr 1 0)),(4,(.own 2)),(5,(.own 3)),(6,(.nat (i+1)))] [(3,.row (.ints [8,9,10,11,12,13,14]) true),(2,.row (.strs Ue) true),(1,.blk 33 [(.nat 0),(.nat 0),(.str []),(.str []),(.nat 0),(.nat 0),(.nat 0),(.nat 0)])] 4))) (K (.val (.tup [(.agg [(.nat 0),(.nat 0),(.str []),(.str []),(.nat 0),(.nat 0),(.nat 0),(.nat 0)]),(.bool false)])) none)) ?_
   refine Qb ?_ ?_<;>intro h1<;>try simp[-zd]at h1
   refine Qjg (Qjg ?_)
   refine Qb ?_ ?_<;>intro h2<;>try simp[-zd]at h2
   . refine Qjg (Qjg ?_)
     have e:=QnQ (by omega) h2
     rw[e]at hk
     refine hk _ ?_
     obtain rfl | rfl | rfl | rfl | rfl | rfl | rfl:i=0\/i=1\/i=2\/i=3\/i=4\/i=5\/i=6:=by omega
     all_goals rfl
   refine Qjg ?_
   exact ih _ (by omega) (i+1) rfl ⟨by omega,k2,fun j hj=>by
    by_cases e:j=i
    rw[e];exact h2
    exact k3 j (by omega)⟩
   rw[QnP k2 (fun j hj=>k3 j (by omega))]at hk
   exact hk _ rfl
 refine Qlq.en (cond (decide (n=[102,105,114,115,116,45,99,104,105,108,100])) (K (.val (.tup [(.agg [(.nat 6),(.nat 0),(.str []),(.str []),(.nat 0),(.nat 1),(.nat 0),(.nat 0)]),(.bool true)])) none) (cond (decide (n=[108,97,115,116,45,99,104,105,108,100])) (K (.val (.tup [(.agg [(.nat 6),(.nat 0),(.str []),(.str []),(.nat 0),(.nat 1),(.nat 1),(.nat 0)]),(.bool true)])) none) (cond (decide (n=[102,105,114,115,116,45,111,102,45,116,121,112,101])) (K (.val (.tup [(.agg [(.nat 6),(.nat 0),(.str []),(.str []),(.nat 0),(.nat 1),(.nat 2),(.nat 0)]),(.bool true)])) none) (cond (decide (n=[108,97,115,116,45,111,102,45,116,121,112,101])) (K (.val (.tup [(.agg [(.nat 6),(.nat 0),(.str []),(.str []),(.nat 0),(.nat 1),(.nat 3),(.nat 0)]),(.bool true)])) none) (cond (decide (n=[111,110,108,121,45,99,104,105,108,100])) (K (.val (.tup [(.agg [(.nat 7),(.nat 0),(.str []),(.str []),(.nat 0),(.nat 0),(.nat 0),(.nat 0)]),(.bool true)])) none) (cond (decide (n=[111,110,108,121,45,111,102,45,116,121,112,101])) (K (.val (.tup [(.agg [(.nat 7),(.nat 0),(.str []),(.str []),(.nat 0),(.nat 0),(.nat 2),(.nat 0)]),(.bool true)])) none) ((Qlq).L K 17 (mkS 46 [(0,(.str n)),(2,(.ptr 1 0)),(4,(.own 2)),(5,(.own 3)),(6,(.nat 0))] [(3,.row (.ints [8,9,10,11,12,13,14]) true),(2,.row (.strs [[101,109,112,116,121],[114,111,111,116],[105,110,112,117,116],[108,105,110,107],[101,110,97,98,108,101,100],[100,105,115,97,98,108,101,100],[99,104,101,99,107,101,100]]) true),(1,.blk 33 [(.nat 0),(.nat 0),(.str []),(.str []),(.nat 0),(.nat 0),(.nat 0),(.nat 0)])] 4)))))))) ?_
 refine Qb ?_ ?_<;>intro h1<;>try simp[-zd]at h1
 have e:Yx n=some ⟨6,0,[],[],0,1,0,0⟩:=by subst h1;kernel_rfl
 rw[e]at hk
 exact hk _ rfl
 refine Qb (fun h2=>?_) (fun h2=>?_)
 try simp[-zd]at h2
 have e:Yx n=some ⟨6,0,[],[],0,1,1,0⟩:=by subst h2;kernel_rfl
 rw[e]at hk
 exact hk _ rfl
 try simp[-zd]at h2
 refine Qb ?_ ?_<;>intro h3<;>try simp[-zd]at h3
 have e:Yx n=some ⟨6,0,[],[],0,1,2,0⟩:=by subst h3;kernel_rfl
 rw[e]at hk
 exact hk _ rfl
 refine Qb (fun h4=>?_) (fun h4=>?_)
 try simp[-zd]at h4
 have e:Yx n=some ⟨6,0,[],[],0,1,3,0⟩:=by subst h4;kernel_rfl
 rw[e]at hk
 exact hk _ rfl
 try simp[-zd]at h4
 refine Qb ?_ ?_<;>intro h5<;>try simp[-zd]at h5
 have e:Yx n=some ⟨7,0,[],[],0,0,0,0⟩:=by subst h5;kernel_rfl
 rw[e]at hk
 exact hk _ rfl
 refine Qb (fun h6=>?_) (fun h6=>?_)
 try simp[-zd]at h6
 have e:Yx n=some ⟨7,0,[],[],0,0,2,0⟩:=by subst h6;kernel_rfl
 rw[e]at hk
 exact hk _ rfl
 try simp[-zd]at h6
 exact L17 _ 0 rfl ⟨by omega,⟨h1,h2,h3,h4,h5,h6⟩,fun j hj=>by omega⟩
 exact hP.elim
def c125 (svs:List SV) (b:Option SB):QR:=match svs,b with
 | [.str n],none=>some ([],.bool (decide (n∈VD)))
 | _,_=>none
noncomputable def Qlp:Wk:=⟨[],Qe Tryz.f125,false,false,[.tmp 2],[4],[(3,25)],[]⟩
theorem Qw5:Has 125:=hsf Tryz.f125
theorem Qvn:Sat 125 (Qz c125):=by
 have hD:Qa Qlp.D:=Qa.nil
 refine Qlp.sat hD (fn:=Tryz.f125) (by kernel_rfl) (by kernel_rfl) (by kernel_rfl) (by decide) fun svs b K hP=>?_
 obtain⟨ps,v,e,hp,hk⟩:=Qh hP
 unfold c125 at e
 split at e
 rename_i n
 cases e
 have L3:∀(mm:Nat) (i:Nat),VD.length-i=mm->(i<=VD.length/\∀j,j<i->¬VD.getD j []=n)->Qlp.L K 3 (mkS 18 [(0,(.str n)),(3,(.own 1)),(4,(.nat i))] [(1,.row (.strs VD) true)] 2):=by
  intro mm
  induction mm using zl with
  | _ mm ih=>
   intro i hm hI
   obtain⟨k1,k2⟩:=hI
   have q7:VD.length=66:=rfl
   refine Qlp.aL hD (cond (decide (i<VD.length)) ((i<VD.length)/\(i<VD.length)/\cond (decide (VD.getD i []=n)) (K (.val (.bool true)) none) ((i+1<=9223372036854775807)/\(Qlp).L K 3 (mkS 18 [(0,(.str n)),(3,(.own 1)),(4,(.nat (i+1)))] [(1,.row (.strs VD) true)] 2))) (K (.val (.bool false)) none)) ?_
   refine Qb ?_ ?_<;>intro h1<;>try simp[-zd]at h1
   refine Qjg (Qjg ?_)
   refine Qb ?_ ?_<;>intro h2<;>try simp[-zd]at h2
   rw[decide_eq_true (show n∈VD from by rw[<-h2,zd,zg h1];exact List.getElem_mem h1)]at hk
   exact hk
   refine Qjg ?_
   exact ih _ (by omega) (i+1) rfl ⟨by omega,fun j hj=>by
    by_cases e:j=i
    rw[e];exact h2
    exact k2 j (by omega)⟩
   rw[decide_eq_false (show ¬n∈VD from fun hm=>by
    obtain⟨j,hj,e⟩:=List.mem_iff_getElem.1 hm
    exact k2 j (by omega) (by rw[zd,zg hj];exact e))]at hk
   exact hk
 refine Qlp.en ((Qlp).L K 3 (mkS 18 [(0,(.str n)),(3,(.own 1)),(4,(.nat 0))] [(1,.row (.strs [[118,105,115,105,116,101,100],[104,111,118,101,114],[97,99,116,105,118,101],[102,111,99,117,115],[116,97,114,103,101,116],[109,97,116,99,104,101,115],[109,97,116,99,104,101,115,111,119,110],[105,115],[119,104,101,114,101],[115,99,111,112,101],[102,105,114,115,116,45,108,105,110,101],[102,105,114,115,116,45,108,101,116,116,101,114],[98,101,102,111,114,101],[97,102,116,101,114],[97,110,121,45,108,105,110,107],[102,111,99,117,115,45,119,105,116,104,105,110],[102,111,99,117,115,45,118,105,115,105,98,108,101],[114,101,113,117,105,114,101,100],[111,112,116,105,111,110,97,108],[114,101,97,100,45,111,110,108,121],[114,101,97,100,45,119,114,105,116,101],[100,101,102,97,117,108,116],[118,97,108,105,100],[105,110,118,97,108,105,100],[105,110,100,101,116,101,114,109,105,110,97,116,101],[100,101,102,105,110,101,100],[102,117,108,108,115,99,114,101,101,110],[104,111,115,116],[108,111,99,97,108,45,108,105,110,107],[99,117,114,114,101,110,116],[112,97,115,116],[102,117,116,117,114,101],[100,105,114],[110,116,104,45,99,111,108],[110,116,104,45,108,97,115,116,45,99,111,108],[112,108,97,99,101,104,111,108,100,101,114,45,115,104,111,119,110],[105,110,45,114,97,110,103,101],[111,117,116,45,111,102,45,114,97,110,103,101],[112,97,114,101,110,116],[98,97,99,107,100,114,111,112],[99,117,101],[103,114,97,109,109,97,114,45,101,114,114,111,114],[109,97,114,107,101,114],[112,108,97,99,101,104,111,108,100,101,114],[115,101,108,101,99,116,105,111,110],[115,112,101,108,108,105,110,103,45,101,114,114,111,114],[104,101,97,100,101,114],[98,117,116,116,111,110],[99,104,101,99,107,98,111,120],[114,97,100,105,111],[115,117,98,109,105,116],[116,101,120,116],[105,109,97,103,101],[102,105,108,101],[112,97,115,115,119,111,114,100],[114,101,115,101,116],[115,101,108,101,99,116,101,100],[104,105,100,100,101,110],[118,105,115,105,98,108,101],[102,105,114,115,116],[108,97,115,116],[101,118,101,110],[111,100,100],[101,113],[103,116],[108,116]]) true)] 2)) ?_
 exact L3 _ 0 rfl ⟨by omega,fun j hj=>by omega⟩
 cases e
def c126i:Spec:=fun svs b K=>match svs,b with
 | [.str n],none=>∀a,toI a=some (QH n)->K (.val a) none
 | _,_=>False
noncomputable def W126:Wk:=⟨[],Qe Tryz.f126,false,false,[.tmp 2],[3],[],[]⟩
theorem Qw4:Has 126:=hsf Tryz.f126
theorem Qr7:Sat 126 c126i:=by
 have hD:Qa W126.D:=Qa.nil
 refine W126.sat hD (fn:=Tryz.f126) (by kernel_rfl) (by kernel_rfl) (by kernel_rfl) (by decide) fun svs b K hP=>?_
 unfold c126i at hP
 split at hP
 rename_i n
 have hk:=hP
 refine W126.en (cond (decide (n=[110,116,104,45,99,104,105,108,100])) (K (.val (.nat 0)) none) (cond (decide (n=[110,116,104,45,108,97,115,116,45,99,104,105,108,100])) (K (.val (.nat 1)) none) (cond (decide (n=[110,116,104,45,111,102,45,116,121,112,101])) (K (.val (.nat 2)) none) (cond (decide (n=[110,116,104,45,108,97,115,116,45,111,102,45,116,121,112,101])) (K (.val (.nat 3)) none) (K (.val (.int .i64 (-1))) none))))) ?_
 refine Qb ?_ ?_<;>intro h1<;>try simp[-zd]at h1
 have e:QH n=0:=by subst h1;kernel_rfl
 rw[e]at hk
 exact hk _ rfl
 refine Qb (fun h2=>?_) (fun h2=>?_)
 try simp[-zd]at h2
 have e:QH n=1:=by subst h2;kernel_rfl
 rw[e]at hk
 exact hk _ rfl
 try simp[-zd]at h2
 refine Qb ?_ ?_<;>intro h3<;>try simp[-zd]at h3
 have e:QH n=2:=by subst h3;kernel_rfl
 rw[e]at hk
 exact hk _ rfl
 refine Qb (fun h4=>?_) (fun h4=>?_)
 try simp[-zd]at h4
 have e:QH n=3:=by subst h4;kernel_rfl
 rw[e]at hk
 exact hk _ rfl
 try simp[-zd]at h4
 have e:QH n = -1:=by unfold QH VE QM VK QL;rw[if_neg h1,if_neg h2,if_neg h3,if_neg h4]
 rw[e]at hk
 exact hk _ rfl
 exact hP.elim
def c126 (svs:List SV) (b:Option SB):QR:=match svs,b with
 | [.str n],none=>some ([],.int .i64 (QH n))
 | _,_=>none
theorem Qvm:Sat 126 (Qz c126):=by
 refine Sat.outW Qr7 fun svs b K h=>?_
 obtain⟨ps,v,e,hp,hk⟩:=Qh h
 unfold c126 at e
 split at e
 cases e
 exact fun a ha=>⟨_,_,rfl,rfl,fun ω v=>YS ha,hk⟩
 cases e
theorem Qiu {x:SV} {y:SelD} {b:Bool} (hx:Qdf x=some y) (ω:Wit) (v:Value) (h:Rel ω (.tup [x,.bool b]) v):Rel ω (.tup [.agg (Yl y),.bool b]) v:=by
 cases h with
 | tup _ vs hn hh=>
  refine .tup _ vs hn fun i s v e1 e2=>?_
  match i,e1 with
  | 0,e1=>cases e1;exact Qcz hx (hh 0 x v rfl e2)
  | 1,e1=>cases e1;exact hh 1 _ v rfl e2
def c124:Spec:=fun svs b K=>match svs,b with
 | [.str n],none=>Qt (Yx n) (fun x=>K (.val (.tup [.agg (Yl x),.bool true])) none) (K (.val (.tup [.agg (Yl default),.bool false])) none)
 | _,_=>False
theorem Qvo:Sat 124 c124:=by
 refine Sat.outW Qr8 fun svs b K h=>?_
 unfold c124 at h
 split at h
 rename_i n
 show Qt (Yx n) _ _
 cases hs:Yx n with
 | none=>rw[hs]at h;exact fun a ha=>⟨_,_,rfl,rfl,Qiu ha,h⟩
 | some x=>rw[hs]at h;exact fun a ha=>⟨_,_,rfl,rfl,Qiu ha,h⟩
 exact h.elim
end
section
open Go Go.RowKit
set_option maxRecDepth 20000
def Up (s:Bs) (t t':RS):Prop:=t.p<=t'.p/\t'.p<=s.length+1
theorem Up.refl {s:Bs} {t:RS} (h:t.p<=s.length+1):Up s t t:=⟨zm _,h⟩
theorem Up.trans {s:Bs} {a b c:RS} (h:Up s a b) (k:Up s b c):Up s a c:=⟨Nat.le_trans h.1 k.1,k.2⟩
theorem Up.of {s:Bs} {a b a' b':RS} (h:Up s a b) (e:a'.p<=a.p) (e':b'.p=b.p):Up s a' b':=⟨by have:=h.1;omega,by rw[e'];exact h.2⟩
theorem QF (s:Bs) (t:RS) (h:t.p<=s.length+1):Up s t (sSp s t):=⟨QcF s t,QB s t h⟩
theorem QbX (s:Bs) (t:RS) (acc:Bs):t.p<=(VZ s t acc).2.p:=by
 fun_induction VZ s t acc with
 | case1 t acc h1 h2 ih=>simp only[RS.go_p]at ih;omega
 | case2 t acc h1 h2 h3 ih=>have:=UF s t;omega
 | case3=>exact zm _
 | case4=>exact zm _
theorem Ve (s:Bs) (t:RS) (h:t.p<=s.length+1):Up s t (Qg s t).2:=by
 refine⟨?_,Z9 s t h⟩
 unfold Qg
 split
 exact QbX s (t.unI _) _
 exact zm _
theorem Qps (s:Bs) (t:RS) (h:t.p<=s.length+1):Up s t (Zl s t).2:=by
 refine⟨?_,Qpu s t h⟩
 unfold Zl
 repeat' split
 all_goals first | exact QbX s (t.unI _) _ | exact zm _
theorem Qnn (s:Bs) (q:Nat) (t:RS) (acc:Bs):t.p<=(Vv s q t acc).2.p:=by
 fun_induction Vv s q t acc with
 | case1=>simp only[RS.go_p];omega
 | case2=>exact zm _
 | case3 t acc h1 h2 h3 h4 ih=>simp only[RS.go_p]at ih;omega
 | case4 t acc h1 h2 h3 h4 h5 ih=>have:=UF s t;omega
 | case5 t acc h1 h2 h3 h4 h5 ih=>
  refine Nat.le_trans ?_ ih
  simp only[RS.go_p]
  split<;>omega
 | case6=>exact zm _
theorem JA (s:Bs) (t:RS) (h:t.p<=s.length+1):Up s t (Qs s t).2:=by
 refine⟨?_,Ju s t h⟩
 unfold Qs
 split
 have:=Qnn s (bat s t.p) (t.go (t.p+1)) []
 unfold Z5
 simp only[RS.go_p]at this
 omega
 exact (Ve s (t.unI _) h).1
theorem Qb0 (s:Bs) {c:Nat} (hc:c≠0) (x:SelD) (k:List SelD) (t:RS) (h:t.p<=s.length+1):Up s t (ZZ s c x k t).2:=by
 unfold ZZ
 split
 rename_i e
 have:=QW e hc
 exact⟨Nat.le_succ _,by simp only[RS.go_p];omega⟩
 exact Up.refl h
theorem QdQ (s:Bs) (c:Nat) (x:SelD) (k:List SelD) (t:RS):(ZZ s c x k t).1.length<=k.length+1:=by
 unfold ZZ
 split
 simp[Qi,Ql]
 simp[failL]
theorem QiM (s:Bs) (t:RS) (h:t.p<=s.length+1):Up s t (Zy s t).2/\(Zy s t).1.length<=1:=by
 have u1:=QF s t h
 have u2:=u1.trans (Ve s _ u1.2)
 have u3:=u2.trans (QF s _ u2.2)
 unfold Zy
 simp only
 split
 exact⟨u3,by simp[failL]⟩
 split
 rename_i e
 have:=QW e (by decide)
 exact⟨⟨by have:=u3.1;simp only[RS.go_p];omega,by simp only[RS.go_p];omega⟩,by simp[Qi,Ql]⟩
 unfold Y0
 split
 exact⟨u3,by simp[failL]⟩
 rename_i hs
 have hg:(sSp s (Qg s (sSp s t)).2).p+(V6 s (sSp s (Qg s (sSp s t)).2).p).2<=s.length+1:=by
  generalize sSp s (Qg s (sSp s t)).2=w at hs ⊢
  unfold V6 at hs ⊢
  split
  rename_i e;have:=QW e (by decide);simp only;omega
  rename_i e0
  rw[if_neg e0]at hs
  split
  . rename_i e
    have:=QW e (by decide)
    repeat' split
    all_goals (simp only;omega)
  rename_i e;rw[if_neg e]at hs;exact absurd rfl hs
 have v0:Up s t ((sSp s (Qg s (sSp s t)).2).go ((sSp s (Qg s (sSp s t)).2).p+(V6 s (sSp s (Qg s (sSp s t)).2).p).2)):=⟨by have:=u3.1;simp only[RS.go_p];omega,hg⟩
 have v1:=v0.trans (QF s _ v0.2)
 have v2:=v1.trans (JA s _ v1.2)
 have v3:=v2.trans (QF s _ v2.2)
 unfold Zb
 split
 rename_i e
 have hl:(sSp s (Qs s (sSp s ((sSp s (Qg s (sSp s t)).2).go ((sSp s (Qg s (sSp s t)).2).p+(V6 s (sSp s (Qg s (sSp s t)).2).p).2)))).2).p<s.length:=by
  rcases e.2 with e | e<;>exact QW e (by decide)
 have w0:Up s t ((sSp s (Qs s (sSp s ((sSp s (Qg s (sSp s t)).2).go ((sSp s (Qg s (sSp s t)).2).p+(V6 s (sSp s (Qg s (sSp s t)).2).p).2)))).2).go ((sSp s (Qs s (sSp s ((sSp s (Qg s (sSp s t)).2).go ((sSp s (Qg s (sSp s t)).2).p+(V6 s (sSp s (Qg s (sSp s t)).2).p).2)))).2).p+1)):=
  ⟨by have:=v3.1;simp only[RS.go_p];omega,by simp only[RS.go_p];omega⟩
 have w1:=w0.trans (QF s _ w0.2)
 exact⟨w1.trans (Qb0 s (by decide) _ _ _ w1.2),QdQ s _ _ _ _⟩
 exact⟨v3.trans (Up.of (Qb0 s (by decide) _ _ (RS.unI _ _) (by simp only[RS.unI_p];exact v3.2)) (zm _) rfl),QdQ s _ _ _ _⟩
theorem Qtk (s:Bs) (t:RS) (n:Nat) (b:Bool):t.p<=(Vt s t n b).2.2.p:=by
 fun_induction Vt s t n b with
 | case1 t n b h1 ih=>simp only[RS.go_p]at ih;omega
 | case2=>exact zm _
theorem QmL (s:Bs) (t:RS) (n:Nat) (b:Bool) (h:t.p<=s.length+1):Up s t (Vt s t n b).2.2:=⟨Qtk s t n b,Zu s t n b h⟩
theorem Qke (s:Bs) (a:Int) (t:RS) (h:t.p<=s.length+1):Up s t (ZE s a t).2:=by
 have u1:=QF s t h
 by_cases hc:bat s (sSp s t).p=43\/bat s (sSp s t).p=45
 rw[Qbp hc]
 have hl:(sSp s t).p<s.length:=by rcases hc with e | e<;>exact QW e (by decide)
 have u2:Up s t ((sSp s t).go ((sSp s t).p+1)):=⟨by have:=u1.1;simp only[RS.go_p];omega,by simp only[RS.go_p];omega⟩
 have u3:=u2.trans (QF s _ u2.2)
 have u4:=u3.trans (QmL s _ 0 false u3.2)
 simp only
 split
 exact u4
 exact Up.of u4 (zm _) rfl
 rw[Qex hc]
 exact Up.of u1 (zm _) rfl
theorem Qbq (s:Bs) (sg:Int) (t:RS) (h:t.p<=s.length+1):Up s t (YT s sg t).2:=by
 have u1:=QmL s t 0 false h
 unfold YT
 simp only
 split
 rename_i e
 have hl:(Vt s t 0 false).2.2.p<s.length:=QZ (by intro e0;rw[e0]at e;cases e)
 have u2:Up s t ((Vt s t 0 false).2.2.go ((Vt s t 0 false).2.2.p+1)):=⟨by have:=u1.1;simp only[RS.go_p];omega,by simp only[RS.go_p];omega⟩
 exact u2.trans (Qke s _ _ u2.2)
 split
 exact Up.of u1 (zm _) rfl
 exact Up.of u1 (zm _) rfl
theorem Qis {s w:Bs} {i:Nat} (h:ZC s w i=true):i+w.length<=s.length:=by
 unfold ZC at h
 simp only[zk,decide_eq_true_eq]at h
 exact h.1.1
theorem QaH (s:Bs) (t:RS) (h:t.p<=s.length+1):Up s t (VG s t).2:=by
 unfold VG
 split
 rename_i e;have:=Qis e;simp at this;exact⟨by simp only[RS.go_p];omega,by simp only[RS.go_p];omega⟩
 split
 rename_i e;have:=Qis e;simp at this;exact⟨by simp only[RS.go_p];omega,by simp only[RS.go_p];omega⟩
 split
 rename_i e
 have:=QW e (by decide)
 have u:Up s t (t.go (t.p+1)):=⟨by simp only[RS.go_p];omega,by simp only[RS.go_p];omega⟩
 exact u.trans (Qbq s _ _ u.2)
 split
 rename_i e
 have:=QW e (by decide)
 have u:Up s t (t.go (t.p+1)):=⟨by simp only[RS.go_p];omega,by simp only[RS.go_p];omega⟩
 exact u.trans (Qbq s _ _ u.2)
 exact Qbq s _ _ h
def GB (s:Bs) (c:Nat) (G:RS->List SelD×RS):Prop:=
 ∀t,t.p<=s.length+1->Up s t (G t).2/\(G t).1.length+c*t.p<=c*(G t).2.p+6
theorem QvG {s:Bs} {c:Nat} {G:RS->List SelD×RS} (hG:GB s c G) (kind flag:Int) (t:RS) (h:t.p<=s.length+1) :
 Up s t (V3 G s kind flag t).2/\(V3 G s kind flag t).1.length+c*t.p<=c*(V3 G s kind flag t).2.p+7:=by
 have u1:=QF s t h
 have fin:∀(x:SelD) (w:RS),Up s t w->Up s t (ZZ s 41 x [] w).2/\(ZZ s 41 x [] w).1.length+c*t.p<=c*(ZZ s 41 x [] w).2.p+7:=by
  intro x w hw
  have a:=hw.trans (Qb0 s (c:=41) (by decide) x [] w hw.2)
  refine⟨a,?_⟩
  have b:=QdQ s 41 x [] w
  have d:=zz c a.1
  simp only[zo]at b
  omega
 have bad:∀(w:RS),Up s t w->Up s t (failL,w.no).2/\(failL,w.no).1.length+c*t.p<=c*(failL,w.no).2.p+7:=by
  intro w hw
  have d:=zz c hw.1
  refine⟨Up.of hw (zm _) rfl,?_⟩
  simp only[failL,zF,RS.no_p]
  omega
 unfold V3
 simp only
 split
 have u2:=u1.trans (QaH s _ u1.2)
 have u3:=u2.trans (QF s _ u2.2)
 split
 exact bad _ u3
 exact fin _ _ u3
 split
 have g:=hG ((sSp s t).unI (decide (bat s (sSp s t).p=62)||decide (bat s (sSp s t).p=43)||decide (bat s (sSp s t).p=126))) (by simp only[RS.unI_p];exact u1.2)
 have u2:Up s t (G ((sSp s t).unI (decide (bat s (sSp s t).p=62)||decide (bat s (sSp s t).p=43)||decide (bat s (sSp s t).p=126)))).2:=u1.trans (Up.of g.1 (zm _) rfl)
 split
 exact bad _ u2
 have a:=u2.trans (Qb0 s (c:=41) (by decide) (VJ kind) (G ((sSp s t).unI (decide (bat s (sSp s t).p=62)||decide (bat s (sSp s t).p=43)||decide (bat s (sSp s t).p=126)))).1 _ u2.2)
 refine⟨a,?_⟩
 have b:=QdQ s 41 (VJ kind) (G ((sSp s t).unI (decide (bat s (sSp s t).p=62)||decide (bat s (sSp s t).p=43)||decide (bat s (sSp s t).p=126)))).1 (G ((sSp s t).unI (decide (bat s (sSp s t).p=62)||decide (bat s (sSp s t).p=43)||decide (bat s (sSp s t).p=126)))).2
 have d:=g.2
 have d1:=zz c u1.1
 have d2:=zz c (Qb0 s (c:=41) (by decide) (VJ kind) (G ((sSp s t).unI (decide (bat s (sSp s t).p=62)||decide (bat s (sSp s t).p=43)||decide (bat s (sSp s t).p=126)))).1 _ u2.2).1
 simp only[RS.unI_p]at d
 omega
 split
 have n0:=Ve s ((sSp s t).unI (isQ (bat s (sSp s t).p)||decide (bat s (sSp s t).p=42))) (by simp only[RS.unI_p];exact u1.2)
 have u2:=u1.trans (Up.of n0 (zm _) rfl)
 have n1:=QF s ((Qg s ((sSp s t).unI (isQ (bat s (sSp s t).p)||decide (bat s (sSp s t).p=42)))).2.unI (hiB (Qg s ((sSp s t).unI (isQ (bat s (sSp s t).p)||decide (bat s (sSp s t).p=42)))).1)) (by simp only[RS.unI_p];exact u2.2)
 have u3:=u2.trans (Up.of n1 (zm _) rfl)
 split
 exact bad _ (Up.of u3 (zm _) rfl)
 exact fin _ _ (Up.of u3 (zm _) rfl)
 have u2:=u1.trans (JA s _ u1.2)
 have n1:=QF s ((Qs s (sSp s t)).2.unI (hiB (Qs s (sSp s t)).1)) (by simp only[RS.unI_p];exact u2.2)
 have u3:=u2.trans (Up.of n1 (zm _) rfl)
 split
 exact bad _ u3
 exact fin _ _ u3
theorem Qnq {s:Bs} {c:Nat} (h8:8<=c) {G:RS->List SelD×RS} (hG:GB s c G) (t:RS) (h:t.p<=s.length+1) :
 Up s t (Q8 G s t).2/\(Q8 G s t).1.length+c*t.p<=c*(Q8 G s t).2.p+1:=by
 have u1:=Ve s t h
 have one:∀(l:List SelD) (w:RS),l.length<=1->Up s t w->Up s t (l,w).2/\(l,w).1.length+c*t.p<=c*(l,w).2.p+1:=by
  intro l w hl hw
  have d:=zz c hw.1
  exact⟨hw,by simp only;omega⟩
 unfold Q8
 simp only
 split
 exact one _ _ (by simp[failL]) (Up.of u1 (zm _) rfl)
 split
 split
 exact one _ _ (by simp[failL]) (Up.of u1 (zm _) rfl)
 exact one _ _ (by simp[Qi,Ql]) u1
 split
 exact one _ _ (by simp[failL]) (Up.of u1 (zm _) rfl)
 split
 exact one _ _ (by simp[failL]) (Up.of u1 (zm _) rfl)
 rename_i hne
 have e:bat s (Qg s t).2.p=40:=by
  apply Decidable.byContradiction
  intro e
  exact hne (.inr e)
 have hl:=QW e (by decide)
 have u2:Up s t ((Qg s t).2.go ((Qg s t).2.p+1)):=⟨by have:=u1.1;simp only[RS.go_p];omega,by simp only[RS.go_p];omega⟩
 have a:=QvG hG (VW (low (Qg s t).1)) (QH (low (Qg s t).1)) _ u2.2
 refine⟨u2.trans a.1,?_⟩
 have d:=a.2
 have d1:=zz c u1.1
 simp only[RS.go_p,xB,xk]at d
 omega
theorem Qpx (s:Bs) (t:RS) (h:t.p<=s.length+1):Up s t (Ja s t).2:=Up.of (Ve s t h) (zm _) rfl
theorem Zh {s:Bs} {c:Nat} (h8:8<=c) {G:RS->List SelD×RS} (hG:GB s c G) (t:RS) (h:t.p<s.length) :
 Up s t (Qo G s t).2/\t.p<(Qo G s t).2.p/\(Qo G s t).1.1.length+c*t.p<=c*(Qo G s t).2.p:=by
 have u1:Up s t (t.go (t.p+1)):=⟨by simp only[RS.go_p];omega,by simp only[RS.go_p];omega⟩
 have one:∀(l:List SelD) (n:Bs) (w:RS),l.length<=1->Up s (t.go (t.p+1)) w->Up s t ((l,n),w).2/\t.p<((l,n),w).2.p/\((l,n),w).1.1.length+c*t.p<=c*((l,n),w).2.p:=by
  intro l n w hl hw
  have d:=zz c hw.1
  have d0:=hw.1
  simp only[RS.go_p,xB,xk]at d d0
  exact⟨u1.trans hw,by simp only;omega,by simp only;omega⟩
 unfold Qo
 split
 exact one _ _ _ (by simp[Qi,Ql]) (Ve s _ u1.2)
 split
 exact one _ _ _ (by simp[Qi,Ql]) (Qps s _ u1.2)
 split
 exact one _ _ _ (QiM s _ u1.2).2 (QiM s _ u1.2).1
 split
 rename_i e
 have hl:=QW e (by decide)
 have u2:Up s (t.go (t.p+1)) (t.go (t.p+2)):=⟨by simp only[RS.go_p];omega,by simp only[RS.go_p];omega⟩
 exact one _ _ _ (by simp) (u2.trans (Qpx s _ u2.2))
 have a:=Qnq h8 hG (t.go (t.p+1)) u1.2
 have d:=a.2
 have d0:=a.1.1
 simp only[RS.go_p,xB,xk]at d d0
 exact⟨u1.trans a.1,by simp only;omega,by simp only;omega⟩
theorem Qez {s:Bs} {c:Nat} (h8:8<=c) {G:RS->List SelD×RS} (hG:GB s c G) (ps pseudo:Bool) (t:RS) (l:List SelD) (pe:Bs) (many:Nat) (h:t.p<=s.length+1) :
 Up s t (Vh G s ps pseudo t l pe many).2/\(Vh G s ps pseudo t l pe many).1.length+c*t.p<=c*(Vh G s ps pseudo t l pe many).2.p+l.length+1:=by
 have bad:∀(t w:RS) (l:List SelD),Up s t w->Up s t (failL,w).2/\(failL,w).1.length+c*t.p<=c*(failL,w).2.p+l.length+1:=by
  intro t w l hw
  have d:=zz c hw.1
  exact⟨hw,by simp only[failL,zF];omega⟩
 fun_induction Vh G s ps pseudo t l pe many with
 | case1 t l pe many h1 v hv hps=>exact bad _ _ _ (Up.of (Zh h8 hG t h1.2.1).1 (zm _) rfl)
 | case2 t l pe many h1 v hv hps hpe=>exact bad _ _ _ (Up.of (Zh h8 hG t h1.2.1).1 (zm _) rfl)
 | case3 t l pe many h1 v hv hps hpe hlt ih=>
  have a:Up s t v.2/\t.p<v.2.p/\v.1.1.length+c*t.p<=c*v.2.p:=Zh h8 hG t h1.2.1
  have b:=ih a.1.2
  exact⟨a.1.trans b.1,by have:=b.2;have:=a.2.2;have:=zz c a.1.1;omega⟩
 | case4 t l pe many h1 v hv hps hpe hlt=>exact bad _ _ _ (Up.of (Zh h8 hG t h1.2.1).1 (zm _) rfl)
 | case5 t l pe many h1 v hv hlt ih=>
  have a:Up s t v.2/\t.p<v.2.p/\v.1.1.length+c*t.p<=c*v.2.p:=Zh h8 hG t h1.2.1
  have b:=ih (by simp only[RS.unI_p];exact a.1.2)
  refine⟨a.1.trans (Up.of b.1 (zm _) rfl),?_⟩
  have b2:=b.2
  simp only[RS.unI_p,zh]at b2
  have:=a.2.2
  omega
 | case6 t l pe many h1 v hv hlt=>exact bad _ _ _ (Up.of (Zh h8 hG t h1.2.1).1 (zm _) rfl)
 | case7 t l pe h1 t1=>exact bad _ _ _ (Up.of (Up.refl h) (zm _) rfl)
 | case8 t l pe many h1 t1 hm=>
  refine⟨Up.of (Up.refl h) (zm _) rfl,?_⟩
  simp only[Qi,Ql,zj,t1,RS.unI_p]
  omega
theorem Qey {s:Bs} {c:Nat} (h8:8<=c) {G:RS->List SelD×RS} (hG:GB s c G) (ps pseudo:Bool) (t:RS) (h:t.p<=s.length+1) :
 Up s t (VB G s ps pseudo t).2/\(VB G s ps pseudo t).1.length+c*t.p<=c*(VB G s ps pseudo t).2.p+2:=by
 unfold VB
 split
 rename_i e
 have hl:=QW e (by decide)
 have u1:Up s t (t.go (t.p+1)):=⟨by simp only[RS.go_p];omega,by simp only[RS.go_p];omega⟩
 have a:=Qez h8 hG ps pseudo (t.go (t.p+1)) [] [] 1 u1.2
 have d:=a.2
 simp only[RS.go_p,xB,xk,zo]at d
 exact⟨u1.trans a.1,by omega⟩
 split
 have n:=Ve s (t.unI (VS s t.p)) (by simp only[RS.unI_p];exact h)
 have a:=Qez h8 hG ps pseudo (Qg s (t.unI (VS s t.p))).2 (Qi ⟨2,0,low (Qg s (t.unI (VS s t.p))).1,[],0,0,0,0⟩ []) [] 1 n.2
 have d:=a.2
 have d1:=zz c n.1
 have hl:(Qi ⟨2,0,low (Qg s (t.unI (VS s t.p))).1,[],0,0,0,0⟩ []).length=1:=rfl
 rw[hl]at d
 simp only[RS.unI_p]at d1
 exact⟨(Up.of n (zm _) rfl).trans a.1,by simp only;omega⟩
 have a:=Qez h8 hG ps pseudo (t.unI (VS s t.p)) [] [] 0 (by simp only[RS.unI_p];exact h)
 have d:=a.2
 simp only[RS.unI_p,zo]at d
 exact⟨Up.of a.1 (zm _) rfl,by omega⟩
theorem Qpz {s:Bs} {c:Nat} (h8:8<=c) {G:RS->List SelD×RS} (hG:GB s c G) (ps pseudo:Bool) (t:RS) (left:List SelD) (h:t.p<=s.length+1) :
 Up s t (VU G s ps pseudo t left).2/\(VU G s ps pseudo t left).1.length+(c+3)*t.p<=(c+3)*(VU G s ps pseudo t left).2.p+left.length+3:=by
 fun_induction VU G s ps pseudo t left with
 | case1 t left hb=>exact⟨Up.refl h,by simp only;omega⟩
 | case2 t left hb t1 cc h1=>
  have u:=QF s t h
  have d:=zz (c+3) u.1
  exact⟨u,by simp only[t1];omega⟩
 | case3 t left hb t1 cc t2 h1 he=>
  have u:Up s t t2:=by
   have u:=QF s t h
   simp only[t2]
   split
   rename_i e
   have hl:t1.p<s.length:=QZ (by intro e0;apply e;show Va (bat s t1.p)=0;rw[e0];rfl)
   have v:Up s t (t1.go (t1.p+1)):=⟨by have:=u.1;simp only[RS.go_p,t1];omega,by simp only[RS.go_p];omega⟩
   exact v.trans (QF s _ v.2)
   exact u
  have d:=zz (c+3) u.1
  exact⟨Up.of u (zm _) rfl,by simp only[failL,zF,RS.no_p,RS.unI_p];omega⟩
 | case4 t left hb t1 cc op t2 h1 he r hlt ih=>
  have u:Up s t t2:=by
   have u:=QF s t h
   simp only[t2]
   split
   rename_i e
   have hl:t1.p<s.length:=QZ (by intro e0;apply e;show Va (bat s t1.p)=0;rw[e0];rfl)
   have v:Up s t (t1.go (t1.p+1)):=⟨by have:=u.1;simp only[RS.go_p,t1];omega,by simp only[RS.go_p];omega⟩
   exact v.trans (QF s _ v.2)
   exact u
  have a:=Qey h8 hG ps pseudo t2 u.2
  have b:=ih (u.trans a.1).2
  refine⟨(u.trans a.1).trans b.1,?_⟩
  have b2:=b.2
  have a2:=a.2
  have d:=zz c u.1
  simp only[Qi,Ql,zj,zh,Nat.add_mul,r]at b2 a2 hlt ⊢
  omega
 | case5 t left hb t1 cc op t2 h1 he r hlt=>
  have u:Up s t t2:=by
   have u:=QF s t h
   simp only[t2]
   split
   rename_i e
   have hl:t1.p<s.length:=QZ (by intro e0;apply e;show Va (bat s t1.p)=0;rw[e0];rfl)
   have v:Up s t (t1.go (t1.p+1)):=⟨by have:=u.1;simp only[RS.go_p,t1];omega,by simp only[RS.go_p];omega⟩
   exact v.trans (QF s _ v.2)
   exact u
  have a:=Qey h8 hG ps pseudo t2 u.2
  refine⟨u.trans a.1,?_⟩
  have a2:=a.2
  have d:=zz c u.1
  have d1:=(u.trans a.1).1
  simp only[Qi,Ql,zj,zh,Nat.add_mul,r]at a2 d1 ⊢
  omega
theorem QcI {s:Bs} {c:Nat} (h8:8<=c) {G:RS->List SelD×RS} (hG:GB s c G) (ps pseudo:Bool) (t:RS) (h:t.p<=s.length+1) :
 Up s t (Yh G s ps pseudo t).2/\(Yh G s ps pseudo t).1.length+(c+3)*t.p<=(c+3)*(Yh G s ps pseudo t).2.p+5:=by
 unfold Yh
 simp only
 have u:=QF s t h
 have a:=Qey h8 hG ps pseudo _ u.2
 have b:=Qpz h8 hG ps pseudo (VB G s ps pseudo (sSp s t)).2 (VB G s ps pseudo (sSp s t)).1 a.1.2
 refine⟨(u.trans a.1).trans b.1,?_⟩
 have a2:=a.2
 have b2:=b.2
 have d:=zz c u.1
 have d1:=u.1
 have d2:=a.1.1
 simp only[Nat.add_mul]at b2 ⊢
 omega
theorem Qpv {s:Bs} {c:Nat} (h8:8<=c) {G:RS->List SelD×RS} (hG:GB s c G) (ps pseudo:Bool) (t:RS) (l:List SelD) (h:t.p<=s.length+1) :
 Up s t (YG G s ps pseudo t l).2/\(YG G s ps pseudo t l).1.length+(c+3)*t.p<=(c+3)*(YG G s ps pseudo t l).2.p+l.length:=by
 fun_induction YG G s ps pseudo t l with
 | case1 t l h1 r hlt ih=>
  have u1:Up s t (t.go (t.p+1)):=⟨by simp only[RS.go_p];omega,by simp only[RS.go_p];omega⟩
  have a:=QcI h8 hG ps pseudo (t.go (t.p+1)) u1.2
  have b:=ih a.1.2
  refine⟨(u1.trans a.1).trans b.1,?_⟩
  have a2:=a.2
  have b2:=b.2
  simp only[RS.go_p,xB,xk,zh,r]at a2 b2 ⊢
  omega
 | case2 t l h1 r hlt=>
  have u1:Up s t (t.go (t.p+1)):=⟨by simp only[RS.go_p];omega,by simp only[RS.go_p];omega⟩
  have a:=QcI h8 hG ps pseudo (t.go (t.p+1)) u1.2
  refine⟨u1.trans a.1,?_⟩
  have a2:=a.2
  simp only[RS.go_p,xB,xk,zh,r]at a2 ⊢
  omega
 | case3 t l h1=>exact⟨Up.refl h,by simp only;omega⟩
theorem Qhc {s:Bs} {c:Nat} (h8:8<=c) {G:RS->List SelD×RS} (hG:GB s c G) (ps many pseudo:Bool):GB s (c+3) (VI G s ps many pseudo):=by
 intro t h
 have a:=QcI h8 hG ps pseudo t h
 unfold VI
 simp only
 split
 have b:=Qpv h8 hG ps pseudo _ (Yh G s ps pseudo t).1 a.1.2
 refine⟨a.1.trans b.1,?_⟩
 have a2:=a.2
 have b2:=b.2
 simp only[Qi,Ql,zj]
 omega
 refine⟨a.1,?_⟩
 have a2:=a.2
 simp only[Qi,Ql,zj]
 omega
theorem Za (s:Bs) (ps:Bool):∀m,GB s (3*m+8) (Qq s ps m)
 | 0=>fun t h=>⟨Up.of (Up.refl h) (zm _) rfl,by simp only[Qq,failL,zF,RS.no_p];omega⟩
 | m+1=>Qhc (by omega) (Za s ps m) ps true false
theorem Qbn {s:Bs} {ps:Bool} {m:Nat} {t:RS} (hs:s.length<=100000) (hm:m<=300000) (h:t.p<=s.length+1):(Qq s ps m t).1.length<=100000000000:=by
 have a:=Za s ps m t h
 have b:=a.2
 have d:(3*m+8)*(Qq s ps m t).2.p<=(3*300000+8)*100001:=Nat.mul_le_mul (by omega) (by have:=a.1.2;omega)
 omega
theorem Qhb {s:Bs} {t:RS} (h:t.p<=s.length):(sSp s t).p<=s.length:=by
 fun_induction sSp s t with
 | case1 t h1 h2 ih=>exact ih (by simp only[RS.go_p];omega)
 | case2 t h1 h2 h3 j hj ih=>exact ih (by have:=YQ _ _ hj;simp only[RS.go_p];omega)
 | case3=>exact h
 | case4=>exact h
 | case5=>exact h
theorem Qnl (s:Bs) (q:Nat) (t:RS) (acc:Bs):(Vv s q t acc).1.length+4*t.p<=acc.length+4*(Vv s q t acc).2.p:=by
 fun_induction Vv s q t acc with
 | case1=>simp only[RS.go_p];omega
 | case2=>simp only[zo,RS.no_p];omega
 | case3 t acc h1 h2 h3 h4 ih=>simp only[RS.go_p,zh,zF]at ih;omega
 | case4 t acc h1 h2 h3 h4 h5 ih=>
  simp only[zh]at ih
  have:=UG s t
  have:=UF s t
  omega
 | case5 t acc h1 h2 h3 h4 h5 ih=>
  refine Nat.le_trans (Nat.add_le_add_left ?_ _) ih
  simp only[RS.go_p]
  split<;>omega
 | case6=>simp only[zo,RS.no_p];omega
theorem QcE (s:Bs) (t:RS) (h:t.p<=s.length+1):(Qs s t).1.length<=4*(s.length+1):=by
 have hl:=(JA s t h).2
 unfold Qs at hl ⊢
 split
 rename_i q
 rw[if_pos q]at hl
 unfold Z5 at hl ⊢
 have:=Qnl s (bat s t.p) (t.go (t.p+1)) []
 simp only[zo]at this
 omega
 exact YB s _ (by simp only[RS.unI_p];exact h)
end
end Go.Proofs.YtengepcafdnalaaGreatDoor
