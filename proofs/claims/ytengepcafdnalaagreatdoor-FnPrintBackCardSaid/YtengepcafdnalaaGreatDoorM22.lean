/-
  Parts of the proof that the law FnPrintBack holds for every input (texts Ke, Kf, Kg, Kh). Conditions: none.
-/
import Derived.Test.YtengepcafdnalaaGreatDoorM21
namespace Go.Proofs.YtengepcafdnalaaGreatDoor
open _root_.Bool renaming or_true → zZ, or_assoc → zY, and_eq_true → zk
open _root_.List renaming getD_eq_getElem?_getD → zd, take_add_one → zU, getElem?_eq_getElem → zg, drop_eq_nil_iff → xv, length_drop → zR, length_take → zP, drop_eq_getElem_cons → zI, append_assoc → zw, take_length → xg, flatten_append → xr, length_append → zh, length_cons → zj, length_singleton → zF, length_nil → zo
open _root_.Nat renaming le_of_lt → xD, le_refl → zm, zero_le → zO, strongRecOn → zl, lt_of_lt_of_le → zL
section
open Go Go.RowKit
set_option maxRecDepth 20000
theorem Y5 {s:Bs} {e:Nat} (h:Q5 s [13,10] e=true):Vb s e=e+2:=by
 have q:=(Qbe s e 13 10 (by decide)).symm.trans h
 simp at q
 have:=QW q.2 (by decide)
 unfold Vb
 rw[if_pos (by omega),if_pos q.1,if_pos ⟨by omega,q.2⟩]
theorem Y3 {s:Bs} {e:Nat} (h:Q5 s [13,10] e=false) (hw:VO (bat s e)=true):Vb s e=e+1:=by
 have q:=(Qbe s e 13 10 (by decide)).symm.trans h
 simp at q
 have hl:e<s.length:=by
  by_cases hl:e<s.length
  exact hl
  rw[show bat s e=0 from by unfold bat;simp[zd,List.getElem?_eq_none (show s.length<=e from by omega)]]at hw
  cases hw
 unfold Vb
 rw[if_pos hl]
 split
 rename_i h1;rw[if_neg (fun h2=>q h1 h2.2)]
 first | rfl | rw[if_pos hw]
theorem Y4 {s:Bs} {e:Nat} (hw:VO (bat s e)=false):Vb s e=e:=by
 unfold Vb
 split
 rw[if_neg (by rintro h;rw[h]at hw;cases hw),if_neg (by rw[hw];simp)]
 rfl
theorem QeG (s:Bs) (i:Nat) (h:i<s.length):i+(Vn s i).2<=s.length:=by
 unfold Vn
 split
 show i+1<=_;omega
 split
 exact xD h
 rename_i h2
 split
 exact xD h
 split
 exact xD h
 show i+(Ya (bat s i)).2.1<=_;omega
theorem Qh1 {s:Bs} {p:Nat} (h:Jy s p=true):p+1<s.length/\bat s p=92/\YI (bat s (p+1))=false:=by
 simpa [Jy,and_assoc] using h
theorem QdP {s:Bs} {t:RS} (h:Jy s t.p=true):(VQ s t).2.p<=s.length:=by
 have h0:=Qh1 h
 have h1:=QeG s (t.p+1) h0.1
 have h2:=QcX s 6 (t.p+1) (by omega)
 have h3:=Qep s _ h2
 unfold VQ
 repeat' split
 exact h1
 exact h3
 exact h3
theorem QiI (s:Bs) (t:RS) (acc:Bs) (h:t.p<=s.length+1):(VZ s t acc).2.p<=s.length+1:=by
 fun_induction VZ s t acc with
 | case1 t acc h1 h2 ih=>exact ih (by simp only[RS.go_p];omega)
 | case2 t acc h1 h2 h3 ih=>exact ih (Nat.le_succ_of_le (QdP h3))
 | case3=>exact h
 | case4=>exact h
theorem Z9 (s:Bs) (t:RS) (h:t.p<=s.length+1):(Qg s t).2.p<=s.length+1:=by
 unfold Qg
 split
 exact QiI s _ _ h
 exact h
theorem Qpu (s:Bs) (t:RS) (h:t.p<=s.length+1):(Zl s t).2.p<=s.length+1:=by
 unfold Zl
 repeat' split
 all_goals first | exact QiI s _ _ h | exact h
theorem Qnm (s:Bs) (q:Nat) (t:RS) (acc:Bs) (h:t.p<=s.length+1):(Vv s q t acc).2.p<=s.length+1:=by
 fun_induction Vv s q t acc with
 | case1=>simp only[RS.go_p];omega
 | case2=>exact h
 | case3 t acc h1 h2 h3 h4 ih=>exact ih (by simp only[RS.go_p];omega)
 | case4 t acc h1 h2 h3 h4 h5 ih=>exact ih (Nat.le_succ_of_le (QdP h5))
 | case5 t acc h1 h2 h3 h4 h5 ih=>exact ih (by simp only[RS.go_p];split<;>omega)
 | case6=>exact h
theorem Qnk (s:Bs) (t:RS) (h:t.p<s.length\/t.p<=s.length+1/\isQ (bat s t.p)=false):(Qs s t).2.p<=s.length+1:=by
 unfold Qs
 split
 rename_i hq
 rcases h with h | ⟨h,h'⟩
 exact Qnm s _ _ _ (by simp only[RS.go_p];omega)
 rw[hq]at h';cases h'
 exact Z9 s _ (by rcases h with h | ⟨h,_⟩<;>simp only[RS.unI_p]<;>omega)
theorem Qfk (s:Bs) (i j:Nat) (h:i<=j) (hj:j<s.length):(s.take (j+1)).drop i=(s.take j).drop i++[s.getD j 0]:=by
 rw[zU,List.drop_append_of_le_length (by simp;omega)]
 simp[zd,zg hj]
theorem QmO (s:Bs) (i:Nat):(s.take i).drop i=[]:=by
 rw[xv];simp;omega
theorem cut1 {s:Bs} {i:Nat} (h:i<s.length):(s.take (i+1)).drop i=[s.getD i 0]:=by
 rw[Qfk s i i (zm _) h,QmO];rfl
theorem Qlz (n:Int):(YM n).length<=4:=by
 unfold YM Utf8.encode
 simp only
 repeat' split
 all_goals simp
theorem QpO (s:Bs) (i:Nat):(Vn s i).2<=4:=by
 have hm:∀b,(Ya b).2.1<=4:=by
  intro b;unfold Ya;repeat' split
  all_goals simp
 rw[Vn.eq_1]
 split
 exact (by decide:1<=4)
 split
 exact zO _
 split
 exact zO _
 split
 exact zO _
 exact hm _
theorem UG (s:Bs) (t:RS):(VQ s t).1.length<=4:=by
 unfold VQ
 split
 have:=QpO s (t.p+1)
 simp only[zR,zP];omega
 split
 dsimp only;exact Qlz _
 exact zO _
theorem QiK {s:Bs} {t:RS} {acc:Bs} (h:t.p<s.length) (hb:t.bad=false) (hc:Qr (bat s t.p)=true):VZ s t acc=VZ s (t.go (t.p+1)) (acc++[s.getD t.p 0]):=by
 conv=>lhs;unfold VZ
 rw[if_pos ⟨h,hb⟩,if_pos hc]
theorem QiJ {s:Bs} {t:RS} {acc:Bs} (h:t.p<s.length) (hb:t.bad=false) (hc:Qr (bat s t.p)=false) (he:Jy s t.p=true):VZ s t acc=VZ s (VQ s t).2 (acc++(VQ s t).1):=by
 conv=>lhs;unfold VZ
 rw[if_pos ⟨h,hb⟩,if_neg (by rw[hc];simp),if_pos he]
theorem QiH {s:Bs} {t:RS} {acc:Bs} (h:t.p<s.length->t.bad=false->Qr (bat s t.p)=false/\Jy s t.p=false):VZ s t acc=(acc,t):=by
 unfold VZ
 split
 rename_i q
 rw[if_neg (by rw[(h q.1 q.2).1];simp),if_neg (by rw[(h q.1 q.2).2];simp)]
 rfl
theorem Qdq (l:Bs) (c:UInt8):VH (l++[c])=16*VH l+YL c.toNat:=by simp[VH]
theorem Uv {c:Nat} (h:QI c=true):YL c<16:=by
 simp[QI]at h
 unfold YL
 repeat' split
 all_goals omega
theorem Qn4 {s:Bs} {k i:Nat} (h:i<s.length) (hd:QI (bat s i)=true):QD s (k+1) i=QD s k (i+1):=by
 conv=>lhs;unfold QD
 rw[if_pos ⟨h,hd⟩]
theorem V1 {s:Bs} {k i:Nat} (h:QI (bat s i)=false):QD s k i=i:=by
 cases k with
 | zero=>rfl
 | succ k=>unfold QD;rw[if_neg (by rw[h];simp)]
theorem bat_out {s:Bs} {i:Nat} (h:s.length<=i):bat s i=0:=by
 unfold bat
 simp[zd,List.getElem?_eq_none h]
theorem Qn5 {s:Bs} {i:Nat} (h:QI (bat s i)=true):i<s.length:=by
 by_cases hl:i<s.length
 exact hl
 rw[bat_out (by omega)]at h;cases h
theorem YE {s:Bs} {k i:Nat} (h:k=0):QD s k i=i:=by subst h;rfl
def c22 (svs:List SV) (b:Option SB):QR:=match svs,b with
 | [.str s],none=>some ([s.length<=1000000],.bool (YH s 0))
 | _,_=>none
noncomputable def W22:Wk:=⟨[(41,.pure c41)],Qe Tryz.f22,false,false,[.tmp 2],[4],[(2,9)],[]⟩
theorem has22:Has 22:=hsf Tryz.f22
theorem kez0 {p q:Prop} (k:q) (h:p:=by first | omega | (have:=hpt (by omega);omega) | (simp;omega)):p/\q:=⟨h,k⟩
theorem sat22:Sat 22 (Qz c22):=by
 have hD:Qa W22.D:=(Qa.cons Qub QtM Qa.nil)
 refine W22.sat hD (fn:=Tryz.f22) (by kernel_rfl) (by kernel_rfl) (by kernel_rfl) (by decide) fun svs b K hP=>?_
 obtain⟨ps,v,e,hp,hk⟩:=Qh hP
 unfold c22 at e
 split at e
 rename_i s
 cases e
 obtain⟨h01,_⟩:=hp
 have L2:∀(mm:Nat) (i:Nat),s.length-i=mm->i<=s.length/\YH s i=YH s 0->W22.L K 2 (mkS 29 [(0,(.str s)),(3,(.nat i))] [] 1):=by
  intro mm
  induction mm using zl with
  | _ mm ih=>
   intro i hm hI
   have hpt:=fun h=>QeG s i h
   refine W22.aL hD (cond (decide (i<s.length)) ((s.length<=1000000)/\(i<s.length)/\cond (((decide ((Vn s i).2=0))||(decide ((Vn s i).1=0)))||(decide ((Vn s i).1=65279))) (K (.val (.bool false)) none) ((i+(Vn s i).2<=9223372036854775807)/\(W22).L K 2 (mkS 29 [(0,(.str s)),(3,(.nat (i+(Vn s i).2)))] [] 1))) (K (.val (.bool true)) none)) ?_
   refine Qb ?_ ?_<;>intro h1<;>try simp[-zd]at h1
   refine kez0 (kez0 ?_)
   refine Qb ?_ ?_<;>intro h2<;>try simp[-zd]at h2
   have e:YH s i=false:=by unfold YH;rw[if_pos (by omega),dif_pos (by omega)]
   rw[<-hI.2,e]at hk
   exact hk
   refine kez0 ?_
   have e:YH s i=YH s (i+(Vn s i).2):=by
    conv=>lhs;unfold YH
    rw[if_pos (by omega),dif_neg (by omega)]
   have:=hpt (by omega)
   exact ih _ (by omega) _ rfl ⟨by omega,by rw[<-e];exact hI.2⟩
   have e:YH s i=true:=by unfold YH;rw[if_neg (by omega)]
   rw[<-hI.2,e]at hk
   exact hk
 refine W22.en ((W22).L K 2 (mkS 29 [(0,(.str s)),(3,(.nat 0))] [] 1)) ?_
 exact L2 _ _ rfl ⟨by omega,rfl⟩
 cases e
def c122 (svs:List SV) (b:Option SB):FR:=match svs,b with
 | [.ptr 0 0],some (.blk 46 [.str s,.nat p,.bool bad,.bool un,.bool ps])=>some ([s.length<=1000000,p<=s.length+1,Jy s p=true],.val (.str (VQ s ⟨p,bad,un⟩).1),
  some (.blk 46 [.str s,.nat (VQ s ⟨p,bad,un⟩).2.p,.bool (VQ s ⟨p,bad,un⟩).2.bad,.bool (VQ s ⟨p,bad,un⟩).2.un,.bool ps]))
 | _,_=>none
noncomputable def QjR:Wk:=⟨[(41,.pure c41),(43,.plain c43),(66,.pure c66),(93,.pure c93),(137,.plain c137),(138,.pure c138)],Qe Tryz.f122,true,false,[.tmp 2],[9],[(3,25)],[]⟩
theorem QqM:Has 122:=hsf Tryz.f122
theorem Zi {p q:Prop} (k:q) (h:p:=by first | omega | (have:=Uv ‹QI _=true›;omega) | (unfold inI;omega) | (simp;omega) | (exfalso;simp_all;done) | assumption | (have:=hpt (by omega);omega)):p/\q:=⟨h,k⟩
theorem kez1 {c0 p0 p1 q:Prop} (k:q) (h:c0->p0/\p1/\True:=by intro g0;(try simp at g0);exact⟨(by first | omega | (have:=Uv ‹QI _=true›;omega) | (unfold inI;omega) | (simp;omega) | (exfalso;simp_all;done) | assumption | (have:=hpt (by omega);omega)),(by first | omega | (have:=Uv ‹QI _=true›;omega) | (unfold inI;omega) | (simp;omega) | (exfalso;simp_all;done) | assumption | (have:=hpt (by omega);omega)),trivial⟩):(c0->p0/\p1/\True)/\q:=⟨h,k⟩
theorem Qpm:Sat 122 (fnS c122):=by
 have hD:Qa QjR.D:=(Qa.cons Qub QtM (Qa.cons Qcl QbV (Qa.cons JO JJ (Qa.cons Qt7 QtI (Qa.cons QwX Qvf (Qa.cons QwW Qve Qa.nil))))))
 refine QjR.sat hD (fn:=Tryz.f122) (by kernel_rfl) (by kernel_rfl) (by kernel_rfl) (by decide) fun svs b K hP=>?_
 obtain⟨ps,o,b',e,hp,hk⟩:=Vy hP
 unfold c122 at e
 split at e
 rename_i s p bad un ps
 cases e
 obtain⟨h01,h02,h03,_⟩:=hp
 obtain⟨h04,h05,h06⟩:=Qh1 h03
 have L3:∀(mm:Nat) (k n:Nat),6-k=mm->k<=6/\p+1+k<=s.length/\QD s (6-k) (p+1+k)=QD s 6 (p+1)/\n=VH ((s.take (p+1+k)).drop (p+1))/\n<16^k->QjR.L K 3 (mkS 114 [(0,(.ptr 0 0)),(3,(.nat n)),(4,(.nat k))] [(0,.blk 46 [(.str s),(.nat (p+1+k)),(.bool bad),(.bool un),(.bool ps)])] 1):=by
  intro mm
  induction mm using zl with
  | _ mm ih=>
   intro k n hm hI
   obtain⟨k1,k2,k3,k4,k5⟩:=hI
   have hpt:=fun h=>QeG s (p+1+k) h
   have hdi:=fun h=>Qn5 (s:=s) (i:=p+1+k) h
   have k6:n<16^6:=zL k5 (Nat.pow_le_pow_right (by omega) k1)
   refine QjR.aL hD (have a0:=(((decide (n=0))||(decide (n=65279)))||(decide (1114111<n)))||((decide (55296<=n))&&(decide (n<57344)));have a1:=Vn s (p+1+k);have a2:Out:=.val (.str (YM ((n:Nat):Int)));have a3:=s.length<=1000000;have a4:=p+1+k+a1.2<=9223372036854775807;have a5:Option SB:=some (.blk 46 [(.str s),(.nat (p+1+k+a1.2)),(.bool bad),(.bool un),(.bool ps)]);have a6:=p+1+k<=s.length+1;have a7:Option SB:=some (.blk 46 [(.str s),(.nat (p+1+k+2)),(.bool bad),(.bool true),(.bool ps)]);have a8:Option SB:=some (.blk 46 [(.str s),(.nat (p+1+k+1)),(.bool bad),(.bool true),(.bool ps)]);have a9:Option SB:=some (.blk 46 [(.str s),(.nat (p+1+k+2)),(.bool bad),(.bool un),(.bool ps)]);have a10:Option SB:=some (.blk 46 [(.str s),(.nat (p+1+k+1)),(.bool bad),(.bool un),(.bool ps)]);have a11:Option SB:=some (.blk 46 [(.str s),(.nat (p+1+k)),(.bool bad),(.bool true),(.bool ps)]);have a12:Option SB:=some (.blk 46 [(.str s),(.nat (p+1+k)),(.bool bad),(.bool un),(.bool ps)]);have a13:=p+1+k+1<=9223372036854775807;have a14:=false=true->a3/\(p+1+k+2<=s.length+1)/\True;have a15:=p+1+k<=p+1+k+a1.2/\p+1+k+a1.2<=s.length;have a16:=n<=2147483647;have a17:Out:=.val (.str ((s.take (p+1+k+a1.2)).drop (p+1+k)));have a18:=bat s (p+1+k);have a19:Out:=.val (.str []);have a20:=true=true->a3/\a6/\True;have a21:=Q5 s [13,10] (p+1+k);((decide (k<6))=true->a3/\a6/\True)/\((decide (k<6))=true->cond (QI a18) (cond (decide (0<=YL a18)) ((16*n<=9223372036854775807)/\a3/\a6/\cond (QI a18) (((16*n)+(YL a18)<=9223372036854775807)/\a13/\(k+1<=9223372036854775807)/\(QjR).L K 3 (mkS 114 [(0,(.ptr 0 0)),(3,(.nat ((16*n)+(YL a18)))),(4,(.nat (k+1)))] [(0,.blk 46 [(.str s),(.nat (p+1+k+1)),(.bool bad),(.bool un),(.bool ps)])] 1)) ((inI (((16*n:Nat):Int)+(-1)))/\a13/\(k+1<=9223372036854775807)/\(QjR).L K 3 (mkS 114 [(0,(.ptr 0 0)),(3,(.int .i64 (((16*n:Nat):Int)+(-1)))),(4,(.nat (k+1)))] [(0,.blk 46 [(.str s),(.nat (p+1+k+1)),(.bool bad),(.bool un),(.bool ps)])] 1))) (cond (decide (k=0)) (a3/\(p+1+k<s.length)/\a4/\a15/\a4/\K a17 a5) (a3/\a6/\(2<=1000)/\cond a21 (a14/\cond a0 (K a19 a7) (a16/\K a2 a9)) (a20/\cond (VO a18) (a13/\cond a0 (K a19 a8) (a16/\K a2 a10)) (cond a0 (K a19 a11) (a16/\K a2 a12)))))) (cond (decide (k=0)) (a3/\(p+1+k<s.length)/\a4/\a15/\a4/\K a17 a5) (a3/\a6/\(2<=1000)/\cond a21 (a14/\cond a0 (K a19 a7) (a16/\K a2 a9)) (a20/\cond (VO a18) (a13/\cond a0 (K a19 a8) (a16/\K a2 a10)) (cond a0 (K a19 a11) (a16/\K a2 a12))))))/\((decide (k<6))=false->cond (decide (k=0)) (a3/\(p+1+k<s.length)/\a4/\a15/\a4/\K a17 a5) (a3/\a6/\(2<=1000)/\cond a21 (a14/\cond a0 (K a19 a7) (a16/\K a2 a9)) (a20/\cond (VO a18) (a13/\cond a0 (K a19 a8) (a16/\K a2 a10)) (cond a0 (K a19 a11) (a16/\K a2 a12)))))) ?_
   refine kez1 ?_
   refine⟨fun h1=>?_,fun h1=>?_⟩
   try simp[-zd]at h1
   refine Qb ?_ ?_<;>intro h2<;>try simp[-zd]at h2
   refine Qb (fun h3=>?_) (fun h3=>?_)
   try simp[-zd]at h3
   refine Zi (Zi (Zi ?_))
   refine Qb ?_ ?_<;>intro h4<;>try simp[-zd]at h4
   refine Zi (Zi (Zi ?_))
   have q:=Uv h2
   have q2:=hdi h2
   refine ih _ (by omega) (k+1) _ rfl ⟨by omega,by omega,?_,?_,?_⟩
   rw[show 6-(k+1)=5-k from by omega,show p+1+(k+1)=p+1+k+1 from by omega,<-Qn4 (by omega) h2,show 5-k+1=6-k from by omega];exact k3
   rw[show p+1+(k+1)=p+1+k+1 from by omega,Qfk s (p+1) (p+1+k) (by omega) (by omega),Qdq,<-k4];rfl
   rw[Nat.pow_succ];omega
   refine Zi (Zi (Zi ?_))
   exfalso;simp_all
   try simp[-zd]at h3
   refine Qb (fun h3=>?_) (fun h3=>?_)
   try simp[-zd]at h3
   refine Zi (Zi (Zi (Zi (Zi ?_))))
   have e1:QD s 6 (p+1)=p+1+k:=by rw[<-k3];first | exact V1 (by assumption) | exact YE (by omega)
   unfold VQ at hk
   simp only[e1,<-k4,RS.go,RS.unI]at hk
   first
    | (have hk0:k=0:=by omega
       subst hk0
       rw[if_pos (by omega)]at hk
       exact hk)
    | (rw[if_neg (by omega)]at hk
       first
        | rw[Y5 (by assumption)]at hk
        | rw[Y3 (by assumption) (by assumption)]at hk
        | rw[Y4 (by assumption)]at hk
       first
        | (rw[if_pos (by simp[ZO];omega)]at hk;dsimp only at hk;exact hk)
        | (rw[if_neg (by simp[ZO];omega)]at hk;simp only[zZ]at hk;exact hk))
   try simp[-zd]at h3
   refine Zi (Zi (Zi ?_))
   refine Qb ?_ ?_<;>intro h4<;>try simp[-zd]at h4
   refine⟨fun g0=>(by cases g0),?_⟩
   refine Qb ?_ ?_<;>intro h5<;>try simp[-zd]at h5
   have e1:QD s 6 (p+1)=p+1+k:=by rw[<-k3];first | exact V1 (by assumption) | exact YE (by omega)
   unfold VQ at hk
   simp only[e1,<-k4,RS.go,RS.unI]at hk
   first
    | (have hk0:k=0:=by omega
       subst hk0
       rw[if_pos (by omega)]at hk
       exact hk)
    | (rw[if_neg (by omega)]at hk
       first
        | rw[Y5 (by assumption)]at hk
        | rw[Y3 (by assumption) (by assumption)]at hk
        | rw[Y4 (by assumption)]at hk
       first
        | (rw[if_pos (by simp[ZO];omega)]at hk;dsimp only at hk;exact hk)
        | (rw[if_neg (by simp[ZO];omega)]at hk;simp only[zZ]at hk;exact hk))
   refine Zi ?_
   have e1:QD s 6 (p+1)=p+1+k:=by rw[<-k3];first | exact V1 (by assumption) | exact YE (by omega)
   unfold VQ at hk
   simp only[e1,<-k4,RS.go,RS.unI]at hk
   first
    | (have hk0:k=0:=by omega
       subst hk0
       rw[if_pos (by omega)]at hk
       exact hk)
    | (rw[if_neg (by omega)]at hk
       first
        | rw[Y5 (by assumption)]at hk
        | rw[Y3 (by assumption) (by assumption)]at hk
        | rw[Y4 (by assumption)]at hk
       first
        | (rw[if_pos (by simp[ZO];omega)]at hk;dsimp only at hk;exact hk)
        | (rw[if_neg (by simp[ZO];omega)]at hk;simp only[zZ]at hk;exact hk))
   refine kez1 ?_
   refine Qb ?_ ?_<;>intro h5<;>try simp[-zd]at h5
   refine Zi ?_
   refine Qb ?_ ?_<;>intro h6<;>try simp[-zd]at h6
   have e1:QD s 6 (p+1)=p+1+k:=by rw[<-k3];first | exact V1 (by assumption) | exact YE (by omega)
   unfold VQ at hk
   simp only[e1,<-k4,RS.go,RS.unI]at hk
   first
    | (have hk0:k=0:=by omega
       subst hk0
       rw[if_pos (by omega)]at hk
       exact hk)
    | (rw[if_neg (by omega)]at hk
       first
        | rw[Y5 (by assumption)]at hk
        | rw[Y3 (by assumption) (by assumption)]at hk
        | rw[Y4 (by assumption)]at hk
       first
        | (rw[if_pos (by simp[ZO];omega)]at hk;dsimp only at hk;exact hk)
        | (rw[if_neg (by simp[ZO];omega)]at hk;simp only[zZ]at hk;exact hk))
   refine Zi ?_
   have e1:QD s 6 (p+1)=p+1+k:=by rw[<-k3];first | exact V1 (by assumption) | exact YE (by omega)
   unfold VQ at hk
   simp only[e1,<-k4,RS.go,RS.unI]at hk
   first
    | (have hk0:k=0:=by omega
       subst hk0
       rw[if_pos (by omega)]at hk
       exact hk)
    | (rw[if_neg (by omega)]at hk
       first
        | rw[Y5 (by assumption)]at hk
        | rw[Y3 (by assumption) (by assumption)]at hk
        | rw[Y4 (by assumption)]at hk
       first
        | (rw[if_pos (by simp[ZO];omega)]at hk;dsimp only at hk;exact hk)
        | (rw[if_neg (by simp[ZO];omega)]at hk;simp only[zZ]at hk;exact hk))
   refine Qb (fun h6=>?_) (fun h6=>?_)
   try simp[-zd]at h6
   have e1:QD s 6 (p+1)=p+1+k:=by rw[<-k3];first | exact V1 (by assumption) | exact YE (by omega)
   unfold VQ at hk
   simp only[e1,<-k4,RS.go,RS.unI]at hk
   first
    | (have hk0:k=0:=by omega
       subst hk0
       rw[if_pos (by omega)]at hk
       exact hk)
    | (rw[if_neg (by omega)]at hk
       first
        | rw[Y5 (by assumption)]at hk
        | rw[Y3 (by assumption) (by assumption)]at hk
        | rw[Y4 (by assumption)]at hk
       first
        | (rw[if_pos (by simp[ZO];omega)]at hk;dsimp only at hk;exact hk)
        | (rw[if_neg (by simp[ZO];omega)]at hk;simp only[zZ]at hk;exact hk))
   try simp[-zd]at h6
   refine Zi ?_
   have e1:QD s 6 (p+1)=p+1+k:=by rw[<-k3];first | exact V1 (by assumption) | exact YE (by omega)
   unfold VQ at hk
   simp only[e1,<-k4,RS.go,RS.unI]at hk
   first
    | (have hk0:k=0:=by omega
       subst hk0
       rw[if_pos (by omega)]at hk
       exact hk)
    | (rw[if_neg (by omega)]at hk
       first
        | rw[Y5 (by assumption)]at hk
        | rw[Y3 (by assumption) (by assumption)]at hk
        | rw[Y4 (by assumption)]at hk
       first
        | (rw[if_pos (by simp[ZO];omega)]at hk;dsimp only at hk;exact hk)
        | (rw[if_neg (by simp[ZO];omega)]at hk;simp only[zZ]at hk;exact hk))
   try simp[-zd]at h1
   refine Qb ?_ ?_<;>intro h2<;>try simp[-zd]at h2
   refine Zi (Zi (Zi (Zi (Zi ?_))))
   have e1:QD s 6 (p+1)=p+1+k:=by rw[<-k3];first | exact V1 (by assumption) | exact YE (by omega)
   unfold VQ at hk
   simp only[e1,<-k4,RS.go,RS.unI]at hk
   first
    | (have hk0:k=0:=by omega
       subst hk0
       rw[if_pos (by omega)]at hk
       exact hk)
    | (rw[if_neg (by omega)]at hk
       first
        | rw[Y5 (by assumption)]at hk
        | rw[Y3 (by assumption) (by assumption)]at hk
        | rw[Y4 (by assumption)]at hk
       first
        | (rw[if_pos (by simp[ZO];omega)]at hk;dsimp only at hk;exact hk)
        | (rw[if_neg (by simp[ZO];omega)]at hk;simp only[zZ]at hk;exact hk))
   refine Zi (Zi (Zi ?_))
   refine Qb ?_ ?_<;>intro h3<;>try simp[-zd]at h3
   refine⟨fun g0=>(by cases g0),?_⟩
   refine Qb ?_ ?_<;>intro h4<;>try simp[-zd]at h4
   have e1:QD s 6 (p+1)=p+1+k:=by rw[<-k3];first | exact V1 (by assumption) | exact YE (by omega)
   unfold VQ at hk
   simp only[e1,<-k4,RS.go,RS.unI]at hk
   first
    | (have hk0:k=0:=by omega
       subst hk0
       rw[if_pos (by omega)]at hk
       exact hk)
    | (rw[if_neg (by omega)]at hk
       first
        | rw[Y5 (by assumption)]at hk
        | rw[Y3 (by assumption) (by assumption)]at hk
        | rw[Y4 (by assumption)]at hk
       first
        | (rw[if_pos (by simp[ZO];omega)]at hk;dsimp only at hk;exact hk)
        | (rw[if_neg (by simp[ZO];omega)]at hk;simp only[zZ]at hk;exact hk))
   refine Zi ?_
   have e1:QD s 6 (p+1)=p+1+k:=by rw[<-k3];first | exact V1 (by assumption) | exact YE (by omega)
   unfold VQ at hk
   simp only[e1,<-k4,RS.go,RS.unI]at hk
   first
    | (have hk0:k=0:=by omega
       subst hk0
       rw[if_pos (by omega)]at hk
       exact hk)
    | (rw[if_neg (by omega)]at hk
       first
        | rw[Y5 (by assumption)]at hk
        | rw[Y3 (by assumption) (by assumption)]at hk
        | rw[Y4 (by assumption)]at hk
       first
        | (rw[if_pos (by simp[ZO];omega)]at hk;dsimp only at hk;exact hk)
        | (rw[if_neg (by simp[ZO];omega)]at hk;simp only[zZ]at hk;exact hk))
   refine kez1 ?_
   refine Qb ?_ ?_<;>intro h4<;>try simp[-zd]at h4
   refine Zi ?_
   refine Qb ?_ ?_<;>intro h5<;>try simp[-zd]at h5
   have e1:QD s 6 (p+1)=p+1+k:=by rw[<-k3];first | exact V1 (by assumption) | exact YE (by omega)
   unfold VQ at hk
   simp only[e1,<-k4,RS.go,RS.unI]at hk
   first
    | (have hk0:k=0:=by omega
       subst hk0
       rw[if_pos (by omega)]at hk
       exact hk)
    | (rw[if_neg (by omega)]at hk
       first
        | rw[Y5 (by assumption)]at hk
        | rw[Y3 (by assumption) (by assumption)]at hk
        | rw[Y4 (by assumption)]at hk
       first
        | (rw[if_pos (by simp[ZO];omega)]at hk;dsimp only at hk;exact hk)
        | (rw[if_neg (by simp[ZO];omega)]at hk;simp only[zZ]at hk;exact hk))
   refine Zi ?_
   have e1:QD s 6 (p+1)=p+1+k:=by rw[<-k3];first | exact V1 (by assumption) | exact YE (by omega)
   unfold VQ at hk
   simp only[e1,<-k4,RS.go,RS.unI]at hk
   first
    | (have hk0:k=0:=by omega
       subst hk0
       rw[if_pos (by omega)]at hk
       exact hk)
    | (rw[if_neg (by omega)]at hk
       first
        | rw[Y5 (by assumption)]at hk
        | rw[Y3 (by assumption) (by assumption)]at hk
        | rw[Y4 (by assumption)]at hk
       first
        | (rw[if_pos (by simp[ZO];omega)]at hk;dsimp only at hk;exact hk)
        | (rw[if_neg (by simp[ZO];omega)]at hk;simp only[zZ]at hk;exact hk))
   refine Qb (fun h5=>?_) (fun h5=>?_)
   try simp[-zd]at h5
   have e1:QD s 6 (p+1)=p+1+k:=by rw[<-k3];first | exact V1 (by assumption) | exact YE (by omega)
   unfold VQ at hk
   simp only[e1,<-k4,RS.go,RS.unI]at hk
   first
    | (have hk0:k=0:=by omega
       subst hk0
       rw[if_pos (by omega)]at hk
       exact hk)
    | (rw[if_neg (by omega)]at hk
       first
        | rw[Y5 (by assumption)]at hk
        | rw[Y3 (by assumption) (by assumption)]at hk
        | rw[Y4 (by assumption)]at hk
       first
        | (rw[if_pos (by simp[ZO];omega)]at hk;dsimp only at hk;exact hk)
        | (rw[if_neg (by simp[ZO];omega)]at hk;simp only[zZ]at hk;exact hk))
   try simp[-zd]at h5
   refine Zi ?_
   have e1:QD s 6 (p+1)=p+1+k:=by rw[<-k3];first | exact V1 (by assumption) | exact YE (by omega)
   unfold VQ at hk
   simp only[e1,<-k4,RS.go,RS.unI]at hk
   first
    | (have hk0:k=0:=by omega
       subst hk0
       rw[if_pos (by omega)]at hk
       exact hk)
    | (rw[if_neg (by omega)]at hk
       first
        | rw[Y5 (by assumption)]at hk
        | rw[Y3 (by assumption) (by assumption)]at hk
        | rw[Y4 (by assumption)]at hk
       first
        | (rw[if_pos (by simp[ZO];omega)]at hk;dsimp only at hk;exact hk)
        | (rw[if_neg (by simp[ZO];omega)]at hk;simp only[zZ]at hk;exact hk))
 refine QjR.en ((p+1<=9223372036854775807)/\(QjR).L K 3 (mkS 114 [(0,(.ptr 0 0)),(3,(.nat 0)),(4,(.nat 0))] [(0,.blk 46 [(.str s),(.nat (p+1)),(.bool bad),(.bool un),(.bool ps)])] 1)) ?_
 refine Zi ?_
 exact L3 _ 0 0 rfl ⟨by omega,by omega,rfl,by rw[Nat.add_zero,QmO];rfl,by decide⟩
 cases e
def c108 (svs:List SV) (b:Option SB):FR:=match svs,b with
 | [.ptr 0 0],some (.blk 46 [.str s,.nat p,.bool bad,.bool un,.bool ps])=>some ([s.length<=1000000,p<=s.length+1],.val (.str (VZ s ⟨p,bad,un⟩ []).1),
  some (.blk 46 [.str s,.nat (VZ s ⟨p,bad,un⟩ []).2.p,.bool (VZ s ⟨p,bad,un⟩ []).2.bad,.bool (VZ s ⟨p,bad,un⟩ []).2.un,.bool ps]))
 | _,_=>none
noncomputable def QjS:Wk:=⟨[(66,.pure c66),(89,.pure c89),(107,.pure Qrg),(122,.fn c122)],Qe Tryz.f108,true,false,[.tmp 2],[9],[(2,9)],[]⟩
theorem QqN:Has 108:=hsf Tryz.f108
theorem QcP {p q:Prop} (k:q) (h:p:=by first | omega | (have:=UG s t;omega) | (simp;omega) | assumption | (intro h;simp[h]) | (simp;done)):p/\q:=⟨h,k⟩
theorem kez3 {c0 p0 q:Prop} (k:q) (h:c0->p0/\True:=by intro g0;(try simp at g0);exact⟨(by first | omega | (have:=UG s t;omega) | (simp;omega) | assumption | (intro h;simp[h]) | (simp;done)),trivial⟩):(c0->p0/\True)/\q:=⟨h,k⟩
theorem Qpn:Sat 108 (fnS c108):=by
 have hD:Qa QjS.D:=(Qa.cons JO JJ (Qa.cons QgB Qf3 (Qa.cons QkZ Qka (Qa.cons QqM Qpm Qa.nil))))
 refine QjS.sat hD (fn:=Tryz.f108) (by kernel_rfl) (by kernel_rfl) (by kernel_rfl) (by decide) fun svs b K hP=>?_
 obtain⟨ps,o,b',e,hp,hk⟩:=Vy hP
 unfold c108 at e
 split at e
 rename_i s p bad un ps
 cases e
 obtain⟨h01,h02,_⟩:=hp
 have L2:∀(mm:Nat) (t:RS) (acc:Bs),s.length-t.p=mm->t.p<=s.length+1/\acc.length<=t.p*4/\VZ s t acc=VZ s ⟨p,bad,un⟩ []->QjS.L K 2 (mkS 61 [(0,(.ptr 0 0)),(3,(.str acc))] [(0,.blk 46 [(.str s),(.nat t.p),(.bool t.bad),(.bool t.un),(.bool ps)])] 1):=by
  intro mm
  induction mm using zl with
  | _ mm ih=>
   intro t acc hm hI
   obtain⟨k1,k2,k3⟩:=hI
   refine QjS.aL hD (have a1:Option SB:=some (.blk 46 [(.str s),(.nat t.p),(.bool t.bad),(.bool t.un),(.bool ps)]);have a2:=decide (t.p<s.length);have a0:=a2=true->((a2==true)=true)/\True;a0/\a0/\a0/\a0/\(a2=true->(a2==true)=true)/\cond (a2&&(!t.bad)) ((s.length<=1000000)/\(t.p<=s.length+1)/\cond (Qr (bat s t.p)) ((t.p+1<=9223372036854775807)/\(t.p<=t.p+1/\t.p+1<=s.length)/\(acc.length+((s.take (t.p+1)).drop t.p).length<=2305843009213693952)/\(t.p+1<=9223372036854775807)/\(QjS).L K 2 (mkS 61 [(0,(.ptr 0 0)),(3,(.str (acc++((s.take (t.p+1)).drop t.p))))] [(0,.blk 46 [(.str s),(.nat (t.p+1)),(.bool t.bad),(.bool t.un),(.bool ps)])] 1)) ((s.length<=1000000)/\(t.p<=s.length+1)/\cond (Jy s t.p) ((s.length<=1000000)/\(t.p<=s.length+1)/\(Jy s t.p=true)/\(acc.length+((VQ s t).1).length<=2305843009213693952)/\(QjS).L K 2 (mkS 61 [(0,(.ptr 0 0)),(3,(.str (acc++((VQ s t).1))))] [(0,.blk 46 [(.str s),(.nat ((VQ s t).2.p)),(.bool ((VQ s t).2.bad)),(.bool ((VQ s t).2.un)),(.bool ps)])] 1)) (K (.val (.str acc)) a1))) (K (.val (.str acc)) a1)) ?_
   refine kez3 (kez3 (kez3 (kez3 (QcP ?_))))
   refine Qb ?_ ?_<;>intro h1<;>try simp[-zd]at h1
   refine QcP (QcP ?_)
   refine Qb ?_ ?_<;>intro h2<;>try simp[-zd]at h2
   refine QcP (QcP (QcP (QcP ?_)))
   rw[cut1 h1.1]
   exact ih _ (by simp only[RS.go_p];omega) (t.go (t.p+1)) _ rfl ⟨by simp only[RS.go_p];omega,by simp;omega,by rw[<-QiK h1.1 h1.2 h2];exact k3⟩
   refine QcP (QcP ?_)
   refine Qb ?_ ?_<;>intro h3<;>try simp[-zd]at h3
   refine QcP (QcP (QcP (QcP ?_)))
   have q1:=UF s t
   have q2:=QdP h3
   have q3:=UG s t
   exact ih _ (by omega) (VQ s t).2 _ rfl ⟨by omega,by simp;omega,by rw[<-QiJ h1.1 h1.2 h2 h3];exact k3⟩
   rw[<-k3,QiH (fun _ _=>⟨h2,h3⟩)]at hk
   exact hk
   rw[<-k3,QiH (fun a b=>absurd b (by rw[h1 a];simp))]at hk
   exact hk
 refine QjS.en ((QjS).L K 2 (mkS 61 [(0,(.ptr 0 0)),(3,(.str []))] [(0,.blk 46 [(.str s),(.nat p),(.bool bad),(.bool un),(.bool ps)])] 1)) ?_
 exact L2 _ ⟨p,bad,un⟩ [] rfl ⟨h02,by simp,rfl⟩
 cases e
end
section
open Go Go.RowKit
set_option maxRecDepth 20000
theorem Qpq {s:Bs} {q:Nat} {t:RS} {acc:Bs} (h:t.p<s.length) (e:bat s t.p=q):Vv s q t acc=(acc,t.go (t.p+1)):=by
 unfold Vv;rw[if_pos h,if_pos e]
theorem Qpr {s:Bs} {q:Nat} {t:RS} {acc:Bs} (h:t.p<s.length) (e:bat s t.p≠q) (n:YI (bat s t.p)=true):Vv s q t acc=([],t.no):=by
 unfold Vv;rw[if_pos h,if_neg e,if_pos n]
theorem Qnp {s:Bs} {q:Nat} {t:RS} {acc:Bs} (h:t.p<s.length) (e:bat s t.p≠q) (n:YI (bat s t.p)=false) (c:bat s t.p≠92) :
 Vv s q t acc=Vv s q (t.go (t.p+1)) (acc++[s.getD t.p 0]):=by
 conv=>lhs;unfold Vv
 rw[if_pos h,if_neg e,if_neg (by rw[n];simp),if_pos c]
theorem Qno {s:Bs} {q:Nat} {t:RS} {acc:Bs} (h:t.p<s.length) (e:bat s t.p≠q) (c:bat s t.p=92) (f:Jy s t.p=true) :
 Vv s q t acc=Vv s q (VQ s t).2 (acc++(VQ s t).1):=by
 conv=>lhs;unfold Vv
 rw[if_pos h,if_neg e,if_neg (by rw[c];decide),if_neg (by simp[c]),if_pos f]
theorem Qf6 {s:Bs} {q:Nat} {t:RS} {acc:Bs} (h:t.p<s.length) (e:bat s t.p≠q) (c:bat s t.p=92) (f:Jy s t.p=false) :
 Vv s q t acc=Vv s q (t.go (if bat s (t.p+1)=13/\bat s (t.p+2)=10/\t.p+3<=s.length then t.p+3 else t.p+2)) acc:=by
 conv=>lhs;unfold Vv
 rw[if_pos h,if_neg e,if_neg (by rw[c];decide),if_neg (by simp[c]),if_neg (by rw[f];simp)]
theorem Qpp {s:Bs} {q:Nat} {t:RS} {acc:Bs} (h:¬t.p<s.length):Vv s q t acc=([],t.no):=by
 unfold Vv;rw[if_neg h]
theorem kst {K:Out->Option SB->Prop} {s:Bs} {ps:Bool} {r:Bs×RS} {v:Bs} {p:Nat} {b u:Bool}
 (hk:K (.val (.str r.1)) (some (.blk 46 [.str s,.nat r.2.p,.bool r.2.bad,.bool r.2.un,.bool ps]))) (e:r=(v,⟨p,b,u⟩)) :
 K (.val (.str v)) (some (.blk 46 [.str s,.nat p,.bool b,.bool u,.bool ps])):=by rw[e]at hk;exact hk
theorem lf2 {s:Bs} {e:Nat} (h:Q5 s [13,10] e=true):bat s e=13/\bat s (e+1)=10/\e+2<=s.length:=by
 have q:=(Qbe s e 13 10 (by decide)).symm.trans h
 simp at q
 have:=QW q.2 (by decide)
 exact⟨q.1,q.2,by omega⟩
theorem lf2n {s:Bs} {e:Nat} (h:Q5 s [13,10] e=false):¬(bat s e=13/\bat s (e+1)=10/\e+2<=s.length):=by
 have q:=(Qbe s e 13 10 (by decide)).symm.trans h
 simp at q
 exact fun h=>q h.1 h.2.1
def c96 (svs:List SV) (b:Option SB):FR:=match svs,b with
 | [.ptr 0 0],some (.blk 46 [.str s,.nat p,.bool bad,.bool un,.bool ps])=>some ([s.length<=1000000,p<=s.length+1],.val (.str (Qg s ⟨p,bad,un⟩).1),
  some (.blk 46 [.str s,.nat (Qg s ⟨p,bad,un⟩).2.p,.bool (Qg s ⟨p,bad,un⟩).2.bad,.bool (Qg s ⟨p,bad,un⟩).2.un,.bool ps]))
 | _,_=>none
noncomputable def W96:Wk:=⟨[(95,.fn c95),(108,.fn c108)],Qe Tryz.f96,true,false,[.tmp 2],[9],[],[]⟩
theorem Qe3:Has 96:=hsf Tryz.f96
theorem QfN {p q:Prop} (k:q) (h:p:=by first | omega | (simp;done) | (simp;omega) | (simp;assumption)):p/\q:=⟨h,k⟩
theorem Qeu:Sat 96 (fnS c96):=by
 have hD:Qa W96.D:=(Qa.cons Qmr QlJ (Qa.cons QqN Qpn Qa.nil))
 refine W96.sat hD (fn:=Tryz.f96) (by kernel_rfl) (by kernel_rfl) (by kernel_rfl) (by decide) fun svs b K hP=>?_
 obtain⟨ps,o,b',e,hp,hk⟩:=Vy hP
 unfold c96 at e
 split at e
 rename_i s p bad un ps
 cases e
 obtain⟨h01,h02,_⟩:=hp
 refine W96.en (have a0:=VZ s (RS.mk p bad (un||VS s p)) [];(s.length<=1000000)/\(p<=s.length+1)/\cond (!(Vo s p)) (K (.val (.str [])) (some (.blk 46 [(.str s),(.nat p),(.bool true),(.bool (un||VS s p)),(.bool ps)]))) ((s.length<=1000000)/\(p<=s.length+1)/\K (.val (.str (a0.1))) (some (.blk 46 [(.str s),(.nat (a0.2.p)),(.bool (a0.2.bad)),(.bool (a0.2.un)),(.bool ps)])))) ?_
 refine QfN (QfN ?_)
 refine Qb ?_ ?_<;>intro h1<;>try simp[-zd]at h1
 exact kst hk (by unfold Qg;rw[if_neg (by simp[h1])];rfl)
 refine QfN (QfN ?_)
 exact kst hk (by unfold Qg;rw[if_pos (by simpa using h1)];rfl)
 cases e
def c109 (svs:List SV) (b:Option SB):FR:=match svs,b with
 | [.ptr 0 0],some (.blk 46 [.str s,.nat p,.bool bad,.bool un,.bool ps])=>some ([s.length<=1000000,p<=s.length+1],.val (.str (Zl s ⟨p,bad,un⟩).1),
  some (.blk 46 [.str s,.nat (Zl s ⟨p,bad,un⟩).2.p,.bool (Zl s ⟨p,bad,un⟩).2.bad,.bool (Zl s ⟨p,bad,un⟩).2.un,.bool ps]))
 | _,_=>none
noncomputable def W109:Wk:=⟨[(66,.pure c66),(89,.pure c89),(95,.fn c95),(108,.fn c108)],Qe Tryz.f109,true,false,[.tmp 2],[9],[],[]⟩
theorem Qxh:Has 109:=hsf Tryz.f109
theorem kfz1 {c0 p0 p1 q:Prop} (k:q) (h:c0->p0/\p1/\True:=by intro g0;(try simp at g0);exact⟨(by first | omega | (simp;done) | (simp;omega) | (simp;assumption)),(by first | omega | (simp;done) | (simp;omega) | (simp;assumption)),trivial⟩):(c0->p0/\p1/\True)/\q:=⟨h,k⟩
theorem QvA:Sat 109 (fnS c109):=by
 have hD:Qa W109.D:=(Qa.cons JO JJ (Qa.cons QgB Qf3 (Qa.cons Qmr QlJ (Qa.cons QqN Qpn Qa.nil))))
 refine W109.sat hD (fn:=Tryz.f109) (by kernel_rfl) (by kernel_rfl) (by kernel_rfl) (by decide) fun svs b K hP=>?_
 obtain⟨ps,o,b',e,hp,hk⟩:=Vy hP
 unfold c109 at e
 split at e
 rename_i s p bad un ps
 cases e
 obtain⟨h01,h02,_⟩:=hp
 refine W109.en (have a0:=VZ s (RS.mk p (bad||(!(Qr (bat s p)))) ((un||VS s p)||(Qr (bat s p)))) [];have a1:=VZ s (RS.mk p bad (un||VS s p)) [];have a2:=s.length<=1000000;have a3:=p<=s.length+1;a2/\a3/\cond (!(Vo s p)) (((un||VS s p)=false->a2/\a3/\True)/\(bad=false->a2/\a3/\True)/\cond (bad||(!(Qr (bat s p)))) (K (.val (.str [])) (some (.blk 46 [(.str s),(.nat p),(.bool (bad||(!(Qr (bat s p))))),(.bool ((un||VS s p)||(Qr (bat s p)))),(.bool ps)]))) (a2/\a3/\K (.val (.str (a0.1))) (some (.blk 46 [(.str s),(.nat (a0.2.p)),(.bool (a0.2.bad)),(.bool (a0.2.un)),(.bool ps)])))) (cond bad (K (.val (.str [])) (some (.blk 46 [(.str s),(.nat p),(.bool bad),(.bool (un||VS s p)),(.bool ps)]))) (a2/\a3/\K (.val (.str (a1.1))) (some (.blk 46 [(.str s),(.nat (a1.2.p)),(.bool (a1.2.bad)),(.bool (a1.2.un)),(.bool ps)]))))) ?_
 refine QfN (QfN ?_)
 refine Qb ?_ ?_<;>intro h1<;>try simp[-zd]at h1
 refine kfz1 (kfz1 ?_)
 refine Qb ?_ ?_<;>intro h2<;>try simp[-zd]at h2
 refine kst hk ?_
 unfold Zl
 simp_all [RS.unI,RS.no,zY]
 refine QfN (QfN ?_)
 refine kst hk ?_
 unfold Zl
 simp_all [RS.unI,RS.no,zY]
 refine Qb (fun h2=>?_) (fun h2=>?_)
 try simp[-zd]at h2
 refine kst hk ?_
 unfold Zl
 simp_all [RS.unI,RS.no,zY]
 try simp[-zd]at h2
 refine QfN (QfN ?_)
 refine kst hk ?_
 unfold Zl
 simp_all [RS.unI,RS.no,zY]
 cases e
def c139 (svs:List SV) (b:Option SB):FR:=match svs,b with
 | [.ptr 0 0],some (.blk 46 [.str s,.nat p,.bool bad,.bool un,.bool ps])=>some ([s.length<=1000000,p<=s.length+1,p<s.length],.val (.str (Z5 s ⟨p,bad,un⟩).1),
  some (.blk 46 [.str s,.nat (Z5 s ⟨p,bad,un⟩).2.p,.bool (Z5 s ⟨p,bad,un⟩).2.bad,.bool (Z5 s ⟨p,bad,un⟩).2.un,.bool ps]))
 | _,_=>none
noncomputable def QfS:Wk:=⟨[(43,.plain c43),(66,.pure c66),(107,.pure Qrg),(122,.fn c122)],Qe Tryz.f139,true,false,[.tmp 2],[9],[(4,25)],[]⟩
theorem QwV:Has 139:=hsf Tryz.f139
theorem Ug {p q:Prop} (k:q) (h:p:=by first | omega | (have:=UG s t;omega) | (simp;omega) | assumption | (intro h;simp[h]) | (simp;done)):p/\q:=⟨h,k⟩
theorem Qvd:Sat 139 (fnS c139):=by
 have hD:Qa QfS.D:=(Qa.cons Qcl QbV (Qa.cons JO JJ (Qa.cons QkZ Qka (Qa.cons QqM Qpm Qa.nil))))
 refine QfS.sat hD (fn:=Tryz.f139) (by kernel_rfl) (by kernel_rfl) (by kernel_rfl) (by decide) fun svs b K hP=>?_
 obtain⟨ps,o,b',e,hp,hk⟩:=Vy hP
 unfold c139 at e
 split at e
 rename_i s p bad un ps
 cases e
 obtain⟨h01,h02,h03,_⟩:=hp
 have L4:∀(mm:Nat) (t:RS) (acc:Bs),s.length-t.p=mm->t.p<=s.length+1/\acc.length<=t.p*4/\Vv s (bat s p) t acc=Z5 s ⟨p,bad,un⟩->QfS.L K 4 (mkS 110 [(0,(.ptr 0 0)),(3,(.byt (s.getD p 0))),(4,(.str acc))] [(0,.blk 46 [(.str s),(.nat t.p),(.bool t.bad),(.bool t.un),(.bool ps)])] 1):=by
  intro mm
  induction mm using zl with
  | _ mm ih=>
   intro t acc hm hI
   obtain⟨k1,k2,k3⟩:=hI
   refine QfS.aL hD (have a0:=t.p+1<=9223372036854775807;have a1:Option SB:=some (.blk 46 [(.str s),(.nat t.p),(.bool true),(.bool t.un),(.bool ps)]);have a2:=s.length<=1000000;have a3:SV:=.byt (s.getD p 0);cond (decide (t.p<s.length)) (a2/\(t.p<=s.length+1)/\cond (decide (bat s t.p=bat s p)) (a0/\K (.val (.str acc)) (some (.blk 46 [(.str s),(.nat (t.p+1)),(.bool t.bad),(.bool t.un),(.bool ps)]))) (cond (((decide (bat s t.p=10))||(decide (bat s t.p=13)))||(decide (bat s t.p=12))) (K (.val (.str [])) a1) (cond (!(decide (bat s t.p=92))) (a0/\(t.p<=t.p+1/\t.p+1<=s.length)/\(acc.length+((s.take (t.p+1)).drop t.p).length<=2305843009213693952)/\a0/\(QfS).L K 4 (mkS 110 [(0,(.ptr 0 0)),(3,a3),(4,(.str (acc++((s.take (t.p+1)).drop t.p))))] [(0,.blk 46 [(.str s),(.nat (t.p+1)),(.bool t.bad),(.bool t.un),(.bool ps)])] 1)) (a2/\(t.p<=s.length+1)/\cond (Jy s t.p) (a2/\(t.p<=s.length+1)/\(Jy s t.p=true)/\(acc.length+((VQ s t).1).length<=2305843009213693952)/\(QfS).L K 4 (mkS 110 [(0,(.ptr 0 0)),(3,a3),(4,(.str (acc++((VQ s t).1))))] [(0,.blk 46 [(.str s),(.nat ((VQ s t).2.p)),(.bool ((VQ s t).2.bad)),(.bool ((VQ s t).2.un)),(.bool ps)])] 1)) (a0/\a2/\(t.p+1<=s.length+1)/\(2<=1000)/\cond (Q5 s [13,10] (t.p+1)) ((QfS).L K 4 (mkS 110 [(0,(.ptr 0 0)),(3,a3),(4,(.str acc))] [(0,.blk 46 [(.str s),(.nat (t.p+3)),(.bool t.bad),(.bool t.un),(.bool ps)])] 1)) ((t.p+2<=9223372036854775807)/\(QfS).L K 4 (mkS 110 [(0,(.ptr 0 0)),(3,a3),(4,(.str acc))] [(0,.blk 46 [(.str s),(.nat (t.p+2)),(.bool t.bad),(.bool t.un),(.bool ps)])] 1))))))) (K (.val (.str [])) a1)) ?_
   refine Qb ?_ ?_<;>intro h1<;>try simp[-zd]at h1
   refine Ug (Ug ?_)
   refine Qb ?_ ?_<;>intro h2<;>try simp[-zd]at h2
   refine Ug ?_
   exact kst hk (by rw[<-k3];exact Qpq h1 h2)
   refine Qb (fun h3=>?_) (fun h3=>?_)
   try simp[-zd]at h3
   exact kst hk (by rw[<-k3];exact Qpr h1 h2 (by simp[YI];omega))
   try simp[-zd]at h3
   refine Qb ?_ ?_<;>intro h4<;>try simp[-zd]at h4
   refine Ug (Ug (Ug (Ug ?_)))
   rw[cut1 h1]
   exact ih _ (by simp only[RS.go_p];omega) (t.go (t.p+1)) _ rfl ⟨by simp only[RS.go_p];omega,by simp;omega,by rw[<-Qnp h1 h2 (by simp[YI];omega) h4];exact k3⟩
   refine Ug (Ug ?_)
   refine Qb ?_ ?_<;>intro h5<;>try simp[-zd]at h5
   refine Ug (Ug (Ug (Ug ?_)))
   have q1:=UF s t
   have q2:=QdP h5
   have q3:=UG s t
   exact ih _ (by omega) (VQ s t).2 _ rfl ⟨by omega,by simp;omega,by rw[<-Qno h1 h2 h4 h5];exact k3⟩
   refine Ug (Ug (Ug (Ug ?_)))
   refine Qb ?_ ?_<;>intro h6<;>try simp[-zd]at h6
   have q:=lf2 h6
   exact ih _ (by simp only[RS.go_p];omega) (t.go (t.p+1+2)) _ rfl ⟨by simp only[RS.go_p];omega,by simp only[RS.go_p];omega,by rw[<-k3,Qf6 h1 h2 h4 h5,if_pos ⟨q.1,q.2.1,q.2.2⟩]⟩
   refine Ug ?_
   have q:=lf2n h6
   exact ih _ (by simp only[RS.go_p];omega) (t.go (t.p+1+1)) _ rfl ⟨by simp only[RS.go_p];omega,by simp only[RS.go_p];omega,by rw[<-k3,Qf6 h1 h2 h4 h5,if_neg (fun h=>q ⟨h.1,h.2.1,h.2.2⟩)]⟩
   exact kst hk (by rw[<-k3];exact Qpp (by omega))
 refine QfS.en ((s.length<=1000000)/\(p<=s.length+1)/\(p+1<=9223372036854775807)/\(QfS).L K 4 (mkS 110 [(0,(.ptr 0 0)),(3,(.byt (s.getD p 0))),(4,(.str []))] [(0,.blk 46 [(.str s),(.nat (p+1)),(.bool bad),(.bool un),(.bool ps)])] 1)) ?_
 refine Ug (Ug (Ug ?_))
 exact L4 _ (RS.go ⟨p,bad,un⟩ (p+1)) [] rfl ⟨by simp only[RS.go_p];omega,by simp,rfl⟩
 cases e
def c123 (svs:List SV) (b:Option SB):FR:=match svs,b with
 | [.ptr 0 0],some (.blk 46 [.str s,.nat p,.bool bad,.bool un,.bool ps])=>some ([s.length<=1000000,p<=s.length+1],.val (.str (Qs s ⟨p,bad,un⟩).1),
  some (.blk 46 [.str s,.nat (Qs s ⟨p,bad,un⟩).2.p,.bool (Qs s ⟨p,bad,un⟩).2.bad,.bool (Qs s ⟨p,bad,un⟩).2.un,.bool ps]))
 | _,_=>none
noncomputable def W123:Wk:=⟨[(66,.pure c66),(89,.pure c89),(95,.fn c95),(96,.fn c96),(139,.fn c139)],Qe Tryz.f123,true,false,[.tmp 2],[9],[],[]⟩
theorem QqL:Has 123:=hsf Tryz.f123
theorem QeV {p q:Prop} (k:q) (h:p:=by first | omega | (simp;done) | (simp;omega) | assumption | (rcases h1 with h1 | h1<;>exact QW h1 (by decide))):p/\q:=⟨h,k⟩
theorem Qpl:Sat 123 (fnS c123):=by
 have hD:Qa W123.D:=(Qa.cons JO JJ (Qa.cons QgB Qf3 (Qa.cons Qmr QlJ (Qa.cons Qe3 Qeu (Qa.cons QwV Qvd Qa.nil)))))
 refine W123.sat hD (fn:=Tryz.f123) (by kernel_rfl) (by kernel_rfl) (by kernel_rfl) (by decide) fun svs b K hP=>?_
 obtain⟨ps,o,b',e,hp,hk⟩:=Vy hP
 unfold c123 at e
 split at e
 rename_i s p bad un ps
 cases e
 obtain⟨h01,h02,_⟩:=hp
 refine W123.en (have a0:=Qg s (RS.mk p bad (un||VS s p));have a1:=s.length<=1000000;have a2:=Z5 s (RS.mk p bad un);have a3:=Qg s (RS.mk p bad true);have a4:=p<=s.length+1;a1/\a4/\cond ((decide (bat s p=34))||(decide (bat s p=39))) (a1/\a4/\(p<s.length)/\K (.val (.str (a2.1))) (some (.blk 46 [(.str s),(.nat (a2.2.p)),(.bool (a2.2.bad)),(.bool (a2.2.un)),(.bool ps)]))) (a1/\a4/\cond ((!(Vo s p))&&((Qr (bat s p))||(decide (128<=bat s p)))) (a1/\a4/\K (.val (.str (a3.1))) (some (.blk 46 [(.str s),(.nat (a3.2.p)),(.bool (a3.2.bad)),(.bool (a3.2.un)),(.bool ps)]))) (a1/\a4/\K (.val (.str (a0.1))) (some (.blk 46 [(.str s),(.nat (a0.2.p)),(.bool (a0.2.bad)),(.bool (a0.2.un)),(.bool ps)]))))) ?_
 refine QeV (QeV ?_)
 refine Qb ?_ ?_<;>intro h1<;>try simp[-zd]at h1
 refine QeV (QeV (QeV ?_))
 exact kst hk (by unfold Qs;rw[if_pos (by simp[isQ];omega)])
 refine QeV (QeV ?_)
 refine Qb ?_ ?_<;>intro h2<;>try simp[-zd]at h2
 refine QeV (QeV ?_)
 have e:(Qr (bat s p)||decide (128<=bat s p))=true:=by simpa using h2.2
 exact kst hk (by unfold Qs;rw[if_neg (by simp[isQ];omega)];simp[RS.unI,h2.1,e])
 refine QeV (QeV ?_)
 have e:(!Vo s p&&(Qr (bat s p)||decide (128<=bat s p)))=false:=by simpa using h2
 exact kst hk (by unfold Qs;rw[if_neg (by simp[isQ];omega)];simp[RS.unI,e])
 cases e
end
section
open Go Go.RowKit
set_option maxRecDepth 20000
theorem QkA (l:Bs) (i:Nat) (h:i<l.length):(low (l.take i)++l.drop i).getD i 0=l.getD i 0:=by
 have e:(low (l.take i)).length=i:=by simp[low];omega
 rw[zd,List.getElem?_append_right (by omega),e,Nat.sub_self,List.getElem?_drop,Nat.add_zero,zd]
theorem QdW (l:Bs) (i:Nat) (h:i<l.length):(low (l.take i)++l.drop i).set i (Uf (l.getD i 0))=low (l.take (i+1))++l.drop (i+1):=by
 have e:(low (l.take i)).length=i:=by simp[low];omega
 rw[List.set_append_right _ _ (by omega),e,Nat.sub_self,zU,zI h,List.set_cons_zero,zg h]
 simp only[low,List.map_append,zd,zg h,Option.getD_some,Option.toList_some,List.map_cons,List.map_nil,zw,List.singleton_append]
theorem Qb8 (l:Bs) (i:Nat) (h:i<l.length) (hc:Uf (l.getD i 0)=l.getD i 0):low (l.take i)++l.drop i=low (l.take (i+1))++l.drop (i+1):=by
 have e:(low (l.take i)).length=i:=by simp[low];omega
 rw[zU,zI h,zg h]
 simp only[zd,zg h,Option.getD_some]at hc
 simp only[low,List.map_append,Option.toList_some,List.map_cons,List.map_nil,zw,List.singleton_append,hc]
theorem Qd8 (l:Bs) (i:Nat) (h:i<l.length):bat (low (l.take i)++l.drop i) i=bat l i:=by unfold bat;rw[QkA l i h]
def c77 (svs:List SV) (b:Option SB):QR:=match svs,b with
 | [.str l],none=>some ([l.length<=1000000000],.str (low l))
 | _,_=>none
noncomputable def W77:Wk:=⟨[],Qe Tryz.f77,false,false,[.tmp 2],[9],[(3,24)],[]⟩
theorem QgC:Has 77:=hsf Tryz.f77
theorem kgz1 {c0 p0 q:Prop} (k:q) (h:c0->p0/\True:=by intro g0;(try simp at g0);exact⟨(by first | omega | (simp;done) | (simp;omega) | (simp;assumption)),trivial⟩):(c0->p0/\True)/\q:=⟨h,k⟩
theorem QhL {p q:Prop} (k:q) (h:p:=by first | omega | (simp;done) | (simp;omega) | (simp;assumption)):p/\q:=⟨h,k⟩
theorem Qf4:Sat 77 (Qz c77):=by
 have hD:Qa W77.D:=Qa.nil
 refine W77.sa hD Tryz.f77 fun svs b K hP=>?_
 obtain⟨ps,v,e,hp,hk⟩:=Qh hP
 unfold c77 at e
 split at e
 rename_i l
 cases e
 obtain⟨h01,_⟩:=hp
 have L3:∀(mm:Nat) (i:Nat),l.length-i=mm->(i<=l.length)->W77.L K 3 (mkS 33 [(3,(.own 1)),(4,(.nat i))] [(1,.row (.bytes (low (l.take i)++l.drop i)) false)] 2):=by
  intro mm
  induction mm using zl with
  | _ mm ih=>
   intro i hm hI
   have q:(low (l.take i)++l.drop i).length=l.length:=by simp[low];omega
   refine W77.aL hD (have a0:=low (l.take i)++l.drop i;have a1:=(decide (65<=bat a0 i))=true->(i<a0.length)/\True;cond (decide (i<a0.length)) ((i<a0.length)/\(i<a0.length)/\a1/\a1/\cond ((decide (65<=bat a0 i))&&(decide (bat a0 i<=90))) ((i<a0.length)/\(i<a0.length)/\(i<a0.length)/\(i<a0.length)/\(i+1<=9223372036854775807)/\(W77).L K 3 (mkS 33 [(3,(.own 1)),(4,(.nat (i+1)))] [(1,.row (.bytes (a0.set i (a0.getD i 0+32))) false)] 2)) ((i+1<=9223372036854775807)/\(W77).L K 3 (mkS 33 [(3,(.own 1)),(4,(.nat (i+1)))] [(1,.row (.bytes a0) false)] 2))) (K (.val (.str a0)) none)) ?_
   refine Qb ?_ ?_<;>intro h1<;>try simp[-zd]at h1
   refine QhL (QhL (kgz1 (kgz1 ?_)))
   refine Qb ?_ ?_<;>intro h2<;>try simp[-zd]at h2
   refine QhL (QhL (QhL (QhL (QhL ?_))))
   have h0:i<l.length:=by simp[low]at h1;omega
   rw[Qd8 l i h0]at h2
   have e:((low (l.take i)++l.drop i).set i ((low (l.take i)++l.drop i).getD i 0+32))=low (l.take (i+1))++l.drop (i+1):=by
    rw[<-QdW l i h0,QkA l i h0];unfold Uf;rw[if_pos (show 65<=(l.getD i 0).toNat/\(l.getD i 0).toNat<=90 from h2)]
   rw[e]
   exact ih _ (by omega) (i+1) rfl (by omega)
   refine QhL ?_
   have h0:i<l.length:=by simp[low]at h1;omega
   rw[Qd8 l i h0]at h2
   rw[Qb8 l i h0 (by unfold Uf;rw[if_neg (fun h=>by have:=h2 h.1;have h3:bat l i<=90:=h.2;omega)])]
   exact ih _ (by omega) (i+1) rfl (by omega)
   have h0:i=l.length:=by simp[low]at h1;omega
   rw[h0,xg,List.drop_length,List.append_nil]
   exact hk
 refine W77.en ((l.length<=1099511627776)/\(W77).L K 3 (mkS 33 [(3,(.own 1)),(4,(.nat 0))] [(1,.row (.bytes l) false)] 2)) ?_
 refine QhL ?_
 exact L3 _ 0 rfl (by omega)
 cases e
theorem Qiy (l:List (List SelD)) (i:Nat):(l.take i).flatten.length<=l.flatten.length:=by
 conv=>rhs;rw[<-List.take_append_drop i l,xr,zh]
 omega
theorem QgG (l:List (List SelD)) (i:Nat) (h:i<l.length):(l.take (i+1)).flatten=(l.take i).flatten++l.getD i []:=by
 rw[zU,xr,zg h]
 simp[zd,zg h]
def c29i (svs:List SV) (b:Option SB):FR:=match svs,b with
 | [.agg [.int .i64 k,.int .i64 o,.str ke,.str va,.int .i64 a,.int .i64 bb,.int .i64 fl,.int .i64 sz],.sl (.selss l)],none=>some ([l.length<=1000000000,l.flatten.length<=1000000000000],.row (.sels (Qi ⟨k,o,ke,va,a,bb,fl,sz⟩ l.flatten)),none)
 | _,_=>none
noncomputable def W29:Wk:=⟨[],Qe Tryz.f29,false,true,[.tmp 4],[22],[(3,98)],[]⟩
theorem Qcm:Has 29:=hsf Tryz.f29
theorem Qqf {p q:Prop} (k:q) (h:p:=by first | omega | (simp only[zh];have:=q3 h1;omega)):p/\q:=⟨h,k⟩
theorem QuC:Sat 29 (fnS c29i):=by
 have hD:Qa W29.D:=Qa.nil
 refine W29.sa hD Tryz.f29 fun svs b K hP=>?_
 obtain⟨ps,o,b',e,hp,hk⟩:=Vy hP
 unfold c29i at e
 split at e
 rename_i k o ke va a bb fl sz l
 cases e
 obtain⟨h01,h02,_⟩:=hp
 have L3:∀(mm:Nat) (i:Nat) (r:List SelD),l.length-i=mm->(i<=l.length/\r=⟨k,o,ke,va,a,bb,fl,sz⟩::(l.take i).flatten)->W29.L K 3 (mkS 27 [(1,(.sl (.selss l))),(5,(.own 1)),(6,(.nat i))] [(1,.row (.sels r) true)] 2):=by
  intro mm
  induction mm using zl with
  | _ mm ih=>
   intro i r hm hI
   obtain⟨k1,k2⟩:=hI
   have q1:=Qiy l i
   have q2:=Qiy l (i+1)
   have q3:=fun h=>congrArg List.length (QgG l i h)
   have q4:r.length=(l.take i).flatten.length+1:=by rw[k2];simp
   simp only[zh]at q3
   refine W29.aL hD (cond (decide (i<l.length)) ((i<l.length)/\(r.length+(l.getD i []).length<=1099511627776)/\(i+1<=9223372036854775807)/\(W29).L K 3 (mkS 27 [(1,(.sl (.selss l))),(5,(.own 2)),(6,(.nat (i+1)))] [(2,.row (.sels (r++(l.getD i []))) true)] 3)) ((0<r.length)/\(0<r.length)/\K (.row (.sels (r.set 0 { r.getD 0 default with size:=((r.length:Nat):Int) }))) none)) ?_
   refine Qb ?_ ?_<;>intro h1<;>try simp[-zd]at h1
   refine Qqf (Qqf (Qqf ?_))
   exact Wk.L.rn [0,2] (ih _ (by omega) (i+1) (r++l.getD i []) rfl ⟨by omega,by rw[k2,QgG l i h1];simp⟩)
   refine Qqf (Qqf ?_)
   refine keq hk ?_ rfl
   rw[k2,show i=l.length from by omega,xg]
   simp[Qi,Ql]
 refine W29.en ((W29).L K 3 (mkS 27 [(1,(.sl (.selss l))),(5,(.own 2)),(6,(.nat 0))] [(2,.row (.sels [SelD.mk k o ke va a bb fl sz]) true),(1,.blk 33 [(.int .i64 k),(.int .i64 o),(.str ke),(.str va),(.int .i64 a),(.int .i64 bb),(.int .i64 fl),(.int .i64 sz)])] 3)) ?_
 exact Wk.L.rn [0,2] (L3 _ 0 [⟨k,o,ke,va,a,bb,fl,sz⟩] rfl ⟨by omega,by simp⟩)
 cases e
def c29 (svs:List SV) (b:Option SB):FR:=match svs,b with
 | [x,k],none=>match Qdf x,Qg1 k with
  | some x,some l=>some ([l.length<=1000000000,l.flatten.length<=1000000000000],.row (.sels (Qi x l.flatten)),none)
  | _,_=>none
 | _,_=>none
theorem QbW:Sat 29 (fnS c29):=by
 refine Sat.wk QuC fun svs b K h=>?_
 obtain⟨ps,o,b',e,hp,hk⟩:=Vy h
 unfold c29 at e
 split at e
 rename_i x k
 split at e
 rename_i x' l hx hl
 cases e
 refine⟨[.agg (Yl x'),.sl (.selss l)],⟨fun ω v=>Qcz hx,fun ω v=>Qiv hl ω v,trivial⟩,?_⟩
 exact⟨hp.1,hp.2.1,hk⟩
 cases e
 cases e
def Uz (l:List SelD) (i:Nat):List SelD:=if l.length<=i then [] else (l.take ((i:Int)+(l.getD i default).size).toNat).drop i
def ZH (l:List SelD) (fin:Int) (k:Nat):List Nat:=
 if (k:Int)<fin/\k<l.length then k::ZH l fin (k+(max 1 (l.getD k default).size).toNat) else []
 termination_by l.length-k
 decreasing_by have:1<=(max 1 (l.getD k default).size).toNat:=by omega
               omega
theorem QkM (l:List SelD) (fin:Int) (k:Nat):(ZH l fin k).length<=l.length-k:=by
 fun_induction ZH l fin k with
 | case1 k h ih=>simp only[zj];omega
 | case2=>simp
def Vi (l:List SelD) (i:Nat):List Nat:=ZH l ((i:Int)+(l.getD i default).size) (i+1)
def c24 (svs:List SV) (b:Option SB):QR:=match svs,b with
 | [.sl (.sels l),.nat i],none=>some ([i<=1000000000000/\l.length<=1000000000000,i<l.length->0<=(l.getD i default).size/\(i:Int)+(l.getD i default).size<=l.length],.sl (.sels (Uz l i)))
 | _,_=>none
noncomputable def W24:Wk:=⟨[],Qe Tryz.f24,false,false,[.tmp 4],[22],[],[]⟩
theorem has24:Has 24:=hsf Tryz.f24
theorem kgz3 {p q:Prop} (k:q) (h:p:=by first | omega | (have:=h02 (by omega);unfold inI;omega) | (have:=h02 (by omega);omega)):p/\q:=⟨h,k⟩
theorem sat24:Sat 24 (Qz c24):=by
 have hD:Qa W24.D:=Qa.nil
 refine W24.sa hD Tryz.f24 fun svs b K hP=>?_
 obtain⟨ps,v,e,hp,hk⟩:=Qh hP
 unfold c24 at e
 split at e
 rename_i l i
 cases e
 obtain⟨h01,h02,_⟩:=hp
 refine W24.en (have a0:=((i:Nat):Int)+(l.getD i default).size;cond (decide (l.length<=i)) (K (.val (.sl (.sels []))) none) ((i<l.length)/\(inI a0)/\(0<=a0)/\(i<=(a0).toNat/\(a0).toNat<=l.length)/\K (.val (.sl (.sels ((l.take ((a0).toNat)).drop i)))) none)) ?_
 refine Qb ?_ ?_<;>intro h1<;>try simp[-zd]at h1
 unfold Uz at hk
 rw[if_pos h1]at hk
 exact hk
 refine kgz3 (kgz3 (kgz3 (kgz3 ?_)))
 unfold Uz at hk
 rw[if_neg (by omega)]at hk
 exact hk
 cases e
def c17 (svs:List SV) (b:Option SB):FR:=match svs,b with
 | [.sl (.sels l),.nat i],none=>some ([i<l.length/\l.length<=1000000000000,0<=(l.getD i default).size/\(i:Int)+(l.getD i default).size<=l.length,∀k,k∈Vi l i->(l.getD k default).size<=1000000000000],.row (.ints (Vi l i)),none)
 | _,_=>none
noncomputable def W17:Wk:=⟨[],Qe Tryz.f17,false,true,[.tmp 4],[34],[(3,99)],[]⟩
theorem Qug:Has 17:=hsf Tryz.f17
theorem QnW {p q:Prop} (k:q) (h:p:=by first | omega | (unfold inI;omega) | (have:=h03 k (by rw[k1,ZH,if_pos ⟨h1,by omega⟩];simp);unfold inI;omega) | (simp only[zF];omega)):p/\q:=⟨h,k⟩
theorem QtR:Sat 17 (fnS c17):=by
 have hD:Qa W17.D:=Qa.nil
 refine W17.sa hD Tryz.f17 fun svs b K hP=>?_
 obtain⟨ps,o,b',e,hp,hk⟩:=Vy hP
 unfold c17 at e
 split at e
 rename_i l i
 cases e
 obtain⟨h01,h02,h03,_⟩:=hp
 have L3:∀(mm:Nat) (k:Nat) (r:List Nat),l.length-k=mm->(Vi l i=r++ZH l ((i:Int)+(l.getD i default).size) k/\r.length<=k)->W17.L K 3 (mkS 31 [(0,(.sl (.sels l))),(1,(.nat i)),(5,(.own 1)),(6,(.nat k))] [(1,.row (.ints r) true)] 2):=by
  intro mm
  induction mm using zl with
  | _ mm ih=>
   intro k r hm hI
   obtain⟨k1,k2⟩:=hI
   refine W17.aL hD (have a0:=((k:Nat):Int)+(max (1:Int) ((l.getD k default).size));(i<l.length)/\(inI (((i:Nat):Int)+(l.getD i default).size))/\cond (decide (((k:Nat):Int)<(((i:Nat):Int)+(l.getD i default).size))) ((r.length+1<=1099511627776)/\(k<l.length)/\(inI a0)/\(W17).L K 3 (mkS 31 [(0,(.sl (.sels l))),(1,(.nat i)),(5,(.own 3)),(6,(.int .i64 a0))] [(3,.row (.ints (r++[k])) true)] 4)) (K (.row (.ints r)) none)) ?_
   refine QnW (QnW ?_)
   refine Qb ?_ ?_<;>intro h1<;>try simp[-zd]at h1
   refine QnW (QnW (QnW ?_))
   have e0:((k:Int)+max 1 (l.getD k default).size)=((k+(max 1 (l.getD k default).size).toNat:Nat):Int):=by omega
   rw[e0]
   exact Wk.L.rn [0,3] (ih _ (by omega) (k+(max 1 (l.getD k default).size).toNat) (r++[k]) rfl ⟨by
    rw[k1]
    conv=>lhs;rw[ZH]
    rw[if_pos ⟨h1,by omega⟩]
    simp,by simp only[zh,zF];omega⟩)
   rw[ZH,if_neg (by omega),List.append_nil]at k1
   rw[k1]at hk
   exact hk
 refine W17.en ((i+1<=9223372036854775807)/\(W17).L K 3 (mkS 31 [(0,(.sl (.sels l))),(1,(.nat i)),(5,.nilsl),(6,(.nat (i+1)))] [] 1)) ?_
 refine QnW ?_
 exact Wk.L.le (V9.adopt 5 (T:=34) (x:=.ints []) (by kernel_rfl) (by kernel_rfl)) (Wk.L.rn [0,1] (L3 _ (i+1) [] rfl ⟨rfl,by simp⟩))
 cases e
end
section
open Go Go.RowKit
set_option maxRecDepth 20000
theorem V7 {K:Out->Option SB->Prop} {s:Bs} {ps:Bool} {r:List SelD×RS} {v:List SelD} {p:Nat} {b u:Bool}
 (hk:K (.row (.sels r.1)) (some (.blk 46 [.str s,.nat r.2.p,.bool r.2.bad,.bool r.2.un,.bool ps]))) (e:r=(v,⟨p,b,u⟩)) :
 K (.row (.sels v)) (some (.blk 46 [.str s,.nat p,.bool b,.bool u,.bool ps])):=by rw[e]at hk;exact hk
theorem Ju (s:Bs) (t:RS) (h:t.p<=s.length+1):(Qs s t).2.p<=s.length+1:=by
 refine Qnk s t ?_
 by_cases hl:t.p<s.length
 exact .inl hl
 exact .inr ⟨h,by rw[bat_out (by omega)];rfl⟩
theorem Qr9 (s:Bs) (t:RS) (acc:Bs):(VZ s t acc).1.length+4*t.p<=acc.length+4*(VZ s t acc).2.p:=by
 fun_induction VZ s t acc with
 | case1 t acc h1 h2 ih=>simp only[RS.go_p,zh,zF]at ih;omega
 | case2 t acc h1 h2 h3 ih=>
  simp only[zh]at ih
  have:=UG s t
  have:=UF s t
  omega
 | case3=>exact zm _
 | case4=>exact zm _
theorem YB (s:Bs) (t:RS) (h:t.p<=s.length+1):(Qg s t).1.length<=4*(s.length+1):=by
 have hl:=Z9 s t h
 unfold Qg at hl ⊢
 split
 rename_i q
 rw[if_pos q]at hl
 have:=Qr9 s (t.unI (VS s t.p)) []
 simp only[zo,RS.unI_p]at this
 omega
 simp
theorem h93t {s:Bs} {p:Nat} (h:Q5 s [93] p=true):bat s p=93:=by
 rw[ZX s p 93 (by decide)]at h;exact of_decide_eq_true h
theorem h93f {s:Bs} {p:Nat} (h:Q5 s [93] p=false):¬bat s p=93:=by
 rw[ZX s p 93 (by decide)]at h;exact of_decide_eq_false h
theorem h40t {s:Bs} {p:Nat} (h:Q5 s [40] p=true):bat s p=40:=by
 rw[ZX s p 40 (by decide)]at h;exact of_decide_eq_true h
theorem h40f {s:Bs} {p:Nat} (h:Q5 s [40] p=false):¬bat s p=40:=by
 rw[ZX s p 40 (by decide)]at h;exact of_decide_eq_false h
theorem U5 {s:Bs} {p:Nat} (h:Q5 s [41] p=true):bat s p=41:=by
 rw[ZX s p 41 (by decide)]at h;exact of_decide_eq_true h
theorem Qn8 {s:Bs} {p:Nat} (h:Q5 s [41] p=false):¬bat s p=41:=by
 rw[ZX s p 41 (by decide)]at h;exact of_decide_eq_false h
theorem h44t {s:Bs} {p:Nat} (h:Q5 s [44] p=true):bat s p=44:=by
 rw[ZX s p 44 (by decide)]at h;exact of_decide_eq_true h
theorem h44f {s:Bs} {p:Nat} (h:Q5 s [44] p=false):¬bat s p=44:=by
 rw[ZX s p 44 (by decide)]at h;exact of_decide_eq_false h
theorem h58t {s:Bs} {p:Nat} (h:Q5 s [58] p=true):bat s p=58:=by
 rw[ZX s p 58 (by decide)]at h;exact of_decide_eq_true h
theorem h58f {s:Bs} {p:Nat} (h:Q5 s [58] p=false):¬bat s p=58:=by
 rw[ZX s p 58 (by decide)]at h;exact of_decide_eq_false h
theorem Qn7 {s:Bs} {p:Nat} (h:Q5 s [42] p=true):bat s p=42:=by
 rw[ZX s p 42 (by decide)]at h;exact of_decide_eq_true h
theorem h42f {s:Bs} {p:Nat} (h:Q5 s [42] p=false):¬bat s p=42:=by
 rw[ZX s p 42 (by decide)]at h;exact of_decide_eq_false h
theorem UH {s:Bs} {c:Nat} {x:SelD} {k:List SelD} {t:RS} (h:bat s t.p=c):ZZ s c x k t=(Qi x k,t.go (t.p+1)):=by unfold ZZ;rw[if_pos h]
theorem UI {s:Bs} {c:Nat} {x:SelD} {k:List SelD} {t:RS} (h:¬bat s t.p=c):ZZ s c x k t=(failL,t.no):=by unfold ZZ;rw[if_neg h]
def Uj:List Bs:=[[],[],[61],[33,61],[126,61],[124,61],[94,61],[36,61],[42,61]]
theorem QlE {s:Bs} {p:Nat} {k:Nat} (hk:k<=9) (h:∀j,2<=j->j<k->Q5 s (Uj.getD j []) p=false) :
 (2<k->bat s p≠61)/\(3<k->¬(bat s p=33/\bat s (p+1)=61))/\(4<k->¬(bat s p=126/\bat s (p+1)=61))/\(5<k->¬(bat s p=124/\bat s (p+1)=61)) /\
 (6<k->¬(bat s p=94/\bat s (p+1)=61))/\(7<k->¬(bat s p=36/\bat s (p+1)=61))/\(8<k->¬(bat s p=42/\bat s (p+1)=61)):=by
 have two:∀a:UInt8,Q5 s [a,61] p=false->¬(bat s p=a.toNat/\bat s (p+1)=61):=by
  intro a h
  rw[Qbe s p a 61 (by decide)]at h
  exact of_decide_eq_false h
 refine⟨fun q=>?_,fun q=>two 33 (h 3 (by omega) q),fun q=>two 126 (h 4 (by omega) q),fun q=>two 124 (h 5 (by omega) q),fun q=>two 94 (h 6 (by omega) q),fun q=>two 36 (h 7 (by omega) q),fun q=>two 42 (h 8 (by omega) q)⟩
 have:=h 2 (by omega) q
 rw[show Uj.getD 2 []=[61] from rfl,ZX s p 61 (by decide)]at this
 exact of_decide_eq_false this
theorem Qnb {s:Bs} {p:Nat} (h:∀j,2<=j->j<9->Q5 s (Uj.getD j []) p=false):V6 s p=(1,0):=by
 obtain⟨h2,h3,h4,h5,h6,h7,h8⟩:=QlE (zm 9) h
 unfold V6
 rw[if_neg (h2 (by omega))]
 split
 rename_i e
 rw[if_neg (fun q=>h3 (by omega) ⟨q,e⟩),if_neg (fun q=>h4 (by omega) ⟨q,e⟩),if_neg (fun q=>h5 (by omega) ⟨q,e⟩),if_neg (fun q=>h6 (by omega) ⟨q,e⟩),if_neg (fun q=>h7 (by omega) ⟨q,e⟩),if_neg (fun q=>h8 (by omega) ⟨q,e⟩)]
 rfl
theorem Qna {s:Bs} {p:Nat} {k:Nat} (h1:2<=k) (h2:k<9) (h:∀j,2<=j->j<k->Q5 s (Uj.getD j []) p=false) (hh:Q5 s (Uj.getD k []) p=true) :
 V6 s p=(((k:Nat):Int),(Uj.getD k []).length)/\p+(Uj.getD k []).length<=s.length:=by
 have hl:p+(Uj.getD k []).length<=s.length:=by
  unfold Q5 at hh
  simp only[zk,decide_eq_true_eq]at hh
  exact hh.1
 refine⟨?_,hl⟩
 obtain⟨n2,n3,n4,n5,n6,n7,n8⟩:=QlE (xD h2) h
 have two:∀a:UInt8,Q5 s [a,61] p=true->bat s p=a.toNat/\bat s (p+1)=61:=by
  intro a h
  rw[Qbe s p a 61 (by decide)]at h
  exact of_decide_eq_true h
 unfold V6
 obtain rfl | rfl | rfl | rfl | rfl | rfl | rfl:k=2\/k=3\/k=4\/k=5\/k=6\/k=7\/k=8:=by omega
 rw[show Uj.getD 2 []=[61] from rfl,ZX s p 61 (by decide)]at hh
 have e:bat s p=61:=of_decide_eq_true hh
 rw[if_pos e];rfl
 obtain⟨e1,e2⟩:=two 33 hh
 rw[if_neg (by rw[e1];decide),if_pos e2,e1];rfl
 obtain⟨e1,e2⟩:=two 126 hh
 rw[if_neg (by rw[e1];decide),if_pos e2,e1];rfl
 obtain⟨e1,e2⟩:=two 124 hh
 rw[if_neg (by rw[e1];decide),if_pos e2,e1];rfl
 obtain⟨e1,e2⟩:=two 94 hh
 rw[if_neg (by rw[e1];decide),if_pos e2,e1];rfl
 obtain⟨e1,e2⟩:=two 36 hh
 rw[if_neg (by rw[e1];decide),if_pos e2,e1];rfl
 obtain⟨e1,e2⟩:=two 42 hh
 rw[if_neg (by rw[e1];decide),if_pos e2,e1];rfl
theorem QbT {k:Nat} (h:k<9):(Uj.getD k []).length<=1000:=by
 obtain rfl | rfl | rfl | rfl | rfl | rfl | rfl | rfl | rfl:k=0\/k=1\/k=2\/k=3\/k=4\/k=5\/k=6\/k=7\/k=8:=by omega
 all_goals decide
theorem QrU {k:Nat} (h:k<9):(Uj.getD k []).length<=2:=by
 obtain rfl | rfl | rfl | rfl | rfl | rfl | rfl | rfl | rfl:k=0\/k=1\/k=2\/k=3\/k=4\/k=5\/k=6\/k=7\/k=8:=by omega
 all_goals decide
def c110 (svs:List SV) (b:Option SB):FR:=match svs,b with
 | [.ptr 0 0],some (.blk 46 [.str s,.nat p,.bool bad,.bool un,.bool ps])=>some ([s.length<=1000000,p<=s.length+1],.row (.sels (Zy s ⟨p,bad,un⟩).1),
  some (.blk 46 [.str s,.nat (Zy s ⟨p,bad,un⟩).2.p,.bool (Zy s ⟨p,bad,un⟩).2.bad,.bool (Zy s ⟨p,bad,un⟩).2.un,.bool ps]))
 | _,_=>none
noncomputable def Qip:Wk:=⟨[(29,.fn c29),(43,.plain c43),(64,.fn c64),(66,.pure c66),(68,.fn c68),(77,.pure c77),(96,.fn c96),(123,.fn c123)],Qe Tryz.f110,true,true,[.tmp 2],[22],[(10,57)],[]⟩
theorem Qxg:Has 110:=hsf Tryz.f110
theorem khz2 {c0 p0 p1 q:Prop} (k:q) (h:c0->p0/\p1/\True:=by intro g0;(try simp at g0);exact⟨(by first | omega | (simp;done) | exact QbT ‹_›   | (have a1:=QB s ⟨p,bad,un⟩ h02;have a2:=Z9 s _ a1;have a3:=QB s _ a2;have a4:=YB s _ a1;first | exact a1 | exact a2 | exact a3 | omega)   | (have a1:=QB s t k1;have a2:=Ju s _ a1;have a3:=QB s _ a2;first | exact a1 | exact a2 | exact a3 | omega)   | (have a1:=QB s t k1;have a2:=Ju s _ a1;have a3:=QB s _ a2;have a0:=h3.2;have a4:(sSp s (Qs s (sSp s t)).2).p<s.length:=(by rcases a0 with a0 | a0<;>exact QW a0 (by decide));first | omega | (have a5:=QB s ⟨(sSp s (Qs s (sSp s t)).2).p+1,(sSp s (Qs s (sSp s t)).2).bad,(sSp s (Qs s (sSp s t)).2).un⟩ (by show _+1<=_;omega);first | exact a5 | omega))),(by first | omega | (simp;done) | exact QbT ‹_›   | (have a1:=QB s ⟨p,bad,un⟩ h02;have a2:=Z9 s _ a1;have a3:=QB s _ a2;have a4:=YB s _ a1;first | exact a1 | exact a2 | exact a3 | omega)   | (have a1:=QB s t k1;have a2:=Ju s _ a1;have a3:=QB s _ a2;first | exact a1 | exact a2 | exact a3 | omega)   | (have a1:=QB s t k1;have a2:=Ju s _ a1;have a3:=QB s _ a2;have a0:=h3.2;have a4:(sSp s (Qs s (sSp s t)).2).p<s.length:=(by rcases a0 with a0 | a0<;>exact QW a0 (by decide));first | omega | (have a5:=QB s ⟨(sSp s (Qs s (sSp s t)).2).p+1,(sSp s (Qs s (sSp s t)).2).bad,(sSp s (Qs s (sSp s t)).2).un⟩ (by show _+1<=_;omega);first | exact a5 | omega))),trivial⟩):(c0->p0/\p1/\True)/\q:=⟨h,k⟩
theorem YC {p q:Prop} (k:q) (h:p:=by first | omega | (simp;done) | exact QbT ‹_›   | (have a1:=QB s ⟨p,bad,un⟩ h02;have a2:=Z9 s _ a1;have a3:=QB s _ a2;have a4:=YB s _ a1;first | exact a1 | exact a2 | exact a3 | omega)   | (have a1:=QB s t k1;have a2:=Ju s _ a1;have a3:=QB s _ a2;first | exact a1 | exact a2 | exact a3 | omega)   | (have a1:=QB s t k1;have a2:=Ju s _ a1;have a3:=QB s _ a2;have a0:=h3.2;have a4:(sSp s (Qs s (sSp s t)).2).p<s.length:=(by rcases a0 with a0 | a0<;>exact QW a0 (by decide));first | omega | (have a5:=QB s ⟨(sSp s (Qs s (sSp s t)).2).p+1,(sSp s (Qs s (sSp s t)).2).bad,(sSp s (Qs s (sSp s t)).2).un⟩ (by show _+1<=_;omega);first | exact a5 | omega))):p/\q:=⟨h,k⟩
theorem khz0 {c0 p0 q:Prop} (k:q) (h:c0->p0/\True:=by intro g0;(try simp at g0);exact⟨(by first | omega | (simp;done) | exact QbT ‹_›   | (have a1:=QB s ⟨p,bad,un⟩ h02;have a2:=Z9 s _ a1;have a3:=QB s _ a2;have a4:=YB s _ a1;first | exact a1 | exact a2 | exact a3 | omega)   | (have a1:=QB s t k1;have a2:=Ju s _ a1;have a3:=QB s _ a2;first | exact a1 | exact a2 | exact a3 | omega)   | (have a1:=QB s t k1;have a2:=Ju s _ a1;have a3:=QB s _ a2;have a0:=h3.2;have a4:(sSp s (Qs s (sSp s t)).2).p<s.length:=(by rcases a0 with a0 | a0<;>exact QW a0 (by decide));first | omega | (have a5:=QB s ⟨(sSp s (Qs s (sSp s t)).2).p+1,(sSp s (Qs s (sSp s t)).2).bad,(sSp s (Qs s (sSp s t)).2).un⟩ (by show _+1<=_;omega);first | exact a5 | omega))),trivial⟩):(c0->p0/\True)/\q:=⟨h,k⟩
theorem Qvy:Sat 110 (fnS c110):=by
 have hD:Qa Qip.D:=(Qa.cons Qcm QbW (Qa.cons Qcl QbV (Qa.cons Qms QlK (Qa.cons JO JJ (Qa.cons Qjv QiG (Qa.cons QgC Qf4 (Qa.cons Qe3 Qeu (Qa.cons QqL Qpl Qa.nil))))))))
 refine Qip.sat hD (fn:=Tryz.f110) (by kernel_rfl) (by kernel_rfl) (by kernel_rfl) (by decide) fun svs b K hP=>?_
 obtain⟨ps,o,b',e,hp,hk⟩:=Vy hP
 unfold c110 at e
 split at e
 rename_i s p bad un ps
 cases e
 obtain⟨h01,h02,_⟩:=hp
 have L10:∀(mm:Nat) (i op:Nat) (key:Bs) (t t1:RS),9-i=mm->t.p<=s.length+1/\2<=i/\i<=9/\Zy s ⟨p,bad,un⟩=Y0 s key t1/\t1.bad=false/\((op=1/\t=t1/\∀j,2<=j->j<i->Q5 s (Uj.getD j []) t.p=false)\/(op≠1/\(V6 s t1.p).1=op/\t=t1.go (t1.p+(V6 s t1.p).2)))->Qip.L K 10 (mkS 115 [(0,(.ptr 0 0)),(3,(.ptr 1 0)),(4,(.own 2)),(5,(.nat i))] [(0,.blk 46 [(.str s),(.nat t.p),(.bool t.bad),(.bool t.un),(.bool ps)]),(1,.blk 33 [(.nat 5),(.nat op),(.str key),(.str []),(.nat 0),(.nat 0),(.nat 0),(.nat 0)]),(2,.row (.strs [[],[],[61],[33,61],[126,61],[124,61],[94,61],[36,61],[42,61]]) true)] 3):=by
  intro mm
  induction mm using zl with
  | _ mm ih=>
   intro i op key t t1 hm hI
   obtain⟨k1,k2,k3,k4,k5,k6⟩:=hI
   refine Qip.aL hD (have a0:=sSp s ((Qs s (sSp s t)).2);have a1:=mkS 115 [(0,(.ptr 0 0)),(3,(.ptr 1 0)),(4,(.own 2)),(5,(.nat (i+1)))] [(0,.blk 46 [(.str s),(.nat t.p),(.bool t.bad),(.bool t.un),(.bool ps)]),(1,.blk 33 [(.nat 5),(.nat op),(.str key),(.str []),(.nat 0),(.nat 0),(.nat 0),(.nat 0)]),(2,.row (.strs [[],[],[61],[33,61],[126,61],[124,61],[94,61],[36,61],[42,61]]) true)] 3;have a2:=sSp s (RS.mk (a0.p+1) (a0.bad) (a0.un));have a3:=([[],[],[61],[33,61],[126,61],[124,61],[94,61],[36,61],[42,61]]:List (List UInt8)).getD i [];have a4:=s.length<=1000000;have a5:Out:=.row (.sels (Qi (SelD.mk (5:Int) ((op:Nat):Int) key ((Qs s (sSp s t)).1) (0:Int) (0:Int) (0:Int) (0:Int)) ([]:List (List SelD)).flatten));have a6:=([]:List (List SelD)).flatten.length<=1000000000000;have a7:=([]:List (List SelD)).length<=1000000000;have a8:=t.p<=s.length+1;have a9:=decide (op=1);have a10:=i+1<=9223372036854775807;have a11:Out:=.row (.sels failL);cond (decide (i<9)) ((a9=true->(i<9)/\True)/\(a9=true->(i<9)/\True)/\(a9=true->a4/\a8/\(a3.length<=1000)/\cond (Q5 s a3 t.p) (a10/\(Qip).L K 10 (mkS 115 [(0,(.ptr 0 0)),(3,(.ptr 1 0)),(4,(.own 2)),(5,(.nat (i+1)))] [(0,.blk 46 [(.str s),(.nat (t.p+a3.length)),(.bool t.bad),(.bool t.un),(.bool ps)]),(1,.blk 33 [(.nat 5),(.nat i),(.str key),(.str []),(.nat 0),(.nat 0),(.nat 0),(.nat 0)]),(2,.row (.strs [[],[],[61],[33,61],[126,61],[124,61],[94,61],[36,61],[42,61]]) true)] 3)) (a10/\(Qip).L K 10 a1))/\(a9=false->a10/\(Qip).L K 10 a1)) (cond a9 ((t.un=false->a4/\a8/\True)/\((t.un||(decide (bat s t.p=124)))=false->a4/\a8/\True)/\K a11 (some (.blk 46 [(.str s),(.nat t.p),(.bool true),(.bool ((t.un||(decide (bat s t.p=124)))||(decide (bat s t.p=35)))),(.bool ps)]))) (a4/\a8/\a4/\((sSp s t).p<=s.length+1)/\a4/\((Qs s (sSp s t)).2.p<=s.length+1)/\a4/\(a0.p<=s.length+1)/\cond ((!a0.bad)&&((decide (bat s (a0.p)=105))||(decide (bat s (a0.p)=73)))) ((a0.p+1<=9223372036854775807)/\a4/\(a0.p+1<=s.length+1)/\a4/\(a2.p<=s.length+1)/\(1<=1000)/\cond (Q5 s [93] (a2.p)) (a7/\a6/\K (.row (.sels (Qi (SelD.mk (5:Int) ((op:Nat):Int) key ((Qs s (sSp s t)).1) (0:Int) (0:Int) (1:Int) (0:Int)) ([]:List (List SelD)).flatten))) (some (.blk 46 [(.str s),(.nat (a2.p+1)),(.bool (a2.bad)),(.bool (a2.un)),(.bool ps)]))) (K a11 (some (.blk 46 [(.str s),(.nat (a2.p)),(.bool true),(.bool (a2.un)),(.bool ps)])))) (cond ((decide (bat s (a0.p)=115))||(decide (bat s (a0.p)=83))) (a4/\(a0.p<=s.length+1)/\(1<=1000)/\cond (Q5 s [93] (a0.p)) (a7/\a6/\K a5 (some (.blk 46 [(.str s),(.nat (a0.p+1)),(.bool (a0.bad)),(.bool true),(.bool ps)]))) (K a11 (some (.blk 46 [(.str s),(.nat (a0.p)),(.bool true),(.bool true),(.bool ps)])))) (a4/\(a0.p<=s.length+1)/\(1<=1000)/\cond (Q5 s [93] (a0.p)) (a7/\a6/\K a5 (some (.blk 46 [(.str s),(.nat (a0.p+1)),(.bool (a0.bad)),(.bool (a0.un)),(.bool ps)]))) (K a11 (some (.blk 46 [(.str s),(.nat (a0.p)),(.bool true),(.bool (a0.un)),(.bool ps)])))))))) ?_
   refine Qb ?_ ?_<;>intro h1<;>try simp[-zd]at h1
   refine khz0 (khz0 ?_)
   refine⟨fun h2=>?_,fun h2=>?_⟩
   try simp[-zd]at h2
   refine YC (YC (YC ?_))
   refine Qb ?_ ?_<;>intro h3<;>try simp[-zd]at h3
   refine YC ?_
   rcases k6 with ⟨q1,q2,q3⟩ | ⟨q1,_⟩
   subst q2
   have q4:=Qna k2 h1 q3 h3
   have q5:=QrU h1
   exact ih _ (by omega) (i+1) i key (t.go (t.p+(Uj.getD i []).length)) t rfl ⟨by simp only[RS.go_p];omega,by omega,by omega,k4,k5,.inr ⟨by omega,by rw[q4.1],by rw[q4.1]⟩⟩
   exact absurd h2 q1
   refine YC ?_
   rcases k6 with ⟨q1,q2,q3⟩ | ⟨q1,_⟩
   . exact ih _ (by omega) (i+1) op key t t1 rfl ⟨by omega,by omega,by omega,k4,k5,.inl ⟨q1,q2,fun j j1 j2=>by
     by_cases e:j=i
     rw[e];exact h3
     exact q3 j j1 (by omega)⟩⟩
   exact absurd h2 q1
   try simp[-zd]at h2
   refine YC ?_
   rcases k6 with ⟨q1,_⟩ | q
   exact absurd q1 h2
   exact ih _ (by omega) (i+1) op key t t1 rfl ⟨by omega,by omega,by omega,k4,k5,.inr q⟩
   refine Qb (fun h2=>?_) (fun h2=>?_)
   try simp[-zd]at h2
   refine khz2 (khz2 ?_)
   rcases k6 with ⟨q1,q2,q3⟩ | ⟨q1,_⟩
   subst q2
   refine V7 hk ?_
   rw[k4]
   unfold Y0
   rw[if_pos (by rw[Qnb (fun j j1 j2=>q3 j j1 (by omega))])]
   simp[RS.unI,RS.no,zY]
   exact absurd h2 q1
   try simp[-zd]at h2
   refine YC (YC (YC (YC (YC (YC (YC (YC ?_)))))))
   refine Qb ?_ ?_<;>intro h3<;>try simp[-zd]at h3
   refine YC (YC (YC (YC (YC (YC ?_)))))
   refine Qb ?_ ?_<;>intro h4<;>try simp[-zd]at h4
   refine YC (YC ?_)
   rcases k6 with ⟨q1,_⟩ | ⟨q1,q2,q3⟩
   exact absurd q1 h2
   refine V7 hk ?_
   rw[k4]
   unfold Y0
   rw[if_neg (by rw[q2];omega),<-q3,q2]
   unfold Zb
   rw[if_pos h3,UH (show bat s (sSp s ((sSp s (Qs s (sSp s t)).2).go ((sSp s (Qs s (sSp s t)).2).p+1))).p=93 from h93t h4)]
   rfl
   rcases k6 with ⟨q1,_⟩ | ⟨q1,q2,q3⟩
   exact absurd q1 h2
   refine V7 hk ?_
   rw[k4]
   unfold Y0
   rw[if_neg (by rw[q2];omega),<-q3,q2]
   unfold Zb
   rw[if_pos h3,UI (show ¬bat s (sSp s ((sSp s (Qs s (sSp s t)).2).go ((sSp s (Qs s (sSp s t)).2).p+1))).p=93 from h93f h4)]
   rfl
   refine Qb (fun h4=>?_) (fun h4=>?_)
   try simp[-zd]at h4
   refine YC (YC (YC ?_))
   refine Qb ?_ ?_<;>intro h5<;>try simp[-zd]at h5
   refine YC (YC ?_)
   rcases k6 with ⟨q1,_⟩ | ⟨q1,q2,q3⟩
   exact absurd q1 h2
   refine V7 hk ?_
   rw[k4]
   unfold Y0
   rw[if_neg (by rw[q2];omega),<-q3,q2]
   unfold Zb
   rw[if_neg (by simp only[not_and,not_or];exact fun a=>by simpa using h3 a),UH (show bat s (RS.unI (sSp s (Qs s (sSp s t)).2) _).p=93 from h93t h5),show (decide (bat s (sSp s (Qs s (sSp s t)).2).p=115)||decide (bat s (sSp s (Qs s (sSp s t)).2).p=83))=true from by simpa using h4]
   simp[RS.unI,RS.go]
   rcases k6 with ⟨q1,_⟩ | ⟨q1,q2,q3⟩
   exact absurd q1 h2
   refine V7 hk ?_
   rw[k4]
   unfold Y0
   rw[if_neg (by rw[q2];omega),<-q3,q2]
   unfold Zb
   rw[if_neg (by simp only[not_and,not_or];exact fun a=>by simpa using h3 a),UI (show ¬bat s (RS.unI (sSp s (Qs s (sSp s t)).2) _).p=93 from h93f h5),show (decide (bat s (sSp s (Qs s (sSp s t)).2).p=115)||decide (bat s (sSp s (Qs s (sSp s t)).2).p=83))=true from by simpa using h4]
   simp[RS.unI,RS.no]
   try simp[-zd]at h4
   refine YC (YC (YC ?_))
   refine Qb ?_ ?_<;>intro h5<;>try simp[-zd]at h5
   refine YC (YC ?_)
   rcases k6 with ⟨q1,_⟩ | ⟨q1,q2,q3⟩
   exact absurd q1 h2
   refine V7 hk ?_
   rw[k4]
   unfold Y0
   rw[if_neg (by rw[q2];omega),<-q3,q2]
   unfold Zb
   rw[if_neg (by simp only[not_and,not_or];exact fun a=>by simpa using h3 a),UH (show bat s (RS.unI (sSp s (Qs s (sSp s t)).2) _).p=93 from h93t h5),show (decide (bat s (sSp s (Qs s (sSp s t)).2).p=115)||decide (bat s (sSp s (Qs s (sSp s t)).2).p=83))=false from by simpa using h4]
   simp[RS.unI,RS.go]
   rcases k6 with ⟨q1,_⟩ | ⟨q1,q2,q3⟩
   exact absurd q1 h2
   refine V7 hk ?_
   rw[k4]
   unfold Y0
   rw[if_neg (by rw[q2];omega),<-q3,q2]
   unfold Zb
   rw[if_neg (by simp only[not_and,not_or];exact fun a=>by simpa using h3 a),UI (show ¬bat s (RS.unI (sSp s (Qs s (sSp s t)).2) _).p=93 from h93f h5),show (decide (bat s (sSp s (Qs s (sSp s t)).2).p=115)||decide (bat s (sSp s (Qs s (sSp s t)).2).p=83))=false from by simpa using h4]
   simp[RS.unI,RS.no]
 refine Qip.en (have a0:=Qg s (sSp s (RS.mk p bad un));have a1:=sSp s (a0.2);have a2:=s.length<=1000000;a2/\(p<=s.length+1)/\a2/\((sSp s (RS.mk p bad un)).p<=s.length+1)/\((a0.1).length<=1000000000)/\a2/\(a0.2.p<=s.length+1)/\cond a1.bad (K (.row (.sels failL)) (some (.blk 46 [(.str s),(.nat (a1.p)),(.bool true),(.bool (a1.un)),(.bool ps)]))) (a2/\(a1.p<=s.length+1)/\(1<=1000)/\cond (Q5 s [93] (a1.p)) ((([]:List (List SelD)).length<=1000000000)/\(([]:List (List SelD)).flatten.length<=1000000000000)/\K (.row (.sels (Qi (SelD.mk (5:Int) (1:Int) (low (a0.1)) [] (0:Int) (0:Int) (0:Int) (0:Int)) ([]:List (List SelD)).flatten))) (some (.blk 46 [(.str s),(.nat (a1.p+1)),(.bool (a1.bad)),(.bool (a1.un)),(.bool ps)]))) ((Qip).L K 10 (mkS 115 [(0,(.ptr 0 0)),(3,(.ptr 1 0)),(4,(.own 2)),(5,(.nat 2))] [(2,.row (.strs [[],[],[61],[33,61],[126,61],[124,61],[94,61],[36,61],[42,61]]) true),(1,.blk 33 [(.nat 5),(.nat 1),(.str (low (a0.1))),(.str []),(.nat 0),(.nat 0),(.nat 0),(.nat 0)]),(0,.blk 46 [(.str s),(.nat (a1.p)),(.bool (a1.bad)),(.bool (a1.un)),(.bool ps)])] 3)))) ?_
 refine YC (YC (YC (YC (YC (YC (YC ?_))))))
 refine Qb ?_ ?_<;>intro h1<;>try simp[-zd]at h1
 refine V7 hk ?_
 unfold Zy
 simp only
 rw[if_pos h1]
 rfl
 refine YC (YC (YC ?_))
 refine Qb ?_ ?_<;>intro h2<;>try simp[-zd]at h2
 refine YC (YC ?_)
 refine V7 hk ?_
 unfold Zy
 simp only
 rw[if_neg (by rw[h1];simp),if_pos (h93t h2)]
 rfl
 exact Wk.L.rn [0,1,2] (L10 _ 2 1 (low (Qg s (sSp s ⟨p,bad,un⟩)).1) (sSp s (Qg s (sSp s ⟨p,bad,un⟩)).2) (sSp s (Qg s (sSp s ⟨p,bad,un⟩)).2) rfl ⟨QB s _ (Z9 s _ (QB s _ h02)),by omega,by omega,by
  unfold Zy
  simp only
  rw[if_neg (by rw[h1];simp),if_neg (h93f h2)],h1,.inl ⟨rfl,rfl,fun j j1 j2=>by omega⟩⟩)
 cases e
end
end Go.Proofs.YtengepcafdnalaaGreatDoor
