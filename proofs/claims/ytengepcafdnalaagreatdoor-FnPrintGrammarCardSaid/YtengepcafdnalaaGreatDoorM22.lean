/-
  Parts of the proof that the law FnPrintGrammar holds for every input (texts Ke, Kf, Kg, Kh). Conditions: none.
-/
import Derived.Test.YtengepcafdnalaaGreatDoorM21
namespace Go.Proofs.YtengepcafdnalaaGreatDoor
open _root_.Bool renaming or_true → z6, or_assoc → zZ, and_eq_true → zh
open _root_.List renaming getD_eq_getElem?_getD → za, take_add_one → zN, getElem?_eq_getElem → ze, drop_eq_nil_iff → xy, length_drop → zI, length_take → zF, drop_eq_getElem_cons → zG, map_cons → zY, append_assoc → zq, singleton_append → xe, take_length → xi, append_nil → zD, flatten_append → xv, length_append → zf, length_cons → zg, length_singleton → zH, length_nil → zl
open _root_.Nat renaming le_of_lt → xI, le_refl → zj, strongRecOn → zi, lt_of_lt_of_le → zQ
section
open Go Go.RowKit
set_option maxRecDepth 20000
theorem Zb {s:Bs} {e:Nat} (h:Q3 s [13,10] e=true):Q7 s e=e+2:=by
 have q:=(QbR s e 13 10 (by decide)).symm.trans h
 simp at q
 have:=QV q.2 (by decide)
 unfold Q7
 rw[if_pos (by omega),if_pos q.1,if_pos ⟨by omega,q.2⟩]
theorem Y9 {s:Bs} {e:Nat} (h:Q3 s [13,10] e=false) (hw:VT (bat s e)=true):Q7 s e=e+1:=by
 have q:=(QbR s e 13 10 (by decide)).symm.trans h
 simp at q
 have hl:e<s.length:=by
  by_cases hl:e<s.length
  exact hl
  rw[show bat s e=0 from by unfold bat;simp[za,List.getElem?_eq_none (show s.length<=e from by omega)]]at hw
  cases hw
 unfold Q7
 rw[if_pos hl]
 split
 rename_i h1;rw[if_neg (fun h2=>q h1 h2.2)]
 first | rfl | rw[if_pos hw]
theorem Za {s:Bs} {e:Nat} (hw:VT (bat s e)=false):Q7 s e=e:=by
 unfold Q7
 split
 rw[if_neg (by rintro h;rw[h]at hw;cases hw),if_neg (by rw[hw];simp)]
 rfl
theorem Qfa (s:Bs) (i:Nat) (h:i<s.length):i+(Va s i).2<=s.length:=by
 unfold Va
 split
 show i+1<=_;omega
 split
 exact xI h
 rename_i h2
 split
 exact xI h
 split
 exact xI h
 show i+(Yf (bat s i)).2.1<=_;omega
theorem Qiw {s:Bs} {p:Nat} (h:JU s p=true):p+1<s.length/\bat s p=92/\YL (bat s (p+1))=false:=by
 simpa [JU,and_assoc] using h
theorem Qei {s:Bs} {t:RS} (h:JU s t.p=true):(VR s t).2.p<=s.length:=by
 have h0:=Qiw h
 have h1:=Qfa s (t.p+1) h0.1
 have h2:=Qdu s 6 (t.p+1) (by omega)
 have h3:=QeQ s _ h2
 unfold VR
 repeat' split
 exact h1
 exact h3
 exact h3
theorem Qjl (s:Bs) (t:RS) (acc:Bs) (h:t.p<=s.length+1):(VX s t acc).2.p<=s.length+1:=by
 fun_induction VX s t acc with
 | case1 t acc h1 h2 ih=>exact ih (by simp only[RS.go_p];omega)
 | case2 t acc h1 h2 h3 ih=>exact ih (Nat.le_succ_of_le (Qei h3))
 | case3=>exact h
 | case4=>exact h
theorem Jt (s:Bs) (t:RS) (h:t.p<=s.length+1):(Qi s t).2.p<=s.length+1:=by
 unfold Qi
 split
 exact Qjl s _ _ h
 exact h
theorem Qqc (s:Bs) (t:RS) (h:t.p<=s.length+1):(Zu s t).2.p<=s.length+1:=by
 unfold Zu
 repeat' split
 all_goals first | exact Qjl s _ _ h | exact h
theorem Qn3 (s:Bs) (q:Nat) (t:RS) (acc:Bs) (h:t.p<=s.length+1):(Vu s q t acc).2.p<=s.length+1:=by
 fun_induction Vu s q t acc with
 | case1=>simp only[RS.go_p];omega
 | case2=>exact h
 | case3 t acc h1 h2 h3 h4 ih=>exact ih (by simp only[RS.go_p];omega)
 | case4 t acc h1 h2 h3 h4 h5 ih=>exact ih (Nat.le_succ_of_le (Qei h5))
 | case5 t acc h1 h2 h3 h4 h5 ih=>exact ih (by simp only[RS.go_p];split<;>omega)
 | case6=>exact h
theorem Qn1 (s:Bs) (t:RS) (h:t.p<s.length\/t.p<=s.length+1/\isQ (bat s t.p)=false):(Qs s t).2.p<=s.length+1:=by
 unfold Qs
 split
 rename_i hq
 rcases h with h | ⟨h,h'⟩
 exact Qn3 s _ _ _ (by simp only[RS.go_p];omega)
 rw[hq]at h';cases h'
 exact Jt s _ (by rcases h with h | ⟨h,_⟩<;>simp only[RS.unI_p]<;>omega)
theorem QfQ (s:Bs) (i j:Nat) (h:i<=j) (hj:j<s.length):(s.take (j+1)).drop i=(s.take j).drop i++[s.getD j 0]:=by
 rw[zN,List.drop_append_of_le_length (by simp;omega)]
 simp[za,ze hj]
theorem QnB (s:Bs) (i:Nat):(s.take i).drop i=[]:=by
 rw[xy];simp;omega
theorem cut1 {s:Bs} {i:Nat} (h:i<s.length):(s.take (i+1)).drop i=[s.getD i 0]:=by
 rw[QfQ s i i (zj _) h,QnB];rfl
theorem Qmp (n:Int):(Y6 n).length<=4:=by
 unfold Y6 Utf8.encode
 simp only
 repeat' split
 all_goals simp
theorem QqA (s:Bs) (i:Nat):(Va s i).2<=4:=by
 have hm:∀b,(Yf b).2.1<=4:=by
  intro b;unfold Yf;repeat' split
  all_goals simp
 rw[Va.eq_1]
 split
 exact (by decide:1<=4)
 split
 exact Nat.zero_le _
 split
 exact Nat.zero_le _
 split
 exact Nat.zero_le _
 exact hm _
theorem Qaf (s:Bs) (t:RS):(VR s t).1.length<=4:=by
 unfold VR
 split
 have:=QqA s (t.p+1)
 simp only[zI,zF];omega
 split
 dsimp only;exact Qmp _
 exact Nat.zero_le _
theorem Qjn {s:Bs} {t:RS} {acc:Bs} (h:t.p<s.length) (hb:t.bad=false) (hc:Qq (bat s t.p)=true):VX s t acc=VX s (t.go (t.p+1)) (acc++[s.getD t.p 0]):=by
 conv=>lhs;unfold VX
 rw[if_pos ⟨h,hb⟩,if_pos hc]
theorem Qjm {s:Bs} {t:RS} {acc:Bs} (h:t.p<s.length) (hb:t.bad=false) (hc:Qq (bat s t.p)=false) (he:JU s t.p=true):VX s t acc=VX s (VR s t).2 (acc++(VR s t).1):=by
 conv=>lhs;unfold VX
 rw[if_pos ⟨h,hb⟩,if_neg (by rw[hc];simp),if_pos he]
theorem Qjk {s:Bs} {t:RS} {acc:Bs} (h:t.p<s.length->t.bad=false->Qq (bat s t.p)=false/\JU s t.p=false):VX s t acc=(acc,t):=by
 unfold VX
 split
 rename_i q
 rw[if_neg (by rw[(h q.1 q.2).1];simp),if_neg (by rw[(h q.1 q.2).2];simp)]
 rfl
theorem QdX (l:Bs) (c:UInt8):VN (l++[c])=16*VN l+YP c.toNat:=by simp[VN]
theorem U6 {c:Nat} (h:QK c=true):YP c<16:=by
 simp[QK]at h
 unfold YP
 repeat' split
 all_goals omega
theorem QoS {s:Bs} {k i:Nat} (h:i<s.length) (hd:QK (bat s i)=true):QE s (k+1) i=QE s k (i+1):=by
 conv=>lhs;unfold QE
 rw[if_pos ⟨h,hd⟩]
theorem V0 {s:Bs} {k i:Nat} (h:QK (bat s i)=false):QE s k i=i:=by
 cases k with
 | zero=>rfl
 | succ k=>unfold QE;rw[if_neg (by rw[h];simp)]
theorem bat_out {s:Bs} {i:Nat} (h:s.length<=i):bat s i=0:=by
 unfold bat
 simp[za,List.getElem?_eq_none h]
theorem QoT {s:Bs} {i:Nat} (h:QK (bat s i)=true):i<s.length:=by
 by_cases hl:i<s.length
 exact hl
 rw[bat_out (by omega)]at h;cases h
theorem YG {s:Bs} {k i:Nat} (h:k=0):QE s k i=i:=by subst h;rfl
def c22 (svs:List SV) (b:Option SB):QR:=match svs,b with
 | [.str s],none=>some ([s.length<=1000000],.bool (VV s 0))
 | _,_=>none
noncomputable def W22:Wk:=⟨[(41,.pure c41)],Qh Tryz.f22,false,false,[.tmp 2],[4],[(2,9)],[]⟩
theorem Qvf:Has 22:=hsf Tryz.f22
theorem kez0 {p q:Prop} (k:q) (h:p:=by first | omega | (have:=hpt (by omega);omega) | (simp;omega)):p/\q:=⟨h,k⟩
theorem QuN:Sat 22 (Ql c22):=by
 have hD:Qb W22.D:=(Qb.cons Qvb QuI Qb.nil)
 refine W22.sat hD (fn:=Tryz.f22) (by kernel_rfl) (by kernel_rfl) (by kernel_rfl) (by decide) fun svs b K hP=>?_
 obtain⟨ps,v,e,hp,hk⟩:=Qd hP
 unfold c22 at e
 split at e
 rename_i s
 cases e
 obtain⟨h01,_⟩:=hp
 have L2:∀(mm:Nat) (i:Nat),s.length-i=mm->i<=s.length/\VV s i=VV s 0->W22.L K 2 (mkS 29 [(0,(.str s)),(3,(.nat i))] [] 1):=by
  intro mm
  induction mm using zi with
  | _ mm ih=>
   intro i hm hI
   have hpt:=fun h=>Qfa s i h
   refine W22.aL hD (cond (decide (i<s.length)) ((s.length<=1000000)/\(i<s.length)/\cond (((decide ((Va s i).2=0))||(decide ((Va s i).1=0)))||(decide ((Va s i).1=65279))) (K (.val (.bool false)) none) ((i+(Va s i).2<=9223372036854775807)/\(W22).L K 2 (mkS 29 [(0,(.str s)),(3,(.nat (i+(Va s i).2)))] [] 1))) (K (.val (.bool true)) none)) ?_
   refine Qa ?_ ?_<;>intro h1<;>try simp[-za]at h1
   refine kez0 (kez0 ?_)
   refine Qa ?_ ?_<;>intro h2<;>try simp[-za]at h2
   have e:VV s i=false:=by unfold VV;rw[if_pos (by omega),dif_pos (by omega)]
   rw[<-hI.2,e]at hk
   exact hk
   refine kez0 ?_
   have e:VV s i=VV s (i+(Va s i).2):=by
    conv=>lhs;unfold VV
    rw[if_pos (by omega),dif_neg (by omega)]
   have:=hpt (by omega)
   exact ih _ (by omega) _ rfl ⟨by omega,by rw[<-e];exact hI.2⟩
   have e:VV s i=true:=by unfold VV;rw[if_neg (by omega)]
   rw[<-hI.2,e]at hk
   exact hk
 refine W22.en ((W22).L K 2 (mkS 29 [(0,(.str s)),(3,(.nat 0))] [] 1)) ?_
 exact L2 _ _ rfl ⟨by omega,rfl⟩
 cases e
def c122 (svs:List SV) (b:Option SB):FR:=match svs,b with
 | [.ptr 0 0],some (.blk 46 [.str s,.nat p,.bool bad,.bool un,.bool ps])=>some ([s.length<=1000000,p<=s.length+1,JU s p=true],.val (.str (VR s ⟨p,bad,un⟩).1),
  some (.blk 46 [.str s,.nat (VR s ⟨p,bad,un⟩).2.p,.bool (VR s ⟨p,bad,un⟩).2.bad,.bool (VR s ⟨p,bad,un⟩).2.un,.bool ps]))
 | _,_=>none
noncomputable def QkH:Wk:=⟨[(41,.pure c41),(43,.plain c43),(66,.pure c66),(93,.pure c93),(137,.plain c137),(138,.pure c138)],Qh Tryz.f122,true,false,[.tmp 2],[9],[(3,25)],[]⟩
theorem Qrz:Has 122:=hsf Tryz.f122
theorem Zq {p q:Prop} (k:q) (h:p:=by first | omega | (have:=U6 ‹QK _=true›;omega) | (unfold inI;omega) | (simp;omega) | (exfalso;simp_all;done) | assumption | (have:=hpt (by omega);omega)):p/\q:=⟨h,k⟩
theorem kez1 {c0 p0 p1 q:Prop} (k:q) (h:c0->p0/\p1/\True:=by intro g0;(try simp at g0);exact⟨(by first | omega | (have:=U6 ‹QK _=true›;omega) | (unfold inI;omega) | (simp;omega) | (exfalso;simp_all;done) | assumption | (have:=hpt (by omega);omega)),(by first | omega | (have:=U6 ‹QK _=true›;omega) | (unfold inI;omega) | (simp;omega) | (exfalso;simp_all;done) | assumption | (have:=hpt (by omega);omega)),trivial⟩):(c0->p0/\p1/\True)/\q:=⟨h,k⟩
theorem Qp3:Sat 122 (fnS c122):=by
 have hD:Qb QkH.D:=(Qb.cons Qvb QuI (Qb.cons QcU Qcu (Qb.cons Ua J6 (Qb.cons Qu4 QuB (Qb.cons QxZ Qwh (Qb.cons QxY Qwg Qb.nil))))))
 refine QkH.sat hD (fn:=Tryz.f122) (by kernel_rfl) (by kernel_rfl) (by kernel_rfl) (by decide) fun svs b K hP=>?_
 obtain⟨ps,o,b',e,hp,hk⟩:=Vy hP
 unfold c122 at e
 split at e
 rename_i s p bad un ps
 cases e
 obtain⟨h01,h02,h03,_⟩:=hp
 obtain⟨h04,h05,h06⟩:=Qiw h03
 have L3:∀(mm:Nat) (k n:Nat),6-k=mm->k<=6/\p+1+k<=s.length/\QE s (6-k) (p+1+k)=QE s 6 (p+1)/\n=VN ((s.take (p+1+k)).drop (p+1))/\n<16^k->QkH.L K 3 (mkS 114 [(0,(.ptr 0 0)),(3,(.nat n)),(4,(.nat k))] [(0,.blk 46 [(.str s),(.nat (p+1+k)),(.bool bad),(.bool un),(.bool ps)])] 1):=by
  intro mm
  induction mm using zi with
  | _ mm ih=>
   intro k n hm hI
   obtain⟨k1,k2,k3,k4,k5⟩:=hI
   have hpt:=fun h=>Qfa s (p+1+k) h
   have hdi:=fun h=>QoT (s:=s) (i:=p+1+k) h
   have k6:n<16^6:=zQ k5 (Nat.pow_le_pow_right (by omega) k1)
   refine QkH.aL hD (have a0:=(((decide (n=0))||(decide (n=65279)))||(decide (1114111<n)))||((decide (55296<=n))&&(decide (n<57344)));have a1:=Va s (p+1+k);have a2:Out:=.val (.str (Y6 ((n:Nat):Int)));have a3:=s.length<=1000000;have a4:=p+1+k+a1.2<=9223372036854775807;have a5:Option SB:=some (.blk 46 [(.str s),(.nat (p+1+k+a1.2)),(.bool bad),(.bool un),(.bool ps)]);have a6:=p+1+k<=s.length+1;have a7:Option SB:=some (.blk 46 [(.str s),(.nat (p+1+k+2)),(.bool bad),(.bool true),(.bool ps)]);have a8:Option SB:=some (.blk 46 [(.str s),(.nat (p+1+k+1)),(.bool bad),(.bool true),(.bool ps)]);have a9:Option SB:=some (.blk 46 [(.str s),(.nat (p+1+k+2)),(.bool bad),(.bool un),(.bool ps)]);have a10:Option SB:=some (.blk 46 [(.str s),(.nat (p+1+k+1)),(.bool bad),(.bool un),(.bool ps)]);have a11:Option SB:=some (.blk 46 [(.str s),(.nat (p+1+k)),(.bool bad),(.bool true),(.bool ps)]);have a12:Option SB:=some (.blk 46 [(.str s),(.nat (p+1+k)),(.bool bad),(.bool un),(.bool ps)]);have a13:=p+1+k+1<=9223372036854775807;have a14:=false=true->a3/\(p+1+k+2<=s.length+1)/\True;have a15:=p+1+k<=p+1+k+a1.2/\p+1+k+a1.2<=s.length;have a16:=n<=2147483647;have a17:Out:=.val (.str ((s.take (p+1+k+a1.2)).drop (p+1+k)));have a18:=bat s (p+1+k);have a19:Out:=.val (.str []);have a20:=true=true->a3/\a6/\True;have a21:=Q3 s [13,10] (p+1+k);((decide (k<6))=true->a3/\a6/\True)/\((decide (k<6))=true->cond (QK a18) (cond (decide (0<=YP a18)) ((16*n<=9223372036854775807)/\a3/\a6/\cond (QK a18) (((16*n)+(YP a18)<=9223372036854775807)/\a13/\(k+1<=9223372036854775807)/\(QkH).L K 3 (mkS 114 [(0,(.ptr 0 0)),(3,(.nat ((16*n)+(YP a18)))),(4,(.nat (k+1)))] [(0,.blk 46 [(.str s),(.nat (p+1+k+1)),(.bool bad),(.bool un),(.bool ps)])] 1)) ((inI (((16*n:Nat):Int)+(-1)))/\a13/\(k+1<=9223372036854775807)/\(QkH).L K 3 (mkS 114 [(0,(.ptr 0 0)),(3,(.int .i64 (((16*n:Nat):Int)+(-1)))),(4,(.nat (k+1)))] [(0,.blk 46 [(.str s),(.nat (p+1+k+1)),(.bool bad),(.bool un),(.bool ps)])] 1))) (cond (decide (k=0)) (a3/\(p+1+k<s.length)/\a4/\a15/\a4/\K a17 a5) (a3/\a6/\(2<=1000)/\cond a21 (a14/\cond a0 (K a19 a7) (a16/\K a2 a9)) (a20/\cond (VT a18) (a13/\cond a0 (K a19 a8) (a16/\K a2 a10)) (cond a0 (K a19 a11) (a16/\K a2 a12)))))) (cond (decide (k=0)) (a3/\(p+1+k<s.length)/\a4/\a15/\a4/\K a17 a5) (a3/\a6/\(2<=1000)/\cond a21 (a14/\cond a0 (K a19 a7) (a16/\K a2 a9)) (a20/\cond (VT a18) (a13/\cond a0 (K a19 a8) (a16/\K a2 a10)) (cond a0 (K a19 a11) (a16/\K a2 a12))))))/\((decide (k<6))=false->cond (decide (k=0)) (a3/\(p+1+k<s.length)/\a4/\a15/\a4/\K a17 a5) (a3/\a6/\(2<=1000)/\cond a21 (a14/\cond a0 (K a19 a7) (a16/\K a2 a9)) (a20/\cond (VT a18) (a13/\cond a0 (K a19 a8) (a16/\K a2 a10)) (cond a0 (K a19 a11) (a16/\K a2 a12)))))) ?_
   refine kez1 ?_
   refine⟨fun h1=>?_,fun h1=>?_⟩
   try simp[-za]at h1
   refine Qa ?_ ?_<;>intro h2<;>try simp[-za]at h2
   refine Qa (fun h3=>?_) (fun h3=>?_)
   try simp[-za]at h3
   refine Zq (Zq (Zq ?_))
   refine Qa ?_ ?_<;>intro h4<;>try simp[-za]at h4
   refine Zq (Zq (Zq ?_))
   have q:=U6 h2
   have q2:=hdi h2
   refine ih _ (by omega) (k+1) _ rfl ⟨by omega,by omega,?_,?_,?_⟩
   rw[show 6-(k+1)=5-k from by omega,show p+1+(k+1)=p+1+k+1 from by omega,<-QoS (by omega) h2,show 5-k+1=6-k from by omega];exact k3
   rw[show p+1+(k+1)=p+1+k+1 from by omega,QfQ s (p+1) (p+1+k) (by omega) (by omega),QdX,<-k4];rfl
   rw[Nat.pow_succ];omega
   refine Zq (Zq (Zq ?_))
   exfalso;simp_all
   try simp[-za]at h3
   refine Qa (fun h3=>?_) (fun h3=>?_)
   try simp[-za]at h3
   refine Zq (Zq (Zq (Zq (Zq ?_))))
   have e1:QE s 6 (p+1)=p+1+k:=by rw[<-k3];first | exact V0 (by assumption) | exact YG (by omega)
   unfold VR at hk
   simp only[e1,<-k4,RS.go,RS.unI]at hk
   first
    | (have hk0:k=0:=by omega
       subst hk0
       rw[if_pos (by omega)]at hk
       exact hk)
    | (rw[if_neg (by omega)]at hk
       first
        | rw[Zb (by assumption)]at hk
        | rw[Y9 (by assumption) (by assumption)]at hk
        | rw[Za (by assumption)]at hk
       first
        | (rw[if_pos (by simp[Z8];omega)]at hk;dsimp only at hk;exact hk)
        | (rw[if_neg (by simp[Z8];omega)]at hk;simp only[z6]at hk;exact hk))
   try simp[-za]at h3
   refine Zq (Zq (Zq ?_))
   refine Qa ?_ ?_<;>intro h4<;>try simp[-za]at h4
   refine⟨fun g0=>(by cases g0),?_⟩
   refine Qa ?_ ?_<;>intro h5<;>try simp[-za]at h5
   have e1:QE s 6 (p+1)=p+1+k:=by rw[<-k3];first | exact V0 (by assumption) | exact YG (by omega)
   unfold VR at hk
   simp only[e1,<-k4,RS.go,RS.unI]at hk
   first
    | (have hk0:k=0:=by omega
       subst hk0
       rw[if_pos (by omega)]at hk
       exact hk)
    | (rw[if_neg (by omega)]at hk
       first
        | rw[Zb (by assumption)]at hk
        | rw[Y9 (by assumption) (by assumption)]at hk
        | rw[Za (by assumption)]at hk
       first
        | (rw[if_pos (by simp[Z8];omega)]at hk;dsimp only at hk;exact hk)
        | (rw[if_neg (by simp[Z8];omega)]at hk;simp only[z6]at hk;exact hk))
   refine Zq ?_
   have e1:QE s 6 (p+1)=p+1+k:=by rw[<-k3];first | exact V0 (by assumption) | exact YG (by omega)
   unfold VR at hk
   simp only[e1,<-k4,RS.go,RS.unI]at hk
   first
    | (have hk0:k=0:=by omega
       subst hk0
       rw[if_pos (by omega)]at hk
       exact hk)
    | (rw[if_neg (by omega)]at hk
       first
        | rw[Zb (by assumption)]at hk
        | rw[Y9 (by assumption) (by assumption)]at hk
        | rw[Za (by assumption)]at hk
       first
        | (rw[if_pos (by simp[Z8];omega)]at hk;dsimp only at hk;exact hk)
        | (rw[if_neg (by simp[Z8];omega)]at hk;simp only[z6]at hk;exact hk))
   refine kez1 ?_
   refine Qa ?_ ?_<;>intro h5<;>try simp[-za]at h5
   refine Zq ?_
   refine Qa ?_ ?_<;>intro h6<;>try simp[-za]at h6
   have e1:QE s 6 (p+1)=p+1+k:=by rw[<-k3];first | exact V0 (by assumption) | exact YG (by omega)
   unfold VR at hk
   simp only[e1,<-k4,RS.go,RS.unI]at hk
   first
    | (have hk0:k=0:=by omega
       subst hk0
       rw[if_pos (by omega)]at hk
       exact hk)
    | (rw[if_neg (by omega)]at hk
       first
        | rw[Zb (by assumption)]at hk
        | rw[Y9 (by assumption) (by assumption)]at hk
        | rw[Za (by assumption)]at hk
       first
        | (rw[if_pos (by simp[Z8];omega)]at hk;dsimp only at hk;exact hk)
        | (rw[if_neg (by simp[Z8];omega)]at hk;simp only[z6]at hk;exact hk))
   refine Zq ?_
   have e1:QE s 6 (p+1)=p+1+k:=by rw[<-k3];first | exact V0 (by assumption) | exact YG (by omega)
   unfold VR at hk
   simp only[e1,<-k4,RS.go,RS.unI]at hk
   first
    | (have hk0:k=0:=by omega
       subst hk0
       rw[if_pos (by omega)]at hk
       exact hk)
    | (rw[if_neg (by omega)]at hk
       first
        | rw[Zb (by assumption)]at hk
        | rw[Y9 (by assumption) (by assumption)]at hk
        | rw[Za (by assumption)]at hk
       first
        | (rw[if_pos (by simp[Z8];omega)]at hk;dsimp only at hk;exact hk)
        | (rw[if_neg (by simp[Z8];omega)]at hk;simp only[z6]at hk;exact hk))
   refine Qa (fun h6=>?_) (fun h6=>?_)
   try simp[-za]at h6
   have e1:QE s 6 (p+1)=p+1+k:=by rw[<-k3];first | exact V0 (by assumption) | exact YG (by omega)
   unfold VR at hk
   simp only[e1,<-k4,RS.go,RS.unI]at hk
   first
    | (have hk0:k=0:=by omega
       subst hk0
       rw[if_pos (by omega)]at hk
       exact hk)
    | (rw[if_neg (by omega)]at hk
       first
        | rw[Zb (by assumption)]at hk
        | rw[Y9 (by assumption) (by assumption)]at hk
        | rw[Za (by assumption)]at hk
       first
        | (rw[if_pos (by simp[Z8];omega)]at hk;dsimp only at hk;exact hk)
        | (rw[if_neg (by simp[Z8];omega)]at hk;simp only[z6]at hk;exact hk))
   try simp[-za]at h6
   refine Zq ?_
   have e1:QE s 6 (p+1)=p+1+k:=by rw[<-k3];first | exact V0 (by assumption) | exact YG (by omega)
   unfold VR at hk
   simp only[e1,<-k4,RS.go,RS.unI]at hk
   first
    | (have hk0:k=0:=by omega
       subst hk0
       rw[if_pos (by omega)]at hk
       exact hk)
    | (rw[if_neg (by omega)]at hk
       first
        | rw[Zb (by assumption)]at hk
        | rw[Y9 (by assumption) (by assumption)]at hk
        | rw[Za (by assumption)]at hk
       first
        | (rw[if_pos (by simp[Z8];omega)]at hk;dsimp only at hk;exact hk)
        | (rw[if_neg (by simp[Z8];omega)]at hk;simp only[z6]at hk;exact hk))
   try simp[-za]at h1
   refine Qa ?_ ?_<;>intro h2<;>try simp[-za]at h2
   refine Zq (Zq (Zq (Zq (Zq ?_))))
   have e1:QE s 6 (p+1)=p+1+k:=by rw[<-k3];first | exact V0 (by assumption) | exact YG (by omega)
   unfold VR at hk
   simp only[e1,<-k4,RS.go,RS.unI]at hk
   first
    | (have hk0:k=0:=by omega
       subst hk0
       rw[if_pos (by omega)]at hk
       exact hk)
    | (rw[if_neg (by omega)]at hk
       first
        | rw[Zb (by assumption)]at hk
        | rw[Y9 (by assumption) (by assumption)]at hk
        | rw[Za (by assumption)]at hk
       first
        | (rw[if_pos (by simp[Z8];omega)]at hk;dsimp only at hk;exact hk)
        | (rw[if_neg (by simp[Z8];omega)]at hk;simp only[z6]at hk;exact hk))
   refine Zq (Zq (Zq ?_))
   refine Qa ?_ ?_<;>intro h3<;>try simp[-za]at h3
   refine⟨fun g0=>(by cases g0),?_⟩
   refine Qa ?_ ?_<;>intro h4<;>try simp[-za]at h4
   have e1:QE s 6 (p+1)=p+1+k:=by rw[<-k3];first | exact V0 (by assumption) | exact YG (by omega)
   unfold VR at hk
   simp only[e1,<-k4,RS.go,RS.unI]at hk
   first
    | (have hk0:k=0:=by omega
       subst hk0
       rw[if_pos (by omega)]at hk
       exact hk)
    | (rw[if_neg (by omega)]at hk
       first
        | rw[Zb (by assumption)]at hk
        | rw[Y9 (by assumption) (by assumption)]at hk
        | rw[Za (by assumption)]at hk
       first
        | (rw[if_pos (by simp[Z8];omega)]at hk;dsimp only at hk;exact hk)
        | (rw[if_neg (by simp[Z8];omega)]at hk;simp only[z6]at hk;exact hk))
   refine Zq ?_
   have e1:QE s 6 (p+1)=p+1+k:=by rw[<-k3];first | exact V0 (by assumption) | exact YG (by omega)
   unfold VR at hk
   simp only[e1,<-k4,RS.go,RS.unI]at hk
   first
    | (have hk0:k=0:=by omega
       subst hk0
       rw[if_pos (by omega)]at hk
       exact hk)
    | (rw[if_neg (by omega)]at hk
       first
        | rw[Zb (by assumption)]at hk
        | rw[Y9 (by assumption) (by assumption)]at hk
        | rw[Za (by assumption)]at hk
       first
        | (rw[if_pos (by simp[Z8];omega)]at hk;dsimp only at hk;exact hk)
        | (rw[if_neg (by simp[Z8];omega)]at hk;simp only[z6]at hk;exact hk))
   refine kez1 ?_
   refine Qa ?_ ?_<;>intro h4<;>try simp[-za]at h4
   refine Zq ?_
   refine Qa ?_ ?_<;>intro h5<;>try simp[-za]at h5
   have e1:QE s 6 (p+1)=p+1+k:=by rw[<-k3];first | exact V0 (by assumption) | exact YG (by omega)
   unfold VR at hk
   simp only[e1,<-k4,RS.go,RS.unI]at hk
   first
    | (have hk0:k=0:=by omega
       subst hk0
       rw[if_pos (by omega)]at hk
       exact hk)
    | (rw[if_neg (by omega)]at hk
       first
        | rw[Zb (by assumption)]at hk
        | rw[Y9 (by assumption) (by assumption)]at hk
        | rw[Za (by assumption)]at hk
       first
        | (rw[if_pos (by simp[Z8];omega)]at hk;dsimp only at hk;exact hk)
        | (rw[if_neg (by simp[Z8];omega)]at hk;simp only[z6]at hk;exact hk))
   refine Zq ?_
   have e1:QE s 6 (p+1)=p+1+k:=by rw[<-k3];first | exact V0 (by assumption) | exact YG (by omega)
   unfold VR at hk
   simp only[e1,<-k4,RS.go,RS.unI]at hk
   first
    | (have hk0:k=0:=by omega
       subst hk0
       rw[if_pos (by omega)]at hk
       exact hk)
    | (rw[if_neg (by omega)]at hk
       first
        | rw[Zb (by assumption)]at hk
        | rw[Y9 (by assumption) (by assumption)]at hk
        | rw[Za (by assumption)]at hk
       first
        | (rw[if_pos (by simp[Z8];omega)]at hk;dsimp only at hk;exact hk)
        | (rw[if_neg (by simp[Z8];omega)]at hk;simp only[z6]at hk;exact hk))
   refine Qa (fun h5=>?_) (fun h5=>?_)
   try simp[-za]at h5
   have e1:QE s 6 (p+1)=p+1+k:=by rw[<-k3];first | exact V0 (by assumption) | exact YG (by omega)
   unfold VR at hk
   simp only[e1,<-k4,RS.go,RS.unI]at hk
   first
    | (have hk0:k=0:=by omega
       subst hk0
       rw[if_pos (by omega)]at hk
       exact hk)
    | (rw[if_neg (by omega)]at hk
       first
        | rw[Zb (by assumption)]at hk
        | rw[Y9 (by assumption) (by assumption)]at hk
        | rw[Za (by assumption)]at hk
       first
        | (rw[if_pos (by simp[Z8];omega)]at hk;dsimp only at hk;exact hk)
        | (rw[if_neg (by simp[Z8];omega)]at hk;simp only[z6]at hk;exact hk))
   try simp[-za]at h5
   refine Zq ?_
   have e1:QE s 6 (p+1)=p+1+k:=by rw[<-k3];first | exact V0 (by assumption) | exact YG (by omega)
   unfold VR at hk
   simp only[e1,<-k4,RS.go,RS.unI]at hk
   first
    | (have hk0:k=0:=by omega
       subst hk0
       rw[if_pos (by omega)]at hk
       exact hk)
    | (rw[if_neg (by omega)]at hk
       first
        | rw[Zb (by assumption)]at hk
        | rw[Y9 (by assumption) (by assumption)]at hk
        | rw[Za (by assumption)]at hk
       first
        | (rw[if_pos (by simp[Z8];omega)]at hk;dsimp only at hk;exact hk)
        | (rw[if_neg (by simp[Z8];omega)]at hk;simp only[z6]at hk;exact hk))
 refine QkH.en ((p+1<=9223372036854775807)/\(QkH).L K 3 (mkS 114 [(0,(.ptr 0 0)),(3,(.nat 0)),(4,(.nat 0))] [(0,.blk 46 [(.str s),(.nat (p+1)),(.bool bad),(.bool un),(.bool ps)])] 1)) ?_
 refine Zq ?_
 exact L3 _ 0 0 rfl ⟨by omega,by omega,rfl,by rw[Nat.add_zero,QnB];rfl,by decide⟩
 cases e
def c108 (svs:List SV) (b:Option SB):FR:=match svs,b with
 | [.ptr 0 0],some (.blk 46 [.str s,.nat p,.bool bad,.bool un,.bool ps])=>some ([s.length<=1000000,p<=s.length+1],.val (.str (VX s ⟨p,bad,un⟩ []).1),
  some (.blk 46 [.str s,.nat (VX s ⟨p,bad,un⟩ []).2.p,.bool (VX s ⟨p,bad,un⟩ []).2.bad,.bool (VX s ⟨p,bad,un⟩ []).2.un,.bool ps]))
 | _,_=>none
noncomputable def QkI:Wk:=⟨[(66,.pure c66),(89,.pure c89),(107,.pure Qr9),(122,.fn c122)],Qh Tryz.f108,true,false,[.tmp 2],[9],[(2,9)],[]⟩
theorem QrA:Has 108:=hsf Tryz.f108
theorem Qdo {p q:Prop} (k:q) (h:p:=by first | omega | (have:=Qaf s t;omega) | (simp;omega) | assumption | (intro h;simp[h]) | (simp;done)):p/\q:=⟨h,k⟩
theorem kez3 {c0 p0 q:Prop} (k:q) (h:c0->p0/\True:=by intro g0;(try simp at g0);exact⟨(by first | omega | (have:=Qaf s t;omega) | (simp;omega) | assumption | (intro h;simp[h]) | (simp;done)),trivial⟩):(c0->p0/\True)/\q:=⟨h,k⟩
theorem Qp4:Sat 108 (fnS c108):=by
 have hD:Qb QkI.D:=(Qb.cons Ua J6 (Qb.cons Qg9 Qgw (Qb.cons QlT Qk0 (Qb.cons Qrz Qp3 Qb.nil))))
 refine QkI.sat hD (fn:=Tryz.f108) (by kernel_rfl) (by kernel_rfl) (by kernel_rfl) (by decide) fun svs b K hP=>?_
 obtain⟨ps,o,b',e,hp,hk⟩:=Vy hP
 unfold c108 at e
 split at e
 rename_i s p bad un ps
 cases e
 obtain⟨h01,h02,_⟩:=hp
 have L2:∀(mm:Nat) (t:RS) (acc:Bs),s.length-t.p=mm->t.p<=s.length+1/\acc.length<=t.p*4/\VX s t acc=VX s ⟨p,bad,un⟩ []->QkI.L K 2 (mkS 61 [(0,(.ptr 0 0)),(3,(.str acc))] [(0,.blk 46 [(.str s),(.nat t.p),(.bool t.bad),(.bool t.un),(.bool ps)])] 1):=by
  intro mm
  induction mm using zi with
  | _ mm ih=>
   intro t acc hm hI
   obtain⟨k1,k2,k3⟩:=hI
   refine QkI.aL hD (have a1:Option SB:=some (.blk 46 [(.str s),(.nat t.p),(.bool t.bad),(.bool t.un),(.bool ps)]);have a2:=decide (t.p<s.length);have a0:=a2=true->((a2==true)=true)/\True;a0/\a0/\a0/\a0/\(a2=true->(a2==true)=true)/\cond (a2&&(!t.bad)) ((s.length<=1000000)/\(t.p<=s.length+1)/\cond (Qq (bat s t.p)) ((t.p+1<=9223372036854775807)/\(t.p<=t.p+1/\t.p+1<=s.length)/\(acc.length+((s.take (t.p+1)).drop t.p).length<=2305843009213693952)/\(t.p+1<=9223372036854775807)/\(QkI).L K 2 (mkS 61 [(0,(.ptr 0 0)),(3,(.str (acc++((s.take (t.p+1)).drop t.p))))] [(0,.blk 46 [(.str s),(.nat (t.p+1)),(.bool t.bad),(.bool t.un),(.bool ps)])] 1)) ((s.length<=1000000)/\(t.p<=s.length+1)/\cond (JU s t.p) ((s.length<=1000000)/\(t.p<=s.length+1)/\(JU s t.p=true)/\(acc.length+((VR s t).1).length<=2305843009213693952)/\(QkI).L K 2 (mkS 61 [(0,(.ptr 0 0)),(3,(.str (acc++((VR s t).1))))] [(0,.blk 46 [(.str s),(.nat ((VR s t).2.p)),(.bool ((VR s t).2.bad)),(.bool ((VR s t).2.un)),(.bool ps)])] 1)) (K (.val (.str acc)) a1))) (K (.val (.str acc)) a1)) ?_
   refine kez3 (kez3 (kez3 (kez3 (Qdo ?_))))
   refine Qa ?_ ?_<;>intro h1<;>try simp[-za]at h1
   refine Qdo (Qdo ?_)
   refine Qa ?_ ?_<;>intro h2<;>try simp[-za]at h2
   refine Qdo (Qdo (Qdo (Qdo ?_)))
   rw[cut1 h1.1]
   exact ih _ (by simp only[RS.go_p];omega) (t.go (t.p+1)) _ rfl ⟨by simp only[RS.go_p];omega,by simp;omega,by rw[<-Qjn h1.1 h1.2 h2];exact k3⟩
   refine Qdo (Qdo ?_)
   refine Qa ?_ ?_<;>intro h3<;>try simp[-za]at h3
   refine Qdo (Qdo (Qdo (Qdo ?_)))
   have q1:=Qae s t
   have q2:=Qei h3
   have q3:=Qaf s t
   exact ih _ (by omega) (VR s t).2 _ rfl ⟨by omega,by simp;omega,by rw[<-Qjm h1.1 h1.2 h2 h3];exact k3⟩
   rw[<-k3,Qjk (fun _ _=>⟨h2,h3⟩)]at hk
   exact hk
   rw[<-k3,Qjk (fun a b=>absurd b (by rw[h1 a];simp))]at hk
   exact hk
 refine QkI.en ((QkI).L K 2 (mkS 61 [(0,(.ptr 0 0)),(3,(.str []))] [(0,.blk 46 [(.str s),(.nat p),(.bool bad),(.bool un),(.bool ps)])] 1)) ?_
 exact L2 _ ⟨p,bad,un⟩ [] rfl ⟨h02,by simp,rfl⟩
 cases e
end
section
open Go Go.RowKit
set_option maxRecDepth 20000
theorem Qp8 {s:Bs} {q:Nat} {t:RS} {acc:Bs} (h:t.p<s.length) (e:bat s t.p=q):Vu s q t acc=(acc,t.go (t.p+1)):=by
 unfold Vu;rw[if_pos h,if_pos e]
theorem Qp9 {s:Bs} {q:Nat} {t:RS} {acc:Bs} (h:t.p<s.length) (e:bat s t.p≠q) (n:YL (bat s t.p)=true):Vu s q t acc=([],t.no):=by
 unfold Vu;rw[if_pos h,if_neg e,if_pos n]
theorem Qn6 {s:Bs} {q:Nat} {t:RS} {acc:Bs} (h:t.p<s.length) (e:bat s t.p≠q) (n:YL (bat s t.p)=false) (c:bat s t.p≠92) :
 Vu s q t acc=Vu s q (t.go (t.p+1)) (acc++[s.getD t.p 0]):=by
 conv=>lhs;unfold Vu
 rw[if_pos h,if_neg e,if_neg (by rw[n];simp),if_pos c]
theorem Qn5 {s:Bs} {q:Nat} {t:RS} {acc:Bs} (h:t.p<s.length) (e:bat s t.p≠q) (c:bat s t.p=92) (f:JU s t.p=true) :
 Vu s q t acc=Vu s q (VR s t).2 (acc++(VR s t).1):=by
 conv=>lhs;unfold Vu
 rw[if_pos h,if_neg e,if_neg (by rw[c];decide),if_neg (by simp[c]),if_pos f]
theorem Qgy {s:Bs} {q:Nat} {t:RS} {acc:Bs} (h:t.p<s.length) (e:bat s t.p≠q) (c:bat s t.p=92) (f:JU s t.p=false) :
 Vu s q t acc=Vu s q (t.go (if bat s (t.p+1)=13/\bat s (t.p+2)=10/\t.p+3<=s.length then t.p+3 else t.p+2)) acc:=by
 conv=>lhs;unfold Vu
 rw[if_pos h,if_neg e,if_neg (by rw[c];decide),if_neg (by simp[c]),if_neg (by rw[f];simp)]
theorem Qp7 {s:Bs} {q:Nat} {t:RS} {acc:Bs} (h:¬t.p<s.length):Vu s q t acc=([],t.no):=by
 unfold Vu;rw[if_neg h]
theorem kst {K:Out->Option SB->Prop} {s:Bs} {ps:Bool} {r:Bs×RS} {v:Bs} {p:Nat} {b u:Bool}
 (hk:K (.val (.str r.1)) (some (.blk 46 [.str s,.nat r.2.p,.bool r.2.bad,.bool r.2.un,.bool ps]))) (e:r=(v,⟨p,b,u⟩)) :
 K (.val (.str v)) (some (.blk 46 [.str s,.nat p,.bool b,.bool u,.bool ps])):=by rw[e]at hk;exact hk
theorem lf2 {s:Bs} {e:Nat} (h:Q3 s [13,10] e=true):bat s e=13/\bat s (e+1)=10/\e+2<=s.length:=by
 have q:=(QbR s e 13 10 (by decide)).symm.trans h
 simp at q
 have:=QV q.2 (by decide)
 exact⟨q.1,q.2,by omega⟩
theorem lf2n {s:Bs} {e:Nat} (h:Q3 s [13,10] e=false):¬(bat s e=13/\bat s (e+1)=10/\e+2<=s.length):=by
 have q:=(QbR s e 13 10 (by decide)).symm.trans h
 simp at q
 exact fun h=>q h.1 h.2.1
def c96 (svs:List SV) (b:Option SB):FR:=match svs,b with
 | [.ptr 0 0],some (.blk 46 [.str s,.nat p,.bool bad,.bool un,.bool ps])=>some ([s.length<=1000000,p<=s.length+1],.val (.str (Qi s ⟨p,bad,un⟩).1),
  some (.blk 46 [.str s,.nat (Qi s ⟨p,bad,un⟩).2.p,.bool (Qi s ⟨p,bad,un⟩).2.bad,.bool (Qi s ⟨p,bad,un⟩).2.un,.bool ps]))
 | _,_=>none
noncomputable def W96:Wk:=⟨[(95,.fn c95),(108,.fn c108)],Qh Tryz.f96,true,false,[.tmp 2],[9],[],[]⟩
theorem Qfz:Has 96:=hsf Tryz.f96
theorem Qgc {p q:Prop} (k:q) (h:p:=by first | omega | (simp;done) | (simp;omega) | (simp;assumption)):p/\q:=⟨h,k⟩
theorem QeU:Sat 96 (fnS c96):=by
 have hD:Qb W96.D:=(Qb.cons Qnh QmA (Qb.cons QrA Qp4 Qb.nil))
 refine W96.sat hD (fn:=Tryz.f96) (by kernel_rfl) (by kernel_rfl) (by kernel_rfl) (by decide) fun svs b K hP=>?_
 obtain⟨ps,o,b',e,hp,hk⟩:=Vy hP
 unfold c96 at e
 split at e
 rename_i s p bad un ps
 cases e
 obtain⟨h01,h02,_⟩:=hp
 refine W96.en (have a0:=VX s (RS.mk p bad (un||VS s p)) [];(s.length<=1000000)/\(p<=s.length+1)/\cond (!(Vo s p)) (K (.val (.str [])) (some (.blk 46 [(.str s),(.nat p),(.bool true),(.bool (un||VS s p)),(.bool ps)]))) ((s.length<=1000000)/\(p<=s.length+1)/\K (.val (.str (a0.1))) (some (.blk 46 [(.str s),(.nat (a0.2.p)),(.bool (a0.2.bad)),(.bool (a0.2.un)),(.bool ps)])))) ?_
 refine Qgc (Qgc ?_)
 refine Qa ?_ ?_<;>intro h1<;>try simp[-za]at h1
 exact kst hk (by unfold Qi;rw[if_neg (by simp[h1])];rfl)
 refine Qgc (Qgc ?_)
 exact kst hk (by unfold Qi;rw[if_pos (by simpa using h1)];rfl)
 cases e
def c109 (svs:List SV) (b:Option SB):FR:=match svs,b with
 | [.ptr 0 0],some (.blk 46 [.str s,.nat p,.bool bad,.bool un,.bool ps])=>some ([s.length<=1000000,p<=s.length+1],.val (.str (Zu s ⟨p,bad,un⟩).1),
  some (.blk 46 [.str s,.nat (Zu s ⟨p,bad,un⟩).2.p,.bool (Zu s ⟨p,bad,un⟩).2.bad,.bool (Zu s ⟨p,bad,un⟩).2.un,.bool ps]))
 | _,_=>none
noncomputable def W109:Wk:=⟨[(66,.pure c66),(89,.pure c89),(95,.fn c95),(108,.fn c108)],Qh Tryz.f109,true,false,[.tmp 2],[9],[],[]⟩
theorem Qyj:Has 109:=hsf Tryz.f109
theorem kfz1 {c0 p0 p1 q:Prop} (k:q) (h:c0->p0/\p1/\True:=by intro g0;(try simp at g0);exact⟨(by first | omega | (simp;done) | (simp;omega) | (simp;assumption)),(by first | omega | (simp;done) | (simp;omega) | (simp;assumption)),trivial⟩):(c0->p0/\p1/\True)/\q:=⟨h,k⟩
theorem QwC:Sat 109 (fnS c109):=by
 have hD:Qb W109.D:=(Qb.cons Ua J6 (Qb.cons Qg9 Qgw (Qb.cons Qnh QmA (Qb.cons QrA Qp4 Qb.nil))))
 refine W109.sat hD (fn:=Tryz.f109) (by kernel_rfl) (by kernel_rfl) (by kernel_rfl) (by decide) fun svs b K hP=>?_
 obtain⟨ps,o,b',e,hp,hk⟩:=Vy hP
 unfold c109 at e
 split at e
 rename_i s p bad un ps
 cases e
 obtain⟨h01,h02,_⟩:=hp
 refine W109.en (have a0:=VX s (RS.mk p (bad||(!(Qq (bat s p)))) ((un||VS s p)||(Qq (bat s p)))) [];have a1:=VX s (RS.mk p bad (un||VS s p)) [];have a2:=s.length<=1000000;have a3:=p<=s.length+1;a2/\a3/\cond (!(Vo s p)) (((un||VS s p)=false->a2/\a3/\True)/\(bad=false->a2/\a3/\True)/\cond (bad||(!(Qq (bat s p)))) (K (.val (.str [])) (some (.blk 46 [(.str s),(.nat p),(.bool (bad||(!(Qq (bat s p))))),(.bool ((un||VS s p)||(Qq (bat s p)))),(.bool ps)]))) (a2/\a3/\K (.val (.str (a0.1))) (some (.blk 46 [(.str s),(.nat (a0.2.p)),(.bool (a0.2.bad)),(.bool (a0.2.un)),(.bool ps)])))) (cond bad (K (.val (.str [])) (some (.blk 46 [(.str s),(.nat p),(.bool bad),(.bool (un||VS s p)),(.bool ps)]))) (a2/\a3/\K (.val (.str (a1.1))) (some (.blk 46 [(.str s),(.nat (a1.2.p)),(.bool (a1.2.bad)),(.bool (a1.2.un)),(.bool ps)]))))) ?_
 refine Qgc (Qgc ?_)
 refine Qa ?_ ?_<;>intro h1<;>try simp[-za]at h1
 refine kfz1 (kfz1 ?_)
 refine Qa ?_ ?_<;>intro h2<;>try simp[-za]at h2
 refine kst hk ?_
 unfold Zu
 simp_all [RS.unI,RS.no,zZ]
 refine Qgc (Qgc ?_)
 refine kst hk ?_
 unfold Zu
 simp_all [RS.unI,RS.no,zZ]
 refine Qa (fun h2=>?_) (fun h2=>?_)
 try simp[-za]at h2
 refine kst hk ?_
 unfold Zu
 simp_all [RS.unI,RS.no,zZ]
 try simp[-za]at h2
 refine Qgc (Qgc ?_)
 refine kst hk ?_
 unfold Zu
 simp_all [RS.unI,RS.no,zZ]
 cases e
def c139 (svs:List SV) (b:Option SB):FR:=match svs,b with
 | [.ptr 0 0],some (.blk 46 [.str s,.nat p,.bool bad,.bool un,.bool ps])=>some ([s.length<=1000000,p<=s.length+1,p<s.length],.val (.str (Jq s ⟨p,bad,un⟩).1),
  some (.blk 46 [.str s,.nat (Jq s ⟨p,bad,un⟩).2.p,.bool (Jq s ⟨p,bad,un⟩).2.bad,.bool (Jq s ⟨p,bad,un⟩).2.un,.bool ps]))
 | _,_=>none
noncomputable def Qgi:Wk:=⟨[(43,.plain c43),(66,.pure c66),(107,.pure Qr9),(122,.fn c122)],Qh Tryz.f139,true,false,[.tmp 2],[9],[(4,25)],[]⟩
theorem QxX:Has 139:=hsf Tryz.f139
theorem UI {p q:Prop} (k:q) (h:p:=by first | omega | (have:=Qaf s t;omega) | (simp;omega) | assumption | (intro h;simp[h]) | (simp;done)):p/\q:=⟨h,k⟩
theorem Qwf:Sat 139 (fnS c139):=by
 have hD:Qb Qgi.D:=(Qb.cons QcU Qcu (Qb.cons Ua J6 (Qb.cons QlT Qk0 (Qb.cons Qrz Qp3 Qb.nil))))
 refine Qgi.sat hD (fn:=Tryz.f139) (by kernel_rfl) (by kernel_rfl) (by kernel_rfl) (by decide) fun svs b K hP=>?_
 obtain⟨ps,o,b',e,hp,hk⟩:=Vy hP
 unfold c139 at e
 split at e
 rename_i s p bad un ps
 cases e
 obtain⟨h01,h02,h03,_⟩:=hp
 have L4:∀(mm:Nat) (t:RS) (acc:Bs),s.length-t.p=mm->t.p<=s.length+1/\acc.length<=t.p*4/\Vu s (bat s p) t acc=Jq s ⟨p,bad,un⟩->Qgi.L K 4 (mkS 110 [(0,(.ptr 0 0)),(3,(.byt (s.getD p 0))),(4,(.str acc))] [(0,.blk 46 [(.str s),(.nat t.p),(.bool t.bad),(.bool t.un),(.bool ps)])] 1):=by
  intro mm
  induction mm using zi with
  | _ mm ih=>
   intro t acc hm hI
   obtain⟨k1,k2,k3⟩:=hI
   refine Qgi.aL hD (have a0:=t.p+1<=9223372036854775807;have a1:Option SB:=some (.blk 46 [(.str s),(.nat t.p),(.bool true),(.bool t.un),(.bool ps)]);have a2:=s.length<=1000000;have a3:SV:=.byt (s.getD p 0);cond (decide (t.p<s.length)) (a2/\(t.p<=s.length+1)/\cond (decide (bat s t.p=bat s p)) (a0/\K (.val (.str acc)) (some (.blk 46 [(.str s),(.nat (t.p+1)),(.bool t.bad),(.bool t.un),(.bool ps)]))) (cond (((decide (bat s t.p=10))||(decide (bat s t.p=13)))||(decide (bat s t.p=12))) (K (.val (.str [])) a1) (cond (!(decide (bat s t.p=92))) (a0/\(t.p<=t.p+1/\t.p+1<=s.length)/\(acc.length+((s.take (t.p+1)).drop t.p).length<=2305843009213693952)/\a0/\(Qgi).L K 4 (mkS 110 [(0,(.ptr 0 0)),(3,a3),(4,(.str (acc++((s.take (t.p+1)).drop t.p))))] [(0,.blk 46 [(.str s),(.nat (t.p+1)),(.bool t.bad),(.bool t.un),(.bool ps)])] 1)) (a2/\(t.p<=s.length+1)/\cond (JU s t.p) (a2/\(t.p<=s.length+1)/\(JU s t.p=true)/\(acc.length+((VR s t).1).length<=2305843009213693952)/\(Qgi).L K 4 (mkS 110 [(0,(.ptr 0 0)),(3,a3),(4,(.str (acc++((VR s t).1))))] [(0,.blk 46 [(.str s),(.nat ((VR s t).2.p)),(.bool ((VR s t).2.bad)),(.bool ((VR s t).2.un)),(.bool ps)])] 1)) (a0/\a2/\(t.p+1<=s.length+1)/\(2<=1000)/\cond (Q3 s [13,10] (t.p+1)) ((Qgi).L K 4 (mkS 110 [(0,(.ptr 0 0)),(3,a3),(4,(.str acc))] [(0,.blk 46 [(.str s),(.nat (t.p+3)),(.bool t.bad),(.bool t.un),(.bool ps)])] 1)) ((t.p+2<=9223372036854775807)/\(Qgi).L K 4 (mkS 110 [(0,(.ptr 0 0)),(3,a3),(4,(.str acc))] [(0,.blk 46 [(.str s),(.nat (t.p+2)),(.bool t.bad),(.bool t.un),(.bool ps)])] 1))))))) (K (.val (.str [])) a1)) ?_
   refine Qa ?_ ?_<;>intro h1<;>try simp[-za]at h1
   refine UI (UI ?_)
   refine Qa ?_ ?_<;>intro h2<;>try simp[-za]at h2
   refine UI ?_
   exact kst hk (by rw[<-k3];exact Qp8 h1 h2)
   refine Qa (fun h3=>?_) (fun h3=>?_)
   try simp[-za]at h3
   exact kst hk (by rw[<-k3];exact Qp9 h1 h2 (by simp[YL];omega))
   try simp[-za]at h3
   refine Qa ?_ ?_<;>intro h4<;>try simp[-za]at h4
   refine UI (UI (UI (UI ?_)))
   rw[cut1 h1]
   exact ih _ (by simp only[RS.go_p];omega) (t.go (t.p+1)) _ rfl ⟨by simp only[RS.go_p];omega,by simp;omega,by rw[<-Qn6 h1 h2 (by simp[YL];omega) h4];exact k3⟩
   refine UI (UI ?_)
   refine Qa ?_ ?_<;>intro h5<;>try simp[-za]at h5
   refine UI (UI (UI (UI ?_)))
   have q1:=Qae s t
   have q2:=Qei h5
   have q3:=Qaf s t
   exact ih _ (by omega) (VR s t).2 _ rfl ⟨by omega,by simp;omega,by rw[<-Qn5 h1 h2 h4 h5];exact k3⟩
   refine UI (UI (UI (UI ?_)))
   refine Qa ?_ ?_<;>intro h6<;>try simp[-za]at h6
   have q:=lf2 h6
   exact ih _ (by simp only[RS.go_p];omega) (t.go (t.p+1+2)) _ rfl ⟨by simp only[RS.go_p];omega,by simp only[RS.go_p];omega,by rw[<-k3,Qgy h1 h2 h4 h5,if_pos ⟨q.1,q.2.1,q.2.2⟩]⟩
   refine UI ?_
   have q:=lf2n h6
   exact ih _ (by simp only[RS.go_p];omega) (t.go (t.p+1+1)) _ rfl ⟨by simp only[RS.go_p];omega,by simp only[RS.go_p];omega,by rw[<-k3,Qgy h1 h2 h4 h5,if_neg (fun h=>q ⟨h.1,h.2.1,h.2.2⟩)]⟩
   exact kst hk (by rw[<-k3];exact Qp7 (by omega))
 refine Qgi.en ((s.length<=1000000)/\(p<=s.length+1)/\(p+1<=9223372036854775807)/\(Qgi).L K 4 (mkS 110 [(0,(.ptr 0 0)),(3,(.byt (s.getD p 0))),(4,(.str []))] [(0,.blk 46 [(.str s),(.nat (p+1)),(.bool bad),(.bool un),(.bool ps)])] 1)) ?_
 refine UI (UI (UI ?_))
 exact L4 _ (RS.go ⟨p,bad,un⟩ (p+1)) [] rfl ⟨by simp only[RS.go_p];omega,by simp,rfl⟩
 cases e
def c123 (svs:List SV) (b:Option SB):FR:=match svs,b with
 | [.ptr 0 0],some (.blk 46 [.str s,.nat p,.bool bad,.bool un,.bool ps])=>some ([s.length<=1000000,p<=s.length+1],.val (.str (Qs s ⟨p,bad,un⟩).1),
  some (.blk 46 [.str s,.nat (Qs s ⟨p,bad,un⟩).2.p,.bool (Qs s ⟨p,bad,un⟩).2.bad,.bool (Qs s ⟨p,bad,un⟩).2.un,.bool ps]))
 | _,_=>none
noncomputable def W123:Wk:=⟨[(66,.pure c66),(89,.pure c89),(95,.fn c95),(96,.fn c96),(139,.fn c139)],Qh Tryz.f123,true,false,[.tmp 2],[9],[],[]⟩
theorem Qry:Has 123:=hsf Tryz.f123
theorem Qfp {p q:Prop} (k:q) (h:p:=by first | omega | (simp;done) | (simp;omega) | assumption | (rcases h1 with h1 | h1<;>exact QV h1 (by decide))):p/\q:=⟨h,k⟩
theorem Qp2:Sat 123 (fnS c123):=by
 have hD:Qb W123.D:=(Qb.cons Ua J6 (Qb.cons Qg9 Qgw (Qb.cons Qnh QmA (Qb.cons Qfz QeU (Qb.cons QxX Qwf Qb.nil)))))
 refine W123.sat hD (fn:=Tryz.f123) (by kernel_rfl) (by kernel_rfl) (by kernel_rfl) (by decide) fun svs b K hP=>?_
 obtain⟨ps,o,b',e,hp,hk⟩:=Vy hP
 unfold c123 at e
 split at e
 rename_i s p bad un ps
 cases e
 obtain⟨h01,h02,_⟩:=hp
 refine W123.en (have a0:=Qi s (RS.mk p bad (un||VS s p));have a1:=s.length<=1000000;have a2:=Jq s (RS.mk p bad un);have a3:=Qi s (RS.mk p bad true);have a4:=p<=s.length+1;a1/\a4/\cond ((decide (bat s p=34))||(decide (bat s p=39))) (a1/\a4/\(p<s.length)/\K (.val (.str (a2.1))) (some (.blk 46 [(.str s),(.nat (a2.2.p)),(.bool (a2.2.bad)),(.bool (a2.2.un)),(.bool ps)]))) (a1/\a4/\cond ((!(Vo s p))&&((Qq (bat s p))||(decide (128<=bat s p)))) (a1/\a4/\K (.val (.str (a3.1))) (some (.blk 46 [(.str s),(.nat (a3.2.p)),(.bool (a3.2.bad)),(.bool (a3.2.un)),(.bool ps)]))) (a1/\a4/\K (.val (.str (a0.1))) (some (.blk 46 [(.str s),(.nat (a0.2.p)),(.bool (a0.2.bad)),(.bool (a0.2.un)),(.bool ps)]))))) ?_
 refine Qfp (Qfp ?_)
 refine Qa ?_ ?_<;>intro h1<;>try simp[-za]at h1
 refine Qfp (Qfp (Qfp ?_))
 exact kst hk (by unfold Qs;rw[if_pos (by simp[isQ];omega)])
 refine Qfp (Qfp ?_)
 refine Qa ?_ ?_<;>intro h2<;>try simp[-za]at h2
 refine Qfp (Qfp ?_)
 have e:(Qq (bat s p)||decide (128<=bat s p))=true:=by simpa using h2.2
 exact kst hk (by unfold Qs;rw[if_neg (by simp[isQ];omega)];simp[RS.unI,h2.1,e])
 refine Qfp (Qfp ?_)
 have e:(!Vo s p&&(Qq (bat s p)||decide (128<=bat s p)))=false:=by simpa using h2
 exact kst hk (by unfold Qs;rw[if_neg (by simp[isQ];omega)];simp[RS.unI,e])
 cases e
end
section
open Go Go.RowKit
set_option maxRecDepth 20000
theorem Qlw (l:Bs) (i:Nat) (h:i<l.length):(low (l.take i)++l.drop i).getD i 0=l.getD i 0:=by
 have e:(low (l.take i)).length=i:=by simp[low];omega
 rw[za,List.getElem?_append_right (by omega),e,Nat.sub_self,List.getElem?_drop,Nat.add_zero,za]
theorem Qeo (l:Bs) (i:Nat) (h:i<l.length):(low (l.take i)++l.drop i).set i (QbE (l.getD i 0))=low (l.take (i+1))++l.drop (i+1):=by
 have e:(low (l.take i)).length=i:=by simp[low];omega
 rw[List.set_append_right _ _ (by omega),e,Nat.sub_self,zN,zG h,List.set_cons_zero,ze h]
 simp only[low,List.map_append,za,ze h,Option.getD_some,Option.toList_some,zY,List.map_nil,zq,xe]
theorem QcJ (l:Bs) (i:Nat) (h:i<l.length) (hc:QbE (l.getD i 0)=l.getD i 0):low (l.take i)++l.drop i=low (l.take (i+1))++l.drop (i+1):=by
 have e:(low (l.take i)).length=i:=by simp[low];omega
 rw[zN,zG h,ze h]
 simp only[za,ze h,Option.getD_some]at hc
 simp only[low,List.map_append,Option.toList_some,zY,List.map_nil,zq,xe,hc]
theorem QeB (l:Bs) (i:Nat) (h:i<l.length):bat (low (l.take i)++l.drop i) i=bat l i:=by unfold bat;rw[Qlw l i h]
def c77 (svs:List SV) (b:Option SB):QR:=match svs,b with
 | [.str l],none=>some ([l.length<=1000000000],.str (low l))
 | _,_=>none
noncomputable def W77:Wk:=⟨[],Qh Tryz.f77,false,false,[.tmp 2],[9],[(3,24)],[]⟩
theorem QfA:Has 77:=hsf Tryz.f77
theorem kgz1 {c0 p0 q:Prop} (k:q) (h:c0->p0/\True:=by intro g0;(try simp at g0);exact⟨(by first | omega | (simp;done) | (simp;omega) | (simp;assumption)),trivial⟩):(c0->p0/\True)/\q:=⟨h,k⟩
theorem Qig {p q:Prop} (k:q) (h:p:=by first | omega | (simp;done) | (simp;omega) | (simp;assumption)):p/\q:=⟨h,k⟩
theorem QeV:Sat 77 (Ql c77):=by
 have hD:Qb W77.D:=Qb.nil
 refine W77.sa hD Tryz.f77 fun svs b K hP=>?_
 obtain⟨ps,v,e,hp,hk⟩:=Qd hP
 unfold c77 at e
 split at e
 rename_i l
 cases e
 obtain⟨h01,_⟩:=hp
 have L3:∀(mm:Nat) (i:Nat),l.length-i=mm->(i<=l.length)->W77.L K 3 (mkS 33 [(3,(.own 1)),(4,(.nat i))] [(1,.row (.bytes (low (l.take i)++l.drop i)) false)] 2):=by
  intro mm
  induction mm using zi with
  | _ mm ih=>
   intro i hm hI
   have q:(low (l.take i)++l.drop i).length=l.length:=by simp[low];omega
   refine W77.aL hD (have a0:=low (l.take i)++l.drop i;have a1:=(decide (65<=bat a0 i))=true->(i<a0.length)/\True;cond (decide (i<a0.length)) ((i<a0.length)/\(i<a0.length)/\a1/\a1/\cond ((decide (65<=bat a0 i))&&(decide (bat a0 i<=90))) ((i<a0.length)/\(i<a0.length)/\(i<a0.length)/\(i<a0.length)/\(i+1<=9223372036854775807)/\(W77).L K 3 (mkS 33 [(3,(.own 1)),(4,(.nat (i+1)))] [(1,.row (.bytes (a0.set i (a0.getD i 0+32))) false)] 2)) ((i+1<=9223372036854775807)/\(W77).L K 3 (mkS 33 [(3,(.own 1)),(4,(.nat (i+1)))] [(1,.row (.bytes a0) false)] 2))) (K (.val (.str a0)) none)) ?_
   refine Qa ?_ ?_<;>intro h1<;>try simp[-za]at h1
   refine Qig (Qig (kgz1 (kgz1 ?_)))
   refine Qa ?_ ?_<;>intro h2<;>try simp[-za]at h2
   refine Qig (Qig (Qig (Qig (Qig ?_))))
   have h0:i<l.length:=by simp[low]at h1;omega
   rw[QeB l i h0]at h2
   have e:((low (l.take i)++l.drop i).set i ((low (l.take i)++l.drop i).getD i 0+32))=low (l.take (i+1))++l.drop (i+1):=by
    rw[<-Qeo l i h0,Qlw l i h0];unfold QbE;rw[if_pos (show 65<=(l.getD i 0).toNat/\(l.getD i 0).toNat<=90 from h2)]
   rw[e]
   exact ih _ (by omega) (i+1) rfl (by omega)
   refine Qig ?_
   have h0:i<l.length:=by simp[low]at h1;omega
   rw[QeB l i h0]at h2
   rw[QcJ l i h0 (by unfold QbE;rw[if_neg (fun h=>by have:=h2 h.1;have h3:bat l i<=90:=h.2;omega)])]
   exact ih _ (by omega) (i+1) rfl (by omega)
   have h0:i=l.length:=by simp[low]at h1;omega
   rw[h0,xi,List.drop_length,zD]
   exact hk
 refine W77.en ((l.length<=1099511627776)/\(W77).L K 3 (mkS 33 [(3,(.own 1)),(4,(.nat 0))] [(1,.row (.bytes l) false)] 2)) ?_
 refine Qig ?_
 exact L3 _ 0 rfl (by omega)
 cases e
theorem Qi4 (l:List (List SelD)) (i:Nat):(l.take i).flatten.length<=l.flatten.length:=by
 conv=>rhs;rw[<-List.take_append_drop i l,xv,zf]
 omega
theorem Qhc (l:List (List SelD)) (i:Nat) (h:i<l.length):(l.take (i+1)).flatten=(l.take i).flatten++l.getD i []:=by
 rw[zN,xv,ze h]
 simp[za,ze h]
def c29i (svs:List SV) (b:Option SB):FR:=match svs,b with
 | [.agg [.int .i64 k,.int .i64 o,.str ke,.str va,.int .i64 a,.int .i64 bb,.int .i64 fl,.int .i64 sz],.sl (.selss l)],none=>some ([l.length<=1000000000,l.flatten.length<=1000000000000],.row (.sels (Qj ⟨k,o,ke,va,a,bb,fl,sz⟩ l.flatten)),none)
 | _,_=>none
noncomputable def W29:Wk:=⟨[],Qh Tryz.f29,false,true,[.tmp 4],[22],[(3,98)],[]⟩
theorem QcV:Has 29:=hsf Tryz.f29
theorem Qq2 {p q:Prop} (k:q) (h:p:=by first | omega | (simp only[zf];have:=q3 h1;omega)):p/\q:=⟨h,k⟩
theorem QvF:Sat 29 (fnS c29i):=by
 have hD:Qb W29.D:=Qb.nil
 refine W29.sa hD Tryz.f29 fun svs b K hP=>?_
 obtain⟨ps,o,b',e,hp,hk⟩:=Vy hP
 unfold c29i at e
 split at e
 rename_i k o ke va a bb fl sz l
 cases e
 obtain⟨h01,h02,_⟩:=hp
 have L3:∀(mm:Nat) (i:Nat) (r:List SelD),l.length-i=mm->(i<=l.length/\r=⟨k,o,ke,va,a,bb,fl,sz⟩::(l.take i).flatten)->W29.L K 3 (mkS 27 [(1,(.sl (.selss l))),(5,(.own 1)),(6,(.nat i))] [(1,.row (.sels r) true)] 2):=by
  intro mm
  induction mm using zi with
  | _ mm ih=>
   intro i r hm hI
   obtain⟨k1,k2⟩:=hI
   have q1:=Qi4 l i
   have q2:=Qi4 l (i+1)
   have q3:=fun h=>congrArg List.length (Qhc l i h)
   have q4:r.length=(l.take i).flatten.length+1:=by rw[k2];simp
   simp only[zf]at q3
   refine W29.aL hD (cond (decide (i<l.length)) ((i<l.length)/\(r.length+(l.getD i []).length<=1099511627776)/\(i+1<=9223372036854775807)/\(W29).L K 3 (mkS 27 [(1,(.sl (.selss l))),(5,(.own 2)),(6,(.nat (i+1)))] [(2,.row (.sels (r++(l.getD i []))) true)] 3)) ((0<r.length)/\(0<r.length)/\K (.row (.sels (r.set 0 { r.getD 0 default with size:=((r.length:Nat):Int) }))) none)) ?_
   refine Qa ?_ ?_<;>intro h1<;>try simp[-za]at h1
   refine Qq2 (Qq2 (Qq2 ?_))
   exact Wk.L.rn [0,2] (ih _ (by omega) (i+1) (r++l.getD i []) rfl ⟨by omega,by rw[k2,Qhc l i h1];simp⟩)
   refine Qq2 (Qq2 ?_)
   refine keq hk ?_ rfl
   rw[k2,show i=l.length from by omega,xi]
   simp[Qj,Qr]
 refine W29.en ((W29).L K 3 (mkS 27 [(1,(.sl (.selss l))),(5,(.own 2)),(6,(.nat 0))] [(2,.row (.sels [SelD.mk k o ke va a bb fl sz]) true),(1,.blk 33 [(.int .i64 k),(.int .i64 o),(.str ke),(.str va),(.int .i64 a),(.int .i64 bb),(.int .i64 fl),(.int .i64 sz)])] 3)) ?_
 exact Wk.L.rn [0,2] (L3 _ 0 [⟨k,o,ke,va,a,bb,fl,sz⟩] rfl ⟨by omega,by simp⟩)
 cases e
def c29 (svs:List SV) (b:Option SB):FR:=match svs,b with
 | [x,k],none=>match QbL x,Qhw k with
  | some x,some l=>some ([l.length<=1000000000,l.flatten.length<=1000000000000],.row (.sels (Qj x l.flatten)),none)
  | _,_=>none
 | _,_=>none
theorem Qcv:Sat 29 (fnS c29):=by
 refine Sat.wk QvF fun svs b K h=>?_
 obtain⟨ps,o,b',e,hp,hk⟩:=Vy h
 unfold c29 at e
 split at e
 rename_i x k
 split at e
 rename_i x' l hx hl
 cases e
 refine⟨[.agg (Vn x'),.sl (.selss l)],⟨fun ω v=>JW hx,fun ω v=>QiZ hl ω v,trivial⟩,?_⟩
 exact⟨hp.1,hp.2.1,hk⟩
 cases e
 cases e
def Yc (l:List SelD) (i:Nat):List SelD:=if l.length<=i then [] else (l.take ((i:Int)+(l.getD i default).size).toNat).drop i
def Z0 (l:List SelD) (fin:Int) (k:Nat):List Nat:=
 if (k:Int)<fin/\k<l.length then k::Z0 l fin (k+(max 1 (l.getD k default).size).toNat) else []
 termination_by l.length-k
 decreasing_by have:1<=(max 1 (l.getD k default).size).toNat:=by omega
               omega
theorem Qfo (l:List SelD) (fin:Int) (k:Nat):(Z0 l fin k).length<=l.length-k:=by
 fun_induction Z0 l fin k with
 | case1 k h ih=>simp only[zg];omega
 | case2=>simp
def Qe (l:List SelD) (i:Nat):List Nat:=Z0 l ((i:Int)+(l.getD i default).size) (i+1)
def c24 (svs:List SV) (b:Option SB):QR:=match svs,b with
 | [.sl (.sels l),.nat i],none=>some ([i<=1000000000000/\l.length<=1000000000000,i<l.length->0<=(l.getD i default).size/\(i:Int)+(l.getD i default).size<=l.length],.sl (.sels (Yc l i)))
 | _,_=>none
noncomputable def W24:Wk:=⟨[],Qh Tryz.f24,false,false,[.tmp 4],[22],[],[]⟩
theorem Qvd:Has 24:=hsf Tryz.f24
theorem kgz3 {p q:Prop} (k:q) (h:p:=by first | omega | (have:=h02 (by omega);unfold inI;omega) | (have:=h02 (by omega);omega)):p/\q:=⟨h,k⟩
theorem QuL:Sat 24 (Ql c24):=by
 have hD:Qb W24.D:=Qb.nil
 refine W24.sa hD Tryz.f24 fun svs b K hP=>?_
 obtain⟨ps,v,e,hp,hk⟩:=Qd hP
 unfold c24 at e
 split at e
 rename_i l i
 cases e
 obtain⟨h01,h02,_⟩:=hp
 refine W24.en (have a0:=((i:Nat):Int)+(l.getD i default).size;cond (decide (l.length<=i)) (K (.val (.sl (.sels []))) none) ((i<l.length)/\(inI a0)/\(0<=a0)/\(i<=(a0).toNat/\(a0).toNat<=l.length)/\K (.val (.sl (.sels ((l.take ((a0).toNat)).drop i)))) none)) ?_
 refine Qa ?_ ?_<;>intro h1<;>try simp[-za]at h1
 unfold Yc at hk
 rw[if_pos h1]at hk
 exact hk
 refine kgz3 (kgz3 (kgz3 (kgz3 ?_)))
 unfold Yc at hk
 rw[if_neg (by omega)]at hk
 exact hk
 cases e
def c17 (svs:List SV) (b:Option SB):FR:=match svs,b with
 | [.sl (.sels l),.nat i],none=>some ([i<l.length/\l.length<=1000000000000,0<=(l.getD i default).size/\(i:Int)+(l.getD i default).size<=l.length,∀k,k∈Qe l i->(l.getD k default).size<=1000000000000],.row (.ints (Qe l i)),none)
 | _,_=>none
noncomputable def W17:Wk:=⟨[],Qh Tryz.f17,false,true,[.tmp 4],[34],[(3,99)],[]⟩
theorem Qkl:Has 17:=hsf Tryz.f17
theorem QoI {p q:Prop} (k:q) (h:p:=by first | omega | (unfold inI;omega) | (have:=h03 k (by rw[k1,Z0,if_pos ⟨h1,by omega⟩];simp);unfold inI;omega) | (simp only[zH];omega)):p/\q:=⟨h,k⟩
theorem Qji:Sat 17 (fnS c17):=by
 have hD:Qb W17.D:=Qb.nil
 refine W17.sa hD Tryz.f17 fun svs b K hP=>?_
 obtain⟨ps,o,b',e,hp,hk⟩:=Vy hP
 unfold c17 at e
 split at e
 rename_i l i
 cases e
 obtain⟨h01,h02,h03,_⟩:=hp
 have L3:∀(mm:Nat) (k:Nat) (r:List Nat),l.length-k=mm->(Qe l i=r++Z0 l ((i:Int)+(l.getD i default).size) k/\r.length<=k)->W17.L K 3 (mkS 31 [(0,(.sl (.sels l))),(1,(.nat i)),(5,(.own 1)),(6,(.nat k))] [(1,.row (.ints r) true)] 2):=by
  intro mm
  induction mm using zi with
  | _ mm ih=>
   intro k r hm hI
   obtain⟨k1,k2⟩:=hI
   refine W17.aL hD (have a0:=((k:Nat):Int)+(max (1:Int) ((l.getD k default).size));(i<l.length)/\(inI (((i:Nat):Int)+(l.getD i default).size))/\cond (decide (((k:Nat):Int)<(((i:Nat):Int)+(l.getD i default).size))) ((r.length+1<=1099511627776)/\(k<l.length)/\(inI a0)/\(W17).L K 3 (mkS 31 [(0,(.sl (.sels l))),(1,(.nat i)),(5,(.own 3)),(6,(.int .i64 a0))] [(3,.row (.ints (r++[k])) true)] 4)) (K (.row (.ints r)) none)) ?_
   refine QoI (QoI ?_)
   refine Qa ?_ ?_<;>intro h1<;>try simp[-za]at h1
   refine QoI (QoI (QoI ?_))
   have e0:((k:Int)+max 1 (l.getD k default).size)=((k+(max 1 (l.getD k default).size).toNat:Nat):Int):=by omega
   rw[e0]
   exact Wk.L.rn [0,3] (ih _ (by omega) (k+(max 1 (l.getD k default).size).toNat) (r++[k]) rfl ⟨by
    rw[k1]
    conv=>lhs;rw[Z0]
    rw[if_pos ⟨h1,by omega⟩]
    simp,by simp only[zf,zH];omega⟩)
   rw[Z0,if_neg (by omega),zD]at k1
   rw[k1]at hk
   exact hk
 refine W17.en ((i+1<=9223372036854775807)/\(W17).L K 3 (mkS 31 [(0,(.sl (.sels l))),(1,(.nat i)),(5,.nilsl),(6,(.nat (i+1)))] [] 1)) ?_
 refine QoI ?_
 exact Wk.L.le (Yd.adopt 5 (T:=34) (x:=.ints []) (by kernel_rfl) (by kernel_rfl)) (Wk.L.rn [0,1] (L3 _ (i+1) [] rfl ⟨rfl,by simp⟩))
 cases e
end
section
open Go Go.RowKit
set_option maxRecDepth 20000
theorem V9 {K:Out->Option SB->Prop} {s:Bs} {ps:Bool} {r:List SelD×RS} {v:List SelD} {p:Nat} {b u:Bool}
 (hk:K (.row (.sels r.1)) (some (.blk 46 [.str s,.nat r.2.p,.bool r.2.bad,.bool r.2.un,.bool ps]))) (e:r=(v,⟨p,b,u⟩)) :
 K (.row (.sels v)) (some (.blk 46 [.str s,.nat p,.bool b,.bool u,.bool ps])):=by rw[e]at hk;exact hk
theorem JP (s:Bs) (t:RS) (h:t.p<=s.length+1):(Qs s t).2.p<=s.length+1:=by
 refine Qn1 s t ?_
 by_cases hl:t.p<s.length
 exact .inl hl
 exact .inr ⟨h,by rw[bat_out (by omega)];rfl⟩
theorem QsY (s:Bs) (t:RS) (acc:Bs):(VX s t acc).1.length+4*t.p<=acc.length+4*(VX s t acc).2.p:=by
 fun_induction VX s t acc with
 | case1 t acc h1 h2 ih=>simp only[RS.go_p,zf,zH]at ih;omega
 | case2 t acc h1 h2 h3 ih=>
  simp only[zf]at ih
  have:=Qaf s t
  have:=Qae s t
  omega
 | case3=>exact zj _
 | case4=>exact zj _
theorem YB (s:Bs) (t:RS) (h:t.p<=s.length+1):(Qi s t).1.length<=4*(s.length+1):=by
 have hl:=Jt s t h
 unfold Qi at hl ⊢
 split
 rename_i q
 rw[if_pos q]at hl
 have:=QsY s (t.unI (VS s t.p)) []
 simp only[zl,RS.unI_p]at this
 omega
 simp
theorem h93t {s:Bs} {p:Nat} (h:Q3 s [93] p=true):bat s p=93:=by
 rw[Jf s p 93 (by decide)]at h;exact of_decide_eq_true h
theorem h93f {s:Bs} {p:Nat} (h:Q3 s [93] p=false):¬bat s p=93:=by
 rw[Jf s p 93 (by decide)]at h;exact of_decide_eq_false h
theorem h40t {s:Bs} {p:Nat} (h:Q3 s [40] p=true):bat s p=40:=by
 rw[Jf s p 40 (by decide)]at h;exact of_decide_eq_true h
theorem h40f {s:Bs} {p:Nat} (h:Q3 s [40] p=false):¬bat s p=40:=by
 rw[Jf s p 40 (by decide)]at h;exact of_decide_eq_false h
theorem QaJ {s:Bs} {p:Nat} (h:Q3 s [41] p=true):bat s p=41:=by
 rw[Jf s p 41 (by decide)]at h;exact of_decide_eq_true h
theorem QoW {s:Bs} {p:Nat} (h:Q3 s [41] p=false):¬bat s p=41:=by
 rw[Jf s p 41 (by decide)]at h;exact of_decide_eq_false h
theorem h44t {s:Bs} {p:Nat} (h:Q3 s [44] p=true):bat s p=44:=by
 rw[Jf s p 44 (by decide)]at h;exact of_decide_eq_true h
theorem h44f {s:Bs} {p:Nat} (h:Q3 s [44] p=false):¬bat s p=44:=by
 rw[Jf s p 44 (by decide)]at h;exact of_decide_eq_false h
theorem h58t {s:Bs} {p:Nat} (h:Q3 s [58] p=true):bat s p=58:=by
 rw[Jf s p 58 (by decide)]at h;exact of_decide_eq_true h
theorem h58f {s:Bs} {p:Nat} (h:Q3 s [58] p=false):¬bat s p=58:=by
 rw[Jf s p 58 (by decide)]at h;exact of_decide_eq_false h
theorem QoV {s:Bs} {p:Nat} (h:Q3 s [42] p=true):bat s p=42:=by
 rw[Jf s p 42 (by decide)]at h;exact of_decide_eq_true h
theorem h42f {s:Bs} {p:Nat} (h:Q3 s [42] p=false):¬bat s p=42:=by
 rw[Jf s p 42 (by decide)]at h;exact of_decide_eq_false h
theorem Qag {s:Bs} {c:Nat} {x:SelD} {k:List SelD} {t:RS} (h:bat s t.p=c):Ji s c x k t=(Qj x k,t.go (t.p+1)):=by unfold Ji;rw[if_pos h]
theorem Qah {s:Bs} {c:Nat} {x:SelD} {k:List SelD} {t:RS} (h:¬bat s t.p=c):Ji s c x k t=(failL,t.no):=by unfold Ji;rw[if_neg h]
def UP:List Bs:=[[],[],[61],[33,61],[126,61],[124,61],[94,61],[36,61],[42,61]]
theorem Qmv {s:Bs} {p:Nat} {k:Nat} (hk:k<=9) (h:∀j,2<=j->j<k->Q3 s (UP.getD j []) p=false) :
 (2<k->bat s p≠61)/\(3<k->¬(bat s p=33/\bat s (p+1)=61))/\(4<k->¬(bat s p=126/\bat s (p+1)=61))/\(5<k->¬(bat s p=124/\bat s (p+1)=61)) /\
 (6<k->¬(bat s p=94/\bat s (p+1)=61))/\(7<k->¬(bat s p=36/\bat s (p+1)=61))/\(8<k->¬(bat s p=42/\bat s (p+1)=61)):=by
 have two:∀a:UInt8,Q3 s [a,61] p=false->¬(bat s p=a.toNat/\bat s (p+1)=61):=by
  intro a h
  rw[QbR s p a 61 (by decide)]at h
  exact of_decide_eq_false h
 refine⟨fun q=>?_,fun q=>two 33 (h 3 (by omega) q),fun q=>two 126 (h 4 (by omega) q),fun q=>two 124 (h 5 (by omega) q),fun q=>two 94 (h 6 (by omega) q),fun q=>two 36 (h 7 (by omega) q),fun q=>two 42 (h 8 (by omega) q)⟩
 have:=h 2 (by omega) q
 rw[show UP.getD 2 []=[61] from rfl,Jf s p 61 (by decide)]at this
 exact of_decide_eq_false this
theorem QnX {s:Bs} {p:Nat} (h:∀j,2<=j->j<9->Q3 s (UP.getD j []) p=false):V8 s p=(1,0):=by
 obtain⟨h2,h3,h4,h5,h6,h7,h8⟩:=Qmv (zj 9) h
 unfold V8
 rw[if_neg (h2 (by omega))]
 split
 rename_i e
 rw[if_neg (fun q=>h3 (by omega) ⟨q,e⟩),if_neg (fun q=>h4 (by omega) ⟨q,e⟩),if_neg (fun q=>h5 (by omega) ⟨q,e⟩),if_neg (fun q=>h6 (by omega) ⟨q,e⟩),if_neg (fun q=>h7 (by omega) ⟨q,e⟩),if_neg (fun q=>h8 (by omega) ⟨q,e⟩)]
 rfl
theorem QnW {s:Bs} {p:Nat} {k:Nat} (h1:2<=k) (h2:k<9) (h:∀j,2<=j->j<k->Q3 s (UP.getD j []) p=false) (hh:Q3 s (UP.getD k []) p=true) :
 V8 s p=(((k:Nat):Int),(UP.getD k []).length)/\p+(UP.getD k []).length<=s.length:=by
 have hl:p+(UP.getD k []).length<=s.length:=by
  unfold Q3 at hh
  simp only[zh,decide_eq_true_eq]at hh
  exact hh.1
 refine⟨?_,hl⟩
 obtain⟨n2,n3,n4,n5,n6,n7,n8⟩:=Qmv (xI h2) h
 have two:∀a:UInt8,Q3 s [a,61] p=true->bat s p=a.toNat/\bat s (p+1)=61:=by
  intro a h
  rw[QbR s p a 61 (by decide)]at h
  exact of_decide_eq_true h
 unfold V8
 obtain rfl | rfl | rfl | rfl | rfl | rfl | rfl:k=2\/k=3\/k=4\/k=5\/k=6\/k=7\/k=8:=by omega
 rw[show UP.getD 2 []=[61] from rfl,Jf s p 61 (by decide)]at hh
 have e:bat s p=61:=of_decide_eq_true hh
 rw[if_pos e];rfl
 obtain⟨e1,e2⟩:=two 33 hh
 rw[if_neg (by rw[e1];decide),if_pos e2,e1];rfl
 obtain⟨e1,e2⟩:=two 126 hh
 rw[if_neg (by rw[e1];decide),if_pos e2,e1];rfl
 obtain⟨e1,e2⟩:=two 124 hh
 rw[if_neg (by rw[e1];decide),if_pos e2,e1];rfl
 obtain⟨e1,e2⟩:=two 94 hh
 rw[if_neg (by rw[e1];decide),if_pos e2,e1];rfl
 obtain⟨e1,e2⟩:=two 36 hh
 rw[if_neg (by rw[e1];decide),if_pos e2,e1];rfl
 obtain⟨e1,e2⟩:=two 42 hh
 rw[if_neg (by rw[e1];decide),if_pos e2,e1];rfl
theorem Qcs {k:Nat} (h:k<9):(UP.getD k []).length<=1000:=by
 obtain rfl | rfl | rfl | rfl | rfl | rfl | rfl | rfl | rfl:k=0\/k=1\/k=2\/k=3\/k=4\/k=5\/k=6\/k=7\/k=8:=by omega
 all_goals decide
theorem QsK {k:Nat} (h:k<9):(UP.getD k []).length<=2:=by
 obtain rfl | rfl | rfl | rfl | rfl | rfl | rfl | rfl | rfl:k=0\/k=1\/k=2\/k=3\/k=4\/k=5\/k=6\/k=7\/k=8:=by omega
 all_goals decide
def c110 (svs:List SV) (b:Option SB):FR:=match svs,b with
 | [.ptr 0 0],some (.blk 46 [.str s,.nat p,.bool bad,.bool un,.bool ps])=>some ([s.length<=1000000,p<=s.length+1],.row (.sels (ZO s ⟨p,bad,un⟩).1),
  some (.blk 46 [.str s,.nat (ZO s ⟨p,bad,un⟩).2.p,.bool (ZO s ⟨p,bad,un⟩).2.bad,.bool (ZO s ⟨p,bad,un⟩).2.un,.bool ps]))
 | _,_=>none
noncomputable def QiT:Wk:=⟨[(29,.fn c29),(43,.plain c43),(64,.fn c64),(66,.pure c66),(68,.fn c68),(77,.pure c77),(96,.fn c96),(123,.fn c123)],Qh Tryz.f110,true,true,[.tmp 2],[22],[(10,57)],[]⟩
theorem Qyi:Has 110:=hsf Tryz.f110
theorem khz2 {c0 p0 p1 q:Prop} (k:q) (h:c0->p0/\p1/\True:=by intro g0;(try simp at g0);exact⟨(by first | omega | (simp;done) | exact Qcs ‹_›   | (have a1:=QB s ⟨p,bad,un⟩ h02;have a2:=Jt s _ a1;have a3:=QB s _ a2;have a4:=YB s _ a1;first | exact a1 | exact a2 | exact a3 | omega)   | (have a1:=QB s t k1;have a2:=JP s _ a1;have a3:=QB s _ a2;first | exact a1 | exact a2 | exact a3 | omega)   | (have a1:=QB s t k1;have a2:=JP s _ a1;have a3:=QB s _ a2;have a0:=h3.2;have a4:(sSp s (Qs s (sSp s t)).2).p<s.length:=(by rcases a0 with a0 | a0<;>exact QV a0 (by decide));first | omega | (have a5:=QB s ⟨(sSp s (Qs s (sSp s t)).2).p+1,(sSp s (Qs s (sSp s t)).2).bad,(sSp s (Qs s (sSp s t)).2).un⟩ (by show _+1<=_;omega);first | exact a5 | omega))),(by first | omega | (simp;done) | exact Qcs ‹_›   | (have a1:=QB s ⟨p,bad,un⟩ h02;have a2:=Jt s _ a1;have a3:=QB s _ a2;have a4:=YB s _ a1;first | exact a1 | exact a2 | exact a3 | omega)   | (have a1:=QB s t k1;have a2:=JP s _ a1;have a3:=QB s _ a2;first | exact a1 | exact a2 | exact a3 | omega)   | (have a1:=QB s t k1;have a2:=JP s _ a1;have a3:=QB s _ a2;have a0:=h3.2;have a4:(sSp s (Qs s (sSp s t)).2).p<s.length:=(by rcases a0 with a0 | a0<;>exact QV a0 (by decide));first | omega | (have a5:=QB s ⟨(sSp s (Qs s (sSp s t)).2).p+1,(sSp s (Qs s (sSp s t)).2).bad,(sSp s (Qs s (sSp s t)).2).un⟩ (by show _+1<=_;omega);first | exact a5 | omega))),trivial⟩):(c0->p0/\p1/\True)/\q:=⟨h,k⟩
theorem YC {p q:Prop} (k:q) (h:p:=by first | omega | (simp;done) | exact Qcs ‹_›   | (have a1:=QB s ⟨p,bad,un⟩ h02;have a2:=Jt s _ a1;have a3:=QB s _ a2;have a4:=YB s _ a1;first | exact a1 | exact a2 | exact a3 | omega)   | (have a1:=QB s t k1;have a2:=JP s _ a1;have a3:=QB s _ a2;first | exact a1 | exact a2 | exact a3 | omega)   | (have a1:=QB s t k1;have a2:=JP s _ a1;have a3:=QB s _ a2;have a0:=h3.2;have a4:(sSp s (Qs s (sSp s t)).2).p<s.length:=(by rcases a0 with a0 | a0<;>exact QV a0 (by decide));first | omega | (have a5:=QB s ⟨(sSp s (Qs s (sSp s t)).2).p+1,(sSp s (Qs s (sSp s t)).2).bad,(sSp s (Qs s (sSp s t)).2).un⟩ (by show _+1<=_;omega);first | exact a5 | omega))):p/\q:=⟨h,k⟩
theorem khz0 {c0 p0 q:Prop} (k:q) (h:c0->p0/\True:=by intro g0;(try simp at g0);exact⟨(by first | omega | (simp;done) | exact Qcs ‹_›   | (have a1:=QB s ⟨p,bad,un⟩ h02;have a2:=Jt s _ a1;have a3:=QB s _ a2;have a4:=YB s _ a1;first | exact a1 | exact a2 | exact a3 | omega)   | (have a1:=QB s t k1;have a2:=JP s _ a1;have a3:=QB s _ a2;first | exact a1 | exact a2 | exact a3 | omega)   | (have a1:=QB s t k1;have a2:=JP s _ a1;have a3:=QB s _ a2;have a0:=h3.2;have a4:(sSp s (Qs s (sSp s t)).2).p<s.length:=(by rcases a0 with a0 | a0<;>exact QV a0 (by decide));first | omega | (have a5:=QB s ⟨(sSp s (Qs s (sSp s t)).2).p+1,(sSp s (Qs s (sSp s t)).2).bad,(sSp s (Qs s (sSp s t)).2).un⟩ (by show _+1<=_;omega);first | exact a5 | omega))),trivial⟩):(c0->p0/\True)/\q:=⟨h,k⟩
theorem QwA:Sat 110 (fnS c110):=by
 have hD:Qb QiT.D:=(Qb.cons QcV Qcv (Qb.cons QcU Qcu (Qb.cons Qni QmB (Qb.cons Ua J6 (Qb.cons Qkk Qjh (Qb.cons QfA QeV (Qb.cons Qfz QeU (Qb.cons Qry Qp2 Qb.nil))))))))
 refine QiT.sat hD (fn:=Tryz.f110) (by kernel_rfl) (by kernel_rfl) (by kernel_rfl) (by decide) fun svs b K hP=>?_
 obtain⟨ps,o,b',e,hp,hk⟩:=Vy hP
 unfold c110 at e
 split at e
 rename_i s p bad un ps
 cases e
 obtain⟨h01,h02,_⟩:=hp
 have L10:∀(mm:Nat) (i op:Nat) (key:Bs) (t t1:RS),9-i=mm->t.p<=s.length+1/\2<=i/\i<=9/\ZO s ⟨p,bad,un⟩=Y7 s key t1/\t1.bad=false/\((op=1/\t=t1/\∀j,2<=j->j<i->Q3 s (UP.getD j []) t.p=false)\/(op≠1/\(V8 s t1.p).1=op/\t=t1.go (t1.p+(V8 s t1.p).2)))->QiT.L K 10 (mkS 115 [(0,(.ptr 0 0)),(3,(.ptr 1 0)),(4,(.own 2)),(5,(.nat i))] [(0,.blk 46 [(.str s),(.nat t.p),(.bool t.bad),(.bool t.un),(.bool ps)]),(1,.blk 33 [(.nat 5),(.nat op),(.str key),(.str []),(.nat 0),(.nat 0),(.nat 0),(.nat 0)]),(2,.row (.strs [[],[],[61],[33,61],[126,61],[124,61],[94,61],[36,61],[42,61]]) true)] 3):=by
  intro mm
  induction mm using zi with
  | _ mm ih=>
   intro i op key t t1 hm hI
   obtain⟨k1,k2,k3,k4,k5,k6⟩:=hI
   refine QiT.aL hD (have a0:=sSp s ((Qs s (sSp s t)).2);have a1:=mkS 115 [(0,(.ptr 0 0)),(3,(.ptr 1 0)),(4,(.own 2)),(5,(.nat (i+1)))] [(0,.blk 46 [(.str s),(.nat t.p),(.bool t.bad),(.bool t.un),(.bool ps)]),(1,.blk 33 [(.nat 5),(.nat op),(.str key),(.str []),(.nat 0),(.nat 0),(.nat 0),(.nat 0)]),(2,.row (.strs [[],[],[61],[33,61],[126,61],[124,61],[94,61],[36,61],[42,61]]) true)] 3;have a2:=sSp s (RS.mk (a0.p+1) (a0.bad) (a0.un));have a3:=([[],[],[61],[33,61],[126,61],[124,61],[94,61],[36,61],[42,61]]:List (List UInt8)).getD i [];have a4:=s.length<=1000000;have a5:Out:=.row (.sels (Qj (SelD.mk (5:Int) ((op:Nat):Int) key ((Qs s (sSp s t)).1) (0:Int) (0:Int) (0:Int) (0:Int)) ([]:List (List SelD)).flatten));have a6:=([]:List (List SelD)).flatten.length<=1000000000000;have a7:=([]:List (List SelD)).length<=1000000000;have a8:=t.p<=s.length+1;have a9:=decide (op=1);have a10:=i+1<=9223372036854775807;have a11:Out:=.row (.sels failL);cond (decide (i<9)) ((a9=true->(i<9)/\True)/\(a9=true->(i<9)/\True)/\(a9=true->a4/\a8/\(a3.length<=1000)/\cond (Q3 s a3 t.p) (a10/\(QiT).L K 10 (mkS 115 [(0,(.ptr 0 0)),(3,(.ptr 1 0)),(4,(.own 2)),(5,(.nat (i+1)))] [(0,.blk 46 [(.str s),(.nat (t.p+a3.length)),(.bool t.bad),(.bool t.un),(.bool ps)]),(1,.blk 33 [(.nat 5),(.nat i),(.str key),(.str []),(.nat 0),(.nat 0),(.nat 0),(.nat 0)]),(2,.row (.strs [[],[],[61],[33,61],[126,61],[124,61],[94,61],[36,61],[42,61]]) true)] 3)) (a10/\(QiT).L K 10 a1))/\(a9=false->a10/\(QiT).L K 10 a1)) (cond a9 ((t.un=false->a4/\a8/\True)/\((t.un||(decide (bat s t.p=124)))=false->a4/\a8/\True)/\K a11 (some (.blk 46 [(.str s),(.nat t.p),(.bool true),(.bool ((t.un||(decide (bat s t.p=124)))||(decide (bat s t.p=35)))),(.bool ps)]))) (a4/\a8/\a4/\((sSp s t).p<=s.length+1)/\a4/\((Qs s (sSp s t)).2.p<=s.length+1)/\a4/\(a0.p<=s.length+1)/\cond ((!a0.bad)&&((decide (bat s (a0.p)=105))||(decide (bat s (a0.p)=73)))) ((a0.p+1<=9223372036854775807)/\a4/\(a0.p+1<=s.length+1)/\a4/\(a2.p<=s.length+1)/\(1<=1000)/\cond (Q3 s [93] (a2.p)) (a7/\a6/\K (.row (.sels (Qj (SelD.mk (5:Int) ((op:Nat):Int) key ((Qs s (sSp s t)).1) (0:Int) (0:Int) (1:Int) (0:Int)) ([]:List (List SelD)).flatten))) (some (.blk 46 [(.str s),(.nat (a2.p+1)),(.bool (a2.bad)),(.bool (a2.un)),(.bool ps)]))) (K a11 (some (.blk 46 [(.str s),(.nat (a2.p)),(.bool true),(.bool (a2.un)),(.bool ps)])))) (cond ((decide (bat s (a0.p)=115))||(decide (bat s (a0.p)=83))) (a4/\(a0.p<=s.length+1)/\(1<=1000)/\cond (Q3 s [93] (a0.p)) (a7/\a6/\K a5 (some (.blk 46 [(.str s),(.nat (a0.p+1)),(.bool (a0.bad)),(.bool true),(.bool ps)]))) (K a11 (some (.blk 46 [(.str s),(.nat (a0.p)),(.bool true),(.bool true),(.bool ps)])))) (a4/\(a0.p<=s.length+1)/\(1<=1000)/\cond (Q3 s [93] (a0.p)) (a7/\a6/\K a5 (some (.blk 46 [(.str s),(.nat (a0.p+1)),(.bool (a0.bad)),(.bool (a0.un)),(.bool ps)]))) (K a11 (some (.blk 46 [(.str s),(.nat (a0.p)),(.bool true),(.bool (a0.un)),(.bool ps)])))))))) ?_
   refine Qa ?_ ?_<;>intro h1<;>try simp[-za]at h1
   refine khz0 (khz0 ?_)
   refine⟨fun h2=>?_,fun h2=>?_⟩
   try simp[-za]at h2
   refine YC (YC (YC ?_))
   refine Qa ?_ ?_<;>intro h3<;>try simp[-za]at h3
   refine YC ?_
   rcases k6 with ⟨q1,q2,q3⟩ | ⟨q1,_⟩
   subst q2
   have q4:=QnW k2 h1 q3 h3
   have q5:=QsK h1
   exact ih _ (by omega) (i+1) i key (t.go (t.p+(UP.getD i []).length)) t rfl ⟨by simp only[RS.go_p];omega,by omega,by omega,k4,k5,.inr ⟨by omega,by rw[q4.1],by rw[q4.1]⟩⟩
   exact absurd h2 q1
   refine YC ?_
   rcases k6 with ⟨q1,q2,q3⟩ | ⟨q1,_⟩
   . exact ih _ (by omega) (i+1) op key t t1 rfl ⟨by omega,by omega,by omega,k4,k5,.inl ⟨q1,q2,fun j j1 j2=>by
     by_cases e:j=i
     rw[e];exact h3
     exact q3 j j1 (by omega)⟩⟩
   exact absurd h2 q1
   try simp[-za]at h2
   refine YC ?_
   rcases k6 with ⟨q1,_⟩ | q
   exact absurd q1 h2
   exact ih _ (by omega) (i+1) op key t t1 rfl ⟨by omega,by omega,by omega,k4,k5,.inr q⟩
   refine Qa (fun h2=>?_) (fun h2=>?_)
   try simp[-za]at h2
   refine khz2 (khz2 ?_)
   rcases k6 with ⟨q1,q2,q3⟩ | ⟨q1,_⟩
   subst q2
   refine V9 hk ?_
   rw[k4]
   unfold Y7
   rw[if_pos (by rw[QnX (fun j j1 j2=>q3 j j1 (by omega))])]
   simp[RS.unI,RS.no,zZ]
   exact absurd h2 q1
   try simp[-za]at h2
   refine YC (YC (YC (YC (YC (YC (YC (YC ?_)))))))
   refine Qa ?_ ?_<;>intro h3<;>try simp[-za]at h3
   refine YC (YC (YC (YC (YC (YC ?_)))))
   refine Qa ?_ ?_<;>intro h4<;>try simp[-za]at h4
   refine YC (YC ?_)
   rcases k6 with ⟨q1,_⟩ | ⟨q1,q2,q3⟩
   exact absurd q1 h2
   refine V9 hk ?_
   rw[k4]
   unfold Y7
   rw[if_neg (by rw[q2];omega),<-q3,q2]
   unfold Zg
   rw[if_pos h3,Qag (show bat s (sSp s ((sSp s (Qs s (sSp s t)).2).go ((sSp s (Qs s (sSp s t)).2).p+1))).p=93 from h93t h4)]
   rfl
   rcases k6 with ⟨q1,_⟩ | ⟨q1,q2,q3⟩
   exact absurd q1 h2
   refine V9 hk ?_
   rw[k4]
   unfold Y7
   rw[if_neg (by rw[q2];omega),<-q3,q2]
   unfold Zg
   rw[if_pos h3,Qah (show ¬bat s (sSp s ((sSp s (Qs s (sSp s t)).2).go ((sSp s (Qs s (sSp s t)).2).p+1))).p=93 from h93f h4)]
   rfl
   refine Qa (fun h4=>?_) (fun h4=>?_)
   try simp[-za]at h4
   refine YC (YC (YC ?_))
   refine Qa ?_ ?_<;>intro h5<;>try simp[-za]at h5
   refine YC (YC ?_)
   rcases k6 with ⟨q1,_⟩ | ⟨q1,q2,q3⟩
   exact absurd q1 h2
   refine V9 hk ?_
   rw[k4]
   unfold Y7
   rw[if_neg (by rw[q2];omega),<-q3,q2]
   unfold Zg
   rw[if_neg (by simp only[not_and,not_or];exact fun a=>by simpa using h3 a),Qag (show bat s (RS.unI (sSp s (Qs s (sSp s t)).2) _).p=93 from h93t h5),show (decide (bat s (sSp s (Qs s (sSp s t)).2).p=115)||decide (bat s (sSp s (Qs s (sSp s t)).2).p=83))=true from by simpa using h4]
   simp[RS.unI,RS.go]
   rcases k6 with ⟨q1,_⟩ | ⟨q1,q2,q3⟩
   exact absurd q1 h2
   refine V9 hk ?_
   rw[k4]
   unfold Y7
   rw[if_neg (by rw[q2];omega),<-q3,q2]
   unfold Zg
   rw[if_neg (by simp only[not_and,not_or];exact fun a=>by simpa using h3 a),Qah (show ¬bat s (RS.unI (sSp s (Qs s (sSp s t)).2) _).p=93 from h93f h5),show (decide (bat s (sSp s (Qs s (sSp s t)).2).p=115)||decide (bat s (sSp s (Qs s (sSp s t)).2).p=83))=true from by simpa using h4]
   simp[RS.unI,RS.no]
   try simp[-za]at h4
   refine YC (YC (YC ?_))
   refine Qa ?_ ?_<;>intro h5<;>try simp[-za]at h5
   refine YC (YC ?_)
   rcases k6 with ⟨q1,_⟩ | ⟨q1,q2,q3⟩
   exact absurd q1 h2
   refine V9 hk ?_
   rw[k4]
   unfold Y7
   rw[if_neg (by rw[q2];omega),<-q3,q2]
   unfold Zg
   rw[if_neg (by simp only[not_and,not_or];exact fun a=>by simpa using h3 a),Qag (show bat s (RS.unI (sSp s (Qs s (sSp s t)).2) _).p=93 from h93t h5),show (decide (bat s (sSp s (Qs s (sSp s t)).2).p=115)||decide (bat s (sSp s (Qs s (sSp s t)).2).p=83))=false from by simpa using h4]
   simp[RS.unI,RS.go]
   rcases k6 with ⟨q1,_⟩ | ⟨q1,q2,q3⟩
   exact absurd q1 h2
   refine V9 hk ?_
   rw[k4]
   unfold Y7
   rw[if_neg (by rw[q2];omega),<-q3,q2]
   unfold Zg
   rw[if_neg (by simp only[not_and,not_or];exact fun a=>by simpa using h3 a),Qah (show ¬bat s (RS.unI (sSp s (Qs s (sSp s t)).2) _).p=93 from h93f h5),show (decide (bat s (sSp s (Qs s (sSp s t)).2).p=115)||decide (bat s (sSp s (Qs s (sSp s t)).2).p=83))=false from by simpa using h4]
   simp[RS.unI,RS.no]
 refine QiT.en (have a0:=Qi s (sSp s (RS.mk p bad un));have a1:=sSp s (a0.2);have a2:=s.length<=1000000;a2/\(p<=s.length+1)/\a2/\((sSp s (RS.mk p bad un)).p<=s.length+1)/\((a0.1).length<=1000000000)/\a2/\(a0.2.p<=s.length+1)/\cond a1.bad (K (.row (.sels failL)) (some (.blk 46 [(.str s),(.nat (a1.p)),(.bool true),(.bool (a1.un)),(.bool ps)]))) (a2/\(a1.p<=s.length+1)/\(1<=1000)/\cond (Q3 s [93] (a1.p)) ((([]:List (List SelD)).length<=1000000000)/\(([]:List (List SelD)).flatten.length<=1000000000000)/\K (.row (.sels (Qj (SelD.mk (5:Int) (1:Int) (low (a0.1)) [] (0:Int) (0:Int) (0:Int) (0:Int)) ([]:List (List SelD)).flatten))) (some (.blk 46 [(.str s),(.nat (a1.p+1)),(.bool (a1.bad)),(.bool (a1.un)),(.bool ps)]))) ((QiT).L K 10 (mkS 115 [(0,(.ptr 0 0)),(3,(.ptr 1 0)),(4,(.own 2)),(5,(.nat 2))] [(2,.row (.strs [[],[],[61],[33,61],[126,61],[124,61],[94,61],[36,61],[42,61]]) true),(1,.blk 33 [(.nat 5),(.nat 1),(.str (low (a0.1))),(.str []),(.nat 0),(.nat 0),(.nat 0),(.nat 0)]),(0,.blk 46 [(.str s),(.nat (a1.p)),(.bool (a1.bad)),(.bool (a1.un)),(.bool ps)])] 3)))) ?_
 refine YC (YC (YC (YC (YC (YC (YC ?_))))))
 refine Qa ?_ ?_<;>intro h1<;>try simp[-za]at h1
 refine V9 hk ?_
 unfold ZO
 simp only
 rw[if_pos h1]
 rfl
 refine YC (YC (YC ?_))
 refine Qa ?_ ?_<;>intro h2<;>try simp[-za]at h2
 refine YC (YC ?_)
 refine V9 hk ?_
 unfold ZO
 simp only
 rw[if_neg (by rw[h1];simp),if_pos (h93t h2)]
 rfl
 exact Wk.L.rn [0,1,2] (L10 _ 2 1 (low (Qi s (sSp s ⟨p,bad,un⟩)).1) (sSp s (Qi s (sSp s ⟨p,bad,un⟩)).2) (sSp s (Qi s (sSp s ⟨p,bad,un⟩)).2) rfl ⟨QB s _ (Jt s _ (QB s _ h02)),by omega,by omega,by
  unfold ZO
  simp only
  rw[if_neg (by rw[h1];simp),if_neg (h93f h2)],h1,.inl ⟨rfl,rfl,fun j j1 j2=>by omega⟩⟩)
 cases e
end
end Go.Proofs.YtengepcafdnalaaGreatDoor
