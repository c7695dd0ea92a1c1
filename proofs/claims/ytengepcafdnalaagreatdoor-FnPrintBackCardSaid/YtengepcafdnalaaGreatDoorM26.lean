/-
  Parts of the proof that the law FnPrintBack holds for every input (texts Ky, Kz, La). Conditions: none.
-/
import Derived.Test.YtengepcafdnalaaGreatDoorM25
namespace Go.Proofs.YtengepcafdnalaaGreatDoor
open _root_.Bool renaming and_eq_true → zk, or_eq_true → zx, false_ne_true → zq, or_eq_false_iff → zT
open _root_.List renaming take_add_one → zU, getElem?_eq_getElem → zg, getD_eq_getElem?_getD → zd, take_of_length_le → zS, length_singleton → zF, length_drop → zR, length_take → zP, take_length → xg, length_append → zh, replicate → zM, length_replicate → z7, append_assoc → zw
open _root_.Nat renaming strongRecOn → zl, lt_of_lt_of_le → zL, le_refl → zm
open _root_.UInt8 renaming ofNat → zD, toNat_lt → zV, toNat_add → xf, toNat_or → ze
section
open Go Go.RowKit
set_option maxRecDepth 20000
theorem Qjs (l:Bs) (i:Nat) (h:i<l.length):VH (l.take (i+1))=16*VH (l.take i)+YL (bat l i):=by
 rw[zU,zg h,Option.toList_some,Qdq]
 simp[bat,zd,zg h]
theorem QkW (l:Bs) (hd:∀i,i<l.length->QI (bat l i)=true):∀i,i<=l.length->VH (l.take i)<16^i
 | 0,_=>by simp[VH]
 | i+1,h=>by
  have h1:=QkW l hd i (by omega)
  have h2:=Uv (hd i (by omega))
  rw[Qjs l i (by omega),Nat.pow_succ]
  omega
theorem or32:∀n:Nat,n<256->(65<=n/\n<=70->((zD n) ||| 32).toNat=n+32)/\(97<=n/\n<=102->((zD n) ||| 32).toNat=n):=by decide
theorem or32c (c:UInt8):(65<=c.toNat/\c.toNat<=70->(c ||| 32).toNat=c.toNat+32)/\(97<=c.toNat/\c.toNat<=102->(c ||| 32).toNat=c.toNat):=by
 have:=or32 c.toNat (zV c)
 simpa using this
theorem QaV {c:UInt8} (h:Qu c.toNat=true):(c-48).toNat=YL c.toNat:=by
 simp only[Qu,zk,decide_eq_true_eq]at h
 rw[UInt8.toNat_sub,YL,if_pos h.2]
 have h2:(48:UInt8).toNat=48:=rfl
 omega
theorem Qck {c:UInt8} (h:QI c.toNat=true) (hn:¬Qu c.toNat=true):97<=(c ||| 32).toNat/\(c ||| 32).toNat<=122/\((c ||| 32)-97+10).toNat=YL c.toNat:=by
 simp only[QI,Qu,zx,zk,decide_eq_true_eq]at h hn
 have ho:=or32c c
 have h2:(97:UInt8).toNat=97:=rfl
 have h3:(10:UInt8).toNat=10:=rfl
 rw[xf,UInt8.toNat_sub,YL,if_neg (by omega)]
 by_cases h70:c.toNat<=70
 rw[ho.1 (by omega),if_pos h70];omega
 rw[ho.2 (by omega),if_neg h70];omega
def c160 (svs:List SV) (b:Option SB):QR:=match svs,b with
 | [.str _],none=>some ([False],.bool false)
 | _,_=>none
theorem QwH:Has 160:=hsf Tryz.f160
theorem QuZ:Sat 160 (Qz c160):=by
 intro g0 w M ω svs args b K _ _ _ hP
 exfalso
 obtain⟨ps,v,e,hp,hk⟩:=Qh hP
 unfold c160 at e
 split at e
 cases e;exact hp.1
 cases e
theorem ku64 {K:Out->Option SB->Prop} {n m:Int} (hk:K (.val (.tup [.int .u64 n,.nilif])) none) (e:n=m):K (.val (.tup [.int .u64 m,.nilif])) none:=by rw[<-e];exact hk
def c159 (svs:List SV) (b:Option SB):QR:=match svs,b with
 | [.byt c],none=>some ([],.byt (c ||| 32))
 | _,_=>none
noncomputable def W159:Wk:=⟨[],Qe Tryz.f159,false,false,[.tmp 2],[5],[],[]⟩
theorem QwI:Has 159:=hsf Tryz.f159
theorem Qu0:Sat 159 (Qz c159):=by
 have hD:Qa W159.D:=Qa.nil
 refine W159.sa hD Tryz.f159 fun svs b K hP=>?_
 obtain⟨ps,v,e,hp,hk⟩:=Qh hP
 unfold c159 at e
 split at e
 rename_i c
 cases e
 skip
 refine W159.en (K (.val (.byt (c ||| 32))) none) ?_
 exact hk
 cases e
def c156 (svs:List SV) (b:Option SB):QR:=match svs,b with
 | [.str l,.nat 16,.nat 64],none=>some ([0<l.length/\l.length<=6,∀i,i<l.length->QI (bat l i)=true],.tup [.int .u64 (VH l:Nat),.nilif])
 | _,_=>none
noncomputable def Qio:Wk:=⟨[(159,.pure c159),(160,.pure c160)],Qe Tryz.f156,false,false,[.tmp 6,.tmp 7],[182,71],[(36,4436777100798802905238461234946)],[]⟩
theorem QwJ:Has 156:=hsf Tryz.f156
theorem QhI {p q:Prop} (k:q) (h:p:=by first | omega | (simp;done) | (simp;omega) | (exact absurd g0 (by decide)) | assumption):p/\q:=⟨h,k⟩
theorem Qu1:Sat 156 (Qz c156):=by
 have hD:Qa Qio.D:=(Qa.cons QwI Qu0 (Qa.cons QwH QuZ Qa.nil))
 refine Qio.sa hD Tryz.f156 fun svs b K hP=>?_
 obtain⟨ps,v,e,hp,hk⟩:=Qh hP
 unfold c156 at e
 split at e
 rename_i l
 cases e
 obtain⟨h01,h02,_⟩:=hp
 have hl:=QkW l h02
 have L36:∀(mm:Nat) (i:Nat) (mx n:Int),l.length-i=mm->(i<=l.length/\mx=18446744073709551615/\n=(VH (l.take i):Nat))->Qio.L K 36 (mkS 172 [(1,(.nat 16)),(8,(.bool false)),(9,(.str l)),(10,(.int .u64 1152921504606846976)),(11,(.int .u64 mx)),(12,(.bool false)),(13,(.int .u64 n)),(99,(.own 1)),(100,(.nat l.length)),(101,(.nat i))] [(1,.row (.bytes l) false)] 2):=by
  intro mm
  induction mm using zl with
  | _ mm ih=>
   intro i mx n hm hI
   obtain⟨k1,k2,k3⟩:=hI
   have p1:i<l.length->VH (l.take (i+1))=16*VH (l.take i)+YL (bat l i):=Qjs l i
   have p2:i<l.length->VH (l.take (i+1))<16^6:=fun h=>zL (hl (i+1) (by omega)) (Nat.pow_le_pow_right (by omega) (by omega))
   have p3:VH (l.take i)<16^6:=zL (hl i k1) (Nat.pow_le_pow_right (by omega) (by omega))
   have p4:i<l.length->YL (bat l i)<16:=fun h=>Uv (h02 i h)
   simp only[show (16:Nat)^6=16777216 from rfl]at p2 p3
   refine Qio.aL hD (have a0:=(n*(16:Int))%18446744073709551616;have a1:=(a0+(((((l.getD i 0 ||| 32)-97)+10).toNat:Nat):Int))%18446744073709551616;have a2:=(a0+(((l.getD i 0-48).toNat:Nat):Int))%18446744073709551616;have a3:Out:=.val (.tup [(.int .u64 mx),.ifx]);have a4:Out:=.val (.tup [(.int .u64 0),.ifx]);have a5:=i+1<=9223372036854775807;have a6:SV:=.int .u64 1152921504606846976;cond (decide (i<l.length)) ((i<l.length)/\(i<l.length)/\cond ((decide (bat l i=95))&&false) (a5/\(Qio).L K 36 (mkS 172 [(1,(.nat 16)),(8,(.bool false)),(9,(.str l)),(10,a6),(11,(.int .u64 mx)),(12,(.bool true)),(13,(.int .u64 n)),(99,(.own 1)),(100,(.nat l.length)),(101,(.nat (i+1)))] [(1,.row (.bytes l) false)] 2)) (cond ((decide (48<=bat l i))&&(decide (bat l i<=57))) (cond (decide ((zD 16).toNat<=(l.getD i 0-48).toNat)) (K a4 none) (cond (decide ((1152921504606846976:Int)<=n)) (K a3 none) ((16<=9223372036854775807)/\cond ((decide (a2<a0))||(decide (mx<a2))) (K a3 none) (a5/\(Qio).L K 36 (mkS 172 [(1,(.nat 16)),(8,(.bool false)),(9,(.str l)),(10,a6),(11,(.int .u64 mx)),(12,(.bool false)),(13,(.int .u64 a2)),(99,(.own 1)),(100,(.nat l.length)),(101,(.nat (i+1)))] [(1,.row (.bytes l) false)] 2))))) (cond ((decide (97<=(l.getD i 0 ||| 32).toNat))&&(decide ((l.getD i 0 ||| 32).toNat<=122))) (cond (decide ((zD 16).toNat<=(((l.getD i 0 ||| 32)-97)+10).toNat)) (K a4 none) (cond (decide ((1152921504606846976:Int)<=n)) (K a3 none) ((16<=9223372036854775807)/\cond ((decide (a1<a0))||(decide (mx<a1))) (K a3 none) (a5/\(Qio).L K 36 (mkS 172 [(1,(.nat 16)),(8,(.bool false)),(9,(.str l)),(10,a6),(11,(.int .u64 mx)),(12,(.bool false)),(13,(.int .u64 a1)),(99,(.own 1)),(100,(.nat l.length)),(101,(.nat (i+1)))] [(1,.row (.bytes l) false)] 2))))) (K a4 none)))) ((false=true->(False)/\True)/\K (.val (.tup [(.int .u64 n),.nilif])) none)) ?_
   refine Qb ?_ ?_<;>intro h1<;>try simp[-zd,-ze]at h1
   refine QhI (QhI ?_)
   refine Qb (fun h2=>?_) (fun h2=>?_)
   try simp[-zd,-ze]at h2
   try simp[-zd,-ze]at h2
   refine Qb ?_ ?_<;>intro h3<;>try simp[-zd,-ze]at h3
   refine Qb (fun h4=>?_) (fun h4=>?_)
   try simp[-zd,-ze]at h4
   exfalso
   have q:=p4 h1
   have q2:(l.getD i 0-48).toNat=YL (bat l i):=QaV (by unfold Qu;simp only[zk,decide_eq_true_eq];exact h3)
   omega
   try simp[-zd,-ze]at h4
   refine Qb ?_ ?_<;>intro h5<;>try simp[-zd,-ze]at h5
   exfalso
   have q:=p4 h1
   have q2:(l.getD i 0-48).toNat=YL (bat l i):=QaV (by unfold Qu;simp only[zk,decide_eq_true_eq];exact h3)
   omega
   refine QhI ?_
   refine Qb ?_ ?_<;>intro h6<;>try simp[-zd,-ze]at h6
   exfalso
   have q:=p4 h1
   have q2:(l.getD i 0-48).toNat=YL (bat l i):=QaV (by unfold Qu;simp only[zk,decide_eq_true_eq];exact h3)
   omega
   refine QhI ?_
   have q2:(l.getD i 0-48).toNat=YL (bat l i):=QaV (by unfold Qu;simp only[zk,decide_eq_true_eq];exact h3)
   have q:=p4 h1
   have q5:=p1 h1
   rw[q2]
   exact ih _ (by omega) (i+1) mx _ rfl ⟨by omega,k2,by rw[q5,k3];omega⟩
   refine Qb (fun h4=>?_) (fun h4=>?_)
   try simp[-zd,-ze]at h4
   refine Qb ?_ ?_<;>intro h5<;>try simp[-zd,-ze]at h5
   exfalso
   have q:=p4 h1
   have q3:=Qck (c:=l.getD i 0) (h02 i h1) (by intro q;simp only[Qu,zk,decide_eq_true_eq]at q;have q4:48<=bat l i/\bat l i<=57:=q;have:=h3 q4.1;omega)
   have q2:((l.getD i 0 ||| 32)-97+10).toNat=YL (bat l i):=q3.2.2
   have q6:=xf ((l.getD i 0 ||| 32)-97) 10
   have q7:(10:UInt8).toNat=10:=rfl
   omega
   refine Qb (fun h6=>?_) (fun h6=>?_)
   try simp[-zd,-ze]at h6
   exfalso
   have q:=p4 h1
   have q3:=Qck (c:=l.getD i 0) (h02 i h1) (by intro q;simp only[Qu,zk,decide_eq_true_eq]at q;have q4:48<=bat l i/\bat l i<=57:=q;have:=h3 q4.1;omega)
   have q2:((l.getD i 0 ||| 32)-97+10).toNat=YL (bat l i):=q3.2.2
   have q6:=xf ((l.getD i 0 ||| 32)-97) 10
   have q7:(10:UInt8).toNat=10:=rfl
   omega
   try simp[-zd,-ze]at h6
   refine QhI ?_
   refine Qb ?_ ?_<;>intro h7<;>try simp[-zd,-ze]at h7
   exfalso
   have q:=p4 h1
   have q3:=Qck (c:=l.getD i 0) (h02 i h1) (by intro q;simp only[Qu,zk,decide_eq_true_eq]at q;have q4:48<=bat l i/\bat l i<=57:=q;have:=h3 q4.1;omega)
   have q2:((l.getD i 0 ||| 32)-97+10).toNat=YL (bat l i):=q3.2.2
   have q6:=xf ((l.getD i 0 ||| 32)-97) 10
   have q7:(10:UInt8).toNat=10:=rfl
   omega
   refine QhI ?_
   have q3:=Qck (c:=l.getD i 0) (h02 i h1) (by intro q;simp only[Qu,zk,decide_eq_true_eq]at q;have q4:48<=bat l i/\bat l i<=57:=q;have:=h3 q4.1;omega)
   have q2:((l.getD i 0 ||| 32)-97+10).toNat=YL (bat l i):=q3.2.2
   have q6:=xf ((l.getD i 0 ||| 32)-97) 10
   have q7:(10:UInt8).toNat=10:=rfl
   have q:=p4 h1
   have q5:=p1 h1
   rw[q2]
   exact ih _ (by omega) (i+1) mx _ rfl ⟨by omega,k2,by rw[q5,k3];omega⟩
   try simp[-zd,-ze]at h4
   exfalso
   have q:=p4 h1
   have q3:=Qck (c:=l.getD i 0) (h02 i h1) (by intro q;simp only[Qu,zk,decide_eq_true_eq]at q;have q4:48<=bat l i/\bat l i<=57:=q;have:=h3 q4.1;omega)
   have q2:((l.getD i 0 ||| 32)-97+10).toNat=YL (bat l i):=q3.2.2
   have q6:=xf ((l.getD i 0 ||| 32)-97) 10
   have q7:(10:UInt8).toNat=10:=rfl
   omega
   refine⟨fun g0=>(by cases g0),?_⟩
   exact ku64 hk (by rw[k3,zS (by omega)])
 refine Qio.en (cond (decide (l=[])) (K (.val (.tup [(.int .u64 0),.ifx])) none) ((64<=9223372036854775807)/\(0<=(64:Int)/\(64:Int)<=64)/\(l.length<=1099511627776)/\(Qio).L K 36 (mkS 172 [(1,(.nat 16)),(8,(.bool false)),(9,(.str l)),(10,(.int .u64 1152921504606846976)),(11,(.int .u64 (((((1:Int)*2^((64:Int)).toNat)%18446744073709551616)-(1:Int))%18446744073709551616))),(12,(.bool false)),(13,(.int .u64 0)),(99,(.own 1)),(100,(.nat l.length)),(101,(.nat 0))] [(1,.row (.bytes l) false)] 2))) ?_
 refine Qb ?_ ?_<;>intro h1<;>try simp[-zd,-ze]at h1
 simp[h1]at h01
 refine QhI (QhI (QhI ?_))
 exact L36 _ 0 _ 0 rfl ⟨by omega,by decide,by simp[VH]⟩
 cases e
def c152 (svs:List SV) (b:Option SB):QR:=match svs,b with
 | [.str l,.nat 16,.nat 64],none=>some ([0<l.length/\l.length<=6,∀i,i<l.length->QI (bat l i)=true],.tup [.int .u64 (VH l:Nat),.nilif])
 | _,_=>none
noncomputable def W152:Wk:=⟨[(156,.pure c156)],Qe Tryz.f152,false,false,[.tmp 6,.tmp 7],[182,71],[],[]⟩
theorem QwL:Has 152:=hsf Tryz.f152
theorem kyz1 {p q:Prop} (k:q) (h:p:=by first | omega | assumption):p/\q:=⟨h,k⟩
theorem Qu3:Sat 152 (Qz c152):=by
 have hD:Qa W152.D:=(Qa.cons QwJ Qu1 Qa.nil)
 refine W152.sa hD Tryz.f152 fun svs b K hP=>?_
 obtain⟨ps,v,e,hp,hk⟩:=Qh hP
 unfold c152 at e
 split at e
 rename_i l
 cases e
 obtain⟨h01,h02,_⟩:=hp
 refine W152.en ((0<l.length/\l.length<=6)/\(∀i,i<l.length->QI (bat l i)=true)/\K (.val (.tup [(.int .u64 ((VH l:Nat):Int)),.nilif])) none) ?_
 refine kyz1 (kyz1 ?_)
 exact hk
 cases e
end
section
open Go Go.RowKit
set_option maxRecDepth 20000
theorem Qd {α:Type} {o:Option α} {v:α} {f:α->Prop} {g:Prop} (h:Qt o f g) (e:o=some v):f v:=by rw[e]at h;exact h
theorem Qc {α:Type} {o:Option α} {f:α->Prop} {g:Prop} (h:Qt o f g) (e:o=none):g:=by rw[e]at h;exact h
theorem ZN {s:Bs} {a b:Nat} (h:b<=s.length):((s.take b).drop a).length=b-a:=by simp;omega
theorem Qe2 (s:Bs):∀k i m,i<=m->m<QD s k i->QI (bat s m)=true
 | 0,i,m,h1,h2=>by rw[QD]at h2;omega
 | k+1,i,m,h1,h2=>by
  rw[QD]at h2
  split at h2
  rename_i h
  by_cases e:m=i
  rw[e];exact h.2
  exact Qe2 s k (i+1) m (by omega) h2
  omega
theorem Ze {s:Bs} {i:Nat} {v:Bs} {j:Nat} (h:Y2 s i=some (v,j)):i<j/\j<=s.length/\v.length<=4*(j-i):=by
 have h1:=JB h
 refine⟨by omega,h1.2.1,?_⟩
 unfold Y2 at h
 split at h
 cases h
 split at h
 cases h
 split at h<;>(simp only[Option.some.injEq,Prod.mk.injEq]at h;rw[<-h.1])
 have:=Qlz (VH ((s.take (QD s 6 (i+1))).drop (i+1)));omega
 simp only[zF];omega
theorem Qh5 {s:Bs} {a e i:Nat} (h:i<((s.take e).drop a).length):bat ((s.take e).drop a) i=bat s (a+i):=by
 simp only[zR,zP]at h
 unfold bat
 simp only[zd,List.getElem?_drop,List.getElem?_take]
 rw[if_pos (by omega)]
def c145 (svs:List SV) (b:Option SB) (K:Out->Option SB->Prop):Prop:=match svs,b with
 | [.ptr 0 0],some (.blk 94 [.str s,.nat i,.nat d,.bool a])=>s.length<=1000000/\i<=s.length/\Qt (Y2 s i) (fun v=>i<v.2/\v.2<=s.length/\v.1.length<=4*(v.2-i)->K (.val (.tup [.str v.1,.nilif])) (some (.blk 94 [.str s,.nat v.2,.nat d,.bool a]))) (∀j,K (.val (.tup [.str [],.ifx])) (some (.blk 94 [.str s,.nat j,.nat d,.bool a])))
 | _,_=>False
noncomputable def Qlm:Wk:=⟨[(71,.pure c71),(151,.pure c151),(152,.pure c152)],Qe Tryz.f145,true,false,[.tmp 2,.tmp 3],[9,71],[(10,81)],[]⟩
theorem QqJ:Has 145:=hsf Tryz.f145
theorem kzz2 {c0 p0 p1 p2 q:Prop} (k:q) (h:c0->p0/\p1/\p2/\True:=by intro g0;(try simp at g0);exact⟨(by first | omega | (simp;done) | (rw[qc];have:=ql h1;omega) | exact qd h1 | (have:=qv h1;omega) | (simp;omega) | (simp;assumption)),(by first | omega | (simp;done) | (rw[qc];have:=ql h1;omega) | exact qd h1 | (have:=qv h1;omega) | (simp;omega) | (simp;assumption)),(by first | omega | (simp;done) | (rw[qc];have:=ql h1;omega) | exact qd h1 | (have:=qv h1;omega) | (simp;omega) | (simp;assumption)),trivial⟩):(c0->p0/\p1/\p2/\True)/\q:=⟨h,k⟩
theorem QhH {c0 p0 q:Prop} (k:q) (h:c0->p0/\True:=by intro g0;(try simp at g0);exact⟨(by first | omega | (simp;done) | (rw[qc];have:=ql h1;omega) | exact qd h1 | (have:=qv h1;omega) | (simp;omega) | (simp;assumption)),trivial⟩):(c0->p0/\True)/\q:=⟨h,k⟩
theorem Z2 {p q:Prop} (k:q) (h:p:=by first | omega | (simp;done) | (rw[qc];have:=ql h1;omega) | exact qd h1 | (have:=qv h1;omega) | (simp;omega) | (simp;assumption)):p/\q:=⟨h,k⟩
theorem Qpj:Sat 145 c145:=by
 have hD:Qa Qlm.D:=(Qa.cons ZY ZU (Qa.cons QwM Qu4 (Qa.cons QwL Qu3 Qa.nil)))
 refine Qlm.sa hD Tryz.f145 fun svs b K hP=>?_
 unfold c145 at hP
 split at hP
 rename_i s i d a
 obtain⟨h01,h02,hk⟩:=hP
 have L10:∀(mm:Nat) (j:Nat),i+7-j=mm->(i+1<s.length/\bat s i=92/\YI (bat s (i+1))=false/\QI (bat s (i+1))=true/\i+1<=j/\j<=s.length/\j<=i+7/\QD s (i+7-j) j=QD s 6 (i+1))->Qlm.L K 10 (mkS 160 [(0,(.ptr 0 0)),(4,(.nat (i+1))),(6,(.nat j))] [(0,.blk 94 [(.str s),(.nat i),(.nat d),(.bool a)])] 1):=by
  intro mm
  induction mm using zl with
  | _ mm ih=>
   intro j hm hI
   obtain⟨k1,k2,k3,k4,k5,k6,k7,k8⟩:=hI
   have qj:(j<i+7->j<s.length->QI (bat s j)=false)->QD s 6 (i+1)=j:=fun h=>by
    rw[<-k8]
    by_cases h7:j<i+7
    rw[show i+7-j=(i+6-j)+1 from by omega,QD,if_neg (fun q=>by rw[h h7 q.1]at q;cases q.2)]
    rw[show i+7-j=0 from by omega,QD]
   have qi:(j<i+7->j<s.length->QI (bat s j)=false)->Y2 s i=some (YM (VH ((s.take j).drop (i+1))),Vb s j):=fun h=>by
    unfold Y2
    rw[if_neg (by simp only[not_or,Decidable.not_not];exact⟨by omega,k2⟩),if_neg (by rw[k3];exact zq),if_pos k4,qj h]
   have ql:(j<i+7->j<s.length->QI (bat s j)=false)->i+1<j:=fun h=>by
    have q:i+1+1<=QD s 6 (i+1):=QcW s 5 (i+1) k1 k4
    rw[qj h]at q;exact q
   have qc:=ZN (a:=i+1) k6
   have qd:(j<i+7->j<s.length->QI (bat s j)=false)->∀n,n<((s.take j).drop (i+1)).length->QI (bat ((s.take j).drop (i+1)) n)=true:=fun h n hn=>by
    rw[Qh5 hn]
    exact Qe2 s 6 (i+1) _ (by omega) (by rw[qj h];omega)
   have qv:(j<i+7->j<s.length->QI (bat s j)=false)->VH ((s.take j).drop (i+1))<16777216:=fun h=>by
    have q:=QkW _ (qd h) _ (zm _)
    rw[xg]at q
    have q2:((s.take j).drop (i+1)).length<=6:=by rw[qc];omega
    exact zL q (Nat.pow_le_pow_right (n:=16) (by omega) q2)
   refine Qlm.aL hD (have a2:Option SB:=some (.blk 94 [(.str s),(.nat (j+1)),(.nat d),(.bool a)]);have a3:=j+1<=9223372036854775807;have a4:=(s.take j).drop (i+1);have a0:=((VH a4:Nat):Int);have a1:Out:=.val (.tup [(.str (YM a0)),.nilif]);have a5:Option SB:=some (.blk 94 [(.str s),(.nat j),(.nat d),(.bool a)]);have a6:=(decide (j<i+7))&&(decide (j<s.length));(i+7<=9223372036854775807)/\(a6=true->(j<s.length)/\True)/\cond (a6&&(QI (bat s j))) (a3/\(Qlm).L K 10 (mkS 160 [(0,(.ptr 0 0)),(4,(.nat (i+1))),(6,(.nat (j+1)))] [(0,.blk 94 [(.str s),(.nat i),(.nat d),(.bool a)])] 1)) ((i+1<=j/\j<=s.length)/\(0<a4.length/\a4.length<=6)/\(∀n0,n0<a4.length->QI (bat a4 n0)=true)/\cond (decide (j<s.length)) ((j<s.length)/\cond (decide (bat s j=13)) (a3/\((decide (j+1<s.length))=true->(j+1<s.length)/\True)/\cond ((decide (j+1<s.length))&&(decide (bat s (j+1)=10))) ((j+2<=9223372036854775807)/\(0<=a0/\a0<=2147483647)/\K a1 (some (.blk 94 [(.str s),(.nat (j+2)),(.nat d),(.bool a)]))) ((0<=a0/\a0<=2147483647)/\K a1 a2)) (cond (decide (bat s j=32)) (a3/\(0<=a0/\a0<=2147483647)/\K a1 a2) (cond (decide (bat s j=9)) (a3/\(0<=a0/\a0<=2147483647)/\K a1 a2) (cond (decide (bat s j=10)) (a3/\(0<=a0/\a0<=2147483647)/\K a1 a2) (cond (decide (bat s j=12)) (a3/\(0<=a0/\a0<=2147483647)/\K a1 a2) ((0<=a0/\a0<=2147483647)/\K a1 a5)))))) ((0<=a0/\a0<=2147483647)/\K a1 a5))) ?_
   refine Z2 (QhH ?_)
   refine Qb ?_ ?_<;>intro h1<;>try simp[-zd,-ze]at h1
   refine Z2 ?_
   exact ih _ (by omega) (j+1) rfl ⟨k1,k2,k3,k4,by omega,by omega,by omega,by rw[<-k8,show i+7-j=(i+7-(j+1))+1 from by omega];conv=>rhs;rw[QD,if_pos ⟨h1.1.2,h1.2⟩]⟩
   refine Z2 (Z2 (Z2 ?_))
   refine Qb ?_ ?_<;>intro h2<;>try simp[-zd,-ze]at h2
   refine Z2 ?_
   refine Qb ?_ ?_<;>intro h3<;>try simp[-zd,-ze]at h3
   refine Z2 (QhH ?_)
   refine Qb ?_ ?_<;>intro h4<;>try simp[-zd,-ze]at h4
   refine Z2 (Z2 ?_)
   have e:=qi h1
   rw[show Vb s j=j+2 from by unfold Vb;rw[if_pos h2,if_pos h3,if_pos h4]]at e
   have q:=Qd hk e (by have q3:=Ze e;dsimp only;exact q3)
   dsimp only at q
   exact q
   refine Z2 ?_
   have e:=qi h1
   rw[show Vb s j=j+1 from by unfold Vb;rw[if_pos h2,if_pos h3,if_neg (fun q=>h4 q.1 q.2)]]at e
   have q:=Qd hk e (by have q3:=Ze e;dsimp only;exact q3)
   dsimp only at q
   exact q
   refine Qb (fun h4=>?_) (fun h4=>?_)
   try simp[-zd,-ze]at h4
   refine Z2 (Z2 ?_)
   have e:=qi h1
   rw[show Vb s j=j+1 from by unfold Vb;rw[if_pos h2,if_neg h3,if_pos (by simp[VO,h4])]]at e
   have q:=Qd hk e (by have q3:=Ze e;dsimp only;exact q3)
   dsimp only at q
   exact q
   try simp[-zd,-ze]at h4
   refine Qb ?_ ?_<;>intro h5<;>try simp[-zd,-ze]at h5
   refine Z2 (Z2 ?_)
   have e:=qi h1
   rw[show Vb s j=j+1 from by unfold Vb;rw[if_pos h2,if_neg h3,if_pos (by simp[VO,h5])]]at e
   have q:=Qd hk e (by have q3:=Ze e;dsimp only;exact q3)
   dsimp only at q
   exact q
   refine Qb (fun h6=>?_) (fun h6=>?_)
   try simp[-zd,-ze]at h6
   refine Z2 (Z2 ?_)
   have e:=qi h1
   rw[show Vb s j=j+1 from by unfold Vb;rw[if_pos h2,if_neg h3,if_pos (by simp[VO,h6])]]at e
   have q:=Qd hk e (by have q3:=Ze e;dsimp only;exact q3)
   dsimp only at q
   exact q
   try simp[-zd,-ze]at h6
   refine Qb ?_ ?_<;>intro h7<;>try simp[-zd,-ze]at h7
   refine Z2 (Z2 ?_)
   have e:=qi h1
   rw[show Vb s j=j+1 from by unfold Vb;rw[if_pos h2,if_neg h3,if_pos (by simp[VO,h7])]]at e
   have q:=Qd hk e (by have q3:=Ze e;dsimp only;exact q3)
   dsimp only at q
   exact q
   refine Z2 ?_
   have e:=qi h1
   rw[show Vb s j=j from by unfold Vb;rw[if_pos h2,if_neg h3,if_neg (by simp[VO];omega)]]at e
   have q:=Qd hk e (by have q3:=Ze e;dsimp only;exact q3)
   dsimp only at q
   exact q
   refine Z2 ?_
   have e:=qi h1
   rw[show Vb s j=j from by unfold Vb;rw[if_neg (by omega)]]at e
   have q:=Qd hk e (by have q3:=Ze e;dsimp only;exact q3)
   dsimp only at q
   exact q
 refine Qlm.en (have a1:=decide (s.length<i+2);have a0:=a1=false->((a1==false)=true)/\True;have a2:=i+2<=9223372036854775807;have a3:Option SB:=some (.blk 94 [(.str s),(.nat i),(.nat d),(.bool a)]);a2/\a0/\a0/\a0/\a0/\a0/\a0/\(a1=false->((a1==false)=true)/\((a1==false)=true)/\(i<s.length)/\True)/\a0/\(a1=false->(a1==false)=true)/\cond (a1||(!(decide (bat s i=92)))) (K (.val (.tup [(.str []),.ifx])) a3) ((i+1<=9223372036854775807)/\(i+1<s.length)/\cond (((decide (bat s (i+1)=13))||(decide (bat s (i+1)=10)))||(decide (bat s (i+1)=12))) (K (.val (.tup [(.str []),.ifx])) a3) (cond (QI (bat s (i+1))) ((Qlm).L K 10 (mkS 160 [(0,(.ptr 0 0)),(4,(.nat (i+1))),(6,(.nat (i+1)))] [(0,.blk 94 [(.str s),(.nat i),(.nat d),(.bool a)])] 1)) (a2/\(i+1<=i+2/\i+2<=s.length)/\a2/\K (.val (.tup [(.str ((s.take (i+2)).drop (i+1))),.nilif])) (some (.blk 94 [(.str s),(.nat (i+2)),(.nat d),(.bool a)])))))) ?_
 refine Z2 (QhH (QhH (QhH (QhH (QhH (QhH (kzz2 (QhH (Z2 ?_)))))))))
 refine Qb ?_ ?_<;>intro h1<;>try simp[-zd,-ze]at h1
 exact Qc hk (by unfold Y2;rw[if_pos h1]) _
 refine Z2 (Z2 ?_)
 refine Qb ?_ ?_<;>intro h2<;>try simp[-zd,-ze]at h2
 exact Qc hk (by unfold Y2;rw[if_neg (by omega),if_pos (by simp[YI];omega)]) _
 refine Qb (fun h3=>?_) (fun h3=>?_)
 try simp[-zd,-ze]at h3
 exact L10 _ (i+1) rfl ⟨by omega,h1.2,by simp[YI];omega,h3,by omega,by omega,by omega,by rw[show i+7-(i+1)=6 from by omega]⟩
 try simp[-zd,-ze]at h3
 refine Z2 (Z2 (Z2 ?_))
 have e:Y2 s i=some ([s.getD (i+1) 0],i+2):=by
  unfold Y2
  rw[if_neg (by omega),if_neg (by simp[YI];omega),if_neg (by rw[h3];exact zq)]
 rw[cut1 (show i+1<s.length from by omega)]
 have q:=Qd hk e (by have q3:=Ze e;dsimp only;exact q3)
 dsimp only at q
 exact q
 exact hP.elim
structure Nm2 (s:Bs) (i j:Nat) (acc:Bs):Prop where
 a:i<=j
 b:j<=s.length
 n:acc.length<=4*(j-i)
 e:Q9 s j acc=Q9 s i []
theorem UQ {s:Bs} {i j:Nat} {acc:Bs} (h:Q9 s i []=some (acc,j)) (hn:acc≠[]):VY s i=some (acc,j):=by
 unfold VY
 rw[h]
 cases acc with
 | nil=>exact absurd rfl hn
 | cons=>rfl
theorem Qgv {s:Bs} {i j:Nat} (h:Q9 s i []=some ([],j)):VY s i=none:=by unfold VY;rw[h]
theorem Qn0 {s:Bs} {i:Nat} (h:Q9 s i []=none):VY s i=none:=by unfold VY;rw[h]
def c131 (svs:List SV) (b:Option SB) (K:Out->Option SB->Prop):Prop:=match svs,b with
 | [.ptr 0 0],some (.blk 94 [.str s,.nat i,.nat d,.bool a])=>s.length<=1000000/\i<=s.length/\Qt (VY s i) (fun v=>i<v.2/\v.2<=s.length/\v.1.length<=4*(v.2-i)->K (.val (.tup [.str v.1,.nilif])) (some (.blk 94 [.str s,.nat v.2,.nat d,.bool a]))) (∀j,K (.val (.tup [.str [],.ifx])) (some (.blk 94 [.str s,.nat j,.nat d,.bool a])))
 | _,_=>False
noncomputable def Qdc:Wk:=⟨[(71,.pure c71),(144,.pure c144),(145,.plain c145)],Qe Tryz.f131,true,false,[.tmp 2,.tmp 3],[9,71],[(2,21),(6,85)],[]⟩
theorem QkY:Has 131:=hsf Tryz.f131
theorem QkH {p q:Prop} (k:q) (h:p:=by first | omega | (simp;done) | (simp;omega) | (simp;assumption)):p/\q:=⟨h,k⟩
theorem kzz3 {c0 p0 q:Prop} (k:q) (h:c0->p0/\True:=by intro g0;(try simp at g0);exact⟨(by first | omega | (simp;done) | (simp;omega) | (simp;assumption)),trivial⟩):(c0->p0/\True)/\q:=⟨h,k⟩
theorem Qj9:Sat 131 c131:=by
 have hD:Qa Qdc.D:=(Qa.cons ZY ZU (Qa.cons QwQ Qu8 (Qa.cons QqJ Qpj Qa.nil)))
 refine Qdc.sa hD Tryz.f131 fun svs b K hP=>?_
 unfold c131 at hP
 split at hP
 rename_i s i d a
 obtain⟨h01,h02,hk⟩:=hP
 have L6:∀(mm:Nat) (b j st:Nat) (acc:Bs),s.length-j=mm->(Nm2 s i st acc/\st<=j/\j<=s.length/\(st<s.length/\Qr (bat s st)=true)/\(∀m,st<=m->m<j->Qr (bat s m)=true)/\∀b' j' acc',s.length-j'<s.length-st->Nm2 s i j' acc'->Qdc.L K 2 (mkS 87 [(0,(.ptr 0 0)),(2,(.str acc')),(4,(.nat j'))] [(0,.blk 94 [(.str s),(.nat b'),(.nat d),(.bool a)])] 1))->Qdc.L K 6 (mkS 87 [(0,(.ptr 0 0)),(2,(.str acc)),(4,(.nat j)),(6,(.nat st))] [(0,.blk 94 [(.str s),(.nat b),(.nat d),(.bool a)])] 1):=by
  intro mm
  induction mm using zl with
  | _ mm ih=>
   intro b j st acc hm hI
   obtain⟨⟨k1,k2,k3,k4⟩,k5,k6,k7,k8,ih3⟩:=hI
   have kc:=ZN (a:=st) k6
   refine Qdc.aL hD (((decide (j<s.length))=true->(j<s.length)/\True)/\cond ((decide (j<s.length))&&(Qr (bat s j))) ((j+1<=9223372036854775807)/\(Qdc).L K 6 (mkS 87 [(0,(.ptr 0 0)),(2,(.str acc)),(4,(.nat (j+1))),(6,(.nat st))] [(0,.blk 94 [(.str s),(.nat b),(.nat d),(.bool a)])] 1)) ((st<=j/\j<=s.length)/\(acc.length+((s.take j).drop st).length<=2305843009213693952)/\(Qdc).L K 2 (mkS 87 [(0,(.ptr 0 0)),(2,(.str (acc++((s.take j).drop st)))),(4,(.nat j))] [(0,.blk 94 [(.str s),(.nat b),(.nat d),(.bool a)])] 1))) ?_
   refine kzz3 ?_
   refine Qb ?_ ?_<;>intro h1<;>try simp[-zd,-ze]at h1
   refine QkH ?_
   exact ih _ (by omega) b (j+1) st acc rfl ⟨⟨k1,k2,k3,k4⟩,by omega,by omega,k7,fun m a c=>by
    by_cases e:m=j
    rw[e];exact h1.2
    exact k8 m a (by omega),ih3⟩
   refine QkH (QkH ?_)
   have hj:st<j:=by
    rcases Nat.lt_or_ge st j with q | q
    exact q
    have e:j=st:=by omega
    rw[e]at h1
    rw[h1 k7.1]at k7
    cases k7.2
   have e:=Law.nameGo_run s st acc (j-st) (by omega) (fun m a c=>k8 m a (by omega))
   rw[show st+(j-st)=j from by omega]at e
   exact ih3 b j (acc++(s.take j).drop st) (by omega) ⟨by omega,by omega,by rw[zh,kc];omega,by rw[<-k4,e]⟩
 have L2:∀(mm:Nat) (b j:Nat) (acc:Bs),s.length-j=mm->(Nm2 s i j acc)->Qdc.L K 2 (mkS 87 [(0,(.ptr 0 0)),(2,(.str acc)),(4,(.nat j))] [(0,.blk 94 [(.str s),(.nat b),(.nat d),(.bool a)])] 1):=by
  intro mm
  induction mm using zl with
  | _ mm ih=>
   intro b j acc hm hI
   obtain⟨k1,k2,k3,k4⟩:=hI
   refine Qdc.aL hD (have a0:Out:=.val (.tup [(.str []),.ifx]);have a1:Option SB:=some (.blk 94 [(.str s),(.nat b),(.nat d),(.bool a)]);have a2:Option SB:=some (.blk 94 [(.str s),(.nat j),(.nat d),(.bool a)]);cond (decide (j<s.length)) ((j<s.length)/\cond (Qr (bat s j)) ((Qdc).L K 6 (mkS 87 [(0,(.ptr 0 0)),(2,(.str acc)),(4,(.nat j)),(6,(.nat j))] [(0,.blk 94 [(.str s),(.nat b),(.nat d),(.bool a)])] 1)) (cond (decide (bat s j=92)) ((s.length<=1000000)/\(j<=s.length)/\Qt (Y2 s j) (fun v1=>(j<v1.2/\v1.2<=s.length/\v1.1.length<=4*(v1.2-j))->(acc.length+v1.1.length<=2305843009213693952)/\(Qdc).L K 2 (mkS 87 [(0,(.ptr 0 0)),(2,(.str (acc++v1.1))),(4,(.nat v1.2))] [(0,.blk 94 [(.str s),(.nat v1.2),(.nat d),(.bool a)])] 1)) (∀j2:Nat,K a0 (some (.blk 94 [(.str s),(.nat j2),(.nat d),(.bool a)])))) (cond (decide (acc=[])) (K a0 a1) (K (.val (.tup [(.str acc),.nilif])) a2)))) (cond (decide (acc=[])) (K a0 a1) (K (.val (.tup [(.str acc),.nilif])) a2))) ?_
   refine Qb ?_ ?_<;>intro h1<;>try simp[-zd,-ze]at h1
   refine QkH ?_
   refine Qb ?_ ?_<;>intro h2<;>try simp[-zd,-ze]at h2
   exact L6 _ b j j acc rfl ⟨⟨k1,k2,k3,k4⟩,zm _,k2,⟨h1,h2⟩,fun m a c=>by omega,fun b' j' acc' hlt h'=>ih _ (by omega) b' j' acc' rfl h'⟩
   refine Qb (fun h3=>?_) (fun h3=>?_)
   try simp[-zd,-ze]at h3
   refine QkH (QkH ?_)
   refine QJ (fun v1 h4=>?_) (fun h4=>?_)
   intro h5
   try simp[-zd,-ze]at h5
   refine QkH ?_
   exact ih _ (by omega) v1.2 v1.2 (acc++v1.1) rfl ⟨by omega,by omega,by rw[zh];omega,by rw[<-k4,Law.nameGo_esc h1 h3 (v:=v1.1) (j:=v1.2) h4]⟩
   intro j2
   exact Qc hk (Qn0 (by rw[<-k4];exact Law.nameGo_none h1 h3 h4)) _
   try simp[-zd,-ze]at h3
   refine Qb ?_ ?_<;>intro h4<;>try simp[-zd,-ze]at h4
   have e:=Law.nameGo_stop (s:=s) (i:=j) (acc:=acc) (.inr ⟨h2,h3⟩)
   rw[k4,h4]at e
   exact Qc hk (Qgv e) _
   have e:=Law.nameGo_stop (s:=s) (i:=j) (acc:=acc) (.inr ⟨h2,h3⟩)
   rw[k4]at e
   exact Qd hk (UQ e h4) ⟨(Law.iName_lt (UQ e h4)).1,by omega,by omega⟩
   refine Qb (fun h2=>?_) (fun h2=>?_)
   try simp[-zd,-ze]at h2
   have e:=Law.nameGo_stop (s:=s) (i:=j) (acc:=acc) (.inl (by omega))
   rw[k4,h2]at e
   exact Qc hk (Qgv e) _
   try simp[-zd,-ze]at h2
   have e:=Law.nameGo_stop (s:=s) (i:=j) (acc:=acc) (.inl (by omega))
   rw[k4]at e
   exact Qd hk (UQ e h2) ⟨(Law.iName_lt (UQ e h2)).1,by omega,by omega⟩
 refine Qdc.en ((Qdc).L K 2 (mkS 87 [(0,(.ptr 0 0)),(2,(.str [])),(4,(.nat i))] [(0,.blk 94 [(.str s),(.nat i),(.nat d),(.bool a)])] 1)) ?_
 exact L2 _ i i [] rfl ⟨zm _,h02,by simp,rfl⟩
 exact hP.elim
theorem Qdp {s:Bs} {i h:Nat} {r:Bs} {j:Nat} (e:Yp s i=h) (hl:h<s.length) (hc:QK (bat s h)=true\/bat s h=92) (hn:VY s h=some (r,j)):Qx s i=some (zM (h-i) 45++r,j):=by
 unfold Qx
 rw[e,if_pos ⟨hl,hc⟩,hn]
theorem Qbv {s:Bs} {i h:Nat} (e:Yp s i=h) (hn:¬(h<s.length/\(QK (bat s h)=true\/bat s h=92))\/VY s h=none):Qx s i=none:=by
 unfold Qx
 rw[e]
 split
 rename_i h1
 rw[hn.resolve_left (fun q=>q h1)]
 rfl
theorem QeC (k:Nat):Lib.repeatL [45] k=zM k 45:=by
 have:=Lib.repeatL_replicate 45 1 k
 simpa using this
def c129 (svs:List SV) (b:Option SB) (K:Out->Option SB->Prop):Prop:=match svs,b with
 | [.ptr 0 0],some (.blk 94 [.str s,.nat i,.nat d,.bool a])=>s.length<=1000000/\i<=s.length/\Qt (Qx s i) (fun v=>i<v.2/\v.2<=s.length/\v.1.length<=4*(v.2-i)->K (.val (.tup [.str v.1,.nilif])) (some (.blk 94 [.str s,.nat v.2,.nat d,.bool a]))) (∀j,K (.val (.tup [.str [],.ifx])) (some (.blk 94 [.str s,.nat j,.nat d,.bool a])))
 | _,_=>False
noncomputable def Qlo:Wk:=⟨[(71,.pure c71),(131,.plain c131),(142,.pure c142),(143,.pure c143)],Qe Tryz.f129,true,false,[.tmp 2,.tmp 3],[9,71],[(2,17)],[]⟩
theorem QhW:Has 129:=hsf Tryz.f129
theorem Qje {p q:Prop} (k:q) (h:p:=by first | omega | (simp;done) | (simp;omega) | (simp;assumption) | (rw[QeC,z7];omega)):p/\q:=⟨h,k⟩
theorem kzz6 {c0 p0 p1 p2 q:Prop} (k:q) (h:c0->p0/\p1/\p2/\True:=by intro g0;(try simp at g0);exact⟨(by first | omega | (simp;done) | (simp;omega) | (simp;assumption) | (rw[QeC,z7];omega)),(by first | omega | (simp;done) | (simp;omega) | (simp;assumption) | (rw[QeC,z7];omega)),(by first | omega | (simp;done) | (simp;omega) | (simp;assumption) | (rw[QeC,z7];omega)),trivial⟩):(c0->p0/\p1/\p2/\True)/\q:=⟨h,k⟩
theorem QkG {c0 p0 q:Prop} (k:q) (h:c0->p0/\True:=by intro g0;(try simp at g0);exact⟨(by first | omega | (simp;done) | (simp;omega) | (simp;assumption) | (rw[QeC,z7];omega)),trivial⟩):(c0->p0/\True)/\q:=⟨h,k⟩
theorem Qha:Sat 129 c129:=by
 have hD:Qa Qlo.D:=(Qa.cons ZY ZU (Qa.cons QkY Qj9 (Qa.cons QwS Qva (Qa.cons QwR Qu9 Qa.nil))))
 refine Qlo.sa hD Tryz.f129 fun svs b K hP=>?_
 unfold c129 at hP
 split at hP
 rename_i s i d a
 obtain⟨h01,h02,hk⟩:=hP
 have L2:∀(mm:Nat) (k:Nat),s.length-(i+k)=mm->(i+k<=s.length/\Yp s (i+k)=Yp s i)->Qlo.L K 2 (mkS 80 [(0,(.ptr 0 0)),(4,(.nat k))] [(0,.blk 94 [(.str s),(.nat (i+k)),(.nat d),(.bool a)])] 1):=by
  intro mm
  induction mm using zl with
  | _ mm ih=>
   intro k hm hI
   obtain⟨k1,k2⟩:=hI
   refine Qlo.aL hD (have a1:=decide (i+k<s.length);have a0:=a1=true->((a1==true)=true)/\True;have a2:Option SB:=some (.blk 94 [(.str s),(.nat (i+k)),(.nat d),(.bool a)]);have a3:Out:=.val (.tup [(.str []),.ifx]);a0/\a0/\a0/\a0/\a0/\a0/\(a1=true->((a1==true)=true)/\((a1==true)=true)/\(i+k<s.length)/\True)/\a0/\(a1=true->(a1==true)=true)/\cond (a1&&(decide (bat s (i+k)=45))) ((i+k+1<=9223372036854775807)/\(k+1<=9223372036854775807)/\(Qlo).L K 2 (mkS 80 [(0,(.ptr 0 0)),(4,(.nat (k+1)))] [(0,.blk 94 [(.str s),(.nat (i+k+1)),(.nat d),(.bool a)])] 1)) (cond (decide (s.length<=i+k)) (K a3 a2) ((i+k<s.length)/\cond (!((QK (bat s (i+k)))||(decide (bat s (i+k)=92)))) (K a3 a2) ((s.length<=1000000)/\(i+k<=s.length)/\Qt (VY s (i+k)) (fun v1=>(i+k<v1.2/\v1.2<=s.length/\v1.1.length<=4*(v1.2-(i+k)))->cond ((decide (0<k))||false) ((1*k<=140737488355328/\k<=9223372036854775807)/\((Lib.repeatL [45] k).length+v1.1.length<=2305843009213693952)/\K (.val (.tup [(.str (Lib.repeatL [45] k++v1.1)),.nilif])) (some (.blk 94 [(.str s),(.nat v1.2),(.nat d),(.bool a)]))) (K (.val (.tup [(.str v1.1),.nilif])) (some (.blk 94 [(.str s),(.nat v1.2),(.nat d),(.bool a)])))) (∀j2:Nat,cond ((decide (0<k))&&false) ((1*k<=140737488355328/\k<=9223372036854775807)/\((Lib.repeatL [45] k).length+0<=2305843009213693952)/\K (.val (.tup [(.str (Lib.repeatL [45] k++[])),.ifx])) (some (.blk 94 [(.str s),(.nat j2),(.nat d),(.bool a)]))) (K a3 (some (.blk 94 [(.str s),(.nat j2),(.nat d),(.bool a)])))))))) ?_
   refine QkG (QkG (QkG (QkG (QkG (QkG (kzz6 (QkG (Qje ?_))))))))
   refine Qb ?_ ?_<;>intro h1<;>try simp[-zd,-ze]at h1
   refine Qje (Qje ?_)
   exact ih _ (by omega) (k+1) rfl ⟨by omega,by show Yp s (i+k+1)=Yp s i;rw[<-k2];conv=>rhs;rw[Yp,if_pos h1]⟩
   refine Qb (fun h2=>?_) (fun h2=>?_)
   try simp[-zd,-ze]at h2
   have e:Yp s i=i+k:=by rw[<-k2,Yp,if_neg (fun q=>h1 q.1 q.2)]
   exact Qc hk (Qbv e (.inl (by omega))) _
   try simp[-zd,-ze]at h2
   refine Qje ?_
   refine Qb ?_ ?_<;>intro h3<;>try simp[-zd,-ze]at h3
   have e:Yp s i=i+k:=by rw[<-k2,Yp,if_neg (fun q=>h1 q.1 q.2)]
   exact Qc hk (Qbv e (.inl (fun q=>by rcases q.2 with q | q;rw[h3.1]at q;cases q;exact h3.2 q))) _
   refine Qje (Qje ?_)
   refine QJ (fun v1 h4=>?_) (fun h4=>?_)
   intro h5
   try simp[-zd,-ze]at h5
   refine Qb ?_ ?_<;>intro h6<;>try simp[-zd,-ze]at h6
   refine Qje (Qje ?_)
   have e:Yp s i=i+k:=by rw[<-k2,Yp,if_neg (fun q=>h1 q.1 q.2)]
   have e2:=Qdp (r:=v1.1) (j:=v1.2) e h2 (by cases q:QK (bat s (i+k)) with
    | true=>exact .inl rfl
    | false=>exact .inr (h3 q)) h4
   rw[<-QeC,show i+k-i=k from by omega]at e2
   have q:=Qd hk e2 ⟨by omega,by omega,by dsimp only;rw[zh,QeC,z7];omega⟩
   exact q
   have e:Yp s i=i+k:=by rw[<-k2,Yp,if_neg (fun q=>h1 q.1 q.2)]
   have e2:=Qdp (r:=v1.1) (j:=v1.2) e h2 (by cases q:QK (bat s (i+k)) with
    | true=>exact .inl rfl
    | false=>exact .inr (h3 q)) h4
   rw[show i+k-i=0 from by omega,List.replicate_zero,List.nil_append]at e2
   have q:=Qd hk e2 ⟨by omega,by omega,by dsimp only;omega⟩
   exact q
   intro j2
   refine Qb (fun h5=>?_) (fun h5=>?_)
   try simp[-zd,-ze]at h5
   try simp[-zd,-ze]at h5
   have e:Yp s i=i+k:=by rw[<-k2,Yp,if_neg (fun q=>h1 q.1 q.2)]
   exact Qc hk (Qbv e (.inr h4)) _
 refine Qlo.en ((Qlo).L K 2 (mkS 80 [(0,(.ptr 0 0)),(4,(.nat 0))] [(0,.blk 94 [(.str s),(.nat i),(.nat d),(.bool a)])] 1)) ?_
 exact L2 _ 0 rfl ⟨h02,rfl⟩
 exact hP.elim
end
section
open Go Go.RowKit
set_option maxRecDepth 20000
structure St2 (s:Bs) (i j:Nat) (acc:Bs):Prop where
 a:i<j
 b:j<=s.length
 n:acc.length<=4*(j-i)
 e:Vk s (bat s i) j acc=ZB s i
theorem Qm7 {s:Bs} {q j:Nat} {acc:Bs} (h:s.length<=j):Vk s q j acc=none:=by rw[Vk,if_neg (by omega)]
theorem QrS {s:Bs} {q j:Nat} {acc:Bs} (h:j<s.length) (h1:bat s j≠92) (h2:bat s j=q):Vk s q j acc=some (acc,j+1):=by rw[Vk,if_pos h,if_neg h1,if_pos h2]
theorem Qeg {s:Bs} {q j:Nat} {acc:Bs} (h:j<s.length) (h1:bat s j≠92) (h2:bat s j≠q) (h3:YI (bat s j)=true):Vk s q j acc=none:=by rw[Vk,if_pos h,if_neg h1,if_neg h2,if_pos h3]
theorem QoJ {s:Bs} {q j:Nat} {acc:Bs} (h1:bat s j=92) (h2:bat s (j+1)=13) (h3:j+2<s.length/\bat s (j+2)=10):Vk s q j acc=Vk s q (j+3) acc:=by
 rw[Vk,if_pos (by omega),if_pos h1,if_pos ⟨by omega,h2⟩,if_pos h3]
theorem QrR {s:Bs} {q j:Nat} {acc:Bs} (h0:j+1<s.length) (h1:bat s j=92) (h2:bat s (j+1)=13) (h3:¬(j+2<s.length/\bat s (j+2)=10)):Vk s q j acc=Vk s q (j+2) acc:=by
 rw[Vk,if_pos (by omega),if_pos h1,if_pos ⟨by omega,h2⟩,if_neg h3]
theorem QlC {s:Bs} {q j:Nat} {acc:Bs} (h0:j+1<s.length) (h1:bat s j=92) (h2:bat s (j+1)=10\/bat s (j+1)=12):Vk s q j acc=Vk s q (j+2) acc:=by
 rw[Vk,if_pos (by omega),if_pos h1,if_neg (by omega),if_pos ⟨h0,h2⟩]
theorem Qiz {s:Bs} {q j:Nat} {acc:Bs} (h0:j<s.length) (h1:bat s j=92) (h2:¬(j+1<s.length/\(bat s (j+1)=13\/bat s (j+1)=10\/bat s (j+1)=12))) {v:Bs} {k:Nat} (he:Y2 s j=some (v,k)):Vk s q j acc=Vk s q k (acc++v):=by
 rw[Vk,if_pos h0,if_pos h1,if_neg (fun x=>h2 ⟨x.1,.inl x.2⟩),if_neg (fun x=>h2 ⟨x.1,.inr x.2⟩)]
 split
 rename_i x;rw[he]at x;cases x
 rename_i v' k' x;rw[he]at x;cases x;rfl
theorem QiA {s:Bs} {q j:Nat} {acc:Bs} (h0:j<s.length) (h1:bat s j=92) (h2:¬(j+1<s.length/\(bat s (j+1)=13\/bat s (j+1)=10\/bat s (j+1)=12))) (he:Y2 s j=none):Vk s q j acc=none:=by
 rw[Vk,if_pos h0,if_pos h1,if_neg (fun x=>h2 ⟨x.1,.inl x.2⟩),if_neg (fun x=>h2 ⟨x.1,.inr x.2⟩)]
 split
 rfl
 rename_i v' k' x;rw[he]at x;cases x
def Qj2 (q c:Nat):Bool := !(decide (c=q)||decide (c=92)||YI c)
theorem strGo_run (s:Bs) (q i:Nat) (acc:Bs):∀k,i+k<=s.length->(∀m,i<=m->m<i+k->Qj2 q (bat s m)=true)->Vk s q i acc=Vk s q (i+k) (acc++(s.take (i+k)).drop i)
 | 0,h,hc=>by simp
 | k+1,h,hc=>by
  have h5:=hc (i+k) (by omega) (by omega)
  simp only[Qj2,Bool.not_eq_true',zT,decide_eq_false_iff_not]at h5
  rw[strGo_run s q i acc k (by omega) (fun m h1 h2=>hc m h1 (by omega)),Law.strGo_chr (by omega) h5.1.2 h5.1.1 h5.2,
   Law.drop_take_succ s i k (by omega),zw]
  rfl
def c132 (svs:List SV) (b:Option SB) (K:Out->Option SB->Prop):Prop:=match svs,b with
 | [.ptr 0 0],some (.blk 94 [.str s,.nat i,.nat d,.bool a])=>s.length<=1000000/\i<=s.length/\Qt (ZB s i) (fun v=>i<v.2/\v.2<=s.length/\v.1.length<=4*(v.2-i)->K (.val (.tup [.str v.1,.nilif])) (some (.blk 94 [.str s,.nat v.2,.nat d,.bool a]))) (∀j,K (.val (.tup [.str [],.ifx])) (some (.blk 94 [.str s,.nat j,.nat d,.bool a])))
 | _,_=>False
noncomputable def UW:Wk:=⟨[(71,.pure c71),(145,.plain c145)],Qe Tryz.f132,true,false,[.tmp 2,.tmp 3],[9,71],[(6,53),(9,565)],[]⟩
theorem QqK:Has 132:=hsf Tryz.f132
theorem laz1 {c0 p0 q:Prop} (k:q) (h:c0->p0/\True:=by intro g0;(try simp at g0);exact⟨(by first | omega | (simp;done) | (simp;omega) | (simp;assumption)),trivial⟩):(c0->p0/\True)/\q:=⟨h,k⟩
theorem Jd {p q:Prop} (k:q) (h:p:=by first | omega | (simp;done) | (simp;omega) | (simp;assumption)):p/\q:=⟨h,k⟩
theorem Qpk:Sat 132 c132:=by
 have hD:Qa UW.D:=(Qa.cons ZY ZU (Qa.cons QqJ Qpj Qa.nil))
 refine UW.sa hD Tryz.f132 fun svs b K hP=>?_
 unfold c132 at hP
 split at hP
 rename_i s i d a
 obtain⟨h01,h02,hk⟩:=hP
 have L9:∀(mm:Nat) (b j st:Nat) (acc:Bs),s.length-j=mm->(St2 s i st acc/\st<=j/\j<=s.length/\(st<s.length/\Qj2 (bat s i) (bat s st)=true)/\(∀m,st<=m->m<j->Qj2 (bat s i) (bat s m)=true)/\∀b' j' acc',s.length-j'<s.length-st->St2 s i j' acc'->UW.L K 6 (mkS 176 [(0,(.ptr 0 0)),(2,(.str acc')),(4,(.nat j')),(5,(.byt (s.getD i 0)))] [(0,.blk 94 [(.str s),(.nat b'),(.nat d),(.bool a)])] 1))->UW.L K 9 (mkS 176 [(0,(.ptr 0 0)),(2,(.str acc)),(4,(.nat j)),(5,(.byt (s.getD i 0))),(9,(.nat st))] [(0,.blk 94 [(.str s),(.nat b),(.nat d),(.bool a)])] 1):=by
  intro mm
  induction mm using zl with
  | _ mm ih=>
   intro b j st acc hm hI
   obtain⟨⟨k1,k2,k3,k4⟩,k5,k6,k7,k8,ih3⟩:=hI
   have kc:=ZN (a:=st) k6
   refine UW.aL hD (have a0:=mkS 176 [(0,(.ptr 0 0)),(2,(.str (acc++((s.take j).drop st)))),(4,(.nat j)),(5,(.byt (s.getD i 0)))] [(0,.blk 94 [(.str s),(.nat b),(.nat d),(.bool a)])] 1;have a1:=acc.length+((s.take j).drop st).length<=2305843009213693952;cond (decide (j<s.length)) ((j<s.length)/\cond (((((decide (bat s j=bat s i))||(decide (bat s j=92)))||(decide (bat s j=13)))||(decide (bat s j=10)))||(decide (bat s j=12))) ((st<=j/\j<=s.length)/\a1/\(UW).L K 6 a0) ((j+1<=9223372036854775807)/\(UW).L K 9 (mkS 176 [(0,(.ptr 0 0)),(2,(.str acc)),(4,(.nat (j+1))),(5,(.byt (s.getD i 0))),(9,(.nat st))] [(0,.blk 94 [(.str s),(.nat b),(.nat d),(.bool a)])] 1))) ((st<=j/\j<=s.length)/\a1/\(UW).L K 6 a0)) ?_
   refine Qb ?_ ?_<;>intro h1<;>try simp[-zd,-ze]at h1
   refine Jd ?_
   refine Qb ?_ ?_<;>intro h2<;>try simp[-zd,-ze]at h2
   refine Jd (Jd ?_)
   have hj:st<j:=by
    rcases Nat.lt_or_ge st j with q | q
    exact q
    have e:j=st:=by omega
    rw[e]at h2
    have q2:=k7.2
    simp[Qj2,YI]at q2
    omega
   have e:=strGo_run s (bat s i) st acc (j-st) (by omega) (fun m a c=>k8 m a (by omega))
   rw[show st+(j-st)=j from by omega]at e
   exact ih3 b j (acc++(s.take j).drop st) (by omega) ⟨by omega,by omega,by rw[zh,kc];omega,by rw[<-k4,e]⟩
   refine Jd ?_
   exact ih _ (by omega) b (j+1) st acc rfl ⟨⟨k1,k2,k3,k4⟩,by omega,by omega,k7,fun m a c=>by
    by_cases e:m=j
    rw[e];simp[Qj2,YI];omega
    exact k8 m a (by omega),ih3⟩
   refine Jd (Jd ?_)
   have e:=strGo_run s (bat s i) st acc (j-st) (by omega) (fun m a c=>k8 m a (by omega))
   rw[show st+(j-st)=j from by omega]at e
   exact ih3 b j (acc++(s.take j).drop st) (by omega) ⟨by omega,by omega,by rw[zh,kc];omega,by rw[<-k4,e]⟩
 have L6:∀(mm:Nat) (b j:Nat) (acc:Bs),s.length-j=mm->(St2 s i j acc)->UW.L K 6 (mkS 176 [(0,(.ptr 0 0)),(2,(.str acc)),(4,(.nat j)),(5,(.byt (s.getD i 0)))] [(0,.blk 94 [(.str s),(.nat b),(.nat d),(.bool a)])] 1):=by
  intro mm
  induction mm using zl with
  | _ mm ih=>
   intro b j acc hm hI
   obtain⟨k1,k2,k3,k4⟩:=hI
   refine UW.aL hD (have a1:Option SB:=some (.blk 94 [(.str s),(.nat b),(.nat d),(.bool a)]);have a2:Out:=.val (.tup [(.str []),.ifx]);have a3:=j+2<=9223372036854775807;have a4:=j+1<=9223372036854775807;have a5:Option SB:=some (.blk 94 [(.str s),(.nat (j+1)),(.nat d),(.bool a)]);have a6:=decide (j+2<s.length);have a7:SV:=.byt (s.getD i 0);have a0:=mkS 176 [(0,(.ptr 0 0)),(2,(.str acc)),(4,(.nat (j+2))),(5,a7)] [(0,.blk 94 [(.str s),(.nat b),(.nat d),(.bool a)])] 1;cond (decide (j<s.length)) ((j<s.length)/\cond (decide (bat s j=92)) (a4/\cond (decide (j+1<s.length)) (a4/\(j+1<s.length)/\cond (decide (bat s (j+1)=13)) (a3/\(a6=true->a3/\True)/\(a6=true->(j+2<s.length)/\True)/\cond (a6&&(decide (bat s (j+2)=10))) ((j+3<=9223372036854775807)/\(UW).L K 6 (mkS 176 [(0,(.ptr 0 0)),(2,(.str acc)),(4,(.nat (j+3))),(5,a7)] [(0,.blk 94 [(.str s),(.nat b),(.nat d),(.bool a)])] 1)) (a3/\(UW).L K 6 a0)) (cond (decide (bat s (j+1)=10)) (a3/\(UW).L K 6 a0) (cond (decide (bat s (j+1)=12)) (a3/\(UW).L K 6 a0) ((s.length<=1000000)/\(j<=s.length)/\Qt (Y2 s j) (fun v1=>(j<v1.2/\v1.2<=s.length/\v1.1.length<=4*(v1.2-j))->(acc.length+v1.1.length<=2305843009213693952)/\(UW).L K 6 (mkS 176 [(0,(.ptr 0 0)),(2,(.str (acc++v1.1))),(4,(.nat v1.2)),(5,a7)] [(0,.blk 94 [(.str s),(.nat v1.2),(.nat d),(.bool a)])] 1)) (∀j2:Nat,K a2 (some (.blk 94 [(.str s),(.nat j2),(.nat d),(.bool a)]))))))) ((s.length<=1000000)/\(j<=s.length)/\Qt (Y2 s j) (fun v3=>(j<v3.2/\v3.2<=s.length/\v3.1.length<=4*(v3.2-j))->(acc.length+v3.1.length<=2305843009213693952)/\(UW).L K 6 (mkS 176 [(0,(.ptr 0 0)),(2,(.str (acc++v3.1))),(4,(.nat v3.2)),(5,a7)] [(0,.blk 94 [(.str s),(.nat v3.2),(.nat d),(.bool a)])] 1)) (∀j4:Nat,K a2 (some (.blk 94 [(.str s),(.nat j4),(.nat d),(.bool a)]))))) (cond (decide (bat s j=bat s i)) (cond (decide (s.length<=j)) (K a2 a1) (a4/\K (.val (.tup [(.str acc),.nilif])) a5)) (cond (decide (bat s j=13)) (K a2 a1) (cond (decide (bat s j=10)) (K a2 a1) (cond (decide (bat s j=12)) (K a2 a1) ((UW).L K 9 (mkS 176 [(0,(.ptr 0 0)),(2,(.str acc)),(4,(.nat j)),(5,a7),(9,(.nat j))] [(0,.blk 94 [(.str s),(.nat b),(.nat d),(.bool a)])] 1))))))) (cond (decide (s.length<=j)) (K a2 a1) (a4/\K (.val (.tup [(.str acc),.nilif])) a5))) ?_
   refine Qb ?_ ?_<;>intro h1<;>try simp[-zd,-ze]at h1
   refine Jd ?_
   refine Qb ?_ ?_<;>intro h2<;>try simp[-zd,-ze]at h2
   refine Jd ?_
   refine Qb ?_ ?_<;>intro h3<;>try simp[-zd,-ze]at h3
   refine Jd (Jd ?_)
   refine Qb ?_ ?_<;>intro h4<;>try simp[-zd,-ze]at h4
   refine Jd (laz1 (laz1 ?_))
   refine Qb ?_ ?_<;>intro h5<;>try simp[-zd,-ze]at h5
   refine Jd ?_
   exact ih _ (by omega) b (j+3) acc rfl ⟨by omega,by omega,by omega,by rw[<-k4,QoJ h2 h4 h5]⟩
   refine Jd ?_
   exact ih _ (by omega) b (j+2) acc rfl ⟨by omega,by omega,by omega,by rw[<-k4,QrR h3 h2 h4 (fun q=>h5 q.1 q.2)]⟩
   refine Qb (fun h5=>?_) (fun h5=>?_)
   try simp[-zd,-ze]at h5
   refine Jd ?_
   exact ih _ (by omega) b (j+2) acc rfl ⟨by omega,by omega,by omega,by rw[<-k4,QlC h3 h2 (.inl h5)]⟩
   try simp[-zd,-ze]at h5
   refine Qb ?_ ?_<;>intro h6<;>try simp[-zd,-ze]at h6
   refine Jd ?_
   exact ih _ (by omega) b (j+2) acc rfl ⟨by omega,by omega,by omega,by rw[<-k4,QlC h3 h2 (.inr h6)]⟩
   refine Jd (Jd ?_)
   refine QJ (fun v1 h7=>?_) (fun h7=>?_)
   intro h8
   try simp[-zd,-ze]at h8
   refine Jd ?_
   exact ih _ (by omega) v1.2 v1.2 (acc++v1.1) rfl ⟨by omega,by omega,by rw[zh];omega,by rw[<-k4,Qiz h1 h2 (by omega) (v:=v1.1) (k:=v1.2) h7]⟩
   intro j2
   exact Qc hk (by rw[<-k4];exact QiA h1 h2 (by omega) h7) _
   refine Jd (Jd ?_)
   refine QJ (fun v3 h4=>?_) (fun h4=>?_)
   intro h5
   try simp[-zd,-ze]at h5
   refine Jd ?_
   exact ih _ (by omega) v3.2 v3.2 (acc++v3.1) rfl ⟨by omega,by omega,by rw[zh];omega,by rw[<-k4,Qiz h1 h2 (by omega) (v:=v3.1) (k:=v3.2) h4]⟩
   intro j4
   exact Qc hk (by rw[<-k4];exact QiA h1 h2 (by omega) h4) _
   refine Qb (fun h3=>?_) (fun h3=>?_)
   try simp[-zd,-ze]at h3
   refine Qb ?_ ?_<;>intro h4<;>try simp[-zd,-ze]at h4
   exfalso
   omega
   refine Jd ?_
   have q:=Qd hk (k4.symm.trans (QrS h1 h2 h3)) ⟨by dsimp only;omega,by dsimp only;omega,by dsimp only;omega⟩
   dsimp only at q
   exact q
   try simp[-zd,-ze]at h3
   refine Qb ?_ ?_<;>intro h4<;>try simp[-zd,-ze]at h4
   exact Qc hk (by rw[<-k4];exact Qeg h1 h2 h3 (by simp[YI];omega)) _
   refine Qb (fun h5=>?_) (fun h5=>?_)
   try simp[-zd,-ze]at h5
   exact Qc hk (by rw[<-k4];exact Qeg h1 h2 h3 (by simp[YI];omega)) _
   try simp[-zd,-ze]at h5
   refine Qb ?_ ?_<;>intro h6<;>try simp[-zd,-ze]at h6
   exact Qc hk (by rw[<-k4];exact Qeg h1 h2 h3 (by simp[YI];omega)) _
   exact L9 _ b j j acc rfl ⟨⟨k1,k2,k3,k4⟩,zm _,k2,⟨h1,by simp[Qj2,YI];omega⟩,fun m a c=>by omega,fun b' j' acc' hlt h'=>ih _ (by omega) b' j' acc' rfl h'⟩
   refine Qb (fun h2=>?_) (fun h2=>?_)
   try simp[-zd,-ze]at h2
   exact Qc hk (by rw[<-k4];exact Qm7 h1) _
   try simp[-zd,-ze]at h2
   refine Jd ?_
   exfalso
   omega
 refine UW.en ((i+2<=9223372036854775807)/\cond (decide (s.length<i+2)) (K (.val (.tup [(.str []),.ifx])) (some (.blk 94 [(.str s),(.nat i),(.nat d),(.bool a)]))) ((i<s.length)/\(i+1<=9223372036854775807)/\(UW).L K 6 (mkS 176 [(0,(.ptr 0 0)),(2,(.str [])),(4,(.nat (i+1))),(5,(.byt (s.getD i 0)))] [(0,.blk 94 [(.str s),(.nat i),(.nat d),(.bool a)])] 1))) ?_
 refine Jd ?_
 refine Qb ?_ ?_<;>intro h1<;>try simp[-zd,-ze]at h1
 exact Qc hk (by unfold ZB;rw[if_pos h1]) _
 refine Jd (Jd ?_)
 exact L6 _ i (i+1) [] rfl ⟨by omega,by omega,by simp,by unfold ZB;rw[if_neg (by omega)]⟩
 exact hP.elim
def YD (s:Bs) (i:Nat):Option (Nat×Nat):=
 if QO s i=i then none
 else if YO ((s.take (QO s i)).drop i)<=9223372036854775807 then some (YO ((s.take (QO s i)).drop i),QO s i) else none
theorem Q3 (s:Bs) (i:Nat):Qa6 s i=(YD s i).map fun p=>((p.1:Int),p.2):=by
 unfold Qa6 YD
 split
 rfl
 split<;>rfl
theorem Qod {s:Bs} {i:Nat} (h:i<s.length/\Qu (bat s i)=true):QO s i=QO s (i+1):=by
 conv=>lhs;rw[QO,if_pos h]
theorem Qc5 {s:Bs} {i:Nat} (h:¬(i<s.length/\Qu (bat s i)=true)):QO s i=i:=by
 rw[QO,if_neg h]
theorem Qtm {s:Bs} {a e:Nat} {c:UInt8} (h:c∈(s.take e).drop a):∃m,a<=m/\m<e/\c.toNat=bat s m:=by
 obtain⟨n,hn,rfl⟩:=List.getElem_of_mem h
 simp only[zR,zP]at hn
 refine⟨a+n,by omega,by omega,?_⟩
 have:bat s (a+n)=(s[a+n]).toNat:=by
  unfold bat;rw[zd,zg (by omega)];rfl
 rw[this]
 simp
def c146 (svs:List SV) (b:Option SB) (K:Out->Option SB->Prop):Prop:=match svs,b with
 | [.ptr 0 0],some (.blk 94 [.str s,.nat i,.nat d,.bool a])=>s.length<=1000000/\i<=s.length/\Qt (YD s i) (fun v=>i<v.2/\v.2<=s.length/\v.1<=9223372036854775807->K (.val (.tup [.nat v.1,.nilif])) (some (.blk 94 [.str s,.nat v.2,.nat d,.bool a]))) (∀j,K (.val (.tup [.nat 0,.ifx])) (some (.blk 94 [.str s,.nat j,.nat d,.bool a])))
 | _,_=>False
noncomputable def Qll:Wk:=⟨[(71,.pure c71),(153,.plain c153)],Qe Tryz.f146,true,false,[.tmp 2,.tmp 3],[3,71],[(3,49)],[]⟩
theorem QwP:Has 146:=hsf Tryz.f146
theorem Qqc {p q:Prop} (k:q) (h:p:=by first | omega | (simp;done) | (simp;omega) | (simp;assumption) | (rw[kc];omega) | exact kd):p/\q:=⟨h,k⟩
theorem laz2 {c0 p0 q:Prop} (k:q) (h:c0->p0/\True:=by intro g0;(try simp at g0);exact⟨(by first | omega | (simp;done) | (simp;omega) | (simp;assumption) | (rw[kc];omega) | exact kd),trivial⟩):(c0->p0/\True)/\q:=⟨h,k⟩
theorem Qu7:Sat 146 c146:=by
 have hD:Qa Qll.D:=(Qa.cons ZY ZU (Qa.cons QwK Qu2 Qa.nil))
 refine Qll.sa hD Tryz.f146 fun svs b K hP=>?_
 unfold c146 at hP
 split at hP
 rename_i s i d a
 obtain⟨h01,h02,hk⟩:=hP
 have L3:∀(mm:Nat) (j:Nat),s.length-j=mm->(i<=j/\j<=s.length/\QO s j=QO s i/\∀m,i<=m->m<j->Qu (bat s m)=true)->Qll.L K 3 (mkS 63 [(0,(.ptr 0 0)),(4,(.nat j)),(5,(.nat i))] [(0,.blk 94 [(.str s),(.nat i),(.nat d),(.bool a)])] 1):=by
  intro mm
  induction mm using zl with
  | _ mm ih=>
   intro j hm hI
   obtain⟨k1,k2,k3,k4⟩:=hI
   have kc:=ZN (a:=i) k2
   have kd:∀c∈(s.take j).drop i,Qu c.toNat=true:=fun c hc=>by
    obtain⟨m,q1,q2,q3⟩:=Qtm hc
    rw[q3];exact k4 m q1 q2
   refine Qll.aL hD (have a0:=(s.take j).drop i;have a1:Option SB:=some (.blk 94 [(.str s),(.nat j),(.nat d),(.bool a)]);have a2:=(decide (j<s.length))&&(decide (48<=bat s j));((decide (j<s.length))=true->(j<s.length)/\True)/\(a2=true->(j<s.length)/\True)/\cond (a2&&(decide (bat s j<=57))) ((j+1<=9223372036854775807)/\(Qll).L K 3 (mkS 63 [(0,(.ptr 0 0)),(4,(.nat (j+1))),(5,(.nat i))] [(0,.blk 94 [(.str s),(.nat i),(.nat d),(.bool a)])] 1)) (cond (decide (j=i)) (K (.val (.tup [(.nat 0),.ifx])) (some (.blk 94 [(.str s),(.nat i),(.nat d),(.bool a)]))) ((i<=j/\j<=s.length)/\(a0.length<=1000000)/\(0<a0.length)/\(∀c∈a0,Qu c.toNat=true)/\cond (decide (YO a0<=9223372036854775807)) (K (.val (.tup [(.nat (YO a0)),.nilif])) a1) (∀n1:Int,K (.val (.tup [(.nat 0),.ifx])) a1)))) ?_
   refine laz2 (laz2 ?_)
   refine Qb ?_ ?_<;>intro h1<;>try simp[-zd,-ze]at h1
   refine Qqc ?_
   exact ih _ (by omega) (j+1) rfl ⟨by omega,by omega,by rw[<-k3,Qod (s:=s) (i:=j) ⟨h1.1.1,by simp[Qu];omega⟩],fun m a c=>by
    by_cases e:m=j
    rw[e];simp[Qu];omega
    exact k4 m a (by omega)⟩
   refine Qb (fun h2=>?_) (fun h2=>?_)
   try simp[-zd,-ze]at h2
   have e:QO s i=j:=by rw[<-k3,Qc5 (fun q=>by simp only[Qu,zk,decide_eq_true_eq]at q;have:=h1 q.1 q.2.1;omega)]
   exact Qc hk (by unfold YD;rw[e,if_pos h2]) _
   try simp[-zd,-ze]at h2
   refine Qqc (Qqc (Qqc (Qqc ?_)))
   refine Qb ?_ ?_<;>intro h3<;>try simp[-zd,-ze]at h3
   have e:QO s i=j:=by rw[<-k3,Qc5 (fun q=>by simp only[Qu,zk,decide_eq_true_eq]at q;have:=h1 q.1 q.2.1;omega)]
   have q:=Qd hk (show YD s i=some (YO ((s.take j).drop i),j) from by unfold YD;rw[e,if_neg h2,if_pos h3]) ⟨by dsimp only;omega,by dsimp only;omega,by dsimp only;omega⟩
   dsimp only at q
   exact q
   intro n1
   have e:QO s i=j:=by rw[<-k3,Qc5 (fun q=>by simp only[Qu,zk,decide_eq_true_eq]at q;have:=h1 q.1 q.2.1;omega)]
   exact Qc hk (by unfold YD;rw[e,if_neg h2,if_neg (by omega)]) _
 refine Qll.en ((Qll).L K 3 (mkS 63 [(0,(.ptr 0 0)),(4,(.nat i)),(5,(.nat i))] [(0,.blk 94 [(.str s),(.nat i),(.nat d),(.bool a)])] 1)) ?_
 exact L3 _ i rfl ⟨zm _,h02,rfl,fun m a c=>by omega⟩
 exact hP.elim
end
end Go.Proofs.YtengepcafdnalaaGreatDoor
