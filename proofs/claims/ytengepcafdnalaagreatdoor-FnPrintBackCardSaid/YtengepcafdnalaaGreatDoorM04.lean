/-
  Parts of the proof that the law FnPrintBack holds for every input (texts Pf). Conditions: none.
-/
import Derived.Test.YtengepcafdnalaaGreatDoorM03
namespace Go.Proofs.YtengepcafdnalaaGreatDoor
open _root_.Bool renaming false_ne_true → zq, and_eq_true → zk, or_eq_false_iff → zT, or_eq_true → zx
open _root_.List renaming mem_cons → zu, not_mem_nil → zJ, foldl_cons → xi, getD_eq_getElem?_getD → zd, getElem?_eq_getElem → zg, length_pos_iff → zN, length_append → zh, append_assoc → zw
open _root_.Nat renaming le_refl → zm
open _root_.Option renaming bind_some → zQ
open _root_.UInt8 renaming toNat_add → xf
section
namespace Law
theorem Vg (t:RS) (p:Nat):(t.go p).p=p:=by cases t;rfl
theorem Qcn (t:RS) (p:Nat):(t.go p).bad=t.bad:=by cases t;rfl
theorem Qbl (t:RS) (b:Bool):(t.unI b).p=t.p:=by cases t;rfl
theorem QcH {s:Bs} {c:Nat} {x:SelD} {k:List SelD} {t:RS} (hc:c≠92) (h:U9 s t):(ZZ s c x k t).2.bad=true:=by
 unfold ZZ
 split
 rename_i h1
 rcases h with h | h
 exact h
 omega
 rfl
theorem QbZ {s:Bs} {c:Nat} (x:SelD) (k:List SelD) (t:RS) (h:bat s t.p=c):ZZ s c x k t=(Qi x k,t.go (t.p+1)):=if_pos h
theorem Qb1 {s:Bs} {c:Nat} (x:SelD) (k:List SelD) (t:RS) (h:bat s t.p≠c):ZZ s c x k t=(failL,t.no):=if_neg h
def QkT (s:Bs) (i:Nat):Option (CSel×Nat):=
 match Qx s (iWs s (i+1)) with
 | none=>none
 | some (key,j)=>
  if bat s (iWs s j)=93 then some (.attr (low key) [] [] false,iWs s j+1)
  else if (V6 s (iWs s j)).1≠1 then
   VF.iAttrV s (low key) (if bat s (iWs s j)=61 then [61] else [s.getD (iWs s j) 0,s.getD (iWs s j+1) 0])
    (iWs s (iWs s j+(V6 s (iWs s j)).2))
  else none
theorem Qjp {s key op val:Bs} {ign:Bool} {m:Nat} (h:op∉attrSigns):VF.iAttrE s key op val ign m=none:=by
 unfold VF.iAttrE;rw[if_neg (fun k=>h k.2.2)]
theorem Qjn {s key op:Bs} {k:Nat} (h:op∉attrSigns):VF.iAttrV s key op k=none:=by
 unfold VF.iAttrV
 split
 split
 rfl
 split
 exact Qjp h
 rfl
 rfl
theorem Qjo {s key op val:Bs} {ign:Bool} {k:Nat} {x:CSel} {m:Nat} (h:VF.iAttrE s key op val ign k=some (x,m)):m=k+1/\k<s.length:=by
 unfold VF.iAttrE at h
 split at h
 rename_i h5;cases h;exact⟨rfl,h5.1⟩
 cases h
theorem Qjm {s key op:Bs} {k:Nat} {x:CSel} {m:Nat} (h:VF.iAttrV s key op k=some (x,m)):k+2<=m/\m<=s.length:=by
 unfold VF.iAttrV at h
 split at h
 split at h
 cases h
 rename_i v m' h1
 have h3:k<m':=by
  split at h1
  have:=Qmf h1;omega
  have:=iIdent_lt h1;omega
 by_cases h8:iWs s m'<s.length
 rw[if_pos h8]at h
 have h4:=QQ s m'
 have h5:=Qjo h
 have h6:=QQ s (if bat s (iWs s m')=105\/bat s (iWs s m')=73 then iWs s m'+1 else iWs s m')
 have h7:iWs s m'<=(if bat s (iWs s m')=105\/bat s (iWs s m')=73 then iWs s m'+1 else iWs s m'):=by split<;>omega
 omega
 rw[if_neg h8]at h;cases h
 cases h
theorem QlF {s:Bs} {i:Nat} (h:(V6 s i).1≠1):(bat s i=61\/bat s (i+1)=61)/\(V6 s i).2=(if bat s i=61 then 1 else 2) /\
 Yw ([]::attrSigns) (if bat s i=61 then [61] else [s.getD i 0,s.getD (i+1) 0])=(V6 s i).1 /\
 (if bat s i=61 then [61] else [s.getD i 0,s.getD (i+1) 0])∈attrSigns:=by
 have hb:∀(j:Nat) (c:UInt8),bat s j=c.toNat->s.getD j 0=c:=fun j c h=>UInt8.toNat_inj.1 h
 unfold V6 at h ⊢
 split at h
 rename_i h1
 rw[if_pos h1]
 simp only[h1,↓reduceIte]
 exact⟨.inl trivial,trivial,by decide,by decide⟩
 rename_i h1
 split at h
 rename_i h2
 rw[if_neg h1,if_pos h2]
 rw[hb (i+1) 61 h2]
 simp only[h1,↓reduceIte]
 refine⟨.inr h2,?_⟩
 split at h
 rename_i h3;rw[if_pos h3,hb i 33 h3];exact⟨rfl,by decide,by decide⟩
 rename_i h3
 rw[if_neg h3]
 split at h
 rename_i h3;rw[if_pos h3,hb i 126 h3];exact⟨rfl,by decide,by decide⟩
 rename_i h3
 rw[if_neg h3]
 split at h
 rename_i h3;rw[if_pos h3,hb i 124 h3];exact⟨rfl,by decide,by decide⟩
 rename_i h3
 rw[if_neg h3]
 split at h
 rename_i h3;rw[if_pos h3,hb i 94 h3];exact⟨rfl,by decide,by decide⟩
 rename_i h3
 rw[if_neg h3]
 split at h
 rename_i h3;rw[if_pos h3,hb i 36 h3];exact⟨rfl,by decide,by decide⟩
 rename_i h3
 rw[if_neg h3]
 split at h
 rename_i h3;rw[if_pos h3,hb i 42 h3];exact⟨rfl,by decide,by decide⟩
 exact absurd rfl h
 exact absurd rfl h
theorem QoV {s:Bs} {i:Nat} (h:(V6 s i).1=1):bat s i≠61/\(bat s (i+1)=61->[s.getD i 0,s.getD (i+1) 0]∉attrSigns):=by
 have hb:∀(j:Nat) (c:UInt8),s.getD j 0=c->bat s j=c.toNat:=fun j c h=>by rw[bat,h]
 unfold V6 at h
 split at h
 simp at h
 rename_i h1
 refine⟨h1,fun h2=>?_⟩
 rw[if_pos h2]at h
 intro hm
 simp only[attrSigns,zu,List.cons.injEq,and_true,zJ,or_false,reduceCtorEq,and_false,false_or]at hm
 rcases hm with hm | hm | hm | hm | hm | hm<;>(have:=hb i _ hm.1;simp at this;simp[this]at h)
theorem Qqv (s:Bs) (i:Nat):VF s i=QkT s i:=by
 unfold VF QkT
 rcases hk:Qx s (iWs s (i+1)) with _ | ⟨key,j⟩
 rfl
 dsimp only
 by_cases h93:bat s (iWs s j)=93
 rw[if_pos (Yy (by omega)),if_pos h93,if_pos h93]
 rw[if_neg h93,if_neg h93]
 by_cases hs:(V6 s (iWs s j)).1≠1
 obtain⟨h1,h2,h3,h4⟩:=QlF hs
 rw[if_pos hs,h2]
 by_cases hl:iWs s j+2<s.length
 rw[if_pos (by omega),if_pos ⟨hl,h1⟩]
 have hn:VF.iAttrV s (low key) (if bat s (iWs s j)=61 then [61] else [s.getD (iWs s j) 0,s.getD (iWs s j+1) 0])
  (iWs s (iWs s j+(if bat s (iWs s j)=61 then 1 else 2)))=none:=by
  cases e:VF.iAttrV s (low key) (if bat s (iWs s j)=61 then [61] else [s.getD (iWs s j) 0,s.getD (iWs s j+1) 0])
   (iWs s (iWs s j+(if bat s (iWs s j)=61 then 1 else 2))) with
  | none=>rfl
  | some p=>
   obtain⟨x,m⟩:=p
   have h5:=Qjm e
   have h6:=QQ s (iWs s j+(if bat s (iWs s j)=61 then 1 else 2))
   have h7:1<=(if bat s (iWs s j)=61 then 1 else 2):=by split<;>omega
   omega
 rw[hn]
 split
 rw[if_neg (fun k=>hl k.1)]
 rfl
 rw[if_neg hs]
 simp only[ne_eq,Decidable.not_not]at hs
 obtain⟨h1,h2⟩:=QoV hs
 split
 split
 rename_i h3
 exact Qjn (h2 (h3.2.resolve_left h1))
 rfl
 rfl
theorem Qos {s:Bs} (key val op:Bs) (n:Int) (h1:Yw ([]::attrSigns) op=n) (h2:op∈attrSigns) (t:RS) (hb:t.bad=false) (hw:iWs s t.p=t.p) :
 Sim s MT (VF.iAttrE s key op val (decide (bat s t.p=105\/bat s t.p=73)) (iWs s (if bat s t.p=105\/bat s t.p=73 then t.p+1 else t.p))) (Zb s key n val t):=by
 have hm:∀(ign:Bool),MT (.attr key val op ign) (Qi ⟨5,n,key,val,0,0,b2i ign 1,0⟩ []):=fun ign=>
  MT.leaf _ (by simp[Qj,Qy,h1]) (by simp[Qy,h1]) (by simp[Qk])
 unfold Zb
 by_cases hc:bat s t.p=105\/bat s t.p=73
 rw[if_pos hc,if_pos ⟨hb,hc⟩,decide_eq_true hc]
 rcases Yz s (t.go (t.p+1)) with h | ⟨_,e⟩ | ⟨h,_⟩
 exact .un (Jv _ _ _ _ _ h)
 rw[e]
 unfold VF.iAttrE
 by_cases h93:bat s (iWs s (t.p+1))=93
 rw[if_pos ⟨Yy (by omega),h93,h2⟩,QbZ _ _ ((t.go (t.p+1)).go (iWs s (t.go (t.p+1)).p)) h93]
 exact .ok _ rfl hb (hm true)
 rw[if_neg (fun k=>h93 k.2.1),Qb1 _ _ ((t.go (t.p+1)).go (iWs s (t.go (t.p+1)).p)) h93]
 exact .bad rfl rfl
 rw[Qcn,hb]at h;cases h
 rw[if_neg hc,if_neg (fun k=>hc k.2),decide_eq_false hc,hw]
 unfold VF.iAttrE
 by_cases h93:bat s t.p=93
 rw[if_pos ⟨Yy (by omega),h93,h2⟩,QbZ _ _ (t.unI _) h93]
 exact .ok _ rfl hb (hm false)
 rw[if_neg (fun k=>h93 k.2.1),Qb1 _ _ (t.unI _) h93]
 exact .bad rfl rfl
theorem Qk9 {s key val:Bs} {n:Int} {t:RS} (h:U9 s t):(Zb s key n val t).2.bad=true:=by
 unfold Zb
 split
 rename_i h1
 rcases h with h | h
 rw[h]at h1;cases h1.1
 omega
 exact QcH (by decide) h
theorem Qot {s key val:Bs} {n:Int} {t:RS} (h:s.length<=t.p):(Zb s key n val t).2.bad=true:=by
 have h0:=bat_out h
 unfold Zb
 rw[if_neg (fun k=>by rw[h0]at k;omega)]
 rw[Qb1 _ _ (t.unI _) (by show bat s t.p≠93;omega)]
 rfl
theorem val_lt {s:Bs} {i:Nat} {r:Bs} {j:Nat} (h:(if bat s i=39\/bat s i=34 then ZB s i else Qx s i)=some (r,j)):i<j/\j<=s.length:=by
 split at h
 have:=Qmf h;omega
 exact iIdent_lt h
theorem Qor {s:Bs} (hr:RD s) (key op:Bs) (n:Int) (k3:Yw ([]::attrSigns) op=n) (k4:op∈attrSigns) (u:RS) (hb:u.bad=false) :
 Sim s MT (VF.iAttrV s key op u.p) (Zb s key n (Qs s u).1 (sSp s (Qs s u).2)):=by
 have hv:=QfX hr u hb
 generalize Qs s u=w at hv ⊢
 unfold VF.iAttrV
 rcases hv with h | ⟨v,h1,h2,h3⟩ | ⟨h1,h2⟩
 exact .un (QaI _ _ _ _ _ (Vz _ _ h))
 have hl:=val_lt h1
 rw[if_pos (by omega),h1]
 dsimp only
 rcases Yz s w.2 with h | ⟨_,e⟩ | ⟨h,_⟩
 exact .un (QaI _ _ _ _ _ h)
 rw[e]
 split
 rw[h3]
 exact Qos key w.1 op n k3 k4 (w.2.go (iWs s w.2.p)) h2 (iWs_fix s _)
 rename_i h5
 exact .bad rfl (Qot (by simp only[Vg];omega))
 rw[h2]at h;cases h
 refine .bad ?_ (by rw[Qad h2];exact Qk9 h2)
 split
 rw[h1]
 rfl
theorem Qoq {s:Bs} (hr:RD s) (key:Bs) (t:RS) (hb:t.bad=false) (hs:(V6 s t.p).1≠1) :
 Sim s MT (VF.iAttrV s key (if bat s t.p=61 then [61] else [s.getD t.p 0,s.getD (t.p+1) 0]) (iWs s (t.p+(V6 s t.p).2))) (Y0 s key t):=by
 obtain⟨_,_,k3,k4⟩:=QlF hs
 unfold Y0
 rw[if_neg hs]
 rcases Yz s (t.go (t.p+(V6 s t.p).2)) with h | ⟨_,e⟩ | ⟨h,_⟩
 exact .un (QaI _ _ _ _ _ (Vz _ _ (QaG _ _ h)))
 rw[e]
 exact Qor hr key _ _ k3 k4 ((t.go (t.p+(V6 s t.p).2)).go (iWs s (t.p+(V6 s t.p).2))) hb
 rw[Qcn,hb]at h;cases h
def Qcv (s:Bs) (key:Bs) (t2:RS):List SelD×RS:=
 if t2.bad=true then (failL,t2.no)
 else if bat s t2.p=93 then (Qi ⟨5,1,key,[],0,0,0,0⟩ [],t2.go (t2.p+1))
 else Y0 s key t2
theorem Qrp (s:Bs) (t:RS):Zy s t=Qcv s (low (Qg s (sSp s t)).1) (sSp s (Qg s (sSp s t)).2):=rfl
theorem Qou {s key:Bs} {t:RS} (hb:t.bad=false) (h:bat s t.p=93):Qcv s key t=(Qi ⟨5,1,key,[],0,0,0,0⟩ [],t.go (t.p+1)):=by
 unfold Qcv;rw[if_neg (by rw[hb];exact zq),if_pos h]
theorem Qro {s key:Bs} {t:RS} (hb:t.bad=false) (h:¬bat s t.p=93):Qcv s key t=Y0 s key t:=by
 unfold Qcv;rw[if_neg (by rw[hb];exact zq),if_neg h]
theorem Qfv {s key:Bs} {t:RS} (h:t.un=true):(Qcv s key t).2.un=true:=by
 unfold Qcv
 split
 exact h
 split
 exact h
 exact Qga _ _ _ h
theorem Qla {s key:Bs} {t:RS} (h:U9 s t):(Qcv s key t).2.bad=true:=by
 unfold Qcv
 rcases h with h | h
 rw[if_pos h];rfl
 split
 rfl
 rw[if_neg (by omega)]
 unfold Y0
 rw[if_pos (by simp[V6,h])]
 rfl
theorem Qrm {s:Bs} (hr:RD s) (t:RS) (hb:t.bad=false) (i:Nat) (hi:t.p=i+1):Sim s MT (VF s i) (Zy s t):=by
 rw[Qqv,Qrp]
 unfold QkT
 rcases Yz s t with h | ⟨_,e⟩ | ⟨h,_⟩
 exact .un (Qfv (Vz _ _ (ZD _ _ h)))
 rw[e,hi]
 have hn:=Jb hr (t.go (iWs s (i+1))) hb
 simp only[Vg]at hn
 generalize Qg s (t.go (iWs s (i+1)))=w at hn ⊢
 rcases hn with h | ⟨key,h1,h2,h3⟩ | ⟨h1,h2⟩
 exact .un (Qfv (Vz _ _ h))
 rw[h1]
 dsimp only
 rcases Yz s w.2 with h | ⟨_,e⟩ | ⟨h,_⟩
 exact .un (Qfv h)
 rw[e,h3]
 by_cases h93:bat s (iWs s w.2.p)=93
 rw[if_pos h93,Qou (t:=w.2.go (iWs s w.2.p)) h2 h93]
 exact .ok _ rfl h2 (MT.leaf _ (by simp[Qj,Qy,Yw,b2i]) (by simp[Qy,Yw,b2i]) (by simp[Qk]))
 rw[if_neg h93,Qro (t:=w.2.go (iWs s w.2.p)) h2 h93]
 by_cases hs:(V6 s (iWs s w.2.p)).1≠1
 rw[if_pos hs]
 exact Qoq hr (low w.1) (w.2.go (iWs s w.2.p)) h2 hs
 rw[if_neg hs]
 simp only[ne_eq,Decidable.not_not]at hs
 unfold Y0
 rw[if_pos (show (V6 s (w.2.go (iWs s w.2.p)).p).1=1 from hs)]
 exact .bad rfl rfl
 rw[h2]at h;cases h
 rw[h1]
 exact .bad rfl (by rw[Qad h2];exact Qla h2)
 rw[hb]at h;cases h
theorem QmB (l:Bs):∀n:Nat,n<=l.foldl (fun n c=>10*n+(c.toNat-48)) n:=by
 induction l with
 | nil=>intro n;exact zm _
 | cons c l ih=>intro n;have:=ih (10*n+(c.toNat-48));simp only[xi];omega
theorem QqV (l:Bs) (n:Nat):min (l.foldl (fun n c=>10*n+(c.toNat-48)) (min n 100000)) 100000=min (l.foldl (fun n c=>10*n+(c.toNat-48)) n) 100000:=by
 by_cases h:n<=100000
 rw[Nat.min_eq_left h]
 have h1:=QmB l 100000
 have h2:=QmB l n
 rw[Nat.min_eq_right (by omega:100000<=n)]
 omega
theorem QgL (s:Bs) (i:Nat):i<=QO s i:=by
 fun_induction QO s i with
 | case1 i h ih=>omega
 | case2=>omega
theorem Qoc (s:Bs) (i:Nat) (h:i<=s.length):QO s i<=s.length:=by
 fun_induction QO s i with
 | case1 i h ih=>exact ih (by omega)
 | case2=>omega
theorem Qob (s:Bs) (t:RS) (n:Nat) (b:Bool) (hn:n<=100000) :
 (Vt s t n b).1=min (((s.take (QO s t.p)).drop t.p).foldl (fun n c=>10*n+(c.toNat-48)) n) 100000 /\
 (Vt s t n b).2.1=(b||decide (QO s t.p≠t.p))/\(Vt s t n b).2.2=(t.go (QO s t.p)).unI (decide ((Vt s t n b).1=100000)):=by
 fun_induction Vt s t n b with
 | case1 t n b h1 ih=>
  have e:QO s t.p=QO s (t.p+1):=by rw[QO,if_pos ⟨h1.2,h1.1⟩]
  have hg:=QgL s (t.p+1)
  obtain⟨h2,h3,h4⟩:=ih (by omega)
  rw[h4,h2,h3,e]
  have e2:(s.take (QO s (t.p+1))).drop t.p=s.getD t.p 0::(s.take (QO s (t.p+1))).drop (t.p+1):=by
   have hk:=QbQ s t.p (QO s (t.p+1)-t.p) (by omega) (by have:=Qoc s (t.p+1) (by omega);omega)
   rw[show t.p+(QO s (t.p+1)-t.p)=QO s (t.p+1) from by omega]at hk
   exact hk
  rw[e2,xi]
  simp only[Vg]
  refine⟨?_,by simp;omega,?_⟩
  exact QqV _ _
  rfl
 | case2 t n b h1=>
  have e:QO s t.p=t.p:=by rw[QO,if_neg (fun h=>h1 ⟨h.2,h.1⟩)]
  rw[e]
  have e3:(s.take t.p).drop t.p=[]:=by apply List.drop_eq_nil_of_le;simp;omega
  rw[e3]
  refine⟨by simp only[List.foldl_nil];omega,by simp,rfl⟩
theorem QhN (s:Bs) (t:RS):(Vt s t 0 false).2.2.un=true\/((Vt s t 0 false).2.2=t.go (QO s t.p) /\
 ((QO s t.p=t.p/\(Vt s t 0 false).2.1=false/\Qa6 s t.p=none) \/
  (t.p<s.length/\Qu (bat s t.p)=true/\(Vt s t 0 false).2.1=true/\Qa6 s t.p=some (((Vt s t 0 false).1:Int),QO s t.p)))):=by
 obtain⟨h1,h2,h3⟩:=Qob s t 0 false (by omega)
 by_cases h:(Vt s t 0 false).1=100000
 left;rw[h3,h];simp
 right
 rw[h3,decide_eq_false h]
 refine⟨by simp,?_⟩
 by_cases e:QO s t.p=t.p
 left
 refine⟨e,by rw[h2];simp[e],by unfold Qa6;rw[if_pos e]⟩
 right
 have hd:t.p<s.length/\Qu (bat s t.p)=true:=by
  by_cases hd:t.p<s.length/\Qu (bat s t.p)=true
  exact hd
  exact absurd (by rw[QO,if_neg hd]) e
 refine⟨hd.1,hd.2,by rw[h2];simp[e],?_⟩
 unfold Qa6 YO
 rw[if_neg e]
 have h5:(Vt s t 0 false).1=((s.take (QO s t.p)).drop t.p).foldl (fun n c=>10*n+(c.toNat-48)) 0:=by omega
 rw[<-h5,if_pos (by omega)]
def CSim (s:Bs) (f:Option (Int×Int×Nat)) (g:(Int×Int)×RS):Prop:=
 g.2.un=true\/(f=some (g.1.1,g.1.2,g.2.p)/\g.2.bad=false)\/(f=none/\(U9 s g.2\/s.length<=g.2.p))
theorem Qfl (s:Bs) (a:Int) (t:RS) (hb:t.bad=false):CSim s (Y1 s a t.p) (ZE s a t):=by
 unfold ZE
 simp only
 rcases Yz s t with h | ⟨_,e⟩ | ⟨h,_⟩
 left
 split
 have h9:=Qd4 s (sSp s ((sSp s t).go ((sSp s t).p+1))) 0 false (Vz _ _ h)
 simp only
 split<;>exact h9
 simp[h]
 rw[e]
 simp only[Vg]
 unfold Y1
 by_cases hc:bat s (iWs s t.p)=43\/bat s (iWs s t.p)=45
 have hl:iWs s t.p<s.length:=Yy (by omega)
 rw[if_pos hc,if_pos hl]
 rcases Yz s ((t.go (iWs s t.p)).go (iWs s t.p+1)) with h | ⟨_,e2⟩ | ⟨h,_⟩
 left
 have h9:=Qd4 s _ 0 false h
 simp only
 split<;>exact h9
 rw[e2]
 simp only[Vg]
 have hi:=QhN s (((t.go (iWs s t.p)).go (iWs s t.p+1)).go (iWs s (iWs s t.p+1)))
 simp only[Vg]at hi
 generalize Vt s (((t.go (iWs s t.p)).go (iWs s t.p+1)).go (iWs s (iWs s t.p+1))) 0 false=d at hi ⊢
 rcases hi with h | ⟨h1,⟨h2,h3,h4⟩ | ⟨h2,_,h3,h4⟩⟩
 left;simp only;split<;>exact h
 right;right
 rw[h3,if_neg zq,h4]
 refine⟨?_,.inl (.inl rfl)⟩
 by_cases h43:bat s (iWs s t.p)=43
 rw[if_pos h43];rfl
 rw[if_neg h43,if_pos (by omega)];rfl
 right;left
 rw[h3,if_pos rfl,h4,h1]
 refine⟨?_,hb⟩
 by_cases h43:bat s (iWs s t.p)=43
 rw[if_pos h43,if_neg (by omega)];rfl
 rw[if_neg h43,if_pos (by omega),if_pos (by omega)];rfl
 rw[Qcn,Qcn,hb]at h;cases h
 rw[if_neg hc]
 right
 by_cases hl:iWs s t.p<s.length
 left
 rw[if_pos hl,if_neg (fun k=>hc (.inl k)),if_neg (fun k=>hc (.inr k))]
 exact⟨rfl,hb⟩
 right
 rw[if_neg hl]
 exact⟨rfl,.inr (by simp only[Qbl,Vg];omega)⟩
 rw[hb]at h;cases h
def iA (s:Bs) (sg:Int) (i:Nat):Option (Int×Int×Nat):=
 if i<s.length then
  if Qu (bat s i)=true then (Qa6 s i).bind fun p=>Z3 s (sg*p.1) p.2
  else if isN (bat s i)=true then Y1 s sg (i+1)
  else none
 else none
theorem Qjk (s:Bs) (i:Nat):Yf s i=iA s 1 i:=by unfold Yf iA;simp
theorem Qqu (s:Bs) (i:Nat):Yn s i=iA s (-1) i:=by
 unfold Yn iA
 have:∀p:Int,0-p = -1*p:=by intro p;omega
 simp only[this]
theorem QbC (s:Bs) (sg:Int) (t:RS) (hb:t.bad=false):CSim s (iA s sg t.p) (YT s sg t):=by
 have hi:=QhN s t
 unfold YT
 simp only
 generalize Vt s t 0 false=d at hi ⊢
 rcases hi with h | ⟨h1,⟨h2,h3,h4⟩ | ⟨h2,h5,h3,h4⟩⟩
 left
 split
 exact Qbo _ _ _ h
 split<;>simp[h]
 rw[h3,h1,h2]
 simp only[Vg,Bool.false_eq_true,↓reduceIte]
 have hnd:¬(t.p<s.length/\Qu (bat s t.p)=true):=by
  intro k
  have:=QgL s (t.p+1)
  rw[QO,if_pos k]at h2
  omega
 unfold iA
 by_cases hN:isN (bat s t.p)=true
 . have hl:t.p<s.length:=by
    apply Yy;intro e;rw[e]at hN;revert hN;decide
   rw[if_pos hl,if_neg (fun k=>hnd ⟨hl,k⟩),if_pos hN,if_pos hN]
   exact Qfl s sg ((t.go t.p).go (t.p+1)) hb
 right;right
 rw[if_neg hN,if_neg hN]
 refine⟨?_,.inl (.inl rfl)⟩
 split
 rename_i hl
 rw[if_neg (fun k=>hnd ⟨hl,k⟩)]
 rfl
 rw[h3,h1]
 simp only[Vg,↓reduceIte]
 unfold iA
 rw[if_pos h2,if_pos h5,h4]
 simp only[zQ]
 unfold Z3
 by_cases hN:isN (bat s (QO s t.p))=true
 . have hl:QO s t.p<s.length:=by
    apply Yy;intro e;rw[e]at hN;revert hN;decide
   rw[if_pos hN,if_pos hl,if_pos hN]
   exact Qfl s _ ((t.go (QO s t.p)).go (QO s t.p+1)) hb
 rw[if_neg hN,if_neg hN]
 right
 by_cases hl:QO s t.p<s.length
 left;rw[if_pos hl];exact⟨rfl,hb⟩
 right;rw[if_neg hl];exact⟨rfl,.inr (by simp only[Qbl,Vg];omega)⟩
theorem Qom {s:Bs} {i k m:Nat} (h:i+k<=s.length) (hm:m<k):((s.take (i+k)).drop i).getD m 0=s.getD (i+m) 0:=by
 simp only[zd,List.getElem?_drop,List.getElem?_take]
 rw[if_pos (by omega)]
theorem Qp4 (l:Bs) (m:Nat) (h:m<l.length):(low l).getD m 0=Uf (l.getD m 0):=by
 unfold low
 simp[zd,zg h]
theorem QkB {c d:UInt8} (h:Uf c=d) (h1:97<=d.toNat) (h2:d.toNat<=122):c.toNat=d.toNat\/c.toNat+32=d.toNat:=by
 unfold Uf at h
 split at h
 right;rw[<-h,xf];simp;omega
 left;rw[h]
theorem QfU {s w:Bs} {i:Nat} (hw:∀m,m<w.length->97<=(w.getD m 0).toNat/\(w.getD m 0).toNat<=122) (h0:0<w.length) (h:ZC s w i=true) :
 ∃v,VY s i=some (v,i+w.length)/\low v=w/\i+w.length<=s.length/\(bat s i=(w.getD 0 0).toNat\/bat s i+32=(w.getD 0 0).toNat):=by
 simp only[ZC,zk,decide_eq_true_eq,Bool.not_eq_true',Bool.and_eq_false_imp,zT,decide_eq_false_iff_not]at h
 obtain⟨⟨h1,h2⟩,h3⟩:=h
 have hb:∀m,m<w.length->(bat s (i+m)=(w.getD m 0).toNat\/bat s (i+m)+32=(w.getD m 0).toNat):=by
  intro m hm
  have e:Uf (s.getD (i+m) 0)=w.getD m 0:=by
   rw[<-Qom h1 hm,<-Qp4 _ _ (by simp;omega),h2]
  exact QkB e (hw m hm).1 (hw m hm).2
 have hc:∀m,i<=m->m<i+w.length->Qr (bat s m)=true:=by
  intro m k1 k2
  have:=hb (m-i) (by omega)
  rw[show i+(m-i)=m from by omega]at this
  have h5:=hw (m-i) (by omega)
  simp only[Qr,QK,zx,zk,decide_eq_true_eq]
  omega
 refine⟨_,?_,h2,h1,hb 0 h0⟩
 rw[JN (by omega) (.inl (hc i (by omega) (by omega))),nameGo_run s i [] w.length h1 hc,List.nil_append,nameGo_stop]
 by_cases hl:i+w.length<s.length
 have:=h3 hl;exact .inr this
 exact .inl hl
theorem QsW {s:Bs} {i:Nat} {v:Bs} {j:Nat} (he:Y2 s i=some (v,j)):v≠[]:=by
 unfold Y2 at he
 split at he
 cases he
 split at he
 cases he
 split at he<;>(simp only[Option.some.injEq,Prod.mk.injEq]at he;rw[<-he.1])
 exact utf8_ne _
 simp
theorem Qgp {s w:Bs} {j:Nat}:∀(k i:Nat) (acc:Bs),(∀m,m<k->bat s (i+m)≠92)->Q9 s i acc=some (w,j)->w.length=acc.length+k ->
 w=acc++(s.take (i+k)).drop i/\(k=0\/i+k<=s.length)/\(¬i+k<s.length\/(Qr (bat s (i+k))=false/\bat s (i+k)≠92))
 | 0,i,acc,h1,h2,h3=>by
  have hst:¬i<s.length\/(Qr (bat s i)=false/\bat s i≠92):=by
   by_cases hl:i<s.length
   right
   constructor
   cases hc:Qr (bat s i)
   rfl
   rw[Zc hl hc]at h2;have:=UM h2;simp at this;omega
   intro hc
   cases he:Y2 s i with
   | none=>rw[nameGo_none hl hc he]at h2;cases h2
   | some p=>
    obtain⟨v,k⟩:=p
    rw[nameGo_esc hl hc he]at h2
    have h5:=UM h2
    have h6:=zN.2 (QsW he)
    simp only[zh]at h5
    omega
   exact .inl hl
  rw[nameGo_stop hst]at h2
  cases h2
  exact⟨by simp,.inl rfl,hst⟩
 | k+1,i,acc,h1,h2,h3=>by
  by_cases hc:i<s.length/\Qr (bat s i)=true
  rw[Zc hc.1 hc.2]at h2
  obtain⟨e1,e2,e3⟩:=Qgp k (i+1) (acc++[s.getD i 0]) (fun m hm=>by have:=h1 (m+1) (by omega);rwa [show i+(m+1)=i+1+m from by omega]at this) h2 (by simp;omega)
  rw[show i+1+k=i+(k+1) from by omega]at e1 e2 e3
  refine⟨?_,.inr (by omega),e3⟩
  rw[e1,zw,<-QbQ s i (k+1) (by omega) (by omega)]
  have hst:¬i<s.length\/(Qr (bat s i)=false/\bat s i≠92):=by
   by_cases hl:i<s.length
   exact .inr ⟨by simpa using fun k=>hc ⟨hl,k⟩,h1 0 (by omega)⟩
   exact .inl hl
  rw[nameGo_stop hst]at h2
  cases h2
  omega
theorem Qlw {s w W:Bs} {i j:Nat} (hW:W.length<=4) (hW0:0<W.length) (hb:Qav s i=false) (h:Q9 s i []=some (w,j)) (hl:low w=W):ZC s W i=true:=by
 simp only[Qav,zT,decide_eq_false_iff_not]at hb
 have hlen:w.length=W.length:=by rw[<-hl];simp[low]
 obtain⟨e1,e2,e3⟩:=Qgp W.length i [] (fun m hm=>by
  rcases (by omega:m=0\/m=1\/m=2\/m=3) with e | e | e | e<;>subst e
  exact hb.1.1.1
  exact hb.1.1.2
  exact hb.1.2
  exact hb.2) h (by simp[hlen])
 rw[List.nil_append]at e1
 simp only[ZC,zk,decide_eq_true_eq,Bool.not_eq_true',Bool.and_eq_false_imp,zT,decide_eq_false_iff_not]
 refine⟨⟨by omega,by rw[<-e1,hl]⟩,fun k=>?_⟩
 exact e3.resolve_left (fun q=>q k)
theorem iNth_oe {s:Bs} {i:Nat} (h:Jf (bat s i)=true):Yc s i=match VY s i with
      | none=>none
      | some (w,j)=>if low w=[111,100,100] then some (2,1,j) else if low w=[101,118,101,110] then some (2,0,j) else none:=by
 have hc:bat s i=111\/bat s i=79\/bat s i=101\/bat s i=69:=by simp only[Jf,zx,decide_eq_true_eq]at h;omega
 unfold Yc
 rw[if_pos (Yy (by omega)),if_neg (by omega),if_neg (by omega),if_neg (by simp[Qu];omega),if_neg (by simp[isN];omega),if_pos h]
 rfl
theorem Qoh {s:Bs} (t:RS) (hb:t.bad=false):CSim s (Yc s t.p) (VG s t):=by
 unfold VG
 by_cases ho:ZC s [111,100,100] t.p=true
 rw[if_pos ho]
 obtain⟨v,h1,h2,_,h3⟩:=QfU (by decide) (by decide) ho
 right;left
 rw[iNth_oe (by rcases h3 with h3 | h3<;>simp[Jf]at h3 ⊢ <;> omega),h1]
 simp only[h2,↓reduceIte]
 exact⟨rfl,hb⟩
 rw[if_neg ho]
 by_cases he:ZC s [101,118,101,110] t.p=true
 rw[if_pos he]
 obtain⟨v,h1,h2,_,h3⟩:=QfU (by decide) (by decide) he
 right;left
 rw[iNth_oe (by rcases h3 with h3 | h3<;>simp[Jf]at h3 ⊢ <;> omega),h1]
 simp only[h2]
 exact⟨rfl,hb⟩
 rw[if_neg he]
 by_cases h45:bat s t.p=45
 rw[if_pos h45]
 unfold Yc
 rw[if_pos (Yy (by omega)),if_pos h45,Qqu]
 exact QbC s (-1) (t.go (t.p+1)) hb
 rw[if_neg h45]
 by_cases h43:bat s t.p=43
 rw[if_pos h43]
 unfold Yc
 rw[if_pos (Yy (by omega)),if_neg h45,if_pos h43,Qjk]
 exact QbC s 1 (t.go (t.p+1)) hb
 rw[if_neg h43]
 by_cases hoe:Jf (bat s t.p)=true
 have hc:bat s t.p=111\/bat s t.p=79\/bat s t.p=101\/bat s t.p=69:=by simp only[Jf,zx,decide_eq_true_eq]at hoe;omega
 have hd:QO s t.p=t.p:=by rw[QO,if_neg (by simp[Qu];omega)]
 rcases QhN s t with h | ⟨h1,⟨h2,h3,h4⟩ | ⟨h2,h5,h3,h4⟩⟩
 left
 unfold YT
 simp only
 split
 exact Qbo _ _ _ h
 split<;>simp[h]
 unfold YT
 simp only
 rw[h1,h3,hd]
 simp only[Vg]
 rw[if_neg (by simp[isN];omega)]
 cases hbs:Qav s t.p
 right;right
 refine⟨?_,.inl (.inl rfl)⟩
 rw[iNth_oe hoe,JN (Yy (by omega)) (.inl (by simp[Qr,QK];omega))]
 split
 rfl
 rename_i w j hw
 rw[if_neg (fun k=>ho (Qlw (by decide) (by decide) hbs hw k)),if_neg (fun k=>he (Qlw (by decide) (by decide) hbs hw k))]
 left;simp
 exfalso
 simp only[Qu,zk,decide_eq_true_eq]at h5
 omega
 have e:Yc s t.p=iA s 1 t.p:=by
  unfold Yc iA
  rw[if_neg h45,if_neg h43,if_neg hoe]
  split
  split
  rw[Qjk];unfold iA;rename_i h1 h2;rw[if_pos h1,if_pos h2]
  rfl
  rfl
 rw[e]
 exact QbC s 1 t hb
section
variable {s:Bs}
theorem Qc8 {c:CSel} {x:SelD} {kids:List SelD} (hm:MT c (Qi x kids)) (w u:RS) (hb:w.bad=false) (h1:(sSp s w).un=true->u.un=true) (h2:u.p=(sSp s w).p) (h3:u.bad=(sSp s w).bad) :
 Sim s MT ((QT s w.p).map fun e=>(c,e)) (if u.bad=true then (failL,u.no) else ZZ s 41 x kids u):=by
 rcases Yz s w with h | ⟨_,e⟩ | ⟨h,_⟩
 refine .un ?_
 split
 exact h1 h
 exact Jv _ _ _ _ _ (h1 h)
 rw[e]at h2 h3
 simp only[Vg,Qcn]at h2 h3
 rw[if_neg (by rw[h3,hb];exact zq)]
 unfold QT
 by_cases h41:bat s (iWs s w.p)=41
 rw[QbZ _ _ u (by rw[h2];exact h41),if_pos ⟨Yy (by omega),h41⟩]
 exact .ok c (by simp[h2]) (by simp[h3,hb]) hm
 rw[Qb1 _ _ u (by rw[h2];exact h41),if_neg (fun k=>h41 k.2)]
 exact .bad rfl rfl
 rw[hb]at h;cases h
theorem QbE {x:SelD} {kids:List SelD} (w u:RS) (hd:U9 s w\/s.length<=w.p) (h2:u.p=(sSp s w).p) (h3:u.bad=(sSp s w).bad) :
 (if u.bad=true then (failL,u.no) else ZZ s 41 x kids u).2.bad=true:=by
 have e:sSp s w=w:=by
  rcases hd with hd | hd
  exact Qad hd
  rw[sSp,if_neg (fun k=>by omega)]
 rw[e]at h2 h3
 split
 rfl
 rename_i hn
 rcases hd with hd | hd
 refine QcH (by decide) ?_
 rcases hd with hd | hd
 rw[h3,hd]at hn;exact absurd rfl hn
 exact .inr (by rw[h2];exact hd)
 unfold ZZ
 rw[if_neg (by rw[h2,bat_out hd];decide)]
 rfl
theorem Jj {x:SelD} {kids:List SelD} {u:RS} (h:u.un=true):(if u.bad=true then (failL,u.no) else ZZ s 41 x kids u).2.un=true:=by
 split
 exact h
 exact Jv _ _ _ _ _ h
theorem Qcf {j:Nat} (h:bat s j=40):Vu s j=some (iWs s (j+1)):=by
 unfold Vu;rw[if_pos ⟨Yy (by omega),h⟩]
variable (hr:RD s) (t:RS) (hb:t.bad=false) (j:Nat) (hj:t.p=j+1) (h40:bat s j=40) {G:RS->List SelD×RS}
include hr hb hj h40
theorem Qru (last ofType:Bool) (kind flag:Int) (hf:flag=b2i last 1+b2i ofType 2):Sim s MT (YZ s last ofType j) (V3 G s kind flag t):=by
 have _:=hr
 have h0:0<=flag:=by rw[hf];cases last<;>cases ofType<;>simp[b2i]
 unfold V3 YZ
 simp only
 rw[if_pos h0,Qcf h40]
 simp only
 rcases Yz s t with h | ⟨_,e⟩ | ⟨h,_⟩
 exact .un (Jj (Vz _ _ (Qf8 _ _ h)))
 rw[e,hj]
 have hc:=Qoh (s:=s) (t.go (iWs s (j+1))) hb
 simp only[Vg]at hc
 generalize VG s (t.go (iWs s (j+1)))=w at hc ⊢
 rcases hc with h | ⟨h1,h2⟩ | ⟨h1,h2⟩
 exact .un (Jj (Vz _ _ h))
 rw[h1]
 simp only
 refine Qc8 ?_ w.2 (sSp s w.2) h2 (fun h=>h) rfl rfl
 exact MT.leaf _ (by simp[Qj,Qy,hf]) (by simp[Qy,hf]) (by simp[Qk])
 rw[h1]
 exact .bad rfl (QbE w.2 (sSp s w.2) h2 rfl rfl)
 rw[hb]at h;cases h
theorem Qrv (flag:Int) (hf:flag<0):Sim s MT (Zf s j) (V3 G s 15 flag t):=by
 unfold V3 Zf
 simp only
 rw[if_neg (by omega),if_neg (by decide),if_pos trivial,Qcf h40]
 simp only
 rcases Yz s t with h | ⟨_,e⟩ | ⟨h,_⟩
 refine .un (Jj ?_)
 simp[Vz s ((Qg s ((sSp s t).unI (isQ (bat s (sSp s t).p)||decide (bat s (sSp s t).p=42)))).2.unI (hiB (Qg s ((sSp s t).unI (isQ (bat s (sSp s t).p)||decide (bat s (sSp s t).p=42)))).1)) (by simp[ZD s ((sSp s t).unI (isQ (bat s (sSp s t).p)||decide (bat s (sSp s t).p=42))) (by simp[h])])]
 rw[e,hj]
 simp only[Vg]
 have hn:=Jb hr ((t.go (iWs s (j+1))).unI (isQ (bat s (iWs s (j+1)))||decide (bat s (iWs s (j+1))=42))) hb
 simp only[Vg,Qbl]at hn
 generalize Qg s ((t.go (iWs s (j+1))).unI (isQ (bat s (iWs s (j+1)))||decide (bat s (iWs s (j+1))=42)))=w at hn ⊢
 rcases hn with h | ⟨v,h1,h2,h3⟩ | ⟨h1,h2⟩
 refine .un (Jj ?_)
 simp[Vz s (w.2.unI (hiB w.1)) (by simp[h])]
 have hl:=iIdent_lt h1
 rw[if_pos (by omega),h1]
 simp only
 rw[h3]
 refine Qc8 (MT.leaf _ (by simp[Qj,Qy]) (by simp[Qy]) (by simp[Qk])) (w.2.unI (hiB w.1)) _ h2 (fun h=>by simp[h]) rfl rfl
 refine .bad ?_ (QbE (w.2.unI (hiB w.1)) _ (.inl h2) rfl rfl)
 split
 rw[h1]
 rfl
 rw[hb]at h;cases h
theorem Qrr (own:Bool) (flag:Int) (hf:flag<0):Sim s MT (YY s own j) (V3 G s (16+b2i own 1) flag t):=by
 unfold V3 YY
 simp only
 rw[if_neg (by omega),if_neg (by cases own<;>decide),if_neg (by cases own<;>decide),Qcf h40]
 simp only
 rcases Yz s t with h | ⟨_,e⟩ | ⟨h,_⟩
 exact .un (Jj (Vz s _ (by simp[QaG s _ h])))
 rw[e,hj]
 have hn:=QfX hr (t.go (iWs s (j+1))) hb
 simp only[Vg]at hn
 generalize Qs s (t.go (iWs s (j+1)))=w at hn ⊢
 rcases hn with h | ⟨v,h1,h2,h3⟩ | ⟨h1,h2⟩
 exact .un (Jj (Vz s _ (by simp[h])))
 have hl:=val_lt h1
 rw[if_pos (by omega),h1]
 simp only
 rw[h3]
 refine Qc8 (MT.leaf _ (by simp[Qj,Qy]) (by simp[Qy]) (by simp[Qk])) (w.2.unI (hiB w.1)) _ h2 (fun h=>h) rfl rfl
 refine .bad ?_ (QbE (w.2.unI (hiB w.1)) _ (.inl h2) rfl rfl)
 split
 rw[h1]
 rfl
 rw[hb]at h;cases h
end
def GS (s:Bs) (lo:Nat) (Gi:Nat->Option (List CSel×Nat)) (G:RS->List SelD×RS):Prop:=
 ∀t,lo<=t.p->t.bad=false->Sim s (fun xs l=>∃b,l=Qi Q4 b/\MTs xs b) (Gi t.p) (G t)/\(∀xs m,Gi t.p=some (xs,m)->iWs s m=m)
def GU (G:RS->List SelD×RS):Prop:=∀t,t.un=true->(G t).2.un=true
theorem Qrx {s:Bs} (hr:RD s) (t:RS) (hb:t.bad=false) (j:Nat) (hj:t.p=j+1) (h40:bat s j=40) {Gi:Nat->Option (List CSel×Nat)} {G:RS->List SelD×RS} {lo:Nat} (hG:GS s lo Gi G) (hU:GU G) (hlo:lo<=j+1)
 (n:Bs) (kind flag:Int) (hk:17+Yw [Zz,ZA,QN] n=kind) (hk2:18<=kind) (hf:flag<0):Sim s MT (Y7 Gi s n j) (V3 G s kind flag t):=by
 unfold V3 Y7
 simp only
 rw[if_neg (by omega),if_pos hk2,Qcf h40]
 simp only
 rcases Yz s t with h | ⟨_,e⟩ | ⟨h,_⟩
 exact .un (Jj (hU _ (by simp[h])))
 rw[e,hj]
 simp only[Vg]
 generalize (decide (bat s (iWs s (j+1))=62)||decide (bat s (iWs s (j+1))=43)||decide (bat s (iWs s (j+1))=126))=b
 obtain⟨hs,hw⟩:=hG ((t.go (iWs s (j+1))).unI b) (by simp only[Qbl,Vg];have:=QQ s (j+1);omega) hb
 simp only[Vg,Qbl]at hs hw
 generalize G ((t.go (iWs s (j+1))).unI b)=w at hs ⊢
 rcases hs with h | ⟨xs,h1,h2,l,h3,h4⟩ | ⟨h1,h2⟩
 exact .un (Jj h)
 rw[h1]
 simp only
 have hw:=hw _ _ h1
 rw[if_neg (by rw[h2];exact zq),h3]
 unfold QT
 rw[hw]
 by_cases h41:bat s w.2.p=41
 rw[QbZ _ _ w.2 h41,if_pos ⟨Yy (by omega),h41⟩]
 exact .ok _ rfl h2 (MT.rel h4 hk)
 rw[Qb1 _ _ w.2 h41,if_neg (fun k=>h41 k.2)]
 exact .bad rfl rfl
 rw[h1]
 refine .bad rfl ?_
 split
 rfl
 exact QcH (by decide) h2
 rw[hb]at h;cases h
end Law
end
end Go.Proofs.YtengepcafdnalaaGreatDoor
