/-
  Parts of the proof that the law FnPrintGrammar holds for every input (texts Pf). Conditions: none.
-/
import Derived.Test.YtengepcafdnalaaGreatDoorM03
namespace Go.Proofs.YtengepcafdnalaaGreatDoor
open _root_.Bool renaming false_ne_true → zo, and_eq_true → zh, not_eq_true' → zO, and_eq_false_imp → zV, or_eq_false_iff → zz, or_eq_true → zu
open _root_.List renaming mem_cons → zp, not_mem_nil → zT, foldl_cons → z8, getD_eq_getElem?_getD → za, getElem?_eq_getElem → ze, nil_append → zW, length_pos_iff → zw, length_append → zf, append_assoc → zq
open _root_.Nat renaming le_refl → zj
open _root_.Option renaming bind_some → zU
open _root_.UInt8 renaming toNat_add → xj
section
namespace Law
theorem Vb (t:RS) (p:Nat):(t.go p).p=p:=by cases t;rfl
theorem QcX (t:RS) (p:Nat):(t.go p).bad=t.bad:=by cases t;rfl
theorem QbX (t:RS) (b:Bool):(t.unI b).p=t.p:=by cases t;rfl
theorem Qdh {s:Bs} {c:Nat} {x:SelD} {k:List SelD} {t:RS} (hc:c≠92) (h:QaM s t):(Ji s c x k t).2.bad=true:=by
 unfold Ji
 split
 rename_i h1
 rcases h with h | h
 exact h
 omega
 rfl
theorem Qcz {s:Bs} {c:Nat} (x:SelD) (k:List SelD) (t:RS) (h:bat s t.p=c):Ji s c x k t=(Qj x k,t.go (t.p+1)):=if_pos h
theorem QcB {s:Bs} {c:Nat} (x:SelD) (k:List SelD) (t:RS) (h:bat s t.p≠c):Ji s c x k t=(failL,t.no):=if_neg h
def QlO (s:Bs) (i:Nat):Option (CSel×Nat):=
 match QC s (iWs s (i+1)) with
 | none=>none
 | some (key,j)=>
  if bat s (iWs s j)=93 then some (.attr (low key) [] [] false,iWs s j+1)
  else if (V8 s (iWs s j)).1≠1 then
   VK.iAttrV s (low key) (if bat s (iWs s j)=61 then [61] else [s.getD (iWs s j) 0,s.getD (iWs s j+1) 0])
    (iWs s (iWs s j+(V8 s (iWs s j)).2))
  else none
theorem Qkc {s key op val:Bs} {ign:Bool} {m:Nat} (h:op∉attrSigns):VK.iAttrE s key op val ign m=none:=by
 unfold VK.iAttrE;rw[if_neg (fun k=>h k.2.2)]
theorem Qka {s key op:Bs} {k:Nat} (h:op∉attrSigns):VK.iAttrV s key op k=none:=by
 unfold VK.iAttrV
 split
 split
 rfl
 split
 exact Qkc h
 rfl
 rfl
theorem Qkb {s key op val:Bs} {ign:Bool} {k:Nat} {x:CSel} {m:Nat} (h:VK.iAttrE s key op val ign k=some (x,m)):m=k+1/\k<s.length:=by
 unfold VK.iAttrE at h
 split at h
 rename_i h5;cases h;exact⟨rfl,h5.1⟩
 cases h
theorem Qj9 {s key op:Bs} {k:Nat} {x:CSel} {m:Nat} (h:VK.iAttrV s key op k=some (x,m)):k+2<=m/\m<=s.length:=by
 unfold VK.iAttrV at h
 split at h
 split at h
 cases h
 rename_i v m' h1
 have h3:k<m':=by
  split at h1
  have:=Qm8 h1;omega
  have:=iIdent_lt h1;omega
 by_cases h8:iWs s m'<s.length
 rw[if_pos h8]at h
 have h4:=Q4 s m'
 have h5:=Qkb h
 have h6:=Q4 s (if bat s (iWs s m')=105\/bat s (iWs s m')=73 then iWs s m'+1 else iWs s m')
 have h7:iWs s m'<=(if bat s (iWs s m')=105\/bat s (iWs s m')=73 then iWs s m'+1 else iWs s m'):=by split<;>omega
 omega
 rw[if_neg h8]at h;cases h
 cases h
theorem Qmw {s:Bs} {i:Nat} (h:(V8 s i).1≠1):(bat s i=61\/bat s (i+1)=61)/\(V8 s i).2=(if bat s i=61 then 1 else 2) /\
 YI ([]::attrSigns) (if bat s i=61 then [61] else [s.getD i 0,s.getD (i+1) 0])=(V8 s i).1 /\
 (if bat s i=61 then [61] else [s.getD i 0,s.getD (i+1) 0])∈attrSigns:=by
 have hb:∀(j:Nat) (c:UInt8),bat s j=c.toNat->s.getD j 0=c:=fun j c h=>UInt8.toNat_inj.1 h
 unfold V8 at h ⊢
 split at h
 rename_i h1
 rw[if_pos h1]
 simp only[h1,↓reduceIte]
 exact⟨.inl trivial,trivial,by decide,by decide⟩
 rename_i h1
 split at h
 rename_i h2
 rw[if_neg h1,if_pos h2]
 rw[hb (i+1) 61 h2]
 simp only[h1,↓reduceIte]
 refine⟨.inr h2,?_⟩
 split at h
 rename_i h3;rw[if_pos h3,hb i 33 h3];exact⟨rfl,by decide,by decide⟩
 rename_i h3
 rw[if_neg h3]
 split at h
 rename_i h3;rw[if_pos h3,hb i 126 h3];exact⟨rfl,by decide,by decide⟩
 rename_i h3
 rw[if_neg h3]
 split at h
 rename_i h3;rw[if_pos h3,hb i 124 h3];exact⟨rfl,by decide,by decide⟩
 rename_i h3
 rw[if_neg h3]
 split at h
 rename_i h3;rw[if_pos h3,hb i 94 h3];exact⟨rfl,by decide,by decide⟩
 rename_i h3
 rw[if_neg h3]
 split at h
 rename_i h3;rw[if_pos h3,hb i 36 h3];exact⟨rfl,by decide,by decide⟩
 rename_i h3
 rw[if_neg h3]
 split at h
 rename_i h3;rw[if_pos h3,hb i 42 h3];exact⟨rfl,by decide,by decide⟩
 exact absurd rfl h
 exact absurd rfl h
theorem QpK {s:Bs} {i:Nat} (h:(V8 s i).1=1):bat s i≠61/\(bat s (i+1)=61->[s.getD i 0,s.getD (i+1) 0]∉attrSigns):=by
 have hb:∀(j:Nat) (c:UInt8),s.getD j 0=c->bat s j=c.toNat:=fun j c h=>by rw[bat,h]
 unfold V8 at h
 split at h
 simp at h
 rename_i h1
 refine⟨h1,fun h2=>?_⟩
 rw[if_pos h2]at h
 intro hm
 simp only[attrSigns,zp,List.cons.injEq,and_true,zT,or_false,reduceCtorEq,and_false,false_or]at hm
 rcases hm with hm | hm | hm | hm | hm | hm<;>(have:=hb i _ hm.1;simp at this;simp[this]at h)
theorem Qrh (s:Bs) (i:Nat):VK s i=QlO s i:=by
 unfold VK QlO
 rcases hk:QC s (iWs s (i+1)) with _ | ⟨key,j⟩
 rfl
 dsimp only
 by_cases h93:bat s (iWs s j)=93
 rw[if_pos (Yw (by omega)),if_pos h93,if_pos h93]
 rw[if_neg h93,if_neg h93]
 by_cases hs:(V8 s (iWs s j)).1≠1
 obtain⟨h1,h2,h3,h4⟩:=Qmw hs
 rw[if_pos hs,h2]
 by_cases hl:iWs s j+2<s.length
 rw[if_pos (by omega),if_pos ⟨hl,h1⟩]
 have hn:VK.iAttrV s (low key) (if bat s (iWs s j)=61 then [61] else [s.getD (iWs s j) 0,s.getD (iWs s j+1) 0])
  (iWs s (iWs s j+(if bat s (iWs s j)=61 then 1 else 2)))=none:=by
  cases e:VK.iAttrV s (low key) (if bat s (iWs s j)=61 then [61] else [s.getD (iWs s j) 0,s.getD (iWs s j+1) 0])
   (iWs s (iWs s j+(if bat s (iWs s j)=61 then 1 else 2))) with
  | none=>rfl
  | some p=>
   obtain⟨x,m⟩:=p
   have h5:=Qj9 e
   have h6:=Q4 s (iWs s j+(if bat s (iWs s j)=61 then 1 else 2))
   have h7:1<=(if bat s (iWs s j)=61 then 1 else 2):=by split<;>omega
   omega
 rw[hn]
 split
 rw[if_neg (fun k=>hl k.1)]
 rfl
 rw[if_neg hs]
 simp only[ne_eq,Decidable.not_not]at hs
 obtain⟨h1,h2⟩:=QpK hs
 split
 split
 rename_i h3
 exact Qka (h2 (h3.2.resolve_left h1))
 rfl
 rfl
theorem Qpi {s:Bs} (key val op:Bs) (n:Int) (h1:YI ([]::attrSigns) op=n) (h2:op∈attrSigns) (t:RS) (hb:t.bad=false) (hw:iWs s t.p=t.p) :
 Sim s MT (VK.iAttrE s key op val (decide (bat s t.p=105\/bat s t.p=73)) (iWs s (if bat s t.p=105\/bat s t.p=73 then t.p+1 else t.p))) (Zg s key n val t):=by
 have hm:∀(ign:Bool),MT (.attr key val op ign) (Qj ⟨5,n,key,val,0,0,b2i ign 1,0⟩ []):=fun ign=>
  MT.leaf _ (by simp[Qz,QQ,h1]) (by simp[QQ,h1]) (by simp[Qt])
 unfold Zg
 by_cases hc:bat s t.p=105\/bat s t.p=73
 rw[if_pos hc,if_pos ⟨hb,hc⟩,decide_eq_true hc]
 rcases Yy s (t.go (t.p+1)) with h | ⟨_,e⟩ | ⟨h,_⟩
 exact .un (JQ _ _ _ _ _ h)
 rw[e]
 unfold VK.iAttrE
 by_cases h93:bat s (iWs s (t.p+1))=93
 rw[if_pos ⟨Yw (by omega),h93,h2⟩,Qcz _ _ ((t.go (t.p+1)).go (iWs s (t.go (t.p+1)).p)) h93]
 exact .ok _ rfl hb (hm true)
 rw[if_neg (fun k=>h93 k.2.1),QcB _ _ ((t.go (t.p+1)).go (iWs s (t.go (t.p+1)).p)) h93]
 exact .bad rfl rfl
 rw[QcX,hb]at h;cases h
 rw[if_neg hc,if_neg (fun k=>hc k.2),decide_eq_false hc,hw]
 unfold VK.iAttrE
 by_cases h93:bat s t.p=93
 rw[if_pos ⟨Yw (by omega),h93,h2⟩,Qcz _ _ (t.unI _) h93]
 exact .ok _ rfl hb (hm false)
 rw[if_neg (fun k=>h93 k.2.1),QcB _ _ (t.unI _) h93]
 exact .bad rfl rfl
theorem Ql7 {s key val:Bs} {n:Int} {t:RS} (h:QaM s t):(Zg s key n val t).2.bad=true:=by
 unfold Zg
 split
 rename_i h1
 rcases h with h | h
 rw[h]at h1;cases h1.1
 omega
 exact Qdh (by decide) h
theorem Qpj {s key val:Bs} {n:Int} {t:RS} (h:s.length<=t.p):(Zg s key n val t).2.bad=true:=by
 have h0:=bat_out h
 unfold Zg
 rw[if_neg (fun k=>by rw[h0]at k;omega)]
 rw[QcB _ _ (t.unI _) (by show bat s t.p≠93;omega)]
 rfl
theorem Qps {s:Bs} {i:Nat} {r:Bs} {j:Nat} (h:(if bat s i=39\/bat s i=34 then Jb s i else QC s i)=some (r,j)):i<j/\j<=s.length:=by
 split at h
 have:=Qm8 h;omega
 exact iIdent_lt h
theorem Qph {s:Bs} (hr:RD s) (key op:Bs) (n:Int) (k3:YI ([]::attrSigns) op=n) (k4:op∈attrSigns) (u:RS) (hb:u.bad=false) :
 Sim s MT (VK.iAttrV s key op u.p) (Zg s key n (Qs s u).1 (sSp s (Qs s u).2)):=by
 have hv:=Qgo hr u hb
 generalize Qs s u=w at hv ⊢
 unfold VK.iAttrV
 rcases hv with h | ⟨v,h1,h2,h3⟩ | ⟨h1,h2⟩
 exact .un (Qbl _ _ _ _ _ (Vz _ _ h))
 have hl:=Qps h1
 rw[if_pos (by omega),h1]
 dsimp only
 rcases Yy s w.2 with h | ⟨_,e⟩ | ⟨h,_⟩
 exact .un (Qbl _ _ _ _ _ h)
 rw[e]
 split
 rw[h3]
 exact Qpi key w.1 op n k3 k4 (w.2.go (iWs s w.2.p)) h2 (iWs_fix s _)
 rename_i h5
 exact .bad rfl (Qpj (by simp only[Vb];omega))
 rw[h2]at h;cases h
 refine .bad ?_ (by rw[QaS h2];exact Ql7 h2)
 split
 rw[h1]
 rfl
theorem Qpg {s:Bs} (hr:RD s) (key:Bs) (t:RS) (hb:t.bad=false) (hs:(V8 s t.p).1≠1) :
 Sim s MT (VK.iAttrV s key (if bat s t.p=61 then [61] else [s.getD t.p 0,s.getD (t.p+1) 0]) (iWs s (t.p+(V8 s t.p).2))) (Y7 s key t):=by
 obtain⟨_,_,k3,k4⟩:=Qmw hs
 unfold Y7
 rw[if_neg hs]
 rcases Yy s (t.go (t.p+(V8 s t.p).2)) with h | ⟨_,e⟩ | ⟨h,_⟩
 exact .un (Qbl _ _ _ _ _ (Vz _ _ (Qbj _ _ h)))
 rw[e]
 exact Qph hr key _ _ k3 k4 ((t.go (t.p+(V8 s t.p).2)).go (iWs s (t.p+(V8 s t.p).2))) hb
 rw[QcX,hb]at h;cases h
def Qc8 (s:Bs) (key:Bs) (t2:RS):List SelD×RS:=
 if t2.bad=true then (failL,t2.no)
 else if bat s t2.p=93 then (Qj ⟨5,1,key,[],0,0,0,0⟩ [],t2.go (t2.p+1))
 else Y7 s key t2
theorem Qsh (s:Bs) (t:RS):ZO s t=Qc8 s (low (Qi s (sSp s t)).1) (sSp s (Qi s (sSp s t)).2):=rfl
theorem Qpk {s key:Bs} {t:RS} (hb:t.bad=false) (h:bat s t.p=93):Qc8 s key t=(Qj ⟨5,1,key,[],0,0,0,0⟩ [],t.go (t.p+1)):=by
 unfold Qc8;rw[if_neg (by rw[hb];exact zo),if_pos h]
theorem Qsg {s key:Bs} {t:RS} (hb:t.bad=false) (h:¬bat s t.p=93):Qc8 s key t=Y7 s key t:=by
 unfold Qc8;rw[if_neg (by rw[hb];exact zo),if_neg h]
theorem Qf2 {s key:Bs} {t:RS} (h:t.un=true):(Qc8 s key t).2.un=true:=by
 unfold Qc8
 split
 exact h
 split
 exact h
 exact QgC _ _ _ h
theorem Ql8 {s key:Bs} {t:RS} (h:QaM s t):(Qc8 s key t).2.bad=true:=by
 unfold Qc8
 rcases h with h | h
 rw[if_pos h];rfl
 split
 rfl
 rw[if_neg (by omega)]
 unfold Y7
 rw[if_pos (by simp[V8,h])]
 rfl
theorem Qse {s:Bs} (hr:RD s) (t:RS) (hb:t.bad=false) (i:Nat) (hi:t.p=i+1):Sim s MT (VK s i) (ZO s t):=by
 rw[Qrh,Qsh]
 unfold QlO
 rcases Yy s t with h | ⟨_,e⟩ | ⟨h,_⟩
 exact .un (Qf2 (Vz _ _ (ZT _ _ h)))
 rw[e,hi]
 have hn:=Jv hr (t.go (iWs s (i+1))) hb
 simp only[Vb]at hn
 generalize Qi s (t.go (iWs s (i+1)))=w at hn ⊢
 rcases hn with h | ⟨key,h1,h2,h3⟩ | ⟨h1,h2⟩
 exact .un (Qf2 (Vz _ _ h))
 rw[h1]
 dsimp only
 rcases Yy s w.2 with h | ⟨_,e⟩ | ⟨h,_⟩
 exact .un (Qf2 h)
 rw[e,h3]
 by_cases h93:bat s (iWs s w.2.p)=93
 rw[if_pos h93,Qpk (t:=w.2.go (iWs s w.2.p)) h2 h93]
 exact .ok _ rfl h2 (MT.leaf _ (by simp[Qz,QQ,YI,b2i]) (by simp[QQ,YI,b2i]) (by simp[Qt]))
 rw[if_neg h93,Qsg (t:=w.2.go (iWs s w.2.p)) h2 h93]
 by_cases hs:(V8 s (iWs s w.2.p)).1≠1
 rw[if_pos hs]
 exact Qpg hr (low w.1) (w.2.go (iWs s w.2.p)) h2 hs
 rw[if_neg hs]
 simp only[ne_eq,Decidable.not_not]at hs
 unfold Y7
 rw[if_pos (show (V8 s (w.2.go (iWs s w.2.p)).p).1=1 from hs)]
 exact .bad rfl rfl
 rw[h2]at h;cases h
 rw[h1]
 exact .bad rfl (by rw[QaS h2];exact Ql8 h2)
 rw[hb]at h;cases h
theorem Qnq (l:Bs):∀n:Nat,n<=l.foldl (fun n c=>10*n+(c.toNat-48)) n:=by
 induction l with
 | nil=>intro n;exact zj _
 | cons c l ih=>intro n;have:=ih (10*n+(c.toNat-48));simp only[z8];omega
theorem QrL (l:Bs) (n:Nat):min (l.foldl (fun n c=>10*n+(c.toNat-48)) (min n 100000)) 100000=min (l.foldl (fun n c=>10*n+(c.toNat-48)) n) 100000:=by
 by_cases h:n<=100000
 rw[Nat.min_eq_left h]
 have h1:=Qnq l 100000
 have h2:=Qnq l n
 rw[Nat.min_eq_right (by omega:100000<=n)]
 omega
theorem Qhh (s:Bs) (i:Nat):i<=QM s i:=by
 fun_induction QM s i with
 | case1 i h ih=>omega
 | case2=>omega
theorem Qo0 (s:Bs) (i:Nat) (h:i<=s.length):QM s i<=s.length:=by
 fun_induction QM s i with
 | case1 i h ih=>exact ih (by omega)
 | case2=>omega
theorem QoZ (s:Bs) (t:RS) (n:Nat) (b:Bool) (hn:n<=100000) :
 (Vr s t n b).1=min (((s.take (QM s t.p)).drop t.p).foldl (fun n c=>10*n+(c.toNat-48)) n) 100000 /\
 (Vr s t n b).2.1=(b||decide (QM s t.p≠t.p))/\(Vr s t n b).2.2=(t.go (QM s t.p)).unI (decide ((Vr s t n b).1=100000)):=by
 fun_induction Vr s t n b with
 | case1 t n b h1 ih=>
  have e:QM s t.p=QM s (t.p+1):=by rw[QM,if_pos ⟨h1.2,h1.1⟩]
  have hg:=Qhh s (t.p+1)
  obtain⟨h2,h3,h4⟩:=ih (by omega)
  rw[h4,h2,h3,e]
  have e2:(s.take (QM s (t.p+1))).drop t.p=s.getD t.p 0::(s.take (QM s (t.p+1))).drop (t.p+1):=by
   have hk:=Qcp s t.p (QM s (t.p+1)-t.p) (by omega) (by have:=Qo0 s (t.p+1) (by omega);omega)
   rw[show t.p+(QM s (t.p+1)-t.p)=QM s (t.p+1) from by omega]at hk
   exact hk
  rw[e2,z8]
  simp only[Vb]
  refine⟨?_,by simp;omega,?_⟩
  exact QrL _ _
  rfl
 | case2 t n b h1=>
  have e:QM s t.p=t.p:=by rw[QM,if_neg (fun h=>h1 ⟨h.2,h.1⟩)]
  rw[e]
  have e3:(s.take t.p).drop t.p=[]:=by apply List.drop_eq_nil_of_le;simp;omega
  rw[e3]
  refine⟨by simp only[List.foldl_nil];omega,by simp,rfl⟩
theorem Qii (s:Bs) (t:RS):(Vr s t 0 false).2.2.un=true\/((Vr s t 0 false).2.2=t.go (QM s t.p) /\
 ((QM s t.p=t.p/\(Vr s t 0 false).2.1=false/\QcQ s t.p=none) \/
  (t.p<s.length/\Qv (bat s t.p)=true/\(Vr s t 0 false).2.1=true/\QcQ s t.p=some (((Vr s t 0 false).1:Int),QM s t.p)))):=by
 obtain⟨h1,h2,h3⟩:=QoZ s t 0 false (by omega)
 by_cases h:(Vr s t 0 false).1=100000
 left;rw[h3,h];simp
 right
 rw[h3,decide_eq_false h]
 refine⟨by simp,?_⟩
 by_cases e:QM s t.p=t.p
 left
 refine⟨e,by rw[h2];simp[e],by unfold QcQ;rw[if_pos e]⟩
 right
 have hd:t.p<s.length/\Qv (bat s t.p)=true:=by
  by_cases hd:t.p<s.length/\Qv (bat s t.p)=true
  exact hd
  exact absurd (by rw[QM,if_neg hd]) e
 refine⟨hd.1,hd.2,by rw[h2];simp[e],?_⟩
 unfold QcQ YU
 rw[if_neg e]
 have h5:(Vr s t 0 false).1=((s.take (QM s t.p)).drop t.p).foldl (fun n c=>10*n+(c.toNat-48)) 0:=by omega
 rw[<-h5,if_pos (by omega)]
def CSim (s:Bs) (f:Option (Int×Int×Nat)) (g:(Int×Int)×RS):Prop:=
 g.2.un=true\/(f=some (g.1.1,g.1.2,g.2.p)/\g.2.bad=false)\/(f=none/\(QaM s g.2\/s.length<=g.2.p))
theorem QfR (s:Bs) (a:Int) (t:RS) (hb:t.bad=false):CSim s (ZC s a t.p) (ZU s a t):=by
 unfold ZU
 simp only
 rcases Yy s t with h | ⟨_,e⟩ | ⟨h,_⟩
 left
 split
 have h9:=Qew s (sSp s ((sSp s t).go ((sSp s t).p+1))) 0 false (Vz _ _ h)
 simp only
 split<;>exact h9
 simp[h]
 rw[e]
 simp only[Vb]
 unfold ZC
 by_cases hc:bat s (iWs s t.p)=43\/bat s (iWs s t.p)=45
 have hl:iWs s t.p<s.length:=Yw (by omega)
 rw[if_pos hc,if_pos hl]
 rcases Yy s ((t.go (iWs s t.p)).go (iWs s t.p+1)) with h | ⟨_,e2⟩ | ⟨h,_⟩
 left
 have h9:=Qew s _ 0 false h
 simp only
 split<;>exact h9
 rw[e2]
 simp only[Vb]
 have hi:=Qii s (((t.go (iWs s t.p)).go (iWs s t.p+1)).go (iWs s (iWs s t.p+1)))
 simp only[Vb]at hi
 generalize Vr s (((t.go (iWs s t.p)).go (iWs s t.p+1)).go (iWs s (iWs s t.p+1))) 0 false=d at hi ⊢
 rcases hi with h | ⟨h1,⟨h2,h3,h4⟩ | ⟨h2,_,h3,h4⟩⟩
 left;simp only;split<;>exact h
 right;right
 rw[h3,if_neg zo,h4]
 refine⟨?_,.inl (.inl rfl)⟩
 by_cases h43:bat s (iWs s t.p)=43
 rw[if_pos h43];rfl
 rw[if_neg h43,if_pos (by omega)];rfl
 right;left
 rw[h3,if_pos rfl,h4,h1]
 refine⟨?_,hb⟩
 by_cases h43:bat s (iWs s t.p)=43
 rw[if_pos h43,if_neg (by omega)];rfl
 rw[if_neg h43,if_pos (by omega),if_pos (by omega)];rfl
 rw[QcX,QcX,hb]at h;cases h
 rw[if_neg hc]
 right
 by_cases hl:iWs s t.p<s.length
 left
 rw[if_pos hl,if_neg (fun k=>hc (.inl k)),if_neg (fun k=>hc (.inr k))]
 exact⟨rfl,hb⟩
 right
 rw[if_neg hl]
 exact⟨rfl,.inr (by simp only[QbX,Vb];omega)⟩
 rw[hb]at h;cases h
def iA (s:Bs) (sg:Int) (i:Nat):Option (Int×Int×Nat):=
 if i<s.length then
  if Qv (bat s i)=true then (QcQ s i).bind fun p=>J8 s (sg*p.1) p.2
  else if isN (bat s i)=true then ZC s sg (i+1)
  else none
 else none
theorem Qj7 (s:Bs) (i:Nat):Yq s i=iA s 1 i:=by unfold Yq iA;simp
theorem Qrg (s:Bs) (i:Nat):YE s i=iA s (-1) i:=by
 unfold YE iA
 have:∀p:Int,0-p = -1*p:=by intro p;omega
 simp only[this]
theorem Qce (s:Bs) (sg:Int) (t:RS) (hb:t.bad=false):CSim s (iA s sg t.p) (YY s sg t):=by
 have hi:=Qii s t
 unfold YY
 simp only
 generalize Vr s t 0 false=d at hi ⊢
 rcases hi with h | ⟨h1,⟨h2,h3,h4⟩ | ⟨h2,h5,h3,h4⟩⟩
 left
 split
 exact Qb0 _ _ _ h
 split<;>simp[h]
 rw[h3,h1,h2]
 simp only[Vb,Bool.false_eq_true,↓reduceIte]
 have hnd:¬(t.p<s.length/\Qv (bat s t.p)=true):=by
  intro k
  have:=Qhh s (t.p+1)
  rw[QM,if_pos k]at h2
  omega
 unfold iA
 by_cases hN:isN (bat s t.p)=true
 . have hl:t.p<s.length:=by
    apply Yw;intro e;rw[e]at hN;revert hN;decide
   rw[if_pos hl,if_neg (fun k=>hnd ⟨hl,k⟩),if_pos hN,if_pos hN]
   exact QfR s sg ((t.go t.p).go (t.p+1)) hb
 right;right
 rw[if_neg hN,if_neg hN]
 refine⟨?_,.inl (.inl rfl)⟩
 split
 rename_i hl
 rw[if_neg (fun k=>hnd ⟨hl,k⟩)]
 rfl
 rw[h3,h1]
 simp only[Vb,↓reduceIte]
 unfold iA
 rw[if_pos h2,if_pos h5,h4]
 simp only[zU]
 unfold J8
 by_cases hN:isN (bat s (QM s t.p))=true
 . have hl:QM s t.p<s.length:=by
    apply Yw;intro e;rw[e]at hN;revert hN;decide
   rw[if_pos hN,if_pos hl,if_pos hN]
   exact QfR s _ ((t.go (QM s t.p)).go (QM s t.p+1)) hb
 rw[if_neg hN,if_neg hN]
 right
 by_cases hl:QM s t.p<s.length
 left;rw[if_pos hl];exact⟨rfl,hb⟩
 right;rw[if_neg hl];exact⟨rfl,.inr (by simp only[QbX,Vb];omega)⟩
theorem Qpd {s:Bs} {i k m:Nat} (h:i+k<=s.length) (hm:m<k):((s.take (i+k)).drop i).getD m 0=s.getD (i+m) 0:=by
 simp only[za,List.getElem?_drop,List.getElem?_take]
 rw[if_pos (by omega)]
theorem QqQ (l:Bs) (m:Nat) (h:m<l.length):(low l).getD m 0=QbE (l.getD m 0):=by
 unfold low
 simp[za,ze h]
theorem Qlx {c d:UInt8} (h:QbE c=d) (h1:97<=d.toNat) (h2:d.toNat<=122):c.toNat=d.toNat\/c.toNat+32=d.toNat:=by
 unfold QbE at h
 split at h
 right;rw[<-h,xj];simp;omega
 left;rw[h]
theorem Qgl {s w:Bs} {i:Nat} (hw:∀m,m<w.length->97<=(w.getD m 0).toNat/\(w.getD m 0).toNat<=122) (h0:0<w.length) (h:ZS s w i=true) :
 ∃v,Ya s i=some (v,i+w.length)/\low v=w/\i+w.length<=s.length/\(bat s i=(w.getD 0 0).toNat\/bat s i+32=(w.getD 0 0).toNat):=by
 simp only[ZS,zh,decide_eq_true_eq,zO,zV,zz,decide_eq_false_iff_not]at h
 obtain⟨⟨h1,h2⟩,h3⟩:=h
 have hb:∀m,m<w.length->(bat s (i+m)=(w.getD m 0).toNat\/bat s (i+m)+32=(w.getD m 0).toNat):=by
  intro m hm
  have e:QbE (s.getD (i+m) 0)=w.getD m 0:=by
   rw[<-Qpd h1 hm,<-QqQ _ _ (by simp;omega),h2]
  exact Qlx e (hw m hm).1 (hw m hm).2
 have hc:∀m,i<=m->m<i+w.length->Qq (bat s m)=true:=by
  intro m k1 k2
  have:=hb (m-i) (by omega)
  rw[show i+(m-i)=m from by omega]at this
  have h5:=hw (m-i) (by omega)
  simp only[Qq,QI,zu,zh,decide_eq_true_eq]
  omega
 refine⟨_,?_,h2,h1,hb 0 h0⟩
 rw[J9 (by omega) (.inl (hc i (by omega) (by omega))),nameGo_run s i [] w.length h1 hc,zW,nameGo_stop]
 by_cases hl:i+w.length<s.length
 have:=h3 hl;exact .inr this
 exact .inl hl
theorem QtM {s:Bs} {i:Nat} {v:Bs} {j:Nat} (he:Y8 s i=some (v,j)):v≠[]:=by
 unfold Y8 at he
 split at he
 cases he
 split at he
 cases he
 split at he<;>(simp only[Option.some.injEq,Prod.mk.injEq]at he;rw[<-he.1])
 exact utf8_ne _
 simp
theorem QgT {s w:Bs} {j:Nat}:∀(k i:Nat) (acc:Bs),(∀m,m<k->bat s (i+m)≠92)->Vc s i acc=some (w,j)->w.length=acc.length+k ->
 w=acc++(s.take (i+k)).drop i/\(k=0\/i+k<=s.length)/\(¬i+k<s.length\/(Qq (bat s (i+k))=false/\bat s (i+k)≠92))
 | 0,i,acc,h1,h2,h3=>by
  have hst:¬i<s.length\/(Qq (bat s i)=false/\bat s i≠92):=by
   by_cases hl:i<s.length
   right
   constructor
   cases hc:Qq (bat s i)
   rfl
   rw[Zh hl hc]at h2;have:=Qan h2;simp at this;omega
   intro hc
   cases he:Y8 s i with
   | none=>rw[nameGo_none hl hc he]at h2;cases h2
   | some p=>
    obtain⟨v,k⟩:=p
    rw[nameGo_esc hl hc he]at h2
    have h5:=Qan h2
    have h6:=zw.2 (QtM he)
    simp only[zf]at h5
    omega
   exact .inl hl
  rw[nameGo_stop hst]at h2
  cases h2
  exact⟨by simp,.inl rfl,hst⟩
 | k+1,i,acc,h1,h2,h3=>by
  by_cases hc:i<s.length/\Qq (bat s i)=true
  rw[Zh hc.1 hc.2]at h2
  obtain⟨e1,e2,e3⟩:=QgT k (i+1) (acc++[s.getD i 0]) (fun m hm=>by have:=h1 (m+1) (by omega);rwa [show i+(m+1)=i+1+m from by omega]at this) h2 (by simp;omega)
  rw[show i+1+k=i+(k+1) from by omega]at e1 e2 e3
  refine⟨?_,.inr (by omega),e3⟩
  rw[e1,zq,<-Qcp s i (k+1) (by omega) (by omega)]
  have hst:¬i<s.length\/(Qq (bat s i)=false/\bat s i≠92):=by
   by_cases hl:i<s.length
   exact .inr ⟨by simpa using fun k=>hc ⟨hl,k⟩,h1 0 (by omega)⟩
   exact .inl hl
  rw[nameGo_stop hst]at h2
  cases h2
  omega
theorem Qmn {s w W:Bs} {i j:Nat} (hW:W.length<=4) (hW0:0<W.length) (hb:Qbc s i=false) (h:Vc s i []=some (w,j)) (hl:low w=W):ZS s W i=true:=by
 simp only[Qbc,zz,decide_eq_false_iff_not]at hb
 have hlen:w.length=W.length:=by rw[<-hl];simp[low]
 obtain⟨e1,e2,e3⟩:=QgT W.length i [] (fun m hm=>by
  rcases (by omega:m=0\/m=1\/m=2\/m=3) with e | e | e | e<;>subst e
  exact hb.1.1.1
  exact hb.1.1.2
  exact hb.1.2
  exact hb.2) h (by simp[hlen])
 rw[zW]at e1
 simp only[ZS,zh,decide_eq_true_eq,zO,zV,zz,decide_eq_false_iff_not]
 refine⟨⟨by omega,by rw[<-e1,hl]⟩,fun k=>?_⟩
 exact e3.resolve_left (fun q=>q k)
theorem iNth_oe {s:Bs} {i:Nat} (h:Jy (bat s i)=true):Ym s i=match Ya s i with
      | none=>none
      | some (w,j)=>if low w=[111,100,100] then some (2,1,j) else if low w=[101,118,101,110] then some (2,0,j) else none:=by
 have hc:bat s i=111\/bat s i=79\/bat s i=101\/bat s i=69:=by simp only[Jy,zu,decide_eq_true_eq]at h;omega
 unfold Ym
 rw[if_pos (Yw (by omega)),if_neg (by omega),if_neg (by omega),if_neg (by simp[Qv];omega),if_neg (by simp[isN];omega),if_pos h]
 rfl
theorem Qo4 {s:Bs} (t:RS) (hb:t.bad=false):CSim s (Ym s t.p) (VM s t):=by
 unfold VM
 by_cases ho:ZS s [111,100,100] t.p=true
 rw[if_pos ho]
 obtain⟨v,h1,h2,_,h3⟩:=Qgl (by decide) (by decide) ho
 right;left
 rw[iNth_oe (by rcases h3 with h3 | h3<;>simp[Jy]at h3 ⊢ <;> omega),h1]
 simp only[h2,↓reduceIte]
 exact⟨rfl,hb⟩
 rw[if_neg ho]
 by_cases he:ZS s [101,118,101,110] t.p=true
 rw[if_pos he]
 obtain⟨v,h1,h2,_,h3⟩:=Qgl (by decide) (by decide) he
 right;left
 rw[iNth_oe (by rcases h3 with h3 | h3<;>simp[Jy]at h3 ⊢ <;> omega),h1]
 simp only[h2]
 exact⟨rfl,hb⟩
 rw[if_neg he]
 by_cases h45:bat s t.p=45
 rw[if_pos h45]
 unfold Ym
 rw[if_pos (Yw (by omega)),if_pos h45,Qrg]
 exact Qce s (-1) (t.go (t.p+1)) hb
 rw[if_neg h45]
 by_cases h43:bat s t.p=43
 rw[if_pos h43]
 unfold Ym
 rw[if_pos (Yw (by omega)),if_neg h45,if_pos h43,Qj7]
 exact Qce s 1 (t.go (t.p+1)) hb
 rw[if_neg h43]
 by_cases hoe:Jy (bat s t.p)=true
 have hc:bat s t.p=111\/bat s t.p=79\/bat s t.p=101\/bat s t.p=69:=by simp only[Jy,zu,decide_eq_true_eq]at hoe;omega
 have hd:QM s t.p=t.p:=by rw[QM,if_neg (by simp[Qv];omega)]
 rcases Qii s t with h | ⟨h1,⟨h2,h3,h4⟩ | ⟨h2,h5,h3,h4⟩⟩
 left
 unfold YY
 simp only
 split
 exact Qb0 _ _ _ h
 split<;>simp[h]
 unfold YY
 simp only
 rw[h1,h3,hd]
 simp only[Vb]
 rw[if_neg (by simp[isN];omega)]
 cases hbs:Qbc s t.p
 right;right
 refine⟨?_,.inl (.inl rfl)⟩
 rw[iNth_oe hoe,J9 (Yw (by omega)) (.inl (by simp[Qq,QI];omega))]
 split
 rfl
 rename_i w j hw
 rw[if_neg (fun k=>ho (Qmn (by decide) (by decide) hbs hw k)),if_neg (fun k=>he (Qmn (by decide) (by decide) hbs hw k))]
 left;simp
 exfalso
 simp only[Qv,zh,decide_eq_true_eq]at h5
 omega
 have e:Ym s t.p=iA s 1 t.p:=by
  unfold Ym iA
  rw[if_neg h45,if_neg h43,if_neg hoe]
  split
  split
  rw[Qj7];unfold iA;rename_i h1 h2;rw[if_pos h1,if_pos h2]
  rfl
  rfl
 rw[e]
 exact Qce s 1 t hb
section
variable {s:Bs}
theorem QdF {c:CSel} {x:SelD} {kids:List SelD} (hm:MT c (Qj x kids)) (w u:RS) (hb:w.bad=false) (h1:(sSp s w).un=true->u.un=true) (h2:u.p=(sSp s w).p) (h3:u.bad=(sSp s w).bad) :
 Sim s MT ((QP s w.p).map fun e=>(c,e)) (if u.bad=true then (failL,u.no) else Ji s 41 x kids u):=by
 rcases Yy s w with h | ⟨_,e⟩ | ⟨h,_⟩
 refine .un ?_
 split
 exact h1 h
 exact JQ _ _ _ _ _ (h1 h)
 rw[e]at h2 h3
 simp only[Vb,QcX]at h2 h3
 rw[if_neg (by rw[h3,hb];exact zo)]
 unfold QP
 by_cases h41:bat s (iWs s w.p)=41
 rw[Qcz _ _ u (by rw[h2];exact h41),if_pos ⟨Yw (by omega),h41⟩]
 exact .ok c (by simp[h2]) (by simp[h3,hb]) hm
 rw[QcB _ _ u (by rw[h2];exact h41),if_neg (fun k=>h41 k.2)]
 exact .bad rfl rfl
 rw[hb]at h;cases h
theorem Qcg {x:SelD} {kids:List SelD} (w u:RS) (hd:QaM s w\/s.length<=w.p) (h2:u.p=(sSp s w).p) (h3:u.bad=(sSp s w).bad) :
 (if u.bad=true then (failL,u.no) else Ji s 41 x kids u).2.bad=true:=by
 have e:sSp s w=w:=by
  rcases hd with hd | hd
  exact QaS hd
  rw[sSp,if_neg (fun k=>by omega)]
 rw[e]at h2 h3
 split
 rfl
 rename_i hn
 rcases hd with hd | hd
 refine Qdh (by decide) ?_
 rcases hd with hd | hd
 rw[h3,hd]at hn;exact absurd rfl hn
 exact .inr (by rw[h2];exact hd)
 unfold Ji
 rw[if_neg (by rw[h2,bat_out hd];decide)]
 rfl
theorem JE {x:SelD} {kids:List SelD} {u:RS} (h:u.un=true):(if u.bad=true then (failL,u.no) else Ji s 41 x kids u).2.un=true:=by
 split
 exact h
 exact JQ _ _ _ _ _ h
theorem QcN {j:Nat} (h:bat s j=40):Vs s j=some (iWs s (j+1)):=by
 unfold Vs;rw[if_pos ⟨Yw (by omega),h⟩]
variable (hr:RD s) (t:RS) (hb:t.bad=false) (j:Nat) (hj:t.p=j+1) (h40:bat s j=40) {G:RS->List SelD×RS}
include hr hb hj h40
theorem Qsm (last ofType:Bool) (kind flag:Int) (hf:flag=b2i last 1+b2i ofType 2):Sim s MT (Zd s last ofType j) (V2 G s kind flag t):=by
 have _:=hr
 have h0:0<=flag:=by rw[hf];cases last<;>cases ofType<;>simp[b2i]
 unfold V2 Zd
 simp only
 rw[if_pos h0,QcN h40]
 simp only
 rcases Yy s t with h | ⟨_,e⟩ | ⟨h,_⟩
 exact .un (JE (Vz _ _ (QgA _ _ h)))
 rw[e,hj]
 have hc:=Qo4 (s:=s) (t.go (iWs s (j+1))) hb
 simp only[Vb]at hc
 generalize VM s (t.go (iWs s (j+1)))=w at hc ⊢
 rcases hc with h | ⟨h1,h2⟩ | ⟨h1,h2⟩
 exact .un (JE (Vz _ _ h))
 rw[h1]
 simp only
 refine QdF ?_ w.2 (sSp s w.2) h2 (fun h=>h) rfl rfl
 exact MT.leaf _ (by simp[Qz,QQ,hf]) (by simp[QQ,hf]) (by simp[Qt])
 rw[h1]
 exact .bad rfl (Qcg w.2 (sSp s w.2) h2 rfl rfl)
 rw[hb]at h;cases h
theorem Qsn (flag:Int) (hf:flag<0):Sim s MT (Zv s j) (V2 G s 15 flag t):=by
 unfold V2 Zv
 simp only
 rw[if_neg (by omega),if_neg (by decide),if_pos trivial,QcN h40]
 simp only
 rcases Yy s t with h | ⟨_,e⟩ | ⟨h,_⟩
 refine .un (JE ?_)
 simp[Vz s ((Qi s ((sSp s t).unI (isQ (bat s (sSp s t).p)||decide (bat s (sSp s t).p=42)))).2.unI (hiB (Qi s ((sSp s t).unI (isQ (bat s (sSp s t).p)||decide (bat s (sSp s t).p=42)))).1)) (by simp[ZT s ((sSp s t).unI (isQ (bat s (sSp s t).p)||decide (bat s (sSp s t).p=42))) (by simp[h])])]
 rw[e,hj]
 simp only[Vb]
 have hn:=Jv hr ((t.go (iWs s (j+1))).unI (isQ (bat s (iWs s (j+1)))||decide (bat s (iWs s (j+1))=42))) hb
 simp only[Vb,QbX]at hn
 generalize Qi s ((t.go (iWs s (j+1))).unI (isQ (bat s (iWs s (j+1)))||decide (bat s (iWs s (j+1))=42)))=w at hn ⊢
 rcases hn with h | ⟨v,h1,h2,h3⟩ | ⟨h1,h2⟩
 refine .un (JE ?_)
 simp[Vz s (w.2.unI (hiB w.1)) (by simp[h])]
 have hl:=iIdent_lt h1
 rw[if_pos (by omega),h1]
 simp only
 rw[h3]
 refine QdF (MT.leaf _ (by simp[Qz,QQ]) (by simp[QQ]) (by simp[Qt])) (w.2.unI (hiB w.1)) _ h2 (fun h=>by simp[h]) rfl rfl
 refine .bad ?_ (Qcg (w.2.unI (hiB w.1)) _ (.inl h2) rfl rfl)
 split
 rw[h1]
 rfl
 rw[hb]at h;cases h
theorem Qsj (own:Bool) (flag:Int) (hf:flag<0):Sim s MT (Zc s own j) (V2 G s (16+b2i own 1) flag t):=by
 unfold V2 Zc
 simp only
 rw[if_neg (by omega),if_neg (by cases own<;>decide),if_neg (by cases own<;>decide),QcN h40]
 simp only
 rcases Yy s t with h | ⟨_,e⟩ | ⟨h,_⟩
 exact .un (JE (Vz s _ (by simp[Qbj s _ h])))
 rw[e,hj]
 have hn:=Qgo hr (t.go (iWs s (j+1))) hb
 simp only[Vb]at hn
 generalize Qs s (t.go (iWs s (j+1)))=w at hn ⊢
 rcases hn with h | ⟨v,h1,h2,h3⟩ | ⟨h1,h2⟩
 exact .un (JE (Vz s _ (by simp[h])))
 have hl:=Qps h1
 rw[if_pos (by omega),h1]
 simp only
 rw[h3]
 refine QdF (MT.leaf _ (by simp[Qz,QQ]) (by simp[QQ]) (by simp[Qt])) (w.2.unI (hiB w.1)) _ h2 (fun h=>h) rfl rfl
 refine .bad ?_ (Qcg (w.2.unI (hiB w.1)) _ (.inl h2) rfl rfl)
 split
 rw[h1]
 rfl
 rw[hb]at h;cases h
end
def GS (s:Bs) (lo:Nat) (Gi:Nat->Option (List CSel×Nat)) (G:RS->List SelD×RS):Prop:=
 ∀t,lo<=t.p->t.bad=false->Sim s (fun xs l=>∃b,l=Qj Vj b/\MTs xs b) (Gi t.p) (G t)/\(∀xs m,Gi t.p=some (xs,m)->iWs s m=m)
def GU (G:RS->List SelD×RS):Prop:=∀t,t.un=true->(G t).2.un=true
theorem Qsp {s:Bs} (hr:RD s) (t:RS) (hb:t.bad=false) (j:Nat) (hj:t.p=j+1) (h40:bat s j=40) {Gi:Nat->Option (List CSel×Nat)} {G:RS->List SelD×RS} {lo:Nat} (hG:GS s lo Gi G) (hU:GU G) (hlo:lo<=j+1)
 (n:Bs) (kind flag:Int) (hk:17+YI [Zy,Zz,nHasChild] n=kind) (hk2:18<=kind) (hf:flag<0):Sim s MT (Zw Gi s n j) (V2 G s kind flag t):=by
 unfold V2 Zw
 simp only
 rw[if_neg (by omega),if_pos hk2,QcN h40]
 simp only
 rcases Yy s t with h | ⟨_,e⟩ | ⟨h,_⟩
 exact .un (JE (hU _ (by simp[h])))
 rw[e,hj]
 simp only[Vb]
 generalize (decide (bat s (iWs s (j+1))=62)||decide (bat s (iWs s (j+1))=43)||decide (bat s (iWs s (j+1))=126))=b
 obtain⟨hs,hw⟩:=hG ((t.go (iWs s (j+1))).unI b) (by simp only[QbX,Vb];have:=Q4 s (j+1);omega) hb
 simp only[Vb,QbX]at hs hw
 generalize G ((t.go (iWs s (j+1))).unI b)=w at hs ⊢
 rcases hs with h | ⟨xs,h1,h2,l,h3,h4⟩ | ⟨h1,h2⟩
 exact .un (JE h)
 rw[h1]
 simp only
 have hw:=hw _ _ h1
 rw[if_neg (by rw[h2];exact zo),h3]
 unfold QP
 rw[hw]
 by_cases h41:bat s w.2.p=41
 rw[Qcz _ _ w.2 h41,if_pos ⟨Yw (by omega),h41⟩]
 exact .ok _ rfl h2 (MT.rel h4 hk)
 rw[QcB _ _ w.2 h41,if_neg (fun k=>h41 k.2)]
 exact .bad rfl rfl
 rw[h1]
 refine .bad rfl ?_
 split
 rfl
 exact Qdh (by decide) h2
 rw[hb]at h;cases h
end Law
end
end Go.Proofs.YtengepcafdnalaaGreatDoor
