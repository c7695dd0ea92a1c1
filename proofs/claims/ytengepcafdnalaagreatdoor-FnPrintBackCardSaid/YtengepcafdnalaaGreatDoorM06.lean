/-
  Parts of the proof that the law FnPrintBack holds for every input (texts Ph, Ea). Conditions: none.
-/
import Derived.Test.YtengepcafdnalaaGreatDoorM05
import Derived.Test.YtengepcafdnalaaGreatDoorProg
import Derived.WalkKit
import Derived.KernelRfl
namespace Go.Proofs.YtengepcafdnalaaGreatDoor
open _root_.Bool renaming false_ne_true → zq, and_eq_true → zk
open _root_.List renaming getD_eq_getElem?_getD → zd, length_cons → zj, getElem?_cons_zero → zB, take_of_length_le → zS
open _root_.Nat renaming le_refl → zm, lt_of_lt_of_le → zL
section
namespace Law
section
variable {s:Bs} {Gi:Nat->Option (List CSel×Nat)} {G:RS->List SelD×RS} {lo:Nat}
theorem QcR {ps:Bool} {i:Nat} {xs:List CSel} {pe:Bs}:∀{x:CSel} {m:Nat},QS Gi s ps i xs pe=some (x,m)->i<=m/\(i<s.length->Qv (bat s i)=true->i<m):=by
 fun_induction QS Gi s ps i xs pe with
 | case1 i xs pe h1 h2=>intro x m h;cases h
 | case2 i xs h1 n j h2 h3 pe h4 ih=>intro x m h;have:=ih h;omega
 | case3 i xs pe h1 n j h2 h3 h4=>intro x m h;cases h
 | case4 i xs h1 n j h2 x' h3 ih=>intro x m h;have:=ih h;omega
 | case5 i xs pe h1 n j h2 x' h3 h4=>intro x m h;cases h
 | case6 i xs pe h1 x' n j h2 h3=>intro x m h;cases h
 | case7 i xs pe h1=>intro x m h;cases h;exact⟨zm _,fun a b=>absurd ⟨a,b⟩ h1⟩
theorem QhQ {ps:Bool} {i:Nat} {x:CSel} {m:Nat} (h:V8 Gi s ps i=some (x,m)):i<m:=by
 unfold V8 at h
 split at h
 rename_i h0
 split at h
 have:=QcR h;split at this<;>omega
 split at h
 rename_i h1;exact (QcR h).2 h0 h1
 split at h
 cases h
 rename_i t j h1
 have:=iIdent_lt h1
 have:=QcR h
 omega
 cases h
theorem QnZ {ps:Bool} {x:CSel} {j:Nat}:∀{y:CSel} {m:Nat},Q6 Gi s ps x j=some (y,m)->j<=m/\iWs s m=m:=by
 fun_induction Q6 Gi s ps x j<;>intro y' m' h
 all_goals first
  | (cases h;done)
  | (cases h;exact⟨QQ s _,iWs_fix s _⟩)
  | (rename_i ih;have:=ih h;exact⟨by omega,this.2⟩)
theorem QdX {ps:Bool} {i:Nat} {y:CSel} {m:Nat} (h:YX Gi s ps i=some (y,m)):i<m/\iWs s m=m:=by
 unfold YX at h
 split at h
 cases h
 rename_i x j h1
 have:=QhQ h1
 have:=QQ s i
 have:=QnZ h
 exact⟨by omega,this.2⟩
theorem QkQ {ps:Bool} {l:List CSel} {j:Nat} (h0:iWs s j=j):∀{r:List CSel} {m:Nat},VM Gi s ps l j=some (r,m)->iWs s m=m:=by
 fun_induction VM Gi s ps l j with
 | case1 l j h1 h2=>intro r m h;cases h
 | case2 l j h1 y m' h2 h3 ih=>intro r m h;exact ih (QdX h2).2 h
 | case3 l j h1 y m' h2 h3=>intro r m h;cases h
 | case4 l j h1=>intro r m h;cases h;exact h0
theorem Qqs {ps:Bool} {i:Nat} (h:s.length<=i):V8 Gi s ps i=none:=by
 unfold V8;rw[if_neg (by omega)]
theorem Qqt {ps:Bool} {i:Nat} (h:s.length<=i):YX Gi s ps i=none:=by
 unfold YX;rw[Qqs (by have:=QQ s i;omega)]
theorem QbB {ps pseudo:Bool} {t:RS} {left:List SelD} (h:U9 s t):U9 s (VU G s ps pseudo t left).2:=by
 rw[VU]
 cases hb:t.bad
 rw[if_neg zq]
 have h92:bat s t.p=92:=by rcases h with h | h;rw[hb]at h;cases h;exact h
 simp only[Qad h]
 rw[if_pos ⟨by rw[h92];decide,by omega⟩]
 exact h
 rw[if_pos rfl];exact h
theorem QpU {c:UInt8} (n:Nat) (h:bat s n=c.toNat):s.getD n 0=c:=UInt8.toNat_inj.1 h
theorem QmQ {n:Nat} (h:Va (bat s n)≠0):Vf (bat s n)=true/\Yw [[32],[62],[43],[126]] (YM (s.getD n 0).toNat)=Va (bat s n):=by
 by_cases h1:bat s n=62
 rw[QpU (c:=62) n h1,h1];decide
 by_cases h2:bat s n=43
 rw[QpU (c:=43) n h2,h2];decide
 by_cases h3:bat s n=126
 rw[QpU (c:=126) n h3,h3];decide
 unfold Va at h;rw[if_neg h1,if_neg h2,if_neg h3]at h;exact absurd rfl h
theorem Qh6 {c:Nat} (h:Va c=0):Vf c=false:=by
 unfold Va at h
 split at h
 simp at h
 split at h
 simp at h
 split at h
 simp at h
 simp[Vf];omega
theorem Qi2:Yw [[32],[62],[43],[126]] (YM (32:UInt8).toNat)=1:=by decide
theorem Qcr (hr:RD s) (hG:GS s lo Gi G) (hU:GU G) (ps pseudo:Bool) (hps:pseudo=true->ps=true) (u:RS) (hb:u.bad=false) (hlo:lo<=u.p+1)
 {x:CSel} {left:List SelD} (hx:MT x left) (cc:UInt8) (op:Int) (ho:Yw [[32],[62],[43],[126]] (YM cc.toNat)=op) (j:Nat) (hj:j<=u.p)
 (K:List SelD×RS) (hun:(VB G s ps pseudo u).2.un=true->K.2.un=true) (hd:U9 s (VB G s ps pseudo u).2->U9 s K.2)
 (hok:∀y,V8 Gi s ps u.p=some (y,(VB G s ps pseudo u).2.p)->u.p<(VB G s ps pseudo u).2.p->(VB G s ps pseudo u).2.bad=false->MT (.combined x cc y) (Qi ⟨22,op,[],[],0,0,0,0⟩ (left++(VB G s ps pseudo u).1)) ->
  Sim s MT (Q6 Gi s ps (.combined x cc y) (VB G s ps pseudo u).2.p) K) :
 Sim s MT (match V8 Gi s ps u.p with
  | none=>none
  | some (y,m)=>if j<m then Q6 Gi s ps (.combined x cc y) m else none) K:=by
 rcases QmS hr hG hU ps pseudo hps u hb hlo with h | ⟨y,h1,h2,h3⟩ | ⟨h1,h2⟩
 exact .un (hun h)
 have hl:=QhQ h1
 rw[h1]
 simp only
 rw[if_pos (by omega)]
 exact hok y h1 hl h2 (MT.comb hx h3 ho)
 rw[h1]
 exact .no rfl (hd h2)
theorem Qof (hr:RD s) (hG:GS s lo Gi G) (hU:GU G) (ps pseudo:Bool) (hps:pseudo=true->ps=true) (t:RS) (left:List SelD) :
 ∀x:CSel,t.bad=false->lo<=t.p+1->MT x left->Sim s MT (Q6 Gi s ps x t.p) (VU G s ps pseudo t left):=by
 fun_induction VU G s ps pseudo t left with
 | case1 t left h1=>intro x hb;rw[hb]at h1;cases h1
 | case2 t left h1 t1 c h2=>
  intro x hb hlo hx
  rcases UD s t hb with h | e
  exact .un h
  have e1:t1=t.go (iWs s t.p):=e
  have ec:c=bat s (iWs s t.p):=by show bat s t1.p=_;rw[e1];rfl
  rw[e1]
  rw[e1,ec]at h2
  simp only[Vg]at h2
  refine .ok x ?_ hb hx
  rw[Q6]
  split
  rw[if_neg (by rw[Qh6 h2.1];exact zq),if_pos]
  rfl
  have:=QQ s t.p;omega
  rfl
 | case3 t left h1 t1 c t2 h2 h3=>intro x hb hlo hx;exact .un (by simp)
 | case4 t left h1 t1 c op t2 h2 h3 r h4 ih=>
  intro x hb hlo hx
  rcases UD s t hb with h | e
  refine .un (Z0 hU _ _ _ _ _ (J1 hU _ _ _ _ ?_))
  show (if Va c≠0 then sSp s (t1.go (t1.p+1)) else t1:RS).un=true
  split
  exact Vz _ _ h
  exact h
  have e1:t1=t.go (iWs s t.p):=e
  have ec:c=bat s (iWs s t.p):=by show bat s t1.p=_;rw[e1];rfl
  have hge:=QQ s t.p
  have hlt:iWs s t.p<s.length:=by
   by_cases hc:Va c=0
   rw[e1]at h2
   simp only[Vg]at h2
   exact Nat.lt_of_not_le (fun k=>h2 ⟨hc,.inl k⟩)
   apply Yy
   intro k;rw[ec,k]at hc;exact hc (by decide)
  rw[Q6,if_pos hlt]
  by_cases hc:Va c=0
  have e2:t2=t.go (iWs s t.p):=by show (if Va c≠0 then _ else t1)=_;rw[if_neg (by simpa using hc),e1]
  have eo:op=1:=by show (if Va c≠0 then _ else _)=_;rw[if_neg (by simpa using hc)]
  rw[e1]at h2
  simp only[Vg]at h2
  rw[if_neg (by rw[<-ec,Qh6 hc];exact zq),if_neg (by rw[ec]at h2;intro k;apply h2;refine⟨by rw[<-ec];exact hc,?_⟩;omega)]
  refine Qcr hr hG hU ps pseudo hps (t.go (iWs s t.p)) hb (by simp only[Vg];omega) hx 32 op (by rw[eo];exact Qi2) t.p (by simp only[Vg];omega) _ ?_ ?_ ?_
  rw[<-e2];exact Z0 hU _ _ _ _ _
  rw[<-e2];exact QbB
  rw[<-e2];exact fun y q1 q2 q3 q4=>ih _ q3 (by rw[e2]at q2;simp only[Vg]at q2;rw[<-e2]at q2;omega) q4
  have eo:op=Va c:=by show (if Va c≠0 then _ else _)=_;rw[if_pos (by simpa using hc)]
  have e20:t2=sSp s (t1.go (t1.p+1)):=by show (if Va c≠0 then _ else t1)=_;rw[if_pos (by simpa using hc)]
  rw[e1]at e20
  simp only[Vg]at e20
  have hco:=QmQ (s:=s) (n:=iWs s t.p) (by rw[<-ec];exact hc)
  rw[if_pos hco.1]
  rcases UD s ((t.go (iWs s t.p)).go (iWs s t.p+1)) hb with h | e2
  refine .un (Z0 hU _ _ _ _ _ (J1 hU _ _ _ _ ?_))
  rw[e20];exact h
  rw[e2]at e20
  have hge2:=QQ s (iWs s t.p+1)
  simp only[Vg]at e20
  refine Qcr hr hG hU ps pseudo hps (((t.go (iWs s t.p)).go (iWs s t.p+1)).go (iWs s (iWs s t.p+1))) hb (by simp only[Vg];omega) hx _ op (by rw[eo,ec];exact hco.2) t.p (by simp only[Vg];omega) _ ?_ ?_ ?_
  rw[<-e20];exact Z0 hU _ _ _ _ _
  rw[<-e20];exact QbB
  rw[<-e20];exact fun y q1 q2 q3 q4=>ih _ q3 (by omega) q4
 | case5 t left h1 t1 c op t2 h2 h3 r h4=>
  intro x hb hlo hx
  rcases UD s t hb with h | e
  refine .un (J1 hU _ _ _ _ ?_)
  show (if Va c≠0 then sSp s (t1.go (t1.p+1)) else t1:RS).un=true
  split
  exact Vz _ _ h
  exact h
  have e1:t1=t.go (iWs s t.p):=e
  have ec:c=bat s (iWs s t.p):=by show bat s t1.p=_;rw[e1];rfl
  have hge:=QQ s t.p
  have hlt:iWs s t.p<s.length:=by
   by_cases hc:Va c=0
   rw[e1]at h2
   simp only[Vg]at h2
   exact Nat.lt_of_not_le (fun k=>h2 ⟨hc,.inl k⟩)
   apply Yy
   intro k;rw[ec,k]at hc;exact hc (by decide)
  rw[Q6,if_pos hlt]
  by_cases hc:Va c=0
  have e2:t2=t.go (iWs s t.p):=by show (if Va c≠0 then _ else t1)=_;rw[if_neg (by simpa using hc),e1]
  have eo:op=1:=by show (if Va c≠0 then _ else _)=_;rw[if_neg (by simpa using hc)]
  rw[e1]at h2
  simp only[Vg]at h2
  rw[if_neg (by rw[<-ec,Qh6 hc];exact zq),if_neg (by rw[ec]at h2;intro k;apply h2;refine⟨by rw[<-ec];exact hc,?_⟩;omega)]
  refine Qcr hr hG hU ps pseudo hps (t.go (iWs s t.p)) hb (by simp only[Vg];omega) hx 32 op (by rw[eo];exact Qi2) t.p (by simp only[Vg];omega) _ ?_ ?_ ?_
  rw[<-e2];exact fun h=>h
  rw[<-e2];exact fun h=>h
  rw[<-e2]
  intro y q1 q2 q3 q4
  rw[e2]at q2
  simp only[Vg]at q2
  rw[<-e2]at q2
  have er:r.2.p=(VB G s ps pseudo t2).2.p:=rfl
  exact absurd ⟨(by omega:t.p<r.2.p),(by omega:t.p<s.length)⟩ h4
  have eo:op=Va c:=by show (if Va c≠0 then _ else _)=_;rw[if_pos (by simpa using hc)]
  have e20:t2=sSp s (t1.go (t1.p+1)):=by show (if Va c≠0 then _ else t1)=_;rw[if_pos (by simpa using hc)]
  rw[e1]at e20
  simp only[Vg]at e20
  have hco:=QmQ (s:=s) (n:=iWs s t.p) (by rw[<-ec];exact hc)
  rw[if_pos hco.1]
  rcases UD s ((t.go (iWs s t.p)).go (iWs s t.p+1)) hb with h | e2
  refine .un (J1 hU _ _ _ _ ?_)
  rw[e20];exact h
  rw[e2]at e20
  have hge2:=QQ s (iWs s t.p+1)
  simp only[Vg]at e20
  refine Qcr hr hG hU ps pseudo hps (((t.go (iWs s t.p)).go (iWs s t.p+1)).go (iWs s (iWs s t.p+1))) hb (by simp only[Vg];omega) hx _ op (by rw[eo,ec];exact hco.2) t.p (by simp only[Vg];omega) _ ?_ ?_ ?_
  rw[<-e20];exact fun h=>h
  rw[<-e20];exact fun h=>h
  rw[<-e20]
  intro y q1 q2 q3 q4
  rw[e20]at q2
  simp only[Vg]at q2
  rw[<-e20]at q2
  have er:r.2.p=(VB G s ps pseudo t2).2.p:=rfl
  exact absurd ⟨(by omega:t.p<r.2.p),(by omega:t.p<s.length)⟩ h4
theorem Qd6 (hr:RD s) (hG:GS s lo Gi G) (hU:GU G) (ps pseudo:Bool) (hps:pseudo=true->ps=true) (t:RS) (hb:t.bad=false) (hlo:lo<=t.p+1) :
 Sim s MT (YX Gi s ps t.p) (Yh G s ps pseudo t):=by
 unfold YX Yh
 simp only
 rcases UD s t hb with h | e
 exact .un (Z0 hU _ _ _ _ _ (J1 hU _ _ _ _ h))
 rw[e]
 have hge:=QQ s t.p
 have hc:=QmS hr hG hU ps pseudo hps (t.go (iWs s t.p)) hb (by simp only[Vg];omega)
 simp only[Vg]at hc
 generalize VB G s ps pseudo (t.go (iWs s t.p))=r at hc ⊢
 rcases hc with h | ⟨y,h1,h2,h3⟩ | ⟨h1,h2⟩
 exact .un (Z0 hU _ _ _ _ _ h)
 have hl:=QhQ h1
 rw[h1]
 exact Qof hr hG hU ps pseudo hps r.2 r.1 y h2 (by omega) h3
 rw[h1]
 exact .no rfl (QbB h2)
theorem Qe5 {ps pseudo:Bool} {t:RS} {l:List SelD} (h:U9 s t):YG G s ps pseudo t l=(l,t):=by
 rw[YG,if_neg]
 intro k
 rcases h with h | h
 rw[h]at k;cases k.1
 omega
theorem Qn9 (hr:RD s) (hG:GS s lo Gi G) (hU:GU G) (ps pseudo:Bool) (hps:pseudo=true->ps=true) (t:RS) (l:List SelD) :
 ∀xs:List CSel,t.bad=false->lo<=t.p+1->MTs xs l->Sim s MTs (VM Gi s ps xs t.p) (YG G s ps pseudo t l):=by
 fun_induction YG G s ps pseudo t l with
 | case1 t l h1 r h2 ih=>
  intro xs hb hlo hx
  rw[VM,if_pos h1.2]
  rcases Qd6 hr hG hU ps pseudo hps (t.go (t.p+1)) hb (by simp only[Vg];omega) with h | ⟨y,h3,h4,h5⟩ | ⟨h3,h4⟩
  exact .un (QcG hU _ _ _ _ _ h)
  simp only[Vg]at h3
  rw[h3]
  simp only
  rw[if_pos h2]
  exact ih _ h4 (by omega) (hx.snoc h5)
  simp only[Vg]at h3
  rw[h3]
  refine .no rfl ?_
  rw[Qe5 h4]
  exact h4
 | case2 t l h1 r h2=>
  intro xs hb hlo hx
  rw[VM,if_pos h1.2]
  rcases Qd6 hr hG hU ps pseudo hps (t.go (t.p+1)) hb (by simp only[Vg];omega) with h | ⟨y,h3,h4,h5⟩ | ⟨h3,h4⟩
  exact .un h
  have:=(QdX h3).1
  simp only[Vg]at this
  have er:r.2.p=(Yh G s ps pseudo (t.go (t.p+1))).2.p:=rfl
  exact absurd (by omega) h2
  simp only[Vg]at h3
  rw[h3]
  exact .no rfl h4
 | case3 t l h1=>
  intro xs hb hlo hx
  rw[VM,if_neg (fun k=>h1 ⟨hb,k⟩)]
  exact .ok xs rfl hb hx
def Qgw (Gi:Nat->Option (List CSel×Nat)) (s:Bs) (ps:Bool) (i:Nat):Option (List CSel×Nat):=
 match YX Gi s ps i with
 | none=>none
 | some (x,j)=>VM Gi s ps [x] j
theorem Qe6 (hr:RD s) (hG:GS s lo Gi G) (hU:GU G) (ps pseudo:Bool) (hps:pseudo=true->ps=true) (t:RS) (hb:t.bad=false) (hlo:lo<=t.p+1) :
 Sim s (fun xs l=>∃b,l=Qi Q4 b/\MTs xs b) (Qgw Gi s ps t.p) (VI G s ps true pseudo t)/\(∀xs m,Qgw Gi s ps t.p=some (xs,m)->iWs s m=m):=by
 have hc:=Qd6 hr hG hU ps pseudo hps t hb hlo
 constructor
 unfold Qgw VI
 simp only[↓reduceIte]
 generalize Yh G s ps pseudo t=r at hc ⊢
 rcases hc with h | ⟨y,h3,h4,h5⟩ | ⟨h3,h4⟩
 exact .un (QcG hU _ _ _ _ _ h)
 have hl:=(QdX h3).1
 rw[h3]
 simp only
 rcases Qn9 hr hG hU ps pseudo hps r.2 r.1 [y] h4 (by omega) (.one h5) with h | ⟨z,h6,h7,h8⟩ | ⟨h6,h7⟩
 exact .un h
 exact .ok z h6 h7 ⟨_,rfl,h8⟩
 exact .no h6 h7
 rw[h3]
 refine .no rfl ?_
 rw[Qe5 h4]
 exact h4
 intro xs m h
 unfold Qgw at h
 split at h
 cases h
 rename_i x j h1
 exact QkQ (QdX h1).2 h
theorem QaQ (ps:Bool) (k i:Nat):Qw s ps (k+1) i=Qgw (Qw s ps k) s ps i:=by
 rw[Qw];rfl
theorem QeZ (ps:Bool) (k:Nat) {i:Nat} (h:s.length<=i):Qw s ps k i=none:=by
 cases k with
 | zero=>rw[Qw]
 | succ k=>rw[QaQ,Qgw,Qqt h]
theorem QhY (hr:RD s) (ps:Bool):∀(n k lo:Nat),s.length+1<=lo+n->s.length+1<=lo+k->GS s lo (Qw s ps k) (Qq s ps n)
 | 0,k,lo,h1,h2=>fun t ht hb=>by
  rw[QeZ ps k (by omega)]
  exact⟨.bad rfl rfl,fun xs m h=>by cases h⟩
 | n+1,k,lo,h1,h2=>fun t ht hb=>by
  cases k with
  | zero=>
   have hG:=QhY hr ps n 0 (lo+1) (by omega) (by omega)
   have hs:=Qe6 hr hG (fun t=>QdO s ps n t) ps false (by simp) t hb (by omega)
   rw[<-QaQ,QeZ ps 1 (by omega)]at hs
   rw[QeZ ps 0 (by omega)]
   exact hs
  | succ k=>
   have hG:=QhY hr ps n k (lo+1) (by omega) (by omega)
   have hs:=Qe6 hr hG (fun t=>QdO s ps n t) ps false (by simp) t hb (by omega)
   rw[<-QaQ]at hs
   exact hs
theorem Qrf (ps pseudo:Bool) (t:RS) (l:List SelD) (pe:Bs) (many:Nat):((Vh G s ps pseudo t l pe many).1.getD 0 default).kind≠23:=by
 fun_induction Vh G s ps pseudo t l pe many<;>first | assumption | simp[failL,Qi,Ql]
theorem Qoj (ps pseudo:Bool) (t:RS):((VB G s ps pseudo t).1.getD 0 default).kind≠23:=by
 unfold VB
 simp only
 repeat' split
 all_goals exact Qrf _ _ _ _ _ _
theorem Qk6 (ps pseudo:Bool) (t:RS) (left:List SelD):(left.getD 0 default).kind≠23->((VU G s ps pseudo t left).1.getD 0 default).kind≠23:=by
 fun_induction VU G s ps pseudo t left with
 | case1=>exact fun h=>h
 | case2=>exact fun h=>h
 | case3=>intro _;simp[failL]
 | case4 t left h1 t1 c op t2 h2 h3 r h4 ih=>intro _;exact ih (by simp[Qi,Ql])
 | case5=>intro _;simp[Qi,Ql]
theorem Qrc (ps pseudo:Bool) (t:RS):((Yh G s ps pseudo t).1.getD 0 default).kind≠23:=Qk6 _ _ _ _ (Qoj _ _ _)
end
theorem QgH (T:ST):∃rest,T.flat={ T.node with size:=(T.flat.length:Nat) }::rest:=by
 obtain⟨x,ks⟩:=T
 exact⟨ST.flats ks,by simp[ST.flat,Ql,ST.node]⟩
def Alike (many:Bool) (a b:List SelD):Prop:=∃A B:ST,a=A.flat/\b=B.flat/\A.norm=B.norm/\(A.node.kind=23 ↔ many=true)/\(B.node.kind=23 ↔ many=true)/\∀y∈b,nzN y
theorem parse_sim (s:Bs) (many pseudo:Bool) (hs:s.length<=1000) (hsure:(QX s many pseudo).2.2=true) :
 (∃l,QV s many pseudo=some l/\(QX s many pseudo).2.1=true/\Alike many (QG many l) (QX s many pseudo).1) \/
 (QV s many pseudo=none/\(QX s many pseudo).2.1=false):=by
 unfold QX at hsure ⊢
 cases hg:YH s 0 with
 | false=>rw[hg,if_neg zq]at hsure;cases hsure
 | true=>
  rw[hg,if_pos rfl]at hsure
  rw[if_pos rfl]
  have hr:=rd_of hg
  have hU:GU (Qq s pseudo (s.length+1)):=fun t=>QdO s pseudo _ t
  cases many with
  | true=>
   have hG:=QhY hr pseudo (s.length+1) 1000 1 (by omega) (by omega)
   obtain⟨hs,-⟩:=Qe6 hr hG hU pseudo pseudo id ⟨0,false,false⟩ rfl (by simp)
   rw[<-QaQ]at hs
   simp only at hs hsure ⊢
   generalize VI (Qq s pseudo (s.length+1)) s pseudo true pseudo ⟨0,false,false⟩=g at hs hsure ⊢
   unfold QV
   rw[if_pos rfl]
   rcases hs with h | ⟨xs,h1,h2,b,h3,h4⟩ | ⟨h1,h2⟩
   split at hsure<;>simp[h]at hsure
   rw[h1]
   simp only
   by_cases hp:g.2.p<s.length
   rw[if_pos hp,if_pos (.inr hp)]
   exact .inr ⟨rfl,rfl⟩
   rw[if_neg hp,if_neg (by rw[h2];simp[hp])]
   refine .inl ⟨xs,rfl,rfl,?_⟩
   obtain⟨Ts,h5,h6,h7⟩:=h4
   refine⟨.mk Q4 (Vj xs),.mk Q4 Ts,?_,?_,?_,by simp[ST.node,Q4],by simp[ST.node,Q4],by simp only[if_true];rw[h3];exact QaN ⟨by decide,fun _=>rfl⟩ h7⟩
   simp[QG,ST.flat,Zt]
   simp only[if_true];rw[h3,h5];simp[ST.flat,Qi]
   rw[ST.norm,ST.norm,h6]
   rw[h1]
   rw[if_pos]
   exact .inr ⟨rfl,rfl⟩
   rcases h2 with h2 | h2
   exact .inl h2
   exact .inr (Yy (by omega))
  | false=>
   have hG:=QhY hr pseudo (s.length+1) 1001 1 (by omega) (by omega)
   have hs:=Qd6 hr hG hU pseudo pseudo id ⟨0,false,false⟩ rfl (by simp)
   have hk:=Qrc (s:=s) (G:=Qq s pseudo (s.length+1)) pseudo pseudo ⟨0,false,false⟩
   unfold VI at hsure ⊢
   simp only[Bool.false_eq_true,↓reduceIte]at hs hsure ⊢
   generalize Yh (Qq s pseudo (s.length+1)) s pseudo pseudo ⟨0,false,false⟩=g at hs hsure hk ⊢
   unfold QV
   rw[if_neg zq]
   rcases hs with h | ⟨x,h1,h2,T,h3,h4,h5⟩ | ⟨h1,h2⟩
   split at hsure<;>simp[h]at hsure
   rw[h1]
   simp only
   by_cases hp:g.2.p<s.length
   rw[if_pos hp,if_pos (.inr hp)]
   exact .inr ⟨rfl,rfl⟩
   rw[if_neg hp,if_neg (by rw[h2];simp[hp])]
   have hw:((Qi Q4 g.1).drop 1).take ((Qi Q4 g.1).getD 1 default).size.toNat=T.flat:=by
    obtain⟨rest,he⟩:=QgH T
    rw[h3]
    simp only[Qi,Ql,List.drop_succ_cons,List.drop_zero,zd,List.getElem?_cons_succ]
    rw[he]
    simp only[zj,zB,Option.getD_some,Int.toNat_natCast]
    exact zS (by rw[<-he,he];simp)
   refine .inl ⟨[x],rfl,rfl,Qk x,T,?_,hw,h4.symm,?_,?_,fun y hy=>h5 y (by rw[h3,<-hw];exact hy)⟩
   simp[QG,J6]
   obtain⟨ks,e⟩:=QfY x
   rw[e]
   simp[ST.node,(QaO x).2.2]
   obtain⟨rest,he⟩:=QgH T
   rw[h3,he]at hk
   simp at hk
   simp[hk]
   rw[h1]
   rw[if_pos]
   exact .inr ⟨rfl,rfl⟩
   rcases h2 with h2 | h2
   exact .inl h2
   exact .inr (Yy (by omega))
end Law
end
section
open Go Go.RowKit
inductive RV where
 | sels (xs:List SelD)
 | ints (xs:List Nat)
 | strs (xs:List (List UInt8))
 | bytes (xs:List UInt8)
 | selss (xs:List (List SelD))
 | csels (xs:List CSel)
 | runes (xs:List Int)
inductive SV where
 | undef
 | int (k:IntKind) (n:Int)
 | bool (b:Bool)
 | str (l:List UInt8)
 | ptr (r o:Nat)
 | nilptr
 | agg (cs:List SV)
 | tup (vs:List SV)
 | iface (t:TypeId) (v:SV)
 | nilif
 | ifx
 | nilsl
 | sl (x:RV)
 | cp (cs:List SV)
 | own (r:Nat)
 | rp (r i z o:Nat)
 | cs (x:CSel)
 | gd (c:Bool) (s:SV)
 | op (v:Value)
 | nat (n:Nat)
 | byt (c:UInt8)
 | gk (j:Nat) (b:Bool) (s:SV)
instance:Inhabited SV:=⟨.undef⟩
def RV.len:RV->Nat
 | .sels xs=>xs.length
 | .ints xs=>xs.length
 | .strs xs=>xs.length
 | .bytes xs=>xs.length
 | .selss xs=>xs.length
 | .csels xs=>xs.length
 | .runes xs=>xs.length
def RV.elem:RV->TypeId
 | .sels _=>33
 | .ints _=>3
 | .strs _=>9
 | .bytes _=>5
 | .selss _=>22
 | .csels _=>56
 | .runes _=>21
def RV.z:RV->Nat
 | .sels _=>8
 | _=>1
def Yl (x:SelD):List SV:=[.int .i64 x.kind,.int .i64 x.op,.str x.key,.str x.val,.int .i64 x.a,.int .i64 x.b,.int .i64 x.flag,.int .i64 x.size]
def RV.cell:RV->Nat->List SV
 | .sels xs,i=>Yl (xs.getD i default)
 | .ints xs,i=>[.nat (xs.getD i 0)]
 | .strs xs,i=>[.str (xs.getD i [])]
 | .bytes xs,i=>[.byt (xs.getD i 0)]
 | .selss xs,i=>[.sl (.sels (xs.getD i []))]
 | .csels xs,i=>[.cs (xs.getD i default)]
 | .runes xs,i=>[.int .i32 (xs.getD i 0)]
theorem RV.cell_length (x:RV) (i:Nat):(x.cell i).length=x.z:=by cases x<;>rfl
def CSel.ty:CSel->TypeId
 | .tag _=>99
 | .cls _=>101
 | .idn _=>103
 | .attr .. => 105
 | .nth .. => 109
 | .only _=>111
 | .empty=>113
 | .root=>114
 | .input=>115
 | .link=>116
 | .enabled=>117
 | .disabled=>118
 | .checked=>119
 | .lang _=>121
 | .contains .. => 123
 | .never _=>125
 | .rel .. => 127
 | .compound .. => 129
 | .combined .. => 131
def CSel.cells:CSel->List SV
 | .tag k=>[.str k]
 | .cls v=>[.str v]
 | .idn v=>[.str v]
 | .attr k v o i=>[.str k,.str v,.str o,.bool i]
 | .nth a b l t=>[.int .i64 a,.int .i64 b,.bool l,.bool t]
 | .only t=>[.bool t]
 | .lang v=>[.str v]
 | .contains v o=>[.str v,.bool o]
 | .never v=>[.str v]
 | .rel n ks=>[.str n,.sl (.csels ks)]
 | .compound ks pe=>[.sl (.csels ks),.str pe]
 | .combined f c s=>[.cs f,.byt c,.cs s]
 | _=>[]
def CSel.enc (x:CSel):SV:=.iface x.ty (.agg x.cells)
structure Wit where
 Γ:Nat->Option (Array Value×TypeId)
 ρ:Nat->Nat
 σ:Nat->Value
 n:Nat
inductive Rel (ω:Wit):SV->Value->Prop
 | undef (v:Value):Rel ω .undef v
 | int (k:IntKind) (n:Int):Rel ω (.int k n) (.int k n)
 | bool (b:Bool):Rel ω (.bool b) (.bool b)
 | str (l:List UInt8):Rel ω (.str l) (.string ⟨l.toArray⟩)
 | ptr (r o:Nat) (hr:r<ω.n):Rel ω (.ptr r o) (.pointer (some ⟨ω.ρ r,o,none⟩))
 | nilptr:Rel ω .nilptr (.pointer none)
 | agg (cs:List SV) (vs:Array Value) (hn:vs.size=cs.length) (h:∀(i:Nat) (s:SV) (v:Value),cs[i]? = some s->vs[i]? = some v->Rel ω s v):Rel ω (.agg cs) (.agg vs)
 | tup (cs:List SV) (vs:Array Value) (hn:vs.size=cs.length) (h:∀(i:Nat) (s:SV) (v:Value),cs[i]? = some s->vs[i]? = some v->Rel ω s v):Rel ω (.tup cs) (.tuple vs)
 | iface (t:TypeId) (s:SV) (v:Value) (h:Rel ω s v):Rel ω (.iface t s) (.iface t v)
 | nilif:Rel ω .nilif .nilIface
 | ifx (t:TypeId) (v:Value):Rel ω .ifx (.iface t v)
 | nilsl:Rel ω .nilsl (.slice none 0 0)
 | slz (x:RV) (a:Option Addr) (c:Nat) (h:x.len=0):Rel ω (.sl x) (.slice a 0 c)
 | sl (x:RV) (b o c:Nat) (vs:Array Value) (T:TypeId) (hΓ:ω.Γ b=some (vs,T)) (hn:o+x.len*x.z<=vs.size) (hc:x.len<=c)
  (h:∀(i j:Nat) (s:SV) (v:Value),i<x.len->(x.cell i)[j]? = some s->vs[o+(i*x.z+j)]? = some v->Rel ω s v):Rel ω (.sl x) (.slice (some ⟨b,o,none⟩) x.len c)
 | cp (cs:List SV) (b o:Nat) (vs:Array Value) (T:TypeId) (hΓ:ω.Γ b=some (vs,T)) (hn:o+cs.length<=vs.size)
  (h:∀(j:Nat) (s:SV) (v:Value),cs[j]? = some s->vs[o+j]? = some v->Rel ω s v):Rel ω (.cp cs) (.pointer (some ⟨b,o,none⟩))
 | own (r:Nat) (hr:r<ω.n):Rel ω (.own r) (ω.σ r)
 | rp (r i z o:Nat) (hr:r<ω.n):Rel ω (.rp r i z o) (.pointer (some ⟨ω.ρ r,i*z+o,none⟩))
 | cs (x:CSel) (v:Value) (h:Rel ω x.enc v):Rel ω (.cs x) v
 | gd (c:Bool) (s:SV) (v:Value) (h:c=true->Rel ω s v) (h':c=false->v=Go.undef):Rel ω (.gd c s) v
 | op (v:Value):Rel ω (.op v) v
 | nat (n:Nat):Rel ω (.nat n) (.int .i64 n)
 | byt (c:UInt8):Rel ω (.byt c) (.int .u8 c.toNat)
 | gk (j:Nat) (b:Bool) (s:SV) (v:Value):Rel ω (.gk j b s) v
theorem Rel.nat_inv {ω:Wit} {n:Nat} {v:Value} (h:Rel ω (.nat n) v):v=.int .i64 n:=by cases h;rfl
theorem Rel.byt_inv {ω:Wit} {c:UInt8} {v:Value} (h:Rel ω (.byt c) v):v=.int .u8 c.toNat:=by cases h;rfl
structure Wit.le (ω ω':Wit):Prop where
 Γ:∀b x,ω.Γ b=some x->ω'.Γ b=some x
 n:ω.n<=ω'.n
 ρ:∀r,r<ω.n->ω'.ρ r=ω.ρ r
 σ:∀r,r<ω.n->ω'.σ r=ω.σ r
theorem Wit.le.refl (ω:Wit):ω.le ω:=⟨fun _ _ h=>h,zm _,fun _ _=>rfl,fun _ _=>rfl⟩
theorem Wit.le.trans {a b c:Wit} (h:a.le b) (k:b.le c):a.le c:=
 ⟨fun _ _ e=>k.Γ _ _ (h.Γ _ _ e),Nat.le_trans h.n k.n,fun r hr=>(k.ρ r (zL hr h.n)).trans (h.ρ r hr),
  fun r hr=>(k.σ r (zL hr h.n)).trans (h.σ r hr)⟩
theorem Rel.mono {ω ω':Wit} (hl:ω.le ω') {s:SV} {v:Value} (h:Rel ω s v):Rel ω' s v:=by
 induction h with
 | undef v=>exact .undef v
 | int k n=>exact .int k n
 | bool b=>exact .bool b
 | str l=>exact .str l
 | ptr r o hr=>rw[<-hl.ρ r hr];exact .ptr r o (zL hr hl.n)
 | nilptr=>exact .nilptr
 | agg cs vs hn _ ih=>exact .agg cs vs hn fun i s v h1 h2=>ih i s v h1 h2
 | tup cs vs hn _ ih=>exact .tup cs vs hn fun i s v h1 h2=>ih i s v h1 h2
 | iface t s v _ ih=>exact .iface t s v ih
 | nilif=>exact .nilif
 | ifx t v=>exact .ifx t v
 | nilsl=>exact .nilsl
 | slz x a c h=>exact .slz x a c h
 | sl x b o c vs T hΓ hn hc _ ih=>exact .sl x b o c vs T (hl.Γ _ _ hΓ) hn hc fun i j s v h0 h1 h2=>ih i j s v h0 h1 h2
 | cp cs b o vs T hΓ hn _ ih=>exact .cp cs b o vs T (hl.Γ _ _ hΓ) hn fun j s v h1 h2=>ih j s v h1 h2
 | own r hr=>rw[<-hl.σ r hr];exact .own r (zL hr hl.n)
 | rp r i z o hr=>rw[<-hl.ρ r hr];exact .rp r i z o (zL hr hl.n)
 | cs x v _ ih=>exact .cs x v ih
 | gd c s v _ hu ih=>exact .gd c s v (fun hc=>ih hc) hu
 | op v=>exact .op v
 | nat n=>exact .nat n
 | byt c=>exact .byt c
 | gk j b s v=>exact .gk j b s v
mutual
def SV.lt (n:Nat):SV->Bool
 | .ptr r _=>decide (r<n)
 | .own r=>decide (r<n)
 | .rp r _ _ _=>decide (r<n)
 | .agg l=>SV.lts n l
 | .tup l=>SV.lts n l
 | .cp l=>SV.lts n l
 | .iface _ v=>v.lt n
 | .gd _ s=>s.lt n
 | _=>true
def SV.lts (n:Nat):List SV->Bool
 | []=>true
 | x::l=>x.lt n&&SV.lts n l
end
theorem SV.lts_get {n:Nat}:∀{l:List SV},SV.lts n l=true->∀(i:Nat) (s:SV),l[i]? = some s->s.lt n=true
 | [],_,i,s,h=>by simp at h
 | x::l,hl,i,s,h=>by
  simp only[SV.lts,zk]at hl
  cases i with
  | zero=>simp at h;rw[<-h];exact hl.1
  | succ i=>exact SV.lts_get hl.2 i s (by simpa using h)
theorem RV.cell_lts (n:Nat) (x:RV) (i:Nat):SV.lts n (x.cell i)=true:=by cases x<;>simp[RV.cell,Yl,SV.lts,SV.lt]
theorem CSel.enc_lt (n:Nat) (x:CSel):x.enc.lt n=true:=by cases x<;>simp[CSel.enc,CSel.cells,SV.lts,SV.lt]
theorem Rel.lower {ω:Wit} {m:Nat} {s:SV} {v:Value} (h:Rel ω s v) (hs:s.lt m=true):Rel { ω with n:=m } s v:=by
 induction h with
 | undef v=>exact .undef v
 | int k n=>exact .int k n
 | bool b=>exact .bool b
 | str l=>exact .str l
 | ptr r o hr=>exact .ptr (ω:={ ω with n:=m }) r o (by simpa [SV.lt] using hs)
 | nilptr=>exact .nilptr
 | agg cs vs hn _ ih=>exact .agg cs vs hn fun i s v h1 h2=>ih i s v h1 h2 (SV.lts_get (by simpa [SV.lt] using hs) i s h1)
 | tup cs vs hn _ ih=>exact .tup cs vs hn fun i s v h1 h2=>ih i s v h1 h2 (SV.lts_get (by simpa [SV.lt] using hs) i s h1)
 | iface t s v _ ih=>exact .iface t s v (ih (by simpa [SV.lt] using hs))
 | nilif=>exact .nilif
 | ifx t v=>exact .ifx t v
 | nilsl=>exact .nilsl
 | slz x a c h=>exact .slz x a c h
 | sl x b o c vs T hΓ hn hc _ ih=>exact .sl x b o c vs T hΓ hn hc fun i j s v h0 h1 h2=>ih i j s v h0 h1 h2 (SV.lts_get (RV.cell_lts m x i) j s h1)
 | cp cs b o vs T hΓ hn _ ih=>exact .cp cs b o vs T hΓ hn fun j s v h1 h2=>ih j s v h1 h2 (SV.lts_get (by simpa [SV.lt] using hs) j s h1)
 | own r hr=>exact .own (ω:={ ω with n:=m }) r (by simpa [SV.lt] using hs)
 | rp r i z o hr=>exact .rp (ω:={ ω with n:=m }) r i z o (by simpa [SV.lt] using hs)
 | cs x v _ ih=>exact .cs x v (ih (CSel.enc_lt m x))
 | gd c s v _ hu ih=>exact .gd c s v (fun hc=>ih hc (by simpa [SV.lt] using hs)) hu
 | op v=>exact .op v
 | nat n=>exact .nat n
 | byt c=>exact .byt c
 | gk j b s v=>exact .gk j b s v
end
end Go.Proofs.YtengepcafdnalaaGreatDoor
