/-
  Parts of the proof that the law FnPrintGrammar holds for every input (texts Pe). Conditions: none.
-/
import Derived.Test.YtengepcafdnalaaGreatDoorM02
namespace Go.Proofs.YtengepcafdnalaaGreatDoor
open _root_.Bool renaming false_ne_true → zo, or_eq_true → zu, and_eq_true → zh, or_eq_false_iff → zz, and_eq_false_imp → zV
open _root_.List renaming getD_eq_getElem?_getD → za, take_add_one → zN, length_take → zF, getElem?_eq_getElem → ze, append_assoc → zq, append_nil → zD, drop_eq_getElem_cons → zG, nil_append → zW
open _root_.Nat renaming le_refl → zj
open _root_.Option renaming map_some → zK
section
namespace Law
def RD (s:Bs):Prop:=∀i,i+1<s.length->bat s i<128->(Va s (i+1)).2≠0
theorem Qfd {s:Bs}:∀{k i c d:Nat},Zo s k i c=some d->∀m,i<=m->m<i+k->128<=bat s m
 | 0,i,c,d,h,m,h1,h2=>by omega
 | k+1,i,c,d,h,m,h1,h2=>by
  rw[Zo]at h
  split at h
  cases h
  rename_i h0
  by_cases e:m=i
  subst e;omega
  exact Qfd h m (by omega) (by omega)
theorem QdS {s:Bs} {j:Nat} (h0:j<s.length) (h:(Va s j).2≠0):1<=(Va s j).2/\j+(Va s j).2<=s.length /\
 (∀m,j<m->m<j+(Va s j).2->128<=bat s m)/\(bat s j<128->(Va s j).2=1):=by
 unfold Va at h ⊢
 split
 refine⟨by omega,by omega,fun m h1 h2=>?_,fun _=>rfl⟩
 simp only at h2;omega
 rename_i h1
 rw[if_neg h1]at h
 split
 rename_i h2;rw[if_pos h2]at h;exact absurd rfl h
 rename_i h2
 rw[if_neg h2]at h
 simp only[not_or]at h2
 split
 rename_i h3;rw[h3]at h;exact absurd rfl h
 rename_i d h3
 rw[h3]at h
 simp only at h
 split
 rename_i h4;rw[if_pos h4]at h;exact absurd rfl h
 refine⟨by simp only;omega,by simp only;omega,fun m k1 k2=>?_,fun k=>absurd k h1⟩
 simp only at k2
 exact Qfd h3 m (by omega) (by omega)
theorem QdQ {s:Bs} {j:Nat} (h:VV s j=true) (hj:j<s.length):(Va s j).2≠0/\VV s (j+(Va s j).2)=true:=by
 rw[VV,if_pos hj]at h
 split at h
 cases h
 rename_i h1;simp only[not_or]at h1;exact⟨h1.1,h⟩
theorem QgH (s:Bs):∀(n j:Nat),s.length-j<=n->VV s j=true->∀i,j<=i->i+1<s.length->bat s i<128->(Va s (i+1)).2≠0
 | 0,j,hn,h,i,h1,h2,h3=>by omega
 | n+1,j,hn,h,i,h1,h2,h3=>by
  obtain⟨k1,k2⟩:=QdQ h (by omega)
  obtain⟨q1,q2,q3,q4⟩:=QdS (by omega) k1
  by_cases e:i=j
  subst e
  rw[q4 h3]at k2
  exact (QdQ k2 h2).1
  by_cases e2:i<j+(Va s j).2
  have:=q3 i (by omega) e2;omega
  exact QgH s n _ (by omega) k2 i (by omega) h2 h3
theorem QuO {s:Bs} (h:VV s 0=true):RD s:=fun i=>QgH s _ 0 (zj _) h i (Nat.zero_le _)
theorem bat_out {s:Bs} {i:Nat} (h:s.length<=i):bat s i=0:=by
 simp[bat,za,List.getElem?_eq_none h]
theorem Yw {s:Bs} {i:Nat} (h:bat s i≠0):i<s.length:=by
 by_cases e:i<s.length
 exact e
 exact absurd (bat_out (by omega)) h
theorem Qng {c:Nat} (h:128<=c):Qq c=true:=by simp[Qq,QI];omega
def QaM (s:Bs) (t:RS):Prop:=t.bad=true\/bat s t.p=92
def Sim {α β:Type} (s:Bs) (R:α->β->Prop) (f:Option (α×Nat)) (g:β×RS):Prop:=
 g.2.un=true\/(∃a,f=some (a,g.2.p)/\g.2.bad=false/\R a g.1)\/(f=none/\QaM s g.2)
section
variable {α β:Type} {s:Bs} {R:α->β->Prop} {f:Option (α×Nat)} {g:β×RS}
theorem Sim.un (h:g.2.un=true):Sim s R f g:=.inl h
theorem Sim.ok (a:α) (h:f=some (a,g.2.p)) (hb:g.2.bad=false) (hr:R a g.1):Sim s R f g:=.inr (.inl ⟨a,h,hb,hr⟩)
theorem Sim.no (h:f=none) (hd:QaM s g.2):Sim s R f g:=.inr (.inr ⟨h,hd⟩)
theorem Sim.bad (h:f=none) (hd:g.2.bad=true):Sim s R f g:=.inr (.inr ⟨h,.inl hd⟩)
end
theorem Qac (s:Bs) (t:RS) (hb:t.bad=false):(sSp s t).un=true\/sSp s t=t.go (iWs s t.p):=by
 fun_induction sSp s t with
 | case1 t h1 h2 ih=>
  rw[iWs,if_pos h1.2,if_pos h2]
  exact ih hb
 | case2 t h1 h2 h3 j hj ih=>
  have e:iWs s t.p=iWs s j:=by
   rw[iWs,if_pos h1.2,if_neg h2,if_pos h3]
   split
   rename_i j' hj';rw[hj]at hj';cases hj';rfl
   rename_i hj';rw[hj]at hj';cases hj'
  rw[e]
  exact ih hb
 | case3 t h1 h2 h3 hj=>left;simp
 | case4 t h1 h2 h3=>right;rw[iWs,if_pos h1.2,if_neg h2,if_neg h3];rfl
 | case5 t h1=>
  right
  rw[iWs,if_neg (fun h=>h1 ⟨hb,h⟩)]
  rfl
theorem QtD:VT 92=false:=by decide
theorem QaS {s:Bs} {t:RS} (h:QaM s t):sSp s t=t:=by
 rw[sSp]
 rcases h with h | h
 rw[if_neg (fun k=>by rw[h]at k;cases k.1)]
 split
 rw[if_neg (by rw[h,QtD];exact zo),if_neg (fun k=>by rw[h]at k;omega)]
 rfl
theorem Yy (s:Bs) (t:RS):(sSp s t).un=true\/(t.bad=false/\sSp s t=t.go (iWs s t.p))\/(t.bad=true/\sSp s t=t):=by
 cases hb:t.bad
 rcases Qac s t hb with h | h
 exact .inl h
 exact .inr (.inl ⟨rfl,h⟩)
 exact .inr (.inr ⟨rfl,QaS (.inl hb)⟩)
theorem iWs_fix (s:Bs) (i:Nat):iWs s (iWs s i)=iWs s i:=by
 fun_induction iWs s i with
 | case1 i h1 h2 ih=>exact ih
 | case2 i h1 h2 h3 j hj ih=>exact ih
 | case3 i h1 h2 h3 hj=>
  rw[iWs,if_pos h1,if_neg h2,if_pos h3]
  split
  rename_i j' hj';rw[hj]at hj';cases hj'
  rfl
 | case4 i h1 h2 h3=>rw[iWs,if_pos h1,if_neg h2,if_neg h3]
 | case5 i h1=>rw[iWs,if_neg h1]
theorem nameGo_stop {s:Bs} {i:Nat} {acc:Bs} (h:¬i<s.length\/(Qq (bat s i)=false/\bat s i≠92)):Vc s i acc=some (acc,i):=by
 rw[Vc]
 rcases h with h | h
 rw[if_neg h]
 split
 rw[if_neg (by rw[h.1];exact zo),if_neg h.2]
 rfl
theorem Zh {s:Bs} {i:Nat} {acc:Bs} (h:i<s.length) (hc:Qq (bat s i)=true):Vc s i acc=Vc s (i+1) (acc++[s.getD i 0]):=by
 rw[Vc,if_pos h,if_pos hc]
theorem QuZ:Qq 92=false:=by decide
theorem nameGo_esc {s:Bs} {i:Nat} {acc:Bs} (h:i<s.length) (hc:bat s i=92) {v:Bs} {j:Nat} (he:Y8 s i=some (v,j)):Vc s i acc=Vc s j (acc++v):=by
 rw[Vc,if_pos h,if_neg (by rw[hc,QuZ];exact zo),if_pos hc]
 split
 rename_i k;rw[he]at k;cases k
 rename_i v' j' k;rw[he]at k;cases k;rfl
theorem nameGo_none {s:Bs} {i:Nat} {acc:Bs} (h:i<s.length) (hc:bat s i=92) (he:Y8 s i=none):Vc s i acc=none:=by
 rw[Vc,if_pos h,if_neg (by rw[hc,QuZ];exact zo),if_pos hc]
 split
 rfl
 rename_i v' j' k;rw[he]at k;cases k
theorem drop_take_succ (s:Bs) (i k:Nat) (h:i+k<s.length):(s.take (i+(k+1))).drop i=(s.take (i+k)).drop i++[s.getD (i+k) 0]:=by
 rw[show i+(k+1)=(i+k)+1 from rfl,zN,List.drop_append]
 simp only[zF]
 rw[show i-min (i+k) s.length=0 from by omega,ze h]
 simp[za,ze h]
theorem nameGo_run (s:Bs) (i:Nat) (acc:Bs):∀k,i+k<=s.length->(∀m,i<=m->m<i+k->Qq (bat s m)=true)->Vc s i acc=Vc s (i+k) (acc++(s.take (i+k)).drop i)
 | 0,h,hc=>by simp
 | k+1,h,hc=>by
  rw[nameGo_run s i acc k (by omega) (fun m h1 h2=>hc m h1 (by omega)),Zh (by omega) (hc (i+k) (by omega) (by omega)),
   drop_take_succ s i k (by omega),zq]
  rfl
theorem Qfg (s:Bs) (i:Nat) (acc a:Bs):Vc s i (a++acc)=(Vc s i acc).map fun p=>(a++p.1,p.2):=by
 fun_induction Vc s i acc with
 | case1 i acc h1 h2 ih=>rw[Zh h1 h2,zq,ih]
 | case2 i acc h1 h2 h3 h4=>rw[nameGo_none h1 h3 h4];rfl
 | case3 i acc h1 h2 h3 v j h4 ih=>rw[nameGo_esc h1 h3 h4,zq,ih]
 | case4 i acc h1 h2 h3=>rw[nameGo_stop (.inr ⟨by simpa using h2,h3⟩)];rfl
 | case5 i acc h1=>rw[nameGo_stop (.inl h1)];rfl
theorem Qan {s:Bs} {i:Nat} {acc r:Bs} {j:Nat} (h:Vc s i acc=some (r,j)):acc.length<=r.length:=by
 have e:=Qfg s i [] acc
 rw[zD,h]at e
 cases e2:Vc s i [] with
 | none=>rw[e2]at e;cases e
 | some p=>
  rw[e2]at e
  simp only[zK,Option.some.injEq,Prod.mk.injEq]at e
  rw[e.1];simp
theorem Qdn {s:Bs} {i:Nat} {acc:Bs}:∀{r:Bs} {j:Nat},Vc s i acc=some (r,j)->i<=j/\(i<=s.length->j<=s.length):=by
 fun_induction Vc s i acc with
 | case1 i acc h1 h2 ih=>intro r j h;have:=ih h;omega
 | case2 i acc h1 h2 h3 h4=>intro r j h;cases h
 | case3 i acc h1 h2 h3 v k h4 ih=>intro r j h;have:=ih h;have:=JY h4;omega
 | case4 i acc h1 h2 h3=>intro r j h;cases h;omega
 | case5 i acc h1=>intro r j h;cases h;omega
theorem utf8_ne (n:Int):Y6 n≠[]:=by
 unfold Y6 Utf8.encode
 simp only
 generalize (if Utf8.valid n=true then n.toNat else Utf8.runeError)=c
 split
 simp
 split
 simp
 split<;>simp
theorem JB {s:Bs} {i:Nat}:JU s i=true ↔ i+1<s.length/\bat s i=92/\YL (bat s (i+1))=false:=by
 simp[JU,and_assoc]
theorem Qeq {s:Bs} {i:Nat} (h:JU s i=false):Y8 s i=none:=by
 unfold Y8
 split
 rfl
 rename_i h1
 simp only[not_or,Decidable.not_not]at h1
 split
 rfl
 rename_i h2
 rw[JB.2 ⟨by omega,h1.2,by simpa using h2⟩]at h
 cases h
theorem Qth {c:Nat} (h:Qq c=true):YL c=false:=by
 simp only[Qq,QI,YL,zu,zh,decide_eq_true_eq,zz,decide_eq_false_iff_not] at *
 omega
theorem Qns {s:Bs} (hr:RD s) {t:RS} (he:JU s t.p=true) :
 (VR s t).2.un=true\/((VR s t).2.bad=t.bad/\Y8 s t.p=some ((VR s t).1,(VR s t).2.p)/\(VR s t).1≠[]) \/
 (∃k,1<=k/\t.p+1+k<=s.length/\(VR s t)=((s.take (t.p+1+k)).drop (t.p+1),t.go (t.p+1+k))/\Y8 s t.p=some ([s.getD (t.p+1) 0],t.p+2) /\
  ∀m,t.p+1<m->m<t.p+1+k->128<=bat s m):=by
 obtain⟨h1,h2,h3⟩:=JB.1 he
 have hi:Y8 s t.p=if QK (bat s (t.p+1))=true then
  some (Y6 (VN ((s.take (QE s 6 (t.p+1))).drop (t.p+1))),Q7 s (QE s 6 (t.p+1)))
  else some ([s.getD (t.p+1) 0],t.p+2):=by
  unfold Y8
  rw[if_neg (by simp only[not_or,Decidable.not_not];exact⟨by omega,h2⟩),if_neg (by rw[h3];exact zo)]
 cases hd:QK (bat s (t.p+1)) with
 | true=>
  rw[hd,if_pos rfl]at hi
  have hne:QE s 6 (t.p+1)≠t.p+1:=by
   have h5:t.p+1+1<=QE s 6 (t.p+1):=Qdt s 5 (t.p+1) h1 hd
   omega
  unfold VR
  rw[if_neg hne]
  split
  refine .inr (.inl ⟨?_,?_,?_⟩)
  rfl
  dsimp only[RS.go_p];exact hi
  dsimp only;exact utf8_ne _
  left;simp
 | false=>
  rw[hd,if_neg zo]at hi
  have he1:QE s 6 (t.p+1)=t.p+1:=by rw[QE,if_neg (fun h=>by rw[hd]at h;cases h.2)]
  have hq:=QdS h1 (hr t.p h1 (by omega))
  refine .inr (.inr ⟨(Va s (t.p+1)).2,hq.1,hq.2.1,?_,hi,hq.2.2.1⟩)
  unfold VR
  rw[if_pos he1]
theorem Qcp (s:Bs) (i k:Nat) (hk:1<=k) (h:i+k<=s.length):(s.take (i+k)).drop i=[s.getD i 0]++(s.take (i+k)).drop (i+1):=by
 have h1:i<(s.take (i+k)).length:=by simp;omega
 rw[zG h1]
 simp[za,ze (show i<s.length from by omega)]
theorem Qjt {s:Bs} (hr:RD s) (t:RS) (acc:Bs) (hb:t.bad=false):Sim s (fun a b=>a=b) (Vc s t.p acc) (VX s t acc):=by
 fun_induction VX s t acc with
 | case1 t acc h1 h2 ih=>
  rw[Zh h1.1 h2]
  exact ih hb
 | case2 t acc h1 h2 h3 ih=>
  rcases Qns hr h3 with h | ⟨hb',h,hne⟩ | ⟨k,k1,k2,e,h,k3⟩
  exact .un (QaT _ _ _ h)
  rw[nameGo_esc h1.1 (JB.1 h3).2.1 h]
  exact ih (by rw[hb',hb])
  rw[nameGo_esc h1.1 (JB.1 h3).2.1 h]
  rw[nameGo_run s (t.p+2) _ (k-1) (by omega) (fun m a b=>Qng (k3 m (by omega) (by omega))),zq]
  rw[show t.p+2+(k-1)=t.p+1+k from by omega,show t.p+2=t.p+1+1 from rfl,<-Qcp s (t.p+1) k k1 k2]
  have:=ih (by rw[e];exact hb)
  rw[e]at this ⊢
  exact this
 | case3 t acc h1 h2 h3=>
  by_cases e:bat s t.p=92
  exact .no (nameGo_none h1.1 e (Qeq (by simpa using h3))) (.inr e)
  exact .ok acc (nameGo_stop (.inr ⟨by simpa using h2,e⟩)) hb rfl
 | case4 t acc h1=>exact .ok acc (nameGo_stop (.inl fun h=>h1 ⟨h,hb⟩)) hb rfl
theorem Qlt {s:Bs} {i:Nat} (h:i<s.length) (hc:Qq (bat s i)=true\/bat s i=92) {r:Bs} {j:Nat} (k:Vc s i []=some (r,j)):r≠[]:=by
 intro e
 subst e
 rcases hc with hc | hc
 rw[Zh h hc]at k;have:=Qan k;simp at this
 cases he:Y8 s i with
 | none=>rw[nameGo_none h hc he]at k;cases k
 | some p=>
  obtain⟨v,j'⟩:=p
  rw[nameGo_esc h hc he]at k
  have:=Qan k
  have hv:v≠[]:=by
   unfold Y8 at he
   split at he
   cases he
   split at he
   cases he
   split at he<;>(simp only[Option.some.injEq,Prod.mk.injEq]at he;rw[<-he.1])
   exact utf8_ne _
   simp
  simp at this
  exact hv this
theorem J9 {s:Bs} {i:Nat} (h:i<s.length) (hc:Qq (bat s i)=true\/bat s i=92):Ya s i=Vc s i []:=by
 unfold Ya
 split
 rename_i j h1;exact absurd rfl (Qlt h hc h1)
 rfl
theorem Qfu {s:Bs} {i:Nat} (h:¬i<s.length\/(Qq (bat s i)=false/\bat s i≠92)):Ya s i=none:=by
 unfold Ya
 rw[nameGo_stop h]
theorem QeO {c:Nat} (h:QI c=true):Qq c=true:=by simp[Qq,h]
theorem Qri {s:Bs} {i:Nat} (h:VS s i=false):Yn s i=UG s i:=by
 unfold UG
 rw[Yn]
 split
 rename_i h1
 rw[Yn,if_neg]
 simp only[VS,decide_eq_false_iff_not]at h
 exact fun k=>h ⟨h1.1,h1.2,k.1,k.2⟩
 rfl
theorem Qu0:Qq 45=true:=by decide
theorem Jv {s:Bs} (hr:RD s) (t:RS) (hb:t.bad=false):Sim s (fun a b=>a=b) (QC s t.p) (Qi s t):=by
 cases hu:VS s t.p with
 | true=>exact .un (by unfold Qi;split;exact QaT _ _ _ (by simp[hu]);simp[hu])
 | false=>
  unfold QC
  rw[Qri hu]
  cases hf:Vo s t.p with
  | false=>
   have e:Qi s t=([],(t.unI (VS s t.p)).no):=by unfold Qi;rw[if_neg (by rw[hf];exact zo)]
   simp only[Vo,zz,zV,decide_eq_true_eq]at hf
   rw[e]
   refine .bad ?_ rfl
   split
   rename_i h
   rcases h.2 with h2 | h2
   rw[hf.1 h.1]at h2;cases h2
   rw[J9 h.1 (.inr h2),nameGo_none h.1 h2 (Qeq hf.2)]
   rfl
  | true=>
   have hc:UG s t.p<s.length/\(QI (bat s (UG s t.p))=true\/bat s (UG s t.p)=92):=by
    simp only[Vo,zu,zh,decide_eq_true_eq]at hf
    rcases hf with h | h
    exact⟨h.1,.inl h.2⟩
    obtain⟨h1,h2,_⟩:=JB.1 h
    exact⟨by omega,.inr h2⟩
   rw[if_pos hc,J9 hc.1 (hc.2.imp QeO id)]
   unfold Qi
   rw[if_pos hf]
   have hs:=Qjt hr (t.unI (VS s t.p)) [] hb
   by_cases h45:t.p<s.length/\bat s t.p=45
   have hn:UG s t.p=t.p+1:=by unfold UG;rw[if_pos h45]
   rw[hn]at hc ⊢
   have e1:Vc s t.p []=(Vc s (t.p+1) []).map fun p=>(45::p.1,p.2):=by
    rw[Zh h45.1 (by rw[h45.2];exact Qu0),show s.getD t.p 0=45 from UInt8.toNat_inj.1 h45.2]
    exact Qfg s (t.p+1) [] [45]
   simp only[RS.unI_p]at hs
   rw[e1]at hs
   cases e2:Vc s (t.p+1) [] with
   | none=>
    rw[e2]at hs
    exact hs
   | some p=>
    rw[e2]at hs
    simp only[show t.p+1-t.p=1 from by omega]
    exact hs
   have hn:UG s t.p=t.p:=by unfold UG;rw[if_neg h45]
   rw[hn]
   simp only[RS.unI_p]at hs
   cases e2:Vc s t.p [] with
   | none=>rw[e2]at hs;exact hs
   | some p=>
    rw[e2]at hs
    simp only[Nat.sub_self,List.replicate_zero,zW]
    exact hs
theorem Qdx {s:Bs} {i:Nat} (h:Vo s i=true):i<s.length/\(Qq (bat s i)=true\/bat s i=92):=by
 simp only[Vo,zu,zh,decide_eq_true_eq]at h
 unfold UG at h
 split at h
 rename_i h1;exact⟨h1.1,.inl (by rw[h1.2];exact Qu0)⟩
 rcases h with h | h
 exact⟨h.1,.inl (QeO h.2)⟩
 obtain⟨h1,h2,_⟩:=JB.1 h
 exact⟨by omega,.inr h2⟩
theorem Qrp {s:Bs} (hr:RD s) (t:RS) (hb:t.bad=false):Sim s (fun a b=>a=b) (Ya s t.p) (Zu s t):=by
 unfold Zu
 split
 rename_i h
 obtain⟨h1,h2⟩:=Qdx h
 rw[J9 h1 h2,if_neg (by rw[hb];exact zo)]
 exact Qjt hr (t.unI (VS s t.p)) [] hb
 rename_i hf
 simp only[Bool.not_eq_true]at hf
 split
 rename_i h1
 rcases h1 with h1 | h1
 rw[hb]at h1;cases h1
 by_cases e:bat s t.p=92
 have h0:t.p<s.length:=Yw (by omega)
 refine .bad ?_ rfl
 rw[J9 h0 (.inr e)]
 refine nameGo_none h0 e (Qeq ?_)
 have hn:UG s t.p=t.p:=by unfold UG;rw[if_neg (fun k=>by omega)]
 simp only[Vo,zz]at hf
 rw[hn]at hf
 exact hf.2
 exact .bad (Qfu (.inr ⟨h1,e⟩)) rfl
 exact .un (QaT _ _ _ (by simp))
theorem Qgs {s:Bs} {q i:Nat} {acc:Bs} (he:JU s i=true) {v:Bs} {j:Nat} (h:Y8 s i=some (v,j)):Vl s q i acc=Vl s q j (acc++v):=by
 obtain⟨h1,h2,h3⟩:=JB.1 he
 simp only[YL,zz,decide_eq_false_iff_not]at h3
 rw[Vl,if_pos (by omega),if_pos h2,if_neg (fun k=>h3.1.1 k.2),if_neg (fun k=>by rcases k.2 with k | k;exact h3.1.2 k;exact h3.2 k)]
 split
 rename_i k;rw[h]at k;cases k
 rename_i v' j' k;rw[h]at k;cases k;rfl
theorem strGo_chr {s:Bs} {q i:Nat} {acc:Bs} (h:i<s.length) (h1:bat s i≠92) (h2:bat s i≠q) (h3:YL (bat s i)=false):Vl s q i acc=Vl s q (i+1) (acc++[s.getD i 0]):=by
 rw[Vl,if_pos h,if_neg h1,if_neg h2,if_neg (by rw[h3];exact zo)]
theorem nl_hi {c:Nat} (h:128<=c):YL c=false:=Qth (Qng h)
theorem strGo_run (s:Bs) (q i:Nat) (hq:q<128) (acc:Bs):∀k,i+k<=s.length->(∀m,i<=m->m<i+k->128<=bat s m)->Vl s q i acc=Vl s q (i+k) (acc++(s.take (i+k)).drop i)
 | 0,h,hc=>by simp
 | k+1,h,hc=>by
  have h5:=hc (i+k) (by omega) (by omega)
  rw[strGo_run s q i hq acc k (by omega) (fun m h1 h2=>hc m h1 (by omega)),strGo_chr (by omega) (by omega) (by omega) (nl_hi h5),
   drop_take_succ s i k (by omega),zq]
  rfl
theorem QsF {s:Bs} (hr:RD s) (q:Nat) (hq:q<128) (hq2:q≠92) (t:RS) (acc:Bs) (hb:t.bad=false):Sim s (fun a b=>a=b) (Vl s q t.p acc) (Vu s q t acc):=by
 fun_induction Vu s q t acc with
 | case1 t acc h1 h2=>
  refine .ok acc ?_ hb rfl
  rw[Vl,if_pos h1,if_neg (by omega),if_pos h2];rfl
 | case2 t acc h1 h2 h3=>
  refine .bad ?_ rfl
  rw[Vl,if_pos h1,if_neg (fun h=>by rw[h]at h3;revert h3;decide),if_neg h2,if_pos h3]
 | case3 t acc h1 h2 h3 h4 ih=>
  rw[strGo_chr h1 h4 h2 (by simpa using h3)]
  exact ih hb
 | case4 t acc h1 h2 h3 h4 h5 ih=>
  rcases Qns hr h5 with h | ⟨hb',h,hne⟩ | ⟨k,k1,k2,e,h,k3⟩
  exact .un (Qgx _ _ _ _ h)
  rw[Qgs h5 h]
  exact ih (by rw[hb',hb])
  rw[Qgs h5 h]
  rw[strGo_run s q (t.p+2) hq _ (k-1) (by omega) (fun m a b=>k3 m (by omega) (by omega)),zq]
  rw[show t.p+2+(k-1)=t.p+1+k from by omega,show t.p+2=t.p+1+1 from rfl,<-Qcp s (t.p+1) k k1 k2]
  have:=ih (by rw[e];exact hb)
  rw[e]at this ⊢
  exact this
 | case5 t acc h1 h2 h3 h4 h5 ih=>
  have h4':bat s t.p=92:=Decidable.not_not.1 h4
  have ih:=ih hb
  simp only[Bool.not_eq_true]at h5
  rw[Vl,if_pos h1,if_pos h4']
  by_cases h6:t.p+1<s.length
  . have h7:YL (bat s (t.p+1))=true:=by
     cases h8:YL (bat s (t.p+1))
     rw[JB.2 ⟨h6,h4',h8⟩]at h5;cases h5
     rfl
    simp only[YL,zu,decide_eq_true_eq]at h7
    by_cases h9:bat s (t.p+1)=13
    rw[if_pos ⟨h6,h9⟩]
    by_cases h10:t.p+2<s.length/\bat s (t.p+2)=10
    rw[if_pos h10]
    rw[dif_pos ⟨h9,h10.2,by omega⟩]at ih
    rw[if_pos ⟨h9,h10.2,by omega⟩]
    exact ih
    rw[if_neg h10]
    rw[dif_neg (fun k=>h10 ⟨by omega,k.2.1⟩)]at ih
    rw[if_neg (fun k=>h10 ⟨by omega,k.2.1⟩)]
    exact ih
    rw[if_neg (fun k=>h9 k.2),if_pos ⟨h6,by omega⟩]
    rw[dif_neg (fun k=>h9 k.1)]at ih
    rw[if_neg (fun k=>h9 k.1)]
    exact ih
  have e0:bat s (t.p+1)=0:=bat_out (by omega)
  rw[if_neg (fun k=>h6 k.1),if_neg (fun k=>h6 k.1)]
  have hn:Y8 s t.p=none:=Qeq h5
  rw[if_neg (fun k=>by rw[e0]at k;exact absurd k.1 (by decide)),Vu,if_neg (by simp only[RS.go_p];omega)]
  refine .bad ?_ rfl
  split
  rfl
  rename_i k;rw[hn]at k;cases k
 | case6 t acc h1=>
  refine .bad ?_ rfl
  rw[Vl,if_neg h1]
theorem Qgo {s:Bs} (hr:RD s) (t:RS) (hb:t.bad=false) :
 Sim s (fun a b=>a=b) (if bat s t.p=39\/bat s t.p=34 then Jb s t.p else QC s t.p) (Qs s t):=by
 unfold Qs
 by_cases h:bat s t.p=39\/bat s t.p=34
 have hq:isQ (bat s t.p)=true:=by simp[isQ];omega
 rw[if_pos h,if_pos hq]
 unfold Jq Jb
 split
 rename_i h1
 refine .bad rfl ?_
 rw[Vu,if_neg (by simp only[RS.go_p];omega)]
 rfl
 exact QsF hr _ (by omega) (by omega) (t.go (t.p+1)) [] hb
 have hq:isQ (bat s t.p)=false:=by simp[isQ];omega
 rw[if_neg h,if_neg (by rw[hq];exact zo)]
 exact Jv hr (t.unI _) hb
theorem Qkd (s:Bs) (i:Nat):i<=Yn s i:=by
 fun_induction Yn s i with
 | case1 i h ih=>omega
 | case2=>omega
theorem iName_lt {s:Bs} {i:Nat} {r:Bs} {j:Nat} (h:Ya s i=some (r,j)):i<j/\j<=s.length:=by
 by_cases h0:i<s.length
 by_cases hc:Qq (bat s i)=true\/bat s i=92
 rw[J9 h0 hc]at h
 have h1:=Qdn h
 refine⟨?_,h1.2 (by omega)⟩
 rcases hc with hc | hc
 rw[Zh h0 hc]at h;have:=Qdn h;omega
 cases he:Y8 s i with
 | none=>rw[nameGo_none h0 hc he]at h;cases h
 | some p=>obtain⟨v,k⟩:=p;rw[nameGo_esc h0 hc he]at h;have:=Qdn h;have:=JY he;omega
 simp only[not_or,Bool.not_eq_true]at hc
 rw[Qfu (.inr hc)]at h;cases h
 rw[Qfu (.inl h0)]at h;cases h
theorem iIdent_lt {s:Bs} {i:Nat} {r:Bs} {j:Nat} (h:QC s i=some (r,j)):i<j/\j<=s.length:=by
 unfold QC at h
 split at h
 split at h
 cases h
 rename_i r' j' h1
 cases h
 have:=iName_lt h1
 have:=Qkd s i
 omega
 cases h
theorem QpD {s:Bs} {q i:Nat} {acc:Bs}:∀{r:Bs} {j:Nat},Vl s q i acc=some (r,j)->i<j/\j<=s.length:=by
 fun_induction Vl s q i acc<;>intro r j h
 all_goals first
  | (cases h;done)
  | (cases h;omega)
  | (rename_i hx ih;have:=JY hx;have:=ih h;omega)
  | (rename_i ih;have:=ih h;omega)
theorem Qm8 {s:Bs} {i:Nat} {r:Bs} {j:Nat} (h:Jb s i=some (r,j)):i+1<j/\j<=s.length:=by
 unfold Jb at h
 split at h
 cases h
 have:=QpD h;omega
end Law
end
end Go.Proofs.YtengepcafdnalaaGreatDoor
