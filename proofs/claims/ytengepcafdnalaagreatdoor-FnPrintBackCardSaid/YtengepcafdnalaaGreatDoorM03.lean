/-
  Parts of the proof that the law FnPrintBack holds for every input (texts Pe). Conditions: none.
-/
import Derived.Test.YtengepcafdnalaaGreatDoorM02
namespace Go.Proofs.YtengepcafdnalaaGreatDoor
open _root_.Bool renaming false_ne_true → zq, or_eq_true → zx, and_eq_true → zk, or_eq_false_iff → zT
open _root_.List renaming getD_eq_getElem?_getD → zd, take_add_one → zU, length_take → zP, getElem?_eq_getElem → zg, append_assoc → zw, drop_eq_getElem_cons → zI
open _root_.Nat renaming le_refl → zm, zero_le → zO
open _root_.Option renaming map_some → zK
section
namespace Law
def RD (s:Bs):Prop:=∀i,i+1<s.length->bat s i<128->(Vn s (i+1)).2≠0
theorem QeI {s:Bs}:∀{k i c d:Nat},ZG s k i c=some d->∀m,i<=m->m<i+k->128<=bat s m
 | 0,i,c,d,h,m,h1,h2=>by omega
 | k+1,i,c,d,h,m,h1,h2=>by
  rw[ZG]at h
  split at h
  cases h
  rename_i h0
  by_cases e:m=i
  subst e;omega
  exact QeI h m (by omega) (by omega)
theorem Qdm {s:Bs} {j:Nat} (h0:j<s.length) (h:(Vn s j).2≠0):1<=(Vn s j).2/\j+(Vn s j).2<=s.length /\
 (∀m,j<m->m<j+(Vn s j).2->128<=bat s m)/\(bat s j<128->(Vn s j).2=1):=by
 unfold Vn at h ⊢
 split
 refine⟨by omega,by omega,fun m h1 h2=>?_,fun _=>rfl⟩
 simp only at h2;omega
 rename_i h1
 rw[if_neg h1]at h
 split
 rename_i h2;rw[if_pos h2]at h;exact absurd rfl h
 rename_i h2
 rw[if_neg h2]at h
 simp only[not_or]at h2
 split
 rename_i h3;rw[h3]at h;exact absurd rfl h
 rename_i d h3
 rw[h3]at h
 simp only at h
 split
 rename_i h4;rw[if_pos h4]at h;exact absurd rfl h
 refine⟨by simp only;omega,by simp only;omega,fun m k1 k2=>?_,fun k=>absurd k h1⟩
 simp only at k2
 exact QeI h3 m (by omega) (by omega)
theorem Qdl {s:Bs} {j:Nat} (h:YH s j=true) (hj:j<s.length):(Vn s j).2≠0/\YH s (j+(Vn s j).2)=true:=by
 rw[YH,if_pos hj]at h
 split at h
 cases h
 rename_i h1;simp only[not_or]at h1;exact⟨h1.1,h⟩
theorem Qgf (s:Bs):∀(n j:Nat),s.length-j<=n->YH s j=true->∀i,j<=i->i+1<s.length->bat s i<128->(Vn s (i+1)).2≠0
 | 0,j,hn,h,i,h1,h2,h3=>by omega
 | n+1,j,hn,h,i,h1,h2,h3=>by
  obtain⟨k1,k2⟩:=Qdl h (by omega)
  obtain⟨q1,q2,q3,q4⟩:=Qdm (by omega) k1
  by_cases e:i=j
  subst e
  rw[q4 h3]at k2
  exact (Qdl k2 h2).1
  by_cases e2:i<j+(Vn s j).2
  have:=q3 i (by omega) e2;omega
  exact Qgf s n _ (by omega) k2 i (by omega) h2 h3
theorem rd_of {s:Bs} (h:YH s 0=true):RD s:=fun i=>Qgf s _ 0 (zm _) h i (zO _)
theorem bat_out {s:Bs} {i:Nat} (h:s.length<=i):bat s i=0:=by
 simp[bat,zd,List.getElem?_eq_none h]
theorem Yy {s:Bs} {i:Nat} (h:bat s i≠0):i<s.length:=by
 by_cases e:i<s.length
 exact e
 exact absurd (bat_out (by omega)) h
theorem Qmp {c:Nat} (h:128<=c):Qr c=true:=by simp[Qr,QK];omega
def U9 (s:Bs) (t:RS):Prop:=t.bad=true\/bat s t.p=92
def Sim {α β:Type} (s:Bs) (R:α->β->Prop) (f:Option (α×Nat)) (g:β×RS):Prop:=
 g.2.un=true\/(∃a,f=some (a,g.2.p)/\g.2.bad=false/\R a g.1)\/(f=none/\U9 s g.2)
section
variable {α β:Type} {s:Bs} {R:α->β->Prop} {f:Option (α×Nat)} {g:β×RS}
theorem Sim.un (h:g.2.un=true):Sim s R f g:=.inl h
theorem Sim.ok (a:α) (h:f=some (a,g.2.p)) (hb:g.2.bad=false) (hr:R a g.1):Sim s R f g:=.inr (.inl ⟨a,h,hb,hr⟩)
theorem Sim.no (h:f=none) (hd:U9 s g.2):Sim s R f g:=.inr (.inr ⟨h,hd⟩)
theorem Sim.bad (h:f=none) (hd:g.2.bad=true):Sim s R f g:=.inr (.inr ⟨h,.inl hd⟩)
end
theorem UD (s:Bs) (t:RS) (hb:t.bad=false):(sSp s t).un=true\/sSp s t=t.go (iWs s t.p):=by
 fun_induction sSp s t with
 | case1 t h1 h2 ih=>
  rw[iWs,if_pos h1.2,if_pos h2]
  exact ih hb
 | case2 t h1 h2 h3 j hj ih=>
  have e:iWs s t.p=iWs s j:=by
   rw[iWs,if_pos h1.2,if_neg h2,if_pos h3]
   split
   rename_i j' hj';rw[hj]at hj';cases hj';rfl
   rename_i hj';rw[hj]at hj';cases hj'
  rw[e]
  exact ih hb
 | case3 t h1 h2 h3 hj=>left;simp
 | case4 t h1 h2 h3=>right;rw[iWs,if_pos h1.2,if_neg h2,if_neg h3];rfl
 | case5 t h1=>
  right
  rw[iWs,if_neg (fun h=>h1 ⟨hb,h⟩)]
  rfl
theorem QsO:VO 92=false:=by decide
theorem Qad {s:Bs} {t:RS} (h:U9 s t):sSp s t=t:=by
 rw[sSp]
 rcases h with h | h
 rw[if_neg (fun k=>by rw[h]at k;cases k.1)]
 split
 rw[if_neg (by rw[h,QsO];exact zq),if_neg (fun k=>by rw[h]at k;omega)]
 rfl
theorem Yz (s:Bs) (t:RS):(sSp s t).un=true\/(t.bad=false/\sSp s t=t.go (iWs s t.p))\/(t.bad=true/\sSp s t=t):=by
 cases hb:t.bad
 rcases UD s t hb with h | h
 exact .inl h
 exact .inr (.inl ⟨rfl,h⟩)
 exact .inr (.inr ⟨rfl,Qad (.inl hb)⟩)
theorem iWs_fix (s:Bs) (i:Nat):iWs s (iWs s i)=iWs s i:=by
 fun_induction iWs s i with
 | case1 i h1 h2 ih=>exact ih
 | case2 i h1 h2 h3 j hj ih=>exact ih
 | case3 i h1 h2 h3 hj=>
  rw[iWs,if_pos h1,if_neg h2,if_pos h3]
  split
  rename_i j' hj';rw[hj]at hj';cases hj'
  rfl
 | case4 i h1 h2 h3=>rw[iWs,if_pos h1,if_neg h2,if_neg h3]
 | case5 i h1=>rw[iWs,if_neg h1]
theorem nameGo_stop {s:Bs} {i:Nat} {acc:Bs} (h:¬i<s.length\/(Qr (bat s i)=false/\bat s i≠92)):Q9 s i acc=some (acc,i):=by
 rw[Q9]
 rcases h with h | h
 rw[if_neg h]
 split
 rw[if_neg (by rw[h.1];exact zq),if_neg h.2]
 rfl
theorem Zc {s:Bs} {i:Nat} {acc:Bs} (h:i<s.length) (hc:Qr (bat s i)=true):Q9 s i acc=Q9 s (i+1) (acc++[s.getD i 0]):=by
 rw[Q9,if_pos h,if_pos hc]
theorem Qt1:Qr 92=false:=by decide
theorem nameGo_esc {s:Bs} {i:Nat} {acc:Bs} (h:i<s.length) (hc:bat s i=92) {v:Bs} {j:Nat} (he:Y2 s i=some (v,j)):Q9 s i acc=Q9 s j (acc++v):=by
 rw[Q9,if_pos h,if_neg (by rw[hc,Qt1];exact zq),if_pos hc]
 split
 rename_i k;rw[he]at k;cases k
 rename_i v' j' k;rw[he]at k;cases k;rfl
theorem nameGo_none {s:Bs} {i:Nat} {acc:Bs} (h:i<s.length) (hc:bat s i=92) (he:Y2 s i=none):Q9 s i acc=none:=by
 rw[Q9,if_pos h,if_neg (by rw[hc,Qt1];exact zq),if_pos hc]
 split
 rfl
 rename_i v' j' k;rw[he]at k;cases k
theorem drop_take_succ (s:Bs) (i k:Nat) (h:i+k<s.length):(s.take (i+(k+1))).drop i=(s.take (i+k)).drop i++[s.getD (i+k) 0]:=by
 rw[show i+(k+1)=(i+k)+1 from rfl,zU,List.drop_append]
 simp only[zP]
 rw[show i-min (i+k) s.length=0 from by omega,zg h]
 simp[zd,zg h]
theorem nameGo_run (s:Bs) (i:Nat) (acc:Bs):∀k,i+k<=s.length->(∀m,i<=m->m<i+k->Qr (bat s m)=true)->Q9 s i acc=Q9 s (i+k) (acc++(s.take (i+k)).drop i)
 | 0,h,hc=>by simp
 | k+1,h,hc=>by
  rw[nameGo_run s i acc k (by omega) (fun m h1 h2=>hc m h1 (by omega)),Zc (by omega) (hc (i+k) (by omega) (by omega)),
   drop_take_succ s i k (by omega),zw]
  rfl
theorem QeM (s:Bs) (i:Nat) (acc a:Bs):Q9 s i (a++acc)=(Q9 s i acc).map fun p=>(a++p.1,p.2):=by
 fun_induction Q9 s i acc with
 | case1 i acc h1 h2 ih=>rw[Zc h1 h2,zw,ih]
 | case2 i acc h1 h2 h3 h4=>rw[nameGo_none h1 h3 h4];rfl
 | case3 i acc h1 h2 h3 v j h4 ih=>rw[nameGo_esc h1 h3 h4,zw,ih]
 | case4 i acc h1 h2 h3=>rw[nameGo_stop (.inr ⟨by simpa using h2,h3⟩)];rfl
 | case5 i acc h1=>rw[nameGo_stop (.inl h1)];rfl
theorem UM {s:Bs} {i:Nat} {acc r:Bs} {j:Nat} (h:Q9 s i acc=some (r,j)):acc.length<=r.length:=by
 have e:=QeM s i [] acc
 rw[List.append_nil,h]at e
 cases e2:Q9 s i [] with
 | none=>rw[e2]at e;cases e
 | some p=>
  rw[e2]at e
  simp only[zK,Option.some.injEq,Prod.mk.injEq]at e
  rw[e.1];simp
theorem QcO {s:Bs} {i:Nat} {acc:Bs}:∀{r:Bs} {j:Nat},Q9 s i acc=some (r,j)->i<=j/\(i<=s.length->j<=s.length):=by
 fun_induction Q9 s i acc with
 | case1 i acc h1 h2 ih=>intro r j h;have:=ih h;omega
 | case2 i acc h1 h2 h3 h4=>intro r j h;cases h
 | case3 i acc h1 h2 h3 v k h4 ih=>intro r j h;have:=ih h;have:=JB h4;omega
 | case4 i acc h1 h2 h3=>intro r j h;cases h;omega
 | case5 i acc h1=>intro r j h;cases h;omega
theorem utf8_ne (n:Int):YM n≠[]:=by
 unfold YM Utf8.encode
 simp only
 generalize (if Utf8.valid n=true then n.toNat else Utf8.runeError)=c
 split
 simp
 split
 simp
 split<;>simp
theorem Jh {s:Bs} {i:Nat}:Jy s i=true ↔ i+1<s.length/\bat s i=92/\YI (bat s (i+1))=false:=by
 simp[Jy,and_assoc]
theorem QdY {s:Bs} {i:Nat} (h:Jy s i=false):Y2 s i=none:=by
 unfold Y2
 split
 rfl
 rename_i h1
 simp only[not_or,Decidable.not_not]at h1
 split
 rfl
 rename_i h2
 rw[Jh.2 ⟨by omega,h1.2,by simpa using h2⟩]at h
 cases h
theorem Qsv {c:Nat} (h:Qr c=true):YI c=false:=by
 simp only[Qr,QK,YI,zx,zk,decide_eq_true_eq,zT,decide_eq_false_iff_not] at *
 omega
theorem QmD {s:Bs} (hr:RD s) {t:RS} (he:Jy s t.p=true) :
 (VQ s t).2.un=true\/((VQ s t).2.bad=t.bad/\Y2 s t.p=some ((VQ s t).1,(VQ s t).2.p)/\(VQ s t).1≠[]) \/
 (∃k,1<=k/\t.p+1+k<=s.length/\(VQ s t)=((s.take (t.p+1+k)).drop (t.p+1),t.go (t.p+1+k))/\Y2 s t.p=some ([s.getD (t.p+1) 0],t.p+2) /\
  ∀m,t.p+1<m->m<t.p+1+k->128<=bat s m):=by
 obtain⟨h1,h2,h3⟩:=Jh.1 he
 have hi:Y2 s t.p=if QI (bat s (t.p+1))=true then
  some (YM (VH ((s.take (QD s 6 (t.p+1))).drop (t.p+1))),Vb s (QD s 6 (t.p+1)))
  else some ([s.getD (t.p+1) 0],t.p+2):=by
  unfold Y2
  rw[if_neg (by simp only[not_or,Decidable.not_not];exact⟨by omega,h2⟩),if_neg (by rw[h3];exact zq)]
 cases hd:QI (bat s (t.p+1)) with
 | true=>
  rw[hd,if_pos rfl]at hi
  have hne:QD s 6 (t.p+1)≠t.p+1:=by
   have h5:t.p+1+1<=QD s 6 (t.p+1):=QcW s 5 (t.p+1) h1 hd
   omega
  unfold VQ
  rw[if_neg hne]
  split
  refine .inr (.inl ⟨?_,?_,?_⟩)
  rfl
  dsimp only[RS.go_p];exact hi
  dsimp only;exact utf8_ne _
  left;simp
 | false=>
  rw[hd,if_neg zq]at hi
  have he1:QD s 6 (t.p+1)=t.p+1:=by rw[QD,if_neg (fun h=>by rw[hd]at h;cases h.2)]
  have hq:=Qdm h1 (hr t.p h1 (by omega))
  refine .inr (.inr ⟨(Vn s (t.p+1)).2,hq.1,hq.2.1,?_,hi,hq.2.2.1⟩)
  unfold VQ
  rw[if_pos he1]
theorem QbQ (s:Bs) (i k:Nat) (hk:1<=k) (h:i+k<=s.length):(s.take (i+k)).drop i=[s.getD i 0]++(s.take (i+k)).drop (i+1):=by
 have h1:i<(s.take (i+k)).length:=by simp;omega
 rw[zI h1]
 simp[zd,zg (show i<s.length from by omega)]
theorem QiO {s:Bs} (hr:RD s) (t:RS) (acc:Bs) (hb:t.bad=false):Sim s (fun a b=>a=b) (Q9 s t.p acc) (VZ s t acc):=by
 fun_induction VZ s t acc with
 | case1 t acc h1 h2 ih=>
  rw[Zc h1.1 h2]
  exact ih hb
 | case2 t acc h1 h2 h3 ih=>
  rcases QmD hr h3 with h | ⟨hb',h,hne⟩ | ⟨k,k1,k2,e,h,k3⟩
  exact .un (Qae _ _ _ h)
  rw[nameGo_esc h1.1 (Jh.1 h3).2.1 h]
  exact ih (by rw[hb',hb])
  rw[nameGo_esc h1.1 (Jh.1 h3).2.1 h]
  rw[nameGo_run s (t.p+2) _ (k-1) (by omega) (fun m a b=>Qmp (k3 m (by omega) (by omega))),zw]
  rw[show t.p+2+(k-1)=t.p+1+k from by omega,show t.p+2=t.p+1+1 from rfl,<-QbQ s (t.p+1) k k1 k2]
  have:=ih (by rw[e];exact hb)
  rw[e]at this ⊢
  exact this
 | case3 t acc h1 h2 h3=>
  by_cases e:bat s t.p=92
  exact .no (nameGo_none h1.1 e (QdY (by simpa using h3))) (.inr e)
  exact .ok acc (nameGo_stop (.inr ⟨by simpa using h2,e⟩)) hb rfl
 | case4 t acc h1=>exact .ok acc (nameGo_stop (.inl fun h=>h1 ⟨h,hb⟩)) hb rfl
theorem Qkx {s:Bs} {i:Nat} (h:i<s.length) (hc:Qr (bat s i)=true\/bat s i=92) {r:Bs} {j:Nat} (k:Q9 s i []=some (r,j)):r≠[]:=by
 intro e
 subst e
 rcases hc with hc | hc
 rw[Zc h hc]at k;have:=UM k;simp at this
 cases he:Y2 s i with
 | none=>rw[nameGo_none h hc he]at k;cases k
 | some p=>
  obtain⟨v,j'⟩:=p
  rw[nameGo_esc h hc he]at k
  have:=UM k
  have hv:v≠[]:=by
   unfold Y2 at he
   split at he
   cases he
   split at he
   cases he
   split at he<;>(simp only[Option.some.injEq,Prod.mk.injEq]at he;rw[<-he.1])
   exact utf8_ne _
   simp
  simp at this
  exact hv this
theorem JN {s:Bs} {i:Nat} (h:i<s.length) (hc:Qr (bat s i)=true\/bat s i=92):VY s i=Q9 s i []:=by
 unfold VY
 split
 rename_i j h1;exact absurd rfl (Qkx h hc h1)
 rfl
theorem QeY {s:Bs} {i:Nat} (h:¬i<s.length\/(Qr (bat s i)=false/\bat s i≠92)):VY s i=none:=by
 unfold VY
 rw[nameGo_stop h]
theorem Qen {c:Nat} (h:QK c=true):Qr c=true:=by simp[Qr,h]
theorem Qqw {s:Bs} {i:Nat} (h:VS s i=false):Yp s i=Ud s i:=by
 unfold Ud
 rw[Yp]
 split
 rename_i h1
 rw[Yp,if_neg]
 simp only[VS,decide_eq_false_iff_not]at h
 exact fun k=>h ⟨h1.1,h1.2,k.1,k.2⟩
 rfl
theorem Qt2:Qr 45=true:=by decide
theorem Jb {s:Bs} (hr:RD s) (t:RS) (hb:t.bad=false):Sim s (fun a b=>a=b) (Qx s t.p) (Qg s t):=by
 cases hu:VS s t.p with
 | true=>exact .un (by unfold Qg;split;exact Qae _ _ _ (by simp[hu]);simp[hu])
 | false=>
  unfold Qx
  rw[Qqw hu]
  cases hf:Vo s t.p with
  | false=>
   have e:Qg s t=([],(t.unI (VS s t.p)).no):=by unfold Qg;rw[if_neg (by rw[hf];exact zq)]
   simp only[Vo,zT,Bool.and_eq_false_imp,decide_eq_true_eq]at hf
   rw[e]
   refine .bad ?_ rfl
   split
   rename_i h
   rcases h.2 with h2 | h2
   rw[hf.1 h.1]at h2;cases h2
   rw[JN h.1 (.inr h2),nameGo_none h.1 h2 (QdY hf.2)]
   rfl
  | true=>
   have hc:Ud s t.p<s.length/\(QK (bat s (Ud s t.p))=true\/bat s (Ud s t.p)=92):=by
    simp only[Vo,zx,zk,decide_eq_true_eq]at hf
    rcases hf with h | h
    exact⟨h.1,.inl h.2⟩
    obtain⟨h1,h2,_⟩:=Jh.1 h
    exact⟨by omega,.inr h2⟩
   rw[if_pos hc,JN hc.1 (hc.2.imp Qen id)]
   unfold Qg
   rw[if_pos hf]
   have hs:=QiO hr (t.unI (VS s t.p)) [] hb
   by_cases h45:t.p<s.length/\bat s t.p=45
   have hn:Ud s t.p=t.p+1:=by unfold Ud;rw[if_pos h45]
   rw[hn]at hc ⊢
   have e1:Q9 s t.p []=(Q9 s (t.p+1) []).map fun p=>(45::p.1,p.2):=by
    rw[Zc h45.1 (by rw[h45.2];exact Qt2),show s.getD t.p 0=45 from UInt8.toNat_inj.1 h45.2]
    exact QeM s (t.p+1) [] [45]
   simp only[RS.unI_p]at hs
   rw[e1]at hs
   cases e2:Q9 s (t.p+1) [] with
   | none=>
    rw[e2]at hs
    exact hs
   | some p=>
    rw[e2]at hs
    simp only[show t.p+1-t.p=1 from by omega]
    exact hs
   have hn:Ud s t.p=t.p:=by unfold Ud;rw[if_neg h45]
   rw[hn]
   simp only[RS.unI_p]at hs
   cases e2:Q9 s t.p [] with
   | none=>rw[e2]at hs;exact hs
   | some p=>
    rw[e2]at hs
    simp only[Nat.sub_self,List.replicate_zero,List.nil_append]
    exact hs
theorem Qc0 {s:Bs} {i:Nat} (h:Vo s i=true):i<s.length/\(Qr (bat s i)=true\/bat s i=92):=by
 simp only[Vo,zx,zk,decide_eq_true_eq]at h
 unfold Ud at h
 split at h
 rename_i h1;exact⟨h1.1,.inl (by rw[h1.2];exact Qt2)⟩
 rcases h with h | h
 exact⟨h.1,.inl (Qen h.2)⟩
 obtain⟨h1,h2,_⟩:=Jh.1 h
 exact⟨by omega,.inr h2⟩
theorem QqD {s:Bs} (hr:RD s) (t:RS) (hb:t.bad=false):Sim s (fun a b=>a=b) (VY s t.p) (Zl s t):=by
 unfold Zl
 split
 rename_i h
 obtain⟨h1,h2⟩:=Qc0 h
 rw[JN h1 h2,if_neg (by rw[hb];exact zq)]
 exact QiO hr (t.unI (VS s t.p)) [] hb
 rename_i hf
 simp only[Bool.not_eq_true]at hf
 split
 rename_i h1
 rcases h1 with h1 | h1
 rw[hb]at h1;cases h1
 by_cases e:bat s t.p=92
 have h0:t.p<s.length:=Yy (by omega)
 refine .bad ?_ rfl
 rw[JN h0 (.inr e)]
 refine nameGo_none h0 e (QdY ?_)
 have hn:Ud s t.p=t.p:=by unfold Ud;rw[if_neg (fun k=>by omega)]
 simp only[Vo,zT]at hf
 rw[hn]at hf
 exact hf.2
 exact .bad (QeY (.inr ⟨h1,e⟩)) rfl
 exact .un (Qae _ _ _ (by simp))
theorem Qf0 {s:Bs} {q i:Nat} {acc:Bs} (he:Jy s i=true) {v:Bs} {j:Nat} (h:Y2 s i=some (v,j)):Vk s q i acc=Vk s q j (acc++v):=by
 obtain⟨h1,h2,h3⟩:=Jh.1 he
 simp only[YI,zT,decide_eq_false_iff_not]at h3
 rw[Vk,if_pos (by omega),if_pos h2,if_neg (fun k=>h3.1.1 k.2),if_neg (fun k=>by rcases k.2 with k | k;exact h3.1.2 k;exact h3.2 k)]
 split
 rename_i k;rw[h]at k;cases k
 rename_i v' j' k;rw[h]at k;cases k;rfl
theorem strGo_chr {s:Bs} {q i:Nat} {acc:Bs} (h:i<s.length) (h1:bat s i≠92) (h2:bat s i≠q) (h3:YI (bat s i)=false):Vk s q i acc=Vk s q (i+1) (acc++[s.getD i 0]):=by
 rw[Vk,if_pos h,if_neg h1,if_neg h2,if_neg (by rw[h3];exact zq)]
theorem nl_hi {c:Nat} (h:128<=c):YI c=false:=Qsv (Qmp h)
theorem strGo_run (s:Bs) (q i:Nat) (hq:q<128) (acc:Bs):∀k,i+k<=s.length->(∀m,i<=m->m<i+k->128<=bat s m)->Vk s q i acc=Vk s q (i+k) (acc++(s.take (i+k)).drop i)
 | 0,h,hc=>by simp
 | k+1,h,hc=>by
  have h5:=hc (i+k) (by omega) (by omega)
  rw[strGo_run s q i hq acc k (by omega) (fun m h1 h2=>hc m h1 (by omega)),strGo_chr (by omega) (by omega) (by omega) (nl_hi h5),
   drop_take_succ s i k (by omega),zw]
  rfl
theorem QrO {s:Bs} (hr:RD s) (q:Nat) (hq:q<128) (hq2:q≠92) (t:RS) (acc:Bs) (hb:t.bad=false):Sim s (fun a b=>a=b) (Vk s q t.p acc) (Vv s q t acc):=by
 fun_induction Vv s q t acc with
 | case1 t acc h1 h2=>
  refine .ok acc ?_ hb rfl
  rw[Vk,if_pos h1,if_neg (by omega),if_pos h2];rfl
 | case2 t acc h1 h2 h3=>
  refine .bad ?_ rfl
  rw[Vk,if_pos h1,if_neg (fun h=>by rw[h]at h3;revert h3;decide),if_neg h2,if_pos h3]
 | case3 t acc h1 h2 h3 h4 ih=>
  rw[strGo_chr h1 h4 h2 (by simpa using h3)]
  exact ih hb
 | case4 t acc h1 h2 h3 h4 h5 ih=>
  rcases QmD hr h5 with h | ⟨hb',h,hne⟩ | ⟨k,k1,k2,e,h,k3⟩
  exact .un (Qf5 _ _ _ _ h)
  rw[Qf0 h5 h]
  exact ih (by rw[hb',hb])
  rw[Qf0 h5 h]
  rw[strGo_run s q (t.p+2) hq _ (k-1) (by omega) (fun m a b=>k3 m (by omega) (by omega)),zw]
  rw[show t.p+2+(k-1)=t.p+1+k from by omega,show t.p+2=t.p+1+1 from rfl,<-QbQ s (t.p+1) k k1 k2]
  have:=ih (by rw[e];exact hb)
  rw[e]at this ⊢
  exact this
 | case5 t acc h1 h2 h3 h4 h5 ih=>
  have h4':bat s t.p=92:=Decidable.not_not.1 h4
  have ih:=ih hb
  simp only[Bool.not_eq_true]at h5
  rw[Vk,if_pos h1,if_pos h4']
  by_cases h6:t.p+1<s.length
  . have h7:YI (bat s (t.p+1))=true:=by
     cases h8:YI (bat s (t.p+1))
     rw[Jh.2 ⟨h6,h4',h8⟩]at h5;cases h5
     rfl
    simp only[YI,zx,decide_eq_true_eq]at h7
    by_cases h9:bat s (t.p+1)=13
    rw[if_pos ⟨h6,h9⟩]
    by_cases h10:t.p+2<s.length/\bat s (t.p+2)=10
    rw[if_pos h10]
    rw[dif_pos ⟨h9,h10.2,by omega⟩]at ih
    rw[if_pos ⟨h9,h10.2,by omega⟩]
    exact ih
    rw[if_neg h10]
    rw[dif_neg (fun k=>h10 ⟨by omega,k.2.1⟩)]at ih
    rw[if_neg (fun k=>h10 ⟨by omega,k.2.1⟩)]
    exact ih
    rw[if_neg (fun k=>h9 k.2),if_pos ⟨h6,by omega⟩]
    rw[dif_neg (fun k=>h9 k.1)]at ih
    rw[if_neg (fun k=>h9 k.1)]
    exact ih
  have e0:bat s (t.p+1)=0:=bat_out (by omega)
  rw[if_neg (fun k=>h6 k.1),if_neg (fun k=>h6 k.1)]
  have hn:Y2 s t.p=none:=QdY h5
  rw[if_neg (fun k=>by rw[e0]at k;exact absurd k.1 (by decide)),Vv,if_neg (by simp only[RS.go_p];omega)]
  refine .bad ?_ rfl
  split
  rfl
  rename_i k;rw[hn]at k;cases k
 | case6 t acc h1=>
  refine .bad ?_ rfl
  rw[Vk,if_neg h1]
theorem QfX {s:Bs} (hr:RD s) (t:RS) (hb:t.bad=false) :
 Sim s (fun a b=>a=b) (if bat s t.p=39\/bat s t.p=34 then ZB s t.p else Qx s t.p) (Qs s t):=by
 unfold Qs
 by_cases h:bat s t.p=39\/bat s t.p=34
 have hq:isQ (bat s t.p)=true:=by simp[isQ];omega
 rw[if_pos h,if_pos hq]
 unfold Z5 ZB
 split
 rename_i h1
 refine .bad rfl ?_
 rw[Vv,if_neg (by simp only[RS.go_p];omega)]
 rfl
 exact QrO hr _ (by omega) (by omega) (t.go (t.p+1)) [] hb
 have hq:isQ (bat s t.p)=false:=by simp[isQ];omega
 rw[if_neg h,if_neg (by rw[hq];exact zq)]
 exact Jb hr (t.unI _) hb
theorem hyEnd_ge (s:Bs) (i:Nat):i<=Yp s i:=by
 fun_induction Yp s i with
 | case1 i h ih=>omega
 | case2=>omega
theorem iName_lt {s:Bs} {i:Nat} {r:Bs} {j:Nat} (h:VY s i=some (r,j)):i<j/\j<=s.length:=by
 by_cases h0:i<s.length
 by_cases hc:Qr (bat s i)=true\/bat s i=92
 rw[JN h0 hc]at h
 have h1:=QcO h
 refine⟨?_,h1.2 (by omega)⟩
 rcases hc with hc | hc
 rw[Zc h0 hc]at h;have:=QcO h;omega
 cases he:Y2 s i with
 | none=>rw[nameGo_none h0 hc he]at h;cases h
 | some p=>obtain⟨v,k⟩:=p;rw[nameGo_esc h0 hc he]at h;have:=QcO h;have:=JB he;omega
 simp only[not_or,Bool.not_eq_true]at hc
 rw[QeY (.inr hc)]at h;cases h
 rw[QeY (.inl h0)]at h;cases h
theorem iIdent_lt {s:Bs} {i:Nat} {r:Bs} {j:Nat} (h:Qx s i=some (r,j)):i<j/\j<=s.length:=by
 unfold Qx at h
 split at h
 split at h
 cases h
 rename_i r' j' h1
 cases h
 have:=iName_lt h1
 have:=hyEnd_ge s i
 omega
 cases h
theorem QoK {s:Bs} {q i:Nat} {acc:Bs}:∀{r:Bs} {j:Nat},Vk s q i acc=some (r,j)->i<j/\j<=s.length:=by
 fun_induction Vk s q i acc<;>intro r j h
 all_goals first
  | (cases h;done)
  | (cases h;omega)
  | (rename_i hx ih;have:=JB hx;have:=ih h;omega)
  | (rename_i ih;have:=ih h;omega)
theorem Qmf {s:Bs} {i:Nat} {r:Bs} {j:Nat} (h:ZB s i=some (r,j)):i+1<j/\j<=s.length:=by
 unfold ZB at h
 split at h
 cases h
 have:=QoK h;omega
end Law
end
end Go.Proofs.YtengepcafdnalaaGreatDoor
