/-
  Parts of the proof that the law FnPrintBack holds for every input (texts Ez, Fa). Conditions: none.
-/
import Derived.Test.YtengepcafdnalaaGreatDoorM16
namespace Go.Proofs.YtengepcafdnalaaGreatDoor
open _root_.Array renaming getElem?_eq_getElem → zr, getElem?_eq_some_iff → zA
open _root_.Bool renaming and_eq_true → zk, false_or → xA
open _root_.List renaming getElem?_cons_zero → zB, length_cons → zj, mem_cons_self → xc, mem_cons → zu
open _root_.Nat renaming zero_le → zO, le_refl → zm, strongRecOn → zl
open Go.Proofs.Tryz renaming prog → zf
section
open Go Go.RowKit
def pv (D:Cx) (ds:List (Option Tmp)) (S:SS) (o:Oper):SV:=
 match o.guard with
 | none=>dv D S o.op
 | some (j,b)=>match UZ ds S j with
  | .bool c=>.gd (c==b) (dv D S o.op)
  | .gd e (.bool c)=>.gd (e&&(c==b)) (dv D S o.op)
  | _=>.undef
def UY (D:Cx) (ds:List (Option Tmp)) (S:SS) (o:Oper):SS:=putD ⟨S.env,(dh D S o.op).1,(dh D S o.op).2⟩ o.dst (pv D ds S o)
def dcH (D:Cx) (S:SS) (op:Op):List (Heap×Nat)->Prop
 | []=>True
 | h::hs=>(dc D ⟨S.env,h.1,h.2⟩ op/\dv D ⟨S.env,h.1,h.2⟩ op=dv D S op)/\dcH D S op hs
def Qcq (D:Cx) (hs:List (Heap×Nat)) (S:SS) (op:Op):Prop:=
 match JZ D op with
 | true=>dc D S op
 | false=>dcH D S op hs
def vcD (D:Cx) (ds:List (Option Tmp)) (hs:List (Heap×Nat)):List Oper->SS->(SS->Prop)->Prop
 | [],S,K=>K S
 | o::rest,S,K=>match o.guard with
  | none=>Qcq D hs S o.op/\vcD D ds hs rest (putD ⟨S.env,(dh D S o.op).1,(dh D S o.op).2⟩ o.dst (dv D S o.op)) K
  | some (j,b)=>match UZ ds S j with
   | .bool c=>JZ D o.op=false/\(c=b->Qcq D hs S o.op)/\vcD D ds hs rest (putD S o.dst (.gd (c==b) (dv D S o.op))) K
   | .gd e (.bool c)=>JZ D o.op=false/\(e=true->c=b->Qcq D hs S o.op)/\vcD D ds hs rest (putD S o.dst (.gd (e&&(c==b)) (dv D S o.op))) K
   | _=>False
def Qch (D:Cx) (ds:List (Option Tmp)):List Oper->SS->List (Heap×Nat)
 | [],_=>[]
 | o::rest,S=>match JZ D o.op with
  | true=>dh D S o.op::Qch D ds rest (UY D ds S o)
  | false=>Qch D ds rest (UY D ds S o)
def QnM (D:Cx):List Oper->Bool
 | []=>true
 | o::rest => !JZ D o.op&&QnM D rest
def vcR (D:Cx) (ops:List Oper) (S:SS) (K:SS->Prop):Prop:=
 match QnM D ops with
 | true=>vcD D (ops.map (·.dst)) [(S.heap,S.nx)] ops S K
 | false=>vcD D (ops.map (·.dst)) ((S.heap,S.nx)::Qch D (ops.map (·.dst)) ops S) ops S K
def stN (D:Cx) (ds:List (Option Tmp)) (l:List Oper) (S:SS):Nat->SS
 | 0=>S
 | i+1=>match l[i]? with
  | some o=>UY D ds (stN D ds l S i) o
  | none=>stN D ds l S i
theorem QbR (D:Cx) (ds:List (Option Tmp)) (o:Oper) (l:List Oper) (S:SS):∀i,stN D ds (o::l) S (i+1)=stN D ds l (UY D ds S o) i
 | 0=>by simp[stN]
 | i+1=>by
  have:=QbR D ds o l S i
  rw[stN,this]
  simp only[List.getElem?_cons_succ]
  rfl
def gval:SV->Option (Bool×Bool)
 | .bool c=>some (true,c)
 | .gd e (.bool c)=>some (e,c)
 | _=>none
def QjU (D:Cx) (ds:List (Option Tmp)) (hs:List (Heap×Nat)) (S:SS) (o:Oper):Prop:=
 match o.guard with
 | none=>Qcq D hs S o.op
 | some (j,b)=>∃e c,gval (UZ ds S j)=some (e,c)/\JZ D o.op=false/\(e=true->c=b->Qcq D hs S o.op)
theorem QfV {D:Cx} {ds:List (Option Tmp)} {hs:List (Heap×Nat)}:∀{l:List Oper} {S:SS} {K:SS->Prop},vcD D ds hs l S K ->
 (∀(i:Nat) (o:Oper),l[i]? = some o->QjU D ds hs (stN D ds l S i) o)/\K (stN D ds l S l.length)
 | [],S,K,h=>⟨fun i o e=>by simp at e,h⟩
 | o::l,S,K,h=>by
  have key:QjU D ds hs S o/\vcD D ds hs l (UY D ds S o) K:=by
   unfold vcD at h
   unfold QjU UY pv
   split at h
   rename_i hg
   first | exact h | (simp only[hg];exact h)
   rename_i j b hg
   split at h
   rename_i c hc
   obtain⟨h1,h2,h3⟩:=h
   simp only[hg,hc,Uy h1]
   exact⟨⟨true,c,rfl,h1,fun _=>h2⟩,h3⟩
   rename_i e c hc
   obtain⟨h1,h2,h3⟩:=h
   simp only[hg,hc,Uy h1]
   exact⟨⟨e,c,rfl,h1,h2⟩,h3⟩
   exact h.elim
  obtain⟨k1,k2⟩:=QfV key.2
  refine⟨fun i o' e=>?_,?_⟩
  . cases i with
    | zero=>
     simp only[zB,Option.some.injEq]at e
     subst e
     exact key.1
    | succ i=>
     rw[QbR]
     exact k1 i o' (by simpa using e)
  rw[zj,QbR]
  exact k2
theorem Qek (D:Cx) (ds:List (Option Tmp)) (S:SS) (o:Oper):((UY D ds S o).heap,(UY D ds S o).nx)=dh D S o.op:=by
 unfold UY putD
 cases o.dst<;>rfl
theorem Qmo {D:Cx} {ds:List (Option Tmp)}:∀{l:List Oper} {S:SS} (i:Nat),i<=l.length->((stN D ds l S i).heap,(stN D ds l S i).nx)∈(S.heap,S.nx)::Qch D ds l S
 | l,S,0,_=>xc ..
 | [],S,i+1,h=>by simp at h
 | o::l,S,i+1,h=>by
  rw[QbR]
  have:=Qmo (D:=D) (ds:=ds) (l:=l) (S:=UY D ds S o) i (by simpa using h)
  rw[Qek]at this
  unfold Qch
  split
  exact List.mem_cons_of_mem _ this
  rename_i hm
  rw[Uy hm]at this
  exact this
theorem Qjr {D:Cx} {ds:List (Option Tmp)}:∀{l:List Oper} {S:SS},QnM D l=true->Qch D ds l S=[]
 | [],S,_=>rfl
 | o::l,S,h=>by
  simp only[QnM,zk,Bool.not_eq_true']at h
  unfold Qch
  rw[h.1]
  exact Qjr h.2
theorem QmN {D:Cx} {S:SS} {op:Op}:∀{hs:List (Heap×Nat)},dcH D S op hs->∀h∈hs,dc D ⟨S.env,h.1,h.2⟩ op/\dv D ⟨S.env,h.1,h.2⟩ op=dv D S op
 | [],_,h,hm=>by simp at hm
 | x::hs,hd,h,hm=>by
  rcases zu.1 hm with rfl | hm
  exact hd.1
  exact QmN hd.2 h hm
def Qfd (e:Env) (d:Option Tmp) (v:SV):Env:=
 match d with
 | some d=>ept e d v
 | none=>e
theorem Qb4 (S:SS) (d:Option Tmp) (v:SV):putD S d v=⟨Qfd S.env d v,S.heap,S.nx⟩:=by cases d<;>rfl
theorem Qau (e:Env) (t:Nat) (v:SV):elk (ept e t v) t=(elk e t).map fun _=>v:=by
 cases h:elk e t with
 | some s=>exact US h v
 | none=>
  cases h':elk (ept e t v) t with
  | none=>rfl
  | some s=>
   obtain⟨s',hs'⟩:=ZL h'
   rw[h]at hs'
   cases hs'
section
variable (D:Cx) (ops:Array Oper) (S0:SS)
def stO (m:Nat):SS:=stN D (ops.toList.map (·.dst)) ops.toList S0 m
def QfD (m:Nat) (o:Oper):SV:=pv D (ops.toList.map (·.dst)) (stO D ops S0 m) o
def ZJ (p:Nat->Bool):Nat->Env
 | 0=>S0.env
 | m+1=>match ops[m]? with
  | some o=>if p m=true then Qfd (ZJ p m) o.dst (QfD D ops S0 m o) else ZJ p m
  | none=>ZJ p m
def hpP (p:Nat->Bool):Nat->Heap×Nat
 | 0=>(S0.heap,S0.nx)
 | m+1=>match ops[m]? with
  | some o=>if p m=true/\JZ D o.op=true then ((stO D ops S0 (m+1)).heap,(stO D ops S0 (m+1)).nx) else hpP p m
  | none=>hpP p m
end
section
variable {D:Cx} {ops:Array Oper} {S0:SS}
theorem Qeo (m:Nat) (o:Oper) (h:ops[m]? = some o):stO D ops S0 (m+1)=UY D (ops.toList.map (·.dst)) (stO D ops S0 m) o:=by
 unfold stO
 rw[stN]
 have:ops.toList[m]? = some o:=by simpa using h
 rw[this]
theorem Qh2 {p:Nat->Bool}:∀(m:Nat),m<=ops.size->(∀i,i<m->p i=true)->ZJ D ops S0 p m=(stO D ops S0 m).env
 | 0,_,_=>rfl
 | m+1,hm,h=>by
  have ih:=Qh2 m (by omega) fun i hi=>h i (by omega)
  have ho:ops[m]? = some ops[m]:=zr (by omega)
  rw[Qeo m _ ho]
  simp only[ZJ,ho]
  rw[if_pos (h m (by omega)),ih,UY,Qb4]
  rfl
theorem QhS {p:Nat->Bool}:∀(m:Nat),m<=ops.size->(∀i,i<m->p i=true)->hpP D ops S0 p m=((stO D ops S0 m).heap,(stO D ops S0 m).nx)
 | 0,_,_=>rfl
 | m+1,hm,h=>by
  have ih:=QhS m (by omega) fun i hi=>h i (by omega)
  have ho:ops[m]? = some ops[m]:=zr (by omega)
  simp only[hpP,ho]
  split
  rfl
  rename_i hn
  have hq:JZ D ops[m].op=false:=by
   cases hc:JZ D ops[m].op with
   | false=>rfl
   | true=>exact absurd ⟨h m (by omega),hc⟩ hn
  rw[ih,Qeo m _ ho,Qek,Uy hq]
theorem QaY {p q:Nat->Bool} {t:Nat}:∀(m:Nat),(∀i o,i<m->ops[i]? = some o->o.dst=some t->p i=q i)->elk (ZJ D ops S0 p m) t=elk (ZJ D ops S0 q m) t
 | 0,_=>rfl
 | m+1,h=>by
  have ih:=QaY m fun i o hi=>h i o (by omega)
  simp only[ZJ]
  split
  rename_i o ho
  by_cases hd:o.dst=some t
  rw[h m o (by omega) ho hd]
  split
  simp only[Qfd,hd,Qau,ih]
  exact ih
  have keep:∀e:Env,elk (Qfd e o.dst (QfD D ops S0 m o)) t=elk e t:=by
   intro e
   cases hc:o.dst with
   | none=>rfl
   | some d=>exact JR (fun hdt=>hd (by rw[hc,hdt])) _
  split<;>split<;>simp only[keep,ih]
  exact ih
theorem Qaq {p q:Nat->Bool}:∀(m:Nat),(∀i o,i<m->ops[i]? = some o->JZ D o.op=true->p i=q i)->hpP D ops S0 p m=hpP D ops S0 q m
 | 0,_=>rfl
 | m+1,h=>by
  have ih:=Qaq m fun i o hi=>h i o (by omega)
  simp only[hpP]
  split
  rename_i o ho
  by_cases hm:JZ D o.op=true
  rw[h m o (by omega) ho hm,ih]
  rw[if_neg (fun hc=>hm hc.2),if_neg (fun hc=>hm hc.2),ih]
  exact ih
theorem QkV {p:Nat->Bool} {hs:List (Heap×Nat)} (hh:∀i,i<=ops.size->((stO D ops S0 i).heap,(stO D ops S0 i).nx)∈hs):∀m,m<=ops.size->hpP D ops S0 p m∈hs
 | 0,_=>hh 0 (zO _)
 | m+1,hm=>by
  simp only[hpP]
  split
  split
  exact hh (m+1) hm
  exact QkV hh m (by omega)
  exact QkV hh m (by omega)
theorem Qq6 {p:Nat->Bool} {j:Nat} {oj:Oper} {t:Nat} (hj:ops[j]? = some oj) (hd:oj.dst=some t) (hp:p j=true) (hne:∀i o,i≠j->ops[i]? = some o->o.dst≠some t) :
 ∀m,elk (ZJ D ops S0 p m) t=if j<m then (elk S0.env t).map fun _=>QfD D ops S0 j oj else elk S0.env t
 | 0=>by simp[ZJ]
 | m+1=>by
  have ih:=Qq6 hj hd hp hne m
  simp only[ZJ]
  split
  rename_i o ho
  by_cases hm:m=j
  subst hm
  rw[hj]at ho
  cases ho
  rw[if_pos hp,if_pos (by omega)]
  rw[if_neg (by omega)]at ih
  simp only[Qfd,hd,Qau,ih]
  have keep:∀e:Env,elk (Qfd e o.dst (QfD D ops S0 m o)) t=elk e t:=by
   intro e
   cases hc:o.dst with
   | none=>rfl
   | some d=>exact JR (fun hdt=>hne m o hm ho (by rw[hc,hdt])) _
  have:(j<m+1) ↔ (j<m):=by omega
  simp only[this]
  split<;>simp only[keep,ih]
  rename_i ho
  have:(j<m+1) ↔ (j<m):=by
   constructor
   intro h
   rcases Nat.lt_or_ge j m with h' | h'
   exact h'
   have:j=m:=by omega
   subst this
   rw[hj]at ho;cases ho
   omega
  simp only[this]
  exact ih
theorem Qth {p p':Nat->Bool} {j:Nat} {oj:Oper} (hO:OrdOk D ops) (hj:ops[j]? = some oj) (hpj:p j=false) (hp':∀i,p' i=(decide (i=j)||p i)) (t:Nat) :
 elk (ZJ D ops S0 p' ops.size) t=elk (Qfd (ZJ D ops S0 p ops.size) oj.dst (QfD D ops S0 j oj)) t:=by
 have hjl:j<ops.size:=(zA.1 hj).1
 have other:oj.dst≠some t->elk (ZJ D ops S0 p' ops.size) t=elk (ZJ D ops S0 p ops.size) t:=fun hne=>by
  refine QaY _ fun i o hi ho hd=>?_
  rw[hp' i]
  have:i≠j:=by
   rintro rfl
   rw[hj]at ho
   cases ho
   exact hne hd
  simp[this]
 cases hd:oj.dst with
 | none=>exact other (by rw[hd];simp)
 | some d=>
  by_cases hdt:d=t
  subst hdt
  have hne:∀i o,i≠j->ops[i]? = some o->o.dst≠some d:=fun i o hij ho=>hO.dst j i oj o d (Ne.symm hij) hj ho hd
  rw[Qq6 hj hd (by rw[hp'];simp) hne,if_pos hjl]
  simp only[Qfd,Qau]
  congr 1
  have:=QaY (D:=D) (S0:=S0) (ops:=ops) (p:=p) (q:=fun _=>false) (t:=d) ops.size fun i o hi ho hd'=>by
   by_cases hij:i=j
   rw[hij];exact hpj
   exact absurd hd' (hne i o hij ho)
  rw[this]
  have e0:∀m,ZJ D ops S0 (fun _=>false) m=S0.env:=by
   intro m
   induction m with
   | zero=>rfl
   | succ m ih=>simp only[ZJ];split<;>simp[ih]
  rw[e0]
  rw[other (by rw[hd];intro h;cases h;exact hdt rfl)]
  simp only[Qfd]
  rw[JR hdt]
def QdD (p:Nat->Bool):Nat->Nat
 | 0=>0
 | m+1=>QdD p m+if p m=true then 0 else 1
theorem QjI {p:Nat->Bool}:∀m,QdD p m=0->∀i,i<m->p i=true
 | 0,_,i,hi=>by omega
 | m+1,h,i,hi=>by
  simp only[QdD]at h
  by_cases him:i=m
  subst him
  split at h
  assumption
  omega
  exact QjI m (by omega) i (by omega)
theorem QmR {p p':Nat->Bool} {j:Nat} (hpj:p j=false) (hp':∀i,p' i=(decide (i=j)||p i)):∀m,QdD p' m+(if j<m then 1 else 0)=QdD p m
 | 0=>by simp[QdD]
 | m+1=>by
  have ih:=QmR hpj hp' m
  simp only[QdD]
  by_cases hm:m=j
  subst hm
  rw[if_neg (by omega)]at ih
  simp[hp' m,hpj]
  omega
  have:(j<m+1) ↔ (j<m):=by omega
  simp only[this,hp' m,hm,decide_false,xA]
  omega
theorem QgP:∀m,QdD (fun _=>false) m=m
 | 0=>rfl
 | m+1=>by simp[QdD,QgP m]
end
end
section
open Go Go.RowKit
section
variable {D:Cx} {ops:Array Oper} {S0:SS}
theorem Qfe {q:Nat->Bool} {m:Nat}:∀n,m<=n->(∀k,m<=k->q k=false)->ZJ D ops S0 q n=ZJ D ops S0 q m
 | 0,h,_=>by rw[Nat.le_zero.1 h]
 | n+1,h,hq=>by
  by_cases hm:m=n+1
  rw[hm]
  have ih:=Qfe (q:=q) (m:=m) n (by omega) hq
  simp only[ZJ]
  rw[hq n (by omega)]
  split<;>simp[ih]
theorem Qd0 {q:Nat->Bool} {m:Nat}:∀n,m<=n->(∀k,m<=k->q k=false)->hpP D ops S0 q n=hpP D ops S0 q m
 | 0,h,_=>by rw[Nat.le_zero.1 h]
 | n+1,h,hq=>by
  by_cases hm:m=n+1
  rw[hm]
  have ih:=Qd0 (q:=q) (m:=m) n (by omega) hq
  simp only[hpP]
  rw[hq n (by omega)]
  split<;>simp[ih]
def Qde (ops:Array Oper) (p:Nat->Bool):Prop:=∀j o,ops[j]? = some o->p j=true->∀e∈o.after,Region.binds .any e=true->p e.on=true
theorem Qb2 (hO:OrdOk D ops) {j i:Nat} (h:Reach ops.toList j i):i<j:=by
 induction h with
 | one ho he hb=>exact hO.lt _ _ (by simpa using ho) _ he hb
 | far ho he hb _ ih=>exact Nat.lt_trans ih (hO.lt _ _ (by simpa using ho) _ he hb)
theorem Qhi {p:Nat->Bool} (hc:Qde ops p) {j i:Nat} (h:Reach ops.toList j i):p j=true->p i=true:=by
 induction h with
 | one ho he hb=>exact fun hj=>hc _ _ (by simpa using ho) hj _ he hb
 | far ho he hb _ ih=>exact fun hj=>ih (hc _ _ (by simpa using ho) hj _ he hb)
theorem QeE {p:Nat->Bool} (hc:Qde ops p) {j i:Nat} {o:Oper} (hj:ops[j]? = some o) (hp:∀e∈o.after,Region.binds .any e=true->p e.on=true) (h:Reach ops.toList j i):p i=true:=by
 cases h with
 | one ho he hb=>
  rw[show ops.toList[j]? = ops[j]? from by simp,hj]at ho
  cases ho
  exact hp _ he hb
 | far ho he hb h=>
  rw[show ops.toList[j]? = ops[j]? from by simp,hj]at ho
  cases ho
  exact Qhi hc h (hp _ he hb)
theorem Ql8 (hO:OrdOk D ops) {p:Nat->Bool} (hc:Qde ops p) {i:Nat} {o:Oper} (hi:ops[i]? = some o) (hpi:p i=false) (hpre:∀e∈o.after,Region.binds .any e=true->p e.on=true)
 {t:Nat} (ht:t∈o.looksAt ops):elk (ZJ D ops S0 p ops.size) t=elk (stO D ops S0 i).env t:=by
 have hil:i<ops.size:=(zA.1 hi).1
 rw[<-Qh2 (p:=fun k=>decide (k<i)) i (by omega) (fun k hk=>by simpa using hk),<-Qfe (m:=i) ops.size (by omega) (fun k hk=>by simp;omega)]
 refine QaY _ fun k ok hk hok hd=>?_
 by_cases hki:k=i
 rw[hki,hpi];simp
 rcases hO.look k i ok o t hki hok hi hd ht with h | h
 rw[QeE hc hi hpre h]
 have:=Qb2 hO h
 simp[this]
 have h1:p k=false:=by
  cases hpk:p k with
  | false=>rfl
  | true=>have:=Qhi hc h hpk;rw[hpi]at this;cases this
 have:=Qb2 hO h
 rw[h1]
 simp
 omega
theorem Qt4 (hO:OrdOk D ops) {p:Nat->Bool} (hc:Qde ops p) {i:Nat} {o:Oper} (hi:ops[i]? = some o) (hpi:p i=false) (hpre:∀e∈o.after,Region.binds .any e=true->p e.on=true)
 (hm:JZ D o.op=true) {k:Nat} {ok:Oper} (hok:ops[k]? = some ok) (hmk:JZ D ok.op=true) (hki:k≠i):p k=decide (k<i):=by
 rcases hO.mv k i ok o hki hok hi hmk hm with h | h
 rw[QeE hc hi hpre h]
 have:=Qb2 hO h
 simp[this]
 have h1:p k=false:=by
  cases hpk:p k with
  | false=>rfl
  | true=>have:=Qhi hc h hpk;rw[hpi]at this;cases this
 have:=Qb2 hO h
 rw[h1]
 simp
 omega
theorem Qhr {o:Oper} {t:Nat} (h:Operand.tmp t∈o.op.operands):t∈o.looksAt ops:=
 List.mem_append_left _ (List.mem_filterMap.2 ⟨.tmp t,by simpa using h,rfl⟩)
theorem Qk0 {o:Oper} {g:Nat} {b:Bool} {d:Tmp} (hg:o.guard=some (g,b)) (hd:(ops[g]?).bind (·.dst)=some d):d∈o.looksAt ops:=by
 unfold Oper.looksAt
 rw[hg]
 refine List.mem_append_right _ ?_
 simp only[hd]
 simp
theorem Qm1 {g0:Glob} {w0:World} {M:Nat->Prop} {ω:Wit} {S:SS} {a:Act} {w:World} (hS:Sim g0 w0 M ω S a w) {j:Nat} {c:Bool} (hc:UZ (ops.toList.map (·.dst)) S j=.bool c):yielded ops a.tmps j=some c:=by
 unfold UZ at hc
 split at hc
 rename_i d hd
 have hd':(ops[j]?).bind (·.dst)=some d:=by
  have:=Ji ops ops.toList 0 j (by simp)
  rw[hd]at this
  simpa using this.symm
 unfold ZM at hc
 cases he:elk S.env d with
 | none=>rw[he]at hc;cases hc
 | some s=>
  rw[he]at hc
  simp only[QnL]at hc
  subst hc
  obtain⟨v,h1,h2⟩:=hS.env d _ he
  obtain rfl:=h2.bool_inv
  simp[yielded,hd',h1]
 cases hc
theorem Qm2 {g0:Glob} {w0:World} {M:Nat->Prop} {ω:Wit} {S:SS} {a:Act} {w:World} (hS:Sim g0 w0 M ω S a w) {j:Nat} {e c:Bool} (hc:UZ (ops.toList.map (·.dst)) S j=.gd e (.bool c)) :
 yielded ops a.tmps j=if e=true then some c else none:=by
 unfold UZ at hc
 split at hc
 rename_i d hd
 have hd':(ops[j]?).bind (·.dst)=some d:=by
  have:=Ji ops ops.toList 0 j (by simp)
  rw[hd]at this
  simpa using this.symm
 unfold ZM at hc
 cases he:elk S.env d with
 | none=>rw[he]at hc;cases hc
 | some s=>
  rw[he]at hc
  simp only[QnL]at hc
  subst hc
  obtain⟨v,h1,h2⟩:=hS.env d _ he
  cases h2 with
  | gd _ _ _ h h'=>
   cases e with
   | true=>obtain rfl:=(h rfl).bool_inv;simp[yielded,hd',h1]
   | false=>obtain rfl:=h' rfl;simp[yielded,hd',h1];rfl
 cases hc
theorem QjW {g0:Glob} {w0:World} {M:Nat->Prop} {ω:Wit} {S:SS} {a:Act} {w:World} (hS:Sim g0 w0 M ω S a w) {j:Nat} {e c:Bool} (hc:gval (UZ (ops.toList.map (·.dst)) S j)=some (e,c)) :
 yielded ops a.tmps j=if e=true then some c else none:=by
 unfold gval at hc
 split at hc
 rename_i c' h;cases hc;exact Qm1 hS h
 rename_i e' c' h;cases hc;exact Qm2 hS h
 cases hc
theorem Qyd (hD:Qa D) (hO:OrdOk D ops) {hs:List (Heap×Nat)} (hh:∀i,i<=ops.size->((stO D ops S0 i).heap,(stO D ops S0 i).nx)∈hs)
 (hF:∀(i:Nat) (o:Oper),ops[i]? = some o->QjU D (ops.toList.map (·.dst)) hs (stO D ops S0 i) o) {K:SS->Prop} (hK:K (stO D ops S0 ops.size))
 {g0:Glob} {w0:World} {M:Nat->Prop} {Q:Exit->Act->World->Prop} (hQ:∀a w,Nx g0 w0 M K a w->Q .normal a w) :
 ∀(fuel:Nat) (listed:Array Bool) (a:Act) (w:World) (p:Nat->Bool),(∀i,p i=listed.getD i false)->listed.size=ops.size->QdD p ops.size<=fuel->Qde ops p ->
  (∃ω,Sim g0 w0 M ω ⟨ZJ D ops S0 p ops.size,(hpP D ops S0 p ops.size).1,(hpP D ops S0 p ops.size).2⟩ a w)->wpAny zf .any ops Q fuel listed a w:=by
 have fin:∀(a:Act) (w:World) (p:Nat->Bool),(∀i,i<ops.size->p i=true) ->
  (∃ω,Sim g0 w0 M ω ⟨ZJ D ops S0 p ops.size,(hpP D ops S0 p ops.size).1,(hpP D ops S0 p ops.size).2⟩ a w)->Q .normal a w:=by
  intro a w p hp ⟨ω,hS⟩
  rw[Qh2 ops.size (zm _) hp,QhS ops.size (zm _) hp]at hS
  exact hQ _ _ ⟨ω,_,hK,hS⟩
 have nil:∀(listed:Array Bool) (p:Nat->Bool),(∀i,p i=listed.getD i false)->listed.size=ops.size->Region.ready .any ops listed=[]->∀i,i<ops.size->p i=true:=by
  intro listed p hp hsz hr i
  induction i using zl with
  | _ i ih=>
   intro hi
   cases hpi:p i with
   | true=>rfl
   | false=>
    have:i∈Region.ready .any ops listed:=by
     refine mem_ready.2 ⟨?_,ops[i],zr hi,fun e he hb=>?_⟩
     have:=hp i
     rw[hpi]at this
     have hl:i<listed.size:=by omega
     simp[hl]at this ⊢
     first | exact this | exact this.symm
     have hlt:=hO.lt i _ (zr hi) e he hb
     rw[<-hp]
     exact ih e.on hlt (by omega)
    rw[hr]at this
    cases this
 intro fuel
 induction fuel with
 | zero=>
  intro listed a w p hp hsz hcnt hc hS
  have hall:=QjI ops.size (by omega:QdD p ops.size=0)
  refine⟨?_,fin a w p hall hS⟩
  cases hr:Region.ready .any ops listed with
  | nil=>rfl
  | cons i l=>
   have hi:i∈Region.ready .any ops listed:=by rw[hr];exact xc ..
   obtain⟨h1,o,ho,_⟩:=mem_ready.1 hi
   have hil:i<ops.size:=(zA.1 ho).1
   have:=hall i hil
   rw[hp i]at this
   have hl:i<listed.size:=by omega
   simp[hl]at h1 this
   rw[h1]at this
   cases this
 | succ fuel ih=>
  intro listed a w p hp hsz hcnt hc hS
  refine⟨fun hr=>fin a w p (nil listed p hp hsz hr) hS,fun i hi=>?_⟩
  obtain⟨h1,o,ho,hpre⟩:=mem_ready.1 hi
  have hil:i<ops.size:=(zA.1 ho).1
  have hl:i<listed.size:=by omega
  have hpi:p i=false:=by rw[hp i];simp[hl]at h1 ⊢;exact h1
  have hpre':∀e∈o.after,Region.binds .any e=true->p e.on=true:=fun e he hb=>by rw[hp];exact hpre e he hb
  obtain⟨ω,hS⟩:=hS
  -- the next set
  have hp':∀k,(fun k=>decide (k=i)||p k) k=(listed.setIfInBounds i true).getD k false:=by
   intro k
   by_cases hk:k=i
   subst hk;simp[hl]
   rw[getD_set_ne false (Ne.symm hk),<-hp];simp[hk]
  have hc':Qde ops fun k=>decide (k=i)||p k:=by
   intro j oj hj hpj e he hb
   by_cases hji:j=i
   subst hji
   rw[ho]at hj
   cases hj
   simp[hpre' e he hb]
   simp only[hji,decide_false,xA]at hpj
   simp[hc j oj hj hpj e he hb]
  have hcnt':QdD (fun k=>decide (k=i)||p k) ops.size<=fuel:=by
   have:=QmR (p:=p) (p':=fun k=>decide (k=i)||p k) hpi (fun _=>rfl) ops.size
   rw[if_pos hil]at this
   omega
  have next:∀(a:Act) (w:World) (ω:Wit),Sim g0 w0 M ω ⟨Qfd (ZJ D ops S0 p ops.size) o.dst (QfD D ops S0 i o),(hpP D ops S0 (fun k=>decide (k=i)||p k) ops.size).1,(hpP D ops S0 (fun k=>decide (k=i)||p k) ops.size).2⟩ a w ->
   wpAny zf .any ops Q fuel (listed.setIfInBounds i true) a w:=by
   intro a w ω hS
   refine ih _ a w (fun k=>decide (k=i)||p k) hp' (by simp[hsz]) hcnt' hc' ⟨ω,?_⟩
   have:=hS.forget (ZJ D ops S0 (fun k=>decide (k=i)||p k) ops.size) (fun t s e=>by
    rw[Qth hO ho hpi (fun _=>rfl)]at e
    exact⟨s,e,.inr rfl⟩)
   exact this
  -- what the operation sees
  have hev:∀x∈o.op.operands,ev (ZJ D ops S0 p ops.size) x=ev (stO D ops S0 i).env x:=by
   intro x hx
   cases x with
   | tmp t=>simp only[ev,ZM];rw[Ql8 hO hc ho hpi hpre' (Qhr hx)]
   | const v=>rfl
   | global g=>rfl
   | func f=>rfl
  obtain⟨e1,e2,e3⟩:=Qtl (D:=D) (h:=(hpP D ops S0 p ops.size).1) (n:=(hpP D ops S0 p ops.size).2) hev
  have hFi:=hF i o ho
  -- the operation itself
  have run:Qcq D hs (stO D ops S0 i) o.op->o.wp zf a w (Nx g0 w0 M fun S''=>S''=⟨Qfd (ZJ D ops S0 p ops.size) o.dst (dv D (stO D ops S0 i) o.op),
   (hpP D ops S0 (fun k=>decide (k=i)||p k) ops.size).1,(hpP D ops S0 (fun k=>decide (k=i)||p k) ops.size).2⟩) Q:=by
   intro hd
   unfold Qcq at hd
   split at hd
   . rename_i hm
     have hhp:hpP D ops S0 p ops.size=((stO D ops S0 i).heap,(stO D ops S0 i).nx):=by
      rw[<-QhS (p:=fun k=>decide (k<i)) i (by omega) (fun k hk=>by simpa using hk),<-Qd0 (m:=i) ops.size (by omega) (fun k hk=>by simp;omega)]
      refine Qaq _ fun k ok hk hok hmk=>?_
      by_cases hki:k=i
      . rw[hki,hpi];simp
      exact Qt4 hO hc ho hpi hpre' hm hok hmk hki
     have hhp':hpP D ops S0 (fun k=>decide (k=i)||p k) ops.size=dh D (stO D ops S0 i) o.op:=by
      have h2:=QhS (D:=D) (S0:=S0) (ops:=ops) (p:=fun k=>decide (k<i+1)) (i+1) (by omega) (fun k hk=>by simpa using hk)
      rw[Qeo i o ho,Qek]at h2
      rw[<-h2,<-Qd0 (m:=i+1) ops.size (by omega) (fun k hk=>by simp;omega)]
      refine Qaq _ fun k ok hk hok hmk=>?_
      by_cases hki:k=i
      . simp[hki]
      rw[Qt4 hO hc ho hpi hpre' hm hok hmk hki]
      simp only[hki,decide_false,xA]
      have:(k<i) ↔ (k<i+1):=by omega
      simp only[this]
     rw[hhp]at e1 e2 e3 hS
     have hd':dc D ⟨ZJ D ops S0 p ops.size,(stO D ops S0 i).heap,(stO D ops S0 i).nx⟩ o.op:=by rw[e1];exact hd
     have:=Qul hD hS hd' (Q:=Q)
     refine Oper.wp_mono (fun a' w' ⟨ω',S'',h1,h2⟩=>⟨ω',S'',?_,h2⟩) this
     rw[h1,Qb4]
     simp only at e2 e3 ⊢
     rw[e2,e3,hhp']
   rename_i hm
   have hhp':hpP D ops S0 (fun k=>decide (k=i)||p k) ops.size=hpP D ops S0 p ops.size:=by
    refine Qaq _ fun k ok hk hok hmk=>?_
    have:k≠i:=by
     rintro rfl
     rw[ho]at hok
     cases hok
     rw[hm]at hmk
     cases hmk
    simp[this]
   have hmem:=QkV (D:=D) (S0:=S0) (ops:=ops) (p:=p) hh ops.size (zm _)
   obtain⟨d1,d2⟩:=QmN hd _ hmem
   rw[<-e1]at d1
   have:=Qul hD hS d1 (Q:=Q)
   refine Oper.wp_mono (fun a' w' ⟨ω',S'',h1,h2⟩=>⟨ω',S'',?_,h2⟩) this
   rw[h1,Qb4,Uy hm,hhp']
   simp only
   rw[e2,d2]
  unfold wpOp
  rw[ho]
  simp only
  unfold QjU at hFi
  split at hFi
  rename_i hg
  rw[if_pos (by simp[Region.wanted,hg])]
  refine .inl (Oper.wp_mono (fun a' w' ⟨ω',S'',h1,h2⟩=>next a' w' ω' ?_) (run hFi))
  subst h1
  have:QfD D ops S0 i o=dv D (stO D ops S0 i) o.op:=by simp only[QfD,pv,hg]
  rw[this]
  exact h2
  rename_i j b hg
  obtain⟨e,c,hcs,hm,hd⟩:=hFi
  have hv:QfD D ops S0 i o=.gd (e&&(c==b)) (dv D (stO D ops S0 i) o.op):=by
   simp only[QfD,pv,hg]
   unfold gval at hcs
   split at hcs
   rename_i c' h;cases hcs;first | (simp only[h];done) | rfl | (simp[h];done) | simp_all
   rename_i e' c' h;cases hcs;first | (simp only[h];done) | rfl | (simp[h];done) | simp_all
   cases hcs
  have hgs:UZ (ops.toList.map (·.dst)) ⟨ZJ D ops S0 p ops.size,(hpP D ops S0 p ops.size).1,(hpP D ops S0 p ops.size).2⟩ j=UZ (ops.toList.map (·.dst)) (stO D ops S0 i) j:=by
   unfold UZ
   cases hd:Jr (ops.toList.map (·.dst)) j with
   | none=>rfl
   | some d=>
    have hd':(ops[j]?).bind (·.dst)=some d:=by
     have:=Ji ops ops.toList 0 j (by simp)
     rw[hd]at this
     simpa using this.symm
    simp only[ZM]
    rw[Ql8 hO hc ho hpi hpre' (Qk0 hg hd')]
  have hy:=QjW hS (by rw[hgs];exact hcs)
  have hw:Region.wanted o (yielded ops a.tmps)=(e&&(c==b)):=by
   simp only[Region.wanted,hg,hy]
   cases e<;>cases c<;>cases b<;>rfl
  rw[hw]
  by_cases hcb:(e&&(c==b))=true
  rw[if_pos hcb]
  have hcb':e=true/\c=b:=by simpa using hcb
  refine .inl (Oper.wp_mono (fun a' w' ⟨ω',S'',h1,h3⟩=>next a' w' ω' ?_) (run (hd hcb'.1 hcb'.2)))
  subst h1
  rw[hv]
  cases hdst:o.dst with
  | none=>rw[hdst]at h3;exact h3
  | some d'=>
   rw[hdst]at h3
   refine { h3 with env:=fun t s e=>?_ }
   rcases Qd3 e with ⟨rfl,rfl⟩ | ⟨hne,e'⟩
   obtain⟨s',hs'⟩:=ZL e
   obtain⟨v,q1,q2⟩:=h3.env d' _ (US hs' _)
   exact⟨v,q1,.gd _ _ _ (fun _=>q2) (fun hx=>by rw[hcb]at hx;cases hx)⟩
   exact h3.env t s (by show elk (ept _ d' _) t=some s;rw[JR hne];exact e')
  rw[if_neg hcb]
  have hhp':hpP D ops S0 (fun k=>decide (k=i)||p k) ops.size=hpP D ops S0 p ops.size:=by
   refine Qaq _ fun k ok hk hok hmk=>?_
   have:k≠i:=by
    rintro rfl
    rw[ho]at hok
    cases hok
    rw[hm]at hmk
    cases hmk
   simp[this]
  refine next _ w ω ?_
  rw[hv,hhp']
  have:=hS.putD (s:=.gd (e&&(c==b)) (dv D (stO D ops S0 i) o.op)) (v:=undef) (.gd _ _ _ (fun hx=>absurd hx hcb) (fun _=>rfl)) o.dst
  rw[Qb4]at this
  exact this
theorem Qup (hD:Qa D) (hB:ordB D ops=true) {g0:Glob} {w0:World} {M:Nat->Prop} {ω:Wit} {a:Act} {w:World} (hS:Sim g0 w0 M ω S0 a w) {K:SS->Prop} (h:vcR D ops.toList S0 K)
 {Q:Exit->Act->World->Prop} (hQ:∀a w,Nx g0 w0 M K a w->Q .normal a w) (hm:zf.follows .mixedOrders=true) (id:Nat):(Code.region id ops true).wp zf Q a w:=by
 have main:∃hs,(∀i,i<=ops.size->((stO D ops S0 i).heap,(stO D ops S0 i).nx)∈hs)/\vcD D (ops.toList.map (·.dst)) hs ops.toList S0 K:=by
  have hmem:∀i,i<=ops.size->((stO D ops S0 i).heap,(stO D ops S0 i).nx)∈(S0.heap,S0.nx)::Qch D (ops.toList.map (·.dst)) ops.toList S0:=fun i hi=>Qmo i (by simpa using hi)
  unfold vcR at h
  split at h
  rename_i hn
  rw[Qjr hn]at hmem
  exact⟨_,hmem,h⟩
  exact⟨_,hmem,h⟩
 obtain⟨hs,hh,hv⟩:=main
 obtain⟨h1,h2⟩:=QfV hv
 refine wp_region_any hm ?_
 have hS':Sim g0 w0 M ω S0 a { w with drawn:=w.drawn+1 }:=hS.same rfl rfl rfl rfl
 refine Qyd hD (QnH hB) hh (fun i o ho=>h1 i o (by simpa using ho)) (by simpa [stO] using h2) hQ ops.size _ a _ (fun _=>false) (fun i=>by simp[Array.getElem?_replicate];split<;>rfl) (by simp) (by rw[QgP];exact zm _)
  (fun j o _ hj=>by cases hj) ⟨ω,?_⟩
 have e1:=Qfe (D:=D) (ops:=ops) (S0:=S0) (q:=fun _=>false) (m:=0) ops.size (zO _) (fun _ _=>rfl)
 have e2:=Qd0 (D:=D) (ops:=ops) (S0:=S0) (q:=fun _=>false) (m:=0) ops.size (zO _) (fun _ _=>rfl)
 rw[e1,e2]
 exact hS'
end
end
end Go.Proofs.YtengepcafdnalaaGreatDoor
