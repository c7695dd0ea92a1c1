/-
  Parts of the proof that the law FnPrintGrammar holds for every input (texts Ez, Fa). Conditions: none.
-/
import Derived.Test.YtengepcafdnalaaGreatDoorM16
namespace Go.Proofs.YtengepcafdnalaaGreatDoor
open _root_.Array renaming getElem?_eq_getElem → zr, getElem?_eq_some_iff → zy
open _root_.Bool renaming and_eq_true → zh, not_eq_true' → zO, false_or → xz
open _root_.List renaming getElem?_cons_zero → zC, length_cons → zg, mem_cons → zp
open _root_.Nat renaming le_refl → zj, strongRecOn → zi
open Go.Proofs.Tryz renaming prog → zd
section
open Go Go.RowKit
def pv (D:Cx) (ds:List (Option Tmp)) (S:SS) (o:Oper):SV:=
 match o.guard with
 | none=>dv D S o.op
 | some (j,b)=>match QaC ds S j with
  | .bool c=>.gd (c==b) (dv D S o.op)
  | .gd e (.bool c)=>.gd (e&&(c==b)) (dv D S o.op)
  | _=>.undef
def QaB (D:Cx) (ds:List (Option Tmp)) (S:SS) (o:Oper):SS:=putD ⟨S.env,(dh D S o.op).1,(dh D S o.op).2⟩ o.dst (pv D ds S o)
def dcH (D:Cx) (S:SS) (op:Op):List (Heap×Nat)->Prop
 | []=>True
 | h::hs=>(dc D ⟨S.env,h.1,h.2⟩ op/\dv D ⟨S.env,h.1,h.2⟩ op=dv D S op)/\dcH D S op hs
def Qc1 (D:Cx) (hs:List (Heap×Nat)) (S:SS) (op:Op):Prop:=
 match Ul D op with
 | true=>dc D S op
 | false=>dcH D S op hs
def vcD (D:Cx) (ds:List (Option Tmp)) (hs:List (Heap×Nat)):List Oper->SS->(SS->Prop)->Prop
 | [],S,K=>K S
 | o::rest,S,K=>match o.guard with
  | none=>Qc1 D hs S o.op/\vcD D ds hs rest (putD ⟨S.env,(dh D S o.op).1,(dh D S o.op).2⟩ o.dst (dv D S o.op)) K
  | some (j,b)=>match QaC ds S j with
   | .bool c=>Ul D o.op=false/\(c=b->Qc1 D hs S o.op)/\vcD D ds hs rest (putD S o.dst (.gd (c==b) (dv D S o.op))) K
   | .gd e (.bool c)=>Ul D o.op=false/\(e=true->c=b->Qc1 D hs S o.op)/\vcD D ds hs rest (putD S o.dst (.gd (e&&(c==b)) (dv D S o.op))) K
   | _=>False
def QcR (D:Cx) (ds:List (Option Tmp)):List Oper->SS->List (Heap×Nat)
 | [],_=>[]
 | o::rest,S=>match Ul D o.op with
  | true=>dh D S o.op::QcR D ds rest (QaB D ds S o)
  | false=>QcR D ds rest (QaB D ds S o)
def Qov (D:Cx):List Oper->Bool
 | []=>true
 | o::rest => !Ul D o.op&&Qov D rest
def vcR (D:Cx) (ops:List Oper) (S:SS) (K:SS->Prop):Prop:=
 match Qov D ops with
 | true=>vcD D (ops.map (·.dst)) [(S.heap,S.nx)] ops S K
 | false=>vcD D (ops.map (·.dst)) ((S.heap,S.nx)::QcR D (ops.map (·.dst)) ops S) ops S K
def stN (D:Cx) (ds:List (Option Tmp)) (l:List Oper) (S:SS):Nat->SS
 | 0=>S
 | i+1=>match l[i]? with
  | some o=>QaB D ds (stN D ds l S i) o
  | none=>stN D ds l S i
theorem Qcq (D:Cx) (ds:List (Option Tmp)) (o:Oper) (l:List Oper) (S:SS):∀i,stN D ds (o::l) S (i+1)=stN D ds l (QaB D ds S o) i
 | 0=>by simp[stN]
 | i+1=>by
  have:=Qcq D ds o l S i
  rw[stN,this]
  simp only[List.getElem?_cons_succ]
  rfl
def gval:SV->Option (Bool×Bool)
 | .bool c=>some (true,c)
 | .gd e (.bool c)=>some (e,c)
 | _=>none
def QkK (D:Cx) (ds:List (Option Tmp)) (hs:List (Heap×Nat)) (S:SS) (o:Oper):Prop:=
 match o.guard with
 | none=>Qc1 D hs S o.op
 | some (j,b)=>∃e c,gval (QaC ds S j)=some (e,c)/\Ul D o.op=false/\(e=true->c=b->Qc1 D hs S o.op)
theorem Qgm {D:Cx} {ds:List (Option Tmp)} {hs:List (Heap×Nat)}:∀{l:List Oper} {S:SS} {K:SS->Prop},vcD D ds hs l S K ->
 (∀(i:Nat) (o:Oper),l[i]? = some o->QkK D ds hs (stN D ds l S i) o)/\K (stN D ds l S l.length)
 | [],S,K,h=>⟨fun i o e=>by simp at e,h⟩
 | o::l,S,K,h=>by
  have key:QkK D ds hs S o/\vcD D ds hs l (QaB D ds S o) K:=by
   unfold vcD at h
   unfold QkK QaB pv
   split at h
   rename_i hg
   first | exact h | (simp only[hg];exact h)
   rename_i j b hg
   split at h
   rename_i c hc
   obtain⟨h1,h2,h3⟩:=h
   simp only[hg,hc,U7 h1]
   exact⟨⟨true,c,rfl,h1,fun _=>h2⟩,h3⟩
   rename_i e c hc
   obtain⟨h1,h2,h3⟩:=h
   simp only[hg,hc,U7 h1]
   exact⟨⟨e,c,rfl,h1,h2⟩,h3⟩
   exact h.elim
  obtain⟨k1,k2⟩:=Qgm key.2
  refine⟨fun i o' e=>?_,?_⟩
  . cases i with
    | zero=>
     simp only[zC,Option.some.injEq]at e
     subst e
     exact key.1
    | succ i=>
     rw[Qcq]
     exact k1 i o' (by simpa using e)
  rw[zg,Qcq]
  exact k2
theorem QeL (D:Cx) (ds:List (Option Tmp)) (S:SS) (o:Oper):((QaB D ds S o).heap,(QaB D ds S o).nx)=dh D S o.op:=by
 unfold QaB putD
 cases o.dst<;>rfl
theorem Qnf {D:Cx} {ds:List (Option Tmp)}:∀{l:List Oper} {S:SS} (i:Nat),i<=l.length->((stN D ds l S i).heap,(stN D ds l S i).nx)∈(S.heap,S.nx)::QcR D ds l S
 | l,S,0,_=>List.mem_cons_self ..
 | [],S,i+1,h=>by simp at h
 | o::l,S,i+1,h=>by
  rw[Qcq]
  have:=Qnf (D:=D) (ds:=ds) (l:=l) (S:=QaB D ds S o) i (by simpa using h)
  rw[QeL]at this
  unfold QcR
  split
  exact List.mem_cons_of_mem _ this
  rename_i hm
  rw[U7 hm]at this
  exact this
theorem Qkg {D:Cx} {ds:List (Option Tmp)}:∀{l:List Oper} {S:SS},Qov D l=true->QcR D ds l S=[]
 | [],S,_=>rfl
 | o::l,S,h=>by
  simp only[Qov,zh,zO]at h
  unfold QcR
  rw[h.1]
  exact Qkg h.2
theorem QnA {D:Cx} {S:SS} {op:Op}:∀{hs:List (Heap×Nat)},dcH D S op hs->∀h∈hs,dc D ⟨S.env,h.1,h.2⟩ op/\dv D ⟨S.env,h.1,h.2⟩ op=dv D S op
 | [],_,h,hm=>by simp at hm
 | x::hs,hd,h,hm=>by
  rcases zp.1 hm with rfl | hm
  exact hd.1
  exact QnA hd.2 h hm
def QfK (e:Env) (d:Option Tmp) (v:SV):Env:=
 match d with
 | some d=>ept e d v
 | none=>e
theorem QcE (S:SS) (d:Option Tmp) (v:SV):putD S d v=⟨QfK S.env d v,S.heap,S.nx⟩:=by cases d<;>rfl
theorem Qbb (e:Env) (t:Nat) (v:SV):elk (ept e t v) t=(elk e t).map fun _=>v:=by
 cases h:elk e t with
 | some s=>exact Qat h v
 | none=>
  cases h':elk (ept e t v) t with
  | none=>rfl
  | some s=>
   obtain⟨s',hs'⟩:=Z5 h'
   rw[h]at hs'
   cases hs'
section
variable (D:Cx) (ops:Array Oper) (S0:SS)
def stO (m:Nat):SS:=stN D (ops.toList.map (·.dst)) ops.toList S0 m
def Qf6 (m:Nat) (o:Oper):SV:=pv D (ops.toList.map (·.dst)) (stO D ops S0 m) o
def Z3 (p:Nat->Bool):Nat->Env
 | 0=>S0.env
 | m+1=>match ops[m]? with
  | some o=>if p m=true then QfK (Z3 p m) o.dst (Qf6 D ops S0 m o) else Z3 p m
  | none=>Z3 p m
def hpP (p:Nat->Bool):Nat->Heap×Nat
 | 0=>(S0.heap,S0.nx)
 | m+1=>match ops[m]? with
  | some o=>if p m=true/\Ul D o.op=true then ((stO D ops S0 (m+1)).heap,(stO D ops S0 (m+1)).nx) else hpP p m
  | none=>hpP p m
end
section
variable {D:Cx} {ops:Array Oper} {S0:SS}
theorem QeP (m:Nat) (o:Oper) (h:ops[m]? = some o):stO D ops S0 (m+1)=QaB D (ops.toList.map (·.dst)) (stO D ops S0 m) o:=by
 unfold stO
 rw[stN]
 have:ops.toList[m]? = some o:=by simpa using h
 rw[this]
theorem Qix {p:Nat->Bool}:∀(m:Nat),m<=ops.size->(∀i,i<m->p i=true)->Z3 D ops S0 p m=(stO D ops S0 m).env
 | 0,_,_=>rfl
 | m+1,hm,h=>by
  have ih:=Qix m (by omega) fun i hi=>h i (by omega)
  have ho:ops[m]? = some ops[m]:=zr (by omega)
  rw[QeP m _ ho]
  simp only[Z3,ho]
  rw[if_pos (h m (by omega)),ih,QaB,QcE]
  rfl
theorem Qio {p:Nat->Bool}:∀(m:Nat),m<=ops.size->(∀i,i<m->p i=true)->hpP D ops S0 p m=((stO D ops S0 m).heap,(stO D ops S0 m).nx)
 | 0,_,_=>rfl
 | m+1,hm,h=>by
  have ih:=Qio m (by omega) fun i hi=>h i (by omega)
  have ho:ops[m]? = some ops[m]:=zr (by omega)
  simp only[hpP,ho]
  split
  rfl
  rename_i hn
  have hq:Ul D ops[m].op=false:=by
   cases hc:Ul D ops[m].op with
   | false=>rfl
   | true=>exact absurd ⟨h m (by omega),hc⟩ hn
  rw[ih,QeP m _ ho,QeL,U7 hq]
theorem Qbw {p q:Nat->Bool} {t:Nat}:∀(m:Nat),(∀i o,i<m->ops[i]? = some o->o.dst=some t->p i=q i)->elk (Z3 D ops S0 p m) t=elk (Z3 D ops S0 q m) t
 | 0,_=>rfl
 | m+1,h=>by
  have ih:=Qbw m fun i o hi=>h i o (by omega)
  simp only[Z3]
  split
  rename_i o ho
  by_cases hd:o.dst=some t
  rw[h m o (by omega) ho hd]
  split
  simp only[QfK,hd,Qbb,ih]
  exact ih
  have keep:∀e:Env,elk (QfK e o.dst (Qf6 D ops S0 m o)) t=elk e t:=by
   intro e
   cases hc:o.dst with
   | none=>rfl
   | some d=>exact Uc (fun hdt=>hd (by rw[hc,hdt])) _
  split<;>split<;>simp only[keep,ih]
  exact ih
theorem Qa5 {p q:Nat->Bool}:∀(m:Nat),(∀i o,i<m->ops[i]? = some o->Ul D o.op=true->p i=q i)->hpP D ops S0 p m=hpP D ops S0 q m
 | 0,_=>rfl
 | m+1,h=>by
  have ih:=Qa5 m fun i o hi=>h i o (by omega)
  simp only[hpP]
  split
  rename_i o ho
  by_cases hm:Ul D o.op=true
  rw[h m o (by omega) ho hm,ih]
  rw[if_neg (fun hc=>hm hc.2),if_neg (fun hc=>hm hc.2),ih]
  exact ih
theorem QlP {p:Nat->Bool} {hs:List (Heap×Nat)} (hh:∀i,i<=ops.size->((stO D ops S0 i).heap,(stO D ops S0 i).nx)∈hs):∀m,m<=ops.size->hpP D ops S0 p m∈hs
 | 0,_=>hh 0 (Nat.zero_le _)
 | m+1,hm=>by
  simp only[hpP]
  split
  split
  exact hh (m+1) hm
  exact QlP hh m (by omega)
  exact QlP hh m (by omega)
theorem QrX {p:Nat->Bool} {j:Nat} {oj:Oper} {t:Nat} (hj:ops[j]? = some oj) (hd:oj.dst=some t) (hp:p j=true) (hne:∀i o,i≠j->ops[i]? = some o->o.dst≠some t) :
 ∀m,elk (Z3 D ops S0 p m) t=if j<m then (elk S0.env t).map fun _=>Qf6 D ops S0 j oj else elk S0.env t
 | 0=>by simp[Z3]
 | m+1=>by
  have ih:=QrX hj hd hp hne m
  simp only[Z3]
  split
  rename_i o ho
  by_cases hm:m=j
  subst hm
  rw[hj]at ho
  cases ho
  rw[if_pos hp,if_pos (by omega)]
  rw[if_neg (by omega)]at ih
  simp only[QfK,hd,Qbb,ih]
  have keep:∀e:Env,elk (QfK e o.dst (Qf6 D ops S0 m o)) t=elk e t:=by
   intro e
   cases hc:o.dst with
   | none=>rfl
   | some d=>exact Uc (fun hdt=>hne m o hm ho (by rw[hc,hdt])) _
  have:(j<m+1) ↔ (j<m):=by omega
  simp only[this]
  split<;>simp only[keep,ih]
  rename_i ho
  have:(j<m+1) ↔ (j<m):=by
   constructor
   intro h
   rcases Nat.lt_or_ge j m with h' | h'
   exact h'
   have:j=m:=by omega
   subst this
   rw[hj]at ho;cases ho
   omega
  simp only[this]
  exact ih
theorem Qt7 {p p':Nat->Bool} {j:Nat} {oj:Oper} (hO:OrdOk D ops) (hj:ops[j]? = some oj) (hpj:p j=false) (hp':∀i,p' i=(decide (i=j)||p i)) (t:Nat) :
 elk (Z3 D ops S0 p' ops.size) t=elk (QfK (Z3 D ops S0 p ops.size) oj.dst (Qf6 D ops S0 j oj)) t:=by
 have hjl:j<ops.size:=(zy.1 hj).1
 have other:oj.dst≠some t->elk (Z3 D ops S0 p' ops.size) t=elk (Z3 D ops S0 p ops.size) t:=fun hne=>by
  refine Qbw _ fun i o hi ho hd=>?_
  rw[hp' i]
  have:i≠j:=by
   rintro rfl
   rw[hj]at ho
   cases ho
   exact hne hd
  simp[this]
 cases hd:oj.dst with
 | none=>exact other (by rw[hd];simp)
 | some d=>
  by_cases hdt:d=t
  subst hdt
  have hne:∀i o,i≠j->ops[i]? = some o->o.dst≠some d:=fun i o hij ho=>hO.dst j i oj o d (Ne.symm hij) hj ho hd
  rw[QrX hj hd (by rw[hp'];simp) hne,if_pos hjl]
  simp only[QfK,Qbb]
  congr 1
  have:=Qbw (D:=D) (S0:=S0) (ops:=ops) (p:=p) (q:=fun _=>false) (t:=d) ops.size fun i o hi ho hd'=>by
   by_cases hij:i=j
   rw[hij];exact hpj
   exact absurd hd' (hne i o hij ho)
  rw[this]
  have e0:∀m,Z3 D ops S0 (fun _=>false) m=S0.env:=by
   intro m
   induction m with
   | zero=>rfl
   | succ m ih=>simp only[Z3];split<;>simp[ih]
  rw[e0]
  rw[other (by rw[hd];intro h;cases h;exact hdt rfl)]
  simp only[QfK]
  rw[Uc hdt]
def Qd9 (p:Nat->Bool):Nat->Nat
 | 0=>0
 | m+1=>Qd9 p m+if p m=true then 0 else 1
theorem Qkx {p:Nat->Bool}:∀m,Qd9 p m=0->∀i,i<m->p i=true
 | 0,_,i,hi=>by omega
 | m+1,h,i,hi=>by
  simp only[Qd9]at h
  by_cases him:i=m
  subst him
  split at h
  assumption
  omega
  exact Qkx m (by omega) i (by omega)
theorem QnF {p p':Nat->Bool} {j:Nat} (hpj:p j=false) (hp':∀i,p' i=(decide (i=j)||p i)):∀m,Qd9 p' m+(if j<m then 1 else 0)=Qd9 p m
 | 0=>by simp[Qd9]
 | m+1=>by
  have ih:=QnF hpj hp' m
  simp only[Qd9]
  by_cases hm:m=j
  subst hm
  rw[if_neg (by omega)]at ih
  simp[hp' m,hpj]
  omega
  have:(j<m+1) ↔ (j<m):=by omega
  simp only[this,hp' m,hm,decide_false,xz]
  omega
theorem Qhl:∀m,Qd9 (fun _=>false) m=m
 | 0=>rfl
 | m+1=>by simp[Qd9,Qhl m]
end
end
section
open Go Go.RowKit
section
variable {D:Cx} {ops:Array Oper} {S0:SS}
theorem QfL {q:Nat->Bool} {m:Nat}:∀n,m<=n->(∀k,m<=k->q k=false)->Z3 D ops S0 q n=Z3 D ops S0 q m
 | 0,h,_=>by rw[Nat.le_zero.1 h]
 | n+1,h,hq=>by
  by_cases hm:m=n+1
  rw[hm]
  have ih:=QfL (q:=q) (m:=m) n (by omega) hq
  simp only[Z3]
  rw[hq n (by omega)]
  split<;>simp[ih]
theorem Qes {q:Nat->Bool} {m:Nat}:∀n,m<=n->(∀k,m<=k->q k=false)->hpP D ops S0 q n=hpP D ops S0 q m
 | 0,h,_=>by rw[Nat.le_zero.1 h]
 | n+1,h,hq=>by
  by_cases hm:m=n+1
  rw[hm]
  have ih:=Qes (q:=q) (m:=m) n (by omega) hq
  simp only[hpP]
  rw[hq n (by omega)]
  split<;>simp[ih]
def QdL (ops:Array Oper) (p:Nat->Bool):Prop:=∀j o,ops[j]? = some o->p j=true->∀e∈o.after,Region.binds .any e=true->p e.on=true
theorem QcC (hO:OrdOk D ops) {j i:Nat} (h:Reach ops.toList j i):i<j:=by
 induction h with
 | one ho he hb=>exact hO.lt _ _ (by simpa using ho) _ he hb
 | far ho he hb _ ih=>exact Nat.lt_trans ih (hO.lt _ _ (by simpa using ho) _ he hb)
theorem QhO {p:Nat->Bool} (hc:QdL ops p) {j i:Nat} (h:Reach ops.toList j i):p j=true->p i=true:=by
 induction h with
 | one ho he hb=>exact fun hj=>hc _ _ (by simpa using ho) hj _ he hb
 | far ho he hb _ ih=>exact fun hj=>ih (hc _ _ (by simpa using ho) hj _ he hb)
theorem Qe6 {p:Nat->Bool} (hc:QdL ops p) {j i:Nat} {o:Oper} (hj:ops[j]? = some o) (hp:∀e∈o.after,Region.binds .any e=true->p e.on=true) (h:Reach ops.toList j i):p i=true:=by
 cases h with
 | one ho he hb=>
  rw[show ops.toList[j]? = ops[j]? from by simp,hj]at ho
  cases ho
  exact hp _ he hb
 | far ho he hb h=>
  rw[show ops.toList[j]? = ops[j]? from by simp,hj]at ho
  cases ho
  exact QhO hc h (hp _ he hb)
theorem Qm0 (hO:OrdOk D ops) {p:Nat->Bool} (hc:QdL ops p) {i:Nat} {o:Oper} (hi:ops[i]? = some o) (hpi:p i=false) (hpre:∀e∈o.after,Region.binds .any e=true->p e.on=true)
 {t:Nat} (ht:t∈o.looksAt ops):elk (Z3 D ops S0 p ops.size) t=elk (stO D ops S0 i).env t:=by
 have hil:i<ops.size:=(zy.1 hi).1
 rw[<-Qix (p:=fun k=>decide (k<i)) i (by omega) (fun k hk=>by simpa using hk),<-QfL (m:=i) ops.size (by omega) (fun k hk=>by simp;omega)]
 refine Qbw _ fun k ok hk hok hd=>?_
 by_cases hki:k=i
 rw[hki,hpi];simp
 rcases hO.look k i ok o t hki hok hi hd ht with h | h
 rw[Qe6 hc hi hpre h]
 have:=QcC hO h
 simp[this]
 have h1:p k=false:=by
  cases hpk:p k with
  | false=>rfl
  | true=>have:=QhO hc h hpk;rw[hpi]at this;cases this
 have:=QcC hO h
 rw[h1]
 simp
 omega
theorem Qu2 (hO:OrdOk D ops) {p:Nat->Bool} (hc:QdL ops p) {i:Nat} {o:Oper} (hi:ops[i]? = some o) (hpi:p i=false) (hpre:∀e∈o.after,Region.binds .any e=true->p e.on=true)
 (hm:Ul D o.op=true) {k:Nat} {ok:Oper} (hok:ops[k]? = some ok) (hmk:Ul D ok.op=true) (hki:k≠i):p k=decide (k<i):=by
 rcases hO.mv k i ok o hki hok hi hmk hm with h | h
 rw[Qe6 hc hi hpre h]
 have:=QcC hO h
 simp[this]
 have h1:p k=false:=by
  cases hpk:p k with
  | false=>rfl
  | true=>have:=QhO hc h hpk;rw[hpi]at this;cases this
 have:=QcC hO h
 rw[h1]
 simp
 omega
theorem QhX {o:Oper} {t:Nat} (h:Operand.tmp t∈o.op.operands):t∈o.looksAt ops:=
 List.mem_append_left _ (List.mem_filterMap.2 ⟨.tmp t,by simpa using h,rfl⟩)
theorem QlV {o:Oper} {g:Nat} {b:Bool} {d:Tmp} (hg:o.guard=some (g,b)) (hd:(ops[g]?).bind (·.dst)=some d):d∈o.looksAt ops:=by
 unfold Oper.looksAt
 rw[hg]
 refine List.mem_append_right _ ?_
 simp only[hd]
 simp
theorem QnO {g0:Glob} {w0:World} {M:Nat->Prop} {ω:Wit} {S:SS} {a:Act} {w:World} (hS:Sim g0 w0 M ω S a w) {j:Nat} {c:Bool} (hc:QaC (ops.toList.map (·.dst)) S j=.bool c):yielded ops a.tmps j=some c:=by
 unfold QaC at hc
 split at hc
 rename_i d hd
 have hd':(ops[j]?).bind (·.dst)=some d:=by
  have:=JC ops ops.toList 0 j (by simp)
  rw[hd]at this
  simpa using this.symm
 unfold Z6 at hc
 cases he:elk S.env d with
 | none=>rw[he]at hc;cases hc
 | some s=>
  rw[he]at hc
  simp only[Qou]at hc
  subst hc
  obtain⟨v,h1,h2⟩:=hS.env d _ he
  obtain rfl:=h2.bool_inv
  simp[yielded,hd',h1]
 cases hc
theorem QnP {g0:Glob} {w0:World} {M:Nat->Prop} {ω:Wit} {S:SS} {a:Act} {w:World} (hS:Sim g0 w0 M ω S a w) {j:Nat} {e c:Bool} (hc:QaC (ops.toList.map (·.dst)) S j=.gd e (.bool c)) :
 yielded ops a.tmps j=if e=true then some c else none:=by
 unfold QaC at hc
 split at hc
 rename_i d hd
 have hd':(ops[j]?).bind (·.dst)=some d:=by
  have:=JC ops ops.toList 0 j (by simp)
  rw[hd]at this
  simpa using this.symm
 unfold Z6 at hc
 cases he:elk S.env d with
 | none=>rw[he]at hc;cases hc
 | some s=>
  rw[he]at hc
  simp only[Qou]at hc
  subst hc
  obtain⟨v,h1,h2⟩:=hS.env d _ he
  cases h2 with
  | gd _ _ _ h h'=>
   cases e with
   | true=>obtain rfl:=(h rfl).bool_inv;simp[yielded,hd',h1]
   | false=>obtain rfl:=h' rfl;simp[yielded,hd',h1];rfl
 cases hc
theorem QkM {g0:Glob} {w0:World} {M:Nat->Prop} {ω:Wit} {S:SS} {a:Act} {w:World} (hS:Sim g0 w0 M ω S a w) {j:Nat} {e c:Bool} (hc:gval (QaC (ops.toList.map (·.dst)) S j)=some (e,c)) :
 yielded ops a.tmps j=if e=true then some c else none:=by
 unfold gval at hc
 split at hc
 rename_i c' h;cases hc;exact QnO hS h
 rename_i e' c' h;cases hc;exact QnP hS h
 cases hc
theorem Qzi (hD:Qb D) (hO:OrdOk D ops) {hs:List (Heap×Nat)} (hh:∀i,i<=ops.size->((stO D ops S0 i).heap,(stO D ops S0 i).nx)∈hs)
 (hF:∀(i:Nat) (o:Oper),ops[i]? = some o->QkK D (ops.toList.map (·.dst)) hs (stO D ops S0 i) o) {K:SS->Prop} (hK:K (stO D ops S0 ops.size))
 {g0:Glob} {w0:World} {M:Nat->Prop} {Q:Exit->Act->World->Prop} (hQ:∀a w,Nx g0 w0 M K a w->Q .normal a w) :
 ∀(fuel:Nat) (listed:Array Bool) (a:Act) (w:World) (p:Nat->Bool),(∀i,p i=listed.getD i false)->listed.size=ops.size->Qd9 p ops.size<=fuel->QdL ops p ->
  (∃ω,Sim g0 w0 M ω ⟨Z3 D ops S0 p ops.size,(hpP D ops S0 p ops.size).1,(hpP D ops S0 p ops.size).2⟩ a w)->wpAny zd .any ops Q fuel listed a w:=by
 have fin:∀(a:Act) (w:World) (p:Nat->Bool),(∀i,i<ops.size->p i=true) ->
  (∃ω,Sim g0 w0 M ω ⟨Z3 D ops S0 p ops.size,(hpP D ops S0 p ops.size).1,(hpP D ops S0 p ops.size).2⟩ a w)->Q .normal a w:=by
  intro a w p hp ⟨ω,hS⟩
  rw[Qix ops.size (zj _) hp,Qio ops.size (zj _) hp]at hS
  exact hQ _ _ ⟨ω,_,hK,hS⟩
 have nil:∀(listed:Array Bool) (p:Nat->Bool),(∀i,p i=listed.getD i false)->listed.size=ops.size->Region.ready .any ops listed=[]->∀i,i<ops.size->p i=true:=by
  intro listed p hp hsz hr i
  induction i using zi with
  | _ i ih=>
   intro hi
   cases hpi:p i with
   | true=>rfl
   | false=>
    have:i∈Region.ready .any ops listed:=by
     refine mem_ready.2 ⟨?_,ops[i],zr hi,fun e he hb=>?_⟩
     have:=hp i
     rw[hpi]at this
     have hl:i<listed.size:=by omega
     simp[hl]at this ⊢
     first | exact this | exact this.symm
     have hlt:=hO.lt i _ (zr hi) e he hb
     rw[<-hp]
     exact ih e.on hlt (by omega)
    rw[hr]at this
    cases this
 intro fuel
 induction fuel with
 | zero=>
  intro listed a w p hp hsz hcnt hc hS
  have hall:=Qkx ops.size (by omega:Qd9 p ops.size=0)
  refine⟨?_,fin a w p hall hS⟩
  cases hr:Region.ready .any ops listed with
  | nil=>rfl
  | cons i l=>
   have hi:i∈Region.ready .any ops listed:=by rw[hr];exact List.mem_cons_self ..
   obtain⟨h1,o,ho,_⟩:=mem_ready.1 hi
   have hil:i<ops.size:=(zy.1 ho).1
   have:=hall i hil
   rw[hp i]at this
   have hl:i<listed.size:=by omega
   simp[hl]at h1 this
   rw[h1]at this
   cases this
 | succ fuel ih=>
  intro listed a w p hp hsz hcnt hc hS
  refine⟨fun hr=>fin a w p (nil listed p hp hsz hr) hS,fun i hi=>?_⟩
  obtain⟨h1,o,ho,hpre⟩:=mem_ready.1 hi
  have hil:i<ops.size:=(zy.1 ho).1
  have hl:i<listed.size:=by omega
  have hpi:p i=false:=by rw[hp i];simp[hl]at h1 ⊢;exact h1
  have hpre':∀e∈o.after,Region.binds .any e=true->p e.on=true:=fun e he hb=>by rw[hp];exact hpre e he hb
  obtain⟨ω,hS⟩:=hS
  -- the next set
  have hp':∀k,(fun k=>decide (k=i)||p k) k=(listed.setIfInBounds i true).getD k false:=by
   intro k
   by_cases hk:k=i
   subst hk;simp[hl]
   rw[getD_set_ne false (Ne.symm hk),<-hp];simp[hk]
  have hc':QdL ops fun k=>decide (k=i)||p k:=by
   intro j oj hj hpj e he hb
   by_cases hji:j=i
   subst hji
   rw[ho]at hj
   cases hj
   simp[hpre' e he hb]
   simp only[hji,decide_false,xz]at hpj
   simp[hc j oj hj hpj e he hb]
  have hcnt':Qd9 (fun k=>decide (k=i)||p k) ops.size<=fuel:=by
   have:=QnF (p:=p) (p':=fun k=>decide (k=i)||p k) hpi (fun _=>rfl) ops.size
   rw[if_pos hil]at this
   omega
  have next:∀(a:Act) (w:World) (ω:Wit),Sim g0 w0 M ω ⟨QfK (Z3 D ops S0 p ops.size) o.dst (Qf6 D ops S0 i o),(hpP D ops S0 (fun k=>decide (k=i)||p k) ops.size).1,(hpP D ops S0 (fun k=>decide (k=i)||p k) ops.size).2⟩ a w ->
   wpAny zd .any ops Q fuel (listed.setIfInBounds i true) a w:=by
   intro a w ω hS
   refine ih _ a w (fun k=>decide (k=i)||p k) hp' (by simp[hsz]) hcnt' hc' ⟨ω,?_⟩
   have:=hS.forget (Z3 D ops S0 (fun k=>decide (k=i)||p k) ops.size) (fun t s e=>by
    rw[Qt7 hO ho hpi (fun _=>rfl)]at e
    exact⟨s,e,.inr rfl⟩)
   exact this
  -- what the operation sees
  have hev:∀x∈o.op.operands,ev (Z3 D ops S0 p ops.size) x=ev (stO D ops S0 i).env x:=by
   intro x hx
   cases x with
   | tmp t=>simp only[ev,Z6];rw[Qm0 hO hc ho hpi hpre' (QhX hx)]
   | const v=>rfl
   | global g=>rfl
   | func f=>rfl
  obtain⟨e1,e2,e3⟩:=Qub (D:=D) (h:=(hpP D ops S0 p ops.size).1) (n:=(hpP D ops S0 p ops.size).2) hev
  have hFi:=hF i o ho
  -- the operation itself
  have run:Qc1 D hs (stO D ops S0 i) o.op->o.wp zd a w (Nx g0 w0 M fun S''=>S''=⟨QfK (Z3 D ops S0 p ops.size) o.dst (dv D (stO D ops S0 i) o.op),
   (hpP D ops S0 (fun k=>decide (k=i)||p k) ops.size).1,(hpP D ops S0 (fun k=>decide (k=i)||p k) ops.size).2⟩) Q:=by
   intro hd
   unfold Qc1 at hd
   split at hd
   . rename_i hm
     have hhp:hpP D ops S0 p ops.size=((stO D ops S0 i).heap,(stO D ops S0 i).nx):=by
      rw[<-Qio (p:=fun k=>decide (k<i)) i (by omega) (fun k hk=>by simpa using hk),<-Qes (m:=i) ops.size (by omega) (fun k hk=>by simp;omega)]
      refine Qa5 _ fun k ok hk hok hmk=>?_
      by_cases hki:k=i
      . rw[hki,hpi];simp
      exact Qu2 hO hc ho hpi hpre' hm hok hmk hki
     have hhp':hpP D ops S0 (fun k=>decide (k=i)||p k) ops.size=dh D (stO D ops S0 i) o.op:=by
      have h2:=Qio (D:=D) (S0:=S0) (ops:=ops) (p:=fun k=>decide (k<i+1)) (i+1) (by omega) (fun k hk=>by simpa using hk)
      rw[QeP i o ho,QeL]at h2
      rw[<-h2,<-Qes (m:=i+1) ops.size (by omega) (fun k hk=>by simp;omega)]
      refine Qa5 _ fun k ok hk hok hmk=>?_
      by_cases hki:k=i
      . simp[hki]
      rw[Qu2 hO hc ho hpi hpre' hm hok hmk hki]
      simp only[hki,decide_false,xz]
      have:(k<i) ↔ (k<i+1):=by omega
      simp only[this]
     rw[hhp]at e1 e2 e3 hS
     have hd':dc D ⟨Z3 D ops S0 p ops.size,(stO D ops S0 i).heap,(stO D ops S0 i).nx⟩ o.op:=by rw[e1];exact hd
     have:=Qvl hD hS hd' (Q:=Q)
     refine Oper.wp_mono (fun a' w' ⟨ω',S'',h1,h2⟩=>⟨ω',S'',?_,h2⟩) this
     rw[h1,QcE]
     simp only at e2 e3 ⊢
     rw[e2,e3,hhp']
   rename_i hm
   have hhp':hpP D ops S0 (fun k=>decide (k=i)||p k) ops.size=hpP D ops S0 p ops.size:=by
    refine Qa5 _ fun k ok hk hok hmk=>?_
    have:k≠i:=by
     rintro rfl
     rw[ho]at hok
     cases hok
     rw[hm]at hmk
     cases hmk
    simp[this]
   have hmem:=QlP (D:=D) (S0:=S0) (ops:=ops) (p:=p) hh ops.size (zj _)
   obtain⟨d1,d2⟩:=QnA hd _ hmem
   rw[<-e1]at d1
   have:=Qvl hD hS d1 (Q:=Q)
   refine Oper.wp_mono (fun a' w' ⟨ω',S'',h1,h2⟩=>⟨ω',S'',?_,h2⟩) this
   rw[h1,QcE,U7 hm,hhp']
   simp only
   rw[e2,d2]
  unfold wpOp
  rw[ho]
  simp only
  unfold QkK at hFi
  split at hFi
  rename_i hg
  rw[if_pos (by simp[Region.wanted,hg])]
  refine .inl (Oper.wp_mono (fun a' w' ⟨ω',S'',h1,h2⟩=>next a' w' ω' ?_) (run hFi))
  subst h1
  have:Qf6 D ops S0 i o=dv D (stO D ops S0 i) o.op:=by simp only[Qf6,pv,hg]
  rw[this]
  exact h2
  rename_i j b hg
  obtain⟨e,c,hcs,hm,hd⟩:=hFi
  have hv:Qf6 D ops S0 i o=.gd (e&&(c==b)) (dv D (stO D ops S0 i) o.op):=by
   simp only[Qf6,pv,hg]
   unfold gval at hcs
   split at hcs
   rename_i c' h;cases hcs;first | (simp only[h];done) | rfl | (simp[h];done) | simp_all
   rename_i e' c' h;cases hcs;first | (simp only[h];done) | rfl | (simp[h];done) | simp_all
   cases hcs
  have hgs:QaC (ops.toList.map (·.dst)) ⟨Z3 D ops S0 p ops.size,(hpP D ops S0 p ops.size).1,(hpP D ops S0 p ops.size).2⟩ j=QaC (ops.toList.map (·.dst)) (stO D ops S0 i) j:=by
   unfold QaC
   cases hd:JM (ops.toList.map (·.dst)) j with
   | none=>rfl
   | some d=>
    have hd':(ops[j]?).bind (·.dst)=some d:=by
     have:=JC ops ops.toList 0 j (by simp)
     rw[hd]at this
     simpa using this.symm
    simp only[Z6]
    rw[Qm0 hO hc ho hpi hpre' (QlV hg hd')]
  have hy:=QkM hS (by rw[hgs];exact hcs)
  have hw:Region.wanted o (yielded ops a.tmps)=(e&&(c==b)):=by
   simp only[Region.wanted,hg,hy]
   cases e<;>cases c<;>cases b<;>rfl
  rw[hw]
  by_cases hcb:(e&&(c==b))=true
  rw[if_pos hcb]
  have hcb':e=true/\c=b:=by simpa using hcb
  refine .inl (Oper.wp_mono (fun a' w' ⟨ω',S'',h1,h3⟩=>next a' w' ω' ?_) (run (hd hcb'.1 hcb'.2)))
  subst h1
  rw[hv]
  cases hdst:o.dst with
  | none=>rw[hdst]at h3;exact h3
  | some d'=>
   rw[hdst]at h3
   refine { h3 with env:=fun t s e=>?_ }
   rcases Qev e with ⟨rfl,rfl⟩ | ⟨hne,e'⟩
   obtain⟨s',hs'⟩:=Z5 e
   obtain⟨v,q1,q2⟩:=h3.env d' _ (Qat hs' _)
   exact⟨v,q1,.gd _ _ _ (fun _=>q2) (fun hx=>by rw[hcb]at hx;cases hx)⟩
   exact h3.env t s (by show elk (ept _ d' _) t=some s;rw[Uc hne];exact e')
  rw[if_neg hcb]
  have hhp':hpP D ops S0 (fun k=>decide (k=i)||p k) ops.size=hpP D ops S0 p ops.size:=by
   refine Qa5 _ fun k ok hk hok hmk=>?_
   have:k≠i:=by
    rintro rfl
    rw[ho]at hok
    cases hok
    rw[hm]at hmk
    cases hmk
   simp[this]
  refine next _ w ω ?_
  rw[hv,hhp']
  have:=hS.putD (s:=.gd (e&&(c==b)) (dv D (stO D ops S0 i) o.op)) (v:=undef) (.gd _ _ _ (fun hx=>absurd hx hcb) (fun _=>rfl)) o.dst
  rw[QcE]at this
  exact this
theorem Qvp (hD:Qb D) (hB:ordB D ops=true) {g0:Glob} {w0:World} {M:Nat->Prop} {ω:Wit} {a:Act} {w:World} (hS:Sim g0 w0 M ω S0 a w) {K:SS->Prop} (h:vcR D ops.toList S0 K)
 {Q:Exit->Act->World->Prop} (hQ:∀a w,Nx g0 w0 M K a w->Q .normal a w) (hm:zd.follows .mixedOrders=true) (id:Nat):(Code.region id ops true).wp zd Q a w:=by
 have main:∃hs,(∀i,i<=ops.size->((stO D ops S0 i).heap,(stO D ops S0 i).nx)∈hs)/\vcD D (ops.toList.map (·.dst)) hs ops.toList S0 K:=by
  have hmem:∀i,i<=ops.size->((stO D ops S0 i).heap,(stO D ops S0 i).nx)∈(S0.heap,S0.nx)::QcR D (ops.toList.map (·.dst)) ops.toList S0:=fun i hi=>Qnf i (by simpa using hi)
  unfold vcR at h
  split at h
  rename_i hn
  rw[Qkg hn]at hmem
  exact⟨_,hmem,h⟩
  exact⟨_,hmem,h⟩
 obtain⟨hs,hh,hv⟩:=main
 obtain⟨h1,h2⟩:=Qgm hv
 refine wp_region_any hm ?_
 have hS':Sim g0 w0 M ω S0 a { w with drawn:=w.drawn+1 }:=hS.same rfl rfl rfl rfl
 refine Qzi hD (Qop hB) hh (fun i o ho=>h1 i o (by simpa using ho)) (by simpa [stO] using h2) hQ ops.size _ a _ (fun _=>false) (fun i=>by simp[Array.getElem?_replicate];split<;>rfl) (by simp) (by rw[Qhl];exact zj _)
  (fun j o _ hj=>by cases hj) ⟨ω,?_⟩
 have e1:=QfL (D:=D) (ops:=ops) (S0:=S0) (q:=fun _=>false) (m:=0) ops.size (Nat.zero_le _) (fun _ _=>rfl)
 have e2:=Qes (D:=D) (ops:=ops) (S0:=S0) (q:=fun _=>false) (m:=0) ops.size (Nat.zero_le _) (fun _ _=>rfl)
 rw[e1,e2]
 exact hS'
end
end
end Go.Proofs.YtengepcafdnalaaGreatDoor
