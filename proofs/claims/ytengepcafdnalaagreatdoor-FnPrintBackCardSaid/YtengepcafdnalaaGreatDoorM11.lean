/-
  Parts of the proof that the law FnPrintBack holds for every input (texts Gb, Em). Conditions: none.
-/
import Derived.Test.YtengepcafdnalaaGreatDoorM10
namespace Go.Proofs.YtengepcafdnalaaGreatDoor
open _root_.Array renaming toList_inj → xl, getElem?_eq_getElem → zr
open _root_.Bool renaming and_eq_true → zk
open _root_.List renaming getElem?_map → zC, length_cons → zj, getElem?_cons_zero → zB, getD_eq_getElem?_getD → zd, getElem?_set_ne → xn
open _root_.Nat renaming mul_le_mul_right → z8
open _root_.Option renaming map_eq_some_iff → zi, map_some → zK
open Go.Result renaming andThen_ok → zn
open Go.Sem renaming run_bind → zp, run_pure → xa
open Go.Proofs.Tryz renaming prog → zf
section
open Go Go.RowKit
def qLd (T:TypeId) (cs:List SV) (o:Nat):QR:=
 match shp T with
 | some (false,_)=>(lk1 cs o).map fun s=>([],s)
 | some (true,z)=>Vl (decide (o+z<=cs.length)) (some ([],.agg ((cs.drop o).take z)))
 | none=>none
def QlT (hp:Heap) (T:TypeId) (s:SV):QR:=
 match s with
 | .ptr r o=>match hlk hp r with
  | some (.blk _ cs)=>qLd T cs o
  | _=>none
 | .cp cs=>qLd T cs 0
 | .rp r i z o=>match hlk hp r with
  | some (.row x _)=>Vl (z==x.z) ((qLd T (x.cell i) o).map fun q=>((i<x.len)::q.1,q.2))
  | _=>none
 | _=>none
theorem QpJ {T:TypeId} {cs:List SV} {o:Nat} {ps:List Prop} {v:SV} (h:qLd T cs o=some (ps,v)):Qbc T cs o (fun r=>r=v):=by
 unfold qLd at h
 unfold Qbc
 split at h
 simp only[zi]at h
 obtain⟨s,h1,h2⟩:=h
 cases h2
 rename_i e
 simp only[e,h1]
 obtain⟨h1,h2⟩:=Qp h
 cases h2
 rename_i e
 simp only[e]
 exact⟨by simpa using h1,trivial⟩
 cases h
theorem QlS {hp:Heap} {T:TypeId} {s v:SV} {ps:List Prop} (h:QlT hp T s=some (ps,v)) (hc:Yj ps):Qbd hp T s (fun r=>r=v):=by
 unfold QlT at h
 unfold Qbd
 split at h
 split at h
 rename_i h1;simp only[h1];exact QpJ h
 cases h
 exact QpJ h
 split at h
 rename_i h1
 simp only[h1]
 obtain⟨h2,h3⟩:=Qp h
 simp only[zi]at h3
 obtain⟨⟨q1,q2⟩,h4,h5⟩:=h3
 cases h5
 exact⟨hc.1,by simpa using h2,QpJ h4⟩
 cases h
 cases h
def qNil (s:SV):QR:=
 match s with
 | .ptr r o=>some ([],.ptr r o)
 | .cp l=>some ([],.cp l)
 | .rp r i z o=>some ([],.rp r i z o)
 | _=>none
def qFa (T k:Nat) (s:SV):QR:=
 match fo T k with
 | some off=>match s with
  | .ptr r o=>some ([],.ptr r (o+off))
  | .cp l=>Vl (decide (off<=l.length)) (some ([],.cp (l.drop off)))
  | .rp r i z o=>some ([],.rp r i z (o+off))
  | _=>none
 | none=>none
theorem qFa_K {T k:Nat} {s v:SV} {ps:List Prop} (h:qFa T k s=some (ps,v)):faK T k s (fun r=>r=v):=by
 unfold qFa at h
 unfold faK
 split at h
 rename_i off hf
 simp only[hf]
 split at h
 cases h;rfl
 obtain⟨h1,h2⟩:=Qp h
 cases h2
 exact⟨by simpa using h1,rfl⟩
 cases h;rfl
 cases h
 cases h
def QiC (T:TypeId) (E:TypeId) (z:Nat):Bool:=
 match slt T with
 | some (E',z')=>E'==E&&z'==z
 | none=>false
theorem QaD {T E:TypeId} {z:Nat} (h:QiC T E z=true):slt T=some (E,z):=by
 unfold QiC at h
 split at h
 rename_i e;rw[e];simp at h;rw[h.1,h.2]
 cases h
def qIx (n:Nat) (i:SV) (f:Nat->SV):QR:=
 match i with
 | .nat k=>some ([k<n],f k)
 | .int .i64 k=>some ([0<=k/\k<n],f k.toNat)
 | _=>none
theorem Qkn {n:Nat} {i v:SV} {f:Nat->SV} {ps:List Prop} (h:qIx n i f=some (ps,v)) (hp:Yj ps):∃k:Int,lw i=.int .i64 k/\0<=k/\k<n/\v=f k.toNat:=by
 unfold qIx at h
 split at h
 cases h;exact⟨_,rfl,by omega,by have:=hp.1;omega,rfl⟩
 cases h;exact⟨_,rfl,hp.1.1,hp.1.2,rfl⟩
 cases h
def qIdx (hp:Heap) (T:TypeId) (s i:SV):QR:=
 match s with
 | .sl x=>Vl (QiC T x.elem x.z) (qIx x.len i fun n=>.cp (x.cell n))
 | .own r=>match hlk hp r with
  | some (.row x _)=>Vl (QiC T x.elem x.z) (qIx x.len i fun n=>.rp r n x.z 0)
  | _=>none
 | _=>none
theorem QvU {hp:Heap} {T:TypeId} {s i v:SV} {ps:List Prop} (h:qIdx hp T s i=some (ps,v)) (hc:Yj ps):Qqp hp T s (lw i) (fun r=>r=v):=by
 unfold qIdx at h
 unfold Qqp
 split at h
 obtain⟨h1,h2⟩:=Qp h
 obtain⟨k,e,h3,h4,h5⟩:=Qkn h2 hc
 simp only[e]
 exact⟨QaD h1,h3,h4,h5.symm⟩
 split at h
 rename_i hb
 obtain⟨h1,h2⟩:=Qp h
 obtain⟨k,e,h3,h4,h5⟩:=Qkn h2 hc
 simp only[e,hb]
 exact⟨QaD h1,h3,h4,h5.symm⟩
 cases h
 cases h
def QtU (s i:SV):QR:=
 match s with
 | .str l=>qIx l.length i fun n=>.byt (l.getD n 0)
 | _=>none
def qBd (o:Option SV):Option (List Prop×Option Nat):=
 match o with
 | none=>some ([],none)
 | some (.nat n)=>some ([],some n)
 | some (.int .i64 n)=>some ([0<=n],some n.toNat)
 | _=>none
def Qko {α:Type} (l:List α) (lo hi:Option Nat):List Prop×List α:=
 match lo,hi with
 | none,none=>([],l)
 | some a,none=>([a<=l.length],l.drop a)
 | none,some b=>([b<=l.length],l.take b)
 | some a,some b=>([a<=b/\b<=l.length],(l.take b).drop a)
def qSl (T:TypeId) (s:SV) (lo hi:Option SV):QR:=
 match qBd lo,qBd hi with
 | some (p,lo),some (q,hi)=>match s with
  | .str l=>Vl (T==9) (some (p++(q++(Qko l lo hi).1),.str (Qko l lo hi).2))
  | .sl (.sels xs)=>Vl (T==22) (some (p++(q++(Qko xs lo hi).1),.sl (.sels (Qko xs lo hi).2)))
  | _=>none
 | _,_=>none
theorem Qhk {o:Option SV} {p:List Prop} {n:Option Nat} (h:qBd o=some (p,n)) (hp:Yj p) (d:Nat) {K:Nat->Prop} (hk:K (n.getD d)):Qh9 d (o.map lw) K:=by
 unfold qBd at h
 split at h
 cases h;exact hk
 rename_i n
 cases h
 exact⟨by omega,by rw[Int.toNat_natCast];exact hk⟩
 cases h;exact⟨hp.1,hk⟩
 cases h
theorem QlU {α:Type} {l:List α} {lo hi:Option Nat} (h:Yj (Qko l lo hi).1):lo.getD 0<=hi.getD l.length/\hi.getD l.length<=l.length/\((l.take (hi.getD l.length)).drop (lo.getD 0))=(Qko l lo hi).2:=by
 unfold Qko at h ⊢
 cases lo<;>cases hi<;>simp_all [Yj]
theorem qSl_K {T:TypeId} {s v:SV} {lo hi:Option SV} {ps:List Prop} (h:qSl T s lo hi=some (ps,v)) (hc:Yj ps):Qg2 T s (lo.map lw) (hi.map lw) (fun r=>r=v):=by
 unfold qSl at h
 split at h
 rename_i p lo' q hi' e1 e2
 split at h
 rename_i l
 obtain⟨h1,h2⟩:=Qp h
 cases h2
 obtain⟨c1,c2⟩:=JW hc
 obtain⟨c2,c3⟩:=JW c2
 obtain⟨k1,k2,k3⟩:=QlU c3
 refine⟨by simpa using h1,Qhk e1 c1 0 (Qhk e2 c2 l.length ⟨k1,k2,by rw[k3]⟩)⟩
 rename_i l
 obtain⟨h1,h2⟩:=Qp h
 cases h2
 obtain⟨c1,c2⟩:=JW hc
 obtain⟨c2,c3⟩:=JW c2
 obtain⟨k1,k2,k3⟩:=QlU c3
 refine⟨by simpa using h1,Qhk e1 c1 0 (Qhk e2 c2 l.length ⟨k1,k2,by rw[k3]⟩)⟩
 cases h
 cases h
def qLen (hp:Heap) (T:TypeId) (s:SV):QR:=
 match s with
 | .str l=>Vl (T==9) (some ([],.nat l.length))
 | .sl x=>Vl (QiC T x.elem x.z) (some ([],.nat x.len))
 | .nilsl=>Vl (slt T).isSome (some ([],.nat 0))
 | .own r=>match hlk hp r with
  | some (.row x _)=>Vl (QiC T x.elem x.z) (some ([],.nat x.len))
  | _=>none
 | _=>none
theorem QvS {hp:Heap} {T:TypeId} {s v:SV} {ps:List Prop} (h:qLen hp T s=some (ps,v)):∃t,Qp8 hp T s (fun r=>r=t)/\∀ω u,Rel ω t u->Rel ω v u:=by
 have nat:∀(n:Nat) (ω:Wit) (u:Value),Rel ω (.int .i64 n) u->Rel ω (.nat n) u:=by
  intro n ω u hu
  rw[hu.int_inv];exact .nat _
 unfold qLen at h
 unfold Qp8
 split at h
 obtain⟨h1,h2⟩:=Qp h
 cases h2
 exact⟨_,⟨by simpa using h1,rfl⟩,nat _⟩
 obtain⟨h1,h2⟩:=Qp h
 cases h2
 exact⟨_,⟨QaD h1,rfl⟩,nat _⟩
 obtain⟨h1,h2⟩:=Qp h
 cases h2
 exact⟨_,⟨h1,rfl⟩,nat 0⟩
 split at h
 rename_i hb
 obtain⟨h1,h2⟩:=Qp h
 cases h2
 simp only[hb]
 exact⟨_,⟨QaD h1,rfl⟩,nat _⟩
 cases h
 cases h
def qMin (s t:SV):QR:=
 match s,t with
 | .nat x,.nat y=>some ([],.nat (min x y))
 | .int .i64 x,.int .i64 y=>some ([],.int .i64 (min x y))
 | _,_=>none
def qMax (s t:SV):QR:=
 match s,t with
 | .nat x,.nat y=>some ([],.nat (max x y))
 | .nat x,.int .i64 y=>some ([],.int .i64 (max (x:Int) y))
 | .int .i64 x,.int .i64 y=>some ([],.int .i64 (max x y))
 | _,_=>none
theorem QvO {s t v:SV} {ps:List Prop} (h:qMin s t=some (ps,v)):∃r,minK (lw s) (lw t) (fun q=>q=r)/\∀ω u,Rel ω r u->Rel ω v u:=by
 unfold qMin at h
 split at h
 rename_i x y
 cases h
 refine⟨_,rfl,fun ω u hu=>?_⟩
 rw[hu.int_inv,show min (x:Int) (y:Int)=((min x y:Nat):Int) from by omega]
 exact .nat _
 cases h;exact⟨_,rfl,fun _ _ h=>h⟩
 cases h
theorem QvQ {s t v:SV} {ps:List Prop} (h:qMax s t=some (ps,v)):∃r,maxK (lw s) (lw t) (fun q=>q=r)/\∀ω u,Rel ω r u->Rel ω v u:=by
 unfold qMax at h
 split at h
 rename_i x y
 cases h
 refine⟨_,rfl,fun ω u hu=>?_⟩
 rw[hu.int_inv,show max (x:Int) (y:Int)=((max x y:Nat):Int) from by omega]
 exact .nat _
 cases h;exact⟨_,rfl,fun _ _ h=>h⟩
 cases h;exact⟨_,rfl,fun _ _ h=>h⟩
 cases h
def qExt (s:SV) (i:Nat):QR:=
 match s with
 | .tup vs=>(lk1 vs i).map fun x=>([],x)
 | _=>none
theorem QvW {s v:SV} {i:Nat} {ps:List Prop} (h:qExt s i=some (ps,v)):Qq0 s i (fun r=>r=v):=by
 unfold qExt at h
 split at h
 simp only[zi]at h
 obtain⟨x,h1,h2⟩:=h
 cases h2
 simp only[Qq0,h1]
 cases h
def aggB (T:TypeId):Bool:=
 match shp T with
 | some (b,_)=>b
 | none=>false
def qMk (T:TypeId) (s:SV):QR:=
 match s with
 | .agg l=>Vl (aggB T) ((toC T l).map fun x=>([],.cs x))
 | .ptr _ _=>Vl (T==145) (some ([],.ifx))
 | .nat _=>Vl (T==191) (some ([],.ifx))
 | _=>none
theorem qMk_K {T:TypeId} {s v:SV} {ps:List Prop} (h:qMk T s=some (ps,v)):QeO T s (fun r=>r=v):=by
 unfold qMk at h
 split at h
 obtain⟨h1,h2⟩:=Qp h
 simp only[zi]at h2
 obtain⟨x,h3,h4⟩:=h2
 cases h4
 unfold aggB at h1
 unfold QeO
 simp only[h3]
 refine⟨?_,h1,trivial⟩
 cases hs:shp T with
 | none=>rw[hs]at h1;cases h1
 | some _=>rfl
 obtain⟨h1,h2⟩:=Qp h
 cases h2
 exact⟨by simpa using h1,rfl⟩
 obtain⟨h1,h2⟩:=Qp h
 cases h2
 exact⟨by simpa using h1,rfl⟩
 cases h
def qTa (s:SV) (A:TypeId):QR:=
 match s with
 | .cs x=>Vl (aggB A) (some ([],cond (x.ty==A) (.tup [.agg x.cells,.bool true]) (.tup [.undef,.bool false])))
 | _=>none
theorem qTa_K {s v:SV} {A:TypeId} {ps:List Prop} (h:qTa s A=some (ps,v)):taK s A (fun r=>r=v):=by
 unfold qTa at h
 split at h
 rename_i x
 obtain⟨h1,h2⟩:=Qp h
 cases h2
 unfold aggB at h1
 refine⟨h1,?_⟩
 cases hx:(x.ty==A) with
 | true=>rw[if_pos (by simpa using hx)];rfl
 | false=>rw[if_neg (by simpa using hx)];rfl
 cases h
def Qhj (T:TypeId) (ps:List (Nat×SV)):QR:=
 cond (T==227) ((JU (Qov 2) [.bool false,.bool false] ps).map fun cs=>([],.agg cs))
  (match zt T,pl T with
  | some z,some p=>(JU (Qbr p) z ps).map fun cs=>([],.agg cs)
  | _,_=>none)
theorem QiR {T:TypeId} {qs:List (Nat×SV)} {v:SV} {ps:List Prop} (h:Qhj T qs=some (ps,v)):Qft T qs (fun r=>r=v):=by
 unfold Qhj at h
 unfold Qft
 cases hT:(T==227) with
 | true=>
  rw[if_pos (by simpa using hT)]
  rw[hT]at h
  simp only[cond_true,zi]at h
  obtain⟨cs,h1,h2⟩:=h
  cases h2
  simp only[h1]
 | false=>
  rw[if_neg (by simpa using hT)]
  rw[hT]at h
  simp only[cond_false]at h
  split at h
  rename_i z p e1 e2
  simp only[zi]at h
  obtain⟨cs,h1,h2⟩:=h
  cases h2
  simp only[e1,e2,h1]
  cases h
def bo (e:Env) (o:Option Operand) (f:Option SV->QR):QR:=
 match o with
 | none=>f none
 | some x=>bi1 (ev e x) fun s=>f (some s)
def QlV (S:SS) (c:Call):QR:=
 match c.callee with
 | .builtin .len=>match c.args.toList,c.argTypes.toList with
  | [x],[T]=>bi1 (ev S.env x) fun s=>qLen S.heap T s
  | _,_=>none
 | .builtin .min=>match c.args.toList with
  | [x,y]=>bi1 (ev S.env x) fun sx=>bi1 (ev S.env y) fun sy=>qMin sx sy
  | _=>none
 | .builtin .max=>match c.args.toList with
  | [x,y]=>bi1 (ev S.env x) fun sx=>bi1 (ev S.env y) fun sy=>qMax sx sy
  | _=>none
 | _=>none
def qe (S:SS) (op:Op):QR:=
 match op with
 | .move x=>bi1 (ev S.env x) fun s=>some ([],s)
 | .assign x=>bi1 (ev S.env x) fun s=>some ([],s)
 | .pick c x y=>bi1 (ev S.env c) fun sc=>QpI sc (ev S.env x) (ev S.env y)
 | .binOp op T x y _=>bi1 (ev S.env x) fun sx=>bi1 (ev S.env y) fun sy=>qBin S.heap op T (isC x||isC y) sx sy
 | .unOp op _ x=>bi1 (ev S.env x) fun s=>qUn op s
 | .convert s d x=>bi1 (ev S.env x) fun u=>QpM S.heap s d u
 | .nilCheck x=>bi1 (ev S.env x) fun s=>qNil s
 | .fieldAddr T x k=>bi1 (ev S.env x) fun s=>qFa T k s
 | .load T x=>bi1 (ev S.env x) fun s=>QlT S.heap T s
 | .indexAddr T x i=>bi1 (ev S.env x) fun sx=>bi1 (ev S.env i) fun si=>qIdx S.heap T sx si
 | .index T x i=>Vl (T==9) (bi1 (ev S.env x) fun sx=>bi1 (ev S.env i) fun si=>QtU sx si)
 | .slice T x lo hi mx=>Vl mx.isNone (bi1 (ev S.env x) fun s=>bo S.env lo fun l=>bo S.env hi fun h=>qSl T s l h)
 | .extract x i=>bi1 (ev S.env x) fun s=>qExt s i
 | .makeInterface T x=>bi1 (ev S.env x) fun s=>qMk T s
 | .build T ps=>Qhj T (ps.toList.map fun p=>(p.1,ev S.env p.2))
 | .typeAssert x _ A ok=>Vl ok (bi1 (ev S.env x) fun s=>qTa s A)
 | .call c=>QlV S c
 | _=>none
section
variable {g0:Glob} {w0:World} {M:Nat->Prop} {ω:Wit} {S:SS} {a:Act} {w:World}
theorem Qun (hS:Sim g0 w0 M ω S a w) {o:Option Operand} {f:Option SV->QR} {ps:List Prop} {v:SV} (h:bo S.env o f=some (ps,v)) (hp:Yj ps) :
 ∃ps',f (o.map fun x=>unw (YtengepcafdnalaaGreatDoor.ev S.env x))=some (ps',v)/\Yj ps'/\∀x,o=some x->Rel ω (unw (YtengepcafdnalaaGreatDoor.ev S.env x)) (a.eval x):=by
 unfold bo at h
 cases o with
 | none=>exact⟨ps,h,hp,fun x e=>by cases e⟩
 | some x=>
  obtain⟨ps',h1,h2,h3⟩:=Yd h hp (hS.ev x)
  exact⟨ps',h1,h2,fun y e=>by cases e;exact h3⟩
theorem QtT (hS:Sim g0 w0 M ω S a w) {o:Oper} {ps:List Prop} {v:SV} (h:qe S o.op=some (ps,v)) (hp:Yj ps) :
 ∃u,Rel ω v u/\(execOp a.eval o).run zf w=.ok (.value u) w:=by
 obtain⟨dst,op,ty,pos,after,guard⟩:=o
 cases op<;>simp only[qe,reduceCtorEq]at h
 case move x=>
  obtain⟨ps',h1,h2,h3⟩:=Yd h hp (hS.ev x)
  cases h1
  exact⟨_,h3,rfl⟩
 case assign x=>
  obtain⟨ps',h1,h2,h3⟩:=Yd h hp (hS.ev x)
  cases h1
  exact⟨_,h3,rfl⟩
 case pick c x y=>
  obtain⟨ps',h1,h2,h3⟩:=Yd h hp (hS.ev c)
  obtain⟨u,k1,k2⟩:=QpH h3 (hS.ev x) (hS.ev y) h1 h2 w
  exact⟨u,k1,k2⟩
 case build T qs=>
  obtain⟨s,u,k1,k2,k3⟩:=QjJ (ω:=ω) (vs:=qs.map fun (i,x)=>(i,a.eval x)) (by simp) (fun i x y e1 e2=>by
   rw[zC]at e1
   rw[Array.toList_map,zC]at e2
   cases hq:qs.toList[i]? with
   | none=>rw[hq]at e1;cases e1
   | some p=>
    rw[hq]at e1 e2
    simp only[zK,Option.some.injEq]at e1 e2
    rw[<-e1,<-e2]
    exact⟨rfl,hS.ev p.2⟩) (QiR h) w
  subst k1
  exact⟨u,k2,Zn k3⟩
 case load T x=>
  obtain⟨ps',h1,h2,h3⟩:=Yd h hp (hS.ev x)
  obtain⟨s,u,k1,k2,k3⟩:=Qjc hS h3 (QlS h1 h2)
  subst k1
  exact⟨u,k2,Zn k3⟩
 case nilCheck x=>
  obtain⟨ps',h1,h2,h3⟩:=Yd h hp (hS.ev x)
  generalize unw (YtengepcafdnalaaGreatDoor.ev S.env x)=s at h1 h3
  unfold qNil at h1
  split at h1
  cases h1
  obtain⟨e,_⟩:=h3.ptr_inv
  exact⟨_,h3,by simp only[execOp,e];rfl⟩
  cases h1
  obtain⟨b,q,vs,T',e,_⟩:=h3.cp_inv
  exact⟨_,h3,by simp only[execOp,e];rfl⟩
  cases h1
  obtain⟨e,_⟩:=h3.rp_inv
  exact⟨_,h3,by simp only[execOp,e];rfl⟩
  cases h1
 case binOp op T x y _=>
  obtain⟨ps',h1,h2,h3⟩:=Yd h hp (hS.ev x)
  obtain⟨ps2,h1,h2,h4⟩:=Yd h1 h2 (hS.ev y)
  obtain⟨u,k1,k2⟩:=Qsf hS h3 h4 h1 h2
  exact⟨u,k1,Zn k2⟩
 case unOp op _ x=>
  obtain⟨ps',h1,h2,h3⟩:=Yd h hp (hS.ev x)
  obtain⟨u,k1,k2⟩:=QvN h3 h1 h2 w
  exact⟨u,k1,Zn k2⟩
 case convert src dst x=>
  obtain⟨ps',h1,h2,h3⟩:=Yd h hp (hS.ev x)
  obtain⟨u,k1,k2⟩:=QpL hS h3 h1 h2
  exact⟨u,k1,Zn k2⟩
 case fieldAddr T x k=>
  obtain⟨ps',h1,h2,h3⟩:=Yd h hp (hS.ev x)
  obtain⟨s,u,k1,k2,k3⟩:=fa_ok h3 (qFa_K h1) w
  subst k1
  exact⟨u,k2,Zn k3⟩
 case indexAddr T x i=>
  obtain⟨ps',h1,h2,h3⟩:=Yd h hp (hS.ev x)
  obtain⟨ps2,h1,h2,h4⟩:=Yd h1 h2 (hS.ev i)
  obtain⟨s,u,k1,k2,k3⟩:=Qwm hS h3 (Jl h4) (QvU h1 h2)
  subst k1
  exact⟨u,k2,Zn k3⟩
 case index T x i=>
  obtain⟨hT,h⟩:=Qp h
  obtain rfl:T=9:=by simpa using hT
  obtain⟨ps',h1,h2,h3⟩:=Yd h hp (hS.ev x)
  obtain⟨ps2,h1,h2,h4⟩:=Yd h1 h2 (hS.ev i)
  generalize unw (YtengepcafdnalaaGreatDoor.ev S.env x)=s at h1 h3
  unfold QtU at h1
  split at h1
  rename_i l
  obtain⟨k,e,k1,k2,rfl⟩:=Qkn h1 h2
  have h5:=Jl h4
  rw[e]at h5
  obtain⟨s',u,q1,q2,q3⟩:=QrW (K:=fun r=>r=.int .u8 (l.getD k.toNat 0).toNat) h3 h5 ⟨k1,k2,rfl⟩ w
  subst q1
  refine⟨u,?_,Zn q3⟩
  rw[q2.int_inv]
  exact .byt _
  cases h1
 case slice T x lo hi mx=>
  obtain⟨hm,h⟩:=Qp h
  obtain rfl:mx=none:=Option.isNone_iff_eq_none.1 hm
  obtain⟨ps',h1,h2,h3⟩:=Yd h hp (hS.ev x)
  obtain⟨ps2,h1,h2,h4⟩:=Qun hS h1 h2
  obtain⟨ps3,h1,h2,h5⟩:=Qun hS h1 h2
  have hk:=qSl_K h1 h2
  simp only[Option.map_map,Function.comp_def]at hk
  obtain⟨s,u,k1,k2,k3⟩:=QoQ hS (ρ:=a.eval) (e:=fun o=>lw (unw (YtengepcafdnalaaGreatDoor.ev S.env o))) h3 (fun o e=>Jl (h4 o e)) (fun o e=>Jl (h5 o e)) hk
  subst k1
  exact⟨u,k2,Zn k3⟩
 case extract x i=>
  obtain⟨ps',h1,h2,h3⟩:=Yd h hp (hS.ev x)
  obtain⟨s,u,k1,k2,k3⟩:=Qxm h3 (QvW h1) w
  subst k1
  exact⟨u,k2,Zn k3⟩
 case makeInterface T x=>
  obtain⟨ps',h1,h2,h3⟩:=Yd h hp (hS.ev x)
  obtain⟨s,u,k1,k2,k3⟩:=Qp3 h3 (qMk_K h1) w
  subst k1
  exact⟨u,k2,Zn k3⟩
 case typeAssert x X A ok=>
  obtain⟨ho,h⟩:=Qp h
  subst ho
  obtain⟨ps',h1,h2,h3⟩:=Yd h hp (hS.ev x)
  obtain⟨s,u,k1,k2,k3⟩:=ta_ok h3 (qTa_K h1) X w
  subst k1
  exact⟨u,k2,Zn k3⟩
 case call c=>
  obtain⟨callee,args,tys⟩:=c
  have run1:∀(b:Builtin),callee=.builtin b->(execOp a.eval ⟨dst,.call ⟨callee,args,tys⟩,ty,pos,after,guard⟩).run zf w=(builtin b tys ty (args.map fun | .const _=>true | _=>false) (args.map a.eval)).run zf w:=by
   intro b hb
   subst hb
   rfl
  unfold QlV at h
  split at h
  rename_i hc
  rw[run1 .len hc]
  simp only at hc h
  split at h
  rename_i x T e1 e2
  obtain⟨ps',h1,h2,h3⟩:=Yd h hp (hS.ev x)
  obtain⟨t,hk,hv⟩:=QvS h1
  obtain⟨s,u,k1,k2,k3⟩:=Qwa hS h3 hk ty
  subst k1
  refine⟨u,hv _ _ k2,?_⟩
  have ea:args = #[x]:=xl.1 e1
  have et:tys = #[T]:=xl.1 e2
  have em:(#[x]:Array Operand).map a.eval = #[a.eval x]:=by simp
  rw[ea,et,em]
  exact Zn k3
  cases h
  rename_i hc
  rw[run1 .min hc]
  simp only at hc h
  split at h
  rename_i x y e1
  obtain⟨ps',h1,h2,h3⟩:=Yd h hp (hS.ev x)
  obtain⟨ps2,h1,h2,h4⟩:=Yd h1 h2 (hS.ev y)
  obtain⟨t,hk,hv⟩:=QvO h1
  obtain⟨s,u,k1,k2,k3⟩:=Qv7 (Jl h3) (Jl h4) hk tys ty w
  subst k1
  refine⟨u,hv _ _ k2,?_⟩
  have ea:args = #[x,y]:=xl.1 e1
  have em:(#[x,y]:Array Operand).map a.eval = #[a.eval x,a.eval y]:=by simp
  rw[ea,em]
  exact Zn k3
  cases h
  rename_i hc
  rw[run1 .max hc]
  simp only at hc h
  split at h
  rename_i x y e1
  obtain⟨ps',h1,h2,h3⟩:=Yd h hp (hS.ev x)
  obtain⟨ps2,h1,h2,h4⟩:=Yd h1 h2 (hS.ev y)
  obtain⟨t,hk,hv⟩:=QvQ h1
  obtain⟨s,u,k1,k2,k3⟩:=Qv9 (Jl h3) (Jl h4) hk tys ty w
  subst k1
  refine⟨u,hv _ _ k2,?_⟩
  have ea:args = #[x,y]:=xl.1 e1
  have em:(#[x,y]:Array Operand).map a.eval = #[a.eval x,a.eval y]:=by simp
  rw[ea,em]
  exact Zn k3
  cases h
  cases h
end
end
section
open Go Go.RowKit
def pub1 (hp:Heap) (s:SV):SV×Heap:=
 match s with
 | .own r=>match hlk hp r with
  | some (.row x _)=>(.sl x,Jg hp r)
  | _=>(s,hp)
 | s=>(s,hp)
def pubL (hp:Heap):List SV->List SV×Heap
 | []=>([],hp)
 | s::l=>((pub1 hp s).1::(pubL (pub1 hp s).2 l).1,(pubL (pub1 hp s).2 l).2)
def Qm0 (g0:Glob) (w0:World) (M:Nat->Prop) (a:Act) (K:SV->SS->Prop) (r:Result Next):Prop:=
 ∃ω' s S' w' v,K s S'/\Sim g0 w0 M ω' S' a w'/\Rel ω' s v/\(r=.ok (.value v) w'\/(r=.ok .skip w'/\v=undef))
section
variable {g0:Glob} {w0:World} {M:Nat->Prop} {ω:Wit} {S:SS} {a:Act} {w:World}
theorem Sim.pub1 (h:Sim g0 w0 M ω S a w) {s:SV} {v:Value} (hr:Rel ω s v) :
 ∃ω',ω.le ω'/\Rel ω' (pub1 S.heap s).1 v/\Sim g0 w0 M ω' { S with heap:=(YtengepcafdnalaaGreatDoor.pub1 S.heap s).2 } a w:=by
 unfold YtengepcafdnalaaGreatDoor.pub1
 split
 rename_i r
 split
 rename_i x app hb
 obtain⟨ω',h1,h2,h3,h4⟩:=h.pub hb
 exact⟨ω',h1,by rw[hr.own_inv.1];exact h3,h4⟩
 exact⟨ω,Wit.le.refl ω,hr,h⟩
 exact⟨ω,Wit.le.refl ω,hr,h⟩
theorem Sim.pubL:∀(l:List SV) (S:SS) (ω:Wit) (h:Sim g0 w0 M ω S a w) (vs:List Value),vs.length=l.length->(∀(i:Nat) (s:SV) (v:Value),l[i]? = some s->vs[i]? = some v->Rel ω s v) ->
 ∃ω',ω.le ω'/\(pubL S.heap l).1.length=l.length/\(∀(i:Nat) (s:SV) (v:Value),(YtengepcafdnalaaGreatDoor.pubL S.heap l).1[i]? = some s->vs[i]? = some v->Rel ω' s v)/\Sim g0 w0 M ω' { S with heap:=(YtengepcafdnalaaGreatDoor.pubL S.heap l).2 } a w
 | [],S,ω,h,vs,_,_=>⟨ω,Wit.le.refl ω,rfl,fun i s v e=>by simp[YtengepcafdnalaaGreatDoor.pubL]at e,h⟩
 | s::l,S,ω,h,[],hl,_=>by simp at hl
 | s::l,S,ω,h,v::vs,hl,hr=>by
  obtain⟨ω1,h1,h2,h3⟩:=h.pub1 (hr 0 s v rfl rfl)
  obtain⟨ω2,k1,k2,k3,k4⟩:=Sim.pubL l { S with heap:=(YtengepcafdnalaaGreatDoor.pub1 S.heap s).2 } ω1 h3 vs (by simpa using hl) (fun i t u e1 e2=>(hr (i+1) t u (by simpa using e1) (by simpa using e2)).mono h1)
  refine⟨ω2,h1.trans k1,by simp only[YtengepcafdnalaaGreatDoor.pubL,zj];rw[k2],fun i t u e1 e2=>?_,k4⟩
  cases i with
  | zero=>
   simp only[YtengepcafdnalaaGreatDoor.pubL,zB,Option.some.injEq]at e1 e2
   subst e1;subst e2
   exact h2.mono k1
  | succ i=>
   simp only[YtengepcafdnalaaGreatDoor.pubL,List.getElem?_cons_succ]at e1 e2
   exact k3 i t u e1 e2
def Qfw (S:SS) (T:TypeId) (K:SV->SS->Prop):Prop:=
 match zt T with
 | some z=>K (.ptr S.nx 0) { S with heap:=(S.nx,.blk T z)::S.heap,nx:=S.nx+1 }
 | none=>False
theorem QrC (h:Sim g0 w0 M ω S a w) {o:Oper} {T:TypeId} (ho:o.op=.alloc T) {K:SV->SS->Prop} (hk:Qfw S T K):Qm0 g0 w0 M a K ((execOp a.eval o).run zf w):=by
 unfold Qfw at hk
 split at hk
 rename_i z hz
 obtain⟨i,zv,hi,hzv,hm⟩:=QtC hz
 obtain⟨h1,h2⟩:=QlP (ω:=ω) hm
 have hS:=h.allocBlk zv.cells T z h1 h2
 have hρ:(ω.addρ w.heap.size).ρ S.nx=w.heap.size:=by simp[Wit.addρ,h.wn]
 refine⟨_,_,_,_,.pointer (some ⟨w.heap.size,0,none⟩),hk,hS,?_,.inl ?_⟩
 have:=Rel.ptr (ω:=ω.addρ w.heap.size) S.nx 0 (by simp[Wit.addρ,h.wn])
 rw[hρ]at this
 exact this
 unfold execOp
 rw[ho]
 refine (?_:(do pure (Next.value (<- Instr.alloc T true (.tuple #[]))):Sem Next).run zf w=_)
 rw[zp]
 unfold Instr.alloc
 rw[zp,QpB hi hzv,zn]
 rfl
 exact hk.elim
def Jk:SV->Option (List SV)
 | .agg l=>some l
 | s=>if flat s=true then some [s] else none
def boxK (S:SS) (T:TypeId) (x:Operand) (K:SV->SS->Prop):Prop:=
 arg S.env x fun s=>match Jk (pub1 S.heap s).1 with
  | some l=>K (.ptr S.nx 0) { S with heap:=(S.nx,.blk T l)::(pub1 S.heap s).2,nx:=S.nx+1 }
  | none=>False
theorem Qdw {ω:Wit} {s:SV} {v:Value} (hr:Rel ω s v) {l:List SV} (h:Jk s=some l):v.cells.size=l.length/\∀(i:Nat) (t:SV) (u:Value),l[i]? = some t->v.cells[i]? = some u->Rel ω t u:=by
 unfold Jk at h
 split at h
 cases h
 cases hr with
 | agg _ vs hn hv=>exact⟨hn,hv⟩
 split at h
 rename_i hf
 cases h
 rw[Qbx hr hf]
 refine⟨rfl,fun i t u e1 e2=>?_⟩
 match i with
 | 0=>simp at e1 e2;rw[<-e1,<-e2];exact hr
 | i+1=>simp at e1
 cases h
theorem Qx6 (h:Sim g0 w0 M ω S a w) {o:Oper} {T:TypeId} {x:Operand} (ho:o.op=.box T x) {K:SV->SS->Prop} (hk:boxK S T x K):Qm0 g0 w0 M a K ((execOp a.eval o).run zf w):=by
 obtain⟨s,hk,hr⟩:=h.arg hk
 obtain⟨ω1,hl,hr1,hS1⟩:=h.pub1 hr
 split at hk
 rename_i l hb
 obtain⟨h1,h2⟩:=Qdw hr1 hb
 have hS:=hS1.allocBlk (a.eval x).cells T l h1 h2
 have hρ:(ω1.addρ w.heap.size).ρ S.nx=w.heap.size:=by have:=hS1.wn;simp at this;simp[Wit.addρ,this]
 refine⟨_,_,_,_,.pointer (some ⟨w.heap.size,0,none⟩),hk,hS,?_,.inl ?_⟩
 have:=Rel.ptr (ω:=ω1.addρ w.heap.size) S.nx 0 (by have:=hS1.wn;simp at this;simp[Wit.addρ,this])
 rw[hρ]at this
 exact this
 unfold execOp
 rw[ho]
 rfl
 exact hk.elim
def QlG (x:RV) (i o:Nat) (s:SV):Option RV:=
 match x,s with
 | .bytes xs,.byt c=>if o=0 then some (.bytes (xs.set i c)) else none
 | .strs xs,.str l=>if o=0 then some (.strs (xs.set i l)) else none
 | .sels xs,.int .i64 n=>if o=7 then some (.sels (xs.set i { xs.getD i default with size:=n })) else none
 | _,_=>none
def fitS (x:RV) (s:SV):SV:=
 match x,s with
 | .sels _,.nat n=>.int .i64 n
 | _,s=>s
theorem QqY {ω:Wit} (x:RV) {s:SV} {v:Value} (h:Rel ω s v):Rel ω (fitS x s) v:=by
 unfold fitS
 split
 rw[h.nat_inv];exact .int _ _
 exact h
def QaE (cs:List SV) (o:Nat):List SV->List SV
 | []=>cs
 | s::l=>QaE (cs.set o s) (o+1) l
def Qeh (S:SS) (T:TypeId) (sa sx:SV) (K:SV->SS->Prop):Prop:=
 match sa with
 | .ptr r o=>match hlk S.heap r,Jk sx,shp T with
  | some (.blk T' cs),some l,some (_,z)=>l.length=z/\o+z<=cs.length/\l.all flat=true/\K .undef { S with heap:=hpt S.heap r (.blk T' (QaE cs o l)) }
  | _,_,_=>False
 | .rp r i z o=>match hlk S.heap r with
  | some (.row x app)=>match QlG x i o (fitS x sx) with
   | some x'=>i<x.len/\z=x.z/\(shp T=some (false,1))/\K .undef { S with heap:=hpt S.heap r (.row x' app) }
   | none=>False
  | _=>False
 | _=>False
theorem Qfa {ω:Wit} {s:SV} {v:Value} (h:Rel ω s v) (hf:flat s=true):v.oneCell'=true:=by
 cases h<;>first | rfl | (simp[flat]at hf;done) | skip
 rename_i x h
 unfold CSel.enc at h
 cases h
 rfl
theorem Qci:∀{h:Heap} {r:Nat} {b b':SB},hlk h r=some b->hlk (hpt h r b') r=some b'
 | [],_,_,_,e=>by simp[hlk]at e
 | (q,c)::h,r,b,b',e=>by
  simp only[hpt]
  by_cases hq:q=r
  rw[if_pos hq];simp[hlk,hq]
  rw[if_neg hq]
  simp only[hlk]at e ⊢
  rw[if_neg hq]at e ⊢
  exact Qci e
theorem Qmn:∀(h:Heap) (r:Nat) (b b':SB),hpt (hpt h r b) r b'=hpt h r b'
 | [],_,_,_=>rfl
 | (q,c)::h,r,b,b'=>by
  by_cases hq:q=r
  simp[hpt,hq]
  simp[hpt,hq,Qmn h r b b']
theorem Qe0:∀{h:Heap} {r:Nat} {b:SB},hlk h r=some b->hpt h r b=h
 | [],_,_,_=>rfl
 | (q,c)::h,r,b,e=>by
  simp only[hlk]at e
  by_cases hq:q=r
  rw[if_pos hq]at e
  cases e
  simp[hpt,hq]
  rw[if_neg hq]at e
  simp[hpt,hq,Qe0 e]
theorem Qf1 {r:Nat} {T:TypeId}:∀(l:List SV) (vs:List Value) (S:SS) (w:World) (cs:List SV) (o i:Nat),Sim g0 w0 M ω S a w->hlk S.heap r=some (.blk T cs)->vs.length=l.length ->
 (∀(j:Nat) (s:SV) (v:Value),l[j]? = some s->vs[j]? = some v->Rel ω s v)->l.all flat=true->o+i+l.length<=cs.length ->
 ∃w',(storeCells ⟨ω.ρ r,o,none⟩ vs i).run zf w=.ok () w'/\Sim g0 w0 M ω { S with heap:=hpt S.heap r (.blk T (QaE cs (o+i) l)) } a w'
 | [],[],S,w,cs,o,i,h,hb,_,_,_,_=>⟨w,rfl,by rw[show QaE cs (o+i) []=cs from rfl,Qe0 hb];exact h⟩
 | [],v::vs,_,_,_,_,_,_,_,hl,_,_,_=>by simp at hl
 | s::l,[],_,_,_,_,_,_,_,hl,_,_,_=>by simp at hl
 | s::l,v::vs,S,w,cs,o,i,h,hb,hl,hr,hf,hn=>by
  simp only[List.all_cons,zk,zj]at hf hn
  have hsv:=hr 0 s v rfl rfl
  obtain⟨vs0,h1,h2,h3⟩:=h.heap r _ hb
  have hcell:w.cell? ⟨ω.ρ r,o+i,none⟩=some vs0[o+i]:=by rw[Z8 h1];exact zr (by omega)
  have hfz:w.frozen? ⟨ω.ρ r,o+i,none⟩=false:=by simp[World.frozen?,h1]
  have hS1:=h.setBlk hb hsv (o+i)
  obtain⟨w',k1,k2⟩:=Qf1 l vs { S with heap:=hpt S.heap r (.blk T (cs.set (o+i) s)) } _ (cs.set (o+i) s) o (i+1) hS1 (Qci hb) (by simpa using hl)
   (fun j t u e1 e2=>hr (j+1) t u (by simpa using e1) (by simpa using e2)) hf.2 (by rw[List.length_set];omega)
  refine⟨w',?_,?_⟩
  simp only[storeCells,zp,UA,run_store _ _ _ _ _ (Qfa hsv hf.1),hcell,hfz,Bool.false_eq_true,if_false,zn]
  exact k1
  rw[Qmn]at k2
  rw[show o+(i+1)=o+i+1 from by omega]at k2
  exact k2
theorem QoZ {x x':RV} {i o:Nat} {s:SV} (h:QlG x i o s=some x') (hi:i<x.len) :
 o<x.z/\x'.len=x.len/\x'.elem=x.elem/\x'.z=x.z/\(∀j,j<x.len->j≠i->x'.cell j=x.cell j)/\x'.cell i=(x.cell i).set o s/\flat s=true:=by
 unfold QlG at h
 split at h
 rename_i xs n
 split at h
 rename_i ho
 cases h
 subst ho
 refine⟨by simp[RV.z],by simp[RV.len],rfl,rfl,fun j hj hne=>?_,?_,rfl⟩
 simp[RV.cell,zd,xn (Ne.symm hne)]
 have:i<xs.length:=hi
 simp[RV.cell,zd,this]
 cases h
 rename_i xs l
 split at h
 rename_i ho
 cases h
 subst ho
 refine⟨by simp[RV.z],by simp[RV.len],rfl,rfl,fun j hj hne=>?_,?_,rfl⟩
 simp[RV.cell,zd,xn (Ne.symm hne)]
 have:i<xs.length:=hi
 simp[RV.cell,zd,this]
 cases h
 rename_i xs n
 split at h
 rename_i ho
 cases h
 subst ho
 refine⟨by simp[RV.z],by simp[RV.len],rfl,rfl,fun j hj hne=>?_,?_,rfl⟩
 simp[RV.cell,zd,xn (Ne.symm hne)]
 have:i<xs.length:=hi
 simp[RV.cell,zd,this,Yl]
 cases h
 cases h
theorem QoM (h:Sim g0 w0 M ω S a w) {T:TypeId} {sa sx:SV} {u v:Value} (hu:Rel ω sa u) (hv:Rel ω sx v) {K:SV->SS->Prop} (hk:Qeh S T sa sx K) :
 ∃S' w',K .undef S'/\Sim g0 w0 M ω S' a w'/\(Instr.storeAt T u v).run zf w=.ok () w':=by
 unfold Qeh at hk
 split at hk
 rename_i r o
 split at hk
 rename_i T' cs l b z hb hl hT
 obtain⟨hlen,hn,hf,hK⟩:=hk
 obtain⟨h1,h2⟩:=Qdw hv hl
 obtain⟨_,i,hi,hz⟩:=QcB hT
 obtain⟨w',k1,k2⟩:=Qf1 (ω:=ω) l v.cells.toList S w cs o 0 h hb (by simpa using h1) (fun j s v e1 e2=>h2 j s v e1 (by simpa using e2)) hf (by omega)
 refine⟨_,w',hK,k2,?_⟩
 rw[hu.ptr_inv.1]
 have hne:¬(v.cells.size≠i.size):=by omega
 simp only[Instr.storeAt,Instr.sureAddr,zp,xa,zn,storeVar,Ul hi,if_neg hne]
 exact k1
 exact hk.elim
 rename_i r i z o
 split at hk
 rename_i x app hb
 split at hk
 rename_i x' hx
 obtain⟨hi,rfl,hT,hK⟩:=hk
 have hv:=QqY x hv
 obtain⟨h1,h2,h3,h4,h5,h6,h7⟩:=QoZ hx hi
 have hS:=h.setRow hb hv i o hi h1 h2 h3 h4 h5 h6
 refine⟨_,_,hK,hS,?_⟩
 obtain⟨_,ti,hti,hz⟩:=QcB hT
 obtain⟨hr1,hr2⟩:=h.heap r _ hb
 rcases hr1 with ⟨_,h0⟩ | ⟨g,cap,cur,fr,hσ,hg,hfr,hc,hm,hs,hcells⟩
 omega
 have hρ:ω.ρ r=g:=hr2 g (by rw[hσ];rfl)
 rw[hu.rp_inv.1,hρ]
 have hcl:=Qbx hv h7
 have hne:¬(v.cells.size≠ti.size):=by rw[hcl,hz];simp
 have hle:(i+1)*x.z<=cap*x.z:=z8 _ (by omega)
 rw[Nat.add_mul]at hle
 have hlt:i*x.z+o<cur.size:=by omega
 have hcell:w.cell? ⟨g,i*x.z+o,none⟩=some cur[i*x.z+o]:=by rw[Z8 hg];exact zr hlt
 have hfz:w.frozen? ⟨g,i*x.z+o,none⟩=false:=by
  simp only[World.frozen?,hg]
  split at hfr
  subst hfr;simp
  rcases hfr with rfl | hfr
  simp
  obtain⟨lo,hi'⟩:=fr
  simp only at hfr ⊢
  simp
  omega
 have hlist:v.cells.toList=[v]:=by rw[hcl]
 simp only[Instr.storeAt,Instr.sureAddr,zp,xa,zn,storeVar,Ul hti,if_neg hne,hlist,storeCells,UA,Nat.add_zero,
  run_store _ _ _ _ _ (Qfa hv h7),hcell,hfz,Bool.false_eq_true,if_false]
 exact hk.elim
 exact hk.elim
 exact hk.elim
end
end
end Go.Proofs.YtengepcafdnalaaGreatDoor
