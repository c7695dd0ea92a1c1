/-
  Parts of the proof that the law FnPrintBack holds for every input (texts Eu, Ev). Conditions: none.
-/
import Derived.Test.YtengepcafdnalaaGreatDoorM14
namespace Go.Proofs.YtengepcafdnalaaGreatDoor
open _root_.Array renaming eq_empty_of_size_eq_zero → xo
open _root_.Bool renaming and_eq_true → zk
open _root_.List renaming getElem?_map → zC, getElem?_cons_zero → zB
open _root_.Nat renaming add_assoc → xe
open _root_.Option renaming map_eq_some_iff → zi, map_some → zK
open Go.Proofs.Tryz renaming prog → zf
section
open Go Go.RowKit
abbrev FR:=Option (List Prop×Out×Option SB)
inductive CSpec where
 | plain (P:Spec)
 | pure (f:List SV->Option SB->QR)
 | fn (f:List SV->Option SB->FR)
 | own (E:TypeId) (P:Spec)
 | meth (g:CSel->Option (List Prop×List UInt8))
def fnP (f:List SV->Option SB->FR) (svs:List SV) (c:Option SB):Prop:=
 match f svs c with
 | some (ps,_)=>Yj ps
 | none=>False
def fnO (f:List SV->Option SB->FR) (svs:List SV) (c:Option SB):Out:=
 match f svs c with
 | some (_,o,_)=>o
 | none=>.val .undef
def fnB (f:List SV->Option SB->FR) (svs:List SV) (c:Option SB):Option SB:=
 match f svs c with
 | some (_,_,b)=>b
 | none=>none
def Qb6 (f:List SV->Option SB->QR) (svs:List SV) (c:Option SB):Prop:=
 match f svs c with
 | some (ps,_)=>Yj ps
 | none=>False
def Qb5 (f:List SV->Option SB->QR) (svs:List SV) (c:Option SB):SV:=
 match f svs c with
 | some (_,v)=>v
 | none=>.undef
def QdE:List Prop->Prop->Prop
 | [],q=>q
 | p::l,q=>p/\QdE l q
theorem Qrz {l:List Prop} {q:Prop} (h:Yj l) (hq:q):QdE l q:=by
 induction l with
 | nil=>exact hq
 | cons p l ih=>exact⟨h.1,ih h.2⟩
theorem Qa2 {l:List Prop} {q:Prop} (h:QdE l q):Yj l/\q:=by
 induction l with
 | nil=>exact⟨trivial,h⟩
 | cons p l ih=>exact⟨⟨h.1,(ih h.2).1⟩,(ih h.2).2⟩
def fnS (f:List SV->Option SB->FR):Spec:=fun svs c K=>
 match f svs c with
 | some (ps,o,b)=>QdE ps (K o b)
 | none=>False
def Qz (f:List SV->Option SB->QR):Spec:=fun svs c K=>
 match f svs c with
 | some (ps,v)=>QdE ps (K (.val v) c)
 | none=>False
abbrev Cx:=List (Nat×CSpec)
def clk:Cx->Nat->Option CSpec
 | [],_=>none
 | (f,c)::D,g=>if f=g then some c else clk D g
def Has (f : FuncId) : Prop := ∃ fn c, zf.funcs[f]? = some fn /\ (fn.name == "runtime.NumGoroutine") = false /\ fn.body = some c
def UX (g:CSel->Option (List Prop×List UInt8)):Prop:=∀x ps s,g x=some (ps,s)->Yj ps ->
 ∃f c ps',Has f/\Sat f (Qz c)/\c [.agg x.cells] none=some (ps',.str s)/\Yj ps' /\
  ∀ (u : Value) (w : World), (method (zf.types.size + Made.depth) x.ty u "String").run zf w = .ok (f, u) w
def SatC (f:FuncId):CSpec->Prop
 | .plain P=>Sat f P
 | .pure g=>Sat f (Qz g)
 | .fn g=>Sat f (fnS g)
 | .own _ P=>Sat f P
 | .meth g=>UX g
def Qa (D:Cx):Prop:=∀f c,clk D f=some c->Has f/\SatC f c
theorem Qa.nil:Qa []:=fun _ _ h=>by cases h
theorem Qa.cons {D:Cx} {f:Nat} {c:CSpec} (hf:Has f) (hc:SatC f c) (hD:Qa D):Qa ((f,c)::D):=by
 intro g d h
 simp only[clk]at h
 split at h
 rename_i hg;subst hg;cases h;exact⟨hf,hc⟩
 exact hD g d h
def bb (b:Bool) (p:Prop):Prop:=cond b p False
theorem Ua {b:Bool} {p:Prop} (h:bb b p):b=true/\p:=by cases b<;>first | exact h.elim | exact⟨rfl,h⟩
def Qfr (S:SS) (P:Spec) (svs:List SV) (K:SV->SS->Prop):Prop:=
 match svs with
 | .ptr r 0::rest=>match hlk (pubS S rest).2.heap r with
  | some (.blk T cs)=>bb (SV.lts 0 (pubS S rest).1&&SV.lts 0 cs) (P (.ptr 0 0::(pubS S rest).1) (some (.blk T cs)) fun o b=>match b with
   | some (.blk T' cs')=>Uq { (pubS S rest).2 with heap:=hpt (pubS S rest).2.heap r (.blk T' cs') } o K
   | _=>False)
  | _=>False
 | svs=>bb (SV.lts 0 (pubS S svs).1) (P (pubS S svs).1 none fun o _=>Uq (pubS S svs).2 o K)
theorem Qfp {S:SS} {P:Spec} {svs:List SV} {K:SV->SS->Prop} (h:Qfr S P svs K):U1 S P svs K:=by
 unfold Qfr at h
 unfold U1
 split at h
 split at h
 rename_i e
 simp only[e]
 obtain⟨h1,h2⟩:=Ua h
 rw[zk]at h1
 exact⟨h1.1,h1.2,h2⟩
 exact h.elim
 split
 exfalso
 simp_all
 obtain⟨h1,h2⟩:=Ua h
 exact⟨h1,h2⟩
theorem Qfq {S:SS} {P:Spec} {svs:List SV} {K:SV->SS->Prop} (h:U1 S P svs K):Qfr S P svs K:=by
 have mk:∀{b:Bool} {p:Prop},b=true->p->bb b p:=fun {b p} hb hp=>by subst hb;exact hp
 unfold U1 at h
 unfold Qfr
 split at h
 split at h
 rename_i e
 simp only[e]
 exact mk (by rw[h.1,h.2.1];rfl) h.2.2
 exact h.elim
 split
 exfalso
 simp_all
 exact mk h.1 h.2
def QpS (S:SS) (E:TypeId) (P:Spec) (svs:List SV) (K:SV->SS->Prop):Prop:=
 match svs with
 | [s,.own r]=>match hlk (pubS S [s]).2.heap r with
  | some (.row x true)=>bb (SV.lts 0 (pubS S [s]).1) (P ((pubS S [s]).1++[.own 0]) (some (.row x true)) fun o _=>Uq { (pubS S [s]).2 with heap:=Jg (pubS S [s]).2.heap r } o K)
  | _=>False
 | [s,.nilsl]=>match ZK E with
  | some x=>bb (SV.lts 0 (pubS S [s]).1) (P ((pubS S [s]).1++[.own 0]) (some (.row x true)) fun o _=>Uq { (pubS S [s]).2 with nx:=(pubS S [s]).2.nx+1 } o K)
  | none=>False
 | _=>False
theorem QpR {S:SS} {E:TypeId} {P:Spec} {svs:List SV} {K:SV->SS->Prop} (h:QpS S E P svs K):Qi1 S E P svs K:=by
 unfold QpS at h
 unfold Qi1
 split at h
 split at h
 rename_i e;simp only[e];exact Ua h
 exact h.elim
 split at h
 rename_i e;simp only[e];exact Ua h
 exact h.elim
 exact h.elim
def ownC (S:SS) (E:TypeId) (P:Spec) (svs:List SV) (K:SV->SS->Prop):Prop:=
 match svs with
 | .own r::rest=>match hlk (pubS S rest).2.heap r with
  | some (.row x true)=>bb (SV.lts 0 (pubS S rest).1) (P (.own 0::(pubS S rest).1) (some (.row x true)) fun o _=>Uq { (pubS S rest).2 with heap:=Jg (pubS S rest).2.heap r } o K)
  | _=>False
 | .nilsl::rest=>match ZK E with
  | some x=>bb (SV.lts 0 (pubS S rest).1) (P (.own 0::(pubS S rest).1) (some (.row x true)) fun o _=>Uq { (pubS S rest).2 with nx:=(pubS S rest).2.nx+1 } o K)
  | none=>False
 | svs=>QpS S E P svs K
theorem Qsp {S:SS} {E:TypeId} {P:Spec} {svs:List SV} {K:SV->SS->Prop} (h:ownC S E P svs K):Qcu S E P svs K:=by
 unfold ownC at h
 unfold Qcu
 split at h
 split at h
 rename_i e;simp only[e];exact Ua h
 exact h.elim
 split at h
 rename_i e;simp only[e];exact Ua h
 exact h.elim
 have:=QpR h
 split<;>first | exact this | (exfalso;simp_all)
def Qbf (D:Cx) (S:SS) (f:Nat) (svs:List SV) (K:SV->SS->Prop):Prop:=
 match clk D f with
 | some (.plain P)=>Qfr S P svs K
 | some (.pure g)=>Qfr S (Qz g) svs K
 | some (.fn g)=>Qfr S (fnS g) svs K
 | some (.own E P)=>ownC S E P svs K
 | _=>False
def QdB:SV->Option Nat
 | .op (.func (.func k) a b)=>if a.size=0/\b.size=0 then some k else none
 | _=>none
def QfR (e:Env):List Operand->Prop
 | []=>True
 | x::l=>cnd (ev e x)/\QfR e l
def Qm4:SV->Bool
 | .gd _ _=>false
 | _=>true
theorem QdK {s:SV} (h:Qm4 s=true):cnd s/\unw s=s:=by
 cases s<;>first | exact⟨trivial,rfl⟩ | cases h
def Qit (e:Env):List Operand->Bool
 | []=>true
 | x::l=>Qm4 (ev e x)&&Qit e l
theorem Qec {e:Env}:∀{l:List Operand},Qit e l=true->QfR e l/\(l.map fun x=>unw (ev e x))=l.map fun x=>ev e x
 | [],_=>⟨trivial,rfl⟩
 | x::l,h=>by
  simp only[Qit,zk]at h
  obtain⟨h1,h2⟩:=QdK h.1
  obtain⟨h3,h4⟩:=Qec h.2
  exact⟨⟨h1,h3⟩,by simp only[List.map_cons,h2,h4]⟩
abbrev HR:=Option (List Prop×SV×SS)
def QcZ (e:Env) (x:Operand) (f:SV->HR):HR:=cond (Qm4 (ev e x)) (f (ev e x)) none
def QqP (S:SS) (T:TypeId) (sa sx:SV):HR:=
 match sa with
 | .ptr r o=>match hlk S.heap r,Jk sx,shp T with
  | some (.blk T' cs),some l,some (_,z)=>cond (l.length==z&&decide (o+z<=cs.length)&&l.all flat) (some ([],.undef,{ S with heap:=hpt S.heap r (.blk T' (QaE cs o l)) })) none
  | _,_,_=>none
 | .rp r i z o=>match hlk S.heap r with
  | some (.row x app)=>match QlG x i o (fitS x sx) with
   | some x'=>cond (z==x.z&&(match shp T with | some (false,1)=>true | _=>false)) (some ([i<x.len],.undef,{ S with heap:=hpt S.heap r (.row x' app) })) none
   | none=>none
  | _=>none
 | _=>none
def hApp (S:SS) (T T':TypeId) (s x:SV):HR:=
 match QmJ (pub1 S.heap x).2 T s,QlD T T' (pub1 S.heap x).1 with
 | some (ro,y),some (some z)=>match y.app z with
  | some r=>cond (QiC T y.elem y.z) (some ([y.len+z.len<=1099511627776],.own S.nx,{ S with heap:=(S.nx,.row r true)::Qgz (pub1 S.heap x).2 ro,nx:=S.nx+1 })) none
  | none=>none
 | some (ro,y),some none=>cond (QiC T y.elem y.z) (some ([],.own S.nx,{ S with heap:=(S.nx,.row y true)::Qgz (pub1 S.heap x).2 ro,nx:=S.nx+1 })) none
 | _,_=>none
def hCpy (S:SS) (T T':TypeId) (s x:SV):HR:=
 match s,x with
 | .own r,.str t=>match hlk S.heap r with
  | some (.row (.bytes l) true)=>cond (T==37&&T'==9) (some ([l.length=t.length],.nat t.length,{ S with heap:=hpt S.heap r (.row (.bytes t) true) })) none
  | _=>none
 | _,_=>none
def he (S:SS) (op:Op):HR:=
 match op with
 | .alloc T=>(zt T).map fun z=>([],.ptr S.nx 0,{ S with heap:=(S.nx,.blk T z)::S.heap,nx:=S.nx+1 })
 | .box T x=>QcZ S.env x fun s=>(Jk (pub1 S.heap s).1).map fun l=>([],.ptr S.nx 0,{ S with heap:=(S.nx,.blk T l)::(pub1 S.heap s).2,nx:=S.nx+1 })
 | .store T x y=>QcZ S.env x fun sx=>QcZ S.env y fun sy=>QqP S T sx sy
 | .buildSlice T n ps=>cond (decide ((ps.toList.map fun p=>(p.1,ev S.env p.2)).map (·.1)=List.range' 0 n)&&decide (0<n)&&decide (n<=1000))
  ((Qhg T (pubL S.heap ((ps.toList.map fun p=>(p.1,ev S.env p.2)).map (·.2))).1).map fun x=>
   ([],.own S.nx,{ S with heap:=(S.nx,.row x true)::(pubL S.heap ((ps.toList.map fun p=>(p.1,ev S.env p.2)).map (·.2))).2,nx:=S.nx+1 })) none
 | .convert s d x=>QcZ S.env x fun u=>match u with
  | .str l=>cond (s==9&&d==37) (some ([l.length<=1099511627776],.own S.nx,{ S with heap:=(S.nx,.row (.bytes l) false)::S.heap,nx:=S.nx+1 })) none
  | .own r=>match hlk S.heap r with
   | some (.row (.bytes l) true)=>cond (s==37&&d==37) (some ([0<l.length],.own r,{ S with heap:=hpt S.heap r (.row (.bytes l) false) })) none
   | _=>none
  | _=>none
 | .makeSlice T l c=>QcZ S.env l fun sl=>QcZ S.env c fun sc=>match sl,sc with
  | .nat n,.nat m=>(QdJ T n).map fun x=>([n=m,n<=1099511627776],.own S.nx,{ S with heap:=(S.nx,.row x true)::S.heap,nx:=S.nx+1 })
  | _,_=>none
 | .call c=>match c.callee,c.args.toList,c.argTypes.toList with
  | .builtin .append,[x,y],[T,T']=>QcZ S.env x fun sx=>QcZ S.env y fun sy=>hApp S T T' sx sy
  | .builtin .copy,[x,y],[T,T']=>QcZ S.env x fun sx=>QcZ S.env y fun sy=>hCpy S T T' sx sy
  | _,_,_=>none
 | _=>none
theorem Qn6 {e:Env} {x:Operand} {f:SV->HR} {r:List Prop×SV×SS} (h:QcZ e x f=some r):f (ev e x)=some r/\cnd (ev e x)/\unw (ev e x)=ev e x:=by
 unfold QcZ at h
 cases hu:Qm4 (ev e x) with
 | false=>rw[hu]at h;cases h
 | true=>rw[hu]at h;exact⟨h,QdK hu⟩
theorem Zs {e:Env} {x:Operand} {f:SV->HR} {r:List Prop×SV×SS} {K:SV->Prop} (h:QcZ e x f=some r) (hk:f (ev e x)=some r->K (ev e x)):arg e x K:=by
 obtain⟨h1,h2,h3⟩:=Qn6 h
 exact⟨h2,by rw[h3];exact hk h1⟩
theorem V2 {α:Type} {b:Bool} {x:Option α} {y:α} (h:cond b x none=some y):b=true/\x=some y:=by
 cases b
 cases h
 exact⟨rfl,h⟩
theorem he_ok {S:SS} {op:Op} {ps:List Prop} {v:SV} {S':SS} (h:he S op=some (ps,v,S')) (hp:Yj ps):hv S op fun s R=>s=v/\R=S':=by
 cases op<;>simp only[he,reduceCtorEq]at h<;>simp only[hv]
 case alloc T=>
  simp only[zi]at h
  obtain⟨z,h1,h2⟩:=h
  cases h2
  simp only[Qfw,h1]
  exact⟨trivial,trivial⟩
 case box T x=>
  refine Zs h fun h=>?_
  simp only[zi]at h
  obtain⟨l,h1,h2⟩:=h
  cases h2
  simp only[h1]
  exact⟨trivial,trivial⟩
 case store T x y=>
  refine Zs h fun h=>Zs h fun h=>?_
  generalize ev S.env x=sa at h ⊢
  generalize ev S.env y=sy at h ⊢
  unfold QqP at h
  unfold Qeh
  split at h
  split at h
  rename_i e1 e2 e3
  simp only[e1,e2,e3]
  obtain⟨h1,h2⟩:=V2 h
  cases h2
  simp only[zk,beq_iff_eq,decide_eq_true_eq]at h1
  exact⟨h1.1.1,h1.1.2,h1.2,rfl,rfl⟩
  cases h
  split at h
  rename_i e1
  split at h
  rename_i e2
  simp only[e1,e2]
  obtain⟨h1,h2⟩:=V2 h
  cases h2
  simp only[zk,beq_iff_eq]at h1
  refine⟨hp.1,h1.1,?_,rfl,rfl⟩
  have h3:=h1.2
  split at h3
  rename_i e;exact e
  cases h3
  cases h
  cases h
  cases h
 case buildSlice T n qs=>
  obtain⟨h1,h2⟩:=V2 h
  simp only[zi]at h2
  obtain⟨x,h3,h4⟩:=h2
  cases h4
  simp only[zk,decide_eq_true_eq]at h1
  refine⟨h1.1.1,h1.1.2,h1.2,?_⟩
  simp only[h3]
  exact⟨trivial,trivial⟩
 case convert s d x=>
  refine Zs h fun h=>?_
  generalize ev S.env x=sa at h ⊢
  unfold Qh7
  split at h
  rename_i l
  simp only
  obtain⟨h1,h2⟩:=V2 h
  cases h2
  simp only[zk,beq_iff_eq]at h1
  exact⟨h1.1,h1.2,hp.1,rfl,rfl⟩
  rename_i r
  split at h
  rename_i l hb
  simp only[hb]
  obtain⟨h1,h2⟩:=V2 h
  cases h2
  simp only[zk,beq_iff_eq]at h1
  exact⟨h1.1,h1.2,hp.1,rfl,rfl⟩
  cases h
  cases h
 case makeSlice T l c=>
  refine Zs h fun h=>Zs h fun h=>?_
  generalize ev S.env l=sl at h ⊢
  generalize ev S.env c=sc at h ⊢
  unfold Qhv
  split at h
  rename_i n m
  simp only[zi]at h
  obtain⟨x,h1,h2⟩:=h
  cases h2
  refine⟨hp.1,hp.2.1,?_⟩
  simp only[h1]
  exact⟨trivial,trivial⟩
  cases h
 case call c=>
  split at h
  rename_i x y T T' e1 e2 e3
  simp only[e1,e2,e3]
  refine Zs h fun h=>Zs h fun h=>?_
  unfold hApp at h
  unfold appK
  split at h
  rename_i e1 e2
  simp only[e1,e2]
  split at h
  rename_i e3
  simp only[e3]
  obtain⟨h1,h2⟩:=V2 h
  cases h2
  exact⟨QaD h1,hp.1,rfl,rfl⟩
  cases h
  rename_i e1 e2
  simp only[e1,e2]
  obtain⟨h1,h2⟩:=V2 h
  cases h2
  exact⟨QaD h1,rfl,rfl⟩
  cases h
  rename_i x y T T' e1 e2 e3
  simp only[e1,e2,e3]
  refine Zs h fun h=>Zs h fun h=>?_
  unfold hCpy at h
  unfold QmP
  split at h
  rename_i e1 e2
  simp only[e1,e2]
  split at h
  rename_i e3
  simp only[e3]
  obtain⟨h1,h2⟩:=V2 h
  cases h2
  simp only[zk,beq_iff_eq]at h1
  exact⟨h1.1,h1.2,hp.1,rfl,rfl⟩
  cases h
  cases h
  cases h
def bPub (S:SS) (T:TypeId) (ps:List (Nat×SV)):HR:=
 (Qhj T ((ps.map (·.1)).zip (pubS S (ps.map (·.2))).1)).map fun r=>(r.1,r.2,(pubS S (ps.map (·.2))).2)
def QkX:List (Nat×SV)->Bool
 | []=>false
 | (_,.own _)::_=>true
 | _::l=>QkX l
def oe (S:SS) (op:Op):HR:=
 match op with
 | .alloc T=>he S (.alloc T)
 | .box T x=>he S (.box T x)
 | .store T x y=>he S (.store T x y)
 | .buildSlice T n ps=>he S (.buildSlice T n ps)
 | .makeSlice T l c=>he S (.makeSlice T l c)
 | .convert s d x=>cond (d==37) (he S (.convert s d x)) ((qe S (.convert s d x)).map fun r=>(r.1,r.2,S))
 | .build T ps=>cond (QkX (ps.toList.map fun p=>(p.1,ev S.env p.2))) (bPub S T (ps.toList.map fun p=>(p.1,ev S.env p.2))) ((qe S (.build T ps)).map fun r=>(r.1,r.2,S))
 | .call c=>match c.callee with
  | .builtin .append=>he S (.call c)
  | .builtin .copy=>he S (.call c)
  | _=>(qe S (.call c)).map fun r=>(r.1,r.2,S)
 | op=>(qe S op).map fun r=>(r.1,r.2,S)
def Qgr (D:Cx):Option (CSel->Option (List Prop×List UInt8)):=
 match clk D 199 with
 | some (.meth g)=>some g
 | _=>none
def QnT (D:Cx) (S:SS) (r:Operand) (m:String) (l:List Operand):QR:=
 match Qgr D,unw (ev S.env r),l with
 | some g,.cs x,[]=>match g x with
  | some (ps, s) => cond (m == "String") (some (ps, .str s)) none
  | none=>none
 | _,_,_=>none
theorem QnS {D:Cx} {S:SS} {r:Operand} {m:String} {l:List Operand} {ps:List Prop} {v:SV} (h:QnT D S r m l=some (ps,v)) :
 ∃ g x s, Qgr D = some g /\ unw (ev S.env r) = .cs x /\ l = [] /\ m = "String" /\ g x = some (ps, s) /\ v = .str s := by
 unfold QnT at h
 split at h
 rename_i g x h1 h2
 split at h
 rename_i ps' s hg
 cases hm : (m == "String") with
 | false=>rw[hm]at h;cases h
 | true=>
  rw[hm]at h
  cases h
  exact⟨g,x,s,h1,h2,rfl,by simpa using hm,hg,rfl⟩
 cases h
 cases h
theorem Qp0 {D:Cx} (hD:Qa D) {g:CSel->Option (List Prop×List UInt8)} (h:Qgr D=some g):UX g:=by
 unfold Qgr at h
 split at h
 rename_i g' hc
 cases h
 exact (hD _ _ hc).2
 cases h
def ov (D:Cx) (S:SS) (op:Op) (K:SV->SS->Prop):Prop:=
 match op with
 | .call c=>match c.callee with
  | .value f=>match QdB (ev S.env f) with
   | some k=>bb (Qit S.env c.args.toList) (Qbf D S k (c.args.toList.map fun x=>ev S.env x) K)
   | none=>False
  | .invoke r m=>match Qgr D,ev S.env r,c.args.toList with
   | some g,.cs x,[]=>match g x with
    | some (ps, s) => bb (m == "String") (QdE ps (K (.str s) S))
    | none=>False
   | _,_,_=>False
  | _=>match oe S (.call c) with
   | some (ps,s,S')=>QdE ps (K s S')
   | none=>False
 | op=>match oe S op with
  | some (ps,s,S')=>QdE ps (K s S')
  | none=>False
def putD (S:SS) (d:Option Tmp) (s:SV):SS:=
 match d with
 | some d=>{ S with env:=ept S.env d s }
 | none=>S
section
variable {g0:Glob} {w0:World} {M:Nat->Prop} {ω:Wit} {S:SS} {a:Act} {w:World}
theorem Sim.putD (h:Sim g0 w0 M ω S a w) {s:SV} {v:Value} (hr:Rel ω s v) (d:Option Tmp):Sim g0 w0 M ω (putD S d s) (a.put d v) w:=by
 cases d with
 | none=>exact h
 | some d=>exact h.put hr d
def Nx (g0:Glob) (w0:World) (M:Nat->Prop) (K:SS->Prop) (a:Act) (w:World):Prop:=∃ω S,K S/\Sim g0 w0 M ω S a w
theorem QtS (hS:Sim g0 w0 M ω S a w) {o:Oper} {ps:List Prop} {v:SV} (h:qe S o.op=some (ps,v)) (hp:Yj ps) {Q:Exit->Act->World->Prop} :
 o.wp zf a w (Nx g0 w0 M fun S''=>S''=YtengepcafdnalaaGreatDoor.putD S o.dst v) Q:=by
 obtain⟨u,h2,h3⟩:=QtT hS h hp
 unfold Oper.wp
 rw[h3,Oper.upon_value]
 exact⟨ω,_,rfl,hS.putD h2 _⟩
theorem Qqx (hS:Sim g0 w0 M ω S a w) {o:Oper} {K:SV->SS->Prop} (h:hv S o.op K) {Q:Exit->Act->World->Prop} :
 o.wp zf a w (Nx g0 w0 M fun S''=>∃s S',K s S'/\S''=YtengepcafdnalaaGreatDoor.putD S' o.dst s) Q:=by
 obtain⟨ω',s,S',w',v,h1,h2,h3,h4⟩:=hv_ok hS h
 unfold Oper.wp
 rcases h4 with h4 | ⟨h4,rfl⟩
 rw[h4,Oper.upon_value]
 exact⟨ω',_,⟨s,S',h1,rfl⟩,h2.putD h3 _⟩
 rw[h4,Oper.upon_skip]
 exact⟨ω',_,⟨s,S',h1,rfl⟩,h2.putD h3 _⟩
theorem Qdr (hS:Sim g0 w0 M ω S a w) {o:Oper} {ps:List Prop} {v:SV} {S':SS} (h:he S o.op=some (ps,v,S')) (hp:Yj ps) {Q:Exit->Act->World->Prop} :
 o.wp zf a w (Nx g0 w0 M fun S''=>S''=YtengepcafdnalaaGreatDoor.putD S' o.dst v) Q:=by
 refine Oper.wp_mono (fun a' w' ⟨ω',S'',⟨s,R,⟨h1,h2⟩,h3⟩,h4⟩=>⟨ω',S'',?_,h4⟩) (Qqx hS (he_ok h hp))
 subst h1;subst h2;exact h3
theorem Qtx (hS:Sim g0 w0 M ω S a w) {o:Oper} {T:TypeId} {qs:Array (Nat×Operand)} (ho:o.op=.build T qs) {ps:List Prop} {v:SV} {S':SS}
 (h:bPub S T (qs.toList.map fun p=>(p.1,YtengepcafdnalaaGreatDoor.ev S.env p.2))=some (ps,v,S')) (hp:Yj ps) {Q:Exit->Act->World->Prop} :
 o.wp zf a w (Nx g0 w0 M fun S''=>S''=YtengepcafdnalaaGreatDoor.putD S' o.dst v) Q:=by
 unfold bPub at h
 simp only[zi]at h
 obtain⟨⟨ps',v'⟩,h1,h2⟩:=h
 cases h2
 obtain⟨ω',hl,hpl,hpr,h2⟩:=Sim.pubS ((qs.toList.map fun p=>(p.1,YtengepcafdnalaaGreatDoor.ev S.env p.2)).map (·.2)) S ω hS (qs.toList.map fun p=>a.eval p.2) (by simp) (fun i s v e1 e2=>by
  simp only[zC]at e1 e2
  cases hq:qs.toList[i]? with
  | none=>rw[hq]at e1;cases e1
  | some p=>
   rw[hq]at e1 e2
   simp only[zK,Option.some.injEq]at e1 e2
   rw[<-e1,<-e2]
   exact hS.ev p.2)
 obtain⟨s,u,k1,k2,k3⟩:=QjJ (ω:=ω') (vs:=qs.map fun (i,x)=>(i,a.eval x)) (by
  rw[List.length_zip,hpl];simp) (fun i x y e1 e2=>by
  rw[List.getElem?_zip_eq_some]at e1
  rw[Array.toList_map,zC]at e2
  obtain⟨e3,e4⟩:=e1
  simp only[zC]at e3
  cases hq:qs.toList[i]? with
  | none=>rw[hq]at e3;cases e3
  | some p=>
   rw[hq]at e2 e3
   simp only[zK,Option.some.injEq]at e2 e3
   rw[<-e2]
   refine⟨e3.symm,hpr i x.2 _ e4 ?_⟩
   rw[zC,hq]
   rfl) (QiR h1) w
 subst k1
 unfold Oper.wp
 have hrun:(execOp a.eval o).run zf w=.ok (.value u) w:=by
  unfold execOp
  rw[ho]
  exact Zn k3
 rw[hrun,Oper.upon_value]
 exact⟨ω',_,rfl,h2.putD k2 _⟩
theorem oe_wp (hS:Sim g0 w0 M ω S a w) {o:Oper} {ps:List Prop} {v:SV} {S':SS} (h:oe S o.op=some (ps,v,S')) (hp:Yj ps) {Q:Exit->Act->World->Prop} :
 o.wp zf a w (Nx g0 w0 M fun S''=>S''=YtengepcafdnalaaGreatDoor.putD S' o.dst v) Q:=by
 have quiet:((qe S o.op).map fun r=>(r.1,r.2,S))=some (ps,v,S')->o.wp zf a w (Nx g0 w0 M fun S''=>S''=YtengepcafdnalaaGreatDoor.putD S' o.dst v) Q:=by
  intro h
  simp only[zi]at h
  obtain⟨⟨ps',v'⟩,h1,h2⟩:=h
  cases h2
  exact QtS hS h1 hp
 obtain⟨op,hop⟩:∃op,o.op=op:=⟨_,rfl⟩
 rw[hop]at h quiet
 cases op
 case alloc T=>exact Qdr hS (by rw[hop];exact h) hp
 case box T x=>exact Qdr hS (by rw[hop];exact h) hp
 case store T x y=>exact Qdr hS (by rw[hop];exact h) hp
 case buildSlice T n qs=>exact Qdr hS (by rw[hop];exact h) hp
 case makeSlice T l c=>exact Qdr hS (by rw[hop];exact h) hp
 case convert s d x=>
  simp only[oe]at h
  cases hd:(d==37) with
  | true=>rw[hd]at h;exact Qdr hS (by rw[hop];exact h) hp
  | false=>rw[hd]at h;exact quiet h
 case build T qs=>
  simp only[oe]at h
  cases hd:QkX (qs.toList.map fun p=>(p.1,YtengepcafdnalaaGreatDoor.ev S.env p.2)) with
  | true=>rw[hd]at h;exact Qtx hS hop h hp
  | false=>rw[hd]at h;exact quiet h
 case call c=>
  obtain⟨callee,args,tys⟩:=c
  cases callee with
  | builtin b=>
   by_cases hb:b=.append
   subst hb;exact Qdr hS (by rw[hop];exact h) hp
   by_cases hc:b=.copy
   subst hc;exact Qdr hS (by rw[hop];exact h) hp
   refine quiet ?_
   cases b<;>first | exact absurd rfl hb | exact absurd rfl hc | exact h
  | invoke r m=>exact quiet h
  | value f=>exact quiet h
 all_goals exact quiet h
theorem Qfm (hS:Sim g0 w0 M ω S a w):∀{l:List Operand},QfR S.env l->∀(i:Nat) (s:SV) (v:Value),(l.map fun x=>unw (ev S.env x))[i]? = some s->(l.map a.eval)[i]? = some v->Rel ω s v
 | [],_,i,s,v,e,_=>by simp at e
 | x::l,h,0,s,v,e1,e2=>by
  simp only[List.map_cons,zB,Option.some.injEq]at e1 e2
  rw[<-e1,<-e2]
  exact J2 (hS.ev x) h.1
 | x::l,h,i+1,s,v,e1,e2=>Qfm hS h.2 i s v (by simpa using e1) (by simpa using e2)
theorem Qfo {D:Cx} (hD:Qa D) (hS:Sim g0 w0 M ω S a w) {f:Nat} {svs:List SV} {args:Array Value} (hn:args.size=svs.length)
 (hr:∀(i:Nat) (s:SV) (v:Value),svs[i]? = some s->args[i]? = some v->Rel ω s v) {K:SV->SS->Prop} (hk:Qbf D S f svs K) :
 Has f/\Calls zf f args w fun e w'=>∃v,e=.returned v/\Qdx g0 w0 M a K v w':=by
 unfold Qbf at hk
 split at hk
 rename_i P hc
 obtain⟨h1,h2⟩:=hD f _ hc
 exact⟨h1,Sat.call h2 hS hn hr (Qfp hk)⟩
 rename_i g hc
 obtain⟨h1,h2⟩:=hD f _ hc
 exact⟨h1,Sat.call h2 hS hn hr (Qfp hk)⟩
 rename_i g hc
 obtain⟨h1,h2⟩:=hD f _ hc
 exact⟨h1,Sat.call h2 hS hn hr (Qfp hk)⟩
 rename_i E P hc
 obtain⟨h1,h2⟩:=hD f _ hc
 exact⟨h1,Sat.callOwn h2 hS hn hr (Qsp hk)⟩
 exact hk.elim
theorem Rel.op_inv {u v:Value} (h:Rel ω (.op v) u):u=v:=by cases h;rfl
theorem QmU {D:Cx} (hD:Qa D) (hS:Sim g0 w0 M ω S a w) {o:Oper} {c:Call} (ho:o.op=.call c) {f:Operand} (hf:c.callee=.value f) {k:Nat} (hk:QdB (ev S.env f)=some k) (hc:QfR S.env c.args.toList)
 {K:SV->SS->Prop} (h:Qbf D S k (c.args.toList.map fun x=>unw (ev S.env x)) K) {Q:Exit->Act->World->Prop} :
 o.wp zf a w (Nx g0 w0 M fun S''=>∃s S',K s S'/\S''=YtengepcafdnalaaGreatDoor.putD S' o.dst s) Q:=by
 have hv:=hS.ev f
 have hval:a.eval f=.func (.func k) #[] #[]:=by
  unfold QdB at hk
  split at hk
  rename_i k' x y he
  split at hk
  rename_i hsz
  cases hk
  rw[he]at hv
  rw[hv.op_inv]
  have h1:x = #[]:=xo hsz.1
  have h2:y = #[]:=xo hsz.2
  rw[h1,h2]
  cases hk
  cases hk
 obtain⟨⟨fn,code,k1,k2,k3⟩,h2⟩:=Qfo hD hS (args:=c.args.map a.eval) (by simp) (fun i s v e1 e2=>Qfm hS hc i s v e1 (by rw[<-Array.toList_map];simpa using e2)) h
 have hrun:(execOp a.eval o).run zf w=.ok (.enter k (c.args.map a.eval)) w:=by
  have hne : fn.name ≠ "runtime.NumGoroutine" := by simpa using k2
  unfold execOp
  rw[ho]
  simp[resolve,hf,hval,Deferred.ofValue,invoke,callFunc,k1,k3,hne]
 unfold Oper.wp
 rw[hrun,Oper.upon_enter]
 refine h2.mono fun e w' ⟨v,he,ω',s,S',q1,q2,q3⟩=>?_
 subst he
 exact⟨ω',_,⟨s,S',q1,rfl⟩,q2.putD q3 _⟩
theorem Qgu {D:Cx} (hD:Qa D) (hS:Sim g0 w0 M ω S a w) {o:Oper} {r:Operand} {m:String} {args:Array Operand} {tys:Array TypeId} (ho:o.op=.call ⟨.invoke r m,args,tys⟩)
 {g : CSel -> Option (List Prop × List UInt8)} (hg : Qgr D = some g) {x : CSel} (hc : cnd (ev S.env r)) (hx : unw (ev S.env r) = .cs x) (ha : args.toList = []) (hm : m = "String") {ps : List Prop} {s : List UInt8} (hgx : g x = some (ps, s)) (hp : Yj ps)
 {K:SV->SS->Prop} (hk:K (.str s) S) {Q:Exit->Act->World->Prop} :
 o.wp zf a w (Nx g0 w0 M fun S''=>∃s S',K s S'/\S''=YtengepcafdnalaaGreatDoor.putD S' o.dst s) Q:=by
 obtain⟨f,c,ps',⟨fn,code,k1,k2,k3⟩,h2,h3,h4,h5⟩:=Qp0 hD hg x ps s hgx hp
 have hv:=J2 (hS.ev r) hc
 rw[hx]at hv
 have key:∀v,Rel ω (.cs x) v->∃vs,v=.iface x.ty vs/\Rel ω (.agg x.cells) vs:=by
  intro v hv
  cases hv with
  | cs _ _ h=>
   unfold CSel.enc at h
   cases h with
   | iface _ _ v h=>exact⟨v,rfl,h⟩
 obtain⟨vs,e,hr⟩:=key _ hv
 have hlt:SV.lts 0 [SV.agg x.cells]=true:=by
  have:=CSel.enc_lt 0 x
  simpa [CSel.enc,SV.lt,SV.lts] using this
 have hcall:Qbf [(f,.pure c)] S f [.agg x.cells] K:=by
  have e1:clk [(f,CSpec.pure c)] f=some (.pure c):=by simp[clk]
  unfold Qbf
  rw[e1]
  show bb (SV.lts 0 [SV.agg x.cells]) (Qz c [.agg x.cells] none fun o _=>Uq S o K)
  rw[hlt]
  show Qz c [.agg x.cells] none fun o _=>Uq S o K
  unfold Qz
  rw[h3]
  exact Qrz h4 hk
 obtain⟨_,hh⟩:=Qfo (Qa.cons (c:=.pure c) ⟨fn,code,k1,k2,k3⟩ h2 Qa.nil) hS (args := #[vs]) rfl (fun i s v e1 e2=>by
  match i,e1,e2 with
  | 0,e1,e2=>cases e1;cases e2;exact hr
  | i+1,e1,e2=>simp at e1) hcall
 have hargs:args = #[]:=by
  obtain⟨l⟩:=args
  simp only at ha
  rw[ha]
 have hrun:(execOp a.eval o).run zf w=.ok (.enter f #[vs]) w:=by
  have hne : fn.name ≠ "runtime.NumGoroutine" := by simpa using k2
  unfold execOp
  rw[ho]
  subst hm
  subst hargs
  have h6:=h5 vs w
  rw[show zf.types.size=243 by simp]at h6
  simp[resolve,invoke,callMethod,e,h6,callFunc,k1,k3,hne]
 unfold Oper.wp
 rw[hrun,Oper.upon_enter]
 refine hh.mono fun e w' ⟨v,he,ω',s,S',q1,q2,q3⟩=>?_
 subst he
 exact⟨ω',_,⟨s,S',q1,rfl⟩,q2.putD q3 _⟩
theorem QtY {D:Cx} (hD:Qa D) (hS:Sim g0 w0 M ω S a w) {o:Oper} {K:SV->SS->Prop} (h:ov D S o.op K) {Q:Exit->Act->World->Prop} :
 o.wp zf a w (Nx g0 w0 M fun S''=>∃s S',K s S'/\S''=YtengepcafdnalaaGreatDoor.putD S' o.dst s) Q:=by
 have gen:(match oe S o.op with | some (ps,s,S')=>QdE ps (K s S') | none=>False)->o.wp zf a w (Nx g0 w0 M fun S''=>∃s S',K s S'/\S''=YtengepcafdnalaaGreatDoor.putD S' o.dst s) Q:=by
  intro h
  split at h
  rename_i ps s S' e
  obtain⟨h1,h2⟩:=Qa2 h
  exact Oper.wp_mono (fun a' w' ⟨ω',S'',h3,h4⟩=>⟨ω',S'',⟨s,S',h2,h3⟩,h4⟩) (oe_wp hS e h1)
  exact h.elim
 obtain⟨op,hop⟩:∃op,o.op=op:=⟨_,rfl⟩
 rw[hop]at h gen
 cases op
 case call c=>
  obtain⟨callee,args,tys⟩:=c
  cases callee with
  | builtin b=>exact gen h
  | invoke r m=>
   simp only[ov]at h
   split at h
   rename_i g x hg hx hargs
   split at h
   rename_i ps s hgx
   obtain⟨h1,h2⟩:=Ua h
   obtain⟨h3,h4⟩:=Qa2 h2
   exact Qgu hD hS hop hg (by rw[hx];trivial) (by rw[hx];rfl) hargs (by simpa using h1) hgx h3 h4
   exact h.elim
   exact h.elim
  | value f=>
   simp only[ov]at h
   split at h
   rename_i k hk
   obtain⟨h1,h2⟩:=Ua h
   obtain⟨h3,h4⟩:=Qec h1
   exact QmU hD hS hop rfl hk h3 (by rw[h4];exact h2)
   exact h.elim
 all_goals exact gen h
end
end
section
open Go Go.RowKit
def Yv (hp:Heap) (svs:List SV):List SV×Option SB:=
 match svs with
 | .ptr r 0::rest=>(.ptr 0 0::rest,hlk hp r)
 | svs=>(svs,none)
def Jr:List (Option Tmp)->Nat->Option Tmp
 | [],_=>none
 | d::_,0=>d
 | _::l,n+1=>Jr l n
def UZ (ds:List (Option Tmp)) (S:SS) (j:Nat):SV:=
 match Jr ds j with
 | some d=>ZM S.env d
 | none=>.undef
section
theorem QhD (l:List SV):∀(i:Nat) (v s:SV),lk1 l i=some s->lk1 (pt1 l i v) i=some v:=by
 induction l with
 | nil=>intro i v s h;cases h
 | cons x l ih=>intro i v s h;cases i with
  | zero=>rfl
  | succ i=>exact ih i v s h
theorem QhB (l:Env):∀(i j:Nat) (v s:SV),lk2 l i j=some s->lk2 (pt2 l i j v) i j=some v:=by
 induction l with
 | nil=>intro i j v s h;cases h
 | cons x l ih=>intro i j v s h;cases i with
  | zero=>exact QhD x j v s h
  | succ i=>exact ih i j v s h
theorem US {e:Env} {d:Nat} {s:SV} (h:elk e d=some s) (t:SV):elk (ept e d t) d=some t:=QhB e _ _ t s h
theorem QkD (l:List SV):∀(i j:Nat) (v:SV),i≠j->lk1 (pt1 l i v) j=lk1 l j:=by
 induction l with
 | nil=>intro i j v h;rfl
 | cons x l ih=>
  intro i j v h
  cases i<;>cases j
  exact absurd rfl h
  rfl
  rfl
  exact ih _ _ v (fun e=>h (by rw[e]))
theorem QkC (l:Env):∀(i i' j j':Nat) (v:SV),¬(i=j/\i'=j')->lk2 (pt2 l i i' v) j j'=lk2 l j j':=by
 induction l with
 | nil=>intro i i' j j' v h;rfl
 | cons x l ih=>
  intro i i' j j' v h
  cases i<;>cases j
  exact QkD x _ _ v (fun e=>h ⟨rfl,e⟩)
  rfl
  rfl
  exact ih _ _ _ _ v (fun e=>h ⟨by rw[e.1],e.2⟩)
theorem JR {e:Env} {d i:Nat} (hne:d≠i) (t:SV):elk (ept e d t) i=elk e i:=QkC e _ _ _ _ t (fun h=>hne (by omega))
theorem Ji (ops:Array Oper):∀(l:List Oper) (k j:Nat),(∀i,l[i]? = ops[k+i]?)->Jr (l.map (·.dst)) j=(ops[k+j]?).bind (·.dst)
 | [],k,j,h=>by
  have:=h j
  rw[<-this]
  rfl
 | o::l,k,0,h=>by
  have:=h 0
  rw[<-this]
  rfl
 | o::l,k,j+1,h=>by
  have:=Ji ops l (k+1) j (fun i=>by have:=h (i+1);simpa [xe,Nat.add_comm 1 i] using this)
  simp only[List.map_cons,Jr,this]
  congr 2
  omega
end
end
end Go.Proofs.YtengepcafdnalaaGreatDoor
