/-
  Parts of the proof that the law FnPrintGrammar holds for every input (texts Eu, Ev). Conditions: none.
-/
import Derived.Test.YtengepcafdnalaaGreatDoorM14
namespace Go.Proofs.YtengepcafdnalaaGreatDoor
open _root_.Array renaming eq_empty_of_size_eq_zero → xq
open _root_.Bool renaming and_eq_true → zh
open _root_.List renaming map_cons → zY, getElem?_map → zB, getElem?_cons_zero → zC
open _root_.Option renaming map_eq_some_iff → zk, map_some → zK
open Go.Proofs.Tryz renaming prog → zd
section
open Go Go.RowKit
abbrev FR:=Option (List Prop×Out×Option SB)
inductive CSpec where
 | plain (P:Spec)
 | pure (f:List SV->Option SB->QR)
 | fn (f:List SV->Option SB->FR)
 | own (E:TypeId) (P:Spec)
 | meth (g:CSel->Option (List Prop×List UInt8))
def fnP (f:List SV->Option SB->FR) (svs:List SV) (c:Option SB):Prop:=
 match f svs c with
 | some (ps,_)=>Yl ps
 | none=>False
def fnO (f:List SV->Option SB->FR) (svs:List SV) (c:Option SB):Out:=
 match f svs c with
 | some (_,o,_)=>o
 | none=>.val .undef
def fnB (f:List SV->Option SB->FR) (svs:List SV) (c:Option SB):Option SB:=
 match f svs c with
 | some (_,_,b)=>b
 | none=>none
def QcG (f:List SV->Option SB->QR) (svs:List SV) (c:Option SB):Prop:=
 match f svs c with
 | some (ps,_)=>Yl ps
 | none=>False
def QcF (f:List SV->Option SB->QR) (svs:List SV) (c:Option SB):SV:=
 match f svs c with
 | some (_,v)=>v
 | none=>.undef
def Qea:List Prop->Prop->Prop
 | [],q=>q
 | p::l,q=>p/\Qea l q
theorem Qsr {l:List Prop} {q:Prop} (h:Yl l) (hq:q):Qea l q:=by
 induction l with
 | nil=>exact hq
 | cons p l ih=>exact⟨h.1,ih h.2⟩
theorem QbB {l:List Prop} {q:Prop} (h:Qea l q):Yl l/\q:=by
 induction l with
 | nil=>exact⟨trivial,h⟩
 | cons p l ih=>exact⟨⟨h.1,(ih h.2).1⟩,(ih h.2).2⟩
def fnS (f:List SV->Option SB->FR):Spec:=fun svs c K=>
 match f svs c with
 | some (ps,o,b)=>Qea ps (K o b)
 | none=>False
def Ql (f:List SV->Option SB->QR):Spec:=fun svs c K=>
 match f svs c with
 | some (ps,v)=>Qea ps (K (.val v) c)
 | none=>False
abbrev Cx:=List (Nat×CSpec)
def clk:Cx->Nat->Option CSpec
 | [],_=>none
 | (f,c)::D,g=>if f=g then some c else clk D g
def Has (f : FuncId) : Prop := ∃ fn c, zd.funcs[f]? = some fn /\ (fn.name == "runtime.NumGoroutine") = false /\ fn.body = some c
def Qaz (g:CSel->Option (List Prop×List UInt8)):Prop:=∀x ps s,g x=some (ps,s)->Yl ps ->
 ∃f c ps',Has f/\Sat f (Ql c)/\c [.agg x.cells] none=some (ps',.str s)/\Yl ps' /\
  ∀ (u : Value) (w : World), (method (zd.types.size + Made.depth) x.ty u "String").run zd w = .ok (f, u) w
def SatC (f:FuncId):CSpec->Prop
 | .plain P=>Sat f P
 | .pure g=>Sat f (Ql g)
 | .fn g=>Sat f (fnS g)
 | .own _ P=>Sat f P
 | .meth g=>Qaz g
def Qb (D:Cx):Prop:=∀f c,clk D f=some c->Has f/\SatC f c
theorem Qb.nil:Qb []:=fun _ _ h=>by cases h
theorem Qb.cons {D:Cx} {f:Nat} {c:CSpec} (hf:Has f) (hc:SatC f c) (hD:Qb D):Qb ((f,c)::D):=by
 intro g d h
 simp only[clk]at h
 split at h
 rename_i hg;subst hg;cases h;exact⟨hf,hc⟩
 exact hD g d h
def bb (b:Bool) (p:Prop):Prop:=cond b p False
theorem UA {b:Bool} {p:Prop} (h:bb b p):b=true/\p:=by cases b<;>first | exact h.elim | exact⟨rfl,h⟩
def QfY (S:SS) (P:Spec) (svs:List SV) (K:SV->SS->Prop):Prop:=
 match svs with
 | .ptr r 0::rest=>match hlk (pubS S rest).2.heap r with
  | some (.blk T cs)=>bb (SV.lts 0 (pubS S rest).1&&SV.lts 0 cs) (P (.ptr 0 0::(pubS S rest).1) (some (.blk T cs)) fun o b=>match b with
   | some (.blk T' cs')=>UW { (pubS S rest).2 with heap:=hpt (pubS S rest).2.heap r (.blk T' cs') } o K
   | _=>False)
  | _=>False
 | svs=>bb (SV.lts 0 (pubS S svs).1) (P (pubS S svs).1 none fun o _=>UW (pubS S svs).2 o K)
theorem QfW {S:SS} {P:Spec} {svs:List SV} {K:SV->SS->Prop} (h:QfY S P svs K):QaE S P svs K:=by
 unfold QfY at h
 unfold QaE
 split at h
 split at h
 rename_i e
 simp only[e]
 obtain⟨h1,h2⟩:=UA h
 rw[zh]at h1
 exact⟨h1.1,h1.2,h2⟩
 exact h.elim
 split
 exfalso
 simp_all
 obtain⟨h1,h2⟩:=UA h
 exact⟨h1,h2⟩
theorem QfX {S:SS} {P:Spec} {svs:List SV} {K:SV->SS->Prop} (h:QaE S P svs K):QfY S P svs K:=by
 have mk:∀{b:Bool} {p:Prop},b=true->p->bb b p:=fun {b p} hb hp=>by subst hb;exact hp
 unfold QaE at h
 unfold QfY
 split at h
 split at h
 rename_i e
 simp only[e]
 exact mk (by rw[h.1,h.2.1];rfl) h.2.2
 exact h.elim
 split
 exfalso
 simp_all
 exact mk h.1 h.2
def QqE (S:SS) (E:TypeId) (P:Spec) (svs:List SV) (K:SV->SS->Prop):Prop:=
 match svs with
 | [s,.own r]=>match hlk (pubS S [s]).2.heap r with
  | some (.row x true)=>bb (SV.lts 0 (pubS S [s]).1) (P ((pubS S [s]).1++[.own 0]) (some (.row x true)) fun o _=>UW { (pubS S [s]).2 with heap:=Jz (pubS S [s]).2.heap r } o K)
  | _=>False
 | [s,.nilsl]=>match Z4 E with
  | some x=>bb (SV.lts 0 (pubS S [s]).1) (P ((pubS S [s]).1++[.own 0]) (some (.row x true)) fun o _=>UW { (pubS S [s]).2 with nx:=(pubS S [s]).2.nx+1 } o K)
  | none=>False
 | _=>False
theorem QqD {S:SS} {E:TypeId} {P:Spec} {svs:List SV} {K:SV->SS->Prop} (h:QqE S E P svs K):QjJ S E P svs K:=by
 unfold QqE at h
 unfold QjJ
 split at h
 split at h
 rename_i e;simp only[e];exact UA h
 exact h.elim
 split at h
 rename_i e;simp only[e];exact UA h
 exact h.elim
 exact h.elim
def ownC (S:SS) (E:TypeId) (P:Spec) (svs:List SV) (K:SV->SS->Prop):Prop:=
 match svs with
 | .own r::rest=>match hlk (pubS S rest).2.heap r with
  | some (.row x true)=>bb (SV.lts 0 (pubS S rest).1) (P (.own 0::(pubS S rest).1) (some (.row x true)) fun o _=>UW { (pubS S rest).2 with heap:=Jz (pubS S rest).2.heap r } o K)
  | _=>False
 | .nilsl::rest=>match Z4 E with
  | some x=>bb (SV.lts 0 (pubS S rest).1) (P (.own 0::(pubS S rest).1) (some (.row x true)) fun o _=>UW { (pubS S rest).2 with nx:=(pubS S rest).2.nx+1 } o K)
  | none=>False
 | svs=>QqE S E P svs K
theorem Qtb {S:SS} {E:TypeId} {P:Spec} {svs:List SV} {K:SV->SS->Prop} (h:ownC S E P svs K):Qc5 S E P svs K:=by
 unfold ownC at h
 unfold Qc5
 split at h
 split at h
 rename_i e;simp only[e];exact UA h
 exact h.elim
 split at h
 rename_i e;simp only[e];exact UA h
 exact h.elim
 have:=QqD h
 split<;>first | exact this | (exfalso;simp_all)
def QbS (D:Cx) (S:SS) (f:Nat) (svs:List SV) (K:SV->SS->Prop):Prop:=
 match clk D f with
 | some (.plain P)=>QfY S P svs K
 | some (.pure g)=>QfY S (Ql g) svs K
 | some (.fn g)=>QfY S (fnS g) svs K
 | some (.own E P)=>ownC S E P svs K
 | _=>False
def Qd7:SV->Option Nat
 | .op (.func (.func k) a b)=>if a.size=0/\b.size=0 then some k else none
 | _=>none
def Qgh (e:Env):List Operand->Prop
 | []=>True
 | x::l=>cnd (ev e x)/\Qgh e l
def QnR:SV->Bool
 | .gd _ _=>false
 | _=>true
theorem Qeg {s:SV} (h:QnR s=true):cnd s/\unw s=s:=by
 cases s<;>first | exact⟨trivial,rfl⟩ | cases h
def QiX (e:Env):List Operand->Bool
 | []=>true
 | x::l=>QnR (ev e x)&&QiX e l
theorem QeF {e:Env}:∀{l:List Operand},QiX e l=true->Qgh e l/\(l.map fun x=>unw (ev e x))=l.map fun x=>ev e x
 | [],_=>⟨trivial,rfl⟩
 | x::l,h=>by
  simp only[QiX,zh]at h
  obtain⟨h1,h2⟩:=Qeg h.1
  obtain⟨h3,h4⟩:=QeF h.2
  exact⟨⟨h1,h3⟩,by simp only[zY,h2,h4]⟩
abbrev HR:=Option (List Prop×SV×SS)
def Qdw (e:Env) (x:Operand) (f:SV->HR):HR:=cond (QnR (ev e x)) (f (ev e x)) none
def QrC (S:SS) (T:TypeId) (sa sx:SV):HR:=
 match sa with
 | .ptr r o=>match hlk S.heap r,JF sx,shp T with
  | some (.blk T' cs),some l,some (_,z)=>cond (l.length==z&&decide (o+z<=cs.length)&&l.all flat) (some ([],.undef,{ S with heap:=hpt S.heap r (.blk T' (Qbh cs o l)) })) none
  | _,_,_=>none
 | .rp r i z o=>match hlk S.heap r with
  | some (.row x app)=>match Qmx x i o (fitS x sx) with
   | some x'=>cond (z==x.z&&(match shp T with | some (false,1)=>true | _=>false)) (some ([i<x.len],.undef,{ S with heap:=hpt S.heap r (.row x' app) })) none
   | none=>none
  | _=>none
 | _=>none
def hApp (S:SS) (T T':TypeId) (s x:SV):HR:=
 match Qnw (pub1 S.heap x).2 T s,Qmt T T' (pub1 S.heap x).1 with
 | some (ro,y),some (some z)=>match y.app z with
  | some r=>cond (Qjb T y.elem y.z) (some ([y.len+z.len<=1099511627776],.own S.nx,{ S with heap:=(S.nx,.row r true)::Qg6 (pub1 S.heap x).2 ro,nx:=S.nx+1 })) none
  | none=>none
 | some (ro,y),some none=>cond (Qjb T y.elem y.z) (some ([],.own S.nx,{ S with heap:=(S.nx,.row y true)::Qg6 (pub1 S.heap x).2 ro,nx:=S.nx+1 })) none
 | _,_=>none
def hCpy (S:SS) (T T':TypeId) (s x:SV):HR:=
 match s,x with
 | .own r,.str t=>match hlk S.heap r with
  | some (.row (.bytes l) true)=>cond (T==37&&T'==9) (some ([l.length=t.length],.nat t.length,{ S with heap:=hpt S.heap r (.row (.bytes t) true) })) none
  | _=>none
 | _,_=>none
def he (S:SS) (op:Op):HR:=
 match op with
 | .alloc T=>(zt T).map fun z=>([],.ptr S.nx 0,{ S with heap:=(S.nx,.blk T z)::S.heap,nx:=S.nx+1 })
 | .box T x=>Qdw S.env x fun s=>(JF (pub1 S.heap s).1).map fun l=>([],.ptr S.nx 0,{ S with heap:=(S.nx,.blk T l)::(pub1 S.heap s).2,nx:=S.nx+1 })
 | .store T x y=>Qdw S.env x fun sx=>Qdw S.env y fun sy=>QrC S T sx sy
 | .buildSlice T n ps=>cond (decide ((ps.toList.map fun p=>(p.1,ev S.env p.2)).map (·.1)=List.range' 0 n)&&decide (0<n)&&decide (n<=1000))
  ((QhM T (pubL S.heap ((ps.toList.map fun p=>(p.1,ev S.env p.2)).map (·.2))).1).map fun x=>
   ([],.own S.nx,{ S with heap:=(S.nx,.row x true)::(pubL S.heap ((ps.toList.map fun p=>(p.1,ev S.env p.2)).map (·.2))).2,nx:=S.nx+1 })) none
 | .convert s d x=>Qdw S.env x fun u=>match u with
  | .str l=>cond (s==9&&d==37) (some ([l.length<=1099511627776],.own S.nx,{ S with heap:=(S.nx,.row (.bytes l) false)::S.heap,nx:=S.nx+1 })) none
  | .own r=>match hlk S.heap r with
   | some (.row (.bytes l) true)=>cond (s==37&&d==37) (some ([0<l.length],.own r,{ S with heap:=hpt S.heap r (.row (.bytes l) false) })) none
   | _=>none
  | _=>none
 | .makeSlice T l c=>Qdw S.env l fun sl=>Qdw S.env c fun sc=>match sl,sc with
  | .nat n,.nat m=>(Qef T n).map fun x=>([n=m,n<=1099511627776],.own S.nx,{ S with heap:=(S.nx,.row x true)::S.heap,nx:=S.nx+1 })
  | _,_=>none
 | .call c=>match c.callee,c.args.toList,c.argTypes.toList with
  | .builtin .append,[x,y],[T,T']=>Qdw S.env x fun sx=>Qdw S.env y fun sy=>hApp S T T' sx sy
  | .builtin .copy,[x,y],[T,T']=>Qdw S.env x fun sx=>Qdw S.env y fun sy=>hCpy S T T' sx sy
  | _,_,_=>none
 | _=>none
theorem QoU {e:Env} {x:Operand} {f:SV->HR} {r:List Prop×SV×SS} (h:Qdw e x f=some r):f (ev e x)=some r/\cnd (ev e x)/\unw (ev e x)=ev e x:=by
 unfold Qdw at h
 cases hu:QnR (ev e x) with
 | false=>rw[hu]at h;cases h
 | true=>rw[hu]at h;exact⟨h,Qeg hu⟩
theorem ZG {e:Env} {x:Operand} {f:SV->HR} {r:List Prop×SV×SS} {K:SV->Prop} (h:Qdw e x f=some r) (hk:f (ev e x)=some r->K (ev e x)):arg e x K:=by
 obtain⟨h1,h2,h3⟩:=QoU h
 exact⟨h2,by rw[h3];exact hk h1⟩
theorem V1 {α:Type} {b:Bool} {x:Option α} {y:α} (h:cond b x none=some y):b=true/\x=some y:=by
 cases b
 cases h
 exact⟨rfl,h⟩
theorem he_ok {S:SS} {op:Op} {ps:List Prop} {v:SV} {S':SS} (h:he S op=some (ps,v,S')) (hp:Yl ps):hv S op fun s R=>s=v/\R=S':=by
 cases op<;>simp only[he,reduceCtorEq]at h<;>simp only[hv]
 case alloc T=>
  simp only[zk]at h
  obtain⟨z,h1,h2⟩:=h
  cases h2
  simp only[Qf3,h1]
  exact⟨trivial,trivial⟩
 case box T x=>
  refine ZG h fun h=>?_
  simp only[zk]at h
  obtain⟨l,h1,h2⟩:=h
  cases h2
  simp only[h1]
  exact⟨trivial,trivial⟩
 case store T x y=>
  refine ZG h fun h=>ZG h fun h=>?_
  generalize ev S.env x=sa at h ⊢
  generalize ev S.env y=sy at h ⊢
  unfold QrC at h
  unfold QeJ
  split at h
  split at h
  rename_i e1 e2 e3
  simp only[e1,e2,e3]
  obtain⟨h1,h2⟩:=V1 h
  cases h2
  simp only[zh,beq_iff_eq,decide_eq_true_eq]at h1
  exact⟨h1.1.1,h1.1.2,h1.2,rfl,rfl⟩
  cases h
  split at h
  rename_i e1
  split at h
  rename_i e2
  simp only[e1,e2]
  obtain⟨h1,h2⟩:=V1 h
  cases h2
  simp only[zh,beq_iff_eq]at h1
  refine⟨hp.1,h1.1,?_,rfl,rfl⟩
  have h3:=h1.2
  split at h3
  rename_i e;exact e
  cases h3
  cases h
  cases h
  cases h
 case buildSlice T n qs=>
  obtain⟨h1,h2⟩:=V1 h
  simp only[zk]at h2
  obtain⟨x,h3,h4⟩:=h2
  cases h4
  simp only[zh,decide_eq_true_eq]at h1
  refine⟨h1.1.1,h1.1.2,h1.2,?_⟩
  simp only[h3]
  exact⟨trivial,trivial⟩
 case convert s d x=>
  refine ZG h fun h=>?_
  generalize ev S.env x=sa at h ⊢
  unfold QiG
  split at h
  rename_i l
  simp only
  obtain⟨h1,h2⟩:=V1 h
  cases h2
  simp only[zh,beq_iff_eq]at h1
  exact⟨h1.1,h1.2,hp.1,rfl,rfl⟩
  rename_i r
  split at h
  rename_i l hb
  simp only[hb]
  obtain⟨h1,h2⟩:=V1 h
  cases h2
  simp only[zh,beq_iff_eq]at h1
  exact⟨h1.1,h1.2,hp.1,rfl,rfl⟩
  cases h
  cases h
 case makeSlice T l c=>
  refine ZG h fun h=>ZG h fun h=>?_
  generalize ev S.env l=sl at h ⊢
  generalize ev S.env c=sc at h ⊢
  unfold Qh3
  split at h
  rename_i n m
  simp only[zk]at h
  obtain⟨x,h1,h2⟩:=h
  cases h2
  refine⟨hp.1,hp.2.1,?_⟩
  simp only[h1]
  exact⟨trivial,trivial⟩
  cases h
 case call c=>
  split at h
  rename_i x y T T' e1 e2 e3
  simp only[e1,e2,e3]
  refine ZG h fun h=>ZG h fun h=>?_
  unfold hApp at h
  unfold appK
  split at h
  rename_i e1 e2
  simp only[e1,e2]
  split at h
  rename_i e3
  simp only[e3]
  obtain⟨h1,h2⟩:=V1 h
  cases h2
  exact⟨Qbg h1,hp.1,rfl,rfl⟩
  cases h
  rename_i e1 e2
  simp only[e1,e2]
  obtain⟨h1,h2⟩:=V1 h
  cases h2
  exact⟨Qbg h1,rfl,rfl⟩
  cases h
  rename_i x y T T' e1 e2 e3
  simp only[e1,e2,e3]
  refine ZG h fun h=>ZG h fun h=>?_
  unfold hCpy at h
  unfold QnD
  split at h
  rename_i e1 e2
  simp only[e1,e2]
  split at h
  rename_i e3
  simp only[e3]
  obtain⟨h1,h2⟩:=V1 h
  cases h2
  simp only[zh,beq_iff_eq]at h1
  exact⟨h1.1,h1.2,hp.1,rfl,rfl⟩
  cases h
  cases h
  cases h
def bPub (S:SS) (T:TypeId) (ps:List (Nat×SV)):HR:=
 (QhP T ((ps.map (·.1)).zip (pubS S (ps.map (·.2))).1)).map fun r=>(r.1,r.2,(pubS S (ps.map (·.2))).2)
def QlR:List (Nat×SV)->Bool
 | []=>false
 | (_,.own _)::_=>true
 | _::l=>QlR l
def oe (S:SS) (op:Op):HR:=
 match op with
 | .alloc T=>he S (.alloc T)
 | .box T x=>he S (.box T x)
 | .store T x y=>he S (.store T x y)
 | .buildSlice T n ps=>he S (.buildSlice T n ps)
 | .makeSlice T l c=>he S (.makeSlice T l c)
 | .convert s d x=>cond (d==37) (he S (.convert s d x)) ((qe S (.convert s d x)).map fun r=>(r.1,r.2,S))
 | .build T ps=>cond (QlR (ps.toList.map fun p=>(p.1,ev S.env p.2))) (bPub S T (ps.toList.map fun p=>(p.1,ev S.env p.2))) ((qe S (.build T ps)).map fun r=>(r.1,r.2,S))
 | .call c=>match c.callee with
  | .builtin .append=>he S (.call c)
  | .builtin .copy=>he S (.call c)
  | _=>(qe S (.call c)).map fun r=>(r.1,r.2,S)
 | op=>(qe S op).map fun r=>(r.1,r.2,S)
def QgV (D:Cx):Option (CSel->Option (List Prop×List UInt8)):=
 match clk D 199 with
 | some (.meth g)=>some g
 | _=>none
def QoD (D:Cx) (S:SS) (r:Operand) (m:String) (l:List Operand):QR:=
 match QgV D,unw (ev S.env r),l with
 | some g,.cs x,[]=>match g x with
  | some (ps, s) => cond (m == "String") (some (ps, .str s)) none
  | none=>none
 | _,_,_=>none
theorem QoC {D:Cx} {S:SS} {r:Operand} {m:String} {l:List Operand} {ps:List Prop} {v:SV} (h:QoD D S r m l=some (ps,v)) :
 ∃ g x s, QgV D = some g /\ unw (ev S.env r) = .cs x /\ l = [] /\ m = "String" /\ g x = some (ps, s) /\ v = .str s := by
 unfold QoD at h
 split at h
 rename_i g x h1 h2
 split at h
 rename_i ps' s hg
 cases hm : (m == "String") with
 | false=>rw[hm]at h;cases h
 | true=>
  rw[hm]at h
  cases h
  exact⟨g,x,s,h1,h2,rfl,by simpa using hm,hg,rfl⟩
 cases h
 cases h
theorem QqN {D:Cx} (hD:Qb D) {g:CSel->Option (List Prop×List UInt8)} (h:QgV D=some g):Qaz g:=by
 unfold QgV at h
 split at h
 rename_i g' hc
 cases h
 exact (hD _ _ hc).2
 cases h
def ov (D:Cx) (S:SS) (op:Op) (K:SV->SS->Prop):Prop:=
 match op with
 | .call c=>match c.callee with
  | .value f=>match Qd7 (ev S.env f) with
   | some k=>bb (QiX S.env c.args.toList) (QbS D S k (c.args.toList.map fun x=>ev S.env x) K)
   | none=>False
  | .invoke r m=>match QgV D,ev S.env r,c.args.toList with
   | some g,.cs x,[]=>match g x with
    | some (ps, s) => bb (m == "String") (Qea ps (K (.str s) S))
    | none=>False
   | _,_,_=>False
  | _=>match oe S (.call c) with
   | some (ps,s,S')=>Qea ps (K s S')
   | none=>False
 | op=>match oe S op with
  | some (ps,s,S')=>Qea ps (K s S')
  | none=>False
def putD (S:SS) (d:Option Tmp) (s:SV):SS:=
 match d with
 | some d=>{ S with env:=ept S.env d s }
 | none=>S
section
variable {g0:Glob} {w0:World} {M:Nat->Prop} {ω:Wit} {S:SS} {a:Act} {w:World}
theorem Sim.putD (h:Sim g0 w0 M ω S a w) {s:SV} {v:Value} (hr:Rel ω s v) (d:Option Tmp):Sim g0 w0 M ω (putD S d s) (a.put d v) w:=by
 cases d with
 | none=>exact h
 | some d=>exact h.put hr d
def Nx (g0:Glob) (w0:World) (M:Nat->Prop) (K:SS->Prop) (a:Act) (w:World):Prop:=∃ω S,K S/\Sim g0 w0 M ω S a w
theorem QuP (hS:Sim g0 w0 M ω S a w) {o:Oper} {ps:List Prop} {v:SV} (h:qe S o.op=some (ps,v)) (hp:Yl ps) {Q:Exit->Act->World->Prop} :
 o.wp zd a w (Nx g0 w0 M fun S''=>S''=YtengepcafdnalaaGreatDoor.putD S o.dst v) Q:=by
 obtain⟨u,h2,h3⟩:=QuQ hS h hp
 unfold Oper.wp
 rw[h3,Oper.upon_value]
 exact⟨ω,_,rfl,hS.putD h2 _⟩
theorem Qrj (hS:Sim g0 w0 M ω S a w) {o:Oper} {K:SV->SS->Prop} (h:hv S o.op K) {Q:Exit->Act->World->Prop} :
 o.wp zd a w (Nx g0 w0 M fun S''=>∃s S',K s S'/\S''=YtengepcafdnalaaGreatDoor.putD S' o.dst s) Q:=by
 obtain⟨ω',s,S',w',v,h1,h2,h3,h4⟩:=hv_ok hS h
 unfold Oper.wp
 rcases h4 with h4 | ⟨h4,rfl⟩
 rw[h4,Oper.upon_value]
 exact⟨ω',_,⟨s,S',h1,rfl⟩,h2.putD h3 _⟩
 rw[h4,Oper.upon_skip]
 exact⟨ω',_,⟨s,S',h1,rfl⟩,h2.putD h3 _⟩
theorem QdY (hS:Sim g0 w0 M ω S a w) {o:Oper} {ps:List Prop} {v:SV} {S':SS} (h:he S o.op=some (ps,v,S')) (hp:Yl ps) {Q:Exit->Act->World->Prop} :
 o.wp zd a w (Nx g0 w0 M fun S''=>S''=YtengepcafdnalaaGreatDoor.putD S' o.dst v) Q:=by
 refine Oper.wp_mono (fun a' w' ⟨ω',S'',⟨s,R,⟨h1,h2⟩,h3⟩,h4⟩=>⟨ω',S'',?_,h4⟩) (Qrj hS (he_ok h hp))
 subst h1;subst h2;exact h3
theorem Quo (hS:Sim g0 w0 M ω S a w) {o:Oper} {T:TypeId} {qs:Array (Nat×Operand)} (ho:o.op=.build T qs) {ps:List Prop} {v:SV} {S':SS}
 (h:bPub S T (qs.toList.map fun p=>(p.1,YtengepcafdnalaaGreatDoor.ev S.env p.2))=some (ps,v,S')) (hp:Yl ps) {Q:Exit->Act->World->Prop} :
 o.wp zd a w (Nx g0 w0 M fun S''=>S''=YtengepcafdnalaaGreatDoor.putD S' o.dst v) Q:=by
 unfold bPub at h
 simp only[zk]at h
 obtain⟨⟨ps',v'⟩,h1,h2⟩:=h
 cases h2
 obtain⟨ω',hl,hpl,hpr,h2⟩:=Sim.pubS ((qs.toList.map fun p=>(p.1,YtengepcafdnalaaGreatDoor.ev S.env p.2)).map (·.2)) S ω hS (qs.toList.map fun p=>a.eval p.2) (by simp) (fun i s v e1 e2=>by
  simp only[zB]at e1 e2
  cases hq:qs.toList[i]? with
  | none=>rw[hq]at e1;cases e1
  | some p=>
   rw[hq]at e1 e2
   simp only[zK,Option.some.injEq]at e1 e2
   rw[<-e1,<-e2]
   exact hS.ev p.2)
 obtain⟨s,u,k1,k2,k3⟩:=Qkz (ω:=ω') (vs:=qs.map fun (i,x)=>(i,a.eval x)) (by
  rw[List.length_zip,hpl];simp) (fun i x y e1 e2=>by
  rw[List.getElem?_zip_eq_some]at e1
  rw[Array.toList_map,zB]at e2
  obtain⟨e3,e4⟩:=e1
  simp only[zB]at e3
  cases hq:qs.toList[i]? with
  | none=>rw[hq]at e3;cases e3
  | some p=>
   rw[hq]at e2 e3
   simp only[zK,Option.some.injEq]at e2 e3
   rw[<-e2]
   refine⟨e3.symm,hpr i x.2 _ e4 ?_⟩
   rw[zB,hq]
   rfl) (Qjx h1) w
 subst k1
 unfold Oper.wp
 have hrun:(execOp a.eval o).run zd w=.ok (.value u) w:=by
  unfold execOp
  rw[ho]
  exact Zx k3
 rw[hrun,Oper.upon_value]
 exact⟨ω',_,rfl,h2.putD k2 _⟩
theorem oe_wp (hS:Sim g0 w0 M ω S a w) {o:Oper} {ps:List Prop} {v:SV} {S':SS} (h:oe S o.op=some (ps,v,S')) (hp:Yl ps) {Q:Exit->Act->World->Prop} :
 o.wp zd a w (Nx g0 w0 M fun S''=>S''=YtengepcafdnalaaGreatDoor.putD S' o.dst v) Q:=by
 have quiet:((qe S o.op).map fun r=>(r.1,r.2,S))=some (ps,v,S')->o.wp zd a w (Nx g0 w0 M fun S''=>S''=YtengepcafdnalaaGreatDoor.putD S' o.dst v) Q:=by
  intro h
  simp only[zk]at h
  obtain⟨⟨ps',v'⟩,h1,h2⟩:=h
  cases h2
  exact QuP hS h1 hp
 obtain⟨op,hop⟩:∃op,o.op=op:=⟨_,rfl⟩
 rw[hop]at h quiet
 cases op
 case alloc T=>exact QdY hS (by rw[hop];exact h) hp
 case box T x=>exact QdY hS (by rw[hop];exact h) hp
 case store T x y=>exact QdY hS (by rw[hop];exact h) hp
 case buildSlice T n qs=>exact QdY hS (by rw[hop];exact h) hp
 case makeSlice T l c=>exact QdY hS (by rw[hop];exact h) hp
 case convert s d x=>
  simp only[oe]at h
  cases hd:(d==37) with
  | true=>rw[hd]at h;exact QdY hS (by rw[hop];exact h) hp
  | false=>rw[hd]at h;exact quiet h
 case build T qs=>
  simp only[oe]at h
  cases hd:QlR (qs.toList.map fun p=>(p.1,YtengepcafdnalaaGreatDoor.ev S.env p.2)) with
  | true=>rw[hd]at h;exact Quo hS hop h hp
  | false=>rw[hd]at h;exact quiet h
 case call c=>
  obtain⟨callee,args,tys⟩:=c
  cases callee with
  | builtin b=>
   by_cases hb:b=.append
   subst hb;exact QdY hS (by rw[hop];exact h) hp
   by_cases hc:b=.copy
   subst hc;exact QdY hS (by rw[hop];exact h) hp
   refine quiet ?_
   cases b<;>first | exact absurd rfl hb | exact absurd rfl hc | exact h
  | invoke r m=>exact quiet h
  | value f=>exact quiet h
 all_goals exact quiet h
theorem QfS (hS:Sim g0 w0 M ω S a w):∀{l:List Operand},Qgh S.env l->∀(i:Nat) (s:SV) (v:Value),(l.map fun x=>unw (ev S.env x))[i]? = some s->(l.map a.eval)[i]? = some v->Rel ω s v
 | [],_,i,s,v,e,_=>by simp at e
 | x::l,h,0,s,v,e1,e2=>by
  simp only[zY,zC,Option.some.injEq]at e1 e2
  rw[<-e1,<-e2]
  exact Uo (hS.ev x) h.1
 | x::l,h,i+1,s,v,e1,e2=>QfS hS h.2 i s v (by simpa using e1) (by simpa using e2)
theorem QfV {D:Cx} (hD:Qb D) (hS:Sim g0 w0 M ω S a w) {f:Nat} {svs:List SV} {args:Array Value} (hn:args.size=svs.length)
 (hr:∀(i:Nat) (s:SV) (v:Value),svs[i]? = some s->args[i]? = some v->Rel ω s v) {K:SV->SS->Prop} (hk:QbS D S f svs K) :
 Has f/\Calls zd f args w fun e w'=>∃v,e=.returned v/\Qd3 g0 w0 M a K v w':=by
 unfold QbS at hk
 split at hk
 rename_i P hc
 obtain⟨h1,h2⟩:=hD f _ hc
 exact⟨h1,Sat.call h2 hS hn hr (QfW hk)⟩
 rename_i g hc
 obtain⟨h1,h2⟩:=hD f _ hc
 exact⟨h1,Sat.call h2 hS hn hr (QfW hk)⟩
 rename_i g hc
 obtain⟨h1,h2⟩:=hD f _ hc
 exact⟨h1,Sat.call h2 hS hn hr (QfW hk)⟩
 rename_i E P hc
 obtain⟨h1,h2⟩:=hD f _ hc
 exact⟨h1,Sat.callOwn h2 hS hn hr (Qtb hk)⟩
 exact hk.elim
theorem Rel.op_inv {u v:Value} (h:Rel ω (.op v) u):u=v:=by cases h;rfl
theorem QnI {D:Cx} (hD:Qb D) (hS:Sim g0 w0 M ω S a w) {o:Oper} {c:Call} (ho:o.op=.call c) {f:Operand} (hf:c.callee=.value f) {k:Nat} (hk:Qd7 (ev S.env f)=some k) (hc:Qgh S.env c.args.toList)
 {K:SV->SS->Prop} (h:QbS D S k (c.args.toList.map fun x=>unw (ev S.env x)) K) {Q:Exit->Act->World->Prop} :
 o.wp zd a w (Nx g0 w0 M fun S''=>∃s S',K s S'/\S''=YtengepcafdnalaaGreatDoor.putD S' o.dst s) Q:=by
 have hv:=hS.ev f
 have hval:a.eval f=.func (.func k) #[] #[]:=by
  unfold Qd7 at hk
  split at hk
  rename_i k' x y he
  split at hk
  rename_i hsz
  cases hk
  rw[he]at hv
  rw[hv.op_inv]
  have h1:x = #[]:=xq hsz.1
  have h2:y = #[]:=xq hsz.2
  rw[h1,h2]
  cases hk
  cases hk
 obtain⟨⟨fn,code,k1,k2,k3⟩,h2⟩:=QfV hD hS (args:=c.args.map a.eval) (by simp) (fun i s v e1 e2=>QfS hS hc i s v e1 (by rw[<-Array.toList_map];simpa using e2)) h
 have hrun:(execOp a.eval o).run zd w=.ok (.enter k (c.args.map a.eval)) w:=by
  have hne : fn.name ≠ "runtime.NumGoroutine" := by simpa using k2
  unfold execOp
  rw[ho]
  simp[resolve,hf,hval,Deferred.ofValue,invoke,callFunc,k1,k3,hne]
 unfold Oper.wp
 rw[hrun,Oper.upon_enter]
 refine h2.mono fun e w' ⟨v,he,ω',s,S',q1,q2,q3⟩=>?_
 subst he
 exact⟨ω',_,⟨s,S',q1,rfl⟩,q2.putD q3 _⟩
theorem Qg1 {D:Cx} (hD:Qb D) (hS:Sim g0 w0 M ω S a w) {o:Oper} {r:Operand} {m:String} {args:Array Operand} {tys:Array TypeId} (ho:o.op=.call ⟨.invoke r m,args,tys⟩)
 {g : CSel -> Option (List Prop × List UInt8)} (hg : QgV D = some g) {x : CSel} (hc : cnd (ev S.env r)) (hx : unw (ev S.env r) = .cs x) (ha : args.toList = []) (hm : m = "String") {ps : List Prop} {s : List UInt8} (hgx : g x = some (ps, s)) (hp : Yl ps)
 {K:SV->SS->Prop} (hk:K (.str s) S) {Q:Exit->Act->World->Prop} :
 o.wp zd a w (Nx g0 w0 M fun S''=>∃s S',K s S'/\S''=YtengepcafdnalaaGreatDoor.putD S' o.dst s) Q:=by
 obtain⟨f,c,ps',⟨fn,code,k1,k2,k3⟩,h2,h3,h4,h5⟩:=QqN hD hg x ps s hgx hp
 have hv:=Uo (hS.ev r) hc
 rw[hx]at hv
 have key:∀v,Rel ω (.cs x) v->∃vs,v=.iface x.ty vs/\Rel ω (.agg x.cells) vs:=by
  intro v hv
  cases hv with
  | cs _ _ h=>
   unfold CSel.enc at h
   cases h with
   | iface _ _ v h=>exact⟨v,rfl,h⟩
 obtain⟨vs,e,hr⟩:=key _ hv
 have hlt:SV.lts 0 [SV.agg x.cells]=true:=by
  have:=CSel.enc_lt 0 x
  simpa [CSel.enc,SV.lt,SV.lts] using this
 have hcall:QbS [(f,.pure c)] S f [.agg x.cells] K:=by
  have e1:clk [(f,CSpec.pure c)] f=some (.pure c):=by simp[clk]
  unfold QbS
  rw[e1]
  show bb (SV.lts 0 [SV.agg x.cells]) (Ql c [.agg x.cells] none fun o _=>UW S o K)
  rw[hlt]
  show Ql c [.agg x.cells] none fun o _=>UW S o K
  unfold Ql
  rw[h3]
  exact Qsr h4 hk
 obtain⟨_,hh⟩:=QfV (Qb.cons (c:=.pure c) ⟨fn,code,k1,k2,k3⟩ h2 Qb.nil) hS (args := #[vs]) rfl (fun i s v e1 e2=>by
  match i,e1,e2 with
  | 0,e1,e2=>cases e1;cases e2;exact hr
  | i+1,e1,e2=>simp at e1) hcall
 have hargs:args = #[]:=by
  obtain⟨l⟩:=args
  simp only at ha
  rw[ha]
 have hrun:(execOp a.eval o).run zd w=.ok (.enter f #[vs]) w:=by
  have hne : fn.name ≠ "runtime.NumGoroutine" := by simpa using k2
  unfold execOp
  rw[ho]
  subst hm
  subst hargs
  have h6:=h5 vs w
  rw[show zd.types.size=243 by simp]at h6
  simp[resolve,invoke,callMethod,e,h6,callFunc,k1,k3,hne]
 unfold Oper.wp
 rw[hrun,Oper.upon_enter]
 refine hh.mono fun e w' ⟨v,he,ω',s,S',q1,q2,q3⟩=>?_
 subst he
 exact⟨ω',_,⟨s,S',q1,rfl⟩,q2.putD q3 _⟩
theorem QuX {D:Cx} (hD:Qb D) (hS:Sim g0 w0 M ω S a w) {o:Oper} {K:SV->SS->Prop} (h:ov D S o.op K) {Q:Exit->Act->World->Prop} :
 o.wp zd a w (Nx g0 w0 M fun S''=>∃s S',K s S'/\S''=YtengepcafdnalaaGreatDoor.putD S' o.dst s) Q:=by
 have gen:(match oe S o.op with | some (ps,s,S')=>Qea ps (K s S') | none=>False)->o.wp zd a w (Nx g0 w0 M fun S''=>∃s S',K s S'/\S''=YtengepcafdnalaaGreatDoor.putD S' o.dst s) Q:=by
  intro h
  split at h
  rename_i ps s S' e
  obtain⟨h1,h2⟩:=QbB h
  exact Oper.wp_mono (fun a' w' ⟨ω',S'',h3,h4⟩=>⟨ω',S'',⟨s,S',h2,h3⟩,h4⟩) (oe_wp hS e h1)
  exact h.elim
 obtain⟨op,hop⟩:∃op,o.op=op:=⟨_,rfl⟩
 rw[hop]at h gen
 cases op
 case call c=>
  obtain⟨callee,args,tys⟩:=c
  cases callee with
  | builtin b=>exact gen h
  | invoke r m=>
   simp only[ov]at h
   split at h
   rename_i g x hg hx hargs
   split at h
   rename_i ps s hgx
   obtain⟨h1,h2⟩:=UA h
   obtain⟨h3,h4⟩:=QbB h2
   exact Qg1 hD hS hop hg (by rw[hx];trivial) (by rw[hx];rfl) hargs (by simpa using h1) hgx h3 h4
   exact h.elim
   exact h.elim
  | value f=>
   simp only[ov]at h
   split at h
   rename_i k hk
   obtain⟨h1,h2⟩:=UA h
   obtain⟨h3,h4⟩:=QeF h1
   exact QnI hD hS hop rfl hk h3 (by rw[h4];exact h2)
   exact h.elim
 all_goals exact gen h
end
end
section
open Go Go.RowKit
def Yr (hp:Heap) (svs:List SV):List SV×Option SB:=
 match svs with
 | .ptr r 0::rest=>(.ptr 0 0::rest,hlk hp r)
 | svs=>(svs,none)
def JM:List (Option Tmp)->Nat->Option Tmp
 | [],_=>none
 | d::_,0=>d
 | _::l,n+1=>JM l n
def QaC (ds:List (Option Tmp)) (S:SS) (j:Nat):SV:=
 match JM ds j with
 | some d=>Z6 S.env d
 | none=>.undef
section
theorem Qh9 (l:List SV):∀(i:Nat) (v s:SV),lk1 l i=some s->lk1 (pt1 l i v) i=some v:=by
 induction l with
 | nil=>intro i v s h;cases h
 | cons x l ih=>intro i v s h;cases i with
  | zero=>rfl
  | succ i=>exact ih i v s h
theorem Qh7 (l:Env):∀(i j:Nat) (v s:SV),lk2 l i j=some s->lk2 (pt2 l i j v) i j=some v:=by
 induction l with
 | nil=>intro i j v s h;cases h
 | cons x l ih=>intro i j v s h;cases i with
  | zero=>exact Qh9 x j v s h
  | succ i=>exact ih i j v s h
theorem Qat {e:Env} {d:Nat} {s:SV} (h:elk e d=some s) (t:SV):elk (ept e d t) d=some t:=Qh7 e _ _ t s h
theorem Qlz (l:List SV):∀(i j:Nat) (v:SV),i≠j->lk1 (pt1 l i v) j=lk1 l j:=by
 induction l with
 | nil=>intro i j v h;rfl
 | cons x l ih=>
  intro i j v h
  cases i<;>cases j
  exact absurd rfl h
  rfl
  rfl
  exact ih _ _ v (fun e=>h (by rw[e]))
theorem Qly (l:Env):∀(i i' j j':Nat) (v:SV),¬(i=j/\i'=j')->lk2 (pt2 l i i' v) j j'=lk2 l j j':=by
 induction l with
 | nil=>intro i i' j j' v h;rfl
 | cons x l ih=>
  intro i i' j j' v h
  cases i<;>cases j
  exact Qlz x _ _ v (fun e=>h ⟨rfl,e⟩)
  rfl
  rfl
  exact ih _ _ _ _ v (fun e=>h ⟨by rw[e.1],e.2⟩)
theorem Uc {e:Env} {d i:Nat} (hne:d≠i) (t:SV):elk (ept e d t) i=elk e i:=Qly e _ _ _ _ t (fun h=>hne (by omega))
theorem JC (ops:Array Oper):∀(l:List Oper) (k j:Nat),(∀i,l[i]? = ops[k+i]?)->JM (l.map (·.dst)) j=(ops[k+j]?).bind (·.dst)
 | [],k,j,h=>by
  have:=h j
  rw[<-this]
  rfl
 | o::l,k,0,h=>by
  have:=h 0
  rw[<-this]
  rfl
 | o::l,k,j+1,h=>by
  have:=JC ops l (k+1) j (fun i=>by have:=h (i+1);simpa [Nat.add_assoc,Nat.add_comm 1 i] using this)
  simp only[zY,JM,this]
  congr 2
  omega
end
end
end Go.Proofs.YtengepcafdnalaaGreatDoor
