/-
  Parts of the proof that the law FnPrintBack holds for every input (texts Ef, Eg, Eh). Conditions: none.
-/
import Derived.Test.YtengepcafdnalaaGreatDoorM07
import Derived.IntWalk
namespace Go.Proofs.YtengepcafdnalaaGreatDoor
open _root_.Array renaming getElem?_eq_getElem → zr, getD_eq_getD_getElem? → xb
open _root_.Bool renaming eq_iff_iff → zG, or_eq_true → zx
open _root_.List renaming getElem?_eq_some_iff → zy, getElem?_map → zC, getD_eq_getElem?_getD → zd, getElem?_eq_getElem → zg, eq_nil_of_length_eq_zero → xq
open _root_.Nat renaming zero_add → xj, mul_le_mul_right → z8
open _root_.Option renaming bind_some → zQ, map_some → zK
open Go.Result renaming andThen_ok → zn
open Go.Sem renaming run_bind → zp, run_pure → xa
open Go.Proofs.Tryz renaming prog → zf
section
open Go Go.RowKit
def inI (n:Int):Prop := -9223372036854775808<=n/\n<=9223372036854775807
def Qkv (k:IntKind) (n:Int) (K:SV->Prop):Prop:=
 match k with
 | .i64=>inI n/\K (.int .i64 n)
 | .u8=>K (.int .u8 (n%256))
 | _=>False
def UU (op:BinOp) (k:IntKind) (a b:Int) (K:SV->Prop):Prop:=
 match op with
 | .add=>Qkv k (a+b) K
 | .sub=>Qkv k (a-b) K
 | .mul=>Qkv k (a*b) K
 | .quo=>0<=a/\inI a/\0<b/\k=.i64/\K (.int k (a/b))
 | .rem=>0<=a/\0<b/\K (.int k (a%b))
 | .eql=>K (.bool (decide (a=b)))
 | .neq=>K (.bool (!decide (a=b)))
 | .lss=>K (.bool (decide (a<b)))
 | .leq=>K (.bool (decide (a<=b)))
 | .gtr=>K (.bool (decide (b<a)))
 | .geq=>K (.bool (decide (b<=a)))
 | .shl=>k=.i64/\0<=b/\b<=62/\inI (a*2^b.toNat)/\K (.int k (a*2^b.toNat))
 | _=>False
def strK (op:BinOp) (a b:List UInt8) (K:SV->Prop):Prop:=
 match op with
 | .add=>a.length+b.length<=2305843009213693952/\K (.str (a++b))
 | .eql=>K (.bool (decide (a=b)))
 | .neq=>K (.bool (!decide (a=b)))
 | _=>False
def Qri (op:BinOp) (a b:Bool) (K:SV->Prop):Prop:=
 match op with
 | .eql=>K (.bool (decide (a=b)))
 | .neq=>K (.bool (!decide (a=b)))
 | _=>False
def QcM (op:BinOp) (b:Bool) (K:SV->Prop):Prop:=
 match op with
 | .eql=>K (.bool b)
 | .neq=>K (.bool (!b))
 | _=>False
def isC:Operand->Bool
 | .const _=>true
 | _=>false
theorem QbO {n:Int} (h:inI n):IntKind.i64.wrap n=n:=IntWalk.i64_in n ⟨by have:=h.1;omega,by have:=h.2;omega⟩
theorem QdV {ω:Wit} {k:IntKind} {n:Int} {K:SV->Prop} (h:Qkv k n K):∃s,K s/\Rel ω s (.int k (k.wrap n)):=by
 unfold Qkv at h
 split at h
 exact⟨_,h.2,by rw[QbO h.1];exact .int _ _⟩
 exact⟨_,h,by rw[IntKind.wrap_u8];exact .int _ _⟩
 exact h.elim
theorem Qrq {ω:Wit} {op:BinOp} {k:IntKind} {a b:Int} {K:SV->Prop} (h:UU op k a b K) (T:TypeId) (w:World) (hsh:op ≠ .shl) :
 ∃s v,K s/\Rel ω s v/\(binOp op T (.int k a) (.int k b)).run zf w=.ok v w:=by
 cases op<;>simp only[UU]at h<;>try exact h.elim
 case add=>obtain⟨s,h1,h2⟩:=QdV (ω:=ω) h;exact⟨s,_,h1,h2,by simp[binOp,Op.intArith]⟩
 case sub=>obtain⟨s,h1,h2⟩:=QdV (ω:=ω) h;exact⟨s,_,h1,h2,by simp[binOp,Op.intArith]⟩
 case mul=>obtain⟨s,h1,h2⟩:=QdV (ω:=ω) h;exact⟨s,_,h1,h2,by simp[binOp,Op.intArith]⟩
 case quo=>
  obtain⟨h0,h1,h2,rfl,h3⟩:=h
  refine⟨_,_,h3,.int _ _,?_⟩
  simp[binOp,Op.intDiv,show ¬b=0 from by omega,IntWalk.i64_quo a b ⟨h0,by have:=h1.2;omega,by omega⟩]
 case rem=>
  obtain⟨h0,h1,h3⟩:=h
  refine⟨_,_,h3,.int _ _,?_⟩
  simp[binOp,Op.intDiv,show ¬b=0 from by omega,IntWalk.rem_in a b h0]
 case eql=>exact⟨_,_,h,.bool _,by simp[binOp,Op.intCmp];rfl⟩
 case neq=>exact⟨_,_,h,.bool _,by simp[binOp,Op.intCmp,bne];rfl⟩
 case lss=>exact⟨_,_,h,.bool _,by simp[binOp,Op.intCmp]⟩
 case leq=>exact⟨_,_,h,.bool _,by simp[binOp,Op.intCmp]⟩
 case gtr=>exact⟨_,_,h,.bool _,by simp[binOp,Op.intCmp]⟩
 case geq=>exact⟨_,_,h,.bool _,by simp[binOp,Op.intCmp]⟩
 case shl=>exact absurd rfl hsh
theorem Quy {ω:Wit} {k k':IntKind} {a b:Int} {K:SV->Prop} (h:UU .shl k a b K) (T:TypeId) (w:World) :
 ∃s v,K s/\Rel ω s v/\(binOp .shl T (.int k a) (.int k' b)).run zf w=.ok v w:=by
 simp only[UU]at h
 obtain⟨rfl,h0,h1,h2,h3⟩:=h
 refine⟨_,_,h3,.int _ _,?_⟩
 have hm:min b.toNat IntKind.i64.bits=b.toNat:=Nat.min_eq_left (by simp[IntKind.bits];omega)
 simp[binOp,Op.shift,show ¬b<0 from by omega,hm,QbO h2]
theorem JE (l:List UInt8):(⟨l.toArray⟩:ByteArray).size=l.length:=by simp[ByteArray.size]
theorem Qef (l:List UInt8):(⟨l.toArray⟩:ByteArray).toList=l:=by rw[ByteArray.toList_eq]
theorem QrP (a b:List UInt8):(⟨a.toArray⟩:ByteArray)++(⟨b.toArray⟩:ByteArray)=⟨(a++b).toArray⟩:=by
 apply ByteArray.ext
 simp
theorem Qia {α:Type} [BEq α] [LawfulBEq α] [DecidableEq α] (a b:α):(a==b)=decide (a=b):=by rw[zG];simp
theorem QoI {ω:Wit} {op:BinOp} {a b:List UInt8} {K:SV->Prop} (h:strK op a b K) (T:TypeId) (w:World) :
 ∃s v,K s/\Rel ω s v/\(binOp op T (.string ⟨a.toArray⟩) (.string ⟨b.toArray⟩)).run zf w=.ok v w:=by
 cases op<;>simp only[strK]at h<;>try exact h.elim
 case add=>
  refine⟨_,_,h.2,.str _,?_⟩
  have h0:=h.1
  simp only[binOp,Op.stringOp,JE,QrP]
  rw[if_neg (by simp[IntKind.max,IntKind.signed,IntKind.bits];omega)]
  rfl
 case eql=>
  refine⟨_,_,h,.bool _,?_⟩
  simp only[binOp,Op.stringOp,Qef,Qia]
  rfl
 case neq=>
  refine⟨_,_,h,.bool _,?_⟩
  simp only[binOp,Op.stringOp,Qef,Qia]
  rfl
theorem UK {T:TypeId} {x y:Value} {b:Bool} (w:World) (h:(Op.equalIn (9999+1) T x y).run zf w=.ok b w):(do pure (.bool (<- Op.equal T x y)):Sem Value).run zf w=.ok (.bool b) w:=by
 have h':(Op.equal T x y).run zf w=.ok b w:=h
 rw[zp,h']
 rfl
theorem UJ {T:TypeId} {x y:Value} {b:Bool} (w:World) (h:(Op.equalIn (9999+1) T x y).run zf w=.ok b w):(do pure (.bool (!(<- Op.equal T x y))):Sem Value).run zf w=.ok (.bool (!b)) w:=by
 have h':(Op.equal T x y).run zf w=.ok b w:=h
 rw[zp,h']
 rfl
theorem QgK (d:Nat) (a b:Bool) (w:World):(Op.equalIn (d+1) 4 (.bool a) (.bool b)).run zf w=.ok (decide (a=b)) w:=by
 have hu:zf.underlying 4=some .bool:=by kernel_rfl
 unfold Op.equalIn
 simp only[zp,run_underlying hu,zn,Qia]
 rfl
theorem Qoo {ω:Wit} {op:BinOp} {a b:Bool} {K:SV->Prop} (h:Qri op a b K) (w:World) :
 ∃s v,K s/\Rel ω s v/\(binOp op 4 (.bool a) (.bool b)).run zf w=.ok v w:=by
 cases op<;>simp only[Qri]at h<;>try exact h.elim
 case eql=>exact⟨_,_,h,.bool _,UK w (QgK 9999 a b w)⟩
 case neq=>exact⟨_,_,h,.bool _,UJ w (QgK 9999 a b w)⟩
def ifT (T:TypeId):Bool:=T==71||T==56
theorem Qqo {T:TypeId} (h:ifT T=true):∃ms,zf.underlying T=some (.interface ms):=by
 simp only[ifT,zx,beq_iff_eq]at h
 have key:∀T:TypeId,((zf.underlying T).map fun d=>match d with | .interface _=>true | _=>false)=some true->∃ms,zf.underlying T=some (.interface ms):=by
  intro T h
  cases hd:zf.underlying T with
  | none=>rw[hd]at h;cases h
  | some d=>
   rw[hd]at h
   cases d<;>simp at h
   exact⟨_,rfl⟩
 rcases h with rfl | rfl
 exact key 71 (by kernel_rfl)
 exact key 56 (by kernel_rfl)
theorem Qfc {T:TypeId} (hT:ifT T=true) (d:Nat) (t:TypeId) (u:Value) (w:World):(Op.equalIn (d+1) T (.iface t u) .nilIface).run zf w=.ok false w:=by
 obtain⟨ms,hu⟩:=Qqo hT
 unfold Op.equalIn
 simp only[zp,run_underlying hu,zn]
 rfl
theorem QjC {T:TypeId} (hT:ifT T=true) (d:Nat) (w:World):(Op.equalIn (d+1) T .nilIface .nilIface).run zf w=.ok true w:=by
 obtain⟨ms,hu⟩:=Qqo hT
 unfold Op.equalIn
 simp only[zp,run_underlying hu,zn]
 rfl
theorem Qfb (d:Nat) (a:Option Addr) (n c:Nat) (w:World):(Op.equalIn (d+1) 37 (.slice a n c) (.slice none 0 0)).run zf w=.ok a.isNone w:=by
 have hu:zf.underlying 37=some (.slice 5):=by kernel_rfl
 unfold Op.equalIn
 simp only[zp,run_underlying hu,zn]
 cases a<;>rfl
theorem Qam {ω:Wit} {op:BinOp} {T:TypeId} (hT:ifT T=true) {t:TypeId} {u:Value} {K:SV->Prop} (h:QcM op false K) (w:World) :
 ∃s v,K s/\Rel ω s v/\(binOp op T (.iface t u) .nilIface).run zf w=.ok v w:=by
 cases op<;>simp only[QcM]at h<;>try exact h.elim
 case eql=>exact⟨_,_,h,.bool _,UK w (Qfc hT 9999 t u w)⟩
 case neq=>exact⟨_,_,h,.bool _,UJ w (Qfc hT 9999 t u w)⟩
theorem QnO {ω:Wit} {op:BinOp} {T:TypeId} (hT:ifT T=true) {K:SV->Prop} (h:QcM op true K) (w:World) :
 ∃s v,K s/\Rel ω s v/\(binOp op T .nilIface .nilIface).run zf w=.ok v w:=by
 cases op<;>simp only[QcM]at h<;>try exact h.elim
 case eql=>exact⟨_,_,h,.bool _,UK w (QjC hT 9999 w)⟩
 case neq=>exact⟨_,_,h,.bool _,UJ w (QjC hT 9999 w)⟩
theorem Qdo {ω:Wit} {op:BinOp} {T:TypeId} (hT:T=37) {a:Option Addr} {n c:Nat} {K:SV->Prop} (h:QcM op a.isNone K) (w:World) :
 ∃s v,K s/\Rel ω s v/\(binOp op T (.slice a n c) (.slice none 0 0)).run zf w=.ok v w:=by
 subst hT
 cases op<;>simp only[QcM]at h<;>try exact h.elim
 case eql=>exact⟨_,_,h,.bool _,UK w (Qfb 9999 a n c w)⟩
 case neq=>exact⟨_,_,h,.bool _,UJ w (Qfb 9999 a n c w)⟩
def Qrj (hp:Heap) (op:BinOp) (T:TypeId) (cc:Bool) (sx sy:SV) (K:SV->Prop):Prop:=
 match sx,sy with
 | .int k a,.int k' b=>(op=.shl\/k=k')/\UU op k a b K
 | .str a,.str b=>strK op a b K
 | .bool a,.bool b=>T=4/\Qri op a b K
 | .ifx,.nilif=>ifT T=true/\QcM op false K
 | .cs _,.nilif=>ifT T=true/\QcM op false K
 | .iface _ _,.nilif=>ifT T=true/\QcM op false K
 | .nilif,.nilif=>cc=true/\ifT T=true/\QcM op true K
 | .nilsl,.nilsl=>T=37/\QcM op true K
 | .own r,.nilsl=>T=37/\match hlk hp r with
  | some (.row x _)=>0<x.len/\QcM op false K
  | _=>False
 | _,_=>False
theorem Rel.int_inv {ω:Wit} {k:IntKind} {n:Int} {v:Value} (h:Rel ω (.int k n) v):v=.int k n:=by cases h;rfl
theorem Rel.bool_inv {ω:Wit} {b:Bool} {v:Value} (h:Rel ω (.bool b) v):v=.bool b:=by cases h;rfl
theorem Rel.str_inv {ω:Wit} {l:List UInt8} {v:Value} (h:Rel ω (.str l) v):v=.string ⟨l.toArray⟩:=by cases h;rfl
theorem Rel.nilif_inv {ω:Wit} {v:Value} (h:Rel ω .nilif v):v=.nilIface:=by cases h;rfl
theorem Rel.nilsl_inv {ω:Wit} {v:Value} (h:Rel ω .nilsl v):v=.slice none 0 0:=by cases h;rfl
theorem Rel.ifx_inv {ω:Wit} {v:Value} (h:Rel ω .ifx v):∃t u,v=.iface t u:=by cases h;exact⟨_,_,rfl⟩
theorem Rel.iface_inv {ω:Wit} {t:TypeId} {s:SV} {v:Value} (h:Rel ω (.iface t s) v):∃u,v=.iface t u/\Rel ω s u:=by cases h;exact⟨_,rfl,by assumption⟩
theorem Rel.cs_inv {ω:Wit} {x:CSel} {v:Value} (h:Rel ω (.cs x) v):∃u,v=.iface x.ty u/\Rel ω (.agg x.cells) u:=by
 cases h with
 | cs _ _ h=>exact h.iface_inv
theorem Rel.own_inv {ω:Wit} {r:Nat} {v:Value} (h:Rel ω (.own r) v):v=ω.σ r/\r<ω.n:=by cases h;exact⟨rfl,by assumption⟩
def QmA (T:TypeId) (x y:Operand) (u v:Value):Sem Unit:=
 match u,v with
 | .nilIface,.nilIface=>do
  if (x matches .const _)||(y matches .const _) then return
  if <- Op.eqGuardIn Op.maxDepth T u v then unsupported (.noEntry "binop/eql: two nil values of an interface type with methods, neither of them the literal nil")
 | .agg _,.agg _=>do
  if !(<- program).eqGuardType (<- program).depth T then return
  if <- Op.eqGuardIn Op.maxDepth T u v then unsupported (.noEntry "binop/eql: two nil values of an interface type with methods, in a part of a struct or an array")
 | _,_=>pure ()
theorem QnA (T:TypeId) (x y:Operand) (u v:Value) (w:World) (h1:∀p q,¬(u=.agg p/\v=.agg q)) (h2:u=.nilIface->v=.nilIface->(isC x||isC y)=true) :
 (QmA T x y u v).run zf w=.ok () w:=by
 unfold QmA
 split
 have:=h2 rfl rfl
 cases x<;>cases y<;>first | (simp[isC]at this;done) | rfl
 exact absurd ⟨rfl,rfl⟩ (h1 _ _)
 rfl
theorem YN (op:BinOp) (T:TypeId) (x y:Operand) (u v:Value) (w:World) (h1:∀p q,¬(u=.agg p/\v=.agg q)) (h2:u=.nilIface->v=.nilIface->(isC x||isC y)=true) :
 (eqGuard op T x y u v).run zf w=.ok () w:=by
 have e1:(QmA T x y u v).run zf w=.ok () w:=QnA T x y u v w h1 h2
 have e2:∀b:Bool,b=true->∀s:Sem Unit,((if (!b)=true then (pure ():Sem Unit) else s):Sem Unit)=s:=by intro b hb s;subst hb;rfl
 unfold QmA at e1
 cases op
 case eql=>unfold eqGuard;rw[e2 _ rfl];exact e1
 case neq=>unfold eqGuard;rw[e2 _ rfl];exact e1
 all_goals rfl
theorem Qx7 {g0:Glob} {w0:World} {M:Nat->Prop} {ω:Wit} {S:SS} {a:Act} {w:World} (hS:Sim g0 w0 M ω S a w) {op:BinOp} {T:TypeId} {x y:Operand} {sx sy:SV}
 (hx:Rel ω sx (a.eval x)) (hy:Rel ω sy (a.eval y)) {K:SV->Prop} (h:Qrj S.heap op T (isC x||isC y) sx sy K) :
 ∃s v,K s/\Rel ω s v/\(do eqGuard op T x y (a.eval x) (a.eval y);binOp op T (a.eval x) (a.eval y):Sem Value).run zf w=.ok v w:=by
 unfold Qrj at h
 split at h
 rw[hx.int_inv,hy.int_inv]
 rw[zp,YN _ _ _ _ _ _ _ (by simp) (by simp),zn]
 by_cases hs:op=.shl
 subst hs;exact Quy h.2 T w
 rcases h.1 with h1 | rfl
 exact absurd h1 hs
 exact Qrq h.2 T w hs
 rw[hx.str_inv,hy.str_inv]
 rw[zp,YN _ _ _ _ _ _ _ (by simp) (by simp),zn]
 exact QoI h T w
 rw[hx.bool_inv,hy.bool_inv]
 rw[zp,YN _ _ _ _ _ _ _ (by simp) (by simp),zn,h.1]
 exact Qoo h.2 w
 obtain⟨t,u,e⟩:=hx.ifx_inv
 rw[e,hy.nilif_inv,zp,YN _ _ _ _ _ _ _ (by simp) (by simp),zn]
 exact Qam h.1 h.2 w
 obtain⟨u,e,_⟩:=hx.cs_inv
 rw[e,hy.nilif_inv,zp,YN _ _ _ _ _ _ _ (by simp) (by simp),zn]
 exact Qam h.1 h.2 w
 obtain⟨u,e,_⟩:=hx.iface_inv
 rw[e,hy.nilif_inv,zp,YN _ _ _ _ _ _ _ (by simp) (by simp),zn]
 exact Qam h.1 h.2 w
 rw[hx.nilif_inv,hy.nilif_inv,zp,YN _ _ _ _ _ _ _ (by simp) (fun _ _=>h.1),zn]
 exact QnO h.2.1 h.2.2 w
 rw[hx.nilsl_inv,hy.nilsl_inv,zp,YN _ _ _ _ _ _ _ (by simp) (by simp),zn]
 exact Qdo h.1 h.2 w
 rename_i r
 obtain⟨hT,h⟩:=h
 split at h
 rename_i x0 app hr
 obtain⟨h1,_⟩:=hS.heap _ _ hr
 have hv:a.eval x=ω.σ r:=hx.own_inv.1
 rcases h1 with ⟨_,h0⟩ | ⟨g,cap,cur,fr,hσ,_⟩
 omega
 rw[hv,hσ,hy.nilsl_inv,zp,YN _ _ _ _ _ _ _ (by simp) (by simp),zn]
 exact Qdo hT h.2 w
 exact h.elim
 exact h.elim
end
section
open Go Go.RowKit
noncomputable def Qc1 (T k:Nat):Option Nat:=
 (zf.underlying T).bind fun d=>match d with
  | .struct fs=>(fs[k]?).bind fun f=>(zf.info? f.type).bind fun i=>if i.size=0 then none else some f.offset
  | _=>none
def fot:TypeId->Option (Nat×Nat)
 | 33=>some (0,8)
 | 46=>some (0,5)
 | 62=>some (0,3)
 | 94=>some (0,4)
 | 76=>some (0,11)
 | 99=>some (0,1)
 | 101=>some (0,1)
 | 103=>some (0,1)
 | 105=>some (0,4)
 | 109=>some (1,4)
 | 111=>some (1,1)
 | 121=>some (1,1)
 | 123=>some (1,2)
 | 125=>some (0,1)
 | 127=>some (0,2)
 | 129=>some (0,2)
 | 131=>some (0,3)
 | _=>none
def fo (T k:Nat):Option Nat:=
 match fot T with
 | some (lo,n)=>if lo<=k/\k<lo+n then some (k-lo) else none
 | none=>none
theorem Qxl {T lo n:Nat} (h:fot T=some (lo,n)):(List.range n).all (fun j=>Qc1 T (lo+j)==some j)=true:=by
 unfold fot at h
 split at h<;>first | (cases h;done) | (cases h;kernel_rfl)
theorem fo_ok {T k off:Nat} (h:fo T k=some off):Qc1 T k=some off:=by
 unfold fo at h
 split at h
 rename_i lo n hf
 split at h
 rename_i hk
 have:=Qxl hf
 rw[List.all_eq_true]at this
 have h1:=this (k-lo) (by rw[List.mem_range];omega)
 rw[beq_iff_eq,show lo+(k-lo)=k from by omega]at h1
 rw[h1];exact h
 cases h
 cases h
theorem UA (b o n:Nat):(⟨b,o,none⟩:Addr).add n=⟨b,o+n,none⟩:=by unfold Addr.add;split<;>simp_all
theorem Qah {T k off:Nat} (h:fo T k=some off) (b o:Nat) (w:World):(Instr.fieldAt T (.pointer (some ⟨b,o,none⟩)) k).run zf w=.ok (.pointer (some ⟨b,o+off,none⟩)) w:=by
 have hf:=fo_ok h
 unfold Qc1 at hf
 cases hu:zf.underlying T with
 | none=>rw[hu]at hf;cases hf
 | some d=>
  rw[hu]at hf
  simp only[zQ]at hf
  cases d<;>simp only[reduceCtorEq]at hf
  rename_i fs
  cases hk:fs[k]? with
  | none=>rw[hk]at hf;cases hf
  | some f=>
   rw[hk]at hf
   simp only[zQ]at hf
   cases hi:zf.info? f.type with
   | none=>rw[hi]at hf;cases hf
   | some i=>
    rw[hi]at hf
    simp only[zQ]at hf
    split at hf
    cases hf
    rename_i hz
    simp only[Option.some.injEq]at hf
    have hs:(sizeOf f.type).run zf w=.ok i.size w:=Ul hi w
    simp only[Instr.fieldAt,zp,run_underlying hu,zn,hk,Instr.sureAddr,xa,fieldPlace,hs,if_neg hz,UA,hf]
theorem QkE:∀(l:List SV) (n:Nat),lk1 l n=l[n]?
 | [],n=>by simp[lk1]
 | x::l,0=>by simp[lk1]
 | x::l,n+1=>by simp[lk1,QkE l n]
def Qbc (T:TypeId) (cs:List SV) (o:Nat) (K:SV->Prop):Prop:=
 match shp T with
 | some (false,_)=>match lk1 cs o with
  | some s=>K s
  | none=>False
 | some (true,z)=>o+z<=cs.length/\K (.agg ((cs.drop o).take z))
 | none=>False
theorem Z8 {w:World} {b:Nat} {vs:Array Value} {T:TypeId} {fr:Nat×Nat} (h:w.heap[b]? = some (.cells vs T fr)) (o:Nat):w.cell? ⟨b,o,none⟩=vs[o]?:=by
 simp[World.cell?,h]
theorem Qhz {ω:Wit} {w:World} {b base:Nat} {vs:Array Value} {T':TypeId} {fr:Nat×Nat} (hb:w.heap[b]? = some (.cells vs T' fr)) {cs:List SV} (hn:base+cs.length<=vs.size)
 (hr:∀(j:Nat) (s:SV) (v:Value),cs[j]? = some s->vs[base+j]? = some v->Rel ω s v) {T:TypeId} {o:Nat} {K:SV->Prop} (h:Qbc T cs o K) :
 ∃s v,K s/\Rel ω s v/\(loadVar T ⟨b,base+o,none⟩).run zf w=.ok v w:=by
 unfold Qbc at h
 split at h
 rename_i z hs
 obtain⟨hagg,i,hi,_⟩:=QcB hs
 split at h
 rename_i s hl
 rw[QkE]at hl
 have hlt:=(zy.1 hl).1
 have hv:vs[base+o]? = some vs[base+o]:=zr (by omega)
 refine⟨s,vs[base+o],h,hr o s _ hl hv,?_⟩
 simp only[loadVar,zp,QaJ hagg,zn,Bool.false_eq_true,if_false,run_load,Z8 hb,hv]
 exact h.elim
 rename_i z hs
 obtain⟨hagg,i,hi,hz⟩:=QcB hs
 obtain⟨hle,hK⟩:=h
 refine⟨_,.agg ((List.range' 0 z).map fun j=>vs.getD (base+o+j) undef).toArray,hK,?_,?_⟩
 refine .agg _ _ (by simp;omega) fun j s v h1 h2=>?_
 rw[List.getElem?_take,List.getElem?_drop]at h1
 split at h1
 rename_i hj
 have hlt:=(zy.1 h1).1
 have hq:(List.range' 0 z)[j]? = some j:=by rw[List.getElem?_range' (by omega)];simp
 simp only[List.getElem?_toArray,zC,hq,zK,Option.some.injEq]at h2
 refine hr (o+j) s v h1 ?_
 have hb':base+o+j<vs.size:=by omega
 rw[<-h2,show base+(o+j)=base+o+j from by omega,xb,zr hb',Option.getD_some]
 cases h1
 have hcell:∀j,j<z->w.cell? ⟨b,base+o+(0+j),none⟩=some ((fun j=>vs.getD (base+o+j) undef) (0+j)):=by
  intro j hj
  rw[Z8 hb,xj]
  have:base+o+j<vs.size:=by omega
  simp[zr this,xb]
 simp only[loadVar,zp,QaJ hagg,zn,if_true,Ul hi,hz,loadCells]
 rw[ZF zf w b (base+o) (fun j=>vs.getD (base+o+j) undef) z 0 #[] hcell]
 simp
 exact h.elim
def Qbd (hp:Heap) (T:TypeId) (s:SV) (K:SV->Prop):Prop:=
 match s with
 | .ptr r o=>match hlk hp r with
  | some (.blk _ cs)=>Qbc T cs o K
  | _=>False
 | .cp cs=>Qbc T cs 0 K
 | .rp r i z o=>match hlk hp r with
  | some (.row x _)=>i<x.len/\z=x.z/\Qbc T (x.cell i) o K
  | _=>False
 | _=>False
theorem Rel.ptr_inv {ω:Wit} {r o:Nat} {v:Value} (h:Rel ω (.ptr r o) v):v=.pointer (some ⟨ω.ρ r,o,none⟩)/\r<ω.n:=by cases h;exact⟨rfl,by assumption⟩
theorem Rel.rp_inv {ω:Wit} {r i z o:Nat} {v:Value} (h:Rel ω (.rp r i z o) v):v=.pointer (some ⟨ω.ρ r,i*z+o,none⟩)/\r<ω.n:=by cases h;exact⟨rfl,by assumption⟩
theorem Rel.cp_inv {ω:Wit} {cs:List SV} {v:Value} (h:Rel ω (.cp cs) v):∃b o vs T,v=.pointer (some ⟨b,o,none⟩)/\ω.Γ b=some (vs,T)/\o+cs.length<=vs.size /\
 ∀(j:Nat) (s:SV) (u:Value),cs[j]? = some s->vs[o+j]? = some u->Rel ω s u:=by
 cases h
 exact⟨_,_,_,_,rfl,by assumption,by assumption,by assumption⟩
section
variable {g0:Glob} {w0:World} {M:Nat->Prop} {ω:Wit} {S:SS} {a:Act} {w:World}
theorem Qjc (hS:Sim g0 w0 M ω S a w) {T:TypeId} {s:SV} {u:Value} (hr:Rel ω s u) {K:SV->Prop} (h:Qbd S.heap T s K) :
 ∃s' v,K s'/\Rel ω s' v/\(Instr.loadAt T u).run zf w=.ok v w:=by
 unfold Qbd at h
 split at h
 rename_i r o
 split at h
 rename_i T' cs hb
 obtain⟨vs,h1,h2,h3⟩:=hS.heap r _ hb
 rw[hr.ptr_inv.1]
 obtain⟨s',v,k1,k2,k3⟩:=Qhz (ω:=ω) (base:=0) h1 (by omega) (fun j s v e1 e2=>h3 j s v e1 (by rwa [xj]at e2)) h
 exact⟨s',v,k1,k2,by rw[xj]at k3;simpa [Instr.loadAt,Instr.sureAddr] using k3⟩
 exact h.elim
 rename_i cs
 obtain⟨b,o,vs,T',rfl,h1,h2,h3⟩:=hr.cp_inv
 obtain⟨fr,h4⟩:=hS.gam _ _ _ h1
 obtain⟨s',v,k1,k2,k3⟩:=Qhz (ω:=ω) (base:=o) h4 h2 h3 h
 exact⟨s',v,k1,k2,by rw[Nat.add_zero]at k3;simpa [Instr.loadAt,Instr.sureAddr] using k3⟩
 rename_i r i z o
 split at h
 rename_i x app hb
 obtain⟨hi,rfl,h⟩:=h
 obtain⟨h1,h2⟩:=hS.heap r _ hb
 rcases h1 with ⟨_,h0⟩ | ⟨g,cap,cur,fr,hσ,hg,hfr,hc,hm,hs,hcells⟩
 omega
 have hρ:ω.ρ r=g:=h2 g (by rw[hσ];rfl)
 rw[hr.rp_inv.1,hρ]
 have hle:(i+1)*x.z<=cap*x.z:=z8 _ (by omega)
 rw[Nat.add_mul]at hle
 obtain⟨s',v,k1,k2,k3⟩:=Qhz (ω:=ω) (base:=i*x.z) hg (by rw[RV.cell_length];omega) (fun j s v e1 e2=>hcells i j s v hi e1 e2) h
 exact⟨s',v,k1,k2,by simpa [Instr.loadAt,Instr.sureAddr] using k3⟩
 exact h.elim
 exact h.elim
theorem Rel.sl_inv {ω:Wit} {x:RV} {v:Value} (h:Rel ω (.sl x) v):(∃a c,v=.slice a x.len c) /\
 (0<x.len->∃b o c vs,v=.slice (some ⟨b,o,none⟩) x.len c/\(∃T,ω.Γ b=some (vs,T))/\o+x.len*x.z<=vs.size/\x.len<=c /\
  ∀(i j:Nat) (s:SV) (u:Value),i<x.len->(x.cell i)[j]? = some s->vs[o+(i*x.z+j)]? = some u->Rel ω s u):=by
 cases h with
 | slz _ a c h0=>exact⟨⟨a,c,by rw[h0]⟩,fun hp=>by omega⟩
 | sl _ b o c vs T h1 h2 h3 h4=>exact⟨⟨_,c,rfl⟩,fun _=>⟨b,o,c,vs,rfl,⟨T,h1⟩,h2,h3,h4⟩⟩
def Qqp (hp:Heap) (T:TypeId) (s i:SV) (K:SV->Prop):Prop:=
 match s,i with
 | .sl x,.int .i64 n=>slt T=some (x.elem,x.z)/\0<=n/\n<x.len/\K (.cp (x.cell n.toNat))
 | .own r,.int .i64 n=>match hlk hp r with
  | some (.row x _)=>slt T=some (x.elem,x.z)/\0<=n/\n<x.len/\K (.rp r n.toNat x.z 0)
  | _=>False
 | _,_=>False
theorem Qdk {T E:TypeId} {z:Nat} (h:slt T=some (E,z)) (b o len cap:Nat) (n:Int) (h0:0<=n) (h1:n<len) (w:World) :
 (Instr.indexAt T (.slice (some ⟨b,o,none⟩) len cap) (.int .i64 n)).run zf w=.ok (.pointer (some ⟨b,o+n.toNat*z,none⟩)) w:=by
 obtain⟨hu,i,hi,hz⟩:=Qac h
 simp only[Instr.indexAt,asIntOf,zp,xa,zn,run_underlying hu]
 have hs:∀w,(sizeOf E).run zf w=.ok i.size w:=fun w=>Ul hi w
 simp[h0,h1,run_underlying hu,hs,hz,UA]
theorem Qwm (hS:Sim g0 w0 M ω S a w) {T:TypeId} {s i:SV} {u j:Value} (hr:Rel ω s u) (hj:Rel ω i j) {K:SV->Prop} (h:Qqp S.heap T s i K) :
 ∃s' v,K s'/\Rel ω s' v/\(Instr.indexAt T u j).run zf w=.ok v w:=by
 unfold Qqp at h
 split at h
 rename_i x n
 obtain⟨hT,h0,h1,hK⟩:=h
 obtain⟨b,o,c,vs,rfl,k1,k2,k3,k4⟩:=hr.sl_inv.2 (by omega)
 rw[hj.int_inv]
 refine⟨_,_,hK,?_,Qdk hT b o x.len c n h0 h1 w⟩
 have hle:(n.toNat+1)*x.z<=x.len*x.z:=z8 _ (by omega)
 rw[Nat.add_mul]at hle
 refine .cp _ b _ vs _ k1.choose_spec (by rw[RV.cell_length];omega) fun q s u e1 e2=>k4 n.toNat q s u (by omega) e1 ?_
 rw[<-e2]
 congr 1
 omega
 rename_i r n
 split at h
 rename_i x app hb
 obtain⟨hT,h0,h1,hK⟩:=h
 obtain⟨h2,h3⟩:=hS.heap r _ hb
 rcases h2 with ⟨_,hz⟩ | ⟨g,cap,cur,fr,hσ,hg,_⟩
 omega
 have hρ:ω.ρ r=g:=h3 g (by rw[hσ];rfl)
 obtain⟨hv,hlt⟩:=hr.own_inv
 rw[hv,hσ,hj.int_inv]
 refine⟨_,_,hK,?_,Qdk hT g 0 x.len cap n h0 h1 w⟩
 have:=Rel.rp (ω:=ω) r n.toNat x.z 0 hlt
 rw[hρ]at this
 rw[show 0+n.toNat*x.z=n.toNat*x.z+0 from by omega]
 exact this
 exact h.elim
 exact h.elim
end
end
section
open Go Go.RowKit
def kd:TypeId->Option IntKind
 | 2=>some .i64
 | 3=>some .i64
 | 5=>some .u8
 | 21=>some .i32
 | 88=>some .u64
 | 182=>some .u64
 | _=>none
theorem Qqi {T:TypeId} {k:IntKind} (h:kd T=some k):zf.underlying T=some (.int k):=by
 unfold kd at h
 split at h<;>first | (cases h;done) | (cases h;kernel_rfl)
def intoK (k:IntKind) (n:Int) (K:SV->Prop):Prop:=
 match k with
 | .i64=>inI n/\K (.int .i64 n)
 | .u8=>K (.int .u8 (n%256))
 | .i32=>0<=n/\n<=2147483647/\K (.int .i32 n)
 | .u64=>0<=n/\n<=2305843009213693952/\K (.int .u64 n)
 | _=>False
def Qd7 (hp:Heap):SV->Option (List UInt8)
 | .nilsl=>some []
 | .sl (.bytes xs)=>some xs
 | .own r=>match hlk hp r with
  | some (.row (.bytes xs) _)=>some xs
  | _=>none
 | _=>none
def convK (hp:Heap) (src dst:TypeId) (s:SV) (K:SV->Prop):Prop:=
 match s with
 | .int _ n=>match kd src,kd dst with
  | some _,some k=>intoK k n K
  | some _,none=>dst=9/\K (.str (YM n))
  | _,_=>False
 | s=>src=37/\dst=9/\match Qd7 hp s with
  | some xs=>K (.str xs)
  | none=>False
section
variable {g0:Glob} {w0:World} {M:Nat->Prop} {ω:Wit} {S:SS} {a:Act} {w:World}
theorem u9:zf.underlying 9=some .string:=by kernel_rfl
theorem u37:zf.underlying 37=some (.slice 5):=by kernel_rfl
theorem u5:zf.underlying 5=some (.int .u8):=by kernel_rfl
theorem Qre {src dst:TypeId} {k0 k:IntKind} (hs:kd src=some k0) (hd:kd dst=some k) (k1:IntKind) (n:Int) (w:World) :
 (convert src dst (.int k1 n)).run zf w=.ok (.int k (k.wrap n)) w:=by
 unfold convert
 simp only[zp,run_underlying (Qqi hs),run_underlying (Qqi hd),zn]
 rfl
theorem Qrd {src:TypeId} {k0:IntKind} (hs:kd src=some k0) (k1:IntKind) (n:Int) (w:World) :
 (convert src 9 (.int k1 n)).run zf w=.ok (.string (Utf8.encode n)) w:=by
 unfold convert
 simp only[zp,run_underlying (Qqi hs),run_underlying u9,zn]
 rfl
theorem Qdy (xs:List UInt8):strOfNums (xs.map fun b=>(b.toNat:Int))=⟨xs.toArray⟩:=by
 unfold strOfNums
 rw[List.map_map,(List.map_congr_left (g:=id) fun b _=>by simp:List.map _ xs=_),List.map_id]
theorem Qk7 (hS:Sim g0 w0 M ω S a w) {s:SV} {u:Value} (hr:Rel ω s u) {xs:List UInt8} (h:Qd7 S.heap s=some xs) :
 (convert 37 9 u).run zf w=.ok (.string ⟨xs.toArray⟩) w:=by
 have of_cells:∀(b o c:Nat),(∀i,i<xs.length->w.cell? ⟨b,o+i,none⟩=some (.int .u8 (xs.getD i 0).toNat))->(convert 37 9 (.slice (some ⟨b,o,none⟩) xs.length c)).run zf w=.ok (.string ⟨xs.toArray⟩) w:=by
  intro b o c hc
  have:=run_convert_bytes_arg (P:=zf) w 37 5 u37 u5 b o xs.length c (xs.map fun b=>(b.toNat:Int)) (by simp) (fun i hi=>by
   rw[hc i hi]
   simp[zd,zC,zg hi]) 9 u9
  rw[Qdy]at this
  exact this
 have of_nil:∀l c,xs=[]->(convert 37 9 (.slice none l c)).run zf w=.ok (.string ⟨xs.toArray⟩) w:=by
  intro l c h0
  subst h0
  exact run_convert_bytes_nil (P:=zf) w 37 5 u37 u5 l c 9 u9
 have of_some0:∀(a0:Addr) c,xs=[]->(convert 37 9 (.slice (some a0) 0 c)).run zf w=.ok (.string ⟨xs.toArray⟩) w:=by
  intro a0 c h0
  subst h0
  unfold convert
  simp only[zp,run_underlying u37,run_underlying u9,zn,run_underlying u5]
  rfl
 unfold Qd7 at h
 split at h
 cases h
 rw[hr.nilsl_inv]
 exact of_nil 0 0 rfl
 cases h
 obtain⟨⟨a0,c,rfl⟩,h2⟩:=hr.sl_inv
 rcases Nat.eq_zero_or_pos xs.length with h0 | h0
 have hx:xs=[]:=xq h0
 have:(RV.bytes xs).len=0:=h0
 rw[this]
 cases a0 with
 | none=>exact of_nil 0 c hx
 | some a0=>exact of_some0 a0 c hx
 obtain⟨b,o,c',vs,e,k1,k2,k3,k4⟩:=h2 h0
 rw[e]
 obtain⟨fr,hb⟩:=hS.gam _ _ _ k1.choose_spec
 refine of_cells b o c' fun i hi=>?_
 rw[Z8 hb]
 have hlt:o+i<vs.size:=by simp only[RV.len,RV.z]at k2;omega
 have hv:vs[o+(i*1+0)]? = some vs[o+i]:=by rw[show o+(i*1+0)=o+i from by omega];exact zr hlt
 have:=k4 i 0 (.byt (xs.getD i 0)) _ hi (by simp[RV.cell]) hv
 rw[zr hlt,this.byt_inv]
 rename_i r
 split at h
 rename_i xs' app hb
 cases h
 obtain⟨h1,h2⟩:=hS.heap r _ hb
 rw[hr.own_inv.1]
 rcases h1 with ⟨hσ,h0⟩ | ⟨g,cap,cur,fr,hσ,hg,hfr,hc,hm,hs,hcells⟩
 rw[hσ];exact of_nil 0 0 (xq h0)
 rw[hσ]
 refine of_cells g 0 cap fun i hi=>?_
 rw[Z8 hg,xj]
 simp only[RV.len,RV.z]at hc hs
 have hlt:i<cur.size:=by omega
 have hv:cur[i*1+0]? = some cur[i]:=by rw[show i*1+0=i from by omega];exact zr hlt
 have:=hcells i 0 (.byt (xs.getD i 0)) _ hi (by simp[RV.cell]) hv
 rw[zr hlt,this.byt_inv]
 cases h
 cases h
def unK (o:UnOp) (s:SV) (K:SV->Prop):Prop:=
 match o,s with
 | .not,.bool b=>K (.bool (!b))
 | .neg,.int k n=>Qkv k (0-n) K
 | _,_=>False
theorem un_ok {o:UnOp} {s:SV} {u:Value} (hr:Rel ω s u) {K:SV->Prop} (h:unK o s K) (w:World):∃s' v,K s'/\Rel ω s' v/\(Op.unary o u).run zf w=.ok v w:=by
 unfold unK at h
 split at h
 rw[hr.bool_inv];exact⟨_,_,h,.bool _,rfl⟩
 rw[hr.int_inv]
 obtain⟨s',h1,h2⟩:=QdV (ω:=ω) h
 exact⟨s',_,h1,h2,rfl⟩
 exact h.elim
def mixV (c:Bool) (x y:SV) (K:SV->Prop):Prop:=
 match x,y with
 | .bool a,.bool b=>K (.bool (cond c a b))
 | _,_=>False
def QpQ (sc sa sb:SV) (K:SV->Prop):Prop:=
 match sc with
 | .bool c=>(c=true->cnd sa)/\(c=false->cnd sb)/\mixV c (unw sa) (unw sb) K
 | _=>False
theorem Qsm {sc sa sb:SV} {c x y:Value} (hc:Rel ω sc c) (hx:Rel ω sa x) (hy:Rel ω sb y) {K:SV->Prop} (h:QpQ sc sa sb K) (w:World) :
 ∃s v,K s/\Rel ω s v/\(do pure (Next.value (if <- asBool c then x else y)):Sem Next).run zf w=.ok (.value v) w:=by
 unfold QpQ at h
 split at h
 rename_i b
 obtain⟨h1,h2,h3⟩:=h
 rw[hc.bool_inv]
 unfold mixV at h3
 split at h3
 rename_i p q e1 e2
 refine⟨_,.bool (cond b p q),h3,.bool _,?_⟩
 cases b with
 | true=>
  have:=J2 hx (h1 rfl)
  rw[e1]at this
  rw[this.bool_inv];rfl
 | false=>
  have:=J2 hy (h2 rfl)
  rw[e2]at this
  rw[this.bool_inv];rfl
 exact h3.elim
 exact h.elim
def QoY (s i:SV) (K:SV->Prop):Prop:=
 match s,i with
 | .str l,.int .i64 n=>0<=n/\n<l.length/\K (.int .u8 (l.getD n.toNat 0).toNat)
 | _,_=>False
theorem QrW {s i:SV} {u j:Value} (hr:Rel ω s u) (hj:Rel ω i j) {K:SV->Prop} (h:QoY s i K) (w:World) :
 ∃s' v,K s'/\Rel ω s' v/\(Instr.index 9 u j).run zf w=.ok v w:=by
 unfold QoY at h
 split at h
 rename_i l n
 obtain⟨h0,h1,hK⟩:=h
 rw[hr.str_inv,hj.int_inv]
 refine⟨_,_,hK,.int _ _,?_⟩
 have hlt:n.toNat<l.length:=by omega
 have hget:(⟨l.toArray⟩:ByteArray)[n.toNat]? = some (l.getD n.toNat 0):=by
  have hs:n.toNat<(⟨l.toArray⟩:ByteArray).size:=by rw[JE];exact hlt
  rw[getElem?_pos (⟨l.toArray⟩:ByteArray) n.toNat hs]
  simp[ByteArray.getElem_eq_getElem_data,zd,zg hlt]
 simp only[Instr.index,asIntOf,zp,xa,zn,run_underlying u9,if_pos h0,hget]
 exact h.elim
end
end
end Go.Proofs.YtengepcafdnalaaGreatDoor
