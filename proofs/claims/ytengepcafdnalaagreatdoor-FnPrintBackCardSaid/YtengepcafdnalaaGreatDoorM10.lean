/-
  Parts of the proof that the law FnPrintBack holds for every input (texts Gq, Ga). Conditions: none.
-/
import Derived.Test.YtengepcafdnalaaGreatDoorM09
import Derived.Laws.StructEq
import Derived.Laws.Cover4
import Derived.Laws.Bits64
namespace Go.Proofs.YtengepcafdnalaaGreatDoor
open _root_.Array renaming getElem?_eq_getElem → zr
open _root_.Bool renaming eq_iff_iff → zG, and_eq_true → zk
open _root_.List renaming length_cons → zj, length_nil → zo, mem_singleton → zW, mem_cons → zu
open _root_.Option renaming map_eq_some_iff → zi
open Go.Result renaming andThen_ok → zn
open Go.Sem renaming run_bind → zp
open Go.Proofs.Tryz renaming prog → zf
open _root_.UInt8 renaming toNat_lt → zV, toNat_or → ze, toNat_add → xf, ofNat → zD
section
open Go Go.RowKit
def sel8:SV->Option SelD
 | .agg [.int .i64 k,.int .i64 o,.str key,.str val,.int .i64 a,.int .i64 b,.int .i64 f,.int .i64 z]=>some ⟨k,o,key,val,a,b,f,z⟩
 | _=>none
def QnF (op:BinOp) (b:Bool):Option (List Prop×SV):=
 match op with
 | .eql=>some ([],.bool b)
 | .neq=>some ([],.bool (!b))
 | _=>none
theorem QlI {s:SV} {x:SelD} (h:sel8 s=some x):s=.agg (Yl x):=by
 unfold sel8 at h
 split at h
 cases h;rfl
 cases h
def UC (x:SelD):Array Value := #[.int .i64 x.kind,.int .i64 x.op,.string ⟨x.key.toArray⟩,.string ⟨x.val.toArray⟩,.int .i64 x.a,.int .i64 x.b,.int .i64 x.flag,.int .i64 x.size]
theorem QiD {ω:Wit} {x:SelD} {v:Value} (h:Rel ω (.agg (Yl x)) v):v=.agg (UC x):=by
 cases h with
 | agg _ vs hn h=>
  obtain⟨l⟩:=vs
  simp only[Yl,zj,zo,List.size_toArray]at hn
  match l,hn with
  | [v0,v1,v2,v3,v4,v5,v6,v7],_=>
   have h0:=(h 0 _ v0 rfl rfl).int_inv
   have h1:=(h 1 _ v1 rfl rfl).int_inv
   have h2:=(h 2 _ v2 rfl rfl).str_inv
   have h3:=(h 3 _ v3 rfl rfl).str_inv
   have h4:=(h 4 _ v4 rfl rfl).int_inv
   have h5:=(h 5 _ v5 rfl rfl).int_inv
   have h6:=(h 6 _ v6 rfl rfl).int_inv
   have h7:=(h 7 _ v7 rfl rfl).int_inv
   rw[h0,h1,h2,h3,h4,h5,h6,h7]
   rfl
def Qdh (x y:SelD):Bool:=(x.kind==y.kind)&&((x.op==y.op)&&((x.key==y.key)&&((x.val==y.val)&&((x.a==y.a)&&((x.b==y.b)&&((x.flag==y.flag)&&(x.size==y.size)))))))
theorem Qne : (zf.fieldsOf 33).toList.map (fun f => (f.name == "_", f.type, f.offset)) = [(false, 3, 0), (false, 3, 1), (false, 9, 2), (false, 9, 3), (false, 3, 4), (false, 3, 5), (false, 3, 6), (false, 3, 7)] := by kernel_rfl
theorem int3:zf.underlying 3=some (.int .i64):=by kernel_rfl
theorem str9:zf.underlying 9=some .string:=by kernel_rfl
theorem QiV (w:World) (l:Array Value) (o:Nat) (v:Value) (h:l[o]? = some v):(part 3 l o).run zf w=.ok v w:=by
 unfold part
 simp[zp,QaJ,int3,h]
theorem QiU (w:World) (l:Array Value) (o:Nat) (v:Value) (h:l[o]? = some v):(part 9 l o).run zf w=.ok v w:=by
 unfold part
 simp[zp,QaJ,str9,h]
theorem QaX (w : World) (xs ys : Array Value) (f : Field) (fs : List Field) (h1 : (f.name == "_") = false) (h2 : f.type = 3) (a b : Int) (hx : xs[f.offset]? = some (.int .i64 a)) (hy : ys[f.offset]? = some (.int .i64 b)) :
 (Op.eqFields 9999 xs ys (f::fs)).run zf w=if (a==b)=true then (Op.eqFields 9999 xs ys fs).run zf w else .ok false w:=by
 simp only[Op.eqFields,ne_eq]
 rw[if_pos (by simpa using h1)]
 simp only[h2,zp,QiV w xs _ _ hx,QiV w ys _ _ hy,zn,run_equalIn_int w 9998 3 .i64 .i64 a b int3]
 cases (a==b)<;>simp
theorem QmF (w : World) (xs ys : Array Value) (f : Field) (fs : List Field) (h1 : (f.name == "_") = false) (h2 : f.type = 9) (a b : List UInt8) (hx : xs[f.offset]? = some (.string ⟨a.toArray⟩)) (hy : ys[f.offset]? = some (.string ⟨b.toArray⟩)) :
 (Op.eqFields 9999 xs ys (f::fs)).run zf w=if (a==b)=true then (Op.eqFields 9999 xs ys fs).run zf w else .ok false w:=by
 have e:((ByteArray.mk a.toArray).toList==(ByteArray.mk b.toArray).toList)=(a==b):=by rw[ByteArray.toList_eq,ByteArray.toList_eq]
 simp only[Op.eqFields,ne_eq]
 rw[if_pos (by simpa using h1)]
 simp only[h2,zp,QiU w xs _ _ hx,QiU w ys _ _ hy,zn,run_equalIn_string w 9998 9 _ _ str9,e]
 cases (a==b)<;>simp
theorem Qtg (w:World) (xs ys:Array Value):(Op.eqFields 9999 xs ys []).run zf w=.ok true w:=rfl
theorem und33:zf.underlying 33=some (.struct (zf.fieldsOf 33)):=by kernel_rfl
theorem Qgb (w:World) (x y:SelD):(Op.equalIn 10000 33 (.agg (UC x)) (.agg (UC y))).run zf w=.ok (Qdh x y) w:=by
 rw[run_equalIn_struct w 9999 33 _ _ und33 (by kernel_rfl)]
 have h:=Qne
 generalize (zf.fieldsOf 33).toList=fs at h ⊢
 rcases fs with _ | ⟨f0,_ | ⟨f1,_ | ⟨f2,_ | ⟨f3,_ | ⟨f4,_ | ⟨f5,_ | ⟨f6,_ | ⟨f7,_ | ⟨f8,fs⟩⟩⟩⟩⟩⟩⟩⟩⟩<;>simp only[List.map_cons,List.map_nil,List.cons.injEq,Prod.mk.injEq,and_true,reduceCtorEq,and_false,false_and]at h
 skip
 obtain⟨⟨a0,b0,c0⟩,⟨a1,b1,c1⟩,⟨a2,b2,c2⟩,⟨a3,b3,c3⟩,⟨a4,b4,c4⟩,⟨a5,b5,c5⟩,⟨a6,b6,c6⟩,⟨a7,b7,c7⟩⟩:=h
 rw[QaX w _ _ f0 _ a0 b0 x.kind y.kind (by rw[c0];rfl) (by rw[c0];rfl),QaX w _ _ f1 _ a1 b1 x.op y.op (by rw[c1];rfl) (by rw[c1];rfl),
  QmF w _ _ f2 _ a2 b2 x.key y.key (by rw[c2];rfl) (by rw[c2];rfl),QmF w _ _ f3 _ a3 b3 x.val y.val (by rw[c3];rfl) (by rw[c3];rfl),
  QaX w _ _ f4 _ a4 b4 x.a y.a (by rw[c4];rfl) (by rw[c4];rfl),QaX w _ _ f5 _ a5 b5 x.b y.b (by rw[c5];rfl) (by rw[c5];rfl),
  QaX w _ _ f6 _ a6 b6 x.flag y.flag (by rw[c6];rfl) (by rw[c6];rfl),QaX w _ _ f7 _ a7 b7 x.size y.size (by rw[c7];rfl) (by rw[c7];rfl),Qtg]
 unfold Qdh
 cases x.kind==y.kind<;>cases x.op==y.op<;>cases x.key==y.key<;>cases x.val==y.val<;>cases x.a==y.a<;>cases x.b==y.b<;>cases x.flag==y.flag<;>cases x.size==y.size<;>rfl
theorem Qny (w:World) (op:BinOp) (x y:SelD) (ex ey:Operand) {ps:List Prop} {v:SV} (hq:QnF op (Qdh x y)=some (ps,v)) {ω:Wit} :
 ∃u,Rel ω v u/\(do eqGuard op 33 ex ey (.agg (UC x)) (.agg (UC y));binOp op 33 (.agg (UC x)) (.agg (UC y)):Sem Value).run zf w=.ok u w:=by
 unfold QnF at hq
 split at hq
 cases hq
 refine⟨_,.bool _,?_⟩
 rw[zp,run_eqGuard_agg w .eql 33 ex ey _ _ (by kernel_rfl),zn,run_eql_struct,Qgb]
 rfl
 cases hq
 refine⟨_,.bool _,?_⟩
 rw[zp,run_eqGuard_agg w .neq 33 ex ey _ _ (by kernel_rfl),zn,run_neq_struct,Qgb]
 rfl
 cases hq
theorem Qgc (w:World) (a b c d:Bool):(Op.equalIn 10000 227 (.agg #[.bool a,.bool b]) (.agg #[.bool c,.bool d])).run zf w=.ok (decide (a=c)&&decide (b=d)) w:=by
 cases a<;>cases b<;>cases c<;>cases d<;>kernel_rfl
theorem Qki (w:World) (op:BinOp) (a b c d:Bool) (ex ey:Operand) {ps:List Prop} {v:SV} (hq:QnF op (decide (a=c)&&decide (b=d))=some (ps,v)) {ω:Wit} :
 ∃u,Rel ω v u/\(do eqGuard op 227 ex ey (.agg #[.bool a,.bool b]) (.agg #[.bool c,.bool d]);binOp op 227 (.agg #[.bool a,.bool b]) (.agg #[.bool c,.bool d]):Sem Value).run zf w=.ok u w:=by
 unfold QnF at hq
 split at hq
 cases hq
 refine⟨_,.bool _,?_⟩
 rw[zp,run_eqGuard_agg w .eql 227 ex ey _ _ (by kernel_rfl),zn,run_eql_struct,Qgc]
 rfl
 cases hq
 refine⟨_,.bool _,?_⟩
 rw[zp,run_eqGuard_agg w .neq 227 ex ey _ _ (by kernel_rfl),zn,run_neq_struct,Qgc]
 rfl
 cases hq
theorem Qge {ω:Wit} {a b:Bool} {v:Value} (h:Rel ω (.agg [.bool a,.bool b]) v):v=.agg #[.bool a,.bool b]:=by
 cases h with
 | agg _ vs hn h=>
  obtain⟨l⟩:=vs
  simp only[zj,zo,List.size_toArray]at hn
  match l,hn with
  | [v0,v1],_=>
   have h0:=(h 0 _ v0 rfl rfl).bool_inv
   have h1:=(h 1 _ v1 rfl rfl).bool_inv
   rw[h0,h1]
def qUU (op:BinOp) (a b:Int):Option (List Prop×SV):=
 match op with
 | .add=>some ([],.int .u64 ((a+b)%18446744073709551616))
 | .sub=>some ([],.int .u64 ((a-b)%18446744073709551616))
 | .mul=>some ([],.int .u64 ((a*b)%18446744073709551616))
 | .shl=>some ([0<=b/\b<=64],.int .u64 ((a*2^b.toNat)%18446744073709551616))
 | .eql=>some ([],.bool (decide (a=b)))
 | .neq=>some ([],.bool (!decide (a=b)))
 | .lss=>some ([],.bool (decide (a<b)))
 | .leq=>some ([],.bool (decide (a<=b)))
 | .gtr=>some ([],.bool (decide (b<a)))
 | .geq=>some ([],.bool (decide (b<=a)))
 | _=>none
theorem QvH {ω:Wit} {op:BinOp} {T:TypeId} {a b:Int} {ex ey:Operand} {ps:List Prop} {v:SV} (h:qUU op a b=some (ps,v)) (hp:∀p∈ps,p) (w:World) :
 ∃u,Rel ω v u/\(do eqGuard op T ex ey (.int .u64 a) (.int .u64 b);binOp op T (.int .u64 a) (.int .u64 b):Sem Value).run zf w=.ok u w:=by
 simp only[zp,YN _ _ _ _ _ _ _ (show ∀p q,¬((Value.int .u64 a)=.agg p/\(Value.int .u64 b)=.agg q) by simp) (by simp),zn]
 cases op<;>simp only[qUU,reduceCtorEq,Option.some.injEq,Prod.mk.injEq]at h<;>obtain⟨rfl,rfl⟩:=h
 case add=>exact⟨_,by rw[<-IntKind.wrap_u64];exact .int _ _,by simp[binOp,Op.intArith]⟩
 case sub=>exact⟨_,by rw[<-IntKind.wrap_u64];exact .int _ _,by simp[binOp,Op.intArith]⟩
 case mul=>exact⟨_,by rw[<-IntKind.wrap_u64];exact .int _ _,by simp[binOp,Op.intArith]⟩
 case shl=>
  have h0:=hp _ (zW.2 rfl)
  refine⟨_,by rw[<-IntKind.wrap_u64];exact .int _ _,?_⟩
  have hm:min b.toNat IntKind.u64.bits=b.toNat:=Nat.min_eq_left (by simp[IntKind.bits];omega)
  simp[binOp,Op.shift,show ¬b<0 from by omega,hm]
 case eql=>exact⟨_,.bool _,by simp[binOp,Op.intCmp];rfl⟩
 case neq=>exact⟨_,.bool _,by simp[binOp,Op.intCmp,bne];rfl⟩
 case lss=>exact⟨_,.bool _,by simp[binOp,Op.intCmp]⟩
 case leq=>exact⟨_,.bool _,by simp[binOp,Op.intCmp]⟩
 case gtr=>exact⟨_,.bool _,by simp[binOp,Op.intCmp]⟩
 case geq=>exact⟨_,.bool _,by simp[binOp,Op.intCmp]⟩
theorem or8 (a b:UInt8):((BitVec.ofInt 8 (a.toNat:Int)) ||| (BitVec.ofInt 8 (b.toNat:Int))).toNat=(a ||| b).toNat:=by
 have ha:=zV a
 have hb:=zV b
 rw[BitVec.toNat_or,BitVec.toNat_ofInt,BitVec.toNat_ofInt,ze]
 rw[show ((a.toNat:Int)%((2^8:Nat):Int)).toNat=a.toNat from by omega,show ((b.toNat:Int)%((2^8:Nat):Int)).toNat=b.toNat from by omega]
theorem Qsb {ω:Wit} {T:TypeId} {a b:UInt8} {ex ey:Operand} (w:World) :
 ∃u,Rel ω (.byt (a ||| b)) u/\(do eqGuard .or T ex ey (.int .u8 (a.toNat:Int)) (.int .u8 (b.toNat:Int));binOp .or T (.int .u8 (a.toNat:Int)) (.int .u8 (b.toNat:Int)):Sem Value).run zf w=.ok u w:=by
 simp only[zp,YN _ _ _ _ _ _ _ (show ∀p q,¬((Value.int .u8 (a.toNat:Int))=.agg p/\(Value.int .u8 (b.toNat:Int))=.agg q) by simp) (by simp),zn]
 refine⟨_,.byt _,?_⟩
 have h:IntKind.u8.wrap (((BitVec.ofInt IntKind.u8.bits (a.toNat:Int)) ||| (BitVec.ofInt IntKind.u8.bits (b.toNat:Int))).toNat:Int)=((a ||| b).toNat:Int):=by
  have hc:=zV (a ||| b)
  have h8:=or8 a b
  rw[IntKind.wrap_u8]
  show (((BitVec.ofInt 8 (a.toNat:Int)) ||| (BitVec.ofInt 8 (b.toNat:Int))).toNat:Int)%256=_
  rw[h8];omega
 show (Sem.run zf (pure (Value.int .u8 (IntKind.u8.wrap (((BitVec.ofInt IntKind.u8.bits (a.toNat:Int)) ||| (BitVec.ofInt IntKind.u8.bits (b.toNat:Int))).toNat:Int)))) w)=_
 rw[h]
 rfl
end
section
open Go Go.RowKit
def Yj:List Prop->Prop
 | []=>True
 | p::l=>p/\Yj l
theorem JW {l l':List Prop} (h:Yj (l++l')):Yj l/\Yj l':=by
 induction l with
 | nil=>exact⟨trivial,h⟩
 | cons p l ih=>exact⟨⟨h.1,(ih h.2).1⟩,(ih h.2).2⟩
theorem QrA {l:List Prop} (h:Yj l) {p:Prop} (hp:p∈l):p:=by
 induction l with
 | nil=>cases hp
 | cons q l ih=>
  rcases zu.1 hp with e | e
  rw[e];exact h.1
  exact ih h.2 e
abbrev QR:=Option (List Prop×SV)
def lw:SV->SV
 | .nat n=>.int .i64 n
 | .byt c=>.int .u8 c.toNat
 | s=>s
theorem Jl {ω:Wit} {s:SV} {v:Value} (h:Rel ω s v):Rel ω (lw s) v:=by
 unfold lw
 split
 rw[h.nat_inv];exact .int _ _
 rw[h.byt_inv];exact .int _ _
 exact h
def bi1 (s:SV) (f:SV->QR):QR:=
 match s with
 | .gd c s=>(f s).map fun r=>((c=true)::r.1,r.2)
 | .gk _ _ _=>none
 | s=>f s
theorem Yd {s:SV} {f:SV->QR} {ps:List Prop} {v:SV} (h:bi1 s f=some (ps,v)) (hp:Yj ps) {ω:Wit} {u:Value} (hr:Rel ω s u) :
 ∃ps',f (unw s)=some (ps',v)/\Yj ps'/\Rel ω (unw s) u:=by
 unfold bi1 at h
 split at h
 rename_i c s
 simp only[zi]at h
 obtain⟨⟨ps',v'⟩,h1,h2⟩:=h
 cases h2
 refine⟨ps',h1,hp.2,?_⟩
 cases hr with
 | gd _ _ _ hh _=>exact hh hp.1
 cases h
 rename_i hs _
 have e:unw s=s:=by
  unfold unw
  split
  exact absurd rfl (hs _ _)
  rfl
 rw[e]
 exact⟨ps,h,hp,hr⟩
def qNN (op:BinOp) (a b:Nat):QR:=
 match op with
 | .add=>some ([a+b<=9223372036854775807],.nat (a+b))
 | .sub=>some ([b<=a/\a<=9223372036854775807],.nat (a-b))
 | .mul=>some ([a*b<=9223372036854775807],.nat (a*b))
 | .quo=>some ([a<=9223372036854775807/\0<b],.nat (a/b))
 | .rem=>some ([0<b],.nat (a%b))
 | .eql=>some ([],.bool (decide (a=b)))
 | .neq=>some ([],.bool (!decide (a=b)))
 | .lss=>some ([],.bool (decide (a<b)))
 | .leq=>some ([],.bool (decide (a<=b)))
 | .gtr=>some ([],.bool (decide (b<a)))
 | .geq=>some ([],.bool (decide (b<=a)))
 | .shl=>some ([b<=62/\a*2^b<=9223372036854775807],.nat (a*2^b))
 | _=>none
def qBB (op:BinOp) (a b:UInt8):QR:=
 match op with
 | .add=>some ([],.byt (a+b))
 | .sub=>some ([],.byt (a-b))
 | .or=>some ([],.byt (a ||| b))
 | .eql=>some ([],.bool (decide (a.toNat=b.toNat)))
 | .neq=>some ([],.bool (!decide (a.toNat=b.toNat)))
 | .lss=>some ([],.bool (decide (a.toNat<b.toNat)))
 | .leq=>some ([],.bool (decide (a.toNat<=b.toNat)))
 | .gtr=>some ([],.bool (decide (b.toNat<a.toNat)))
 | .geq=>some ([],.bool (decide (b.toNat<=a.toNat)))
 | _=>none
def qII (op:BinOp) (a b:Int):QR:=
 match op with
 | .add=>some ([inI (a+b)],.int .i64 (a+b))
 | .sub=>some ([inI (a-b)],.int .i64 (a-b))
 | .mul=>some ([inI (a*b)],.int .i64 (a*b))
 | .eql=>some ([],.bool (decide (a=b)))
 | .neq=>some ([],.bool (!decide (a=b)))
 | .lss=>some ([],.bool (decide (a<b)))
 | .leq=>some ([],.bool (decide (a<=b)))
 | .gtr=>some ([],.bool (decide (b<a)))
 | .geq=>some ([],.bool (decide (b<=a)))
 | _=>none
def qEq (op:BinOp) (b:Bool):QR:=
 match op with
 | .eql=>some ([],.bool b)
 | .neq=>some ([],.bool (!b))
 | _=>none
def qSS (op:BinOp) (a b:List UInt8):QR:=
 match op with
 | .add=>some ([a.length+b.length<=2305843009213693952],.str (a++b))
 | .eql=>some ([],.bool (decide (a=b)))
 | .neq=>some ([],.bool (!decide (a=b)))
 | _=>none
def Vl (b:Bool) (r:QR):QR:=cond b r none
def qSh (op:BinOp) (a:Nat) (b:Int):QR:=
 match op,b with
 | .shl,.ofNat n=>some ([n<=62/\a*2^n<=9223372036854775807],.nat (a*2^n))
 | _,_=>none
def qBin (hp:Heap) (op:BinOp) (T:TypeId) (cc:Bool) (sx sy:SV):QR:=
 match sx,sy with
 | .nat a,.nat b=>qNN op a b
 | .byt a,.byt b=>qBB op a b
 | .int .u64 a,.int .u64 b=>qUU op a b
 | .nat a,.int .i64 b=>qII op a b
 | .nat a,.int .u64 b=>qSh op a b
 | .int .i64 a,.nat b=>qII op a b
 | .int .i64 a,.int .i64 b=>qII op a b
 | .str a,.str b=>qSS op a b
 | .bool a,.bool b=>Vl (T==4) (qEq op (decide (a=b)))
 | .ifx,.nilif=>Vl (ifT T) (qEq op false)
 | .cs _,.nilif=>Vl (ifT T) (qEq op false)
 | .iface _ _,.nilif=>Vl (ifT T) (qEq op false)
 | .nilif,.nilif=>Vl (cc&&ifT T) (qEq op true)
 | .nilsl,.nilsl=>Vl (T==37) (qEq op true)
 | .own r,.nilsl=>match hlk hp r with
  | some (.row x _)=>Vl (T==37) ((qEq op false).map fun q=>((0<x.len)::q.1,q.2))
  | _=>none
 | .agg [.bool a,.bool b],.agg [.bool c,.bool d]=>Vl (T==227) (QnF op (decide (a=c)&&decide (b=d)))
 | .agg xs,.agg ys=>match sel8 (.agg xs),sel8 (.agg ys) with
  | some p,some q=>Vl (T==33) (QnF op (Qdh p q))
  | _,_=>none
 | _,_=>none
theorem Qp {b:Bool} {r:QR} {x:List Prop×SV} (h:Vl b r=some x):b=true/\r=some x:=by
 unfold Vl at h
 cases b
 cases h
 exact⟨rfl,h⟩
theorem QaK {op:BinOp} {b:Bool} {ps:List Prop} {v:SV} (h:qEq op b=some (ps,v)):QcM op b (fun r=>r=v):=by
 cases op<;>simp only[qEq,reduceCtorEq,Option.some.injEq,Prod.mk.injEq]at h<;>exact h.2
theorem toNat_eq (a b:UInt8):decide ((a.toNat:Int)=(b.toNat:Int))=decide (a.toNat=b.toNat):=by
 rw[zG];simp;omega
theorem Quu (a b:UInt8):((a+b).toNat:Int)=((a.toNat:Int)+b.toNat)%256:=by
 rw[xf];omega
theorem Qut (a b:UInt8):((a-b).toNat:Int)=((a.toNat:Int)-b.toNat)%256:=by
 have h1:=zV a
 have h2:=zV b
 rw[UInt8.toNat_sub];omega
section
variable {g0:Glob} {w0:World} {M:Nat->Prop} {ω:Wit} {S:SS} {a:Act} {w:World}
theorem Y8 (hS:Sim g0 w0 M ω S a w) {op:BinOp} {T:TypeId} {x y:Operand} {sx sy v t:SV} (hx:Rel ω sx (a.eval x)) (hy:Rel ω sy (a.eval y))
 (hk:Qrj S.heap op T (isC x||isC y) (lw sx) (lw sy) fun r=>r=t) (hv:∀u,Rel ω t u->Rel ω v u) :
 ∃u,Rel ω v u/\(do eqGuard op T x y (a.eval x) (a.eval y);binOp op T (a.eval x) (a.eval y):Sem Value).run zf w=.ok u w:=by
 obtain⟨s,u,h1,h2,h3⟩:=Qx7 hS (Jl hx) (Jl hy) hk
 subst h1
 exact⟨u,hv u h2,h3⟩
theorem QpK {op:BinOp} {a b:Int} {ps:List Prop} {v:SV} (h:qII op a b=some (ps,v)) (hp:Yj ps):(op=.shl\/IntKind.i64=IntKind.i64)/\UU op .i64 a b (fun r=>r=v):=by
 refine⟨.inr rfl,?_⟩
 cases op<;>simp only[qII,reduceCtorEq,Option.some.injEq,Prod.mk.injEq]at h<;>obtain⟨rfl,h⟩:=h<;>simp only[UU,Qkv]<;>first | exact h | exact⟨hp.1,h⟩
theorem qNN_K {op:BinOp} {a b:Nat} {ps:List Prop} {v:SV} (h:qNN op a b=some (ps,v)) (hp:Yj ps) :
 ∃t,((op=.shl\/IntKind.i64=IntKind.i64)/\UU op .i64 a b (fun r=>r=t))/\∀u,Rel ω t u->Rel ω v u:=by
 have nat:∀{n:Int} {m:Nat},n=m->∀u,Rel ω (.int .i64 n) u->Rel ω (.nat m) u:=by
  intro n m e u hu
  rw[hu.int_inv,e];exact .nat _
 have boo:∀{p q:Bool},p=q->∀u,Rel ω (.bool p) u->Rel ω (.bool q) u:=by
  intro p q e u hu
  rw[<-e];exact hu
 cases op<;>simp only[qNN,reduceCtorEq,Option.some.injEq,Prod.mk.injEq]at h<;>obtain⟨rfl,rfl⟩:=h
 case add=>exact⟨_,⟨.inr rfl,⟨by unfold inI;have:=hp.1;omega,rfl⟩⟩,nat (by omega)⟩
 case sub=>exact⟨_,⟨.inr rfl,⟨by unfold inI;have:=hp.1;omega,rfl⟩⟩,nat (by have:=hp.1;omega)⟩
 case mul=>
  have h1:((a*b:Nat):Int)=(a:Int)*b:=Int.natCast_mul a b
  exact⟨_,⟨.inr rfl,⟨by unfold inI;rw[<-h1];have:=hp.1;omega,rfl⟩⟩,nat h1.symm⟩
 case quo=>exact⟨_,⟨.inr rfl,⟨by omega,by unfold inI;have:=hp.1;omega,by have:=hp.1;omega,rfl,rfl⟩⟩,nat (Int.natCast_ediv a b).symm⟩
 case rem=>exact⟨_,⟨.inr rfl,⟨by omega,by have:=hp.1;omega,rfl⟩⟩,nat (Int.natCast_emod a b).symm⟩
 case shl=>
  have h1:((a*2^b:Nat):Int)=(a:Int)*2^((b:Nat):Int).toNat:=by rw[Int.toNat_natCast];simp
  exact⟨_,⟨.inl rfl,⟨rfl,by omega,by have:=hp.1;omega,by unfold inI;rw[<-h1];have:=hp.1;omega,rfl⟩⟩,nat h1.symm⟩
 case eql=>exact⟨_,⟨.inr rfl,rfl⟩,boo (by rw[zG];simp;omega)⟩
 case neq=>exact⟨_,⟨.inr rfl,rfl⟩,boo (by congr 1;rw[zG];simp;omega)⟩
 case lss=>exact⟨_,⟨.inr rfl,rfl⟩,boo (by rw[zG];simp)⟩
 case leq=>exact⟨_,⟨.inr rfl,rfl⟩,boo (by rw[zG];simp)⟩
 case gtr=>exact⟨_,⟨.inr rfl,rfl⟩,boo (by rw[zG];simp)⟩
 case geq=>exact⟨_,⟨.inr rfl,rfl⟩,boo (by rw[zG];simp)⟩
theorem qBB_K {op:BinOp} {a b:UInt8} {ps:List Prop} {v:SV} (h:qBB op a b=some (ps,v)) (ho:op ≠ .or) :
 ∃t,((op=.shl\/IntKind.u8=IntKind.u8)/\UU op .u8 (a.toNat:Int) (b.toNat:Int) (fun r=>r=t))/\∀u,Rel ω t u->Rel ω v u:=by
 have byt:∀{n:Int} {m:UInt8},n=m.toNat->∀u,Rel ω (.int .u8 n) u->Rel ω (.byt m) u:=by
  intro n m e u hu
  rw[hu.int_inv,e];exact .byt _
 have boo:∀{p q:Bool},p=q->∀u,Rel ω (.bool p) u->Rel ω (.bool q) u:=by
  intro p q e u hu
  rw[<-e];exact hu
 cases op<;>simp only[qBB,reduceCtorEq,Option.some.injEq,Prod.mk.injEq]at h<;>obtain⟨rfl,rfl⟩:=h
 case or=>exact absurd rfl ho
 case add=>exact⟨_,⟨.inr rfl,rfl⟩,byt (Quu a b).symm⟩
 case sub=>exact⟨_,⟨.inr rfl,rfl⟩,byt (Qut a b).symm⟩
 case eql=>exact⟨_,⟨.inr rfl,rfl⟩,boo (by rw[zG];simp;omega)⟩
 case neq=>exact⟨_,⟨.inr rfl,rfl⟩,boo (by congr 1;rw[zG];simp;omega)⟩
 case lss=>exact⟨_,⟨.inr rfl,rfl⟩,boo (by rw[zG];simp)⟩
 case leq=>exact⟨_,⟨.inr rfl,rfl⟩,boo (by rw[zG];simp)⟩
 case gtr=>exact⟨_,⟨.inr rfl,rfl⟩,boo (by rw[zG];simp)⟩
 case geq=>exact⟨_,⟨.inr rfl,rfl⟩,boo (by rw[zG];simp)⟩
theorem Qsf (hS:Sim g0 w0 M ω S a w) {op:BinOp} {T:TypeId} {x y:Operand} {sx sy v:SV} {ps:List Prop} (hx:Rel ω sx (a.eval x)) (hy:Rel ω sy (a.eval y))
 (h:qBin S.heap op T (isC x||isC y) sx sy=some (ps,v)) (hp:Yj ps) :
 ∃u,Rel ω v u/\(do eqGuard op T x y (a.eval x) (a.eval y);binOp op T (a.eval x) (a.eval y):Sem Value).run zf w=.ok u w:=by
 unfold qBin at h
 split at h
 obtain⟨t,h1,h2⟩:=qNN_K (ω:=ω) h hp
 exact Y8 hS hx hy h1 h2
 rename_i a' b'
 by_cases ho:op=.or
 subst ho
 cases h
 rw[hx.byt_inv,hy.byt_inv]
 exact Qsb w
 obtain⟨t,h1,h2⟩:=qBB_K (ω:=ω) h ho
 exact Y8 hS hx hy h1 h2
 rw[hx.int_inv,hy.int_inv]
 exact QvH h (fun p hm=>QrA hp hm) w
 exact Y8 hS hx hy (QpK h hp) fun _ h=>h
 rename_i a' b'
 unfold qSh at h
 split at h
 rename_i n
 cases h
 have h1:((a'*2^n:Nat):Int)=(a':Int)*2^(Int.ofNat n).toNat:=by simp
 refine Y8 hS hx hy (t:=.int .i64 ((a':Int)*2^(Int.ofNat n).toNat)) ⟨.inl rfl,rfl,Int.natCast_nonneg n,by have:=hp.1.1;show (n:Int)<=62;omega,by unfold inI;rw[<-h1];have:=hp.1.2;omega,rfl⟩ fun u hu=>?_
 rw[hu.int_inv,<-h1]
 exact .nat _
 cases h
 exact Y8 hS hx hy (QpK h hp) fun _ h=>h
 exact Y8 hS hx hy (QpK h hp) fun _ h=>h
 refine Y8 hS hx hy (t:=v) ?_ fun _ h=>h
 cases op<;>simp only[qSS,reduceCtorEq,Option.some.injEq,Prod.mk.injEq]at h<;>obtain⟨rfl,h⟩:=h<;>simp only[lw,Qrj,strK]<;>first | exact h | exact⟨hp.1,h⟩
 obtain⟨h1,h2⟩:=Qp h
 refine Y8 hS hx hy (t:=v) ?_ fun _ h=>h
 refine⟨by simpa using h1,?_⟩
 cases op<;>simp only[qEq,reduceCtorEq,Option.some.injEq,Prod.mk.injEq]at h2<;>exact h2.2
 obtain⟨h1,h2⟩:=Qp h
 exact Y8 hS hx hy (t:=v) ⟨h1,QaK h2⟩ fun _ h=>h
 obtain⟨h1,h2⟩:=Qp h
 exact Y8 hS hx hy (t:=v) ⟨h1,QaK h2⟩ fun _ h=>h
 obtain⟨h1,h2⟩:=Qp h
 exact Y8 hS hx hy (t:=v) ⟨h1,QaK h2⟩ fun _ h=>h
 obtain⟨h1,h2⟩:=Qp h
 rw[zk]at h1
 exact Y8 hS hx hy (t:=v) ⟨h1.1,h1.2,QaK h2⟩ fun _ h=>h
 obtain⟨h1,h2⟩:=Qp h
 exact Y8 hS hx hy (t:=v) ⟨by simpa using h1,QaK h2⟩ fun _ h=>h
 rename_i r
 split at h
 rename_i x0 app hb
 obtain⟨h1,h2⟩:=Qp h
 simp only[zi]at h2
 obtain⟨⟨q1,q2⟩,h3,h4⟩:=h2
 cases h4
 refine Y8 hS hx hy (t:=q2) ?_ fun _ h=>h
 refine⟨by simpa using h1,?_⟩
 simp only[hb]
 exact⟨hp.1,QaK h3⟩
 cases h
 obtain⟨h1,h2⟩:=Qp h
 have h3:T=227:=by simpa using h1
 subst h3
 rw[Qge hx,Qge hy]
 exact Qki w op _ _ _ _ x y h2
 split at h
 rename_i p q hx8 hy8
 obtain⟨h1,h2⟩:=Qp h
 have h3:T=33:=by simpa using h1
 subst h3
 rw[QlI hx8]at hx
 rw[QlI hy8]at hy
 rw[QiD hx,QiD hy]
 exact Qny w op p q x y h2
 cases h
 cases h
def qUn (o:UnOp) (s:SV):QR:=
 match o,s with
 | .not,.bool b=>some ([],.bool (!b))
 | .neg,.int .i64 n=>some ([inI (0-n)],.int .i64 (0-n))
 | .neg,.nat n=>some ([inI (0-(n:Int))],.int .i64 (0-(n:Int)))
 | _,_=>none
theorem QvN {o:UnOp} {s v:SV} {u:Value} (hr:Rel ω s u) {ps:List Prop} (h:qUn o s=some (ps,v)) (hp:Yj ps) (w:World):∃x,Rel ω v x/\(Op.unary o u).run zf w=.ok x w:=by
 have via:∀{s:SV},Rel ω s u->unK o s (fun r=>r=v)->∃x,Rel ω v x/\(Op.unary o u).run zf w=.ok x w:=by
  intro s hr hk
  obtain⟨t,x,h1,h2,h3⟩:=un_ok hr hk w
  subst h1
  exact⟨x,h2,h3⟩
 unfold qUn at h
 split at h
 cases h;exact via hr rfl
 cases h;exact via hr ⟨hp.1,rfl⟩
 cases h
 have:=Jl hr
 exact via this ⟨hp.1,rfl⟩
 cases h
def gdc (c b:Bool) (s:SV):List Prop:=
 match s with
 | .gd g _=>[c=b->g=true]
 | _=>[]
def QpI (sc sa sb:SV):QR:=
 match sc,unw sa,unw sb with
 | .bool c,.bool x,.bool y=>some (gdc c true sa++gdc c false sb,.bool (cond c x y))
 | _,_,_=>none
theorem QqU {c b:Bool} {s:SV} (h:Yj (gdc c b s)) (hc:c=b):cnd s:=by
 unfold gdc at h
 split at h
 exact h.1 hc
 rename_i hs
 unfold cnd
 split
 exact absurd rfl (hs _ _)
 trivial
theorem QpH {sc sa sb v:SV} {c x y:Value} (hc:Rel ω sc c) (hx:Rel ω sa x) (hy:Rel ω sb y) {ps:List Prop} (h:QpI sc sa sb=some (ps,v)) (hp:Yj ps) (w:World) :
 ∃u,Rel ω v u/\(do pure (Next.value (if <- asBool c then x else y)):Sem Next).run zf w=.ok (.value u) w:=by
 unfold QpI at h
 split at h
 rename_i b p q e1 e2
 cases h
 obtain⟨h1,h2⟩:=JW hp
 obtain⟨s,u,k1,k2,k3⟩:=Qsm hc hx hy (K:=fun r=>r=.bool (cond b p q)) (by
  refine⟨fun hb=>QqU h1 hb,fun hb=>QqU h2 hb,?_⟩
  rw[e1,e2]
  exact rfl) w
 subst k1
 exact⟨u,k2,k3⟩
 cases h
def QtW (k:IntKind) (s:SV):QR:=
 match k,s with
 | .i64,.nat n=>some ([n<=9223372036854775807],.nat n)
 | .i64,.byt c=>some ([],.nat c.toNat)
 | .i64,.int _ n=>some ([inI n],.int .i64 n)
 | .u8,.nat n=>some ([],.byt (zD n))
 | .u8,.byt c=>some ([],.byt c)
 | .i32,.nat n=>some ([n<=2147483647],.int .i32 n)
 | .i32,.byt c=>some ([],.int .i32 c.toNat)
 | .i32,.int _ n=>some ([0<=n/\n<=2147483647],.int .i32 n)
 | .u64,.nat n=>some ([n<=9223372036854775807],.int .u64 n)
 | .u64,.byt c=>some ([],.int .u64 c.toNat)
 | _,_=>none
def Qkh (hp:Heap):SV->Option Int
 | .own r=>match hlk hp r with
  | some (.row (.runes [n]) _)=>some n
  | _=>none
 | _=>none
def QpM (hp:Heap) (src dst:TypeId) (s:SV):QR:=
 match kd src,kd dst with
 | some _,some k=>QtW k s
 | some _,none=>match lw s with
  | .int _ n=>Vl (dst==9) (some ([],.str (YM n)))
  | _=>none
 | none,_=>cond (src==176) (match Qkh hp s with
  | some n=>Vl (dst==9) (some ([],.str (YM n)))
  | none=>none) (match Qd7 hp s with
  | some xs=>Vl (src==37&&dst==9) (some ([],.str xs))
  | none=>none)
theorem u176:zf.underlying 176=some (.slice 21):=by kernel_rfl
theorem u21:zf.underlying 21=some (.int .i32):=by kernel_rfl
theorem Qoi (hS:Sim g0 w0 M ω S a w) {s:SV} {u:Value} (hr:Rel ω s u) {n:Int} (h:Qkh S.heap s=some n):(convert 176 9 u).run zf w=.ok (.string (Utf8.encode n)) w:=by
 unfold Qkh at h
 split at h
 rename_i r
 split at h
 rename_i m app hb
 cases h
 obtain⟨h1,h2⟩:=hS.heap r _ hb
 rw[hr.own_inv.1]
 rcases h1 with ⟨_,h0⟩ | ⟨g,cap,cur,fr,hσ,hg,hfr,hc,hm,hs,hcells⟩
 cases h0
 rw[hσ,run_convert_runes_string w 176 9 21 _ _ _ u176 u21 u9]
 have hl:(RV.runes [n]).len=1:=rfl
 rw[hl]at hc ⊢
 have hz:(RV.runes [n]).z=1:=rfl
 rw[hz]at hs
 have hlt:0<cur.size:=by omega
 have hcell:=hcells 0 0 (.int .i32 n) cur[0] (by rw[hl];exact Nat.zero_lt_one) rfl (by rw[hz];exact zr hlt)
 have hld:(loadCells ⟨g,0,none⟩ 1).run zf w=.ok ([n].map (Value.int .i32)).toArray w:=by
  have:=ZF zf w g 0 (fun _=>.int .i32 n) 1 0 #[] (fun j hj=>by
   obtain rfl:j=0:=by omega
   rw[Z8 hg]
   simp only[Nat.add_zero]
   rw[zr hlt,hcell.int_inv])
  simpa [loadCells] using this
 have:=run_runesToString (P:=zf) w ⟨g,0,none⟩ 1 cap [n] hld
 rw[this]
 simp[runesBytes]
 cases h
 cases h
theorem QpL (hS:Sim g0 w0 M ω S a w) {src dst:TypeId} {s v:SV} {u:Value} (hr:Rel ω s u) {ps:List Prop} (h:QpM S.heap src dst s=some (ps,v)) (hp:Yj ps) :
 ∃x,Rel ω v x/\(convert src dst u).run zf w=.ok x w:=by
 unfold QpM at h
 split at h
 rename_i k0 k e0 e1
 have via:∀{k1:IntKind} {n:Int},u=.int k1 n->Rel ω v (.int k (k.wrap n))->∃x,Rel ω v x/\(convert src dst u).run zf w=.ok x w:=by
  intro k1 n hu hv
  exact⟨_,hv,by rw[hu];exact Qre e0 e1 k1 n w⟩
 unfold QtW at h
 split at h
 cases h
 exact via hr.nat_inv (by rw[QbO (by unfold inI;have:=hp.1;omega)];exact .nat _)
 rename_i c
 cases h
 have:=zV c
 exact via hr.byt_inv (by rw[QbO (by unfold inI;omega)];exact .nat _)
 cases h
 exact via hr.int_inv (by rw[QbO hp.1];exact .int _ _)
 rename_i n
 cases h
 refine via hr.nat_inv ?_
 rw[IntKind.wrap_u8]
 have:=Rel.byt (ω:=ω) (zD n)
 rw[show ((zD n).toNat:Int)=(n:Int)%256 from by simp]at this
 exact this
 rename_i c
 cases h
 refine via hr.byt_inv ?_
 rw[IntKind.wrap_u8,show ((c.toNat:Nat):Int)%256=c.toNat from by have:=zV c;omega]
 exact .byt c
 cases h
 exact via hr.nat_inv (by rw[IntWalk.i32_in _ ⟨by omega,by have:=hp.1;omega⟩];exact .int _ _)
 rename_i c
 cases h
 have:=zV c
 exact via hr.byt_inv (by rw[IntWalk.i32_in _ ⟨by omega,by omega⟩];exact .int _ _)
 cases h
 exact via hr.int_inv (by rw[IntWalk.i32_in _ ⟨by have:=hp.1;omega,by have:=hp.1;omega⟩];exact .int _ _)
 cases h
 exact via hr.nat_inv (by rw[IntWalk.u64_in _ ⟨by omega,by have:=hp.1;omega⟩];exact .int _ _)
 rename_i c
 cases h
 have:=zV c
 exact via hr.byt_inv (by rw[IntWalk.u64_in _ ⟨by omega,by omega⟩];exact .int _ _)
 cases h
 rename_i k0 e0 e1
 split at h
 rename_i k1 n e
 obtain⟨hd,h⟩:=Qp h
 cases h
 have hu:=Jl hr
 rw[e]at hu
 obtain rfl:dst=9:=by simpa using hd
 refine⟨_,?_,by rw[hu.int_inv];exact Qrd e0 k1 n w⟩
 have:=Rel.str (ω:=ω) (YM n)
 rw[YM,Qj1]at this
 exact this
 cases h
 rename_i e0
 cases hsr:(src==176) with
 | true=>
  rw[hsr]at h
  simp only[cond_true]at h
  split at h
  rename_i n hn
  obtain⟨hd,h⟩:=Qp h
  cases h
  obtain rfl:src=176:=by simpa using hsr
  obtain rfl:dst=9:=by simpa using hd
  refine⟨_,?_,Qoi hS hr hn⟩
  have:=Rel.str (ω:=ω) (YM n)
  rw[YM,Qj1]at this
  exact this
  cases h
 | false=>
 rw[hsr]at h
 simp only[cond_false]at h
 split at h
 rename_i xs hx
 obtain⟨hd,h⟩:=Qp h
 cases h
 simp only[zk,beq_iff_eq]at hd
 obtain⟨rfl,rfl⟩:=hd
 exact⟨_,.str xs,Qk7 hS hr hx⟩
 cases h
end
end
end Go.Proofs.YtengepcafdnalaaGreatDoor
