/-
  Parts of the proof that the law FnPrintBack holds for every input (texts Ei, Ej, Ek, El). Conditions: none.
-/
import Derived.Test.YtengepcafdnalaaGreatDoorM08
namespace Go.Proofs.YtengepcafdnalaaGreatDoor
open _root_.Array renaming getElem?_eq_getElem → zr, getElem?_setIfInBounds_ne → zH
open _root_.List renaming getD_eq_getElem?_getD → zd, getElem?_eq_some_iff → zy, getElem?_eq_getElem → zg, getElem?_map → zC, getElem?_set_ne → xn, length_drop → zR
open _root_.Nat renaming le_refl → zm, add_assoc → xe
open _root_.Option renaming map_some → zK, map_eq_some_iff → zi, bind_some → zQ
open Go.Result renaming andThen_ok → zn
open Go.Sem renaming run_bind → zp, run_pure → xa
open Go.Proofs.Tryz renaming prog → zf
section
open Go Go.RowKit
def Qh9 (d:Nat) (s:Option SV) (K:Nat->Prop):Prop:=
 match s with
 | none=>K d
 | some (.int .i64 n)=>0<=n/\K n.toNat
 | _=>False
def Qg2 (T:TypeId) (s:SV) (lo hi:Option SV) (K:SV->Prop):Prop:=
 match s with
 | .str l=>T=9/\Qh9 0 lo fun a=>Qh9 l.length hi fun b=>a<=b/\b<=l.length/\K (.str ((l.take b).drop a))
 | .sl (.sels xs)=>T=22/\Qh9 0 lo fun a=>Qh9 xs.length hi fun b=>a<=b/\b<=xs.length/\K (.sl (.sels ((xs.take b).drop a)))
 | _=>False
theorem Qh0 (l:List UInt8) (a b:Nat):(⟨l.toArray⟩:ByteArray).extract a b=⟨((l.take b).drop a).toArray⟩:=by
 apply ByteArray.ext
 rw[ByteArray.data_extract]
 apply Array.ext'
 simp[List.extract_eq_take_drop,List.drop_take]
section
variable {g0:Glob} {w0:World} {M:Nat->Prop} {ω:Wit} {S:SS} {a:Act} {w:World}
theorem u22:zf.underlying 22=some (.slice 33):=by kernel_rfl
theorem QgS {ρ:Operand->Value} {e:Operand->SV} {x:Option Operand} (hr:∀o,x=some o->Rel ω (e o) (ρ o)) {d:Nat} {K:Nat->Prop} (h:Qh9 d (x.map fun o=>e o) K) :
 (x.map ρ=none/\K d)\/∃n:Int,x.map ρ=some (.int .i64 n)/\0<=n/\K n.toNat:=by
 cases x with
 | none=>exact .inl ⟨rfl,h⟩
 | some o=>
  have hr':=hr o rfl
  simp only[zK]at h ⊢
  unfold Qh9 at h
  split at h
  rename_i he;cases he
  rename_i n he
  simp only[Option.some.injEq]at he
  rw[he]at hr'
  exact .inr ⟨n,by rw[hr'.int_inv],h.1,h.2⟩
  exact h.elim
theorem QeA (isS:Bool) (len cap:Nat) (lo hi:Option Value) (a b:Nat) (hlo:(lo=none/\a=0)\/∃n:Int,lo=some (.int .i64 n)/\0<=n/\a=n.toNat)
 (hhi:(hi=none/\b=len)\/∃n:Int,hi=some (.int .i64 n)/\0<=n/\b=n.toNat) (hab:a<=b) (hbl:b<=len) (hlc:len<=cap) (w:World) :
 (Instr.sliceBounds isS len cap lo hi none).run zf w=.ok (a,b,cap) w:=by
 have bound:∀(n:Int) (y:Nat) (code:BoundsCode),0<=n->n<=y->(Instr.sliceBound (.int .i64 n) y code).run zf w=.ok n.toNat w:=by
  intro n y code h0 h1
  simp only[Instr.sliceBound,asIntOf,zp,xa,zn]
  rw[if_pos ⟨h0,h1⟩]
  rfl
 unfold Instr.sliceBounds
 simp only[zp,xa,zn]
 rcases hhi with ⟨rfl,rfl⟩ | ⟨n,rfl,h0,rfl⟩<;>rcases hlo with ⟨rfl,rfl⟩ | ⟨m,rfl,k0,rfl⟩
 simp
 have:=bound m b (if (none:Option Value).isSome then BoundsCode.slice3C else BoundsCode.sliceB) k0 (by omega)
 simp only[zp,xa,zn,this]
 have:=bound n cap (if isS then BoundsCode.sliceAcap else BoundsCode.sliceAlen) h0 (by omega)
 simp only[zp,xa,zn,this]
 have e1:=bound n cap (if isS then BoundsCode.sliceAcap else BoundsCode.sliceAlen) h0 (by omega)
 have e2:=bound m n.toNat (if (none:Option Value).isSome then BoundsCode.slice3C else BoundsCode.sliceB) k0 (by omega)
 simp only[zp,xa,zn,e1,e2]
theorem QoQ (hS:Sim g0 w0 M ω S a w) {T:TypeId} {s:SV} {u:Value} (hr:Rel ω s u) {ρ:Operand->Value} {e:Operand->SV} {lo hi:Option Operand}
 (hlo:∀o,lo=some o->Rel ω (e o) (ρ o)) (hhi:∀o,hi=some o->Rel ω (e o) (ρ o)) {K:SV->Prop}
 (h:Qg2 T s (lo.map fun o=>e o) (hi.map fun o=>e o) K) :
 ∃s' v,K s'/\Rel ω s' v/\(Instr.sliceAt T u (lo.map ρ) (hi.map ρ) none).run zf w=.ok v w:=by
 -- the two bounds as numbers
 have key:∀(d:Nat) (K':Nat->Nat->Prop),(Qh9 0 (lo.map fun o=>e o) fun a=>Qh9 d (hi.map fun o=>e o) fun b=>K' a b) ->
  ∃a b,K' a b/\((lo.map ρ=none/\a=0)\/∃n:Int,lo.map ρ=some (.int .i64 n)/\0<=n/\a=n.toNat)/\((hi.map ρ=none/\b=d)\/∃n:Int,hi.map ρ=some (.int .i64 n)/\0<=n/\b=n.toNat):=by
  intro d K' hk
  rcases QgS hlo hk with ⟨e1,h1⟩ | ⟨n,e1,h0,h1⟩<;>rcases QgS hhi h1 with ⟨e2,h2⟩ | ⟨m,e2,k0,h2⟩
  . exact⟨_,_,h2,.inl ⟨e1,rfl⟩,.inl ⟨e2,rfl⟩⟩
  . exact⟨_,_,h2,.inl ⟨e1,rfl⟩,.inr ⟨m,e2,k0,rfl⟩⟩
  . exact⟨_,_,h2,.inr ⟨n,e1,h0,rfl⟩,.inl ⟨e2,rfl⟩⟩
  exact⟨_,_,h2,.inr ⟨n,e1,h0,rfl⟩,.inr ⟨m,e2,k0,rfl⟩⟩
 unfold Qg2 at h
 split at h
 rename_i l
 obtain⟨rfl,h⟩:=h
 obtain⟨p,q,⟨h1,h2,hK⟩,hp,hq⟩:=key _ _ h
 rw[hr.str_inv]
 refine⟨_,_,hK,.str _,?_⟩
 unfold Instr.sliceAt
 simp only[zp,run_underlying u9,zn]
 unfold Instr.slice
 simp only[zp,run_underlying u9,zn]
 have hb:=QeA false l.length l.length (lo.map ρ) (hi.map ρ) p q hp hq h1 h2 (zm _) w
 simp only[Option.isSome_none,Bool.false_eq_true,if_false,zp,JE,hb,zn,Qh0,xa]
 rename_i xs
 obtain⟨rfl,h⟩:=h
 obtain⟨p,q,⟨h1,h2,hK⟩,hp,hq⟩:=key _ _ h
 obtain⟨_,i,hi',hz⟩:=Qac (T:=22) (E:=33) (z:=8) rfl
 have run:∀(ad:Option Addr) (c:Nat),xs.length<=c->(Instr.sliceAt 22 (.slice ad xs.length c) (lo.map ρ) (hi.map ρ) none).run zf w=.ok (.slice (if c=p then ad else ad.map (·.add (p*8))) (q-p) (c-p)) w:=by
  intro ad c hc
  unfold Instr.sliceAt
  simp only[zp,run_underlying u22,zn]
  unfold Instr.slice
  simp only[zp,run_underlying u22,zn]
  have hb:=QeA true xs.length c (lo.map ρ) (hi.map ρ) p q hp hq h1 h2 hc w
  simp only[zp,hb,zn,Ul hi',hz,xa]
 have hlen:((xs.take q).drop p).length=q-p:=by simp;omega
 obtain⟨⟨a0,c,rfl⟩,h3⟩:=hr.sl_inv
 have hc:xs.length<=c:=by
  rcases Nat.eq_zero_or_pos xs.length with h0 | h0
  omega
  obtain⟨b,o,c',vs,ev,k1,k2,k3,k4⟩:=h3 h0
  cases ev
  exact k3
 refine⟨_,_,hK,?_,run a0 c hc⟩
 rcases Nat.eq_zero_or_pos (q-p) with h0 | h0
 rw[h0]
 exact .slz _ _ _ (by show ((xs.take q).drop p).length=0;omega)
 obtain⟨b,o,c',vs,ev,k1,k2,k3,k4⟩:=h3 (by show 0<xs.length;omega)
 cases ev
 rw[if_neg (show ¬c=p from by omega)]
 simp only[zK,UA]
 have hl:(RV.sels ((xs.take q).drop p)).len=q-p:=hlen
 rw[<-hl]
 refine .sl _ b (o+p*8) _ vs _ k1.choose_spec ?_ (by rw[hl];omega) fun i' j s v e0 e1 e2=>?_
 rw[hl];simp only[RV.len,RV.z]at k2 ⊢;omega
 rw[hl]at e0
 refine k4 (p+i') j s v (by show p+i'<xs.length;omega) ?_ ?_
 rw[<-e1]
 have:((xs.take q).drop p).getD i' default=xs.getD (p+i') default:=by
  simp only[zd,List.getElem?_drop,List.getElem?_take]
  rw[if_pos (by omega)]
 simp only[RV.cell,this]
 rw[<-e2]
 show vs[o+((p+i')*8+j)]? = vs[o+p*8+(i'*8+j)]?
 rw[show o+((p+i')*8+j)=o+p*8+(i'*8+j) from by omega]
 exact h.elim
end
end
section
open Go Go.RowKit
def Qp8 (hp:Heap) (T:TypeId) (s:SV) (K:SV->Prop):Prop:=
 match s with
 | .str l=>T=9/\K (.int .i64 l.length)
 | .sl x=>slt T=some (x.elem,x.z)/\K (.int .i64 x.len)
 | .nilsl=>(slt T).isSome=true/\K (.int .i64 0)
 | .own r=>match hlk hp r with
  | some (.row x _)=>slt T=some (x.elem,x.z)/\K (.int .i64 x.len)
  | _=>False
 | _=>False
section
variable {g0:Glob} {w0:World} {M:Nat->Prop} {ω:Wit} {S:SS} {a:Act} {w:World}
theorem Qwa (hS:Sim g0 w0 M ω S a w) {T:TypeId} {s:SV} {u:Value} (hr:Rel ω s u) {K:SV->Prop} (h:Qp8 S.heap T s K) (R:TypeId) :
 ∃s' v,K s'/\Rel ω s' v/\(Builtin.len_ #[T] R #[u]).run zf w=.ok v w:=by
 have slices:∀(E:TypeId) (z:Nat),slt T=some (E,z)->∀(a0:Option Addr) (n c:Nat),(Builtin.len_ #[T] R #[.slice a0 n c]).run zf w=.ok (.int .i64 n) w:=by
  intro E z hs a0 n c
  obtain⟨hu,_⟩:=Qac hs
  simp[Builtin.len_,run_underlying hu,goInt]
 unfold Qp8 at h
 split at h
 rename_i l
 obtain⟨rfl,hK⟩:=h
 rw[hr.str_inv]
 exact⟨_,_,hK,.int _ _,by simp[Builtin.len_,run_underlying u9,goInt,JE]⟩
 rename_i x
 obtain⟨hT,hK⟩:=h
 obtain⟨⟨a0,c,rfl⟩,_⟩:=hr.sl_inv
 exact⟨_,_,hK,.int _ _,slices _ _ hT a0 x.len c⟩
 obtain⟨hT,hK⟩:=h
 rw[hr.nilsl_inv]
 obtain⟨⟨E,z⟩,he⟩:=Option.isSome_iff_exists.1 hT
 exact⟨_,_,hK,.int _ _,slices E z he none 0 0⟩
 rename_i r
 split at h
 rename_i x app hb
 obtain⟨hT,hK⟩:=h
 obtain⟨h1,_⟩:=hS.heap r _ hb
 rw[hr.own_inv.1]
 rcases h1 with ⟨hσ,h0⟩ | ⟨g,cap,cur,fr,hσ,_⟩
 rw[hσ];refine⟨_,_,hK,.int _ _,?_⟩;rw[h0];exact slices _ _ hT none 0 0
 rw[hσ];exact⟨_,_,hK,.int _ _,slices _ _ hT _ x.len cap⟩
 exact h.elim
 exact h.elim
def minK (s t:SV) (K:SV->Prop):Prop:=
 match s,t with
 | .int .i64 x,.int .i64 y=>K (.int .i64 (min x y))
 | _,_=>False
def maxK (s t:SV) (K:SV->Prop):Prop:=
 match s,t with
 | .int .i64 x,.int .i64 y=>K (.int .i64 (max x y))
 | _,_=>False
theorem Qv7 {s t:SV} {u v:Value} (hr:Rel ω s u) (ht:Rel ω t v) {K:SV->Prop} (h:minK s t K) (ts:Array TypeId) (R:TypeId) (w:World) :
 ∃s' x,K s'/\Rel ω s' x/\(Builtin.min_ ts R #[u,v]).run zf w=.ok x w:=by
 unfold minK at h
 split at h
 rename_i x y
 rw[hr.int_inv,ht.int_inv]
 refine⟨_,_,h,.int _ _,?_⟩
 have:(if y<x then y else x)=min x y:=by split<;>omega
 simp[Builtin.min_,Builtin.min2,this]
 exact h.elim
theorem Qv9 {s t:SV} {u v:Value} (hr:Rel ω s u) (ht:Rel ω t v) {K:SV->Prop} (h:maxK s t K) (ts:Array TypeId) (R:TypeId) (w:World) :
 ∃s' x,K s'/\Rel ω s' x/\(Builtin.max_ ts R #[u,v]).run zf w=.ok x w:=by
 unfold maxK at h
 split at h
 rename_i x y
 rw[hr.int_inv,ht.int_inv]
 refine⟨_,_,h,.int _ _,?_⟩
 have:(if y>x then y else x)=max x y:=by split<;>omega
 simp[Builtin.max_,Builtin.max2]
 omega
 exact h.elim
def Qq0 (s:SV) (i:Nat) (K:SV->Prop):Prop:=
 match s with
 | .tup vs=>match lk1 vs i with
  | some x=>K x
  | none=>False
 | _=>False
theorem Qxm {s:SV} {u:Value} (hr:Rel ω s u) {i:Nat} {K:SV->Prop} (h:Qq0 s i K) (w:World):∃s' v,K s'/\Rel ω s' v/\(Instr.extract u i).run zf w=.ok v w:=by
 unfold Qq0 at h
 split at h
 rename_i l
 split at h
 rename_i x hl
 rw[QkE]at hl
 cases hr with
 | tup _ vs hn hv=>
  have hlt:i<vs.size:=by have:=(zy.1 hl).1;omega
  exact⟨x,vs[i],h,hv i x _ hl (zr hlt),by simp[Instr.extract,zr hlt]⟩
 exact h.elim
 exact h.elim
theorem Qnz {T:TypeId} {z:Nat} (h:shp T=some (true,z)) (u:Value) (w:World):(Instr.makeInterface T u).run zf w=.ok (.iface T u) w:=by
 obtain⟨hagg,_⟩:=QcB h
 cases hd:zf.underlying T with
 | none=>rw[hd]at hagg;cases hagg
 | some d=>
  rw[hd]at hagg
  unfold Instr.makeInterface
  simp only[zp,run_underlying hd,zn]
  cases d<;>first | rfl | simp[QgV]at hagg
def toI:SV->Option Int
 | .int .i64 n=>some n
 | .nat n=>some n
 | _=>none
def toKs:SV->Option (List CSel)
 | .sl (.csels ks)=>some ks
 | .nilsl=>some []
 | _=>none
theorem YS {s:SV} {n:Int} (h:toI s=some n) {ω:Wit} {u:Value} (hr:Rel ω s u):Rel ω (.int .i64 n) u:=by
 unfold toI at h
 split at h
 cases h;exact hr
 cases h;rw[hr.nat_inv];exact .int _ _
 cases h
theorem Qiw {s:SV} {ks:List CSel} (h:toKs s=some ks) {ω:Wit} {u:Value} (hr:Rel ω s u):Rel ω (.sl (.csels ks)) u:=by
 unfold toKs at h
 split at h
 cases h;exact hr
 cases h;rw[hr.nilsl_inv];exact .slz _ none 0 rfl
 cases h
def toC:TypeId->List SV->Option CSel
 | 99,[.str k]=>some (.tag k)
 | 101,[.str v]=>some (.cls v)
 | 103,[.str v]=>some (.idn v)
 | 105,[.str k,.str v,.str o,.bool i]=>some (.attr k v o i)
 | 109,[a,b,.bool l,.bool t]=>match toI a,toI b with
  | some a,some b=>some (.nth a b l t)
  | _,_=>none
 | 111,[.bool t]=>some (.only t)
 | 113,[]=>some .empty
 | 114,[]=>some .root
 | 115,[]=>some .input
 | 116,[]=>some .link
 | 117,[]=>some .enabled
 | 118,[]=>some .disabled
 | 119,[]=>some .checked
 | 121,[.str v]=>some (.lang v)
 | 123,[.str v,.bool o]=>some (.contains v o)
 | 125,[.str v]=>some (.never v)
 | 127,[.str n,ks]=>(toKs ks).map (.rel n ·)
 | 129,[ks,.str pe]=>(toKs ks).map (.compound · pe)
 | 131,[.cs f,.byt c,.cs s]=>some (.combined f c s)
 | _,_=>none
theorem Qeb {ω:Wit} {l l':List SV} {v:Value} (hl:l'.length=l.length) (h:∀(i:Nat) (s s':SV) (u:Value),l[i]? = some s->l'[i]? = some s'->Rel ω s u->Rel ω s' u) (hr:Rel ω (.agg l) v):Rel ω (.agg l') v:=by
 cases hr with
 | agg _ vs hn hh=>
  refine .agg _ vs (by omega) fun i s' u e1 e2=>?_
  have hlt:i<l.length:=by rw[<-hl];exact (zy.1 e1).1
  exact h i _ s' u (zg hlt) e1 (hh i _ u (zg hlt) e2)
theorem Quv {T:TypeId} {l:List SV} {x:CSel} (h:toC T l=some x):x.ty=T/\∀(ω:Wit) (v:Value),Rel ω (.agg l) v->Rel ω (.agg x.cells) v:=by
 unfold toC at h
 split at h<;>first | (cases h;done) | (cases h;exact⟨rfl,fun _ _ h=>h⟩) | skip
 rename_i a b l t
 split at h
 rename_i a' b' ha hb
 cases h
 refine⟨rfl,fun ω v hr=>Qeb (l:=[a,b,.bool l,.bool t]) rfl (fun i s s' u e1 e2 hs=>?_) hr⟩
 match i,e1,e2 with
 | 0,e1,e2=>cases e1;cases e2;exact YS ha hs
 | 1,e1,e2=>cases e1;cases e2;exact YS hb hs
 | 2,e1,e2=>cases e1;cases e2;exact hs
 | 3,e1,e2=>cases e1;cases e2;exact hs
 cases h
 rename_i n k
 simp only[zi]at h
 obtain⟨ks,hk,rfl⟩:=h
 refine⟨rfl,fun ω v hr=>Qeb (l:=[.str n,k]) rfl (fun i s s' u e1 e2 hs=>?_) hr⟩
 match i,e1,e2 with
 | 0,e1,e2=>cases e1;cases e2;exact hs
 | 1,e1,e2=>cases e1;cases e2;exact Qiw hk hs
 rename_i k pe
 simp only[zi]at h
 obtain⟨ks,hk,rfl⟩:=h
 refine⟨rfl,fun ω v hr=>Qeb (l:=[k,.str pe]) rfl (fun i s s' u e1 e2 hs=>?_) hr⟩
 match i,e1,e2 with
 | 0,e1,e2=>cases e1;cases e2;exact Qiw hk hs
 | 1,e1,e2=>cases e1;cases e2;exact hs
def QeO (T:TypeId) (s:SV) (K:SV->Prop):Prop:=
 match s with
 | .agg l=>(shp T).isSome=true/\(match shp T with | some (b,_)=>b | none=>false)=true/\match toC T l with
  | some x=>K (.cs x)
  | none=>False
 | .ptr _ _=>T=145/\K .ifx
 | .nat _=>T=191/\K .ifx
 | _=>False
theorem u191:(zf.underlying 191).map (fun d=>match d with | .interface _=>false | _=>true)=some true:=by kernel_rfl
theorem Qhe (u:Value) (w:World):(Instr.makeInterface 191 u).run zf w=.ok (.iface 191 u) w:=by
 have h:=u191
 cases hd:zf.underlying 191 with
 | none=>rw[hd]at h;cases h
 | some d=>
  rw[hd]at h
  unfold Instr.makeInterface
  simp only[zp,run_underlying hd,zn]
  cases d<;>first | rfl | simp at h
theorem u145:(zf.underlying 145).map (fun d=>match d with | .interface _=>false | _=>true)=some true:=by kernel_rfl
theorem Qhf (u:Value) (w:World):(Instr.makeInterface 145 u).run zf w=.ok (.iface 145 u) w:=by
 have h:=u145
 cases hd:zf.underlying 145 with
 | none=>rw[hd]at h;cases h
 | some d=>
  rw[hd]at h
  unfold Instr.makeInterface
  simp only[zp,run_underlying hd,zn]
  cases d<;>first | rfl | simp at h
theorem Qp3 {T:TypeId} {s:SV} {u:Value} (hr:Rel ω s u) {K:SV->Prop} (h:QeO T s K) (w:World):∃s' v,K s'/\Rel ω s' v/\(Instr.makeInterface T u).run zf w=.ok v w:=by
 unfold QeO at h
 split at h
 rename_i l
 obtain⟨_,h2,h⟩:=h
 split at h
 rename_i x hx
 obtain⟨h3,h4⟩:=Quv hx
 cases hsh:shp T with
 | none=>rw[hsh]at h2;cases h2
 | some bz=>
  obtain⟨b,z⟩:=bz
  rw[hsh]at h2
  simp only at h2
  subst h2
  refine⟨_,_,h,.cs x _ ?_,Qnz hsh u w⟩
  unfold CSel.enc
  rw[h3]
  exact .iface _ _ _ (h4 ω u hr)
 exact h.elim
 obtain⟨rfl,h⟩:=h
 exact⟨_,_,h,.ifx _ _,Qhf u w⟩
 obtain⟨rfl,h⟩:=h
 exact⟨_,_,h,.ifx _ _,Qhe u w⟩
 exact h.elim
def taK (s:SV) (A:TypeId) (K:SV->Prop):Prop:=
 match s with
 | .cs x=>(match shp A with | some (b,_)=>b | none=>false)=true/\if x.ty=A then K (.tup [.agg x.cells,.bool true]) else K (.tup [.undef,.bool false])
 | _=>False
theorem QrN {A:TypeId} {z:Nat} (h:shp A=some (true,z)):∃i v,zf.info? A=some i/\i.zero=some v:=by
 have key:∀A:TypeId,((zf.info? A).map fun i=>i.zero.isSome)=some true->∃i v,zf.info? A=some i/\i.zero=some v:=by
  intro A h
  cases hi:zf.info? A with
  | none=>rw[hi]at h;cases h
  | some i=>
   rw[hi]at h
   simp only[zK,Option.some.injEq]at h
   obtain⟨v,hv⟩:=Option.isSome_iff_exists.1 h
   exact⟨i,v,rfl,hv⟩
 unfold shp at h
 split at h<;>first | (cases h;done) | (exact key _ (by kernel_rfl))
theorem ta_ok {s:SV} {u:Value} (hr:Rel ω s u) {A:TypeId} {K:SV->Prop} (h:taK s A K) (X:TypeId) (w:World):∃s' v,K s'/\Rel ω s' v/\(Instr.typeAssert u X A true).run zf w=.ok v w:=by
 unfold taK at h
 split at h
 rename_i x
 obtain⟨h1,h⟩:=h
 cases hsh:shp A with
 | none=>rw[hsh]at h1;cases h1
 | some bz=>
  obtain⟨b,z⟩:=bz
  rw[hsh]at h1
  simp only at h1
  subst h1
  obtain⟨hagg,_⟩:=QcB hsh
  obtain⟨i,zv,hi,hz⟩:=QrN hsh
  obtain⟨u',rfl,hu⟩:=hr.cs_inv
  have hzero:(zeroValue A).run zf w=.ok zv w:=by simp[zeroValue,typeInfo,hi,hz]
  cases hd:zf.underlying A with
  | none=>rw[hd]at hagg;cases hagg
  | some d=>
   rw[hd]at hagg
   by_cases hT:x.ty=A
   rw[if_pos hT]at h
   refine⟨_,.tuple #[u',.bool true],h,?_,?_⟩
   refine .tup _ _ rfl fun j s v e1 e2=>?_
   match j with
   | 0=>simp at e1 e2;rw[<-e1,<-e2];exact hu
   | 1=>simp at e1 e2;rw[<-e1,<-e2];exact .bool _
   | j+2=>simp at e1
   unfold Instr.typeAssert
   simp only[zp,run_underlying hd,zn]
   cases d<;>first | (simp[QgV]at hagg;done) | (simp[hT])
   rw[if_neg hT]at h
   refine⟨_,.tuple #[zv,.bool false],h,?_,?_⟩
   refine .tup _ _ rfl fun j s v e1 e2=>?_
   match j with
   | 0=>simp at e1;rw[<-e1];exact .undef _
   | 1=>simp at e1 e2;rw[<-e1,<-e2];exact .bool _
   | j+2=>simp at e1
   unfold Instr.typeAssert
   simp only[zp,run_underlying hd,zn]
   cases d<;>first | (simp[QgV]at hagg;done) | (simp[hT,hzero])
 exact h.elim
end
end
section
open Go Go.RowKit
def zt:TypeId->Option (List SV)
 | 33=>some [.nat 0,.nat 0,.str [],.str [],.nat 0,.nat 0,.nat 0,.nat 0]
 | 46=>some [.str [],.nat 0,.bool false,.bool false,.bool false]
 | 62=>some [.nilsl,.nilsl,.nat 0]
 | 94=>some [.str [],.nat 0,.nat 0,.bool false]
 | 76=>some [.nat 0,.str [],.str [],.str [],.nat 0,.nat 0,.bool false,.bool false,.bool false,.bool false,.nilsl]
 | 99=>some [.str []]
 | 101=>some [.str []]
 | 103=>some [.str []]
 | 105=>some [.str [],.str [],.str [],.bool false]
 | 109=>some [.nat 0,.nat 0,.bool false,.bool false]
 | 111=>some [.bool false]
 | 113=>some []
 | 114=>some []
 | 115=>some []
 | 116=>some []
 | 117=>some []
 | 118=>some []
 | 119=>some []
 | 121=>some [.str []]
 | 123=>some [.str [],.bool false]
 | 125=>some [.str []]
 | 127=>some [.str [],.nilsl]
 | 129=>some [.nilsl,.str []]
 | 147=>some [.str []]
 | 131=>some [.nilif,.byt 0,.nilif]
 | _=>none
noncomputable def Qiq (T:TypeId):Option (List SV):=((zf.info? T).bind (·.zero)).map fun v=>v.cells.toList.map cv0
theorem QrH {T:TypeId} {l:List SV} (h:zt T=some l):Qiq T=some l:=by
 unfold zt at h
 split at h<;>first | (cases h;done) | (cases h;kernel_rfl)
theorem QtC {T:TypeId} {l:List SV} (h:zt T=some l):∃i z,zf.info? T=some i/\i.zero=some z/\z.cells.toList.map cv0=l:=by
 have hf:=QrH h
 unfold Qiq at hf
 cases hi:zf.info? T with
 | none=>rw[hi]at hf;cases hf
 | some i=>
  rw[hi]at hf
  cases hz:i.zero with
  | none=>simp[hz]at hf
  | some z=>simp[hz]at hf;exact⟨i,z,rfl,hz,hf⟩
theorem QpB {T:TypeId} {i:TypeInfo} {z:Value} (hi:zf.info? T=some i) (hz:i.zero=some z) (w:World):(zeroValue T).run zf w=.ok z w:=by
 simp[zeroValue,typeInfo,hi,hz]
theorem QlP {ω:Wit} {vs:Array Value} {l:List SV} (h:vs.toList.map cv0=l):vs.size=l.length/\∀(i:Nat) (s:SV) (u:Value),l[i]? = some s->vs[i]? = some u->Rel ω s u:=by
 subst h
 refine⟨by simp,fun i s u h1 h2=>?_⟩
 have h3:vs.toList[i]? = some u:=by simpa using h2
 rw[zC,h3]at h1
 simp only[zK,Option.some.injEq]at h1
 subst h1
 exact Qhh ω u
def pl:TypeId->Option (List (Nat×Nat))
 | 33=>some [(0,1),(1,1),(2,1),(3,1),(4,1),(5,1),(6,1),(7,1)]
 | 46=>some [(0,1),(1,1),(2,1),(3,1),(4,1)]
 | 62=>some [(0,1),(1,1),(2,1)]
 | 94=>some [(0,1),(1,1),(2,1),(3,1)]
 | 76=>some [(0,1),(1,1),(2,1),(3,1),(4,1),(5,1),(6,1),(7,1),(8,1),(9,1),(10,1)]
 | 99=>some [(0,1)]
 | 101=>some [(0,1)]
 | 103=>some [(0,1)]
 | 105=>some [(0,1),(1,1),(2,1),(3,1)]
 | 109=>some [(0,0),(0,1),(1,1),(2,1),(3,1)]
 | 111=>some [(0,0),(0,1)]
 | 113=>some [(0,0)]
 | 114=>some [(0,0)]
 | 115=>some [(0,0)]
 | 116=>some [(0,0)]
 | 117=>some [(0,0)]
 | 118=>some [(0,0)]
 | 119=>some [(0,0)]
 | 121=>some [(0,0),(0,1)]
 | 123=>some [(0,0),(0,1),(1,1)]
 | 125=>some [(0,1)]
 | 127=>some [(0,1),(1,1)]
 | 129=>some [(0,1),(1,1)]
 | 147=>some [(0,1)]
 | 131=>some [(0,1),(1,1),(2,1)]
 | _=>none
noncomputable def Qgh (T:TypeId):Option (List (Nat×Nat)):=
 (zf.underlying T).bind fun d=>match d with
  | .struct fields=>fields.toList.mapM (fun f=>(zf.info? f.type).map fun i=>(f.offset,i.size))
  | _=>none
theorem Qsl {T:TypeId} {l:List (Nat×Nat)} (h:pl T=some l):Qgh T=some l:=by
 unfold pl at h
 split at h<;>first | (cases h;done) | (cases h;kernel_rfl)
def flat:SV->Bool
 | .int _ _=>true
 | .bool _=>true
 | .str _=>true
 | .ptr _ _=>true
 | .nilptr=>true
 | .iface _ _=>true
 | .nilif=>true
 | .ifx=>true
 | .nilsl=>true
 | .sl _=>true
 | .cp _=>true
 | .rp _ _ _ _=>true
 | .cs _=>true
 | .nat _=>true
 | .byt _=>true
 | _=>false
theorem Qbx {ω:Wit} {s:SV} {v:Value} (h:Rel ω s v) (hf:flat s=true):v.cells = #[v]:=by
 cases h<;>first | rfl | (simp[flat]at hf;done) | skip
 rename_i x h
 unfold CSel.enc at h
 cases h
 rfl
def Qbr (l:List (Nat×Nat)) (i:Nat):Option Nat:=
 match l,i with
 | (o,n)::_,0=>if n=1 then some o else none
 | _::l,i+1=>Qbr l i
 | [],_=>none
theorem Qgi:∀{l:List (Nat×Nat)} {i o:Nat},Qbr l i=some o->l[i]? = some (o,1)
 | [],i,o,h=>by cases i<;>simp[Qbr]at h
 | (p,n)::l,0,o,h=>by
  simp only[Qbr]at h
  split at h
  rename_i hn;subst hn;simpa using h
  cases h
 | x::l,i+1,o,h=>by simp only[Qbr]at h;simpa using Qgi h
def JU (f:Nat->Option Nat):List SV->List (Nat×SV)->Option (List SV)
 | cs,[]=>some cs
 | cs,(i,s)::r=>match f i with
  | some off=>if off<cs.length/\flat s=true then JU f (cs.set off s) r else none
  | none=>none
theorem Qd2 {ω:Wit} {f:Nat->Option Nat} {p:Nat->Option (Nat×Nat)} (hp:∀i o,f i=some o->p i=some (o,1)):∀(ps:List (Nat×SV)) (vs:List (Nat×Value)) (cs:List SV) (c:Array Value),
 (ps.length=vs.length)->(∀(i:Nat) (x:Nat×SV) (y:Nat×Value),ps[i]? = some x->vs[i]? = some y->x.1=y.1/\Rel ω x.2 y.2) ->
 (c.size=cs.length/\∀(i:Nat) (s:SV) (u:Value),cs[i]? = some s->c[i]? = some u->Rel ω s u)->∀cs',JU f cs ps=some cs' ->
 ∃c',Instr.fill p c vs=some c'/\c'.size=cs'.length/\∀(i:Nat) (s:SV) (u:Value),cs'[i]? = some s->c'[i]? = some u->Rel ω s u
 | [],[],cs,c,_,_,hc,cs',h=>by
  simp only[JU,Option.some.injEq]at h
  subst h
  exact⟨c,rfl,hc⟩
 | [],y::vs,_,_,hl,_,_,_,_=>by simp at hl
 | x::ps,[],_,_,hl,_,_,_,_=>by simp at hl
 | (i,s)::ps,(i',v)::vs,cs,c,hl,hr,hc,cs',h=>by
  obtain⟨e,hsv⟩:=hr 0 (i,s) (i',v) rfl rfl
  simp only at e hsv
  subst e
  simp only[JU]at h
  split at h
  rename_i off hf
  split at h
  rename_i hlt
  obtain⟨hlt,hflat⟩:=hlt
  have hcell:=Qbx hsv hflat
  have hstep:Instr.fill p c ((i,v)::vs)=Instr.fill p (c.setIfInBounds off v) vs:=by
   have hz:v.cells.size=1:=by rw[hcell];rfl
   have hfold:(v.cells.zipIdx.foldl (fun cs (c,j)=>cs.setIfInBounds (off+j) c) c)=c.setIfInBounds off v:=by rw[hcell];rfl
   simp only[Instr.fill,hp i off hf]
   have hcs:=hc.1
   have hn:¬((decide (v.cells.size≠1)||decide (off+v.cells.size>c.size))=true):=by rw[hz];simp;omega
   have hfold':Array.foldl (fun cs x=>cs.setIfInBounds (off+x.snd) x.fst) c v.cells.zipIdx=c.setIfInBounds off v:=hfold
   rw[if_neg hn,hfold']
  rw[hstep]
  refine Qd2 hp ps vs (cs.set off s) _ (by simpa using hl) (fun j x y h1 h2=>hr (j+1) x y (by simpa using h1) (by simpa using h2)) ⟨by simp[hc.1],fun j t u h1 h2=>?_⟩ cs' h
  by_cases hj:off=j
  subst hj
  rw[List.getElem?_set_self hlt]at h1
  rw[Array.getElem?_setIfInBounds_self_of_lt (by omega)]at h2
  cases h1;cases h2
  exact hsv
  rw[xn hj]at h1
  rw[zH hj]at h2
  exact hc.2 j t u h1 h2
  cases h
  cases h
def Qov (n:Nat) (i:Nat):Option Nat:=if i<n then some i else none
def Qft (T:TypeId) (ps:List (Nat×SV)) (K:SV->Prop):Prop:=
 if T=227 then match JU (Qov 2) [.bool false,.bool false] ps with
  | some cs=>K (.agg cs)
  | none=>False
 else match zt T,pl T with
  | some z,some p=>match JU (Qbr p) z ps with
   | some cs=>K (.agg cs)
   | none=>False
  | _,_=>False
theorem u227:zf.underlying 227=some (.array 2 4):=by kernel_rfl
theorem z227:(zf.info? 227).bind (·.zero)=some (.agg #[.bool false,.bool false]):=by kernel_rfl
theorem i4:∃i,zf.info? 4=some i/\i.size=1:=QhO (by kernel_rfl)
theorem QjJ {ω:Wit} {T:TypeId} {ps:List (Nat×SV)} {vs:Array (Nat×Value)} (hl:ps.length=vs.toList.length)
 (hr:∀(i:Nat) (x:Nat×SV) (y:Nat×Value),ps[i]? = some x->vs.toList[i]? = some y->x.1=y.1/\Rel ω x.2 y.2) {K:SV->Prop} (h:Qft T ps K) (w:World) :
 ∃s v,K s/\Rel ω s v/\(Instr.build T vs).run zf w=.ok v w:=by
 unfold Qft at h
 split at h
 rename_i hT
 subst hT
 split at h
 rename_i cs hb
 obtain⟨i,hi,hsz⟩:=i4
 obtain⟨it,hit,hz⟩:=Option.bind_eq_some_iff.1 z227
 obtain⟨c',h1,h2,h3⟩:=Qd2 (ω:=ω) (p:=fun i=>some (i*1,1)) (fun i o e=>by
  unfold Qov at e
  split at e
  cases e;simp
  cases e) ps vs.toList _ #[.bool false,.bool false] hl hr ⟨rfl,fun j s u e1 e2=>by
  match j with
  | 0=>simp at e1 e2;rw[<-e1,<-e2];exact .bool _
  | 1=>simp at e1 e2;rw[<-e1,<-e2];exact .bool _
  | j+2=>simp at e1⟩ cs hb
 refine⟨_,.agg c',h,.agg _ _ h2 h3,run_build w 227 vs c' ?_⟩
 unfold Program.built
 rw[hit,u227]
 simp only[hz,hi,hsz]
 exact h1
 exact h.elim
 split at h
 rename_i z p hz hp
 split at h
 rename_i cs hb
 obtain⟨it,zv,hit,hzv,hzc⟩:=QtC hz
 have hpf:=Qsl hp
 unfold Qgh at hpf
 cases hu:zf.underlying T with
 | none=>rw[hu]at hpf;cases hpf
 | some d=>
  rw[hu]at hpf
  simp only[zQ]at hpf
  cases d<;>simp only[reduceCtorEq]at hpf
  rename_i fields
  obtain⟨c',h1,h2,h3⟩:=Qd2 (ω:=ω) (p:=fun i=>p.toArray[i]?) (fun i o e=>by
   have:=Qgi e
   simpa using this) ps vs.toList _ zv.cells hl hr (QlP hzc) cs hb
  refine⟨_,.agg c',h,.agg _ _ h2 h3,run_build w T vs c' ?_⟩
  unfold Program.built
  rw[hit,hu]
  simp only[hzv,hpf]
  exact h1
 exact h.elim
 exact h.elim
end
section
open Go Go.RowKit
def arg (e:Env) (x:Operand) (K:SV->Prop):Prop:=cnd (ev e x)/\K (unw (ev e x))
def nilcK (s:SV) (K:SV->Prop):Prop:=
 match s with
 | .ptr r o=>K (.ptr r o)
 | .cp l=>K (.cp l)
 | .rp r i z o=>K (.rp r i z o)
 | _=>False
def faK (T k:Nat) (s:SV) (K:SV->Prop):Prop:=
 match fo T k with
 | some off=>match s with
  | .ptr r o=>K (.ptr r (o+off))
  | .cp l=>off<=l.length/\K (.cp (l.drop off))
  | .rp r i z o=>K (.rp r i z (o+off))
  | _=>False
 | none=>False
def cndO (e:Env):Option Operand->Prop
 | some x=>cnd (ev e x)
 | none=>True
def callQ (S:SS) (c:Call) (K:SV->Prop):Prop:=
 match c.callee with
 | .builtin .len=>match c.args.toList,c.argTypes.toList with
  | [x],[T]=>arg S.env x (Qp8 S.heap T · K)
  | _,_=>False
 | .builtin .min=>match c.args.toList with
  | [x,y]=>arg S.env x fun sx=>arg S.env y fun sy=>minK sx sy K
  | _=>False
 | .builtin .max=>match c.args.toList with
  | [x,y]=>arg S.env x fun sx=>arg S.env y fun sy=>maxK sx sy K
  | _=>False
 | _=>False
def qv (S:SS):Op->(SV->Prop)->Prop
 | .move x,K=>K (ev S.env x)
 | .assign x,K=>K (ev S.env x)
 | .pick c a b,K=>arg S.env c fun sc=>QpQ sc (ev S.env a) (ev S.env b) K
 | .binOp op T x y _,K=>arg S.env x fun sx=>arg S.env y fun sy=>Qrj S.heap op T (isC x||isC y) sx sy K
 | .unOp op _ x,K=>arg S.env x fun s=>unK op s K
 | .convert s d x,K=>arg S.env x fun u=>convK S.heap s d u K
 | .nilCheck x,K=>arg S.env x fun s=>nilcK s K
 | .fieldAddr T x k,K=>arg S.env x fun s=>faK T k s K
 | .load T x,K=>arg S.env x fun s=>Qbd S.heap T s K
 | .indexAddr T x i,K=>arg S.env x fun sx=>arg S.env i fun si=>Qqp S.heap T sx si K
 | .index T x i,K=>T=9/\arg S.env x fun sx=>arg S.env i fun si=>QoY sx si K
 | .slice T x lo hi mx,K=>mx.isNone=true/\cndO S.env lo/\cndO S.env hi/\arg S.env x fun s=>Qg2 T s (lo.map fun o=>unw (ev S.env o)) (hi.map fun o=>unw (ev S.env o)) K
 | .extract x i,K=>arg S.env x fun s=>Qq0 s i K
 | .makeInterface T x,K=>arg S.env x fun s=>QeO T s K
 | .build T ps,K=>Qft T (ps.toList.map fun p=>(p.1,ev S.env p.2)) K
 | .typeAssert x _ A ok,K=>ok=true/\arg S.env x fun s=>taK s A K
 | .call c,K=>callQ S c K
 | _,_=>False
section
variable {g0:Glob} {w0:World} {M:Nat->Prop} {ω:Wit} {S:SS} {a:Act} {w:World}
theorem Sim.arg (h:Sim g0 w0 M ω S a w) {x:Operand} {K:SV->Prop} (hk:arg S.env x K):∃s,K s/\Rel ω s (a.eval x):=⟨_,hk.2,J2 (h.ev x) hk.1⟩
theorem fa_ok {T k:Nat} {s:SV} {u:Value} (hr:Rel ω s u) {K:SV->Prop} (h:faK T k s K) (w:World):∃s' v,K s'/\Rel ω s' v/\(Instr.fieldAt T u k).run zf w=.ok v w:=by
 unfold faK at h
 split at h
 rename_i off hf
 split at h
 rename_i r o
 obtain⟨rfl,hlt⟩:=hr.ptr_inv
 exact⟨_,_,h,.ptr _ _ hlt,Qah hf _ _ w⟩
 rename_i l
 obtain⟨b,o,vs,T',rfl,h1,h2,h3⟩:=hr.cp_inv
 refine⟨_,_,h.2,.cp _ b (o+off) vs T' h1 (by rw[zR];have:=h.1;omega) fun j s v e1 e2=>?_,Qah hf _ _ w⟩
 rw[List.getElem?_drop]at e1
 exact h3 (off+j) s v e1 (by rw[<-e2,xe])
 rename_i r i z o
 obtain⟨rfl,hlt⟩:=hr.rp_inv
 refine⟨_,_,h,?_,Qah hf _ _ w⟩
 rw[xe]
 exact .rp _ _ _ _ hlt
 exact h.elim
 exact h.elim
theorem Zn {s:Sem Value} {w:World} {v:Value} (h:s.run zf w=.ok v w):(do pure (Next.value (<- s)):Sem Next).run zf w=.ok (.value v) w:=by
 rw[zp,h];rfl
end
end
end Go.Proofs.YtengepcafdnalaaGreatDoor
