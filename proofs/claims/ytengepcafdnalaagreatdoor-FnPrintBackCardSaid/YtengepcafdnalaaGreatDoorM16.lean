/-
  Parts of the proof that the law FnPrintBack holds for every input (texts Ew, Ex, Ey). Conditions: none.
-/
import Derived.Test.YtengepcafdnalaaGreatDoorM15
import Derived.Deep.Quiet
namespace Go.Proofs.YtengepcafdnalaaGreatDoor
open _root_.Array renaming range → xw
open _root_.Bool renaming and_eq_true → zk, or_eq_true → zx
open _root_.List renaming getElem?_map → zC, mem_cons_self → xc, getD_eq_getElem?_getD → zd, getElem?_cons_zero → zB
open _root_.Nat renaming add_assoc → xe, le_refl → zm, zero_add → xj
open _root_.Option renaming map_some → zK
open Go.Result renaming andThen_ok → zn
open Go.Sem renaming run_bind → zp, run_pure → xa
open Go.Proofs.Tryz renaming prog → zf
section
open Go Go.RowKit
def bsq (T n:Nat) (ps:List (Nat×SV)):Option RV:=
 if (ps.map (·.1)=List.range' 0 n/\0<n/\n<=1000)/\SV.lts 0 (ps.map (·.2))=true then Qhg T (ps.map (·.2)) else none
def Qhu (T n:Nat) (ps:List (Nat×SV)):Bool:=
 match ps with
 | [(0,.nilif)]=>T==50&&n==1
 | _=>false
def qr (S:SS) (op:Op):SV:=
 match qe S op with
 | some (_,v)=>v
 | none=>.undef
def qp (S:SS) (op:Op):Prop:=
 match qe S op with
 | some (ps,_)=>Yj ps
 | none=>False
def Qba (e:Env) (l:List Operand):List SV:=l.map fun x=>unw (ev e x)
def JT (hp:Heap) (p:List SV->Option SB->Prop) (svs:List SV):Prop:=
 match svs with
 | .ptr r 0::rest=>match hlk hp r with
  | some (.blk T l)=>SV.lts 0 rest=true/\SV.lts 0 l=true/\p (.ptr 0 0::rest) (some (.blk T l))
  | _=>False
 | svs=>SV.lts 0 svs=true/\p svs none
def Qqm:Option SB->Prop
 | some (.blk _ _)=>True
 | _=>False
def Qme:Out->Prop
 | .val _=>True
 | .row _=>False
def outV:Out->SV
 | .val s=>s
 | .row _=>.undef
def Qh4 (D:Cx) (hp:Heap) (k:Nat) (svs:List SV):Prop:=
 match clk D k with
 | some (.pure f)=>JT hp (Qb6 f) svs
 | some (.fn f)=>JT hp (fnP f) svs/\Qme (fnO f (Yv hp svs).1 (Yv hp svs).2)/\((Yv hp svs).2.isSome=true->Qqm (fnB f (Yv hp svs).1 (Yv hp svs).2))
 | _=>False
def Qff (D:Cx) (hp:Heap) (k:Nat) (svs:List SV):SV:=
 match clk D k with
 | some (.pure f)=>Qb5 f (Yv hp svs).1 (Yv hp svs).2
 | some (.fn f)=>outV (fnO f (Yv hp svs).1 (Yv hp svs).2)
 | _=>.undef
def hptO (hp:Heap) (r:Nat):Option SB->Heap
 | some c=>hpt hp r c
 | none=>hp
def hpC (hp:Heap) (svs:List SV) (c:Option SB):Heap:=
 match svs with
 | .ptr r 0::_=>hptO hp r c
 | _=>hp
def Qfi (D:Cx) (hp:Heap) (k:Nat) (svs:List SV):Heap:=
 match clk D k with
 | some (.fn f)=>hpC hp svs (fnB f (Yv hp svs).1 (Yv hp svs).2)
 | _=>hp
def stC (hp:Heap) (T:TypeId) (sa sx:SV):Prop:=
 match sa with
 | .ptr r o=>match hlk hp r,Jk sx,shp T with
  | some (.blk _ l),some m,some (_,z)=>m.length=z/\o+z<=l.length/\m.all flat=true
  | _,_,_=>False
 | _=>False
def stH (hp:Heap) (sa sx:SV):Heap:=
 match sa with
 | .ptr r o=>match hlk hp r,Jk sx with
  | some (.blk T' l),some m=>hpt hp r (.blk T' (QaE l o m))
  | _,_=>hp
 | _=>hp
def dv (D:Cx) (S:SS) (op:Op):SV:=
 match op with
 | .alloc _=>.ptr S.nx 0
 | .store _ _ _=>.undef
 | .buildSlice T n ps=>match bsq T n (ps.toList.map fun p=>(p.1,ev S.env p.2)) with
  | some x=>.sl x
  | none=>.undef
 | .call c=>match c.callee with
  | .value f=>match QdB (ev S.env f) with
   | some k=>Qff D S.heap k (Qba S.env c.args.toList)
   | none=>.undef
  | .invoke r m=>match QnT D S r m c.args.toList with
   | some (_,v)=>v
   | none=>.undef
  | _=>qr S (.call c)
 | op=>qr S op
def dh (D:Cx) (S:SS) (op:Op):Heap×Nat:=
 match op with
 | .alloc T=>match zt T with
  | some z=>((S.nx,.blk T z)::S.heap,S.nx+1)
  | none=>(S.heap,S.nx)
 | .store _ x y=>(stH S.heap (unw (ev S.env x)) (unw (ev S.env y)),S.nx)
 | .call c=>match c.callee with
  | .value f=>match QdB (ev S.env f) with
   | some k=>(Qfi D S.heap k (Qba S.env c.args.toList),S.nx)
   | none=>(S.heap,S.nx)
  | _=>(S.heap,S.nx)
 | _=>(S.heap,S.nx)
def dc (D:Cx) (S:SS) (op:Op):Prop:=
 match op with
 | .alloc T=>(zt T).isSome=true
 | .store T x y=>cnd (ev S.env x)/\cnd (ev S.env y)/\stC S.heap T (unw (ev S.env x)) (unw (ev S.env y))
 | .buildSlice T n ps=>((bsq T n (ps.toList.map fun p=>(p.1,ev S.env p.2))).isSome||Qhu T n (ps.toList.map fun p=>(p.1,ev S.env p.2)))=true
 | .call c=>match c.callee with
  | .value f=>match QdB (ev S.env f) with
   | some k=>QfR S.env c.args.toList/\Qh4 D S.heap k (Qba S.env c.args.toList)
   | none=>False
  | .invoke r m=>cnd (ev S.env r)/\match QnT D S r m c.args.toList with
   | some (ps,_)=>Yj ps
   | none=>False
  | _=>qp S (.call c)
 | op=>qp S op
section
variable {g0:Glob} {w0:World} {M:Nat->Prop} {ω:Wit} {S:SS} {a:Act} {w:World}
theorem Qaj:∀(l:List SV) (S:SS),SV.lts 0 l=true->pubS S l=(l,S)
 | [],S,_=>rfl
 | s::l,S,h=>by
  simp only[SV.lts,zk]at h
  have h1:pubS1 S s=(s,S):=by
   cases s<;>first | rfl | (simp[SV.lt]at h)
  simp only[pubS,h1,Qaj l S h.2]
theorem Qqy {hp:Heap} {r:Nat} {b:SB} (h:hlk hp r=some b):hpt hp r b=hp:=by
 induction hp with
 | nil=>rfl
 | cons x hp ih=>
  obtain⟨q,c⟩:=x
  simp only[hlk]at h
  simp only[hpt]
  split at h
  rename_i hq;cases h;rw[if_pos hq]
  rename_i hq;rw[if_neg hq,ih h]
theorem QfZ (svs:List SV):(∃r rest,svs=.ptr r 0::rest)\/∀r rest,svs ≠ .ptr r 0::rest:=by
 match svs with
 | .ptr r 0::rest=>exact .inl ⟨r,rest,rfl⟩
 | []=>exact .inr fun _ _ h=>by cases h
 | .ptr r (n+1)::rest=>exact .inr fun _ _ h=>by cases h
 | .undef::_ | .int _ _::_ | .bool _::_ | .str _::_ | .nilptr::_ | .agg _::_ | .tup _::_ | .iface _ _::_ | .nilif::_ | .ifx::_ | .nilsl::_
 | .sl _::_ | .cp _::_ | .own _::_ | .rp _ _ _ _::_ | .cs _::_ | .gd _ _::_ | .op _::_ | .nat _::_ | .byt _::_ | .gk _ _ _::_=>exact .inr fun _ _ h=>by cases h
theorem JP {hp:Heap} {svs:List SV} (h:∀r rest,svs ≠ .ptr r 0::rest):Yv hp svs=(svs,none):=by
 unfold Yv
 split
 exact absurd rfl (h _ _)
 rfl
theorem Qqz {hp:Heap} {svs:List SV} (h:∀r rest,svs ≠ .ptr r 0::rest) (c:Option SB):hpC hp svs c=hp:=by
 unfold hpC
 split
 exact absurd rfl (h _ _)
 rfl
theorem J9 {hp:Heap} {p:List SV->Option SB->Prop} {svs:List SV} (h:∀r rest,svs ≠ .ptr r 0::rest):JT hp p svs=(SV.lts 0 svs=true/\p svs none):=by
 unfold JT
 split
 exact absurd rfl (h _ _)
 rfl
theorem Qfn {S:SS} {P:Spec} {svs:List SV} (h:∀r rest,svs ≠ .ptr r 0::rest) (K:SV->SS->Prop):U1 S P svs K=(SV.lts 0 (pubS S svs).1=true/\P (pubS S svs).1 none fun o _=>Uq (pubS S svs).2 o K):=by
 unfold U1
 split
 exact absurd rfl (h _ _)
 rfl
theorem QmZ {l:List Prop} {q:Prop} (h:Yj l) (hq:q):QdE l q:=by
 induction l with
 | nil=>exact hq
 | cons p l ih=>exact⟨h.1,ih h.2⟩
theorem QiS {f:List SV->Option SB->QR} {svs:List SV} {b:Option SB} {K:Out->Option SB->Prop} (h:Qb6 f svs b) (hk:K (.val (Qb5 f svs b)) b):Qz f svs b K:=by
 unfold Qb6 at h
 unfold Qb5 at hk
 unfold Qz
 cases e:f svs b with
 | none=>rw[e]at h;exact h.elim
 | some r=>rw[e]at h hk;exact QmZ h hk
theorem QqW {f:List SV->Option SB->FR} {svs:List SV} {b:Option SB} {K:Out->Option SB->Prop} (h:fnP f svs b) (hk:K (fnO f svs b) (fnB f svs b)):fnS f svs b K:=by
 unfold fnP at h
 unfold fnO fnB at hk
 unfold fnS
 cases e:f svs b with
 | none=>rw[e]at h;exact h.elim
 | some r=>rw[e]at h hk;exact QmZ h hk
theorem Qdv {f:List SV->Option SB->QR} {svs:List SV} (h:JT S.heap (Qb6 f) svs) :
 U1 S (Qz f) svs fun s S'=>s=Qb5 f (Yv S.heap svs).1 (Yv S.heap svs).2/\S'=S:=by
 rcases QfZ svs with ⟨q,rest,rfl⟩ | hne
 simp only[JT]at h
 split at h
 rename_i T l hl
 obtain⟨h1,h2,h3⟩:=h
 simp only[U1,Qaj _ S h1,hl,Yv]
 refine⟨h1,h2,QiS h3 ?_⟩
 simp only[Uq]
 rw[Qqy hl]
 exact⟨trivial,rfl⟩
 exact h.elim
 rw[J9 hne]at h
 rw[Qfn hne,Qaj _ S h.1,JP hne]
 exact⟨h.1,QiS h.2 ⟨rfl,rfl⟩⟩
theorem Qok {f:List SV->Option SB->FR} {svs:List SV} (h:JT S.heap (fnP f) svs)
 (hv:Qme (fnO f (Yv S.heap svs).1 (Yv S.heap svs).2)) (hb:(Yv S.heap svs).2.isSome=true->Qqm (fnB f (Yv S.heap svs).1 (Yv S.heap svs).2)) :
 U1 S (fnS f) svs fun s S'=>s=outV (fnO f (Yv S.heap svs).1 (Yv S.heap svs).2) /\
  S'=⟨S.env,hpC S.heap svs (fnB f (Yv S.heap svs).1 (Yv S.heap svs).2),S.nx⟩:=by
 rcases QfZ svs with ⟨q,rest,rfl⟩ | hne
 simp only[JT]at h
 cases hl:hlk S.heap q with
 | none=>rw[hl]at h;exact h.elim
 | some c=>
  cases c with
  | row x app=>rw[hl]at h;exact h.elim
  | blk T l=>
   rw[hl]at h
   obtain⟨h1,h2,h3⟩:=h
   simp only[Yv,hl]at hv hb ⊢
   simp only[U1,Qaj _ S h1,hl]
   refine⟨h1,h2,QqW h3 ?_⟩
   have hb':=hb rfl
   unfold Qqm at hb'
   split at hb'
   rename_i T' l' e
   rw[e]
   unfold Qme at hv
   split at hv
   rename_i s e'
   rw[e']
   exact⟨rfl,rfl⟩
   exact hv.elim
   exact hb'.elim
 rw[J9 hne]at h
 rw[JP hne]at hv
 rw[Qfn hne,Qaj _ S h.1,JP hne,Qqz hne]
 refine⟨h.1,QqW h.2 ?_⟩
 unfold Qme at hv
 split at hv
 rename_i s e'
 rw[e']
 exact⟨rfl,rfl⟩
 exact hv.elim
theorem Qoe {D:Cx} {k:Nat} {svs:List SV} (h:Qh4 D S.heap k svs) :
 Qbf D S k svs fun s S'=>s=Qff D S.heap k svs/\S'=⟨S.env,Qfi D S.heap k svs,S.nx⟩:=by
 unfold Qh4 at h
 unfold Qbf Qff Qfi
 split at h
 rename_i f hc
 simp only[hc]
 exact Qfq (Qdv h)
 rename_i f hc
 simp only[hc]
 exact Qfq (Qok h.1 h.2.1 h.2.2)
 exact h.elim
theorem QnN (hS:Sim g0 w0 M ω S a w) {o:Oper} {T n:Nat} {ps:Array (Nat×Operand)} (ho:o.op=.buildSlice T n ps) (hx:Qhu T n (ps.toList.map fun p=>(p.1,ev S.env p.2))=true) {Q:Exit->Act->World->Prop} :
 o.wp zf a w (Nx g0 w0 M fun S''=>S''=YtengepcafdnalaaGreatDoor.putD S o.dst .undef) Q:=by
 unfold Qhu at hx
 split at hx
 rename_i e
 obtain⟨ps⟩:=ps
 simp only[List.map_eq_cons_iff,List.map_eq_nil_iff,Prod.mk.injEq]at e
 obtain⟨⟨i,x⟩,l,rfl,⟨rfl,e⟩,rfl⟩:=e
 simp only[zk,beq_iff_eq]at hx
 obtain⟨rfl,rfl⟩:=hx
 dsimp only at e
 have hv:a.eval x=.nilIface:=by
  have h1:=hS.ev x
  rw[e]at h1
  generalize a.eval x=v at h1
  cases h1;rfl
 obtain⟨hu,ie,hie,hsz⟩:=Qac (T:=50) rfl
 obtain⟨ie',z,hie',hz,hzs,hz0,hzb⟩:=QmC (E:=56) rfl
 rw[hie]at hie'
 cases hie'
 have hrun:=run_buildSlice (P:=zf) w 50 56 1 #[(0,.nilIface)] #[.nilIface] ie z hu hie hz (by rw[hsz];omega) (by rw[hsz];omega) (by
  rw[hsz]
  have e3:((xw (1*1)).map (z.cells[· % z.cells.size]!)) = #[z.cells[0%z.cells.size]!]:=by
   apply Array.ext
   simp
   intro i h1 h2
   have:i=0:=by simpa using h2
   subst this
   simp
  rw[e3]
  simp[Instr.fill,Value.cells])
 have hg:=hS.grow (w':=w.alloc (.cells #[.nilIface] 56)) (Wit.le.refl ω) rfl rfl rfl (by rw[QbG];omega) (fun k hk=>QbH w _ hk) (fun b c T e=>.inl e)
 rw[hS.wn]at hg
 have:(execOp a.eval o).run zf w=.ok (.value (.slice (some ⟨w.heap.size,0,none⟩) 1 1)) (w.alloc (.cells #[.nilIface] 56)):=by
  unfold execOp
  rw[ho]
  have e2:(#[(0,x)]:Array (Nat×Operand)).map (fun p=>(p.1,a.eval p.2)) = #[(0,.nilIface)]:=by simp[hv]
  rw[<-e2]at hrun
  show Sem.run zf (do pure (Next.value (<- Instr.buildSlice 50 1 (#[(0,x)].map fun (p:Nat×Operand)=>(p.1,a.eval p.2))))) w=_
  simp only[zp,hrun,zn,xa]
 unfold Oper.wp
 rw[this,Oper.upon_value]
 exact⟨ω,_,rfl,hg.putD (.undef _) _⟩
 cases hx
theorem Qx5 (hS:Sim g0 w0 M ω S a w) {o:Oper} {T n:Nat} {ps:Array (Nat×Operand)} (ho:o.op=.buildSlice T n ps) {x:RV} (hx:bsq T n (ps.toList.map fun p=>(p.1,ev S.env p.2))=some x) {Q:Exit->Act->World->Prop} :
 o.wp zf a w (Nx g0 w0 M fun S''=>S''=YtengepcafdnalaaGreatDoor.putD S o.dst (.sl x)) Q:=by
 unfold bsq at hx
 split at hx
 rename_i hc
 obtain⟨h1,h2⟩:=hc
 have hst:=Qem hS
 have hpl:∀(l:List SV),SV.lts 0 l=true->pubL [] l=(l,[]):=by
  intro l
  induction l with
  | nil=>intro _;rfl
  | cons s l ih=>
   intro hl
   simp only[SV.lts,zk]at hl
   have h1:pub1 [] s=(s,[]):=by cases s<;>rfl
   simp only[pubL,h1,ih hl.2]
 have hb:=QgR hst (T:=T) (n:=n) (ps:=ps.toList.map fun p=>(p.1,YtengepcafdnalaaGreatDoor.ev S.env p.2)) (vs:=ps.map fun (i,x)=>(i,a.eval x)) (by simp) (fun i x y e1 e2=>by
  have hi:(ps.toList.map fun p=>(p.1,YtengepcafdnalaaGreatDoor.ev S.env p.2).2)[i]? = some x.2:=by
   simp only[zC]at e1 ⊢
   cases hp:ps.toList[i]? with
   | none=>rw[hp]at e1;cases e1
   | some p=>rw[hp]at e1;simp at e1 ⊢;rw[<-e1]
  have hlow:x.2.lt 0=true:=SV.lts_get h2 i x.2 (by simpa using hi)
  rw[zC]at e1
  rw[Array.toList_map,zC]at e2
  cases hp:ps.toList[i]? with
  | none=>rw[hp]at e1;cases e1
  | some p=>
   rw[hp]at e1 e2
   simp only[zK,Option.some.injEq]at e1 e2
   subst e1;subst e2
   exact⟨rfl,V0 hlow (hS.ev p.2) rfl⟩) (K:=fun s S'=>s=.own 1/\S'=⟨[],[(1,.row x true)],2⟩) (by
   refine⟨h1.1,h1.2.1,h1.2.2,?_⟩
   have e:(loc none).heap=[]:=rfl
   rw[e,hpl _ h2,hx]
   exact⟨rfl,rfl⟩)
 obtain⟨ω',s',S',w',v,⟨rfl,rfl⟩,k2,k3,k4⟩:=hb
 obtain⟨ω2,q1,q2,q3,q4⟩:=k2.pub (r:=1) (x:=x) (app:=true) rfl
 obtain⟨l2,hbk⟩:=hS.back rfl q4 (fun k hk=>hk.elim)
 unfold Oper.wp
 have hrun:(execOp a.eval o).run zf w=.ok (.value v) w':=by
  unfold execOp
  rw[ho]
  exact (zp _ _ _ _).trans (by rw[k4];rfl)
 rw[hrun,Oper.upon_value]
 refine⟨_,_,rfl,hbk.putD ?_ _⟩
 rw[k3.own_inv.1]
 exact V0 (ω':=ω2) (by rfl) q3 rfl
 cases hx
theorem Qul {D:Cx} (hD:Qa D) (hS:Sim g0 w0 M ω S a w) {o:Oper} (h:dc D S o.op) {Q:Exit->Act->World->Prop} :
 o.wp zf a w (Nx g0 w0 M fun S''=>S''=YtengepcafdnalaaGreatDoor.putD ⟨S.env,(dh D S o.op).1,(dh D S o.op).2⟩ o.dst (dv D S o.op)) Q:=by
 have fin:∀{K:SV->SS->Prop},(∀s S',K s S'->s=dv D S o.op/\S'=⟨S.env,(dh D S o.op).1,(dh D S o.op).2⟩) ->
  o.wp zf a w (Nx g0 w0 M fun S''=>∃s S',K s S'/\S''=YtengepcafdnalaaGreatDoor.putD S' o.dst s) Q ->
  o.wp zf a w (Nx g0 w0 M fun S''=>S''=YtengepcafdnalaaGreatDoor.putD ⟨S.env,(dh D S o.op).1,(dh D S o.op).2⟩ o.dst (dv D S o.op)) Q:=by
  intro K hK hw
  refine Oper.wp_mono (fun a' w' ⟨ω',S'',⟨s,S',h1,h2⟩,h3⟩=>⟨ω',S'',?_,h3⟩) hw
  obtain⟨rfl,rfl⟩:=hK s S' h1
  exact h2
 have quiet:qp S o.op->dv D S o.op=qr S o.op->dh D S o.op=(S.heap,S.nx)->o.wp zf a w (Nx g0 w0 M fun S''=>S''=YtengepcafdnalaaGreatDoor.putD ⟨S.env,(dh D S o.op).1,(dh D S o.op).2⟩ o.dst (dv D S o.op)) Q:=by
  intro hq hd he
  rw[hd,he]
  unfold qp at hq
  unfold qr
  split at hq
  rename_i ps v e
  simp only[e]
  exact QtS hS e hq
  exact hq.elim
 obtain⟨op,hop⟩:∃op,o.op=op:=⟨_,rfl⟩
 rw[hop]at h
 cases op
 case alloc T=>
  simp only[dc]at h
  obtain⟨z,hz⟩:=Option.isSome_iff_exists.1 h
  refine fin (K:=fun s S'=>s=.ptr S.nx 0/\S'={ S with heap:=(S.nx,.blk T z)::S.heap,nx:=S.nx+1 }) (fun s S' ⟨k1,k2⟩=>by rw[hop];simp only[dv,dh,hz];exact⟨k1,k2⟩) (Qqx hS ?_)
  rw[hop]
  simp only[hv,Qfw,hz]
  exact⟨trivial,trivial⟩
 case store T x y=>
  simp only[dc]at h
  obtain⟨c1,c2,h⟩:=h
  refine fin (K:=fun s S'=>s=.undef/\S'={ S with heap:=stH S.heap (unw (ev S.env x)) (unw (ev S.env y)) }) (fun s S' ⟨k1,k2⟩=>by rw[hop];simp only[dv,dh];exact⟨k1,k2⟩) (Qqx hS ?_)
  rw[hop]
  simp only[hv]
  refine⟨c1,c2,?_⟩
  generalize unw (ev S.env x)=sa at *
  generalize unw (ev S.env y)=sx at *
  unfold stC at h
  split at h
  rename_i r q
  split at h
  rename_i T' l m b z e1 e2 e3
  simp only[Qeh,stH,e1,e2,e3]
  exact⟨h.1,h.2.1,h.2.2,trivial,trivial⟩
  exact h.elim
  exact h.elim
 case buildSlice T n ps=>
  simp only[dc]at h
  cases hx:bsq T n (ps.toList.map fun p=>(p.1,YtengepcafdnalaaGreatDoor.ev S.env p.2)) with
  | some x=>
   have:=Qx5 hS hop hx (Q:=Q)
   simp only[hop,dv,dh,hx]
   exact this
  | none=>
   rw[hx]at h
   have:=QnN hS hop (by simpa using h) (Q:=Q)
   simp only[hop,dv,dh,hx]
   exact this
 case call c=>
  obtain⟨callee,args,tys⟩:=c
  cases callee with
  | builtin b=>
   refine quiet ?_ (by rw[hop];rfl) (by rw[hop];rfl)
   rw[hop]
   exact h
  | invoke r m=>
   simp only[dc]at h
   obtain⟨hc,h⟩:=h
   split at h
   rename_i ps v hq
   obtain⟨g,x,s,h1,h2,h3,h4,h5,rfl⟩:=QnS hq
   exact fin (K:=fun s' S'=>s'=.str s/\S'=S) (fun s' S' ⟨k1,k2⟩=>by
    rw[hop];simp only[dv,dh,hq];exact⟨k1,k2⟩) (Qgu hD hS hop h1 hc h2 h3 h4 h5 h ⟨rfl,rfl⟩)
   exact h.elim
  | value f=>
   simp only[dc]at h
   split at h
   rename_i k hk
   obtain⟨h1,h2⟩:=h
   refine fin (K:=fun s S'=>s=Qff D S.heap k (Qba S.env args.toList)/\S'=⟨S.env,Qfi D S.heap k (Qba S.env args.toList),S.nx⟩) (fun s S' ⟨k1,k2⟩=>by
    rw[hop];simp only[dv,dh,hk];exact⟨k1,k2⟩) (QmU hD hS hop rfl hk h1 (Qoe h2))
   exact h.elim
 all_goals
  refine quiet ?_ (by rw[hop];rfl) (by rw[hop];rfl)
  rw[hop]
  exact h
end
end
section
open Go Go.RowKit
theorem Qdg {e1 e2:Env}:∀{l:List Operand},(∀x∈l,ev e1 x=ev e2 x)->Qba e1 l=Qba e2 l/\QfR e1 l=QfR e2 l
 | [],_=>⟨rfl,rfl⟩
 | x::l,h=>by
  obtain⟨h1,h2⟩:=Qdg (l:=l) fun y hy=>h y (List.mem_cons_of_mem _ hy)
  have hx:=h x (xc ..)
  simp only[Qba,List.map_cons,QfR,hx]at h1 ⊢
  exact⟨by rw[h1],by rw[h2]⟩
theorem Qdn {e1 e2:Env} {ps:Array (Nat×Operand)} (h:∀x∈(ps.toList.map (·.2)).toArray,ev e1 x=ev e2 x) :
 (ps.toList.map fun p=>(p.1,ev e1 p.2))=ps.toList.map fun p=>(p.1,ev e2 p.2):=by
 apply List.map_congr_left
 intro p hp
 rw[h p.2 (by simp;exact⟨p.1,by simpa using hp⟩)]
theorem QpG {e1 e2:Env} {h:Heap} {n:Nat} {op:Op} (he:∀x∈op.operands,ev e1 x=ev e2 x):qe ⟨e1,h,n⟩ op=qe ⟨e2,h,n⟩ op:=by
 cases op
 case call c=>
  obtain⟨callee,⟨l⟩,tys⟩:=c
  cases callee with
  | value f=>rfl
  | invoke r m=>rfl
  | builtin b=>
   simp only[Op.operands,Call.operands,Array.empty_append]at he
   rcases l with _ | ⟨x,_ | ⟨y,_ | ⟨z,l⟩⟩⟩
   cases b<;>rfl
   have hx:=he x (by simp)
   obtain⟨tl⟩:=tys
   rcases tl with _ | ⟨t,_ | ⟨t',tl⟩⟩<;>cases b<;>simp only[qe,QlV,hx]
   have hx:=he x (by simp)
   have hy:=he y (by simp)
   cases b<;>simp only[qe,QlV,hx,hy]
   cases b<;>rfl
 case slice T x lo hi mx=>
  have hx:=he x (by simp[Op.operands])
  have hlo:∀o,lo=some o->ev e1 o=ev e2 o:=fun o e=>he o (by simp[Op.operands,e])
  have hhi:∀o,hi=some o->ev e1 o=ev e2 o:=fun o e=>he o (by simp[Op.operands,e])
  cases lo with
  | none=>cases hi with
   | none=>simp only[qe,bo,hx]
   | some o=>simp only[qe,bo,hx,hhi o rfl]
  | some o'=>
   cases hi with
   | none=>simp only[qe,bo,hx,hlo o' rfl]
   | some o=>simp only[qe,bo,hx,hlo o' rfl,hhi o rfl]
 case build T ps=>
  have:=Qdn (e1:=e1) (e2:=e2) (ps:=ps) he
  simp only[qe,this]
 case pick c x y=>
  have h1:=he c (by simp[Op.operands])
  have h2:=he x (by simp[Op.operands])
  have h3:=he y (by simp[Op.operands])
  simp only[qe,h1,h2,h3]
 case binOp op T x y z=>
  have h1:=he x (by simp[Op.operands])
  have h2:=he y (by simp[Op.operands])
  simp only[qe,h1,h2]
 case indexAddr T x y=>
  have h1:=he x (by simp[Op.operands])
  have h2:=he y (by simp[Op.operands])
  simp only[qe,h1,h2]
 case index T x y=>
  have h1:=he x (by simp[Op.operands])
  have h2:=he y (by simp[Op.operands])
  simp only[qe,h1,h2]
 all_goals first | rfl | (rename_i x;have h1:=he x (by simp[Op.operands]);simp only[qe,h1];done) | (rename_i x _;have h1:=he x (by simp[Op.operands]);simp only[qe,h1];done) | (rename_i x _ _;have h1:=he x (by simp[Op.operands]);simp only[qe,h1];done) | (rename_i x _ _ _;have h1:=he x (by simp[Op.operands]);simp only[qe,h1];done)
theorem Qtl {D:Cx} {e1 e2:Env} {h:Heap} {n:Nat} {op:Op} (he:∀x∈op.operands,ev e1 x=ev e2 x) :
 dc D ⟨e1,h,n⟩ op=dc D ⟨e2,h,n⟩ op/\dv D ⟨e1,h,n⟩ op=dv D ⟨e2,h,n⟩ op/\dh D ⟨e1,h,n⟩ op=dh D ⟨e2,h,n⟩ op:=by
 have hq:=QpG (h:=h) (n:=n) he
 have hqp:qp ⟨e1,h,n⟩ op=qp ⟨e2,h,n⟩ op:=by unfold qp;rw[hq]
 have hqr:qr ⟨e1,h,n⟩ op=qr ⟨e2,h,n⟩ op:=by unfold qr;rw[hq]
 cases op
 case call c=>
  obtain⟨callee,⟨l⟩,tys⟩:=c
  cases callee with
  | value f=>
   have hf:=he f (by simp[Op.operands,Call.operands])
   obtain⟨h1,h2⟩:=Qdg (l:=l) fun x hx=>he x (by simp[Op.operands,Call.operands,hx])
   simp only[dc,dv,dh,hf,h1,h2]
   exact⟨trivial,trivial,trivial⟩
  | invoke r m=>
   have hr:=he r (by simp[Op.operands,Call.operands])
   simp only[dc,dv,dh,QnT,hr]
   exact⟨trivial,trivial,trivial⟩
  | builtin b=>exact⟨hqp,hqr,rfl⟩
 case buildSlice T n' ps=>
  have:=Qdn (e1:=e1) (e2:=e2) (ps:=ps) he
  simp only[dc,dv,dh,this]
  exact⟨trivial,trivial,trivial⟩
 case store T x y=>
  have h1:=he x (by simp[Op.operands])
  have h2:=he y (by simp[Op.operands])
  simp only[dc,dv,dh,h1,h2]
  exact⟨trivial,trivial,trivial⟩
 case alloc T=>exact⟨rfl,rfl,rfl⟩
 all_goals exact⟨hqp,hqr,rfl⟩
end
section
open Go Go.RowKit
def JZ (D:Cx):Op->Bool
 | .alloc _=>true
 | .store _ _ _=>true
 | .call c=>match c.callee with
  | .value (.func k)=>match clk D k with
   | some (.pure _)=>false
   | _=>true
  | .value _=>true
  | _=>false
 | _=>false
theorem Uy {D:Cx} {S:SS} {op:Op} (h:JZ D op=false):dh D S op=(S.heap,S.nx):=by
 cases op<;>first | rfl | (cases h;done) | skip
 case call c=>
  obtain⟨callee,args,tys⟩:=c
  cases callee with
  | builtin b=>rfl
  | invoke r m=>rfl
  | value f=>
   cases f<;>first | (cases h;done) | skip
   rename_i k
   simp only[JZ]at h
   have hf:QdB (ev S.env (.func k))=some k:=by simp[ev,QdB]
   simp only[dh,hf,Qfi]
   split at h
   rename_i p r hc
   simp only[hc]
   cases h
inductive Reach (ops:List Oper):Nat->Nat->Prop
 | one {j:Nat} {o:Oper} {e:Edge} (ho:ops[j]? = some o) (he:e∈o.after) (hb:Region.binds .any e=true):Reach ops j e.on
 | far {j i:Nat} {o:Oper} {e:Edge} (ho:ops[j]? = some o) (he:e∈o.after) (hb:Region.binds .any e=true) (h:Reach ops e.on i):Reach ops j i
def Qjb (acc:List Nat) (m:Nat) (e:Edge):Nat:=
 if Region.binds .any e then (m ||| 2^e.on) ||| acc.getD e.on 0 else m
def QrB:List Oper->List Nat->List Nat
 | [],acc=>acc
 | o::l,acc=>QrB l (acc++[o.after.toList.foldl (Qjb acc) 0])
theorem Ql6 {ops:List Oper} {j:Nat} {o:Oper} (ho:ops[j]? = some o) {acc:List Nat} (ha:∀k i,(acc.getD k 0).testBit i=true->Reach ops k i) :
 ∀(l:List Edge) (m:Nat),(∀e∈l,e∈o.after)->(∀i,m.testBit i=true->Reach ops j i)->∀i,(l.foldl (Qjb acc) m).testBit i=true->Reach ops j i
 | [],m,_,hm,i,h=>hm i h
 | e::l,m,hl,hm,i,h=>by
  refine Ql6 ho ha l (Qjb acc m e) (fun e' h'=>hl e' (List.mem_cons_of_mem _ h')) (fun i' h'=>?_) i h
  have he:=hl e (xc ..)
  unfold Qjb at h'
  split at h'
  rename_i hb
  rw[Nat.testBit_or,Nat.testBit_or,zx,zx]at h'
  rcases h' with (h' | h') | h'
  exact hm i' h'
  rw[Nat.testBit_two_pow]at h'
  have:e.on=i':=by simpa using h'
  rw[<-this]
  exact .one ho he hb
  exact .far ho he hb (ha _ _ h')
  exact hm i' h'
theorem QjO {ops:List Oper}:∀(l:List Oper) (acc:List Nat),(∀i,l[i]? = ops[acc.length+i]?)->(∀k i,(acc.getD k 0).testBit i=true->Reach ops k i) ->
 ∀k i,((QrB l acc).getD k 0).testBit i=true->Reach ops k i
 | [],acc,_,ha,k,i,h=>ha k i h
 | o::l,acc,hl,ha,k,i,h=>by
  have ho:ops[acc.length]? = some o:=by have:=hl 0;simpa using this.symm
  refine QjO l (acc++[o.after.toList.foldl (Qjb acc) 0]) (fun i=>by have:=hl (i+1);simpa [xe,Nat.add_comm 1 i] using this) (fun k' i' h'=>?_) k i h
  by_cases hk:k'<acc.length
  rw[zd,List.getElem?_append_left hk,<-zd]at h'
  exact ha k' i' h'
  by_cases hk':k'=acc.length
  subst hk'
  rw[zd,List.getElem?_append_right (zm _)]at h'
  simp only[Nat.sub_self,zB,Option.getD_some]at h'
  exact Ql6 ho ha _ 0 (fun e he=>by simpa using he) (fun i h=>by simp at h) i' h'
  rw[zd,List.getElem?_eq_none (by simp;omega)]at h'
  simp at h'
def Qgj (D:Cx) (ops:Array Oper) (oi oj:Oper) (r:Bool):Bool:=
 (match oi.dst with
  | none=>true
  | some d=>oj.dst != some d&&(!(oj.looksAt ops).contains d||r)) &&
 (!(JZ D oi.op&&JZ D oj.op)||r)
def QnC (D:Cx) (ops:Array Oper) (A:List Nat) (oj:Oper) (j:Nat):List Oper->Nat->Bool
 | [],_=>true
 | oi::l,i=>(i==j||Qgj D ops oi oj ((A.getD j 0).testBit i||(A.getD i 0).testBit j))&&QnC D ops A oj j l (i+1)
def QrD (D:Cx) (ops:Array Oper) (A:List Nat):List Oper->Nat->Bool
 | [],_=>true
 | oj::l,j=>(oj.after.toList.all fun e => !Region.binds .any e||decide (e.on<j))&&QnC D ops A oj j ops.toList 0&&QrD D ops A l (j+1)
def ordB (D:Cx) (ops:Array Oper):Bool:=QrD D ops (QrB ops.toList []) ops.toList 0
structure OrdOk (D:Cx) (ops:Array Oper):Prop where
 lt:∀(j:Nat) (o:Oper),ops[j]? = some o->∀e∈o.after,Region.binds .any e=true->e.on<j
 dst:∀(i j:Nat) (oi oj:Oper) (d:Tmp),i≠j->ops[i]? = some oi->ops[j]? = some oj->oi.dst=some d->oj.dst≠some d
 look:∀(i j:Nat) (oi oj:Oper) (d:Tmp),i≠j->ops[i]? = some oi->ops[j]? = some oj->oi.dst=some d->d∈oj.looksAt ops->Reach ops.toList j i\/Reach ops.toList i j
 mv:∀(i j:Nat) (oi oj:Oper),i≠j->ops[i]? = some oi->ops[j]? = some oj->JZ D oi.op=true->JZ D oj.op=true->Reach ops.toList j i\/Reach ops.toList i j
theorem Qgd {D:Cx} {ops:Array Oper} {A:List Nat} {oj:Oper} {j:Nat}:∀{l:List Oper} {k:Nat},QnC D ops A oj j l k=true->∀(i:Nat) (oi:Oper),l[i]? = some oi->k+i≠j->Qgj D ops oi oj ((A.getD j 0).testBit (k+i)||(A.getD (k+i) 0).testBit j)=true
 | [],k,_,i,oi,h,_=>by simp at h
 | o::l,k,hr,0,oi,h,hne=>by
  simp only[QnC,zk,zx,beq_iff_eq]at hr
  simp only[zB,Option.some.injEq]at h
  subst h
  exact hr.1.resolve_left hne
 | o::l,k,hr,i+1,oi,h,hne=>by
  simp only[QnC,zk]at hr
  have:=Qgd hr.2 i oi (by simpa using h) (by omega)
  rw[show k+1+i=k+(i+1) from by omega]at this
  exact this
theorem Qdb {D:Cx} {ops:Array Oper} {A:List Nat}:∀{l:List Oper} {k:Nat},QrD D ops A l k=true->∀(j:Nat) (oj:Oper),l[j]? = some oj ->
 (oj.after.toList.all fun e => !Region.binds .any e||decide (e.on<k+j))=true/\QnC D ops A oj (k+j) ops.toList 0=true
 | [],k,_,j,oj,h=>by simp at h
 | o::l,k,hr,0,oj,h=>by
  simp only[QrD,zk]at hr
  simp only[zB,Option.some.injEq]at h
  subst h
  exact⟨hr.1.1,hr.1.2⟩
 | o::l,k,hr,j+1,oj,h=>by
  simp only[QrD,zk]at hr
  have:=Qdb hr.2 j oj (by simpa using h)
  rw[show k+1+j=k+(j+1) from by omega]at this
  exact this
theorem QnH {D:Cx} {ops:Array Oper} (h:ordB D ops=true):OrdOk D ops:=by
 have hA:=QjO (ops:=ops.toList) ops.toList [] (by simp) (fun k i h=>by simp at h)
 have pair:∀(i j:Nat) (oi oj:Oper),i≠j->ops[i]? = some oi->ops[j]? = some oj->∃r,Qgj D ops oi oj r=true/\(r=true->Reach ops.toList j i\/Reach ops.toList i j):=by
  intro i j oi oj hne hi hj
  have h1:=(Qdb h j oj (by simpa using hj)).2
  rw[xj]at h1
  have h2:=Qgd h1 i oi (by simpa using hi) (by omega)
  refine⟨_,h2,fun hr=>?_⟩
  rw[zx,xj]at hr
  exact hr.imp (hA j i) (hA i j)
 refine⟨fun j o hj e he hb=>?_,fun i j oi oj d hne hi hj hd=>?_,fun i j oi oj d hne hi hj hd hl=>?_,fun i j oi oj hne hi hj hm hm'=>?_⟩
 have h1:=(Qdb h j o (by simpa using hj)).1
 rw[List.all_eq_true]at h1
 have:=h1 e (by simpa using he)
 rw[hb,xj]at this
 simpa using this
 obtain⟨r,h1,_⟩:=pair i j oi oj hne hi hj
 simp only[Qgj,hd,zk]at h1
 simpa using h1.1.1
 obtain⟨r,h1,h2⟩:=pair i j oi oj hne hi hj
 simp only[Qgj,hd,zk,zx]at h1
 refine h2 (h1.1.2.resolve_left ?_)
 simp[hl]
 obtain⟨r,h1,h2⟩:=pair i j oi oj hne hi hj
 simp only[Qgj,hm,hm',zk,zx]at h1
 exact h2 (h1.2.resolve_left (by simp))
end
end Go.Proofs.YtengepcafdnalaaGreatDoor
