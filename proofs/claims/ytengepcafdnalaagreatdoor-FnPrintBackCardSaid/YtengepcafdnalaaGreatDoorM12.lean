/-
  Parts of the proof that the law FnPrintBack holds for every input (texts En, Eo, Ep, Eq). Conditions: none.
-/
import Derived.Test.YtengepcafdnalaaGreatDoorM11
import Derived.Maps.AppendAt
import Derived.Lib.AppendStr
import Derived.Lib.ConvBytes
import Derived.Great.BuildSlice
namespace Go.Proofs.YtengepcafdnalaaGreatDoor
open _root_.Array renaming getElem?_eq_some_iff → zA, getElem?_setIfInBounds_ne → zH, range → xw
open _root_.Bool renaming and_eq_true → zk, or_eq_true → zx
open _root_.List renaming getElem?_eq_some_iff → zy, getElem?_cons_zero → zB, getElem?_eq_getElem → zg, getD_eq_getElem?_getD → zd, replicate → zM, length_cons → zj, foldl_cons → xi, getElem?_map → zC, length_singleton → zF, getElem?_replicate → xh, length_take → zP
open _root_.Nat renaming lt_of_lt_of_le → zL, le_refl → zm, mul_one → xk, mul_le_mul_right → z8, zero_le → zO
open _root_.Option renaming map_eq_some_iff → zi, bind_some → zQ, map_some → zK
open Go.Proofs.Tryz renaming prog → zf
section
open Go Go.RowKit
section
variable {g0:Glob} {w0:World} {M:Nat->Prop} {ω:Wit} {S:SS} {a:Act} {w:World}
theorem Sim.change {w':World} (h:Sim g0 w0 M ω S a w) (k:Option Nat) (hk:∀q,k=some q->ω.Γ q=none/\(M q\/w0.heap.size<=q)/\∀r b,hlk S.heap r=some b->bl ω r b≠some q)
 (ho:w'.os=w.os) (ht:w'.tape=w.tape) (hu:w'.output=w.output) (hs:w.heap.size<=w'.heap.size) (hw:∀q,q<w.heap.size->some q≠k->w'.heap[q]? = w.heap[q]?):Sim g0 w0 M ω S a w' where
 env:=h.env
 heap r b e:=(h.heap r b e).mono (Wit.le.refl ω) (by rw[h.wn];exact h.nx r b e) fun q hq=>hw q ((h.heap r b e).lt hq) (fun hqk=>(hk q hqk.symm).2.2 r b e hq)
 sep:=h.sep
 ng:=h.ng
 mine:=h.mine
 nx:=h.nx
 wn:=h.wn
 gam b c T e:=by
  obtain⟨fr,h1⟩:=h.gam b c T e
  have hne:some b≠k:=fun hb=>by
   have:=(hk b hb.symm).1
   rw[this]at e;cases e
  exact⟨fr,by rw[hw b (zA.1 h1).1 hne];exact h1⟩
 fr:=h.fr.trans_same ho ht hu hs fun q hq hm=>hw q (zL hq h.fr.size) (fun hqk=>by
  rcases (hk q hqk.symm).2.1 with h1 | h1
  exact hm h1
  omega)
 df:=h.df
 gl:=h.gl
 gn:=h.gn
 pin:=h.pin
 n0:=h.n0
theorem Sim.newRow (h:Sim g0 w0 M ω S a w) (v:Value) (x:RV) (app:Bool) (hrow:Qai ω w v x app)
 (hblk:∀k,v.ownBlock=some k->ω.Γ k=none/\(M k\/w0.heap.size<=k)/\∀r b,hlk S.heap r=some b->bl ω r b≠some k) :
 Sim g0 w0 M (ω.addσ v) { S with heap:=(S.nx,.row x app)::S.heap,nx:=S.nx+1 } a w/\Rel (ω.addσ v) (.own S.nx) v:=by
 have hl:=Wit.le_addσ ω v
 have h1:=h.grow hl (w':=w) rfl rfl rfl (zm _) (fun k hk=>rfl) (fun b c T' e=>.inl e)
 have hσ:(ω.addσ v).σ S.nx=v:=by simp[Wit.addσ,h.wn]
 have h2:=h1.add S.nx (by show S.nx<ω.n+1;rw[h.wn];omega) (h.hlk_nx (zm _)) (.row x app)
  (by
   simp only[QdI]
   rw[hσ]
   refine⟨hrow.mono hl (fun _ _=>rfl),fun b hb=>?_⟩
   simp[Wit.addσ,h.wn,hb])
  (fun k hk=>by
   simp only[bl,hσ]at hk
   obtain⟨k1,k2,k3⟩:=hblk k hk
   refine⟨k1,k2,fun r' b' e hk'=>?_⟩
   rw[Qbh hl (by rw[h.wn];exact h.nx r' b' e)]at hk'
   exact k3 r' b' e hk')
 rw[show (ω.addσ v).n=S.nx+1 from by simp[Wit.addσ,h.wn]]at h2
 refine⟨h2,?_⟩
 have:=Rel.own (ω:=ω.addσ v) S.nx (by simp[Wit.addσ,h.wn])
 rw[hσ]at this
 exact this
theorem Sim.newRow' {w':World} (h:Sim g0 w0 M ω S a w) (v:Value) (x:RV) (app:Bool) (ho:w'.os=w.os) (ht:w'.tape=w.tape) (hu:w'.output=w.output) (hs:w.heap.size<=w'.heap.size)
 (hw:∀q,q<w.heap.size->w'.heap[q]? = w.heap[q]?) (hrow:Qai ω w' v x app) (hblk:∀k,v.ownBlock=some k->w.heap.size<=k) :
 Sim g0 w0 M (ω.addσ v) { S with heap:=(S.nx,.row x app)::S.heap,nx:=S.nx+1 } a w'/\Rel (ω.addσ v) (.own S.nx) v:=by
 have h1:=h.change none (fun q e=>by cases e) ho ht hu hs (fun q hq _=>hw q hq)
 refine h1.newRow v x app hrow fun k hk=>?_
 have hk':=hblk k hk
 refine⟨h.Γ_lt hk',.inr (Nat.le_trans h.fr.size hk'),fun r b e hb=>?_⟩
 have:=(h.heap r b e).lt hb
 omega
def Qh7 (S:SS) (src dst:TypeId) (s:SV) (K:SV->SS->Prop):Prop:=
 match s with
 | .str l=>src=9/\dst=37/\l.length<=1099511627776/\K (.own S.nx) { S with heap:=(S.nx,.row (.bytes l) false)::S.heap,nx:=S.nx+1 }
 | .own r=>match hlk S.heap r with
  | some (.row (.bytes l) true)=>src=37/\dst=37/\0<l.length/\K (.own r) { S with heap:=hpt S.heap r (.row (.bytes l) false) }
  | _=>False
 | _=>False
theorem Qrh (h:Sim g0 w0 M ω S a w) {src dst:TypeId} {s:SV} {u:Value} (hr:Rel ω s u) {K:SV->SS->Prop} (hk:Qh7 S src dst s K) :
 ∃ω' s' S' w' v,K s' S'/\Sim g0 w0 M ω' S' a w'/\Rel ω' s' v/\(convert src dst u).run zf w=.ok v w':=by
 unfold Qh7 at hk
 split at hk
 rename_i l
 obtain⟨rfl,rfl,hl,hK⟩:=hk
 rw[hr.str_inv]
 have hrun:=Lib.run_convert_string_bytes (P:=zf) w 9 37 5 ⟨l.toArray⟩ u9 u37 u5
 rw[JE]at hrun
 have hge:l.length<=grownCap w l.length 0 5:=Go.grownCap_ge w l.length 0 5
 have hle:grownCap w l.length 0 5<=maxLen:=Go.grownCap_le_maxLen w l.length 0 5 (by simp[maxLen];omega)
 have hcs:(Lib.bytesCells w 5 ⟨l.toArray⟩).size=grownCap w l.length 0 5:=by
  simp only[Lib.bytesCells,Array.size_append,Array.size_map,Array.size_replicate,JE,List.size_toArray]
  omega
 have hrow:Qai ω (Lib.bytesWorld w 5 ⟨l.toArray⟩) (.slice (some ⟨w.heap.size,0,none⟩) l.length (grownCap w l.length 0 5)) (.bytes l) false:=by
  refine .inr ⟨w.heap.size,grownCap w l.length 0 5,_,_,rfl,Lib.bytesWorld_at_new w 5 _,?_,hge,hle,by rw[hcs];simp[RV.z],fun i j s u e0 e1 e2=>?_⟩
  simp
  have hi:i<l.length:=e0
  have hj:j=0:=by
   have:=(zy.1 e1).1
   rw[RV.cell_length]at this
   simp[RV.z]at this
   exact this
  subst hj
  simp only[RV.cell,zB,Option.some.injEq]at e1
  simp only[RV.z,xk,Nat.add_zero,Lib.bytesCells]at e2
  rw[Array.getElem?_append_left (by simp[hi])]at e2
  simp[zg hi]at e2
  rw[<-e1,<-e2]
  simp[zd,zg hi]
  exact .byt _
 obtain⟨h1,h2⟩:=h.newRow' (w':=Lib.bytesWorld w 5 ⟨l.toArray⟩) _ (.bytes l) false rfl rfl rfl (by rw[Lib.bytesWorld_size];omega) (fun q hq=>Lib.bytesWorld_at_old w 5 _ q hq) hrow (fun k hk=>by simp[Value.ownBlock]at hk;omega)
 exact⟨_,_,_,_,_,hK,h1,h2,hrun⟩
 rename_i r
 split at hk
 rename_i l hb
 obtain⟨rfl,rfl,h0,hK⟩:=hk
 obtain⟨h1,h2⟩:=h.heap r _ hb
 rcases h1 with ⟨_,hz⟩ | ⟨g,cap,cur,fr,hσ,hg,hfr,hc,hm,hs,hcells⟩
 have:l.length=0:=hz
 omega
 simp only[if_true]at hfr
 subst hfr
 have hw':(w.freeze ⟨g,cur.size,none⟩ 1).heap[g]? = some (.cells cur (RV.bytes l).elem (cur.size,cur.size+1)):=by
  unfold World.freeze
  rw[if_neg (by decide)]
  simp[Array.getElem?_modify,hg]
 have ho:∀q,q≠g->(w.freeze ⟨g,cur.size,none⟩ 1).heap[q]? = w.heap[q]?:=by
  intro q hq
  unfold World.freeze
  rw[if_neg (by decide)]
  simp[Array.getElem?_modify,Ne.symm hq]
 have hrun:(convert 37 37 u).run zf w=.ok u (w.freeze ⟨g,cur.size,none⟩ 1):=by
  rw[hr.own_inv.1,hσ]
  have hsh:w.shape? g=some ((RV.bytes l).elem,cur.size):=by
   unfold World.shape?
   rw[hg]
  simp[convert,run_underlying u37,run_underlying u5,markStringish,hsh]
 exact⟨ω,_,_,w.freeze ⟨g,cur.size,none⟩ 1,_,hK,h.turn (w':=w.freeze ⟨g,cur.size,none⟩ 1) hb (k:=g) (by simp[bl,hσ,Value.ownBlock]) (by simp[bl,hσ,Value.ownBlock]) rfl rfl rfl (by simp[World.freeze]) ho ⟨.inr ⟨g,cap,cur,(cur.size,cur.size+1),hσ,hw',.inr (zm _),hc,hm,hs,hcells⟩,h2⟩,hr,hrun⟩
 exact hk.elim
 exact hk.elim
end
end
section
open Go Go.RowKit
def QtF:SV->Option Nat
 | .nat n=>some n
 | _=>none
def QtE:SV->Option (List UInt8)
 | .str l=>some l
 | _=>none
def toU8:SV->Option UInt8
 | .byt c=>some c
 | _=>none
def QoF:SV->Option (List SelD)
 | .sl (.sels xs)=>some xs
 | .nilsl=>some []
 | _=>none
def toRn:SV->Option Int
 | .int .i32 n=>some n
 | _=>none
def toCs:SV->Option CSel
 | .cs x=>some x
 | _=>none
def Qdf:SV->Option SelD
 | .agg [k,o,.str key,.str val,a,b,f,z]=>match toI k,toI o,toI a,toI b,toI f,toI z with
  | some k,some o,some a,some b,some f,some z=>some ⟨k,o,key,val,a,b,f,z⟩
  | _,_,_,_,_,_=>none
 | _=>none
def Qaw {α:Type} (f:SV->Option α):List SV->Option (List α)
 | []=>some []
 | s::l=>match f s,Qaw f l with
  | some x,some xs=>some (x::xs)
  | _,_=>none
def QpC (T:TypeId) (ss:List SV):Option RV:=
 match T with
 | 34=>(Qaw QtF ss).map .ints
 | 83=>(Qaw QtE ss).map .strs
 | 37=>(Qaw toU8 ss).map .bytes
 | 79=>(Qaw QoF ss).map .selss
 | 49=>(Qaw toCs ss).map .csels
 | 50=>(Qaw toCs ss).map .csels
 | 176=>(Qaw toRn ss).map .runes
 | _=>none
theorem QgT {α:Type} {f:SV->Option α}:∀{ss:List SV} {xs:List α},Qaw f ss=some xs->xs.length=ss.length/\∀(i:Nat) (s:SV),ss[i]? = some s->∃x,xs[i]? = some x/\f s=some x
 | [],xs,h=>by simp[Qaw]at h;subst h;exact⟨rfl,fun i s e=>by simp at e⟩
 | s::l,xs,h=>by
  simp only[Qaw]at h
  split at h
  rename_i x ys hx hy
  cases h
  obtain⟨h1,h2⟩:=QgT hy
  refine⟨by simp[h1],fun i t e=>?_⟩
  cases i with
  | zero=>simp at e;subst e;exact⟨x,rfl,hx⟩
  | succ i=>simpa using h2 i t (by simpa using e)
  cases h
theorem Qq7 {ω:Wit} {T:TypeId} {ss:List SV} {x:RV} (h:QpC T ss=some x) :
 slt T=some (x.elem,x.z)/\x.z=1/\x.len=ss.length/\∀(i:Nat) (s:SV) (v:Value),ss[i]? = some s->Rel ω s v->∃t,(x.cell i)[0]? = some t/\Rel ω t v/\flat s=true:=by
 unfold QpC at h
 split at h<;>try (cases h;done)
 all_goals
  simp only[zi]at h
  obtain⟨xs,hx,rfl⟩:=h
  obtain⟨h1,h2⟩:=QgT hx
  refine⟨rfl,rfl,h1,fun i s v e hr=>?_⟩
  obtain⟨y,h3,h4⟩:=h2 i s e
 . cases s<;>simp[QtF]at h4
   subst h4
   exact⟨_,by simp[RV.cell,zd,h3],hr,rfl⟩
 . cases s<;>simp[QtE]at h4
   subst h4
   exact⟨_,by simp[RV.cell,zd,h3],hr,rfl⟩
 . cases s<;>simp[toU8]at h4
   subst h4
   exact⟨_,by simp[RV.cell,zd,h3],hr,rfl⟩
 . cases s<;>simp[QoF]at h4
   subst h4
   rw[hr.nilsl_inv]
   exact⟨_,by simp[RV.cell,zd,h3];rfl,.slz _ none 0 rfl,rfl⟩
   rename_i r
   cases r<;>simp at h4
   subst h4
   exact⟨_,by simp[RV.cell,zd,h3],hr,rfl⟩
 . cases s<;>simp[toCs]at h4
   subst h4
   exact⟨_,by simp[RV.cell,zd,h3],hr,rfl⟩
 . cases s<;>simp[toCs]at h4
   subst h4
   exact⟨_,by simp[RV.cell,zd,h3],hr,rfl⟩
 cases s<;>simp[toRn]at h4
 rename_i k n
 cases k<;>simp at h4
 subst h4
 exact⟨_,by simp[RV.cell,zd,h3],hr,rfl⟩
theorem Qcz {s:SV} {x:SelD} (h:Qdf s=some x) {ω:Wit} {v:Value} (hr:Rel ω s v):Rel ω (.agg (Yl x)) v:=by
 unfold Qdf at h
 split at h
 rename_i k o key val a b f z
 split at h
 rename_i k' o' a' b' f' z' h1 h2 h3 h4 h5 h6
 cases h
 refine Qeb (l:=[k,o,.str key,.str val,a,b,f,z]) rfl (fun i s s' u e1 e2 hs=>?_) hr
 match i,e1,e2 with
 | 0,e1,e2=>cases e1;cases e2;exact YS h1 hs
 | 1,e1,e2=>cases e1;cases e2;exact YS h2 hs
 | 2,e1,e2=>cases e1;cases e2;exact hs
 | 3,e1,e2=>cases e1;cases e2;exact hs
 | 4,e1,e2=>cases e1;cases e2;exact YS h3 hs
 | 5,e1,e2=>cases e1;cases e2;exact YS h4 hs
 | 6,e1,e2=>cases e1;cases e2;exact YS h5 hs
 | 7,e1,e2=>cases e1;cases e2;exact YS h6 hs
 cases h
 cases h
end
section
open Go Go.RowKit
theorem Qfs (n:Nat):∀(ss pre:List SV) (ps:List (Nat×SV)),ps.map (·.2)=ss->ps.map (·.1)=List.range' pre.length ss.length->pre.length+ss.length=n->ss.all flat=true ->
 JU (Qov n) (pre++zM ss.length .undef) ps=some (pre++ss)
 | [],pre,[],_,_,_,_=>by simp[JU]
 | [],pre,p::ps,h,_,_,_=>by simp at h
 | s::ss,pre,[],h,_,_,_=>by simp at h
 | s::ss,pre,(i,t)::ps,h1,h2,hn,hf=>by
  simp only[List.map_cons,List.cons.injEq]at h1
  obtain⟨rfl,h1⟩:=h1
  simp only[List.map_cons,zj,List.range'_succ,List.cons.injEq]at h2
  obtain⟨rfl,h2⟩:=h2
  simp only[List.all_cons,zk]at hf
  simp only[zj]at hn
  have hset:(pre++zM (ss.length+1) SV.undef).set pre.length t=(pre++[t])++zM ss.length .undef:=by
   rw[List.set_append_right _ _ (zm _)]
   simp[List.replicate_succ]
  simp only[JU,zj,Qov]
  rw[if_pos (by omega)]
  simp only
  rw[if_pos ⟨by simp,hf.1⟩,hset]
  have:=Qfs n ss (pre++[t]) ps h1 (by simpa using h2) (by simp;omega) hf.2
  rw[this]
  simp
def ez (E:TypeId):Bool:=E==3||E==9||E==5||E==22||E==56||E==33||E==21
theorem QmC {E:TypeId} (h:ez E=true):∃i z,zf.info? E=some i/\i.zero=some z/\z.cells.size=i.size/\0<i.size/\i.bytes<=80:=by
 have key:∀E:TypeId,((zf.info? E).bind fun i=>i.zero.map fun z=>(z.cells.size==i.size)&&decide (0<i.size)&&decide (i.bytes<=80))=some true->∃i z,zf.info? E=some i/\i.zero=some z/\z.cells.size=i.size/\0<i.size/\i.bytes<=80:=by
  intro E h
  cases hi:zf.info? E with
  | none=>rw[hi]at h;cases h
  | some i=>
   rw[hi]at h
   simp only[zQ]at h
   cases hz:i.zero with
   | none=>rw[hz]at h;cases h
   | some z=>
    rw[hz]at h
    simp only[zK,Option.some.injEq,zk,beq_iff_eq,decide_eq_true_eq]at h
    exact⟨i,z,rfl,hz,h.1.1,h.1.2,h.2⟩
 simp only[ez,zx,beq_iff_eq]at h
 rcases h with (((((rfl | rfl) | rfl) | rfl) | rfl) | rfl) | rfl
 exact key 3 (by kernel_rfl)
 exact key 9 (by kernel_rfl)
 exact key 5 (by kernel_rfl)
 exact key 22 (by kernel_rfl)
 exact key 56 (by kernel_rfl)
 exact key 33 (by kernel_rfl)
 exact key 21 (by kernel_rfl)
theorem RV.ez (x:RV):YtengepcafdnalaaGreatDoor.ez x.elem=true:=by cases x<;>rfl
theorem RV.size_eq (x:RV) {i:TypeInfo} (h:zf.info? x.elem=some i):i.size=x.z:=by
 have key:∀(E:TypeId) (z:Nat),(zf.info? E).map (·.size)=some z->zf.info? E=some i->i.size=z:=by
  intro E z h1 h2
  rw[h2]at h1
  simpa using h1
 cases x
 exact key 33 8 (by kernel_rfl) h
 exact key 3 1 (by kernel_rfl) h
 exact key 9 1 (by kernel_rfl) h
 exact key 5 1 (by kernel_rfl) h
 exact key 22 1 (by kernel_rfl) h
 exact key 56 1 (by kernel_rfl) h
 exact key 21 1 (by kernel_rfl) h
def Qhg (T:TypeId) (ss:List SV):Option RV:=
 if T=22 then match ss with
  | [s]=>match Qdf s with
   | some x=>some (.sels [x])
   | none=>none
  | _=>none
 else QpC T ss
def QmW (S:SS) (T n:Nat) (ps:List (Nat×SV)) (K:SV->SS->Prop):Prop:=
 ps.map (·.1)=List.range' 0 n/\0<n/\n<=1000/\match Qhg T (pubL S.heap (ps.map (·.2))).1 with
  | some x=>K (.own S.nx) { S with heap:=(S.nx,.row x true)::(pubL S.heap (ps.map (·.2))).2,nx:=S.nx+1 }
  | none=>False
section
variable {g0:Glob} {w0:World} {M:Nat->Prop} {ω:Wit} {S:SS} {a:Act} {w:World}
theorem Qds (c:Array Value):∀(l:List Value) (k off:Nat) (c:Array Value),off+k+l.length<=c.size ->
 ((l.zipIdx k).foldl (fun cs x=>cs.setIfInBounds (off+x.2) x.1) c).size=c.size /\
 ∀q u,((l.zipIdx k).foldl (fun cs x=>cs.setIfInBounds (off+x.2) x.1) c)[q]? = some u->(off+k<=q->q<off+k+l.length->l[q-(off+k)]? = some u)
 | [],k,off,c,_=>⟨rfl,fun q u _ h1 h2=>by simp at h2;omega⟩
 | v::l,k,off,c,h=>by
  simp only[List.zipIdx_cons,xi,zj]at h ⊢
  obtain⟨h1,h2⟩:=Qds c l (k+1) off (c.setIfInBounds (off+k) v) (by simp;omega)
  refine⟨by rw[h1];simp,fun q u e hq1 hq2=>?_⟩
  by_cases hq:q=off+k
  subst hq
  simp only[Nat.sub_self,zB]
  -- the later ones do not touch it
  have keep:∀(l:List Value) (k':Nat) (c:Array Value),off+k<off+k'->((l.zipIdx k').foldl (fun cs x=>cs.setIfInBounds (off+x.2) x.1) c)[off+k]? = c[off+k]?:=by
   intro l
   induction l with
   | nil=>intro k' c _;rfl
   | cons v l ih=>
    intro k' c hk
    simp only[List.zipIdx_cons,xi]
    rw[ih (k'+1) _ (by omega),zH (by omega)]
  rw[keep l (k+1) _ (by omega),Array.getElem?_setIfInBounds_self_of_lt (by omega)]at e
  exact e
  have:=h2 q u e (by omega) (by omega)
  rw[show q-(off+k)=q-(off+(k+1))+1 from by omega,List.getElem?_cons_succ]
  exact this
theorem QnD {cells:Array Value} {x:RV} (hw:w.heap.size=w.heap.size) (hs:cells.size=x.len*x.z) (hm:x.len<=maxLen)
 (hr:∀(i j:Nat) (s:SV) (u:Value),i<x.len->(x.cell i)[j]? = some s->cells[i*x.z+j]? = some u->Rel ω s u) :
 Qai ω (w.alloc (.cells cells x.elem)) (.slice (some ⟨w.heap.size,0,none⟩) x.len x.len) x true:=
 .inr ⟨w.heap.size,x.len,cells,(0,0),rfl,QjP w _,rfl,zm _,hm,hs,hr⟩
theorem QgR (h:Sim g0 w0 M ω S a w) {T n:Nat} {ps:List (Nat×SV)} {vs:Array (Nat×Value)} (hl:ps.length=vs.toList.length)
 (hr:∀(i:Nat) (x:Nat×SV) (y:Nat×Value),ps[i]? = some x->vs.toList[i]? = some y->x.1=y.1/\Rel ω x.2 y.2) {K:SV->SS->Prop} (hk:QmW S T n ps K) :
 ∃ω' s' S' w' v,K s' S'/\Sim g0 w0 M ω' S' a w'/\Rel ω' s' v/\(Instr.buildSlice T n vs).run zf w=.ok v w':=by
 obtain⟨hidx,hn0,hn1,hk⟩:=hk
 have hlen:ps.length=n:=by have:=congrArg List.length hidx;simpa using this
 -- publish
 obtain⟨ω1,hle,hpl,hpr,hS1⟩:=Sim.pubL (ps.map (·.2)) S ω h (vs.toList.map (·.2)) (by simp[hl]) (fun i s v e1 e2=>by
  rw[zC]at e1 e2
  cases hp:ps[i]? with
  | none=>rw[hp]at e1;cases e1
  | some p=>cases hv:vs.toList[i]? with
   | none=>rw[hv]at e2;cases e2
   | some q=>
    rw[hp]at e1;rw[hv]at e2
    simp only[zK,Option.some.injEq]at e1 e2
    rw[<-e1,<-e2]
    exact (hr i p q hp hv).2)
 generalize hss:(pubL S.heap (ps.map (·.2))).1=ss at *
 generalize hhp:(pubL S.heap (ps.map (·.2))).2=hp at *
 have hsl:ss.length=n:=by rw[hpl];simp[hlen]
 split at hk
 rename_i x hx
 have hmx:n<=maxLen:=by simp[maxLen];omega
 obtain⟨ie,z,hie,hz,hzs,hz0,_⟩:=QmC x.ez
 have hsz:ie.size=x.z:=x.size_eq hie
 have hvl:vs.toList.length=n:=by omega
 have hfst:∀(i:Nat) (y:Nat×Value),vs.toList[i]? = some y->y.1=i:=by
  intro i y e
  have hi:i<ps.length:=by have:=(zy.1 e).1;omega
  have h1:=(hr i ps[i] y (zg hi) e).1
  have h2:(ps.map (·.1))[i]? = some ps[i].1:=by rw[zC,zg hi];rfl
  rw[hidx,List.getElem?_range' (by omega)]at h2
  simp at h2
  omega
 have main:slt T=some (x.elem,x.z)/\x.len=n/\∃cells:Array Value,Instr.fill (fun i=>some (i*ie.size,ie.size)) ((xw (n*ie.size)).map (z.cells[· % z.cells.size]!)) vs.toList=some cells/\cells.size=n*x.z /\
  (∀(i j:Nat) (s:SV) (u:Value),i<x.len->(x.cell i)[j]? = some s->cells[i*x.z+j]? = some u->Rel ω1 s u):=by
  unfold Qhg at hx
  split at hx
  . rename_i hT
    split at hx
    . rename_i s
      split at hx
      . rename_i d hd
        cases hx
        have hn:n=1:=by simpa using hsl.symm
        subst hn
        match hvs:vs.toList,hvl with
        | [(i,v)],_=>
         have hi:i=0:=hfst 0 (i,v) (by rw[hvs];rfl)
         subst hi
         have hv:Rel ω1 s v:=hpr 0 s v rfl (by rw[hvs];rfl)
         have hv':=Qcz hd hv
         clear hv
         cases hv' with
         | agg _ arr hn hv=>
          refine⟨by rw[hT];rfl,rfl,?_⟩
          have hz8:ie.size=8:=hsz
          obtain⟨k1,k2⟩:=Qds #[] arr.toList 0 0 ((xw (1*ie.size)).map (z.cells[· % z.cells.size]!)) (by rw[hz8];simp;rw[hn];simp[Yl])
          refine⟨((arr.toList.zipIdx 0).foldl (fun cs x=>cs.setIfInBounds (0+x.2) x.1) ((xw (1*ie.size)).map (z.cells[· % z.cells.size]!))),?_,by rw[k1,hz8];simp[RV.z],fun i j s u e0 e1 e2=>?_⟩
          . have c1:¬((decide (arr.size≠ie.size)||decide (0*ie.size+arr.size>((xw (1*ie.size)).map (z.cells[· % z.cells.size]!)).size))=true):=by
             rw[hz8,hn];simp[Yl]
            have c2:Array.foldl (fun cs x=>cs.setIfInBounds (0*ie.size+x.snd) x.fst) ((xw (1*ie.size)).map (z.cells[· % z.cells.size]!)) arr.zipIdx =
             ((arr.toList.zipIdx 0).foldl (fun cs x=>cs.setIfInBounds (0+x.2) x.1) ((xw (1*ie.size)).map (z.cells[· % z.cells.size]!))):=by
             rw[<-Array.foldl_toList]
             simp
            simp only[Instr.fill]
            refine Eq.trans (if_neg c1) ?_
            exact congrArg some c2
          have hi0:i=0:=by simp only[RV.len,zF]at e0;omega
          subst hi0
          have hj:j<8:=by
           have:=(zy.1 e1).1
           rw[RV.cell_length]at this
           exact this
          have h2:=k2 (0*8+j) u e2 (by omega) (by rw[Array.length_toList,hn];simp[Yl];omega)
          exact hv j s u e1 (by simpa using h2)
      cases hx
    cases hx
  rename_i hT
  obtain⟨h1,h2,h3,h4⟩:=Qq7 (ω:=ω1) hx
  refine⟨h1,by omega,?_⟩
  have hz1:ie.size=1:=by omega
  have hall:ss.all flat=true:=by
   rw[List.all_eq_true]
   intro s hs
   obtain⟨i,hi⟩:=List.getElem?_of_mem hs
   have hlt:=(zy.1 hi).1
   have hlt':i<(vs.toList.map (·.2)).length:=by simp only[List.length_map];omega
   obtain⟨t,_,_,hf⟩:=h4 i s _ hi (hpr i s _ hi (zg hlt'))
   exact hf
  have hb:=Qfs n ss [] ((List.range' 0 n).zip ss) (by rw[List.map_snd_zip];simp;omega) (by rw[List.map_fst_zip (by simp;omega),hsl];rfl) (by simp[hsl]) hall
  obtain⟨c',f1,f2,f3⟩:=Qd2 (ω:=ω1) (p:=fun i=>some (i*ie.size,ie.size)) (fun i o e=>by
   unfold Qov at e
   split at e
   . cases e;rw[hz1];simp
   . cases e) ((List.range' 0 n).zip ss) vs.toList _ ((xw (n*ie.size)).map (z.cells[· % z.cells.size]!)) (by rw[List.length_zip,List.length_range',hsl,Nat.min_self,hvl]) (fun i p q e1 e2=>by
     have hi:=(zy.1 e2).1
     rw[List.getElem?_zip_eq_some]at e1
     obtain⟨g1,g2⟩:=e1
     rw[List.getElem?_range' (by omega)]at g1
     simp at g1
     exact⟨by rw[hfst i q e2,g1],hpr i p.2 q.2 g2 (by rw[zC,e2];rfl)⟩)
   ⟨by rw[hz1];simp[hsl],fun i s u e1 _=>by
    simp only[List.nil_append,xh]at e1
    split at e1
    . cases e1;exact .undef _
    cases e1⟩ _ hb
  refine⟨c',f1,by rw[f2,h2];simp[hsl],fun i j s u e0 e1 e2=>?_⟩
  have hj:j=0:=by
   have:=(zy.1 e1).1
   rw[RV.cell_length]at this
   omega
  subst hj
  rw[h2,xk,Nat.add_zero]at e2
  have hi:i<ss.length:=by omega
  obtain⟨t,g1,g2,_⟩:=h4 i ss[i] u (zg hi) (f3 i ss[i] u (by simp[zg hi]) e2)
  rw[g1]at e1
  cases e1
  exact g2
 obtain⟨hslt,hxl,cells,hfill,hcs,hrel⟩:=main
 obtain⟨hu,_⟩:=Qac hslt
 have hzpos:0<x.z:=by omega
 have hz8:x.z<=8:=by cases x<;>simp[RV.z]
 have hrun:=run_buildSlice (P:=zf) w T x.elem n vs cells ie z hu hie hz (by
  rw[hsz]
  have:n*x.z<=1000*8:=Nat.mul_le_mul hn1 hz8
  omega) (by
  rw[hsz]
  have:=Nat.mul_pos hn0 hzpos
  omega) hfill
 have hrow:=QnD (ω:=ω1) (w:=w) (cells:=cells) (x:=x) rfl (by rw[hcs,hxl]) (by omega) hrel
 obtain⟨k1,k2⟩:=hS1.newRow' (w':=w.alloc (.cells cells x.elem)) _ x true rfl rfl rfl (by rw[QbG];omega) (fun q hq=>QbH w _ hq) hrow (fun k hk=>by simp[Value.ownBlock]at hk;omega)
 rw[hxl]at k1 k2
 exact⟨_,_,_,_,_,hk,k1,k2,hrun⟩
 exact hk.elim
end
end
section
open Go Go.RowKit
theorem Qbb {ω:Wit} {w:World} {base:Nat} {v:Value} {x:RV} {xs:List Value} (h:w.ownsRow base x.elem x.z v x.len xs)
 (hc:∀(i j:Nat) (s:SV) (u:Value),i<x.len->(x.cell i)[j]? = some s->xs[i*x.z+j]? = some u->Rel ω s u):Qai ω w v x true:=by
 obtain⟨_,h⟩:=h
 rcases h with ⟨h1,h2⟩ | ⟨g,cap,cur,h1,_,h2,h3,h4,h5,h6⟩
 exact .inl ⟨h1,h2⟩
 refine .inr ⟨g,cap,cur,(0,0),h1,h2,rfl,h3,h4,h5,fun i j s u e0 e1 e2=>hc i j s u e0 e1 ?_⟩
 have hj:j<x.z:=by
  have:=(zy.1 e1).1
  rwa [RV.cell_length]at this
 have hle:(i+1)*x.z<=x.len*x.z:=z8 _ (by omega)
 rw[Nat.add_mul]at hle
 rw[<-h6,List.getElem?_take,if_pos (by omega)]
 simpa using e2
theorem QfK {ω:Wit} {w:World} {v:Value} {x:RV} (h:Qai ω w v x true) :
 ∃xs,w.ownsRow 0 x.elem x.z v x.len xs/\∀(i j:Nat) (s:SV) (u:Value),i<x.len->(x.cell i)[j]? = some s->xs[i*x.z+j]? = some u->Rel ω s u:=by
 rcases h with ⟨h1,h2⟩ | ⟨g,cap,cur,fr,h1,h2,h3,h4,h5,h6,h7⟩
 exact⟨[],⟨by simp[h2],.inl ⟨h1,h2⟩⟩,fun i j s u e=>by omega⟩
 simp only[if_true]at h3
 subst h3
 have hle:x.len*x.z<=cap*x.z:=z8 _ h4
 refine⟨cur.toList.take (x.len*x.z),⟨by rw[zP,Array.length_toList];omega,.inr ⟨g,cap,cur,h1,zO _,h2,h4,h5,h6,rfl⟩⟩,fun i j s u e0 e1 e2=>h7 i j s u e0 e1 ?_⟩
 rw[List.getElem?_take]at e2
 split at e2
 simpa using e2
 cases e2
def QdJ (T:TypeId) (n:Nat):Option RV:=
 match T with
 | 83=>some (.strs (zM n []))
 | 37=>some (.bytes (zM n 0))
 | _=>none
def Qhv (S:SS) (T:TypeId) (l c:SV) (K:SV->SS->Prop):Prop:=
 match l,c with
 | .nat n,.nat m=>n=m/\n<=1099511627776/\match QdJ T n with
  | some x=>K (.own S.nx) { S with heap:=(S.nx,.row x true)::S.heap,nx:=S.nx+1 }
  | none=>False
 | _,_=>False
section
variable {g0:Glob} {w0:World} {M:Nat->Prop} {ω:Wit} {S:SS} {a:Act} {w:World}
theorem QjV {T:TypeId} {n:Nat} {x:RV} (h:QdJ T n=some x):slt T=some (x.elem,x.z)/\x.len=n/\x.z=1/\∃i z,zf.info? x.elem=some i/\i.zero=some z/\z.cells = #[z]/\i.size=1/\i.bytes<=80 /\
 ∀(j k:Nat) (s:SV),(x.cell j)[k]? = some s->Rel ω s z:=by
 have key:∀(E:TypeId) (zc:Value),(zf.info? E).map (fun i=>(i.size,decide (i.bytes<=80)))=some (1,true)->((zf.info? E).bind (·.zero))=some zc->∃i,zf.info? E=some i/\i.zero=some zc/\i.size=1/\i.bytes<=80:=by
  intro E zc h1 h2
  cases hi:zf.info? E with
  | none=>rw[hi]at h1;cases h1
  | some i=>
   rw[hi]at h1 h2
   simp at h1 h2
   exact⟨i,rfl,h2,h1.1,h1.2⟩
 unfold QdJ at h
 split at h
 cases h
 obtain⟨i,h1,h2,h3,h4⟩:=key 9 (.string ⟨#[]⟩) (by kernel_rfl) (by kernel_rfl)
 refine⟨rfl,by simp[RV.len],rfl,i,_,h1,h2,rfl,h3,h4,fun j k s e=>?_⟩
 simp only[RV.cell]at e
 have:(zM n ([]:List UInt8)).getD j []=[]:=by
  simp[zd,xh]
  split<;>rfl
 rw[this]at e
 match k with
 | 0=>simp at e;rw[<-e];exact .str []
 | k+1=>simp at e
 cases h
 obtain⟨i,h1,h2,h3,h4⟩:=key 5 (.int .u8 0) (by kernel_rfl) (by kernel_rfl)
 refine⟨rfl,by simp[RV.len],rfl,i,_,h1,h2,rfl,h3,h4,fun j k s e=>?_⟩
 simp only[RV.cell]at e
 have:(zM n (0:UInt8)).getD j 0=0:=by
  simp[zd,xh]
  split<;>rfl
 rw[this]at e
 match k with
 | 0=>simp at e;rw[<-e];exact Rel.byt (ω:=ω) 0
 | k+1=>simp at e
 cases h
theorem Qp2 (h:Sim g0 w0 M ω S a w) {T:TypeId} {l c:SV} {u v:Value} (hl:Rel ω l u) (hc:Rel ω c v) {K:SV->SS->Prop} (hk:Qhv S T l c K) :
 ∃ω' s' S' w' r,K s' S'/\Sim g0 w0 M ω' S' a w'/\Rel ω' s' r/\(Instr.makeSlice T u v).run zf w=.ok r w':=by
 unfold Qhv at hk
 split at hk
 rename_i n m
 obtain⟨rfl,h1,hk⟩:=hk
 split at hk
 rename_i x hx
 obtain⟨k1,k2,k3,i,z,k4,k5,k6,k7,k8,k9⟩:=QjV (ω:=ω) hx
 obtain⟨hu,_⟩:=Qac k1
 have hb:i.bytes*n<=80*n:=z8 _ k8
 obtain⟨w',r1,r2,r3⟩:=run_make_full (P:=zf) w w.heap.size T x.elem i z 1 hu k4 k5 k7 .i64 .i64 n (by omega) (by simp[maxLen];omega) (zm _)
 rw[k6,xk,toList_madeCells_one]at r2
 rw[<-k2,<-k3]at r2
 have hrow:=Qbb (ω:=ω) r2 (fun i' j s u' e0 e1 e2=>by
  rw[xh]at e2
  split at e2
  cases e2;exact k9 _ _ _ e1
  cases e2)
 obtain⟨q1,q2⟩:=h.newRow' (w':=w') _ x true r3.os r3.tape r3.output r3.size (fun q hq=>r3.block q hq (by simp)) hrow (fun k hk=>by simp[Value.ownBlock]at hk;omega)
 rw[k2]at q1 q2
 rw[hl.nat_inv,hc.nat_inv]
 exact⟨_,_,_,_,_,hk,q1,q2,r1⟩
 exact hk.elim
 exact hk.elim
def ZK (T:TypeId):Option RV:=
 match T with
 | 22=>some (.sels [])
 | 34=>some (.ints [])
 | 83=>some (.strs [])
 | 37=>some (.bytes [])
 | 79=>some (.selss [])
 | 49=>some (.csels [])
 | 50=>some (.csels [])
 | _=>none
def RV.app:RV->RV->Option RV
 | .sels xs,.sels ys=>some (.sels (xs++ys))
 | .ints xs,.ints ys=>some (.ints (xs++ys))
 | .strs xs,.strs ys=>some (.strs (xs++ys))
 | .bytes xs,.bytes ys=>some (.bytes (xs++ys))
 | .selss xs,.selss ys=>some (.selss (xs++ys))
 | .csels xs,.csels ys=>some (.csels (xs++ys))
 | _,_=>none
theorem RV.app_ok {x y r:RV} (h:x.app y=some r):y.elem=x.elem/\y.z=x.z/\r.elem=x.elem/\r.z=x.z/\r.len=x.len+y.len/\(∀i,i<x.len->r.cell i=x.cell i)/\∀i,i<y.len->r.cell (x.len+i)=y.cell i:=by
 have left:∀{α:Type} (xs ys:List α) (d:α) (i:Nat),i<xs.length->(xs++ys).getD i d=xs.getD i d:=by
  intro α xs ys d i hi
  simp[zd,List.getElem?_append_left hi]
 have right:∀{α:Type} (xs ys:List α) (d:α) (i:Nat),(xs++ys).getD (xs.length+i) d=ys.getD i d:=by
  intro α xs ys d i
  simp only[zd]
  rw[List.getElem?_append_right (by omega),Nat.add_sub_cancel_left]
 cases x<;>cases y<;>simp only[RV.app,reduceCtorEq,Option.some.injEq]at h<;>subst h <;>
  exact⟨rfl,rfl,rfl,rfl,by simp[RV.len],fun i hi=>by simp only[RV.cell];rw[left _ _ _ _ hi],fun i hi=>by simp only[RV.cell,RV.len];rw[right]⟩
theorem Z4 {T:TypeId} {x:RV} (h:ZK T=some x):x.len=0/\slt T=some (x.elem,x.z):=by
 unfold ZK at h
 split at h<;>first | (cases h;done) | (cases h;exact⟨rfl,rfl⟩)
def QmJ (hp:Heap) (T:TypeId):SV->Option (Option Nat×RV)
 | .nilsl=>match ZK T with
  | some x=>some (none,x)
  | none=>none
 | .own r=>match hlk hp r with
  | some (.row x true)=>some (some r,x)
  | _=>none
 | _=>none
def QlD (T T':TypeId):SV->Option (Option RV)
 | .sl y=>if T'=T then some (some y) else none
 | .nilsl=>if T'=T then some none else none
 | .str l=>if T'=9/\T=37 then some (some (.bytes l)) else none
 | _=>none
def Qgz (h:Heap):Option Nat->Heap
 | some r=>Jg h r
 | none=>h
def appK (S:SS) (T T':TypeId) (s x:SV) (K:SV->SS->Prop):Prop:=
 match QmJ (pub1 S.heap x).2 T s,QlD T T' (pub1 S.heap x).1 with
 | some (ro,y),some (some z)=>match y.app z with
  | some r=>slt T=some (y.elem,y.z)/\y.len+z.len<=1099511627776/\K (.own S.nx) { S with heap:=(S.nx,.row r true)::Qgz (pub1 S.heap x).2 ro,nx:=S.nx+1 }
  | none=>False
 | some (ro,y),some none=>slt T=some (y.elem,y.z)/\K (.own S.nx) { S with heap:=(S.nx,.row y true)::Qgz (pub1 S.heap x).2 ro,nx:=S.nx+1 }
 | _,_=>False
theorem Um (w:World) (t ty e:TypeId) (i:TypeInfo) (ht:zf.underlying t=some (.slice e)) (hi:zf.info? e=some i) {base size n:Nat} {v:Value} {xs:List Value}
 (hown:w.ownsRow base e size v n xs) (a0:Option Addr) (c:Nat):(Builtin.append_ #[t,t] ty #[v,.slice a0 0 c]).run zf w=.ok v w:=by
 rcases hown.2 with ⟨rfl,rfl⟩ | ⟨g,cap,cur,rfl,_,_,hnc,_⟩
 cases a0<;>simp[Builtin.append_,run_underlying ht,sizeOf,typeInfo,hi,Builtin.lenOf,Builtin.firstCells,loadCells,loadCellsFrom]
 cases a0<;>simp[Builtin.append_,run_underlying ht,sizeOf,typeInfo,hi,Builtin.lenOf,Builtin.firstCells,hnc,storeCells,loadCells,loadCellsFrom]
theorem RV.cell_flat (x:RV) (i j:Nat) (s:SV) (h:(x.cell i)[j]? = some s):flat s=true:=by
 cases x<;>simp only[RV.cell,Yl]at h
 . match j with
   | 0 | 1 | 2 | 3 | 4 | 5 | 6 | 7=>simp at h;rw[<-h];rfl
   | j+8=>simp at h
 all_goals
  match j with
  | 0=>simp at h;rw[<-h];rfl
  | j+1=>simp at h
end
end
end Go.Proofs.YtengepcafdnalaaGreatDoor
