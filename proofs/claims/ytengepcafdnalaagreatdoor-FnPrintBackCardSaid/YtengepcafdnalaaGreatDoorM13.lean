/-
  Parts of the proof that the law FnPrintBack holds for every input (texts Er, Gs, Es). Conditions: none.
-/
import Derived.Test.YtengepcafdnalaaGreatDoorM12
import Derived.Lib.BufferWrite
namespace Go.Proofs.YtengepcafdnalaaGreatDoor
open _root_.Array renaming toList_inj → xl
open _root_.List renaming getElem?_eq_some_iff → zy, length_take → zP, length_drop → zR, getElem?_eq_getElem → zg, getElem?_cons_zero → zB, getD_eq_getElem?_getD → zd, eq_nil_of_length_eq_zero → xq, getElem?_map → zC
open _root_.Nat renaming le_refl → zm, zero_le → zO, mul_le_mul_right → z8, mul_le_mul_left → zz, mul_one → xk
open _root_.Option renaming map_some → zK
open Go.Result renaming andThen_ok → zn
open Go.Sem renaming run_bind → zp, run_pure → xa
open Go.Proofs.Tryz renaming prog → zf
section
open Go Go.RowKit
section
variable {g0:Glob} {w0:World} {M:Nat->Prop} {ω:Wit} {S:SS} {a:Act} {w:World}
theorem UV (h:Sim g0 w0 M ω S a w) {w':World} {v v':Value} {r:RV} {xs:List Value}
 (hg:w.grownBy w' v.ownBlock) (hr:w'.ownsRow 0 r.elem r.z v' r.len xs)
 (hc:∀(i j:Nat) (s:SV) (u:Value),i<r.len->(r.cell i)[j]? = some s->xs[i*r.z+j]? = some u->Rel ω s u)
 (hloc:v'.ownBlock=v.ownBlock\/∀k,v'.ownBlock=some k->w.heap.size<=k)
 (hk:∀q,v.ownBlock=some q->ω.Γ q=none/\(M q\/w0.heap.size<=q)/\∀r b,hlk S.heap r=some b->bl ω r b≠some q) :
 Sim g0 w0 M (ω.addσ v') { S with heap:=(S.nx,.row r true)::S.heap,nx:=S.nx+1 } a w'/\Rel (ω.addσ v') (.own S.nx) v':=by
 have h1:=h.change v.ownBlock hk hg.os hg.tape hg.output hg.size hg.block
 refine h1.newRow v' r true (Qbb hr hc) fun k e=>?_
 rcases hloc with hl | hl
 exact hk k (by rw[<-hl];exact e)
 have hk':=hl k e
 refine⟨h.Γ_lt hk',.inr (Nat.le_trans h.fr.size hk'),fun r b e hb=>?_⟩
 have:=(h.heap r b e).lt hb
 omega
theorem Qq8 (h:Sim g0 w0 M ω S a w) {T:TypeId} {s:SV} {v:Value} (hr:Rel ω s v) {ro:Option Nat} {y:RV} (hd:QmJ S.heap T s=some (ro,y)) :
 ∃xs,w.ownsRow 0 y.elem y.z v y.len xs/\(∀(i j:Nat) (s:SV) (u:Value),i<y.len->(y.cell i)[j]? = some s->xs[i*y.z+j]? = some u->Rel ω s u) /\
  Sim g0 w0 M ω { S with heap:=Qgz S.heap ro } a w /\
  ∀q,v.ownBlock=some q->ω.Γ q=none/\(M q\/w0.heap.size<=q)/\∀r b,hlk (Qgz S.heap ro) r=some b->bl ω r b≠some q:=by
 unfold QmJ at hd
 split at hd
 rw[hr.nilsl_inv]
 split at hd
 rename_i x hx
 cases hd
 have h0:=(Z4 hx).1
 refine⟨[],⟨by simp[h0],.inl ⟨rfl,h0⟩⟩,fun i j s u e=>by omega,h,fun q e=>by simp[Value.ownBlock]at e⟩
 cases hd
 rename_i r
 split at hd
 rename_i x hx
 cases hd
 obtain⟨rfl,hlt⟩:=hr.own_inv
 obtain⟨h1,h2⟩:=h.heap r _ hx
 obtain⟨xs,h3,h4⟩:=QfK h1
 refine⟨xs,h3,h4,h.del r,fun q e=>⟨h.ng r _ q hx (by simpa [bl] using e),h.mine r _ q hx (by simpa [bl] using e),fun r' b' e1 e2=>?_⟩⟩
 obtain⟨k1,k2⟩:=Yq e1
 exact k1 (h.sep r r' _ b' q hx k2 (by simpa [bl] using e) e2)
 cases hd
 cases hd
theorem QeB {e:TypeId} (t u ty:TypeId) (i:TypeInfo) (ht:zf.underlying t=some (.slice e)) (hu:zf.underlying u=some .string) (hi:zf.info? e=some i) (hz:i.zero=some (.int .u8 0))
 (hsize:i.size=1) (hby:i.bytes=1) (v:Value) (n:Nat) (xs:List Value) (hown:w.ownsRow 0 e 1 v n xs) (s:ByteArray) (h63:n+s.size<=1099511627776) :
 ∃v' w',(Builtin.append_ #[t,u] ty #[v,.string s]).run zf w=.ok v' w'/\w'.ownsRow 0 e 1 v' (n+s.size) (xs++Lib.strCells s)/\w.grownBy w' v.ownBlock /\
  (v'.ownBlock=v.ownBlock\/∀k,v'.ownBlock=some k->w.heap.size<=k):=by
 have hm:n+s.size<=maxLen:=by simp[maxLen];omega
 have hxl:xs.length=n:=by simpa using hown.1
 rcases hown.2 with ⟨rfl,rfl⟩ | ⟨g,cap,cur,rfl,hbg,hg,hnc,hcm,hcs,htake⟩
 have hown':w.ownsRow w.heap.size e 1 (.slice none 0 0) 0 xs:=⟨hown.1,.inl ⟨rfl,rfl⟩⟩
 obtain⟨v',w',h1,h2,h3,_⟩:=Lib.run_append_own_string (P:=zf) w w.heap.size t u ty e i ht hu hi hz hsize hby _ 0 xs hown' s hm (by omega) (zm _)
 refine⟨v',w',h1,⟨h2.1,?_⟩,h3,.inr fun k hk=>?_⟩
 rcases h2.2 with h4 | ⟨g,cap,cur,k1,k2,k3⟩
 exact .inl h4
 exact .inr ⟨g,cap,cur,k1,zO _,k3⟩
 rcases h2.2 with ⟨h4,_⟩ | ⟨g,cap,cur,k1,k2,k3⟩
 rw[h4]at hk;simp[Value.ownBlock]at hk
 rw[k1]at hk;simp[Value.ownBlock]at hk;omega
 obtain⟨v',w',h1,h2,h3,_⟩:=Lib.run_append_own_string (P:=zf) w 0 t u ty e i ht hu hi hz hsize hby _ n xs hown s hm (by omega) (zO _)
 refine⟨v',w',h1,h2,h3,?_⟩
 by_cases hroom:n+s.size<=cap
 have hcs':cur.size=cap:=by simpa using hcs
 have hr:=Lib.run_append_room_string (P:=zf) w t u ty e i ht hu hi hsize g n cap cur hg s hroom (by omega)
 rw[hr]at h1
 cases h1
 exact .inl rfl
 have holds:∀j u,xs[j]? = some u->w.cell? ((⟨g,0,none⟩:Addr).add j)=some u:=hown.cells (g:=g) rfl
 have hr:=Lib.run_append_grow_string (P:=zf) w t u ty e i (.int .u8 0) ht hu hi hz ⟨g,0,none⟩ n cap xs (by rw[hsize];simpa using hxl) holds s (by omega) (by omega) (by rw[hby];exact growslice_fits (by omega) (by omega))
 rw[hr]at h1
 cases h1
 exact .inr fun k hk=>by simp[Value.ownBlock]at hk;omega
theorem RV.bytes_elem {x:RV} {l:List UInt8} {r:RV} (h:x.app (.bytes l)=some r):∃xs,x=.bytes xs:=by
 cases x<;>simp only[RV.app,reduceCtorEq]at h<;>exact⟨_,rfl⟩
theorem RV.cell_append {x y r:RV} (h:x.app y=some r) {xs ys:List Value} (hx:xs.length=x.len*x.z) (hy:ys.length=y.len*y.z)
 (hc:∀(i j:Nat) (s:SV) (u:Value),i<x.len->(x.cell i)[j]? = some s->xs[i*x.z+j]? = some u->Rel ω s u)
 (hd:∀(i j:Nat) (s:SV) (u:Value),i<y.len->(y.cell i)[j]? = some s->ys[i*y.z+j]? = some u->Rel ω s u) :
 ∀(i j:Nat) (s:SV) (u:Value),i<r.len->(r.cell i)[j]? = some s->(xs++ys)[i*r.z+j]? = some u->Rel ω s u:=by
 obtain⟨h1,h2,h3,h4,h5,h6,h7⟩:=RV.app_ok h
 intro i j s u e0 e1 e2
 have hj:j<x.z:=by
  have:=(zy.1 e1).1
  rwa [RV.cell_length,h4]at this
 rw[h4]at e2
 by_cases hi:i<x.len
 rw[h6 i hi]at e1
 have hle:(i+1)*x.z<=x.len*x.z:=z8 _ (by omega)
 rw[Nat.add_mul]at hle
 rw[List.getElem?_append_left (by omega)]at e2
 exact hc i j s u hi e1 e2
 obtain⟨q,rfl⟩:∃q,i=x.len+q:=⟨i-x.len,by omega⟩
 rw[h7 q (by omega)]at e1
 rw[List.getElem?_append_right (by rw[hx,Nat.add_mul];omega)]at e2
 refine hd q j s u (by omega) e1 ?_
 rw[<-e2,hx,h2,Nat.add_mul]
 congr 1
 omega
theorem Qow (h:Sim g0 w0 M ω S a w) {T T' ty:TypeId} {s x:SV} {v u:Value} (hs:Rel ω s v) (hx:Rel ω x u) {K:SV->SS->Prop} (hk:appK S T T' s x K) :
 ∃ω' s' S' w' r,K s' S'/\Sim g0 w0 M ω' S' a w'/\Rel ω' s' r/\(Builtin.append_ #[T,T'] ty #[v,u]).run zf w=.ok r w':=by
 obtain⟨ω1,hl,hx1,h1⟩:=h.pub1 hx
 have hs1:=hs.mono hl
 unfold appK at hk
 generalize hpp:pub1 S.heap x=p at *
 obtain⟨x1,hp⟩:=p
 simp only at hk hx1 h1
 split at hk
 rename_i ro y z hd hz
 split at hk
 rename_i r hr
 obtain⟨hT,hb,hk⟩:=hk
 obtain⟨a1,a2,a3,a4,a5,a6,a7⟩:=RV.app_ok hr
 obtain⟨xs,d1,d2,d3,d4⟩:=Qq8 (S:={ S with heap:=hp }) h1 hs1 hd
 obtain⟨hu,_⟩:=Qac hT
 obtain⟨ie,zv,hie,hzv,hzs,hz0,hby⟩:=QmC y.ez
 have hsz:ie.size=y.z:=y.size_eq hie
 have hmx:y.len+z.len<=maxLen:=by simp[maxLen];omega
 unfold QlD at hz
 split at hz
 rename_i z'
 split at hz
 rename_i hTT
 cases hz
 subst hTT
 obtain⟨⟨aa,c,hu'⟩,hpos⟩:=hx1.sl_inv
 by_cases hz:z.len=0
 -- nothing to add
 rw[hz]at hu'
 subst hu'
 have hrun:=Um w T' ty y.elem ie hu hie d1 aa c
 have hn:=UV d3 (v:=v) (v':=v) (r:=r) (xs:=xs++[]) (w':=w) ⟨rfl,rfl,rfl,zm _,fun _ _ _=>rfl⟩
  (by rw[a3,a4,a5,hz,List.append_nil];exact d1) (RV.cell_append hr d1.1 (by simp[hz]) d2 (fun i j s u e=>by omega)) (.inl rfl) d4
 exact⟨_,_,_,_,_,hk,hn.1,hn.2,hrun⟩
 obtain⟨b,o,c',vs,rfl,k1,k2,k3,k4⟩:=hpos (by omega)
 obtain⟨fr,hblk⟩:=h1.gam b vs _ k1.choose_spec
 have hlen:((vs.toList.drop o).take (z.len*z.z)).length=z.len*ie.size:=by
  rw[zP,zR,Array.length_toList,hsz,<-a2];omega
 have hget:∀(j:Nat) (u:Value),((vs.toList.drop o).take (z.len*z.z))[j]? = some u->vs[o+j]? = some u:=by
  intro j u e
  rw[List.getElem?_take]at e
  split at e
  rw[List.getElem?_drop]at e
  simpa using e
  cases e
 have hone:∀u∈(vs.toList.drop o).take (z.len*z.z),u.oneCell'=true:=by
  intro u hu
  obtain⟨j,hj⟩:=List.getElem?_of_mem hu
  have hjl:j<z.len*z.z:=by
   have:=(zy.1 hj).1
   rw[hlen,hsz,<-a2]at this
   exact this
  have hzp:0<z.z:=by omega
  have hdm:=Nat.div_add_mod j z.z
  have hi:j/z.z<z.len:=Nat.div_lt_of_lt_mul (by rw[Nat.mul_comm];exact hjl)
  have hm:=Nat.mod_lt j hzp
  have hcl:j%z.z<(z.cell (j/z.z)).length:=by rw[RV.cell_length];exact hm
  have hrel:=k4 (j/z.z) (j%z.z) _ u hi (zg hcl) (by rw[Nat.mul_comm,hdm];exact hget j u hj)
  exact Qfa hrel (z.cell_flat _ _ _ (zg hcl))
 obtain⟨v',w',r1,r2,r3,_,r5⟩:=run_append_own_at (P:=zf) (w:=w) 0 T' ty y.elem ie zv y.z ie.bytes hu hie hzv hsz rfl (by rw[hzs,hsz]) (by omega) v y.len xs d1 ⟨b,o,none⟩ z.len c'
  ((vs.toList.drop o).take (z.len*z.z)) (by rw[hlen,hsz]) (fun j u e=>by
   have:=hget j u e
   rw[UA,Z8 hblk];exact this) hone hmx (by
   have:=zz (y.len+z.len) hby
   omega) (zO _)
 have hn:=UV d3 (v:=v) (v':=v') (r:=r) (xs:=xs++(vs.toList.drop o).take (z.len*z.z)) (w':=w') r3
  (by rw[a3,a4,a5];exact r2) (RV.cell_append hr d1.1 (by rw[hlen,hsz,a2]) d2 (fun i j s u e0 e1 e2=>k4 i j s u e0 e1 (hget _ _ e2)))
  (r5.imp id fun e k hk=>by rw[e]at hk;cases hk;exact zm _) d4
 exact⟨_,_,_,_,_,hk,hn.1,hn.2,r1⟩
 cases hz
 split at hz<;>cases hz
 rename_i l
 split at hz
 rename_i hTT
 cases hz
 obtain⟨rfl,rfl⟩:=hTT
 obtain⟨bs,rfl⟩:=RV.bytes_elem hr
 rw[hx1.str_inv]
 have hsz':(⟨l.toArray⟩:ByteArray).size=l.length:=JE l
 have hb5:∃i,zf.info? 5=some i/\i.zero=some (.int .u8 0)/\i.size=1/\i.bytes=1:=by
  have h1:(zf.info? 5).map (fun i=>(i.size,i.bytes))=some (1,1):=by kernel_rfl
  have h2:((zf.info? 5).bind (·.zero))=some (.int .u8 0):=by kernel_rfl
  cases hi:zf.info? 5 with
  | none=>rw[hi]at h1;cases h1
  | some i=>
   rw[hi]at h1 h2
   simp at h1 h2
   exact⟨i,rfl,h2,h1.1,h1.2⟩
 obtain⟨i5,i5e,i5z,i5s,i5b⟩:=hb5
 obtain⟨v',w',r1,r2,r3,r4⟩:=QeB (w:=w) 37 9 ty i5 u37 u9 i5e i5z i5s i5b v bs.length xs d1 ⟨l.toArray⟩ (by rw[hsz'];exact hb)
 have hn:=UV d3 (v:=v) (v':=v') (r:=r) (xs:=xs++Lib.strCells ⟨l.toArray⟩) (w':=w') r3
  (by rw[a3,a4,a5];rw[hsz']at r2;exact r2) (RV.cell_append hr d1.1 (by rw[Lib.strCells_length,hsz'];simp[RV.len,RV.z]) d2 (fun i j s u e0 e1 e2=>by
   have hj:j=0:=by
    have:=(zy.1 e1).1
    rw[RV.cell_length]at this
    simp[RV.z]at this
    exact this
   subst hj
   have hi:i<l.length:=e0
   simp only[RV.cell,zB,Option.some.injEq]at e1
   simp only[RV.z,xk,Nat.add_zero,Lib.strCells]at e2
   simp[zg hi]at e2
   rw[<-e1,<-e2]
   simp[zd,zg hi]
   exact .byt _)) r4 d4
 exact⟨_,_,_,_,_,hk,hn.1,hn.2,r1⟩
 cases hz
 cases hz
 exact hk.elim
 rename_i ro y hd hz
 obtain⟨hT,hk⟩:=hk
 obtain⟨xs,d1,d2,d3,d4⟩:=Qq8 (S:={ S with heap:=hp }) h1 hs1 hd
 obtain⟨hu,_⟩:=Qac hT
 obtain⟨ie,zv,hie,hzv,hzs,hz0,hby⟩:=QmC y.ez
 unfold QlD at hz
 split at hz
 split at hz<;>cases hz
 split at hz
 rename_i hTT
 cases hz
 subst hTT
 rw[hx1.nilsl_inv]
 have hrun:=Um w T' ty y.elem ie hu hie d1 none 0
 have hn:=UV d3 (v:=v) (v':=v) (r:=y) (xs:=xs) (w':=w) ⟨rfl,rfl,rfl,zm _,fun _ _ _=>rfl⟩ d1 d2 (.inl rfl) d4
 exact⟨_,_,_,_,_,hk,hn.1,hn.2,hrun⟩
 cases hz
 split at hz<;>cases hz
 cases hz
 exact hk.elim
end
end
section
open Go Go.RowKit
def QmP (S:SS) (T T':TypeId) (s x:SV) (K:SV->SS->Prop):Prop:=
 match s,x with
 | .own r,.str t=>match hlk S.heap r with
  | some (.row (.bytes l) true)=>T=37/\T'=9/\l.length=t.length/\K (.nat t.length) { S with heap:=hpt S.heap r (.row (.bytes t) true) }
  | _=>False
 | _,_=>False
section
variable {g0:Glob} {w0:World} {M:Nat->Prop} {ω:Wit} {S:SS} {a:Act} {w:World}
theorem QtD:zf.underlying 37=some (.slice 5):=by kernel_rfl
theorem siz5:(zf.info? 5).map (·.size)=some 1:=by kernel_rfl
theorem Qtp (h:Sim g0 w0 M ω S a w) {T T' ty:TypeId} {s x:SV} {v u:Value} (hs:Rel ω s v) (hx:Rel ω x u) {K:SV->SS->Prop} (hk:QmP S T T' s x K) :
 ∃ω' s' S' w' r,K s' S'/\Sim g0 w0 M ω' S' a w'/\Rel ω' s' r/\(Builtin.copy_ #[T,T'] ty #[v,u]).run zf w=.ok r w':=by
 unfold QmP at hk
 split at hk
 rename_i r t
 split at hk
 rename_i l hb
 obtain⟨rfl,rfl,hl,hk⟩:=hk
 obtain⟨h1,h2⟩:=h.heap r _ hb
 rw[hs.own_inv.1,hx.str_inv]
 rcases h1 with ⟨hσ,h0⟩ | ⟨g,cap,cur,fr,hσ,hg,hfr,hc,hm,hz,hcells⟩
 have hl0:l=[]:=xq h0
 have ht0:t=[]:=xq (by rw[<-hl,hl0];rfl)
 subst hl0;subst ht0
 rw[Qe0 hb]at hk
 refine⟨ω,_,_,w,_,hk,h,.nat 0,?_⟩
 rw[hσ]
 exact Lib.run_copy_empty_string w 37 9 ty 5 none 0 0 ⟨#[]⟩ QtD (by rw[siz5];rfl) rfl
 have hρ:ω.ρ r=g:=h2 g (by rw[hσ];rfl)
 simp only[if_true]at hfr
 subst hfr
 have hlen:(RV.bytes l).len=t.length:=hl
 have hz1:(RV.bytes l).z=1:=rfl
 have hcs:cur.size=cap:=by rw[hz,hz1,xk]
 rw[hσ,hlen]
 have hrun:=Lib.run_copy_row_string (P:=zf) w 37 9 ty 5 g 0 t.length cap ⟨t.toArray⟩ cur (RV.bytes l).elem QtD siz5 hg (zm _) (by show 0+t.length<=cur.size;rw[hcs];omega)
 refine⟨ω,_,_,_,_,hk,?_,.nat t.length,hrun⟩
 refine h.turn hb (k:=g) (by simp[bl,hσ,Value.ownBlock]) (by simp[bl,hσ,Value.ownBlock]) rfl rfl rfl (by simp[World.setRow]) (fun q hq=>setRow_other w g q _ hq) ?_
 refine⟨.inr ⟨g,cap,_,(0,0),by rw[hσ,hlen];rfl,setRow_heap w g cur _ _ _ hg,rfl,by show t.length<=cap;rw[<-hlen];exact hc,hm,?_,?_⟩,h2⟩
 show _=cap*1
 simp[Lib.byteCells_length]
 show t.length+(cur.size-t.length)=cap
 omega
 intro i j s' u' e0 e1 e2
 have e0':i<t.length:=e0
 have hj:j=0:=by
  have:=(zy.1 e1).1
  have hz':((RV.bytes t).cell i).length=1:=RV.cell_length _ _
  omega
 subst hj
 simp only[RV.cell,zB,Option.some.injEq]at e1
 subst e1
 have hz2:(RV.bytes t).z=1:=rfl
 rw[hz2,xk,Nat.add_zero]at e2
 simp only[List.take_zero,List.nil_append,List.getElem?_toArray]at e2
 rw[List.getElem?_append_left (by rw[Lib.byteCells_length];exact e0')]at e2
 simp only[Lib.byteCells,zC]at e2
 rw[zg e0']at e2
 simp only[zK,Option.some.injEq]at e2
 rw[<-e2]
 have:t.getD i 0=t[i]:=by simp[zd,zg e0']
 rw[this]
 exact .byt _
 exact hk.elim
 exact hk.elim
end
end
section
open Go Go.RowKit
def hv (S:SS):Op->(SV->SS->Prop)->Prop
 | .alloc T,K=>Qfw S T K
 | .box T x,K=>boxK S T x K
 | .store T x y,K=>arg S.env x fun sx=>arg S.env y fun sy=>Qeh S T sx sy K
 | .buildSlice T n ps,K=>QmW S T n (ps.toList.map fun p=>(p.1,ev S.env p.2)) K
 | .convert s d x,K=>arg S.env x fun u=>Qh7 S s d u K
 | .makeSlice T l c,K=>arg S.env l fun sl=>arg S.env c fun sc=>Qhv S T sl sc K
 | .call c,K=>match c.callee,c.args.toList,c.argTypes.toList with
  | .builtin .append,[x,y],[T,T']=>arg S.env x fun sx=>arg S.env y fun sy=>appK S T T' sx sy K
  | .builtin .copy,[x,y],[T,T']=>arg S.env x fun sx=>arg S.env y fun sy=>QmP S T T' sx sy K
  | _,_,_=>False
 | _,_=>False
section
variable {g0:Glob} {w0:World} {M:Nat->Prop} {ω:Wit} {S:SS} {a:Act} {w:World}
theorem Uu {K:SV->SS->Prop} {s:Sem Value} (h:∃ω' s' S' w' v,K s' S'/\Sim g0 w0 M ω' S' a w'/\Rel ω' s' v/\s.run zf w=.ok v w') :
 Qm0 g0 w0 M a K ((do pure (Next.value (<- s)):Sem Next).run zf w):=by
 obtain⟨ω',s',S',w',v,h1,h2,h3,h4⟩:=h
 refine⟨ω',s',S',w',v,h1,h2,h3,.inl ?_⟩
 rw[zp,h4]
 rfl
theorem hv_ok (hS:Sim g0 w0 M ω S a w) {o:Oper} {K:SV->SS->Prop} (h:hv S o.op K):Qm0 g0 w0 M a K ((execOp a.eval o).run zf w):=by
 obtain⟨dst,op,ty,pos,after,guard⟩:=o
 cases op<;>simp only[hv]at h<;>first | exact h.elim | skip
 case alloc T=>exact QrC hS (o:=⟨dst,.alloc T,ty,pos,after,guard⟩) rfl h
 case box T x=>exact Qx6 hS (o:=⟨dst,.box T x,ty,pos,after,guard⟩) rfl h
 case store T x y=>
  obtain⟨s,h1,h2⟩:=hS.arg h
  obtain⟨t,h1,h2'⟩:=hS.arg h1
  obtain⟨S',w',h3,h4,h5⟩:=QoM hS h2 h2' h1
  refine⟨ω,_,_,_,undef,h3,h4,.undef _,.inr ⟨?_,rfl⟩⟩
  simp only[execOp,zp,h5,zn,xa]
 case buildSlice T n ps=>
  have hb:=QgR hS (ps:=ps.toList.map fun p=>(p.1,YtengepcafdnalaaGreatDoor.ev S.env p.2)) (vs:=ps.map fun (i,x)=>(i,a.eval x)) (by simp) (fun i x y e1 e2=>by
   rw[zC]at e1
   rw[Array.toList_map,zC]at e2
   cases hp:ps.toList[i]? with
   | none=>rw[hp]at e1;cases e1
   | some p=>
    rw[hp]at e1 e2
    simp only[zK,Option.some.injEq]at e1 e2
    rw[<-e1,<-e2]
    exact⟨rfl,hS.ev p.2⟩) h
  exact Uu hb
 case convert s d x=>
  obtain⟨t,h1,h2⟩:=hS.arg h
  exact Uu (Qrh hS h2 h1)
 case makeSlice T l c=>
  obtain⟨s,h1,h2⟩:=hS.arg h
  obtain⟨t,h1,h2'⟩:=hS.arg h1
  exact Uu (Qp2 hS h2 h2' h1)
 case call c=>
  obtain⟨callee,args,tys⟩:=c
  split at h
  rename_i x y T T' e1 e2 e3
  simp only at e1 e2 e3
  obtain⟨s,h1,h2⟩:=hS.arg h
  obtain⟨t,h1,h2'⟩:=hS.arg h1
  have ea:args = #[x,y]:=xl.1 e2
  have et:tys = #[T,T']:=xl.1 e3
  subst e1;subst ea;subst et
  have hm:(#[x,y]:Array Operand).map a.eval = #[a.eval x,a.eval y]:=by simp
  have:=Uu (Qow hS (ty:=ty) h2 h2' h1)
  rw[<-hm]at this
  exact this
  rename_i x y T T' e1 e2 e3
  simp only at e1 e2 e3
  obtain⟨s,h1,h2⟩:=hS.arg h
  obtain⟨t,h1,h2'⟩:=hS.arg h1
  have ea:args = #[x,y]:=xl.1 e2
  have et:tys = #[T,T']:=xl.1 e3
  subst e1;subst ea;subst et
  have hm:(#[x,y]:Array Operand).map a.eval = #[a.eval x,a.eval y]:=by simp
  have:=Uu (Qtp hS (ty:=ty) h2 h2' h1)
  rw[<-hm]at this
  exact this
  exact h.elim
end
end
end Go.Proofs.YtengepcafdnalaaGreatDoor
