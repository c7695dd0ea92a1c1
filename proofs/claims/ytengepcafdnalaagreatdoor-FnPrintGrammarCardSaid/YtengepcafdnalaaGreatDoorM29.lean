/-
  Parts of the proof that the law FnPrintGrammar holds for every input (texts Lf, Lg, Lh, Ll). Conditions: none.
-/
import Derived.Test.YtengepcafdnalaaGreatDoorM28
import Derived.Defers
namespace Go.Proofs.YtengepcafdnalaaGreatDoor
open _root_.Array renaming getElem?_eq_getElem → zr, getElem?_eq_some_iff → zy, getD_eq_getD_getElem? → xg, getElem?_setIfInBounds_ne → zM
open _root_.List renaming getD_eq_getElem?_getD → za, getElem?_replicate → xk, length_cons → zg, length_nil → zl, length_append → zf
open _root_.Nat renaming strongRecOn → zi, zero_add → xm
open _root_.Option renaming map_eq_some_iff → zk
open Go.Proofs.Tryz renaming f70 → xD, prog → zd, f98 → xw
open _root_.UInt8 renaming toNat_or → zb
section
open Go Go.RowKit
set_option maxRecDepth 20000
section
variable {G:Nat->Option (List CSel×Nat)} {s:Bs} {a:Bool} {j k:Nat} {l:List CSel} {v:CSel×Nat}
theorem grp_0 (h:Zj (QD s a k) s a j=none):QD s a (k+1) j=none:=by rw[QD,h]
theorem grp_1 (h:Zj (QD s a k) s a j=some v):QD s a (k+1) j=V5 (QD s a k) s a [v.1] v.2:=by rw[QD,h]
theorem Qha (h:¬(j<s.length/\bat s j=44)):V5 G s a l j=some (l,j):=by rw[V5,if_neg h]
theorem QtU (h:j<s.length/\bat s j=44) (e:Zj G s a (j+1)=none):V5 G s a l j=none:=by rw[V5,if_pos h,e]
theorem QtT (h:j<s.length/\bat s j=44) (e:Zj G s a (j+1)=some v) (hj:j<v.2):V5 G s a l j=V5 G s a (l++[v.1]) v.2:=by
 rw[V5,if_pos h,e];dsimp only;rw[if_pos hj]
end
noncomputable def W70 (m:Nat):Wk:=⟨[(71,.pure c71),(72,.plain (c72 m))],Qh xD,true,false,[.tmp 2,.tmp 3],[50,71],[(5,2),(9,66)],[4,5]⟩
theorem Qfk {p q:Prop} (k:q) (h:p:=by first | omega | (simp;done) | (simp;omega) | (simp;assumption)):p/\q:=⟨h,k⟩
theorem in70 (m:Nat) (hG:Sat 70 (c70 m)) {s:Bs} {i d:Nat} {a:Bool} {K:Out->Option SB->Prop} (h01:s.length<=1000000) (h02:i<=s.length) (h03:d<=1000) (h04:1001<=d+m)
 (hk:Qu (QD s a (1001-d) i) (fun v=>i<v.2/\v.2<=s.length->K (.val (.tup [.sl (.csels v.1),.nilif])) (some (.blk 94 [.str s,.nat v.2,.nat (d+1),.bool a]))) (∀j,K (.val (.tup [.sl (.csels []),.ifx])) (some (.blk 94 [.str s,.nat j,.nat (d+1),.bool a])))) :
 (W70 m).C K 5 (mkS 73 [(1,(.cp [(.ptr 0 0)]))] [(0,.blk 94 [(.str s),(.nat i),(.nat (d+1)),(.bool a)])] 1):=by
 have hD:Qb (W70 m).D:=(Qb.cons Jg Jd (Qb.cons Qkj (Qjf m hG) Qb.nil))
 rw[show 1001-d=(1001-(d+1))+1 from by omega]at hk
 have L9:∀(mm:Nat) (p:Nat) (l:List CSel),s.length-p=mm->(i<p/\p<=s.length/\l.length<=p/\QD s a ((1001-(d+1))+1) i=V5 (QD s a (1001-(d+1))) s a l p)->(W70 m).L K 9 (mkS 73 [(1,(.cp [(.ptr 0 0)])),(6,(.own 1))] [(1,.row (.csels l) true),(0,.blk 94 [(.str s),(.nat p),(.nat (d+1)),(.bool a)])] 2):=by
  intro mm
  induction mm using zi with
  | _ mm ih=>
   intro p l hm hI
   obtain⟨k1,k2,k3,k4⟩:=hI
   refine (W70 m).aL hD (have a0:Option SB:=some (.blk 94 [(.str s),(.nat p),(.nat (d+1)),(.bool a)]);cond (decide (p<s.length)) ((p<s.length)/\cond (!(decide (bat s p=44))) (K (.val (.tup [(.sl (.csels l)),.nilif])) a0) ((p+1<=9223372036854775807)/\(s.length<=1000000)/\(p+1<=s.length)/\(d+1<=1001)/\(1002<=d+1+m)/\Qu (Zj (QD s a (1001-(d+1))) s a (p+1)) (fun v3=>(p+1<v3.2/\v3.2<=s.length)->(l.length+1<=1099511627776)/\(W70 m).L K 9 (mkS 73 [(1,(.cp [(.ptr 0 0)])),(6,(.own 3))] [(3,.row (.csels (l++[v3.1])) true),(0,.blk 94 [(.str s),(.nat v3.2),(.nat (d+1)),(.bool a)])] 4)) (∀j4:Nat,K (.val (.tup [(.sl (.csels [])),.ifx])) (some (.blk 94 [(.str s),(.nat j4),(.nat (d+1)),(.bool a)]))))) (K (.val (.tup [(.sl (.csels l)),.nilif])) a0)) ?_
   refine Qa ?_ ?_<;>intro h1<;>try simp[-za,-zb]at h1
   refine Qfk ?_
   refine Qa ?_ ?_<;>intro h2<;>try simp[-za,-zb]at h2
   exact Qg hk (k4.trans (Qha (fun q=>h2 q.2))) ⟨k1,k2⟩
   refine Qfk (Qfk (Qfk (Qfk (Qfk ?_))))
   refine QN (fun v3 h3=>?_) (fun h3=>?_)
   intro h4
   try simp[-za,-zb]at h4
   refine Qfk ?_
   exact Wk.L.rn [0,3] (ih _ (by omega) _ _ rfl ⟨by omega,h4.2,by simp;omega,k4.trans (QtT ⟨h1,h2⟩ h3 (by omega))⟩)
   intro j4
   exact Qc hk (k4.trans (QtU ⟨h1,h2⟩ h3)) _
   exact Qg hk (k4.trans (Qha (fun q=>by omega))) ⟨k1,k2⟩
 refine (W70 m).aC hD ((s.length<=1000000)/\(i<=s.length)/\(d+1<=1001)/\(1002<=d+1+m)/\Qu (Zj (QD s a (1001-(d+1))) s a i) (fun v1=>(i<v1.2/\v1.2<=s.length)->(W70 m).L K 9 (mkS 73 [(1,(.cp [(.ptr 0 0)])),(6,(.own 1))] [(1,.row (.csels [v1.1]) true),(0,.blk 94 [(.str s),(.nat v1.2),(.nat (d+1)),(.bool a)])] 2)) (∀j2:Nat,K (.val (.tup [(.sl (.csels [])),.ifx])) (some (.blk 94 [(.str s),(.nat j2),(.nat (d+1)),(.bool a)])))) ?_
 refine Qfk (Qfk (Qfk (Qfk ?_)))
 refine QN (fun v1 h1=>?_) (fun h1=>?_)
 intro h2
 try simp[-za,-zb]at h2
 exact L9 _ _ _ rfl ⟨h2.1,h2.2,by simp;omega,grp_1 h1⟩
 intro j2
 exact Qc hk (grp_0 h1) _
theorem big70 (m:Nat) (hG:Sat 70 (c70 m)):Sat 70 (fun svs b K=>match svs,b with
 | [.ptr 0 0],some (.blk 94 [.str s,.nat i,.nat d,.bool a])=>1000<d/\d<=1001/\K (.val (.tup [.sl (.csels []),.ifx])) (some (.blk 94 [.str s,.nat i,.nat d,.bool a]))
 | _,_=>False):=by
 have hD:Qb (W70 m).D:=(Qb.cons Jg Jd (Qb.cons Qkj (Qjf m hG) Qb.nil))
 refine (W70 m).sa hD xD fun svs b K hP=>?_
 split at hP
 rename_i s i d a
 obtain⟨h01,h02,hk⟩:=hP
 refine (W70 m).en (cond (decide (1000<d)) (K (.val (.tup [(.sl (.csels [])),.ifx])) (some (.blk 94 [(.str s),(.nat i),(.nat d),(.bool a)]))) ((d+1<=9223372036854775807)/\(W70 m).C K 4 (mkS 73 [] [(1,.blk 92 [(.ptr 0 0)]),(0,.blk 94 [(.str s),(.nat i),(.nat (d+1)),(.bool a)])] 2))) ?_
 refine Qa (fun h1=>?_) (fun h1=>?_)
 exact hk
 exfalso
 simp at h1
 omega
 exact hP.elim
end
section
open Go Go.RowKit
set_option maxRecDepth 20000
section
variable {g0:Glob} {w0:World} {M:Nat->Prop} {ω:Wit} {S:SS} {a:Act} {w:World}
theorem Sim.glob (h:Sim g0 w0 M ω S a w) {g':Glob} {a':Act} (ht:a'.tmps=a.tmps) (hd:a'.defers=g'.D) (h1:∀b x,g'.G b=some x->ω.Γ b=some x)
 (h2:∀b x,ω.Γ b=some x->g'.G b=some x\/M b\/w0.heap.size<=b):Sim g' w0 M ω S a' w where
 env:=by rw[ht];exact h.env
 heap:=h.heap
 sep:=h.sep
 ng:=h.ng
 mine:=h.mine
 nx:=h.nx
 wn:=h.wn
 gam:=h.gam
 fr:=h.fr
 df:=hd
 gl:=h1
 gn:=h2
 pin:=h.pin
 n0:=h.n0
theorem Sim.freeze (h:Sim g0 w0 M ω S a w) {r:Nat} {T:TypeId} {cs:List SV} (hb:hlk S.heap r=some (.blk T cs)) :
 ∃ω',ω.le ω'/\ω'.n=ω.n/\(∃vs,ω'.Γ (ω.ρ r)=some (vs,T)/\vs.size=cs.length/\∀(i:Nat) (s:SV) (u:Value),cs[i]? = some s->vs[i]? = some u->Rel ω' s u)/\Sim g0 w0 M ω' { S with heap:=Jz S.heap r } a w:=by
 obtain⟨vs,h1,h2,h3⟩:=h.heap r _ hb
 have hng:ω.Γ (ω.ρ r)=none:=h.ng r _ _ hb rfl
 have hl:=Wit.le_addΓ hng vs T
 refine⟨ω.addΓ (ω.ρ r) vs T,hl,rfl,⟨vs,by simp[Wit.addΓ],h2,fun i s u e1 e2=>(h3 i s u e1 e2).mono hl⟩,?_⟩
 have hd:=h.del r
 exact {
  env:=fun i s e=>let ⟨v,e1,e2⟩:=h.env i s e;⟨v,e1,e2.mono hl⟩
  heap:=fun q b e=>(hd.heap q b e).mono hl (by rw[h.wn];exact hd.nx q b e) fun _ _=>rfl
  sep:=fun q q' b b' k e e'=>hd.sep q q' b b' k e e'
  ng:=fun q b k e hk=>by
   have hk':bl ω q b=some k:=hk
   simp only[Wit.addΓ]
   split
   . rename_i hkg
     subst hkg
     obtain⟨hne,e'⟩:=Yo e
     exact absurd (h.sep r q _ b _ hb e' rfl hk') hne
   exact hd.ng q b k e hk'
  mine:=fun q b k e hk=>hd.mine q b k e hk
  nx:=hd.nx
  wn:=h.wn
  gam:=fun b c T e=>by
   simp only[Wit.addΓ]at e
   split at e
   . rename_i hbg
     simp only[Option.some.injEq,Prod.mk.injEq]at e
     obtain⟨rfl,rfl⟩:=e
     subst hbg
     exact⟨_,h1⟩
   exact h.gam b c T e
  fr:=h.fr
  df:=h.df
  gl:=fun b x e=>hl.Γ _ _ (h.gl b x e)
  gn:=fun b x e=>by
   simp only[Wit.addΓ]at e
   split at e
   . rename_i hbg
     subst hbg
     exact .inr (h.mine r _ _ hb rfl)
   exact h.gn b x e
  pin:=h.pin
  n0:=h.n0 }
end
theorem Sim.enter {g0:Glob} {w0:World} {M:Nat->Prop} {ω:Wit} {hp:Heap} {nx n:Nat} {w:World} (hS:Sim g0 w0 M ω ⟨[],hp,nx⟩ a0 w) {svs:List SV} {args:Array Value} (hn:args.size=svs.length)
 (hr:∀(i:Nat) (s:SV) (v:Value),svs[i]? = some s->args[i]? = some v->Rel ω s v) :
 Sim g0 w0 M ω ⟨UZ n svs,hp,nx⟩ { tmps:=args++Array.replicate (n-args.size) undef,defers:=[] } w:=by
 refine { hS with env:=fun i s e=>?_,df:=hS.df }
 have he:=QgU e
 by_cases hi:i<svs.length
 rw[List.getElem?_append_left hi]at he
 have hia:i<args.size:=by omega
 refine⟨args[i],?_,hr i s _ he (zr hia)⟩
 rw[Array.getElem?_append_left hia,zr hia]
 rw[List.getElem?_append_right (by omega),xk]at he
 split at he
 rename_i hlt
 cases he
 refine⟨undef,?_,.undef _⟩
 rw[Array.getElem?_append_right (by omega),Array.getElem?_replicate,if_pos (by omega)]
 cases he
def sq1:Code->Code
 | .seq x _=>x
 | c=>c
def sq2:Code->Code
 | .seq _ y=>y
 | c=>c
def QcH:Code->Array Oper
 | .region _ o _=>o
 | _ => #[]
theorem Qpp {c:Code} {id:Nat} {o1 o2:Oper} (hc:c=.region id #[o1,o2] false) {f:FuncId} {t u:Nat} (h1:o1.op=.makeFunc (.func f) #[] #[.tmp t]) (h1d:o1.dst=some u) (h1g:o1.guard=none)
 (h2:∃tys,o2.op=.defer ⟨.value (.tmp u),#[],tys⟩) (h2d:o2.dst=none) (h2g:o2.guard=none) {a:Act} {w:World} {Q:Exit->Act->World->Prop} (hu:u<a.tmps.size)
 (h:Q .normal ⟨(a.put (some u) (.func (.func f) #[] #[a.tmps.getD t undef])).tmps,⟨.fn (.func f) #[a.tmps.getD t undef],#[]⟩::a.defers⟩ w):c.wp zd Q a w:=by
 obtain⟨tys,h2⟩:=h2
 subst hc
 refine wp_region_list ?_
 have e:(a.put (some u) (.func (.func f) #[] #[a.tmps.getD t undef])).eval (.tmp u)=.func (.func f) #[] #[a.tmps.getD t undef]:=by
  show (a.tmps.setIfInBounds u _).getD u undef=_
  simp[Array.getD,hu]
 have r1:(execOp a.eval o1).run zd w=.ok (.value (.func (.func f) #[] #[a.tmps.getD t undef])) w:=by
  unfold execOp
  rw[h1]
  simp[Instr.makeFunc,Act.eval]
 have r2:(execOp (a.put (some u) (.func (.func f) #[] #[a.tmps.getD t undef])).eval o2).run zd w=.ok (.defer ⟨.fn (.func f) #[a.tmps.getD t undef],#[]⟩) w:=by
  unfold execOp
  rw[h2]
  have e2:resolve (a.put (some u) (.func (.func f) #[] #[a.tmps.getD t undef])).eval ⟨.value (.tmp u),#[],tys⟩ o2.type=pure ⟨.fn (.func f) #[a.tmps.getD t undef],#[]⟩:=by
   unfold resolve
   simp only[e]
   unfold Deferred.ofValue
   simp
  simp only[e2]
  rfl
 show wpList zd #[o1,o2] Q [o1,o2] a w
 simp only[wpList,Region.wanted,h1g,h2g,if_true]
 refine .inl ?_
 unfold Oper.wp
 rw[r1,Oper.upon_value,h1d]
 refine .inl ?_
 rw[r2]
 show Q .normal (({ (a.put (some u) (.func (.func f) #[] #[a.tmps.getD t undef])) with defers:=_ }:Act).put o2.dst undef) w
 rw[h2d]
 exact h
def cdx:Code->Code
 | .cond _ x _=>x
 | c=>c
noncomputable def p70 (k:Nat):Code:=sq1 (Nat.rec (Qh xD) (fun _ c=>sq2 c) k)
noncomputable def q70:Code:=Nat.rec (Qh xD) (fun _ c=>sq2 c) 4
noncomputable def o70 (k:Nat):Oper:=(QcH (p70 3)).toList.getD k default
def k70 (s:Bs) (d:Nat) (a:Bool) (K:Out->Option SB->Prop) (o:Out) (b:Option SB):Prop:=∃j,b=some (.blk 94 [.str s,.nat j,.nat (d+1),.bool a])/\K o (some (.blk 94 [.str s,.nat j,.nat d,.bool a]))
def Qn (S:SS) (e:Exit) (S':SS):Prop:=e=.normal/\S'=S
theorem Qvw (m:Nat) (hG:Sat 70 (c70 m)):Sat 70 (c70 (m+1)):=by
 intro g0 w M ω svs args b K hS hn hr hP
 unfold c70 at hP
 split at hP
 rename_i s i d a
 obtain⟨h01,h02,h03,h04,hk⟩:=hP
 by_cases hd:1000<d
 refine big70 m hG g0 w M ω _ args _ K hS hn hr ⟨hd,h03,?_⟩
 rw[show 1001-d=0 from by omega]at hk
 exact Qc hk rfl i
 have hD:Qb (W70 m).D:=Qb.cons Jg Jd (Qb.cons Qkj (Qjf m hG) Qb.nil)
 refine calls_of_wp_defers (fn:=xD) (c:=.seq (p70 0) (.seq (p70 1) (.seq (p70 2) (.seq (p70 3) q70)))) (by kernel_rfl) (by kernel_rfl) ?_
 have q0:=Sim.enter (n:=xD.ntmps) (hp:=[(0,.blk 94 [.str s,.nat i,.nat d,.bool a])]) (nx:=1) hS hn hr
 -- the first regions
 have v0:VC (p70 0) ⟨UZ xD.ntmps [.ptr 0 0],[(0,.blk 94 [.str s,.nat i,.nat d,.bool a])],1⟩ (Qn (mkS 73 [(0,(.ptr 0 0)),(1,(.ptr 1 0)),(2,.nilsl),(3,.nilif)] [(1,.blk 92 [(.ptr 0 0)]),(0,.blk 94 [(.str s),(.nat i),(.nat d),(.bool a)])] 2)):=by
  rw[show p70 0=.region 0 (QcH (p70 0)) false from by kernel_rfl]
  refine UU hD ?_
  have e:vcQ (W70 m).D (QcH (p70 0)).toList ⟨UZ xD.ntmps [.ptr 0 0],[(0,.blk 94 [.str s,.nat i,.nat d,.bool a])],1⟩ (Qn (mkS 73 [(0,(.ptr 0 0)),(1,(.ptr 1 0)),(2,.nilsl),(3,.nilif)] [(1,.blk 92 [(.ptr 0 0)]),(0,.blk 94 [(.str s),(.nat i),(.nat d),(.bool a)])] 2) .normal)=(Qn (mkS 73 [(0,(.ptr 0 0)),(1,(.ptr 1 0)),(2,.nilsl),(3,.nilif)] [(1,.blk 92 [(.ptr 0 0)]),(0,.blk 94 [(.str s),(.nat i),(.nat d),(.bool a)])] 2) .normal (mkS 73 [(0,(.ptr 0 0)),(1,(.ptr 1 0)),(2,.nilsl),(3,.nilif)] [(1,.blk 92 [(.ptr 0 0)]),(0,.blk 94 [(.str s),(.nat i),(.nat d),(.bool a)])] 2)):=by kernel_rfl
  rw[e]
  exact⟨rfl,rfl⟩
 have v1:VC (p70 1) (mkS 73 [(0,(.ptr 0 0)),(1,(.ptr 1 0)),(2,.nilsl),(3,.nilif)] [(1,.blk 92 [(.ptr 0 0)]),(0,.blk 94 [(.str s),(.nat i),(.nat d),(.bool a)])] 2) (Qn (mkS 73 [(0,(.ptr 0 0)),(1,(.ptr 1 0)),(2,.nilsl),(3,.nilif),(9,(.ptr 0 0)),(10,(.ptr 0 0)),(11,(.ptr 0 2)),(12,(.nat d)),(13,(.bool (decide (1000<d))))] [(1,.blk 92 [(.ptr 0 0)]),(0,.blk 94 [(.str s),(.nat i),(.nat d),(.bool a)])] 2)):=by
  rw[show p70 1=.seq (.region 1 (QcH (sq1 (p70 1))) false) (.cond (.tmp 13) (cdx (sq2 (p70 1))) .skip) from by kernel_rfl]
  refine VC.seq (VC.mono (Q:=Qn (mkS 73 [(0,(.ptr 0 0)),(1,(.ptr 1 0)),(2,.nilsl),(3,.nilif),(9,(.ptr 0 0)),(10,(.ptr 0 0)),(11,(.ptr 0 2)),(12,(.nat d)),(13,(.bool (decide (1000<d))))] [(1,.blk 92 [(.ptr 0 0)]),(0,.blk 94 [(.str s),(.nat i),(.nat d),(.bool a)])] 2)) (UU hD ?_) ?_)
  have e:vcQ (W70 m).D (QcH (sq1 (p70 1))).toList (mkS 73 [(0,(.ptr 0 0)),(1,(.ptr 1 0)),(2,.nilsl),(3,.nilif)] [(1,.blk 92 [(.ptr 0 0)]),(0,.blk 94 [(.str s),(.nat i),(.nat d),(.bool a)])] 2) (Qn (mkS 73 [(0,(.ptr 0 0)),(1,(.ptr 1 0)),(2,.nilsl),(3,.nilif),(9,(.ptr 0 0)),(10,(.ptr 0 0)),(11,(.ptr 0 2)),(12,(.nat d)),(13,(.bool (decide (1000<d))))] [(1,.blk 92 [(.ptr 0 0)]),(0,.blk 94 [(.str s),(.nat i),(.nat d),(.bool a)])] 2) .normal)=(Qn (mkS 73 [(0,(.ptr 0 0)),(1,(.ptr 1 0)),(2,.nilsl),(3,.nilif),(9,(.ptr 0 0)),(10,(.ptr 0 0)),(11,(.ptr 0 2)),(12,(.nat d)),(13,(.bool (decide (1000<d))))] [(1,.blk 92 [(.ptr 0 0)]),(0,.blk 94 [(.str s),(.nat i),(.nat d),(.bool a)])] 2) .normal (mkS 73 [(0,(.ptr 0 0)),(1,(.ptr 1 0)),(2,.nilsl),(3,.nilif),(9,(.ptr 0 0)),(10,(.ptr 0 0)),(11,(.ptr 0 2)),(12,(.nat d)),(13,(.bool (decide (1000<d))))] [(1,.blk 92 [(.ptr 0 0)]),(0,.blk 94 [(.str s),(.nat i),(.nat d),(.bool a)])] 2)):=by kernel_rfl
  rw[e]
  exact⟨rfl,rfl⟩
  rintro e S' ⟨rfl,rfl⟩
  refine VC.cond ?_
  unfold arg
  have e:ev (mkS 73 [(0,(.ptr 0 0)),(1,(.ptr 1 0)),(2,.nilsl),(3,.nilif),(9,(.ptr 0 0)),(10,(.ptr 0 0)),(11,(.ptr 0 2)),(12,(.nat d)),(13,(.bool (decide (1000<d))))] [(1,.blk 92 [(.ptr 0 0)]),(0,.blk 94 [(.str s),(.nat i),(.nat d),(.bool a)])] 2).env (.tmp 13)=.bool (decide (1000<d)):=by kernel_rfl
  rw[e]
  exact⟨trivial,fun h=>absurd (of_decide_eq_true h) hd,fun _=>VC.skip ⟨rfl,rfl⟩⟩
 have v2:VC (p70 2) (mkS 73 [(0,(.ptr 0 0)),(1,(.ptr 1 0)),(2,.nilsl),(3,.nilif),(9,(.ptr 0 0)),(10,(.ptr 0 0)),(11,(.ptr 0 2)),(12,(.nat d)),(13,(.bool (decide (1000<d))))] [(1,.blk 92 [(.ptr 0 0)]),(0,.blk 94 [(.str s),(.nat i),(.nat d),(.bool a)])] 2) (Qn (mkS 73 [(0,(.ptr 0 0)),(1,(.ptr 1 0)),(2,.nilsl),(3,.nilif),(9,(.ptr 0 0)),(10,(.ptr 0 0)),(11,(.ptr 0 2)),(12,(.nat d)),(13,(.bool (decide (1000<d)))),(15,(.ptr 0 0)),(16,(.ptr 0 0)),(17,(.ptr 0 2)),(18,(.nat d)),(19,(.nat (d+1))),(20,(.ptr 0 0)),(21,(.ptr 0 2))] [(1,.blk 92 [(.ptr 0 0)]),(0,.blk 94 [(.str s),(.nat i),(.nat (d+1)),(.bool a)])] 2)):=by
  rw[show p70 2=.region 3 (QcH (p70 2)) false from by kernel_rfl]
  refine UU hD ?_
  have e:vcQ (W70 m).D (QcH (p70 2)).toList (mkS 73 [(0,(.ptr 0 0)),(1,(.ptr 1 0)),(2,.nilsl),(3,.nilif),(9,(.ptr 0 0)),(10,(.ptr 0 0)),(11,(.ptr 0 2)),(12,(.nat d)),(13,(.bool (decide (1000<d))))] [(1,.blk 92 [(.ptr 0 0)]),(0,.blk 94 [(.str s),(.nat i),(.nat d),(.bool a)])] 2) (Qn (mkS 73 [(0,(.ptr 0 0)),(1,(.ptr 1 0)),(2,.nilsl),(3,.nilif),(9,(.ptr 0 0)),(10,(.ptr 0 0)),(11,(.ptr 0 2)),(12,(.nat d)),(13,(.bool (decide (1000<d)))),(15,(.ptr 0 0)),(16,(.ptr 0 0)),(17,(.ptr 0 2)),(18,(.nat d)),(19,(.nat (d+1))),(20,(.ptr 0 0)),(21,(.ptr 0 2))] [(1,.blk 92 [(.ptr 0 0)]),(0,.blk 94 [(.str s),(.nat i),(.nat (d+1)),(.bool a)])] 2) .normal)=(d+1<=9223372036854775807/\Qn (mkS 73 [(0,(.ptr 0 0)),(1,(.ptr 1 0)),(2,.nilsl),(3,.nilif),(9,(.ptr 0 0)),(10,(.ptr 0 0)),(11,(.ptr 0 2)),(12,(.nat d)),(13,(.bool (decide (1000<d)))),(15,(.ptr 0 0)),(16,(.ptr 0 0)),(17,(.ptr 0 2)),(18,(.nat d)),(19,(.nat (d+1))),(20,(.ptr 0 0)),(21,(.ptr 0 2))] [(1,.blk 92 [(.ptr 0 0)]),(0,.blk 94 [(.str s),(.nat i),(.nat (d+1)),(.bool a)])] 2) .normal (mkS 73 [(0,(.ptr 0 0)),(1,(.ptr 1 0)),(2,.nilsl),(3,.nilif),(9,(.ptr 0 0)),(10,(.ptr 0 0)),(11,(.ptr 0 2)),(12,(.nat d)),(13,(.bool (decide (1000<d)))),(15,(.ptr 0 0)),(16,(.ptr 0 0)),(17,(.ptr 0 2)),(18,(.nat d)),(19,(.nat (d+1))),(20,(.ptr 0 0)),(21,(.ptr 0 2))] [(1,.blk 92 [(.ptr 0 0)]),(0,.blk 94 [(.str s),(.nat i),(.nat (d+1)),(.bool a)])] 2)):=by kernel_rfl
  rw[e]
  exact⟨by omega,rfl,rfl⟩
 refine wp_seq (wp_mono (v0 g0 w M ω _ w q0) ?_)
 rintro e a1 w1 ⟨_,⟨rfl,rfl⟩,ω1,q1⟩
 refine wp_seq (wp_mono (v1 g0 w M ω1 _ w1 q1) ?_)
 rintro e a2 w2 ⟨_,⟨rfl,rfl⟩,ω2,q2⟩
 refine wp_seq (wp_mono (v2 g0 w M ω2 _ w2 q2) ?_)
 rintro e a3 w3 ⟨_,⟨rfl,rfl⟩,ω3,q3⟩
 -- the closure
 obtain⟨_,hz,_⟩:=q3.env 22 .undef (by kernel_rfl)
 have hu:22<a3.tmps.size:=(zy.1 hz).1
 obtain⟨_,hv1,rv1⟩:=q3.env 1 (.ptr 1 0) (by kernel_rfl)
 obtain⟨rfl,_⟩:=rv1.ptr_inv
 have hget:a3.tmps.getD 1 undef=.pointer (some ⟨ω3.ρ 1,0,none⟩):=by
  rw[xg,hv1];rfl
 have hdf:a3.defers=[]:=q3.df.trans hS.df.symm
 refine wp_seq (Qpp (o1:=o70 0) (o2:=o70 1) (f:=98) (t:=1) (u:=22) (id:=4) (by kernel_rfl) (by kernel_rfl) (by kernel_rfl) (by kernel_rfl) ⟨#[],by kernel_rfl⟩ (by kernel_rfl) (by kernel_rfl) hu ?_)
 rw[hget,hdf]
 show q70.wp zd _ _ _
 have q4:=q3.put (.undef (.func (.func 98) #[] #[.pointer (some ⟨ω3.ρ 1,0,none⟩)])) 22
 obtain⟨ω5,l5,n5,⟨vs,k1,k2,k3⟩,q5⟩:=q4.freeze (r:=1) (T:=92) (cs:=[.ptr 0 0]) (by kernel_rfl)
 have hpin0:M (ω.ρ 0):=by
  rcases hS.mine 0 _ (ω.ρ 0) rfl rfl with h | h
  exact h
  have:=(hS.heap 0 _ rfl).lt (show bl ω 0 (.blk 94 [.str s,.nat i,.nat d,.bool a])=some (ω.ρ 0) from rfl)
  omega
 have pin5:ω5.ρ 0=ω.ρ 0:=q5.pin _ hpin0
 have relcp:Rel ω5 (.cp [.ptr 0 0]) (.pointer (some ⟨ω3.ρ 1,0,none⟩)):=
  .cp _ _ 0 vs 92 k1 (by rw[k2];simp) fun j s u e1 e2=>by rw[xm]at e2;exact k3 j s u e1 e2
 have hv1':(a3.put (some 22) (.func (.func 98) #[] #[.pointer (some ⟨ω3.ρ 1,0,none⟩)])).tmps[1]? = some (.pointer (some ⟨ω3.ρ 1,0,none⟩)):=by
  rw[Act.put_some,zM (by decide)];exact hv1
 have q6:=q5.put relcp 1
 rw[QcD hv1']at q6
 obtain⟨g',hgG,hgD⟩:∃g':Glob,g'.G=ω5.Γ/\g'.D=[⟨.fn (.func 98) #[.pointer (some ⟨ω3.ρ 1,0,none⟩)],#[]⟩]:=
  ⟨⟨ω5.Γ,fun g hg=>by obtain⟨t,v,T,e⟩:=g0.err g hg;exact⟨t,v,T,q5.gl g _ e⟩,_,by obtain⟨T,e⟩:=g0.tab;exact⟨T,q5.gl 6 _ e⟩⟩,rfl,rfl⟩
 have q7:Sim g' w M ω5 _ ⟨(a3.put (some 22) (.func (.func 98) #[] #[.pointer (some ⟨ω3.ρ 1,0,none⟩)])).tmps,[⟨.fn (.func 98) #[.pointer (some ⟨ω3.ρ 1,0,none⟩)],#[]⟩]⟩ w3:=
  q6.glob rfl hgD.symm (fun b x e=>by rw[hgG]at e;exact e) (fun b x e=>.inl (by rw[hgG];exact e))
 have q8:∃ω8,Sim g' w M ω8 (mkS 73 [(1,(.cp [(.ptr 0 0)]))] [(0,.blk 94 [(.str s),(.nat i),(.nat (d+1)),(.bool a)])] 1) ⟨(a3.put (some 22) (.func (.func 98) #[] #[.pointer (some ⟨ω3.ρ 1,0,none⟩)])).tmps,[⟨.fn (.func 98) #[.pointer (some ⟨ω3.ρ 1,0,none⟩)],#[]⟩]⟩ w3:=by
  refine Yd.ren [0] ?_ ?_ ?_ g' w M ω5 _ w3 q7<;>kernel_rfl
 obtain⟨ω8,q8⟩:=q8
 -- the rest
 have hk5:Qu (QD s a (1001-d) i) (fun v=>i<v.2/\v.2<=s.length->(k70 s d a K) (.val (.tup [.sl (.csels v.1),.nilif])) (some (.blk 94 [.str s,.nat v.2,.nat (d+1),.bool a])))
  (∀j,(k70 s d a K) (.val (.tup [.sl (.csels []),.ifx])) (some (.blk 94 [.str s,.nat j,.nat (d+1),.bool a]))):=by
  revert hk
  rcases QD s a (1001-d) i with _ | v
  . exact fun hk j=>⟨j,rfl,hk j⟩
  exact fun hk h=>⟨v.2,rfl,hk h⟩
 have hin:=in70 m hG (K:=k70 s d a K) h01 h02 (by omega) (by omega) hk5
 unfold Wk.C AtC at hin
 rw[show Qe9 (W70 m).B [] 5=some (q70,[]) from by kernel_rfl]at hin
 replace hin:VC q70 (mkS 73 [(1,(.cp [(.ptr 0 0)]))] [(0,.blk 94 [(.str s),(.nat i),(.nat (d+1)),(.bool a)])] 1) (retQ true false [.tmp 2,.tmp 3] [50,71] (k70 s d a K)):=hin
 refine wp_mono (hin g' w M ω8 _ w3 q8) ?_
 rintro e a' w' ⟨S',hq,ω9,q9⟩
 have fin:Qqm true false [.tmp 2,.tmp 3] [50,71] (k70 s d a K) S' ->
  Leaves zd xD a'.tmps (fun e w'=>∃v o b',e=.returned v/\K o b'/\Left g0 w M ω o b' v w') a'.defers .returning w':=by
  intro hk'
  rw[q9.df,hgD]
  obtain⟨ss,vs',j1,j2,j3,j4,j5⟩:=QfE q9 hk'
  obtain⟨ω10,l10,p2,p3,q10⟩:=Sim.fixRs [50,71] ss S' ω9 q9 vs' (by omega) j4
  obtain⟨r1,r2,j,rb,rK⟩:=j1
  have hb0:hlk (fixRs S' [50,71] ss).2.heap 0=some (.blk 94 [.str s,.nat j,.nat (d+1),.bool a]):=rb
  refine leaves_cons (f:=98) (args := #[.pointer (some ⟨ω3.ρ 1,0,none⟩)]) (by simp) ?_ ?_
  . have k1:zd.funcs[98]? = some xw:=by kernel_rfl
    have k2 : (xw.name == "runtime.NumGoroutine") = false := by kernel_rfl
    have k3:xw.body=some (Qh xw):=by kernel_rfl
    have hne : xw.name ≠ "runtime.NumGoroutine" := by simpa using k2
    simp[invoke,callFunc,k1,k3,hne]
  refine (callsD_of_wp (fn:=xw) (c:=Qh xw) (R:=fun e w''=>(∃v,e=.returned v)/\Left g0 w M ω (.val (QnS (fixRs S' [50,71] ss).1)) (some (.blk 94 [.str s,.nat j,.nat d,.bool a])) (Qc9 vs') w'') (by kernel_rfl) (by kernel_rfl) ?_).mono ?_
  . have hpin:ω10.ρ 0=ω5.ρ 0:=(q10.pin _ hpin0).trans pin5.symm
    have hΓ:ω10.Γ (ω3.ρ 1)=some (vs,92):=q10.gl _ _ (by rw[hgG];exact k1)
    have relvp:Rel ω10 (.cp [.ptr 0 0]) (.pointer (some ⟨ω3.ρ 1,0,none⟩)):=by
     refine .cp _ _ 0 vs 92 hΓ (by rw[k2];simp) fun j s u e1 e2=>?_
     match j,e1 with
     | 0,e1=>
      cases e1
      obtain⟨rfl,_⟩:=(k3 0 _ u rfl (by simpa using e2)).ptr_inv
      rw[<-hpin]
      exact .ptr 0 0 (by rw[q10.wn];exact q10.n0)
    obtain⟨g8,h8G,h8D⟩:∃g8:Glob,g8.G=ω10.Γ/\g8.D=[]:=
     ⟨⟨ω10.Γ,fun g hg=>by obtain⟨t,v,T,e⟩:=g'.err g hg;exact⟨t,v,T,q10.gl g _ e⟩,_,by obtain⟨T,e⟩:=g'.tab;exact⟨T,q10.gl 6 _ e⟩⟩,rfl,rfl⟩
    have q11:Sim g8 w M ω10 _ ⟨a'.tmps,[]⟩ w':=q10.glob rfl h8D.symm (fun b x e=>by rw[h8G]at e;exact e) (fun b x e=>.inl (by rw[h8G];exact e))
    have q11':Sim g8 w M ω10 ⟨[],(fixRs S' [50,71] ss).2.heap,(fixRs S' [50,71] ss).2.nx⟩ a0 w':={ q11 with env:=fun i s e=>by simp[elk,lk2]at e,df:=h8D.symm }
    have q12:=q11'.enter (n:=xw.ntmps) (svs:=[.cp [.ptr 0 0]]) (args := #[.pointer (some ⟨ω3.ρ 1,0,none⟩)]) rfl (fun i s v e1 e2=>by
     match i,e1 with
     | 0,e1=>cases e1;cases e2;exact relvp)
    have q13:∃ω13,Sim g8 w M ω13 (mkS 8 [(0,(.cp [(.ptr 0 0)]))] [(0,.blk 94 [(.str s),(.nat j),(.nat (d+1)),(.bool a)])] 1) { tmps := #[.pointer (some ⟨ω3.ρ 1,0,none⟩)]++Array.replicate (xw.ntmps-1) undef,defers:=[] } w':=by
     refine Yd.ren [0] ?_ ?_ ?_ g8 w M ω10 _ w' q12
     . kernel_rfl
     . show [hlk (fixRs S' [50,71] ss).2.heap 0]=[_]
       rw[hb0]
     kernel_rfl
    obtain⟨ω13,q13⟩:=q13
    have v8:VC (Qh xw) (mkS 8 [(0,(.cp [(.ptr 0 0)]))] [(0,.blk 94 [(.str s),(.nat j),(.nat (d+1)),(.bool a)])] 1) (Qn (mkS 8 [(0,(.cp [(.ptr 0 0)])),(1,(.ptr 0 0)),(2,(.ptr 0 0)),(3,(.ptr 0 2)),(4,(.nat (d+1))),(5,(.nat d)),(6,(.ptr 0 0)),(7,(.ptr 0 2))] [(0,.blk 94 [(.str s),(.nat j),(.nat d),(.bool a)])] 1)):=by
     rw[show Qh xw=.region 0 (QcH (Qh xw)) false from by kernel_rfl]
     refine UU (D:=[]) Qb.nil ?_
     have e:vcQ [] (QcH (Qh xw)).toList (mkS 8 [(0,(.cp [(.ptr 0 0)]))] [(0,.blk 94 [(.str s),(.nat j),(.nat (d+1)),(.bool a)])] 1) (Qn (mkS 8 [(0,(.cp [(.ptr 0 0)])),(1,(.ptr 0 0)),(2,(.ptr 0 0)),(3,(.ptr 0 2)),(4,(.nat (d+1))),(5,(.nat d)),(6,(.ptr 0 0)),(7,(.ptr 0 2))] [(0,.blk 94 [(.str s),(.nat j),(.nat d),(.bool a)])] 1) .normal)=((1<=d+1/\d+1<=9223372036854775807)/\Qn (mkS 8 [(0,(.cp [(.ptr 0 0)])),(1,(.ptr 0 0)),(2,(.ptr 0 0)),(3,(.ptr 0 2)),(4,(.nat (d+1))),(5,(.nat d)),(6,(.ptr 0 0)),(7,(.ptr 0 2))] [(0,.blk 94 [(.str s),(.nat j),(.nat d),(.bool a)])] 1) .normal (mkS 8 [(0,(.cp [(.ptr 0 0)])),(1,(.ptr 0 0)),(2,(.ptr 0 0)),(3,(.ptr 0 2)),(4,(.nat (d+1))),(5,(.nat d)),(6,(.ptr 0 0)),(7,(.ptr 0 2))] [(0,.blk 94 [(.str s),(.nat j),(.nat d),(.bool a)])] 1)):=by kernel_rfl
     rw[e]
     exact⟨by omega,rfl,rfl⟩
    refine wp_mono (v8 g8 w M ω13 _ w' q13) ?_
    rintro e a'' w'' ⟨_,⟨rfl,rfl⟩,ω14,q14⟩
    refine⟨q14.df.trans h8D,_,QaV (l:=[]) (vs:=[]) (by kernel_rfl) (by decide) rfl (fun i r v e=>by simp at e),⟨_,rfl⟩,?_⟩
    have q15:Sim g0 w M ω14 _ ⟨a''.tmps,[]⟩ w'':=q14.glob rfl hS.df
     (fun b x e=>q14.gl _ _ (by rw[h8G];exact q10.gl _ _ (by rw[hgG];exact q5.gl _ _ e)))
     (fun b x e=>by
      rcases q14.gn b x e with h | h | h
      . rw[h8G]at h
        rcases q10.gn b x h with h | h | h
        . rw[hgG]at h;exact q5.gn b x h
        . exact .inr (.inl h)
        exact .inr (.inr h)
      . exact .inr (.inl h)
      exact .inr (.inr h))
    refine⟨ω14,⟨[],[(0,.blk 94 [.str s,.nat j,.nat d,.bool a])],1⟩,{ q15 with env:=fun i s e=>by simp[elk,lk2]at e,df:=hS.df },fun c hc=>?_,Qhv r1,?_⟩
    . cases hc
      exact⟨rfl,rfl⟩
    have h1:=(Qmr (by omega) p3).lower (m:=0) (Qhv r1)
    exact h1.mono ⟨fun b x e=>q14.gl _ _ (by rw[h8G];exact e),Nat.zero_le _,fun r hr=>absurd hr (Nat.not_lt_zero _),fun r hr=>absurd hr (Nat.not_lt_zero _)⟩
  rintro e u' w'' ⟨rfl,⟨v,rfl⟩,hL⟩
  refine⟨Qc9 vs',QaV (l:=[.tmp 2,.tmp 3]) (by kernel_rfl) (by decide) j3 (fun i r v e1 e2=>?_),Qc9 vs',_,_,rfl,rK,hL⟩
  match i,e1 with
  | 0,e1=>cases e1;have:=j5 0 _ v rfl e2;simp[Qe5]at this ⊢;exact this
  | 1,e1=>cases e1;have:=j5 1 _ v rfl e2;simp[Qe5]at this ⊢;exact this
 cases e with
 | normal=>exact fin hq
 | ret=>exact fin hq
 | exit i=>exact hq.elim
 | goto l=>exact hq.elim
 | panic ch=>exact hq.elim
 | outgrown=>exact hq.elim
 exact hP.elim
theorem Qjg:∀m,Sat 70 (c70 m)
 | 0=>by
  intro g0 w M ω svs args b K hS hn hr hP
  unfold c70 at hP
  split at hP
  obtain⟨_,_,h3,h4,_⟩:=hP
  omega
  exact hP.elim
 | m+1=>Qvw m (Qjg m)
end
section
open Go Go.RowKit
set_option maxRecDepth 20000
section
variable {s:Bs} {p:Bool}
theorem QmS {v:List CSel×Nat} (h:QD s p (1001-0) 0=some v) (hj:¬v.2<s.length):QU s true p=some v.1:=by
 obtain⟨l,j⟩:=v
 have h:QD s p 1001 0=some (l,j):=h
 unfold QU;rw[if_pos rfl,h];exact if_neg hj
theorem QjG {v:List CSel×Nat} (h:QD s p (1001-0) 0=some v) (hj:v.2<s.length):QU s true p=none:=by
 obtain⟨l,j⟩:=v
 have h:QD s p 1001 0=some (l,j):=h
 unfold QU;rw[if_pos rfl,h];exact if_pos hj
theorem QjH (h:QD s p (1001-0) 0=none):QU s true p=none:=by
 have h:QD s p 1001 0=none:=h
 unfold QU;rw[if_pos rfl,h]
theorem QmR {v:CSel×Nat} (h:Zj (QD s p (1001-0)) s p 0=some v) (hj:¬v.2<s.length):QU s false p=some [v.1]:=by
 obtain⟨l,j⟩:=v
 have h:Zj (QD s p 1001) s p 0=some (l,j):=h
 unfold QU;rw[if_neg (by decide),h];exact if_neg hj
theorem QjE {v:CSel×Nat} (h:Zj (QD s p (1001-0)) s p 0=some v) (hj:v.2<s.length):QU s false p=none:=by
 obtain⟨l,j⟩:=v
 have h:Zj (QD s p 1001) s p 0=some (l,j):=h
 unfold QU;rw[if_neg (by decide),h];exact if_pos hj
theorem QjF (h:Zj (QD s p (1001-0)) s p 0=none):QU s false p=none:=by
 have h:Zj (QD s p 1001) s p 0=none:=h
 unfold QU;rw[if_neg (by decide),h]
end
def c44 (svs:List SV) (b:Option SB) (K:Out->Option SB->Prop):Prop:=match svs,b with
 | [.str s],none=>s.length<=1000000/\Qu (QU s true false) (fun v=>K (.val (.tup [.sl (.csels v),.nilif])) none) (K (.val (.tup [.sl (.csels []),.ifx])) none)
 | _,_=>False
noncomputable def W44:Wk:=⟨[(70,.plain (c70 1002)),(71,.pure c71)],Qh Tryz.f44,false,false,[.tmp 2,.tmp 3],[50,71],[],[]⟩
theorem has44:Has 44:=hsf Tryz.f44
theorem U0 {p q:Prop} (k:q) (h:p:=by first | omega | (simp;done) | (simp;omega) | (simp;assumption)):p/\q:=⟨h,k⟩
theorem sat44:Sat 44 c44:=by
 have hD:Qb W44.D:=(Qb.cons Qrq (Qjg 1002) (Qb.cons Jg Jd Qb.nil))
 refine W44.sa hD Tryz.f44 fun svs b K hP=>?_
 unfold c44 at hP
 split at hP
 rename_i s
 obtain⟨h01,hk⟩:=hP
 refine W44.en ((s.length<=1000000)/\(0<=s.length)/\(0<=1001)/\(1002<=0+1002)/\Qu ((QD s false (1001-0)) 0) (fun v1=>(0<v1.2/\v1.2<=s.length)->cond (decide (v1.2<s.length)) (K (.val (.tup [(.sl (.csels [])),.ifx])) none) (K (.val (.tup [(.sl (.csels v1.1)),.nilif])) none)) (∀j2:Nat,K (.val (.tup [(.sl (.csels [])),.ifx])) none)) ?_
 refine U0 (U0 (U0 (U0 ?_)))
 refine QN (fun v1 h1=>?_) (fun h1=>?_)
 intro h2
 try simp[-za,-zb]at h2
 refine Qa ?_ ?_<;>intro h3<;>try simp[-za,-zb]at h3
 exact Qc hk (QjG h1 h3)
 have q:=Qg hk (QmS h1 (by omega))
 exact q
 intro j2
 exact Qc hk (QjH h1)
 exact hP.elim
def c45 (svs:List SV) (b:Option SB) (K:Out->Option SB->Prop):Prop:=match svs,b with
 | [.str s],none=>s.length<=1000000/\Qu (QU s true true) (fun v=>K (.val (.tup [.sl (.csels v),.nilif])) none) (K (.val (.tup [.sl (.csels []),.ifx])) none)
 | _,_=>False
noncomputable def W45:Wk:=⟨[(70,.plain (c70 1002)),(71,.pure c71)],Qh Tryz.f45,false,false,[.tmp 2,.tmp 3],[50,71],[],[]⟩
theorem has45:Has 45:=hsf Tryz.f45
theorem sat45:Sat 45 c45:=by
 have hD:Qb W45.D:=(Qb.cons Qrq (Qjg 1002) (Qb.cons Jg Jd Qb.nil))
 refine W45.sa hD Tryz.f45 fun svs b K hP=>?_
 unfold c45 at hP
 split at hP
 rename_i s
 obtain⟨h01,hk⟩:=hP
 refine W45.en ((s.length<=1000000)/\(0<=s.length)/\(0<=1001)/\(1002<=0+1002)/\Qu ((QD s true (1001-0)) 0) (fun v1=>(0<v1.2/\v1.2<=s.length)->cond (decide (v1.2<s.length)) (K (.val (.tup [(.sl (.csels [])),.ifx])) none) (K (.val (.tup [(.sl (.csels v1.1)),.nilif])) none)) (∀j2:Nat,K (.val (.tup [(.sl (.csels [])),.ifx])) none)) ?_
 refine U0 (U0 (U0 (U0 ?_)))
 refine QN (fun v1 h1=>?_) (fun h1=>?_)
 intro h2
 try simp[-za,-zb]at h2
 refine Qa ?_ ?_<;>intro h3<;>try simp[-za,-zb]at h3
 exact Qc hk (QjG h1 h3)
 have q:=Qg hk (QmS h1 (by omega))
 exact q
 intro j2
 exact Qc hk (QjH h1)
 exact hP.elim
def c46 (svs:List SV) (b:Option SB) (K:Out->Option SB->Prop):Prop:=match svs,b with
 | [.str s],none=>s.length<=1000000/\Qu (QU s false false) (fun v=>K (.val (.tup [.cs (v.headD default),.nilif])) none) (K (.val (.tup [.nilif,.ifx])) none)
 | _,_=>False
noncomputable def W46:Wk:=⟨[(71,.pure c71),(72,.plain (c72 1002))],Qh Tryz.f46,false,false,[.tmp 2,.tmp 3],[56,71],[],[]⟩
theorem has46:Has 46:=hsf Tryz.f46
theorem sat46:Sat 46 c46:=by
 have hD:Qb W46.D:=(Qb.cons Jg Jd (Qb.cons Qkj (Qjf 1002 (Qjg 1002)) Qb.nil))
 refine W46.sa hD Tryz.f46 fun svs b K hP=>?_
 unfold c46 at hP
 split at hP
 rename_i s
 obtain⟨h01,hk⟩:=hP
 refine W46.en ((s.length<=1000000)/\(0<=s.length)/\(0<=1001)/\(1002<=0+1002)/\Qu (Zj (QD s false (1001-0)) s false 0) (fun v1=>(0<v1.2/\v1.2<=s.length)->cond (decide (v1.2<s.length)) (K (.val (.tup [.nilif,.ifx])) none) (K (.val (.tup [(.cs v1.1),.nilif])) none)) (∀j2:Nat,K (.val (.tup [.nilif,.ifx])) none)) ?_
 refine U0 (U0 (U0 (U0 ?_)))
 refine QN (fun v1 h1=>?_) (fun h1=>?_)
 intro h2
 try simp[-za,-zb]at h2
 refine Qa ?_ ?_<;>intro h3<;>try simp[-za,-zb]at h3
 exact Qc hk (QjE h1 h3)
 have q:=Qg hk (QmR h1 (by omega))
 exact q
 intro j2
 exact Qc hk (QjF h1)
 exact hP.elim
def c47 (svs:List SV) (b:Option SB) (K:Out->Option SB->Prop):Prop:=match svs,b with
 | [.str s],none=>s.length<=1000000/\Qu (QU s false true) (fun v=>K (.val (.tup [.cs (v.headD default),.nilif])) none) (K (.val (.tup [.nilif,.ifx])) none)
 | _,_=>False
noncomputable def W47:Wk:=⟨[(71,.pure c71),(72,.plain (c72 1002))],Qh Tryz.f47,false,false,[.tmp 2,.tmp 3],[56,71],[],[]⟩
theorem has47:Has 47:=hsf Tryz.f47
theorem sat47:Sat 47 c47:=by
 have hD:Qb W47.D:=(Qb.cons Jg Jd (Qb.cons Qkj (Qjf 1002 (Qjg 1002)) Qb.nil))
 refine W47.sa hD Tryz.f47 fun svs b K hP=>?_
 unfold c47 at hP
 split at hP
 rename_i s
 obtain⟨h01,hk⟩:=hP
 refine W47.en ((s.length<=1000000)/\(0<=s.length)/\(0<=1001)/\(1002<=0+1002)/\Qu (Zj (QD s true (1001-0)) s true 0) (fun v1=>(0<v1.2/\v1.2<=s.length)->cond (decide (v1.2<s.length)) (K (.val (.tup [.nilif,.ifx])) none) (K (.val (.tup [(.cs v1.1),.nilif])) none)) (∀j2:Nat,K (.val (.tup [.nilif,.ifx])) none)) ?_
 refine U0 (U0 (U0 (U0 ?_)))
 refine QN (fun v1 h1=>?_) (fun h1=>?_)
 intro h2
 try simp[-za,-zb]at h2
 refine Qa ?_ ?_<;>intro h3<;>try simp[-za,-zb]at h3
 exact Qc hk (QjE h1 h3)
 have q:=Qg hk (QmR h1 (by omega))
 exact q
 intro j2
 exact Qc hk (QjF h1)
 exact hP.elim
def c25 (svs:List SV) (b:Option SB) (K:Out->Option SB->Prop):Prop:=match svs,b with
 | [.str s,.bool m,.bool p],none=>s.length<=1000000/\cond m (Qu (QU s true p) (fun v=>K (.val (.tup [.sl (.csels v),.bool true])) none) (K (.val (.tup [.sl (.csels []),.bool false])) none))
  (Qu (QU s false p) (fun v=>K (.val (.tup [.sl (.csels [v.headD default]),.bool true])) none) (K (.val (.tup [.undef,.bool false])) none))
 | _,_=>False
noncomputable def W25:Wk:=⟨[(44,.plain c44),(45,.plain c45),(46,.plain c46),(47,.plain c47)],Qh Tryz.f25,false,false,[.tmp 6,.tmp 7],[50,4],[],[]⟩
theorem has25:Has 25:=hsf Tryz.f25
theorem sat25:Sat 25 c25:=by
 have hD:Qb W25.D:=(Qb.cons has44 sat44 (Qb.cons has45 sat45 (Qb.cons has46 sat46 (Qb.cons has47 sat47 Qb.nil))))
 refine W25.sa hD Tryz.f25 fun svs b K hP=>?_
 unfold c25 at hP
 split at hP
 rename_i s m p
 obtain⟨h01,hk⟩:=hP
 refine W25.en (have a0:=s.length<=1000000;have a1:Out:=.val (.tup [(.sl (.csels [])),(.bool false)]);cond m (cond p (a0/\Qu (QU s true true) (fun v1=>K (.val (.tup [(.sl (.csels v1)),(.bool true)])) none) (K a1 none)) (a0/\Qu (QU s true false) (fun v2=>K (.val (.tup [(.sl (.csels v2)),(.bool true)])) none) (K a1 none))) (cond p (a0/\Qu (QU s false true) (fun v3=>K (.val (.tup [(.sl (.csels [v3.headD default])),(.bool true)])) none) (K (.val (.tup [.undef,(.bool false)])) none)) (a0/\Qu (QU s false false) (fun v4=>K (.val (.tup [(.sl (.csels [v4.headD default])),(.bool true)])) none) (K (.val (.tup [.undef,(.bool false)])) none)))) ?_
 refine Qa ?_ ?_<;>intro h1<;>try simp[-za,-zb]at h1
 refine Qa (fun h2=>?_) (fun h2=>?_)
 try simp[-za,-zb]at h2
 refine U0 ?_
 refine QN (fun v1 h3=>?_) (fun h3=>?_)
 subst h1
 subst h2
 rw[cond_true]at hk
 have q:=Qg hk h3
 exact q
 subst h1
 subst h2
 rw[cond_true]at hk
 have q:=Qc hk h3
 exact q
 try simp[-za,-zb]at h2
 refine U0 ?_
 refine QN (fun v2 h3=>?_) (fun h3=>?_)
 subst h1
 subst h2
 rw[cond_true]at hk
 have q:=Qg hk h3
 exact q
 subst h1
 subst h2
 rw[cond_true]at hk
 have q:=Qc hk h3
 exact q
 refine Qa (fun h2=>?_) (fun h2=>?_)
 try simp[-za,-zb]at h2
 refine U0 ?_
 refine QN (fun v3 h3=>?_) (fun h3=>?_)
 subst h1
 subst h2
 rw[cond_false]at hk
 have q:=Qg hk h3
 exact q
 subst h1
 subst h2
 rw[cond_false]at hk
 have q:=Qc hk h3
 exact q
 try simp[-za,-zb]at h2
 refine U0 ?_
 refine QN (fun v4 h3=>?_) (fun h3=>?_)
 subst h1
 subst h2
 rw[cond_false]at hk
 have q:=Qg hk h3
 exact q
 subst h1
 subst h2
 rw[cond_false]at hk
 have q:=Qc hk h3
 exact q
 exact hP.elim
end
section
open Go Go.RowKit
set_option maxRecDepth 20000
def IB (G:Nat->Option (List CSel×Nat)):Prop:=∀i v,G i=some v->(Vk v.1).length+2*i<=2*v.2+1
section
variable {G:Nat->Option (List CSel×Nat)} {s:Bs} {a:Bool}
theorem Qd0 (l:List CSel) (x:CSel):(Vk (l++[x])).length=(Vk l).length+(Qz x).length:=by
 induction l with
 | nil=>simp[Vk]
 | cons y l ih=>simp[Vk,ih];omega
theorem Qrf {i k:Nat} (h:Vs s i=some k):i<k:=by
 unfold Vs at h
 split at h
 cases h;have:=Q4 s (i+1);omega
 cases h
theorem QoO {i k:Nat} (h:QP s i=some k):i<k:=by
 unfold QP at h
 split at h
 cases h;have:=Q4 s i;omega
 cases h
theorem Qa3 {α:Type} {c:Prop} [Decidable c] {p q:Option α} {x:α} {P:Prop} (h:(if c then p else q)=some x) (hp:p=some x->P) (hq:q=some x->P):P:=by
 by_cases hc:c
 rw[if_pos hc]at h;exact hp h
 rw[if_neg hc]at h;exact hq h
theorem Qln {n:Bs} {x:CSel} (h:UD n=some x):(Qz x).length=1:=by
 unfold UD at h
 iterate 14 refine Qa3 h (fun h=>by cases h;rfl) (fun h=>?_)
 cases h
theorem ps_b (hG:IB G) {i j:Nat} {x:CSel} {n:Bs} (h:iPs G s i=some (some x,n,j)) (hj:i<j):(Qz x).length+2*i<=2*j:=by
 unfold iPs at h
 split at h
 split at h
 cases h
 rename_i nm p hp
 split at h
 cases h
 have hlt:i+1<p:=by
  have:=(Law.iIdent_lt hp).1
  split at this<;>omega
 unfold V4 at h
 split at h
 simp only[zk,Prod.mk.injEq,Option.some.injEq]at h
 obtain⟨⟨y,e⟩,h1,rfl,_,rfl⟩:=h
 unfold Zw at h1
 split at h1
 cases h1
 rename_i k hk
 split at h1
 cases h1
 rename_i l m hg
 simp only[zk,Prod.mk.injEq]at h1
 obtain⟨e',h2,rfl,rfl⟩:=h1
 have h3:=hG _ _ hg
 have h4:=Qrf hk
 have h5:=QoO h2
 simp only[Qz,Qr,zg]
 dsimp only at h3 ⊢
 omega
 split at h
 simp only[zk,Prod.mk.injEq,Option.some.injEq]at h
 obtain⟨⟨y,e⟩,h1,rfl,_,rfl⟩:=h
 have:(Qz y).length=1:=by
  unfold Zc at h1
  split at h1
  cases h1
  split at h1
  split at h1
  cases h1
  simp only[zk,Prod.mk.injEq]at h1
  obtain⟨_,_,rfl,_⟩:=h1;rfl
  cases h1
 dsimp only at hj ⊢
 omega
 split at h
 simp only[zk,Prod.mk.injEq,Option.some.injEq]at h
 obtain⟨⟨y,e⟩,h1,rfl,_,rfl⟩:=h
 have:(Qz y).length=1:=by
  unfold Zd at h1
  split at h1
  cases h1
  split at h1
  cases h1
  simp only[zk,Prod.mk.injEq]at h1
  obtain⟨_,_,rfl,_⟩:=h1;rfl
 dsimp only at hj ⊢
 omega
 split at h
 simp only[zk,Prod.mk.injEq,Option.some.injEq]at h
 obtain⟨⟨y,e⟩,h1,rfl,_,rfl⟩:=h
 have:(Qz y).length=1:=by
  unfold Zv at h1
  split at h1
  cases h1
  split at h1
  split at h1
  cases h1
  simp only[zk,Prod.mk.injEq]at h1
  obtain⟨_,_,rfl,_⟩:=h1;rfl
  cases h1
 dsimp only at hj ⊢
 omega
 split at h
 rename_i y hy
 simp only[Option.some.injEq,Prod.mk.injEq]at h
 obtain⟨rfl,_,rfl⟩:=h
 have:=Qln hy
 omega
 split at h
 simp at h
 cases h
 cases h
theorem QpJ (hG:IB G) {i j:Nat} {x:CSel} {n:Bs} (h:Vm G s i=some (some x,n,j)) (hj:i<j):(Qz x).length+2*i<=2*j:=by
 unfold Vm at h
 split at h
 simp only[zk,Prod.mk.injEq,Option.some.injEq]at h
 obtain⟨⟨y,e⟩,_,rfl,_,rfl⟩:=h
 have:(Qz (CSel.idn y)).length=1:=rfl
 dsimp only at hj ⊢
 omega
 split at h
 simp only[zk,Prod.mk.injEq,Option.some.injEq]at h
 obtain⟨⟨y,e⟩,_,rfl,_,rfl⟩:=h
 have:(Qz (CSel.cls y)).length=1:=rfl
 dsimp only at hj ⊢
 omega
 split at h
 rw[Qim]at h
 simp only[zk,Prod.mk.injEq,Option.some.injEq]at h
 obtain⟨_,⟨y,_,rfl⟩,rfl,_,rfl⟩:=h
 have:(Qz (attrOf y).1).length=1:=rfl
 omega
 exact ps_b hG h hj
theorem QpQ (l:List CSel) (pe:Bs):(Qz (VD l pe)).length<=(Vk l).length+1:=by
 unfold VD
 split
 simp[Vk]
 simp[Qz,Qr]
theorem QhB (hG:IB G) {i0:Nat}:∀(n i:Nat) (l:List CSel) (pe:Bs),s.length-i=n->(Vk l).length+2*i0<=2*i->∀x m,QT G s a i l pe=some (x,m)->(Qz x).length+2*i0<=2*m+1:=by
 intro n
 induction n using zi with
 | _ n ih=>
  intro i l pe hn hl x m h
  rw[QT]at h
  split at h
  rename_i hc
  split at h
  cases h
  rename_i y nm j hy
  split at h
  rename_i hj
  split at h
  split at h
  exact ih _ (by omega) j l nm rfl (by omega) x m h
  cases h
  rename_i z
  have hb:=QpJ hG hy hj
  split at h
  exact ih _ (by omega) j (l++[z]) pe rfl (by rw[Qd0];omega) x m h
  cases h
  cases h
  simp only[Option.some.injEq,Prod.mk.injEq]at h
  obtain⟨rfl,rfl⟩:=h
  have:=QpQ l pe
  omega
theorem QpO (hG:IB G) {i:Nat} {x:CSel} {m:Nat} (h:YD G s a i=some (x,m)):(Qz x).length+2*i<=2*m+1:=by
 unfold YD at h
 split at h
 split at h
 exact QhB hG _ _ [] [] rfl (by simp only[Vk,zl];split<;>omega) x m h
 split at h
 exact QhB hG _ _ [] [] rfl (by simp[Vk]) x m h
 split at h
 cases h
 rename_i t j ht
 have:=(Law.iIdent_lt ht).1
 exact QhB hG _ _ _ [] rfl (by simp[Vk,Qz,Qr];omega) x m h
 cases h
theorem QsQ (hG:IB G) {i0:Nat}:∀(n j:Nat) (x:CSel),s.length-j=n->(Qz x).length+2*i0<=2*j+1->∀y m,Vh G s a x j=some (y,m)->(Qz y).length+2*i0<=2*m+1:=by
 intro n
 induction n using zi with
 | _ n ih=>
  intro j x hn hx y m h
  have w0:=Q4 s j
  have w1:=Q4 s (iWs s j+1)
  rw[Vh]at h
  split at h
  split at h
  split at h
  cases h
  rename_i z p hz
  split at h
  have:=QpO hG hz
  exact ih _ (by omega) p _ rfl (by simp only[Qz,Qr,zg,zf];omega) y m h
  cases h
  split at h
  simp only[Option.some.injEq,Prod.mk.injEq]at h
  obtain⟨rfl,rfl⟩:=h
  omega
  split at h
  cases h
  rename_i z p hz
  split at h
  have:=QpO hG hz
  exact ih _ (by omega) p _ rfl (by simp only[Qz,Qr,zg,zf];omega) y m h
  cases h
  simp only[Option.some.injEq,Prod.mk.injEq]at h
  obtain⟨rfl,rfl⟩:=h
  omega
theorem QpT (hG:IB G) {i:Nat} {x:CSel} {m:Nat} (h:Zj G s a i=some (x,m)):(Qz x).length+2*i<=2*m+1:=by
 unfold Zj at h
 split at h
 cases h
 rename_i y j hy
 have:=QpO hG hy
 have w0:=Q4 s i
 exact QsQ hG _ _ _ rfl (by omega) x m h
theorem QtV (hG:IB G) {i0:Nat}:∀(n j:Nat) (l:List CSel),s.length-j=n->(Vk l).length+2*i0<=2*j+1->∀v m,V5 G s a l j=some (v,m)->(Vk v).length+2*i0<=2*m+1:=by
 intro n
 induction n using zi with
 | _ n ih=>
  intro j l hn hx v m h
  rw[V5]at h
  split at h
  split at h
  cases h
  rename_i z p hz
  split at h
  have:=QpT hG hz
  exact ih _ (by omega) p _ rfl (by rw[Qd0];omega) v m h
  cases h
  simp only[Option.some.injEq,Prod.mk.injEq]at h
  obtain⟨rfl,rfl⟩:=h
  omega
theorem Qnk:∀k,IB (QD s a k)
 | 0=>fun i v h=>by simp[QD]at h
 | k+1=>fun i v h=>by
  obtain⟨v,m⟩:=v
  rw[QD]at h
  split at h
  cases h
  rename_i x j hx
  have:=QpT (Qnk k) hx
  exact QtV (Qnk k) _ _ _ rfl (by simp[Vk];omega) v m h
end
section
variable {G:Nat->Option (List CSel×Nat)} {s:Bs} {a:Bool}
theorem Qbq {i k:Nat} (h:QP s i=some k):k<=s.length:=by
 unfold QP at h
 split at h
 cases h;omega
 cases h
theorem ps_le {i j:Nat} {x:Option CSel} {n:Bs} (h:iPs G s i=some (x,n,j)):j<=s.length:=by
 unfold iPs at h
 split at h
 split at h
 cases h
 rename_i nm p hp
 split at h
 cases h
 have hle:=(Law.iIdent_lt hp).2
 unfold V4 at h
 split at h
 simp only[zk,Prod.mk.injEq]at h
 obtain⟨⟨y,e⟩,h1,_,_,rfl⟩:=h
 unfold Zw at h1
 split at h1
 cases h1
 split at h1
 cases h1
 simp only[zk,Prod.mk.injEq]at h1
 obtain⟨e',h2,_,rfl⟩:=h1
 exact Qbq h2
 split at h
 simp only[zk,Prod.mk.injEq]at h
 obtain⟨⟨y,e⟩,h1,_,_,rfl⟩:=h
 unfold Zc at h1
 split at h1
 cases h1
 split at h1
 split at h1
 cases h1
 simp only[zk,Prod.mk.injEq]at h1
 obtain⟨e',h2,_,rfl⟩:=h1
 exact Qbq h2
 cases h1
 split at h
 simp only[zk,Prod.mk.injEq]at h
 obtain⟨⟨y,e⟩,h1,_,_,rfl⟩:=h
 unfold Zd at h1
 split at h1
 cases h1
 split at h1
 cases h1
 simp only[zk,Prod.mk.injEq]at h1
 obtain⟨e',h2,_,rfl⟩:=h1
 exact Qbq h2
 split at h
 simp only[zk,Prod.mk.injEq]at h
 obtain⟨⟨y,e⟩,h1,_,_,rfl⟩:=h
 unfold Zv at h1
 split at h1
 cases h1
 split at h1
 split at h1
 cases h1
 simp only[zk,Prod.mk.injEq]at h1
 obtain⟨e',h2,_,rfl⟩:=h1
 exact Qbq h2
 cases h1
 split at h
 simp only[Option.some.injEq,Prod.mk.injEq]at h
 obtain⟨_,_,rfl⟩:=h
 exact hle
 split at h
 simp only[Option.some.injEq,Prod.mk.injEq]at h
 obtain⟨_,_,rfl⟩:=h
 exact hle
 cases h
 cases h
theorem aV_le {key op:Bs} {k:Nat} {v:(Bs×Bs×Bs×Bool)×Nat} (h:aV s key op k=some v):v.2<=s.length:=by
 unfold aV at h
 refine Qa3 h (fun h=>?_) (fun h=>by cases h)
 split at h
 cases h
 rename_i val m hv
 unfold aW at h
 refine Qa3 h (fun h=>?_) (fun h=>by cases h)
 unfold aE at h
 by_cases hc:iWs s (if bat s (iWs s m)=105\/bat s (iWs s m)=73 then iWs s m+1 else iWs s m)<s.length/\bat s (iWs s (if bat s (iWs s m)=105\/bat s (iWs s m)=73 then iWs s m+1 else iWs s m))=93/\op∈attrSigns
 rw[if_pos hc]at h
 cases h
 exact hc.1
 rw[if_neg hc]at h
 cases h
theorem Qup {i:Nat} {v:(Bs×Bs×Bs×Bool)×Nat} (h:YM s i=some v):v.2<=s.length:=by
 unfold YM at h
 split at h
 cases h
 split at h
 refine Qa3 h (fun h=>?_) (fun h=>?_)
 cases h;simp only;omega
 exact Qa3 h (fun h=>aV_le h) (fun h=>by cases h)
 cases h
theorem QnV {i j:Nat} {x:Option CSel} {n:Bs} (h:Vm G s i=some (x,n,j)):j<=s.length:=by
 unfold Vm at h
 split at h
 simp only[zk,Prod.mk.injEq]at h
 obtain⟨⟨y,e⟩,h1,_,_,rfl⟩:=h
 exact (Law.iName_lt h1).2
 split at h
 simp only[zk,Prod.mk.injEq]at h
 obtain⟨⟨y,e⟩,h1,_,_,rfl⟩:=h
 exact (Law.iIdent_lt h1).2
 split at h
 rw[Qim]at h
 simp only[zk,Prod.mk.injEq]at h
 obtain⟨_,⟨y,h1,rfl⟩,_,_,rfl⟩:=h
 exact Qup h1
 exact ps_le h
theorem QeT:∀(n i:Nat) (l:List CSel) (pe:Bs),s.length-i=n->i<=s.length->∀x m,QT G s a i l pe=some (x,m)->m<=s.length:=by
 intro n
 induction n using zi with
 | _ n ih=>
  intro i l pe hn hl x m h
  rw[QT]at h
  split at h
  split at h
  cases h
  rename_i y nm j hy
  have hb:=QnV hy
  split at h
  rename_i hj
  split at h
  split at h
  exact ih _ (by omega) j l nm rfl hb x m h
  cases h
  split at h
  exact ih _ (by omega) j _ pe rfl hb x m h
  cases h
  cases h
  simp only[Option.some.injEq,Prod.mk.injEq]at h
  obtain⟨rfl,rfl⟩:=h
  exact hl
theorem QkV {i:Nat} {x:CSel} {m:Nat} (h:YD G s a i=some (x,m)):m<=s.length:=by
 unfold YD at h
 split at h
 split at h
 exact QeT _ _ [] [] rfl (by split<;>omega) x m h
 split at h
 exact QeT _ _ [] [] rfl (by omega) x m h
 split at h
 cases h
 rename_i t j ht
 exact QeT _ _ _ [] rfl (Law.iIdent_lt ht).2 x m h
 cases h
theorem QpV:∀(n j:Nat) (x:CSel),s.length-j=n->j<=s.length->∀y m,Vh G s a x j=some (y,m)->m<=s.length:=by
 intro n
 induction n using zi with
 | _ n ih=>
  intro j x hn hx y m h
  have w0:=Vw s j hx
  have w00:=Q4 s j
  rw[Vh]at h
  split at h
  split at h
  split at h
  cases h
  rename_i z p hz
  split at h
  exact ih _ (by omega) p _ rfl (QkV hz) y m h
  cases h
  split at h
  simp only[Option.some.injEq,Prod.mk.injEq]at h
  obtain⟨rfl,rfl⟩:=h
  exact w0
  split at h
  cases h
  rename_i z p hz
  split at h
  exact ih _ (by omega) p _ rfl (QkV hz) y m h
  cases h
  simp only[Option.some.injEq,Prod.mk.injEq]at h
  obtain⟨rfl,rfl⟩:=h
  exact w0
theorem QkY {i:Nat} {x:CSel} {m:Nat} (h:Zj G s a i=some (x,m)):m<=s.length:=by
 unfold Zj at h
 split at h
 cases h
 rename_i y j hy
 exact QpV _ _ _ rfl (QkV hy) x m h
theorem QrF:∀(n j:Nat) (l:List CSel),s.length-j=n->j<=s.length->∀v m,V5 G s a l j=some (v,m)->m<=s.length:=by
 intro n
 induction n using zi with
 | _ n ih=>
  intro j l hn hx v m h
  rw[V5]at h
  split at h
  split at h
  cases h
  rename_i z p hz
  split at h
  exact ih _ (by omega) p _ rfl (QkY hz) v m h
  cases h
  simp only[Option.some.injEq,Prod.mk.injEq]at h
  obtain⟨rfl,rfl⟩:=h
  exact hx
theorem Qyn:∀{k i:Nat} {v:List CSel×Nat},QD s a k i=some v->v.2<=s.length
 | 0,i,v,h=>by simp[QD]at h
 | k+1,i,v,h=>by
  obtain⟨v,m⟩:=v
  rw[QD]at h
  split at h
  cases h
  rename_i x j hx
  exact QrF _ _ _ rfl (QkY hx) v m h
theorem QgN {s:Bs} {many p:Bool} {l:List CSel} (h:QU s many p=some l):(VY many l).length<=2*s.length+2:=by
 unfold QU at h
 split at h
 rename_i hm
 split at h
 rename_i l' j hg
 split at h
 cases h
 cases h
 have h1:=Qnk 1001 _ _ hg
 have h2:=Qyn hg
 unfold VY
 rw[if_pos hm]
 simp only[Qr,zg]
 dsimp only at h1 h2
 omega
 cases h
 rename_i hm
 split at h
 rename_i x j hg
 split at h
 cases h
 cases h
 have h1:=QpT (Qnk 1001) hg
 have h2:=QkY hg
 unfold VY
 rw[if_neg hm]
 simp only[List.headD_cons]
 omega
 cases h
end
end
end Go.Proofs.YtengepcafdnalaaGreatDoor
