/-
  Parts of the proof that the law FnPrintBack holds for every input (texts Lf, Lg, Lh, Li, Lj). Conditions: none.
-/
import Derived.Test.YtengepcafdnalaaGreatDoorM28
import Derived.Defers
namespace Go.Proofs.YtengepcafdnalaaGreatDoor
open _root_.Array renaming getElem?_eq_getElem → zr, getElem?_eq_some_iff → zA, getD_eq_getD_getElem? → xb, getElem?_setIfInBounds_ne → zH
open _root_.List renaming getD_eq_getElem?_getD → zd, getElem?_replicate → xh, getElem?_eq_getElem → zg
open _root_.Nat renaming strongRecOn → zl, zero_add → xj, zero_le → zO, le_of_ble_eq_true → xy
open Go.Proofs.Tryz renaming f70 → xz, prog → zf, f98 → xt, f49 → zE
open _root_.UInt8 renaming toNat_or → ze
section
open Go Go.RowKit
set_option maxRecDepth 20000
section
variable {G:Nat->Option (List CSel×Nat)} {s:Bs} {a:Bool} {j k:Nat} {l:List CSel} {v:CSel×Nat}
theorem grp_0 (h:YX (Qw s a k) s a j=none):Qw s a (k+1) j=none:=by rw[Qw,h]
theorem grp_1 (h:YX (Qw s a k) s a j=some v):Qw s a (k+1) j=VM (Qw s a k) s a [v.1] v.2:=by rw[Qw,h]
theorem QgD (h:¬(j<s.length/\bat s j=44)):VM G s a l j=some (l,j):=by rw[VM,if_neg h]
theorem Qs4 (h:j<s.length/\bat s j=44) (e:YX G s a (j+1)=none):VM G s a l j=none:=by rw[VM,if_pos h,e]
theorem Qs3 (h:j<s.length/\bat s j=44) (e:YX G s a (j+1)=some v) (hj:j<v.2):VM G s a l j=VM G s a (l++[v.1]) v.2:=by
 rw[VM,if_pos h,e];dsimp only;rw[if_pos hj]
end
noncomputable def W70 (m:Nat):Wk:=⟨[(71,.pure c71),(72,.plain (c72 m))],Qe xz,true,false,[.tmp 2,.tmp 3],[50,71],[(5,2),(9,66)],[4,5]⟩
theorem QeR {p q:Prop} (k:q) (h:p:=by first | omega | (simp;done) | (simp;omega) | (simp;assumption)):p/\q:=⟨h,k⟩
theorem in70 (m:Nat) (hG:Sat 70 (c70 m)) {s:Bs} {i d:Nat} {a:Bool} {K:Out->Option SB->Prop} (h01:s.length<=1000000) (h02:i<=s.length) (h03:d<=1000) (h04:1001<=d+m)
 (hk:Qt (Qw s a (1001-d) i) (fun v=>i<v.2/\v.2<=s.length->K (.val (.tup [.sl (.csels v.1),.nilif])) (some (.blk 94 [.str s,.nat v.2,.nat (d+1),.bool a]))) (∀j,K (.val (.tup [.sl (.csels []),.ifx])) (some (.blk 94 [.str s,.nat j,.nat (d+1),.bool a])))) :
 (W70 m).C K 5 (mkS 73 [(1,(.cp [(.ptr 0 0)]))] [(0,.blk 94 [(.str s),(.nat i),(.nat (d+1)),(.bool a)])] 1):=by
 have hD:Qa (W70 m).D:=(Qa.cons ZY ZU (Qa.cons Qju (QiE m hG) Qa.nil))
 rw[show 1001-d=(1001-(d+1))+1 from by omega]at hk
 have L9:∀(mm:Nat) (p:Nat) (l:List CSel),s.length-p=mm->(i<p/\p<=s.length/\l.length<=p/\Qw s a ((1001-(d+1))+1) i=VM (Qw s a (1001-(d+1))) s a l p)->(W70 m).L K 9 (mkS 73 [(1,(.cp [(.ptr 0 0)])),(6,(.own 1))] [(1,.row (.csels l) true),(0,.blk 94 [(.str s),(.nat p),(.nat (d+1)),(.bool a)])] 2):=by
  intro mm
  induction mm using zl with
  | _ mm ih=>
   intro p l hm hI
   obtain⟨k1,k2,k3,k4⟩:=hI
   refine (W70 m).aL hD (have a0:Option SB:=some (.blk 94 [(.str s),(.nat p),(.nat (d+1)),(.bool a)]);cond (decide (p<s.length)) ((p<s.length)/\cond (!(decide (bat s p=44))) (K (.val (.tup [(.sl (.csels l)),.nilif])) a0) ((p+1<=9223372036854775807)/\(s.length<=1000000)/\(p+1<=s.length)/\(d+1<=1001)/\(1002<=d+1+m)/\Qt (YX (Qw s a (1001-(d+1))) s a (p+1)) (fun v3=>(p+1<v3.2/\v3.2<=s.length)->(l.length+1<=1099511627776)/\(W70 m).L K 9 (mkS 73 [(1,(.cp [(.ptr 0 0)])),(6,(.own 3))] [(3,.row (.csels (l++[v3.1])) true),(0,.blk 94 [(.str s),(.nat v3.2),(.nat (d+1)),(.bool a)])] 4)) (∀j4:Nat,K (.val (.tup [(.sl (.csels [])),.ifx])) (some (.blk 94 [(.str s),(.nat j4),(.nat (d+1)),(.bool a)]))))) (K (.val (.tup [(.sl (.csels l)),.nilif])) a0)) ?_
   refine Qb ?_ ?_<;>intro h1<;>try simp[-zd,-ze]at h1
   refine QeR ?_
   refine Qb ?_ ?_<;>intro h2<;>try simp[-zd,-ze]at h2
   exact Qd hk (k4.trans (QgD (fun q=>h2 q.2))) ⟨k1,k2⟩
   refine QeR (QeR (QeR (QeR (QeR ?_))))
   refine QJ (fun v3 h3=>?_) (fun h3=>?_)
   intro h4
   try simp[-zd,-ze]at h4
   refine QeR ?_
   exact Wk.L.rn [0,3] (ih _ (by omega) _ _ rfl ⟨by omega,h4.2,by simp;omega,k4.trans (Qs3 ⟨h1,h2⟩ h3 (by omega))⟩)
   intro j4
   exact Qc hk (k4.trans (Qs4 ⟨h1,h2⟩ h3)) _
   exact Qd hk (k4.trans (QgD (fun q=>by omega))) ⟨k1,k2⟩
 refine (W70 m).aC hD ((s.length<=1000000)/\(i<=s.length)/\(d+1<=1001)/\(1002<=d+1+m)/\Qt (YX (Qw s a (1001-(d+1))) s a i) (fun v1=>(i<v1.2/\v1.2<=s.length)->(W70 m).L K 9 (mkS 73 [(1,(.cp [(.ptr 0 0)])),(6,(.own 1))] [(1,.row (.csels [v1.1]) true),(0,.blk 94 [(.str s),(.nat v1.2),(.nat (d+1)),(.bool a)])] 2)) (∀j2:Nat,K (.val (.tup [(.sl (.csels [])),.ifx])) (some (.blk 94 [(.str s),(.nat j2),(.nat (d+1)),(.bool a)])))) ?_
 refine QeR (QeR (QeR (QeR ?_)))
 refine QJ (fun v1 h1=>?_) (fun h1=>?_)
 intro h2
 try simp[-zd,-ze]at h2
 exact L9 _ _ _ rfl ⟨h2.1,h2.2,by simp;omega,grp_1 h1⟩
 intro j2
 exact Qc hk (grp_0 h1) _
theorem big70 (m:Nat) (hG:Sat 70 (c70 m)):Sat 70 (fun svs b K=>match svs,b with
 | [.ptr 0 0],some (.blk 94 [.str s,.nat i,.nat d,.bool a])=>1000<d/\d<=1001/\K (.val (.tup [.sl (.csels []),.ifx])) (some (.blk 94 [.str s,.nat i,.nat d,.bool a]))
 | _,_=>False):=by
 have hD:Qa (W70 m).D:=(Qa.cons ZY ZU (Qa.cons Qju (QiE m hG) Qa.nil))
 refine (W70 m).sa hD xz fun svs b K hP=>?_
 split at hP
 rename_i s i d a
 obtain⟨h01,h02,hk⟩:=hP
 refine (W70 m).en (cond (decide (1000<d)) (K (.val (.tup [(.sl (.csels [])),.ifx])) (some (.blk 94 [(.str s),(.nat i),(.nat d),(.bool a)]))) ((d+1<=9223372036854775807)/\(W70 m).C K 4 (mkS 73 [] [(1,.blk 92 [(.ptr 0 0)]),(0,.blk 94 [(.str s),(.nat i),(.nat (d+1)),(.bool a)])] 2))) ?_
 refine Qb (fun h1=>?_) (fun h1=>?_)
 exact hk
 exfalso
 simp at h1
 omega
 exact hP.elim
end
section
open Go Go.RowKit
set_option maxRecDepth 20000
section
variable {g0:Glob} {w0:World} {M:Nat->Prop} {ω:Wit} {S:SS} {a:Act} {w:World}
theorem Sim.glob (h:Sim g0 w0 M ω S a w) {g':Glob} {a':Act} (ht:a'.tmps=a.tmps) (hd:a'.defers=g'.D) (h1:∀b x,g'.G b=some x->ω.Γ b=some x)
 (h2:∀b x,ω.Γ b=some x->g'.G b=some x\/M b\/w0.heap.size<=b):Sim g' w0 M ω S a' w where
 env:=by rw[ht];exact h.env
 heap:=h.heap
 sep:=h.sep
 ng:=h.ng
 mine:=h.mine
 nx:=h.nx
 wn:=h.wn
 gam:=h.gam
 fr:=h.fr
 df:=hd
 gl:=h1
 gn:=h2
 pin:=h.pin
 n0:=h.n0
theorem Sim.freeze (h:Sim g0 w0 M ω S a w) {r:Nat} {T:TypeId} {cs:List SV} (hb:hlk S.heap r=some (.blk T cs)) :
 ∃ω',ω.le ω'/\ω'.n=ω.n/\(∃vs,ω'.Γ (ω.ρ r)=some (vs,T)/\vs.size=cs.length/\∀(i:Nat) (s:SV) (u:Value),cs[i]? = some s->vs[i]? = some u->Rel ω' s u)/\Sim g0 w0 M ω' { S with heap:=Jg S.heap r } a w:=by
 obtain⟨vs,h1,h2,h3⟩:=h.heap r _ hb
 have hng:ω.Γ (ω.ρ r)=none:=h.ng r _ _ hb rfl
 have hl:=Wit.le_addΓ hng vs T
 refine⟨ω.addΓ (ω.ρ r) vs T,hl,rfl,⟨vs,by simp[Wit.addΓ],h2,fun i s u e1 e2=>(h3 i s u e1 e2).mono hl⟩,?_⟩
 have hd:=h.del r
 exact {
  env:=fun i s e=>let ⟨v,e1,e2⟩:=h.env i s e;⟨v,e1,e2.mono hl⟩
  heap:=fun q b e=>(hd.heap q b e).mono hl (by rw[h.wn];exact hd.nx q b e) fun _ _=>rfl
  sep:=fun q q' b b' k e e'=>hd.sep q q' b b' k e e'
  ng:=fun q b k e hk=>by
   have hk':bl ω q b=some k:=hk
   simp only[Wit.addΓ]
   split
   . rename_i hkg
     subst hkg
     obtain⟨hne,e'⟩:=Yq e
     exact absurd (h.sep r q _ b _ hb e' rfl hk') hne
   exact hd.ng q b k e hk'
  mine:=fun q b k e hk=>hd.mine q b k e hk
  nx:=hd.nx
  wn:=h.wn
  gam:=fun b c T e=>by
   simp only[Wit.addΓ]at e
   split at e
   . rename_i hbg
     simp only[Option.some.injEq,Prod.mk.injEq]at e
     obtain⟨rfl,rfl⟩:=e
     subst hbg
     exact⟨_,h1⟩
   exact h.gam b c T e
  fr:=h.fr
  df:=h.df
  gl:=fun b x e=>hl.Γ _ _ (h.gl b x e)
  gn:=fun b x e=>by
   simp only[Wit.addΓ]at e
   split at e
   . rename_i hbg
     subst hbg
     exact .inr (h.mine r _ _ hb rfl)
   exact h.gn b x e
  pin:=h.pin
  n0:=h.n0 }
end
theorem Sim.enter {g0:Glob} {w0:World} {M:Nat->Prop} {ω:Wit} {hp:Heap} {nx n:Nat} {w:World} (hS:Sim g0 w0 M ω ⟨[],hp,nx⟩ a0 w) {svs:List SV} {args:Array Value} (hn:args.size=svs.length)
 (hr:∀(i:Nat) (s:SV) (v:Value),svs[i]? = some s->args[i]? = some v->Rel ω s v) :
 Sim g0 w0 M ω ⟨Us n svs,hp,nx⟩ { tmps:=args++Array.replicate (n-args.size) undef,defers:=[] } w:=by
 refine { hS with env:=fun i s e=>?_,df:=hS.df }
 have he:=Qgq e
 by_cases hi:i<svs.length
 rw[List.getElem?_append_left hi]at he
 have hia:i<args.size:=by omega
 refine⟨args[i],?_,hr i s _ he (zr hia)⟩
 rw[Array.getElem?_append_left hia,zr hia]
 rw[List.getElem?_append_right (by omega),xh]at he
 split at he
 rename_i hlt
 cases he
 refine⟨undef,?_,.undef _⟩
 rw[Array.getElem?_append_right (by omega),Array.getElem?_replicate,if_pos (by omega)]
 cases he
def sq1:Code->Code
 | .seq x _=>x
 | c=>c
def sq2:Code->Code
 | .seq _ y=>y
 | c=>c
def Qb7:Code->Array Oper
 | .region _ o _=>o
 | _ => #[]
theorem QoA {c:Code} {id:Nat} {o1 o2:Oper} (hc:c=.region id #[o1,o2] false) {f:FuncId} {t u:Nat} (h1:o1.op=.makeFunc (.func f) #[] #[.tmp t]) (h1d:o1.dst=some u) (h1g:o1.guard=none)
 (h2:∃tys,o2.op=.defer ⟨.value (.tmp u),#[],tys⟩) (h2d:o2.dst=none) (h2g:o2.guard=none) {a:Act} {w:World} {Q:Exit->Act->World->Prop} (hu:u<a.tmps.size)
 (h:Q .normal ⟨(a.put (some u) (.func (.func f) #[] #[a.tmps.getD t undef])).tmps,⟨.fn (.func f) #[a.tmps.getD t undef],#[]⟩::a.defers⟩ w):c.wp zf Q a w:=by
 obtain⟨tys,h2⟩:=h2
 subst hc
 refine wp_region_list ?_
 have e:(a.put (some u) (.func (.func f) #[] #[a.tmps.getD t undef])).eval (.tmp u)=.func (.func f) #[] #[a.tmps.getD t undef]:=by
  show (a.tmps.setIfInBounds u _).getD u undef=_
  simp[Array.getD,hu]
 have r1:(execOp a.eval o1).run zf w=.ok (.value (.func (.func f) #[] #[a.tmps.getD t undef])) w:=by
  unfold execOp
  rw[h1]
  simp[Instr.makeFunc,Act.eval]
 have r2:(execOp (a.put (some u) (.func (.func f) #[] #[a.tmps.getD t undef])).eval o2).run zf w=.ok (.defer ⟨.fn (.func f) #[a.tmps.getD t undef],#[]⟩) w:=by
  unfold execOp
  rw[h2]
  have e2:resolve (a.put (some u) (.func (.func f) #[] #[a.tmps.getD t undef])).eval ⟨.value (.tmp u),#[],tys⟩ o2.type=pure ⟨.fn (.func f) #[a.tmps.getD t undef],#[]⟩:=by
   unfold resolve
   simp only[e]
   unfold Deferred.ofValue
   simp
  simp only[e2]
  rfl
 show wpList zf #[o1,o2] Q [o1,o2] a w
 simp only[wpList,Region.wanted,h1g,h2g,if_true]
 refine .inl ?_
 unfold Oper.wp
 rw[r1,Oper.upon_value,h1d]
 refine .inl ?_
 rw[r2]
 show Q .normal (({ (a.put (some u) (.func (.func f) #[] #[a.tmps.getD t undef])) with defers:=_ }:Act).put o2.dst undef) w
 rw[h2d]
 exact h
def cdx:Code->Code
 | .cond _ x _=>x
 | c=>c
noncomputable def p70 (k:Nat):Code:=sq1 (Nat.rec (Qe xz) (fun _ c=>sq2 c) k)
noncomputable def q70:Code:=Nat.rec (Qe xz) (fun _ c=>sq2 c) 4
noncomputable def o70 (k:Nat):Oper:=(Qb7 (p70 3)).toList.getD k default
def k70 (s:Bs) (d:Nat) (a:Bool) (K:Out->Option SB->Prop) (o:Out) (b:Option SB):Prop:=∃j,b=some (.blk 94 [.str s,.nat j,.nat (d+1),.bool a])/\K o (some (.blk 94 [.str s,.nat j,.nat d,.bool a]))
def Qn (S:SS) (e:Exit) (S':SS):Prop:=e=.normal/\S'=S
theorem Quw (m:Nat) (hG:Sat 70 (c70 m)):Sat 70 (c70 (m+1)):=by
 intro g0 w M ω svs args b K hS hn hr hP
 unfold c70 at hP
 split at hP
 rename_i s i d a
 obtain⟨h01,h02,h03,h04,hk⟩:=hP
 by_cases hd:1000<d
 refine big70 m hG g0 w M ω _ args _ K hS hn hr ⟨hd,h03,?_⟩
 rw[show 1001-d=0 from by omega]at hk
 exact Qc hk rfl i
 have hD:Qa (W70 m).D:=Qa.cons ZY ZU (Qa.cons Qju (QiE m hG) Qa.nil)
 refine calls_of_wp_defers (fn:=xz) (c:=.seq (p70 0) (.seq (p70 1) (.seq (p70 2) (.seq (p70 3) q70)))) (by kernel_rfl) (by kernel_rfl) ?_
 have q0:=Sim.enter (n:=xz.ntmps) (hp:=[(0,.blk 94 [.str s,.nat i,.nat d,.bool a])]) (nx:=1) hS hn hr
 -- the first regions
 have v0:VC (p70 0) ⟨Us xz.ntmps [.ptr 0 0],[(0,.blk 94 [.str s,.nat i,.nat d,.bool a])],1⟩ (Qn (mkS 73 [(0,(.ptr 0 0)),(1,(.ptr 1 0)),(2,.nilsl),(3,.nilif)] [(1,.blk 92 [(.ptr 0 0)]),(0,.blk 94 [(.str s),(.nat i),(.nat d),(.bool a)])] 2)):=by
  rw[show p70 0=.region 0 (Qb7 (p70 0)) false from by kernel_rfl]
  refine Un hD ?_
  have e:vcQ (W70 m).D (Qb7 (p70 0)).toList ⟨Us xz.ntmps [.ptr 0 0],[(0,.blk 94 [.str s,.nat i,.nat d,.bool a])],1⟩ (Qn (mkS 73 [(0,(.ptr 0 0)),(1,(.ptr 1 0)),(2,.nilsl),(3,.nilif)] [(1,.blk 92 [(.ptr 0 0)]),(0,.blk 94 [(.str s),(.nat i),(.nat d),(.bool a)])] 2) .normal)=(Qn (mkS 73 [(0,(.ptr 0 0)),(1,(.ptr 1 0)),(2,.nilsl),(3,.nilif)] [(1,.blk 92 [(.ptr 0 0)]),(0,.blk 94 [(.str s),(.nat i),(.nat d),(.bool a)])] 2) .normal (mkS 73 [(0,(.ptr 0 0)),(1,(.ptr 1 0)),(2,.nilsl),(3,.nilif)] [(1,.blk 92 [(.ptr 0 0)]),(0,.blk 94 [(.str s),(.nat i),(.nat d),(.bool a)])] 2)):=by kernel_rfl
  rw[e]
  exact⟨rfl,rfl⟩
 have v1:VC (p70 1) (mkS 73 [(0,(.ptr 0 0)),(1,(.ptr 1 0)),(2,.nilsl),(3,.nilif)] [(1,.blk 92 [(.ptr 0 0)]),(0,.blk 94 [(.str s),(.nat i),(.nat d),(.bool a)])] 2) (Qn (mkS 73 [(0,(.ptr 0 0)),(1,(.ptr 1 0)),(2,.nilsl),(3,.nilif),(9,(.ptr 0 0)),(10,(.ptr 0 0)),(11,(.ptr 0 2)),(12,(.nat d)),(13,(.bool (decide (1000<d))))] [(1,.blk 92 [(.ptr 0 0)]),(0,.blk 94 [(.str s),(.nat i),(.nat d),(.bool a)])] 2)):=by
  rw[show p70 1=.seq (.region 1 (Qb7 (sq1 (p70 1))) false) (.cond (.tmp 13) (cdx (sq2 (p70 1))) .skip) from by kernel_rfl]
  refine VC.seq (VC.mono (Q:=Qn (mkS 73 [(0,(.ptr 0 0)),(1,(.ptr 1 0)),(2,.nilsl),(3,.nilif),(9,(.ptr 0 0)),(10,(.ptr 0 0)),(11,(.ptr 0 2)),(12,(.nat d)),(13,(.bool (decide (1000<d))))] [(1,.blk 92 [(.ptr 0 0)]),(0,.blk 94 [(.str s),(.nat i),(.nat d),(.bool a)])] 2)) (Un hD ?_) ?_)
  have e:vcQ (W70 m).D (Qb7 (sq1 (p70 1))).toList (mkS 73 [(0,(.ptr 0 0)),(1,(.ptr 1 0)),(2,.nilsl),(3,.nilif)] [(1,.blk 92 [(.ptr 0 0)]),(0,.blk 94 [(.str s),(.nat i),(.nat d),(.bool a)])] 2) (Qn (mkS 73 [(0,(.ptr 0 0)),(1,(.ptr 1 0)),(2,.nilsl),(3,.nilif),(9,(.ptr 0 0)),(10,(.ptr 0 0)),(11,(.ptr 0 2)),(12,(.nat d)),(13,(.bool (decide (1000<d))))] [(1,.blk 92 [(.ptr 0 0)]),(0,.blk 94 [(.str s),(.nat i),(.nat d),(.bool a)])] 2) .normal)=(Qn (mkS 73 [(0,(.ptr 0 0)),(1,(.ptr 1 0)),(2,.nilsl),(3,.nilif),(9,(.ptr 0 0)),(10,(.ptr 0 0)),(11,(.ptr 0 2)),(12,(.nat d)),(13,(.bool (decide (1000<d))))] [(1,.blk 92 [(.ptr 0 0)]),(0,.blk 94 [(.str s),(.nat i),(.nat d),(.bool a)])] 2) .normal (mkS 73 [(0,(.ptr 0 0)),(1,(.ptr 1 0)),(2,.nilsl),(3,.nilif),(9,(.ptr 0 0)),(10,(.ptr 0 0)),(11,(.ptr 0 2)),(12,(.nat d)),(13,(.bool (decide (1000<d))))] [(1,.blk 92 [(.ptr 0 0)]),(0,.blk 94 [(.str s),(.nat i),(.nat d),(.bool a)])] 2)):=by kernel_rfl
  rw[e]
  exact⟨rfl,rfl⟩
  rintro e S' ⟨rfl,rfl⟩
  refine VC.cond ?_
  unfold arg
  have e:ev (mkS 73 [(0,(.ptr 0 0)),(1,(.ptr 1 0)),(2,.nilsl),(3,.nilif),(9,(.ptr 0 0)),(10,(.ptr 0 0)),(11,(.ptr 0 2)),(12,(.nat d)),(13,(.bool (decide (1000<d))))] [(1,.blk 92 [(.ptr 0 0)]),(0,.blk 94 [(.str s),(.nat i),(.nat d),(.bool a)])] 2).env (.tmp 13)=.bool (decide (1000<d)):=by kernel_rfl
  rw[e]
  exact⟨trivial,fun h=>absurd (of_decide_eq_true h) hd,fun _=>VC.skip ⟨rfl,rfl⟩⟩
 have v2:VC (p70 2) (mkS 73 [(0,(.ptr 0 0)),(1,(.ptr 1 0)),(2,.nilsl),(3,.nilif),(9,(.ptr 0 0)),(10,(.ptr 0 0)),(11,(.ptr 0 2)),(12,(.nat d)),(13,(.bool (decide (1000<d))))] [(1,.blk 92 [(.ptr 0 0)]),(0,.blk 94 [(.str s),(.nat i),(.nat d),(.bool a)])] 2) (Qn (mkS 73 [(0,(.ptr 0 0)),(1,(.ptr 1 0)),(2,.nilsl),(3,.nilif),(9,(.ptr 0 0)),(10,(.ptr 0 0)),(11,(.ptr 0 2)),(12,(.nat d)),(13,(.bool (decide (1000<d)))),(15,(.ptr 0 0)),(16,(.ptr 0 0)),(17,(.ptr 0 2)),(18,(.nat d)),(19,(.nat (d+1))),(20,(.ptr 0 0)),(21,(.ptr 0 2))] [(1,.blk 92 [(.ptr 0 0)]),(0,.blk 94 [(.str s),(.nat i),(.nat (d+1)),(.bool a)])] 2)):=by
  rw[show p70 2=.region 3 (Qb7 (p70 2)) false from by kernel_rfl]
  refine Un hD ?_
  have e:vcQ (W70 m).D (Qb7 (p70 2)).toList (mkS 73 [(0,(.ptr 0 0)),(1,(.ptr 1 0)),(2,.nilsl),(3,.nilif),(9,(.ptr 0 0)),(10,(.ptr 0 0)),(11,(.ptr 0 2)),(12,(.nat d)),(13,(.bool (decide (1000<d))))] [(1,.blk 92 [(.ptr 0 0)]),(0,.blk 94 [(.str s),(.nat i),(.nat d),(.bool a)])] 2) (Qn (mkS 73 [(0,(.ptr 0 0)),(1,(.ptr 1 0)),(2,.nilsl),(3,.nilif),(9,(.ptr 0 0)),(10,(.ptr 0 0)),(11,(.ptr 0 2)),(12,(.nat d)),(13,(.bool (decide (1000<d)))),(15,(.ptr 0 0)),(16,(.ptr 0 0)),(17,(.ptr 0 2)),(18,(.nat d)),(19,(.nat (d+1))),(20,(.ptr 0 0)),(21,(.ptr 0 2))] [(1,.blk 92 [(.ptr 0 0)]),(0,.blk 94 [(.str s),(.nat i),(.nat (d+1)),(.bool a)])] 2) .normal)=(d+1<=9223372036854775807/\Qn (mkS 73 [(0,(.ptr 0 0)),(1,(.ptr 1 0)),(2,.nilsl),(3,.nilif),(9,(.ptr 0 0)),(10,(.ptr 0 0)),(11,(.ptr 0 2)),(12,(.nat d)),(13,(.bool (decide (1000<d)))),(15,(.ptr 0 0)),(16,(.ptr 0 0)),(17,(.ptr 0 2)),(18,(.nat d)),(19,(.nat (d+1))),(20,(.ptr 0 0)),(21,(.ptr 0 2))] [(1,.blk 92 [(.ptr 0 0)]),(0,.blk 94 [(.str s),(.nat i),(.nat (d+1)),(.bool a)])] 2) .normal (mkS 73 [(0,(.ptr 0 0)),(1,(.ptr 1 0)),(2,.nilsl),(3,.nilif),(9,(.ptr 0 0)),(10,(.ptr 0 0)),(11,(.ptr 0 2)),(12,(.nat d)),(13,(.bool (decide (1000<d)))),(15,(.ptr 0 0)),(16,(.ptr 0 0)),(17,(.ptr 0 2)),(18,(.nat d)),(19,(.nat (d+1))),(20,(.ptr 0 0)),(21,(.ptr 0 2))] [(1,.blk 92 [(.ptr 0 0)]),(0,.blk 94 [(.str s),(.nat i),(.nat (d+1)),(.bool a)])] 2)):=by kernel_rfl
  rw[e]
  exact⟨by omega,rfl,rfl⟩
 refine wp_seq (wp_mono (v0 g0 w M ω _ w q0) ?_)
 rintro e a1 w1 ⟨_,⟨rfl,rfl⟩,ω1,q1⟩
 refine wp_seq (wp_mono (v1 g0 w M ω1 _ w1 q1) ?_)
 rintro e a2 w2 ⟨_,⟨rfl,rfl⟩,ω2,q2⟩
 refine wp_seq (wp_mono (v2 g0 w M ω2 _ w2 q2) ?_)
 rintro e a3 w3 ⟨_,⟨rfl,rfl⟩,ω3,q3⟩
 -- the closure
 obtain⟨_,hz,_⟩:=q3.env 22 .undef (by kernel_rfl)
 have hu:22<a3.tmps.size:=(zA.1 hz).1
 obtain⟨_,hv1,rv1⟩:=q3.env 1 (.ptr 1 0) (by kernel_rfl)
 obtain⟨rfl,_⟩:=rv1.ptr_inv
 have hget:a3.tmps.getD 1 undef=.pointer (some ⟨ω3.ρ 1,0,none⟩):=by
  rw[xb,hv1];rfl
 have hdf:a3.defers=[]:=q3.df.trans hS.df.symm
 refine wp_seq (QoA (o1:=o70 0) (o2:=o70 1) (f:=98) (t:=1) (u:=22) (id:=4) (by kernel_rfl) (by kernel_rfl) (by kernel_rfl) (by kernel_rfl) ⟨#[],by kernel_rfl⟩ (by kernel_rfl) (by kernel_rfl) hu ?_)
 rw[hget,hdf]
 show q70.wp zf _ _ _
 have q4:=q3.put (.undef (.func (.func 98) #[] #[.pointer (some ⟨ω3.ρ 1,0,none⟩)])) 22
 obtain⟨ω5,l5,n5,⟨vs,k1,k2,k3⟩,q5⟩:=q4.freeze (r:=1) (T:=92) (cs:=[.ptr 0 0]) (by kernel_rfl)
 have hpin0:M (ω.ρ 0):=by
  rcases hS.mine 0 _ (ω.ρ 0) rfl rfl with h | h
  exact h
  have:=(hS.heap 0 _ rfl).lt (show bl ω 0 (.blk 94 [.str s,.nat i,.nat d,.bool a])=some (ω.ρ 0) from rfl)
  omega
 have pin5:ω5.ρ 0=ω.ρ 0:=q5.pin _ hpin0
 have relcp:Rel ω5 (.cp [.ptr 0 0]) (.pointer (some ⟨ω3.ρ 1,0,none⟩)):=
  .cp _ _ 0 vs 92 k1 (by rw[k2];simp) fun j s u e1 e2=>by rw[xj]at e2;exact k3 j s u e1 e2
 have hv1':(a3.put (some 22) (.func (.func 98) #[] #[.pointer (some ⟨ω3.ρ 1,0,none⟩)])).tmps[1]? = some (.pointer (some ⟨ω3.ρ 1,0,none⟩)):=by
  rw[Act.put_some,zH (by decide)];exact hv1
 have q6:=q5.put relcp 1
 rw[Qb3 hv1']at q6
 obtain⟨g',hgG,hgD⟩:∃g':Glob,g'.G=ω5.Γ/\g'.D=[⟨.fn (.func 98) #[.pointer (some ⟨ω3.ρ 1,0,none⟩)],#[]⟩]:=
  ⟨⟨ω5.Γ,fun g hg=>by obtain⟨t,v,T,e⟩:=g0.err g hg;exact⟨t,v,T,q5.gl g _ e⟩,_,by obtain⟨T,e⟩:=g0.tab;exact⟨T,q5.gl 6 _ e⟩⟩,rfl,rfl⟩
 have q7:Sim g' w M ω5 _ ⟨(a3.put (some 22) (.func (.func 98) #[] #[.pointer (some ⟨ω3.ρ 1,0,none⟩)])).tmps,[⟨.fn (.func 98) #[.pointer (some ⟨ω3.ρ 1,0,none⟩)],#[]⟩]⟩ w3:=
  q6.glob rfl hgD.symm (fun b x e=>by rw[hgG]at e;exact e) (fun b x e=>.inl (by rw[hgG];exact e))
 have q8:∃ω8,Sim g' w M ω8 (mkS 73 [(1,(.cp [(.ptr 0 0)]))] [(0,.blk 94 [(.str s),(.nat i),(.nat (d+1)),(.bool a)])] 1) ⟨(a3.put (some 22) (.func (.func 98) #[] #[.pointer (some ⟨ω3.ρ 1,0,none⟩)])).tmps,[⟨.fn (.func 98) #[.pointer (some ⟨ω3.ρ 1,0,none⟩)],#[]⟩]⟩ w3:=by
  refine V9.ren [0] ?_ ?_ ?_ g' w M ω5 _ w3 q7<;>kernel_rfl
 obtain⟨ω8,q8⟩:=q8
 -- the rest
 have hk5:Qt (Qw s a (1001-d) i) (fun v=>i<v.2/\v.2<=s.length->(k70 s d a K) (.val (.tup [.sl (.csels v.1),.nilif])) (some (.blk 94 [.str s,.nat v.2,.nat (d+1),.bool a])))
  (∀j,(k70 s d a K) (.val (.tup [.sl (.csels []),.ifx])) (some (.blk 94 [.str s,.nat j,.nat (d+1),.bool a]))):=by
  revert hk
  rcases Qw s a (1001-d) i with _ | v
  . exact fun hk j=>⟨j,rfl,hk j⟩
  exact fun hk h=>⟨v.2,rfl,hk h⟩
 have hin:=in70 m hG (K:=k70 s d a K) h01 h02 (by omega) (by omega) hk5
 unfold Wk.C AtC at hin
 rw[show QeF (W70 m).B [] 5=some (q70,[]) from by kernel_rfl]at hin
 replace hin:VC q70 (mkS 73 [(1,(.cp [(.ptr 0 0)]))] [(0,.blk 94 [(.str s),(.nat i),(.nat (d+1)),(.bool a)])] 1) (retQ true false [.tmp 2,.tmp 3] [50,71] (k70 s d a K)):=hin
 refine wp_mono (hin g' w M ω8 _ w3 q8) ?_
 rintro e a' w' ⟨S',hq,ω9,q9⟩
 have fin:QpD true false [.tmp 2,.tmp 3] [50,71] (k70 s d a K) S' ->
  Leaves zf xz a'.tmps (fun e w'=>∃v o b',e=.returned v/\K o b'/\QrF g0 w M ω o b' v w') a'.defers .returning w':=by
  intro hk'
  rw[q9.df,hgD]
  obtain⟨ss,vs',j1,j2,j3,j4,j5⟩:=Qe7 q9 hk'
  obtain⟨ω10,l10,p2,p3,q10⟩:=Sim.fixRs [50,71] ss S' ω9 q9 vs' (by omega) j4
  obtain⟨r1,r2,j,rb,rK⟩:=j1
  have hb0:hlk (fixRs S' [50,71] ss).2.heap 0=some (.blk 94 [.str s,.nat j,.nat (d+1),.bool a]):=rb
  refine leaves_cons (f:=98) (args := #[.pointer (some ⟨ω3.ρ 1,0,none⟩)]) (by simp) ?_ ?_
  . have k1:zf.funcs[98]? = some xt:=by kernel_rfl
    have k2 : (xt.name == "runtime.NumGoroutine") = false := by kernel_rfl
    have k3:xt.body=some (Qe xt):=by kernel_rfl
    have hne : xt.name ≠ "runtime.NumGoroutine" := by simpa using k2
    simp[invoke,callFunc,k1,k3,hne]
  refine (callsD_of_wp (fn:=xt) (c:=Qe xt) (R:=fun e w''=>(∃v,e=.returned v)/\QrF g0 w M ω (.val (Qm5 (fixRs S' [50,71] ss).1)) (some (.blk 94 [.str s,.nat j,.nat d,.bool a])) (Qcy vs') w'') (by kernel_rfl) (by kernel_rfl) ?_).mono ?_
  . have hpin:ω10.ρ 0=ω5.ρ 0:=(q10.pin _ hpin0).trans pin5.symm
    have hΓ:ω10.Γ (ω3.ρ 1)=some (vs,92):=q10.gl _ _ (by rw[hgG];exact k1)
    have relvp:Rel ω10 (.cp [.ptr 0 0]) (.pointer (some ⟨ω3.ρ 1,0,none⟩)):=by
     refine .cp _ _ 0 vs 92 hΓ (by rw[k2];simp) fun j s u e1 e2=>?_
     match j,e1 with
     | 0,e1=>
      cases e1
      obtain⟨rfl,_⟩:=(k3 0 _ u rfl (by simpa using e2)).ptr_inv
      rw[<-hpin]
      exact .ptr 0 0 (by rw[q10.wn];exact q10.n0)
    obtain⟨g8,h8G,h8D⟩:∃g8:Glob,g8.G=ω10.Γ/\g8.D=[]:=
     ⟨⟨ω10.Γ,fun g hg=>by obtain⟨t,v,T,e⟩:=g'.err g hg;exact⟨t,v,T,q10.gl g _ e⟩,_,by obtain⟨T,e⟩:=g'.tab;exact⟨T,q10.gl 6 _ e⟩⟩,rfl,rfl⟩
    have q11:Sim g8 w M ω10 _ ⟨a'.tmps,[]⟩ w':=q10.glob rfl h8D.symm (fun b x e=>by rw[h8G]at e;exact e) (fun b x e=>.inl (by rw[h8G];exact e))
    have q11':Sim g8 w M ω10 ⟨[],(fixRs S' [50,71] ss).2.heap,(fixRs S' [50,71] ss).2.nx⟩ a0 w':={ q11 with env:=fun i s e=>by simp[elk,lk2]at e,df:=h8D.symm }
    have q12:=q11'.enter (n:=xt.ntmps) (svs:=[.cp [.ptr 0 0]]) (args := #[.pointer (some ⟨ω3.ρ 1,0,none⟩)]) rfl (fun i s v e1 e2=>by
     match i,e1 with
     | 0,e1=>cases e1;cases e2;exact relvp)
    have q13:∃ω13,Sim g8 w M ω13 (mkS 8 [(0,(.cp [(.ptr 0 0)]))] [(0,.blk 94 [(.str s),(.nat j),(.nat (d+1)),(.bool a)])] 1) { tmps := #[.pointer (some ⟨ω3.ρ 1,0,none⟩)]++Array.replicate (xt.ntmps-1) undef,defers:=[] } w':=by
     refine V9.ren [0] ?_ ?_ ?_ g8 w M ω10 _ w' q12
     . kernel_rfl
     . show [hlk (fixRs S' [50,71] ss).2.heap 0]=[_]
       rw[hb0]
     kernel_rfl
    obtain⟨ω13,q13⟩:=q13
    have v8:VC (Qe xt) (mkS 8 [(0,(.cp [(.ptr 0 0)]))] [(0,.blk 94 [(.str s),(.nat j),(.nat (d+1)),(.bool a)])] 1) (Qn (mkS 8 [(0,(.cp [(.ptr 0 0)])),(1,(.ptr 0 0)),(2,(.ptr 0 0)),(3,(.ptr 0 2)),(4,(.nat (d+1))),(5,(.nat d)),(6,(.ptr 0 0)),(7,(.ptr 0 2))] [(0,.blk 94 [(.str s),(.nat j),(.nat d),(.bool a)])] 1)):=by
     rw[show Qe xt=.region 0 (Qb7 (Qe xt)) false from by kernel_rfl]
     refine Un (D:=[]) Qa.nil ?_
     have e:vcQ [] (Qb7 (Qe xt)).toList (mkS 8 [(0,(.cp [(.ptr 0 0)]))] [(0,.blk 94 [(.str s),(.nat j),(.nat (d+1)),(.bool a)])] 1) (Qn (mkS 8 [(0,(.cp [(.ptr 0 0)])),(1,(.ptr 0 0)),(2,(.ptr 0 0)),(3,(.ptr 0 2)),(4,(.nat (d+1))),(5,(.nat d)),(6,(.ptr 0 0)),(7,(.ptr 0 2))] [(0,.blk 94 [(.str s),(.nat j),(.nat d),(.bool a)])] 1) .normal)=((1<=d+1/\d+1<=9223372036854775807)/\Qn (mkS 8 [(0,(.cp [(.ptr 0 0)])),(1,(.ptr 0 0)),(2,(.ptr 0 0)),(3,(.ptr 0 2)),(4,(.nat (d+1))),(5,(.nat d)),(6,(.ptr 0 0)),(7,(.ptr 0 2))] [(0,.blk 94 [(.str s),(.nat j),(.nat d),(.bool a)])] 1) .normal (mkS 8 [(0,(.cp [(.ptr 0 0)])),(1,(.ptr 0 0)),(2,(.ptr 0 0)),(3,(.ptr 0 2)),(4,(.nat (d+1))),(5,(.nat d)),(6,(.ptr 0 0)),(7,(.ptr 0 2))] [(0,.blk 94 [(.str s),(.nat j),(.nat d),(.bool a)])] 1)):=by kernel_rfl
     rw[e]
     exact⟨by omega,rfl,rfl⟩
    refine wp_mono (v8 g8 w M ω13 _ w' q13) ?_
    rintro e a'' w'' ⟨_,⟨rfl,rfl⟩,ω14,q14⟩
    refine⟨q14.df.trans h8D,_,Qag (l:=[]) (vs:=[]) (by kernel_rfl) (by decide) rfl (fun i r v e=>by simp at e),⟨_,rfl⟩,?_⟩
    have q15:Sim g0 w M ω14 _ ⟨a''.tmps,[]⟩ w'':=q14.glob rfl hS.df
     (fun b x e=>q14.gl _ _ (by rw[h8G];exact q10.gl _ _ (by rw[hgG];exact q5.gl _ _ e)))
     (fun b x e=>by
      rcases q14.gn b x e with h | h | h
      . rw[h8G]at h
        rcases q10.gn b x h with h | h | h
        . rw[hgG]at h;exact q5.gn b x h
        . exact .inr (.inl h)
        exact .inr (.inr h)
      . exact .inr (.inl h)
      exact .inr (.inr h))
    refine⟨ω14,⟨[],[(0,.blk 94 [.str s,.nat j,.nat d,.bool a])],1⟩,{ q15 with env:=fun i s e=>by simp[elk,lk2]at e,df:=hS.df },fun c hc=>?_,QgZ r1,?_⟩
    . cases hc
      exact⟨rfl,rfl⟩
    have h1:=(QlB (by omega) p3).lower (m:=0) (QgZ r1)
    exact h1.mono ⟨fun b x e=>q14.gl _ _ (by rw[h8G];exact e),zO _,fun r hr=>absurd hr (Nat.not_lt_zero _),fun r hr=>absurd hr (Nat.not_lt_zero _)⟩
  rintro e u' w'' ⟨rfl,⟨v,rfl⟩,hL⟩
  refine⟨Qcy vs',Qag (l:=[.tmp 2,.tmp 3]) (by kernel_rfl) (by decide) j3 (fun i r v e1 e2=>?_),Qcy vs',_,_,rfl,rK,hL⟩
  match i,e1 with
  | 0,e1=>cases e1;have:=j5 0 _ v rfl e2;simp[QeD]at this ⊢;exact this
  | 1,e1=>cases e1;have:=j5 1 _ v rfl e2;simp[QeD]at this ⊢;exact this
 cases e with
 | normal=>exact fin hq
 | ret=>exact fin hq
 | exit i=>exact hq.elim
 | goto l=>exact hq.elim
 | panic ch=>exact hq.elim
 | outgrown=>exact hq.elim
 exact hP.elim
theorem QiF:∀m,Sat 70 (c70 m)
 | 0=>by
  intro g0 w M ω svs args b K hS hn hr hP
  unfold c70 at hP
  split at hP
  obtain⟨_,_,h3,h4,_⟩:=hP
  omega
  exact hP.elim
 | m+1=>Quw m (QiF m)
end
section
open Go Go.RowKit
set_option maxRecDepth 20000
section
variable {s:Bs} {p:Bool}
theorem Ql0 {v:List CSel×Nat} (h:Qw s p (1001-0) 0=some v) (hj:¬v.2<s.length):QV s true p=some v.1:=by
 obtain⟨l,j⟩:=v
 have h:Qw s p 1001 0=some (l,j):=h
 unfold QV;rw[if_pos rfl,h];exact if_neg hj
theorem QiY {v:List CSel×Nat} (h:Qw s p (1001-0) 0=some v) (hj:v.2<s.length):QV s true p=none:=by
 obtain⟨l,j⟩:=v
 have h:Qw s p 1001 0=some (l,j):=h
 unfold QV;rw[if_pos rfl,h];exact if_pos hj
theorem QiZ (h:Qw s p (1001-0) 0=none):QV s true p=none:=by
 have h:Qw s p 1001 0=none:=h
 unfold QV;rw[if_pos rfl,h]
theorem QlZ {v:CSel×Nat} (h:YX (Qw s p (1001-0)) s p 0=some v) (hj:¬v.2<s.length):QV s false p=some [v.1]:=by
 obtain⟨l,j⟩:=v
 have h:YX (Qw s p 1001) s p 0=some (l,j):=h
 unfold QV;rw[if_neg (by decide),h];exact if_neg hj
theorem QiW {v:CSel×Nat} (h:YX (Qw s p (1001-0)) s p 0=some v) (hj:v.2<s.length):QV s false p=none:=by
 obtain⟨l,j⟩:=v
 have h:YX (Qw s p 1001) s p 0=some (l,j):=h
 unfold QV;rw[if_neg (by decide),h];exact if_pos hj
theorem QiX (h:YX (Qw s p (1001-0)) s p 0=none):QV s false p=none:=by
 have h:YX (Qw s p 1001) s p 0=none:=h
 unfold QV;rw[if_neg (by decide),h]
end
def c44 (svs:List SV) (b:Option SB) (K:Out->Option SB->Prop):Prop:=match svs,b with
 | [.str s],none=>s.length<=1000000/\Qt (QV s true false) (fun v=>K (.val (.tup [.sl (.csels v),.nilif])) none) (K (.val (.tup [.sl (.csels []),.ifx])) none)
 | _,_=>False
noncomputable def W44:Wk:=⟨[(70,.plain (c70 1002)),(71,.pure c71)],Qe Tryz.f44,false,false,[.tmp 2,.tmp 3],[50,71],[],[]⟩
theorem has44:Has 44:=hsf Tryz.f44
theorem Ut {p q:Prop} (k:q) (h:p:=by first | omega | (simp;done) | (simp;omega) | (simp;assumption)):p/\q:=⟨h,k⟩
theorem sat44:Sat 44 c44:=by
 have hD:Qa W44.D:=(Qa.cons QqE (QiF 1002) (Qa.cons ZY ZU Qa.nil))
 refine W44.sa hD Tryz.f44 fun svs b K hP=>?_
 unfold c44 at hP
 split at hP
 rename_i s
 obtain⟨h01,hk⟩:=hP
 refine W44.en ((s.length<=1000000)/\(0<=s.length)/\(0<=1001)/\(1002<=0+1002)/\Qt ((Qw s false (1001-0)) 0) (fun v1=>(0<v1.2/\v1.2<=s.length)->cond (decide (v1.2<s.length)) (K (.val (.tup [(.sl (.csels [])),.ifx])) none) (K (.val (.tup [(.sl (.csels v1.1)),.nilif])) none)) (∀j2:Nat,K (.val (.tup [(.sl (.csels [])),.ifx])) none)) ?_
 refine Ut (Ut (Ut (Ut ?_)))
 refine QJ (fun v1 h1=>?_) (fun h1=>?_)
 intro h2
 try simp[-zd,-ze]at h2
 refine Qb ?_ ?_<;>intro h3<;>try simp[-zd,-ze]at h3
 exact Qc hk (QiY h1 h3)
 have q:=Qd hk (Ql0 h1 (by omega))
 exact q
 intro j2
 exact Qc hk (QiZ h1)
 exact hP.elim
def c45 (svs:List SV) (b:Option SB) (K:Out->Option SB->Prop):Prop:=match svs,b with
 | [.str s],none=>s.length<=1000000/\Qt (QV s true true) (fun v=>K (.val (.tup [.sl (.csels v),.nilif])) none) (K (.val (.tup [.sl (.csels []),.ifx])) none)
 | _,_=>False
noncomputable def W45:Wk:=⟨[(70,.plain (c70 1002)),(71,.pure c71)],Qe Tryz.f45,false,false,[.tmp 2,.tmp 3],[50,71],[],[]⟩
theorem has45:Has 45:=hsf Tryz.f45
theorem sat45:Sat 45 c45:=by
 have hD:Qa W45.D:=(Qa.cons QqE (QiF 1002) (Qa.cons ZY ZU Qa.nil))
 refine W45.sa hD Tryz.f45 fun svs b K hP=>?_
 unfold c45 at hP
 split at hP
 rename_i s
 obtain⟨h01,hk⟩:=hP
 refine W45.en ((s.length<=1000000)/\(0<=s.length)/\(0<=1001)/\(1002<=0+1002)/\Qt ((Qw s true (1001-0)) 0) (fun v1=>(0<v1.2/\v1.2<=s.length)->cond (decide (v1.2<s.length)) (K (.val (.tup [(.sl (.csels [])),.ifx])) none) (K (.val (.tup [(.sl (.csels v1.1)),.nilif])) none)) (∀j2:Nat,K (.val (.tup [(.sl (.csels [])),.ifx])) none)) ?_
 refine Ut (Ut (Ut (Ut ?_)))
 refine QJ (fun v1 h1=>?_) (fun h1=>?_)
 intro h2
 try simp[-zd,-ze]at h2
 refine Qb ?_ ?_<;>intro h3<;>try simp[-zd,-ze]at h3
 exact Qc hk (QiY h1 h3)
 have q:=Qd hk (Ql0 h1 (by omega))
 exact q
 intro j2
 exact Qc hk (QiZ h1)
 exact hP.elim
def c46 (svs:List SV) (b:Option SB) (K:Out->Option SB->Prop):Prop:=match svs,b with
 | [.str s],none=>s.length<=1000000/\Qt (QV s false false) (fun v=>K (.val (.tup [.cs (v.headD default),.nilif])) none) (K (.val (.tup [.nilif,.ifx])) none)
 | _,_=>False
noncomputable def W46:Wk:=⟨[(71,.pure c71),(72,.plain (c72 1002))],Qe Tryz.f46,false,false,[.tmp 2,.tmp 3],[56,71],[],[]⟩
theorem has46:Has 46:=hsf Tryz.f46
theorem sat46:Sat 46 c46:=by
 have hD:Qa W46.D:=(Qa.cons ZY ZU (Qa.cons Qju (QiE 1002 (QiF 1002)) Qa.nil))
 refine W46.sa hD Tryz.f46 fun svs b K hP=>?_
 unfold c46 at hP
 split at hP
 rename_i s
 obtain⟨h01,hk⟩:=hP
 refine W46.en ((s.length<=1000000)/\(0<=s.length)/\(0<=1001)/\(1002<=0+1002)/\Qt (YX (Qw s false (1001-0)) s false 0) (fun v1=>(0<v1.2/\v1.2<=s.length)->cond (decide (v1.2<s.length)) (K (.val (.tup [.nilif,.ifx])) none) (K (.val (.tup [(.cs v1.1),.nilif])) none)) (∀j2:Nat,K (.val (.tup [.nilif,.ifx])) none)) ?_
 refine Ut (Ut (Ut (Ut ?_)))
 refine QJ (fun v1 h1=>?_) (fun h1=>?_)
 intro h2
 try simp[-zd,-ze]at h2
 refine Qb ?_ ?_<;>intro h3<;>try simp[-zd,-ze]at h3
 exact Qc hk (QiW h1 h3)
 have q:=Qd hk (QlZ h1 (by omega))
 exact q
 intro j2
 exact Qc hk (QiX h1)
 exact hP.elim
def c47 (svs:List SV) (b:Option SB) (K:Out->Option SB->Prop):Prop:=match svs,b with
 | [.str s],none=>s.length<=1000000/\Qt (QV s false true) (fun v=>K (.val (.tup [.cs (v.headD default),.nilif])) none) (K (.val (.tup [.nilif,.ifx])) none)
 | _,_=>False
noncomputable def W47:Wk:=⟨[(71,.pure c71),(72,.plain (c72 1002))],Qe Tryz.f47,false,false,[.tmp 2,.tmp 3],[56,71],[],[]⟩
theorem has47:Has 47:=hsf Tryz.f47
theorem sat47:Sat 47 c47:=by
 have hD:Qa W47.D:=(Qa.cons ZY ZU (Qa.cons Qju (QiE 1002 (QiF 1002)) Qa.nil))
 refine W47.sa hD Tryz.f47 fun svs b K hP=>?_
 unfold c47 at hP
 split at hP
 rename_i s
 obtain⟨h01,hk⟩:=hP
 refine W47.en ((s.length<=1000000)/\(0<=s.length)/\(0<=1001)/\(1002<=0+1002)/\Qt (YX (Qw s true (1001-0)) s true 0) (fun v1=>(0<v1.2/\v1.2<=s.length)->cond (decide (v1.2<s.length)) (K (.val (.tup [.nilif,.ifx])) none) (K (.val (.tup [(.cs v1.1),.nilif])) none)) (∀j2:Nat,K (.val (.tup [.nilif,.ifx])) none)) ?_
 refine Ut (Ut (Ut (Ut ?_)))
 refine QJ (fun v1 h1=>?_) (fun h1=>?_)
 intro h2
 try simp[-zd,-ze]at h2
 refine Qb ?_ ?_<;>intro h3<;>try simp[-zd,-ze]at h3
 exact Qc hk (QiW h1 h3)
 have q:=Qd hk (QlZ h1 (by omega))
 exact q
 intro j2
 exact Qc hk (QiX h1)
 exact hP.elim
def c25 (svs:List SV) (b:Option SB) (K:Out->Option SB->Prop):Prop:=match svs,b with
 | [.str s,.bool m,.bool p],none=>s.length<=1000000/\cond m (Qt (QV s true p) (fun v=>K (.val (.tup [.sl (.csels v),.bool true])) none) (K (.val (.tup [.sl (.csels []),.bool false])) none))
  (Qt (QV s false p) (fun v=>K (.val (.tup [.sl (.csels [v.headD default]),.bool true])) none) (K (.val (.tup [.undef,.bool false])) none))
 | _,_=>False
noncomputable def W25:Wk:=⟨[(44,.plain c44),(45,.plain c45),(46,.plain c46),(47,.plain c47)],Qe Tryz.f25,false,false,[.tmp 6,.tmp 7],[50,4],[],[]⟩
theorem Que:Has 25:=hsf Tryz.f25
theorem QtP:Sat 25 c25:=by
 have hD:Qa W25.D:=(Qa.cons has44 sat44 (Qa.cons has45 sat45 (Qa.cons has46 sat46 (Qa.cons has47 sat47 Qa.nil))))
 refine W25.sa hD Tryz.f25 fun svs b K hP=>?_
 unfold c25 at hP
 split at hP
 rename_i s m p
 obtain⟨h01,hk⟩:=hP
 refine W25.en (have a0:=s.length<=1000000;have a1:Out:=.val (.tup [(.sl (.csels [])),(.bool false)]);cond m (cond p (a0/\Qt (QV s true true) (fun v1=>K (.val (.tup [(.sl (.csels v1)),(.bool true)])) none) (K a1 none)) (a0/\Qt (QV s true false) (fun v2=>K (.val (.tup [(.sl (.csels v2)),(.bool true)])) none) (K a1 none))) (cond p (a0/\Qt (QV s false true) (fun v3=>K (.val (.tup [(.sl (.csels [v3.headD default])),(.bool true)])) none) (K (.val (.tup [.undef,(.bool false)])) none)) (a0/\Qt (QV s false false) (fun v4=>K (.val (.tup [(.sl (.csels [v4.headD default])),(.bool true)])) none) (K (.val (.tup [.undef,(.bool false)])) none)))) ?_
 refine Qb ?_ ?_<;>intro h1<;>try simp[-zd,-ze]at h1
 refine Qb (fun h2=>?_) (fun h2=>?_)
 try simp[-zd,-ze]at h2
 refine Ut ?_
 refine QJ (fun v1 h3=>?_) (fun h3=>?_)
 subst h1
 subst h2
 rw[cond_true]at hk
 have q:=Qd hk h3
 exact q
 subst h1
 subst h2
 rw[cond_true]at hk
 have q:=Qc hk h3
 exact q
 try simp[-zd,-ze]at h2
 refine Ut ?_
 refine QJ (fun v2 h3=>?_) (fun h3=>?_)
 subst h1
 subst h2
 rw[cond_true]at hk
 have q:=Qd hk h3
 exact q
 subst h1
 subst h2
 rw[cond_true]at hk
 have q:=Qc hk h3
 exact q
 refine Qb (fun h2=>?_) (fun h2=>?_)
 try simp[-zd,-ze]at h2
 refine Ut ?_
 refine QJ (fun v3 h3=>?_) (fun h3=>?_)
 subst h1
 subst h2
 rw[cond_false]at hk
 have q:=Qd hk h3
 exact q
 subst h1
 subst h2
 rw[cond_false]at hk
 have q:=Qc hk h3
 exact q
 try simp[-zd,-ze]at h2
 refine Ut ?_
 refine QJ (fun v4 h3=>?_) (fun h3=>?_)
 subst h1
 subst h2
 rw[cond_false]at hk
 have q:=Qd hk h3
 exact q
 subst h1
 subst h2
 rw[cond_false]at hk
 have q:=Qc hk h3
 exact q
 exact hP.elim
end
section
open Go Go.RowKit
set_option maxRecDepth 20000
def ZT (l:List Bs) (x:Bs):Nat:=if l.idxOf x<l.length then l.idxOf x+1 else 0
theorem Qer (l:List Bs) (x:Bs):Yw l x=(ZT l x:Int):=by unfold Yw ZT;split<;>simp
def Qcp (l t:Bool):Nat:=(if l=true then 1 else 0)+(if t=true then 2 else 0)
theorem Qnc {l:List Bs} {x:Bs} {i:Nat} (h1:i<l.length) (h2:l.getD i []=x) (h3:∀j,j<i->¬l.getD j []=x):ZT l x=i+1:=by
 have e:l.idxOf x=i:=by
  induction l generalizing i with
  | nil=>simp at h1
  | cons y l ih=>
   by_cases hy:y=x
   subst hy
   rcases i with _ | i
   simp
   exact absurd rfl (h3 0 (by omega))
   rcases i with _ | i
   exact absurd h2 hy
   have:=ih (i:=i) (by simpa using h1) (by simpa using h2) (fun j hj=>by simpa using h3 (j+1) (by omega))
   rw[List.idxOf_cons,beq_false_of_ne hy]
   simp[this]
 unfold ZT;rw[e,if_pos h1]
theorem QoW {l:List Bs} {x:Bs} (h3:∀j,j<l.length->¬l.getD j []=x):ZT l x=0:=by
 unfold ZT;rw[if_neg]
 intro h
 refine h3 _ h ?_
 rw[zd,zg h]
 simp
def c73 (svs:List SV) (b:Option SB):QR:=match svs,b with
 | [.sl (.strs l),.str x],none=>some ([l.length<=1000000],.nat (ZT l x))
 | _,_=>none
noncomputable def W73:Wk:=⟨[],Qe Tryz.f73,false,false,[.tmp 4],[3],[(2,387)],[]⟩
theorem has73:Has 73:=hsf Tryz.f73
theorem QhE {p q:Prop} (k:q) (h:p:=by first | omega | (simp;done) | (simp;omega) | (simp;assumption)):p/\q:=⟨h,k⟩
theorem sat73:Sat 73 (Qz c73):=by
 have hD:Qa W73.D:=Qa.nil
 refine W73.sa hD Tryz.f73 fun svs b K hP=>?_
 obtain⟨ps,v,e,hp,hk⟩:=Qh hP
 unfold c73 at e
 split at e
 rename_i l x
 cases e
 obtain⟨h01,_⟩:=hp
 have L2:∀(mm:Nat) (i:Nat),l.length-i=mm->(i<=l.length/\∀j,j<i->¬l.getD j []=x)->W73.L K 2 (mkS 20 [(0,(.sl (.strs l))),(1,(.str x)),(7,(.nat l.length)),(8,(.nat i))] [] 1):=by
  intro mm
  induction mm using zl with
  | _ mm ih=>
   intro i hm hI
   obtain⟨k1,k2⟩:=hI
   refine W73.aL hD (cond (decide (i<l.length)) ((i<l.length)/\cond (decide (l.getD i []=x)) ((i+1<=9223372036854775807)/\K (.val (.nat (i+1))) none) ((i+1<=9223372036854775807)/\(W73).L K 2 (mkS 20 [(0,(.sl (.strs l))),(1,(.str x)),(7,(.nat l.length)),(8,(.nat (i+1)))] [] 1))) (K (.val (.nat 0)) none)) ?_
   refine Qb ?_ ?_<;>intro h1<;>try simp[-zd,-ze]at h1
   refine QhE ?_
   refine Qb ?_ ?_<;>intro h2<;>try simp[-zd,-ze]at h2
   refine QhE ?_
   rw[Qnc h1 h2 k2]at hk
   exact hk
   refine QhE ?_
   exact ih _ (by omega) _ rfl ⟨by omega,fun j hj=>by
    rcases (by omega:j<i\/j=i) with q | q
    exact k2 j q
    subst q;exact h2⟩
   rw[QoW (fun j hj=>k2 j (by omega))]at hk
   exact hk
 refine W73.en ((W73).L K 2 (mkS 20 [(0,(.sl (.strs l))),(1,(.str x)),(7,(.nat l.length)),(8,(.nat 0))] [] 1)) ?_
 exact L2 _ _ rfl ⟨by omega,fun j hj=>by omega⟩
 cases e
def c74 (svs:List SV) (b:Option SB):QR:=match svs,b with
 | [],none=>some ([],.sl (.strs [[],[61],[33,61],[126,61],[124,61],[94,61],[36,61],[42,61]]))
 | _,_=>none
noncomputable def W74:Wk:=⟨[],Qe Tryz.f74,false,false,[.tmp 0],[83],[],[]⟩
theorem has74:Has 74:=hsf Tryz.f74
theorem sat74:Sat 74 (Qz c74):=by
 have hD:Qa W74.D:=Qa.nil
 refine W74.sa hD Tryz.f74 fun svs b K hP=>?_
 obtain⟨ps,v,e,hp,hk⟩:=Qh hP
 unfold c74 at e
 split at e
 cases e
 refine W74.en (K (.val (.sl (.strs [[],[61],[33,61],[126,61],[124,61],[94,61],[36,61],[42,61]]))) none) ?_
 exact hk
 cases e
def c76 (svs:List SV) (b:Option SB):QR:=match svs,b with
 | [],none=>some ([],.sl (.strs [[32],[62],[43],[126]]))
 | _,_=>none
noncomputable def W76:Wk:=⟨[],Qe Tryz.f76,false,false,[.tmp 0],[83],[],[]⟩
theorem has76:Has 76:=hsf Tryz.f76
theorem sat76:Sat 76 (Qz c76):=by
 have hD:Qa W76.D:=Qa.nil
 refine W76.sa hD Tryz.f76 fun svs b K hP=>?_
 obtain⟨ps,v,e,hp,hk⟩:=Qh hP
 unfold c76 at e
 split at e
 cases e
 refine W76.en (K (.val (.sl (.strs [[32],[62],[43],[126]]))) none) ?_
 exact hk
 cases e
def c75 (svs:List SV) (b:Option SB):QR:=match svs,b with
 | [.bool l,.bool t],none=>some ([],.nat (Qcp l t))
 | _,_=>none
noncomputable def W75:Wk:=⟨[],Qe Tryz.f75,false,false,[.tmp 4],[3],[],[]⟩
theorem has75:Has 75:=hsf Tryz.f75
theorem sat75:Sat 75 (Qz c75):=by
 have hD:Qa W75.D:=Qa.nil
 refine W75.sa hD Tryz.f75 fun svs b K hP=>?_
 obtain⟨ps,v,e,hp,hk⟩:=Qh hP
 unfold c75 at e
 split at e
 rename_i l t
 cases e
 refine W75.en (cond l ((1<=9223372036854775807)/\cond t ((3<=9223372036854775807)/\K (.val (.nat 3)) none) (K (.val (.nat 1)) none)) (cond t ((2<=9223372036854775807)/\K (.val (.nat 2)) none) (K (.val (.nat 0)) none))) ?_
 refine Qb ?_ ?_<;>intro h1<;>try simp[-zd,-ze]at h1
 refine QhE ?_
 refine Qb ?_ ?_<;>intro h2<;>try simp[-zd,-ze]at h2
 refine QhE ?_
 subst h1
 subst h2
 exact hk
 subst h1
 subst h2
 exact hk
 refine Qb (fun h2=>?_) (fun h2=>?_)
 try simp[-zd,-ze]at h2
 refine QhE ?_
 subst h1
 subst h2
 exact hk
 try simp[-zd,-ze]at h2
 subst h1
 subst h2
 exact hk
 cases e
def QcA (l:List SelD) (i:Nat):List SelD:=l.set i { (l.getD i default) with size:=((l.length-i:Nat):Int) }
theorem QP {cs cs':List SV} (h:wkL cs cs') (ω:Wit) (v:Value) (hr:Rel ω (.agg cs) v):Rel ω (.agg cs') v:=by
 obtain⟨h1,h2⟩:=QjX h
 cases hr with
 | agg _ vs hn hh=>
  refine .agg _ vs (by omega) fun i s u e1 e2=>?_
  obtain⟨t,e3,h3⟩:=h2 i s e1
  exact h3 ω u (hh i t u e3 e2)
def Cv (s s':SV):Prop:=∀ω v,Rel ω s v->Rel ω s' v
def c48 (svs:List SV) (b:Option SB) (K:Out->Option SB->Prop):Prop:=match svs,b with
 | [.own 0,.nat i],some (.row (.sels l) true)=>l.length<=1000000000/\i<l.length/\∀b':Option SB,K (.row (.sels (QcA l i))) b'
 | _,_=>False
noncomputable def W48:Wk:=⟨[],Qe Tryz.f48,true,true,[.tmp 4],[22],[],[]⟩
theorem Qua:Has 48:=hsf Tryz.f48
theorem QtL:Sat 48 c48:=by
 have hD:Qa W48.D:=Qa.nil
 refine W48.sa hD Tryz.f48 fun svs b K hP=>?_
 unfold c48 at hP
 split at hP
 rename_i i l
 obtain⟨h01,h02,hk⟩:=hP
 refine W48.en (have a0:RV:=.sels (l.set i { l.getD i default with size:=((l.length-i:Nat):Int) });(i<=l.length/\l.length<=9223372036854775807)/\(i<l.length)/\(i<l.length)/\K (.row a0) (some (.row a0 true))) ?_
 refine QhE (QhE (QhE ?_))
 exact hk _
 exact hP.elim
end
section
open Go Go.RowKit
set_option maxRecDepth 20000
def VN:CSel->Nat
 | .tag _=>1
 | .cls _=>2
 | .idn _=>3
 | .attr _ _ _ _=>4
 | .nth _ _ _ _=>5
 | .only _=>6
 | .empty=>7
 | .root=>8
 | .input=>9
 | .link=>10
 | .enabled=>11
 | .disabled=>12
 | .checked=>13
 | .lang _=>14
 | .contains _ _=>15
 | .never _=>16
 | .rel _ _=>17
 | .compound _ _=>18
 | .combined _ _ _=>19
def Q1:CSel->Bs
 | .tag k=>k
 | .attr k _ _ _=>k
 | .rel n _=>n
 | _=>[]
def Q0:CSel->Bs
 | .cls v=>v
 | .idn v=>v
 | .attr _ v _ _=>v
 | .lang v=>v
 | .contains v _=>v
 | .never v=>v
 | .compound _ pe=>pe
 | _=>[]
def Vq:CSel->Bs
 | .attr _ _ o _=>o
 | .combined _ c _=>(YM c.toNat)
 | _=>[]
def Yu:CSel->Int
 | .nth a _ _ _=>a
 | _=>0
def Yt:CSel->Int
 | .nth _ b _ _=>b
 | _=>0
def Ys:CSel->Bool
 | .nth _ _ l _=>l
 | _=>false
def Yr:CSel->Bool
 | .nth _ _ _ t=>t
 | .only t=>t
 | _=>false
def Vp:CSel->Bool
 | .contains _ o=>o
 | _=>false
def Vr:CSel->Bool
 | .attr _ _ _ i=>i
 | _=>false
def Yk:CSel->List CSel
 | .rel _ ks=>ks
 | .compound ks _=>ks
 | .combined f _ y=>[f,y]
 | _=>[]
def Zk (x:CSel):List SV:=[.nat (VN x),.str (Q1 x),.str (Q0 x),.str (Vq x),.int .i64 (Yu x),.int .i64 (Yt x),.bool (Ys x),.bool (Yr x),.bool (Vp x),.bool (Vr x),.sl (.csels (Yk x))]
def c49 (svs:List SV) (b:Option SB) (K:Out->Option SB->Prop):Prop:=match svs,b with
 | [.cs x],none=>K (.val (.agg (Zk x))) none
 | _,_=>False
def c49tag (svs:List SV) (b:Option SB) (K:Out->Option SB->Prop):Prop:=match svs,b with
 | [.cs (.tag k)],none=>∀s,Cv s (.agg (Zk (.tag k)))->K (.val s) none
 | _,_=>False
noncomputable def Qle:Wk:=⟨[],Qe zE,false,false,[.cell 2 76],[76],[],[]⟩
theorem has49:Has 49:=hsf zE
theorem Qpc:Sat 49 c49tag:=by
 have hD:Qa Qle.D:=Qa.nil
 refine Qle.sa hD zE fun svs b K hP=>?_
 unfold c49tag at hP
 split at hP
 . rename_i k
   have hk:=hP
   refine Qle.en (K (.val (.agg [(.nat 1),(.str k),(.str []),(.str []),(.nat 0),(.nat 0),(.bool false),(.bool false),(.bool false),(.bool false),.nilsl])) none) ?_
   refine hk _ (QP ?_)
   show _/\_/\_/\_/\_/\_/\_/\_/\_/\_/\_/\True
   refine⟨?_,?_,?_,?_,?_,?_,?_,?_,?_,?_,?_,trivial⟩
   all_goals
    intro ω v h
    first
     | exact h
     | (rw[h.nat_inv];exact .int _ _)
     | (rw[h.nilsl_inv];exact .slz _ _ _ rfl)
 exact hP.elim
def c49cls (svs:List SV) (b:Option SB) (K:Out->Option SB->Prop):Prop:=match svs,b with
 | [.cs (.cls v)],none=>∀s,Cv s (.agg (Zk (.cls v)))->K (.val s) none
 | _,_=>False
noncomputable def Qli:Wk:=⟨[],Qe zE,false,false,[.cell 2 76],[76],[],[]⟩
theorem Qpg:Sat 49 c49cls:=by
 have hD:Qa Qli.D:=Qa.nil
 refine Qli.sa hD zE fun svs b K hP=>?_
 unfold c49cls at hP
 split at hP
 . rename_i v
   have hk:=hP
   refine Qli.en (K (.val (.agg [(.nat 2),(.str []),(.str v),(.str []),(.nat 0),(.nat 0),(.bool false),(.bool false),(.bool false),(.bool false),.nilsl])) none) ?_
   refine hk _ (QP ?_)
   show _/\_/\_/\_/\_/\_/\_/\_/\_/\_/\_/\True
   refine⟨?_,?_,?_,?_,?_,?_,?_,?_,?_,?_,?_,trivial⟩
   all_goals
    intro ω v h
    first
     | exact h
     | (rw[h.nat_inv];exact .int _ _)
     | (rw[h.nilsl_inv];exact .slz _ _ _ rfl)
 exact hP.elim
def c49idn (svs:List SV) (b:Option SB) (K:Out->Option SB->Prop):Prop:=match svs,b with
 | [.cs (.idn v)],none=>∀s,Cv s (.agg (Zk (.idn v)))->K (.val s) none
 | _,_=>False
noncomputable def Qlh:Wk:=⟨[],Qe zE,false,false,[.cell 2 76],[76],[],[]⟩
theorem Qpf:Sat 49 c49idn:=by
 have hD:Qa Qlh.D:=Qa.nil
 refine Qlh.sa hD zE fun svs b K hP=>?_
 unfold c49idn at hP
 split at hP
 . rename_i v
   have hk:=hP
   refine Qlh.en (K (.val (.agg [(.nat 3),(.str []),(.str v),(.str []),(.nat 0),(.nat 0),(.bool false),(.bool false),(.bool false),(.bool false),.nilsl])) none) ?_
   refine hk _ (QP ?_)
   show _/\_/\_/\_/\_/\_/\_/\_/\_/\_/\_/\True
   refine⟨?_,?_,?_,?_,?_,?_,?_,?_,?_,?_,?_,trivial⟩
   all_goals
    intro ω v h
    first
     | exact h
     | (rw[h.nat_inv];exact .int _ _)
     | (rw[h.nilsl_inv];exact .slz _ _ _ rfl)
 exact hP.elim
def c49attr (svs:List SV) (b:Option SB) (K:Out->Option SB->Prop):Prop:=match svs,b with
 | [.cs (.attr k v o i)],none=>∀s,Cv s (.agg (Zk (.attr k v o i)))->K (.val s) none
 | _,_=>False
noncomputable def Qin:Wk:=⟨[],Qe zE,false,false,[.cell 2 76],[76],[],[]⟩
theorem Qnj:Sat 49 c49attr:=by
 have hD:Qa Qin.D:=Qa.nil
 refine Qin.sa hD zE fun svs b K hP=>?_
 unfold c49attr at hP
 split at hP
 . rename_i k v o i
   have hk:=hP
   refine Qin.en (K (.val (.agg [(.nat 4),(.str k),(.str v),(.str o),(.nat 0),(.nat 0),(.bool false),(.bool false),(.bool false),(.bool i),.nilsl])) none) ?_
   refine hk _ (QP ?_)
   show _/\_/\_/\_/\_/\_/\_/\_/\_/\_/\_/\True
   refine⟨?_,?_,?_,?_,?_,?_,?_,?_,?_,?_,?_,trivial⟩
   all_goals
    intro ω v h
    first
     | exact h
     | (rw[h.nat_inv];exact .int _ _)
     | (rw[h.nilsl_inv];exact .slz _ _ _ rfl)
 exact hP.elim
def c49nth (svs:List SV) (b:Option SB) (K:Out->Option SB->Prop):Prop:=match svs,b with
 | [.cs (.nth a b l t)],none=>∀s,Cv s (.agg (Zk (.nth a b l t)))->K (.val s) none
 | _,_=>False
noncomputable def Qlg:Wk:=⟨[],Qe zE,false,false,[.cell 2 76],[76],[],[]⟩
theorem Qpe:Sat 49 c49nth:=by
 have hD:Qa Qlg.D:=Qa.nil
 refine Qlg.sa hD zE fun svs b K hP=>?_
 unfold c49nth at hP
 split at hP
 . rename_i a b l t
   have hk:=hP
   refine Qlg.en (K (.val (.agg [(.nat 5),(.str []),(.str []),(.str []),(.int .i64 a),(.int .i64 b),(.bool l),(.bool t),(.bool false),(.bool false),.nilsl])) none) ?_
   refine hk _ (QP ?_)
   show _/\_/\_/\_/\_/\_/\_/\_/\_/\_/\_/\True
   refine⟨?_,?_,?_,?_,?_,?_,?_,?_,?_,?_,?_,trivial⟩
   all_goals
    intro ω v h
    first
     | exact h
     | (rw[h.nat_inv];exact .int _ _)
     | (rw[h.nilsl_inv];exact .slz _ _ _ rfl)
 exact hP.elim
def c49only (svs:List SV) (b:Option SB) (K:Out->Option SB->Prop):Prop:=match svs,b with
 | [.cs (.only t)],none=>∀s,Cv s (.agg (Zk (.only t)))->K (.val s) none
 | _,_=>False
noncomputable def Qik:Wk:=⟨[],Qe zE,false,false,[.cell 2 76],[76],[],[]⟩
theorem Qng:Sat 49 c49only:=by
 have hD:Qa Qik.D:=Qa.nil
 refine Qik.sa hD zE fun svs b K hP=>?_
 unfold c49only at hP
 split at hP
 . rename_i t
   have hk:=hP
   refine Qik.en (K (.val (.agg [(.nat 6),(.str []),(.str []),(.str []),(.nat 0),(.nat 0),(.bool false),(.bool t),(.bool false),(.bool false),.nilsl])) none) ?_
   refine hk _ (QP ?_)
   show _/\_/\_/\_/\_/\_/\_/\_/\_/\_/\_/\True
   refine⟨?_,?_,?_,?_,?_,?_,?_,?_,?_,?_,?_,trivial⟩
   all_goals
    intro ω v h
    first
     | exact h
     | (rw[h.nat_inv];exact .int _ _)
     | (rw[h.nilsl_inv];exact .slz _ _ _ rfl)
 exact hP.elim
def c49empty (svs:List SV) (b:Option SB) (K:Out->Option SB->Prop):Prop:=match svs,b with
 | [.cs .empty],none=>∀s,Cv s (.agg (Zk .empty))->K (.val s) none
 | _,_=>False
noncomputable def QfA:Wk:=⟨[],Qe zE,false,false,[.cell 2 76],[76],[],[]⟩
theorem Qj8:Sat 49 c49empty:=by
 have hD:Qa QfA.D:=Qa.nil
 refine QfA.sa hD zE fun svs b K hP=>?_
 unfold c49empty at hP
 split at hP
 .
  have hk:=hP
  refine QfA.en (K (.val (.agg [(.nat 7),(.str []),(.str []),(.str []),(.nat 0),(.nat 0),(.bool false),(.bool false),(.bool false),(.bool false),.nilsl])) none) ?_
  refine hk _ (QP ?_)
  show _/\_/\_/\_/\_/\_/\_/\_/\_/\_/\_/\True
  refine⟨?_,?_,?_,?_,?_,?_,?_,?_,?_,?_,?_,trivial⟩
  all_goals
   intro ω v h
   first
    | exact h
    | (rw[h.nat_inv];exact .int _ _)
    | (rw[h.nilsl_inv];exact .slz _ _ _ rfl)
 exact hP.elim
def c49root (svs:List SV) (b:Option SB) (K:Out->Option SB->Prop):Prop:=match svs,b with
 | [.cs .root],none=>∀s,Cv s (.agg (Zk .root))->K (.val s) none
 | _,_=>False
noncomputable def Qij:Wk:=⟨[],Qe zE,false,false,[.cell 2 76],[76],[],[]⟩
theorem Qnf:Sat 49 c49root:=by
 have hD:Qa Qij.D:=Qa.nil
 refine Qij.sa hD zE fun svs b K hP=>?_
 unfold c49root at hP
 split at hP
 .
  have hk:=hP
  refine Qij.en (K (.val (.agg [(.nat 8),(.str []),(.str []),(.str []),(.nat 0),(.nat 0),(.bool false),(.bool false),(.bool false),(.bool false),.nilsl])) none) ?_
  refine hk _ (QP ?_)
  show _/\_/\_/\_/\_/\_/\_/\_/\_/\_/\_/\True
  refine⟨?_,?_,?_,?_,?_,?_,?_,?_,?_,?_,?_,trivial⟩
  all_goals
   intro ω v h
   first
    | exact h
    | (rw[h.nat_inv];exact .int _ _)
    | (rw[h.nilsl_inv];exact .slz _ _ _ rfl)
 exact hP.elim
def c49input (svs:List SV) (b:Option SB) (K:Out->Option SB->Prop):Prop:=match svs,b with
 | [.cs .input],none=>∀s,Cv s (.agg (Zk .input))->K (.val s) none
 | _,_=>False
noncomputable def Qfz:Wk:=⟨[],Qe zE,false,false,[.cell 2 76],[76],[],[]⟩
theorem Qj7:Sat 49 c49input:=by
 have hD:Qa Qfz.D:=Qa.nil
 refine Qfz.sa hD zE fun svs b K hP=>?_
 unfold c49input at hP
 split at hP
 .
  have hk:=hP
  refine Qfz.en (K (.val (.agg [(.nat 9),(.str []),(.str []),(.str []),(.nat 0),(.nat 0),(.bool false),(.bool false),(.bool false),(.bool false),.nilsl])) none) ?_
  refine hk _ (QP ?_)
  show _/\_/\_/\_/\_/\_/\_/\_/\_/\_/\_/\True
  refine⟨?_,?_,?_,?_,?_,?_,?_,?_,?_,?_,?_,trivial⟩
  all_goals
   intro ω v h
   first
    | exact h
    | (rw[h.nat_inv];exact .int _ _)
    | (rw[h.nilsl_inv];exact .slz _ _ _ rfl)
 exact hP.elim
def c49link (svs:List SV) (b:Option SB) (K:Out->Option SB->Prop):Prop:=match svs,b with
 | [.cs .link],none=>∀s,Cv s (.agg (Zk .link))->K (.val s) none
 | _,_=>False
noncomputable def Qil:Wk:=⟨[],Qe zE,false,false,[.cell 2 76],[76],[],[]⟩
theorem Qnh:Sat 49 c49link:=by
 have hD:Qa Qil.D:=Qa.nil
 refine Qil.sa hD zE fun svs b K hP=>?_
 unfold c49link at hP
 split at hP
 .
  have hk:=hP
  refine Qil.en (K (.val (.agg [(.nat 10),(.str []),(.str []),(.str []),(.nat 0),(.nat 0),(.bool false),(.bool false),(.bool false),(.bool false),.nilsl])) none) ?_
  refine hk _ (QP ?_)
  show _/\_/\_/\_/\_/\_/\_/\_/\_/\_/\_/\True
  refine⟨?_,?_,?_,?_,?_,?_,?_,?_,?_,?_,?_,trivial⟩
  all_goals
   intro ω v h
   first
    | exact h
    | (rw[h.nat_inv];exact .int _ _)
    | (rw[h.nilsl_inv];exact .slz _ _ _ rfl)
 exact hP.elim
def c49enabled (svs:List SV) (b:Option SB) (K:Out->Option SB->Prop):Prop:=match svs,b with
 | [.cs .enabled],none=>∀s,Cv s (.agg (Zk .enabled))->K (.val s) none
 | _,_=>False
noncomputable def QbK:Wk:=⟨[],Qe zE,false,false,[.cell 2 76],[76],[],[]⟩
theorem Qg6:Sat 49 c49enabled:=by
 have hD:Qa QbK.D:=Qa.nil
 refine QbK.sa hD zE fun svs b K hP=>?_
 unfold c49enabled at hP
 split at hP
 .
  have hk:=hP
  refine QbK.en (K (.val (.agg [(.nat 11),(.str []),(.str []),(.str []),(.nat 0),(.nat 0),(.bool false),(.bool false),(.bool false),(.bool false),.nilsl])) none) ?_
  refine hk _ (QP ?_)
  show _/\_/\_/\_/\_/\_/\_/\_/\_/\_/\_/\True
  refine⟨?_,?_,?_,?_,?_,?_,?_,?_,?_,?_,?_,trivial⟩
  all_goals
   intro ω v h
   first
    | exact h
    | (rw[h.nat_inv];exact .int _ _)
    | (rw[h.nilsl_inv];exact .slz _ _ _ rfl)
 exact hP.elim
def c49disabled (svs:List SV) (b:Option SB) (K:Out->Option SB->Prop):Prop:=match svs,b with
 | [.cs .disabled],none=>∀s,Cv s (.agg (Zk .disabled))->K (.val s) none
 | _,_=>False
noncomputable def Qax:Wk:=⟨[],Qe zE,false,false,[.cell 2 76],[76],[],[]⟩
theorem QfE:Sat 49 c49disabled:=by
 have hD:Qa Qax.D:=Qa.nil
 refine Qax.sa hD zE fun svs b K hP=>?_
 unfold c49disabled at hP
 split at hP
 .
  have hk:=hP
  refine Qax.en (K (.val (.agg [(.nat 12),(.str []),(.str []),(.str []),(.nat 0),(.nat 0),(.bool false),(.bool false),(.bool false),(.bool false),.nilsl])) none) ?_
  refine hk _ (QP ?_)
  show _/\_/\_/\_/\_/\_/\_/\_/\_/\_/\_/\True
  refine⟨?_,?_,?_,?_,?_,?_,?_,?_,?_,?_,?_,trivial⟩
  all_goals
   intro ω v h
   first
    | exact h
    | (rw[h.nat_inv];exact .int _ _)
    | (rw[h.nilsl_inv];exact .slz _ _ _ rfl)
 exact hP.elim
def c49checked (svs:List SV) (b:Option SB) (K:Out->Option SB->Prop):Prop:=match svs,b with
 | [.cs .checked],none=>∀s,Cv s (.agg (Zk .checked))->K (.val s) none
 | _,_=>False
noncomputable def QbL:Wk:=⟨[],Qe zE,false,false,[.cell 2 76],[76],[],[]⟩
theorem Qg7:Sat 49 c49checked:=by
 have hD:Qa QbL.D:=Qa.nil
 refine QbL.sa hD zE fun svs b K hP=>?_
 unfold c49checked at hP
 split at hP
 .
  have hk:=hP
  refine QbL.en (K (.val (.agg [(.nat 13),(.str []),(.str []),(.str []),(.nat 0),(.nat 0),(.bool false),(.bool false),(.bool false),(.bool false),.nilsl])) none) ?_
  refine hk _ (QP ?_)
  show _/\_/\_/\_/\_/\_/\_/\_/\_/\_/\_/\True
  refine⟨?_,?_,?_,?_,?_,?_,?_,?_,?_,?_,?_,trivial⟩
  all_goals
   intro ω v h
   first
    | exact h
    | (rw[h.nat_inv];exact .int _ _)
    | (rw[h.nilsl_inv];exact .slz _ _ _ rfl)
 exact hP.elim
def c49lang (svs:List SV) (b:Option SB) (K:Out->Option SB->Prop):Prop:=match svs,b with
 | [.cs (.lang v)],none=>∀s,Cv s (.agg (Zk (.lang v)))->K (.val s) none
 | _,_=>False
noncomputable def Qim:Wk:=⟨[],Qe zE,false,false,[.cell 2 76],[76],[],[]⟩
theorem Qni:Sat 49 c49lang:=by
 have hD:Qa Qim.D:=Qa.nil
 refine Qim.sa hD zE fun svs b K hP=>?_
 unfold c49lang at hP
 split at hP
 . rename_i v
   have hk:=hP
   refine Qim.en (K (.val (.agg [(.nat 14),(.str []),(.str v),(.str []),(.nat 0),(.nat 0),(.bool false),(.bool false),(.bool false),(.bool false),.nilsl])) none) ?_
   refine hk _ (QP ?_)
   show _/\_/\_/\_/\_/\_/\_/\_/\_/\_/\_/\True
   refine⟨?_,?_,?_,?_,?_,?_,?_,?_,?_,?_,?_,trivial⟩
   all_goals
    intro ω v h
    first
     | exact h
     | (rw[h.nat_inv];exact .int _ _)
     | (rw[h.nilsl_inv];exact .slz _ _ _ rfl)
 exact hP.elim
def c49contains (svs:List SV) (b:Option SB) (K:Out->Option SB->Prop):Prop:=match svs,b with
 | [.cs (.contains v o)],none=>∀s,Cv s (.agg (Zk (.contains v o)))->K (.val s) none
 | _,_=>False
noncomputable def Qay:Wk:=⟨[],Qe zE,false,false,[.cell 2 76],[76],[],[]⟩
theorem QfF:Sat 49 c49contains:=by
 have hD:Qa Qay.D:=Qa.nil
 refine Qay.sa hD zE fun svs b K hP=>?_
 unfold c49contains at hP
 split at hP
 . rename_i v o
   have hk:=hP
   refine Qay.en (K (.val (.agg [(.nat 15),(.str []),(.str v),(.str []),(.nat 0),(.nat 0),(.bool false),(.bool false),(.bool o),(.bool false),.nilsl])) none) ?_
   refine hk _ (QP ?_)
   show _/\_/\_/\_/\_/\_/\_/\_/\_/\_/\_/\True
   refine⟨?_,?_,?_,?_,?_,?_,?_,?_,?_,?_,?_,trivial⟩
   all_goals
    intro ω v h
    first
     | exact h
     | (rw[h.nat_inv];exact .int _ _)
     | (rw[h.nilsl_inv];exact .slz _ _ _ rfl)
 exact hP.elim
def c49never (svs:List SV) (b:Option SB) (K:Out->Option SB->Prop):Prop:=match svs,b with
 | [.cs (.never v)],none=>∀s,Cv s (.agg (Zk (.never v)))->K (.val s) none
 | _,_=>False
noncomputable def Qfy:Wk:=⟨[],Qe zE,false,false,[.cell 2 76],[76],[],[]⟩
theorem Qj6:Sat 49 c49never:=by
 have hD:Qa Qfy.D:=Qa.nil
 refine Qfy.sa hD zE fun svs b K hP=>?_
 unfold c49never at hP
 split at hP
 . rename_i v
   have hk:=hP
   refine Qfy.en (K (.val (.agg [(.nat 16),(.str []),(.str v),(.str []),(.nat 0),(.nat 0),(.bool false),(.bool false),(.bool false),(.bool false),.nilsl])) none) ?_
   refine hk _ (QP ?_)
   show _/\_/\_/\_/\_/\_/\_/\_/\_/\_/\_/\True
   refine⟨?_,?_,?_,?_,?_,?_,?_,?_,?_,?_,?_,trivial⟩
   all_goals
    intro ω v h
    first
     | exact h
     | (rw[h.nat_inv];exact .int _ _)
     | (rw[h.nilsl_inv];exact .slz _ _ _ rfl)
 exact hP.elim
def c49rel (svs:List SV) (b:Option SB) (K:Out->Option SB->Prop):Prop:=match svs,b with
 | [.cs (.rel n ks)],none=>∀s,Cv s (.agg (Zk (.rel n ks)))->K (.val s) none
 | _,_=>False
noncomputable def Qlf:Wk:=⟨[],Qe zE,false,false,[.cell 2 76],[76],[],[]⟩
theorem Qpd:Sat 49 c49rel:=by
 have hD:Qa Qlf.D:=Qa.nil
 refine Qlf.sa hD zE fun svs b K hP=>?_
 unfold c49rel at hP
 split at hP
 . rename_i n ks
   have hk:=hP
   refine Qlf.en (K (.val (.agg [(.nat 17),(.str n),(.str []),(.str []),(.nat 0),(.nat 0),(.bool false),(.bool false),(.bool false),(.bool false),(.sl (.csels ks))])) none) ?_
   refine hk _ (QP ?_)
   show _/\_/\_/\_/\_/\_/\_/\_/\_/\_/\_/\True
   refine⟨?_,?_,?_,?_,?_,?_,?_,?_,?_,?_,?_,trivial⟩
   all_goals
    intro ω v h
    first
     | exact h
     | (rw[h.nat_inv];exact .int _ _)
     | (rw[h.nilsl_inv];exact .slz _ _ _ rfl)
 exact hP.elim
def c49compound (svs:List SV) (b:Option SB) (K:Out->Option SB->Prop):Prop:=match svs,b with
 | [.cs (.compound ks pe)],none=>∀s,Cv s (.agg (Zk (.compound ks pe)))->K (.val s) none
 | _,_=>False
noncomputable def Qaz:Wk:=⟨[],Qe zE,false,false,[.cell 2 76],[76],[],[]⟩
theorem QfG:Sat 49 c49compound:=by
 have hD:Qa Qaz.D:=Qa.nil
 refine Qaz.sa hD zE fun svs b K hP=>?_
 unfold c49compound at hP
 split at hP
 . rename_i ks pe
   have hk:=hP
   refine Qaz.en (K (.val (.agg [(.nat 18),(.str []),(.str pe),(.str []),(.nat 0),(.nat 0),(.bool false),(.bool false),(.bool false),(.bool false),(.sl (.csels ks))])) none) ?_
   refine hk _ (QP ?_)
   show _/\_/\_/\_/\_/\_/\_/\_/\_/\_/\_/\True
   refine⟨?_,?_,?_,?_,?_,?_,?_,?_,?_,?_,?_,trivial⟩
   all_goals
    intro ω v h
    first
     | exact h
     | (rw[h.nat_inv];exact .int _ _)
     | (rw[h.nilsl_inv];exact .slz _ _ _ rfl)
 exact hP.elim
def c49combined (svs:List SV) (b:Option SB) (K:Out->Option SB->Prop):Prop:=match svs,b with
 | [.cs (.combined f c y)],none=>∀s,Cv s (.agg (Zk (.combined f c y)))->K (.val s) none
 | _,_=>False
noncomputable def QaA:Wk:=⟨[],Qe zE,false,false,[.cell 2 76],[76],[],[]⟩
theorem QfH:Sat 49 c49combined:=by
 have hD:Qa QaA.D:=Qa.nil
 refine QaA.sa hD zE fun svs b K hP=>?_
 unfold c49combined at hP
 split at hP
 . rename_i f c y
   have hk:=hP
   refine QaA.en (K (.val (.agg [(.nat 19),(.str []),(.str []),(.str (YM ((c.toNat:Nat):Int))),(.nat 0),(.nat 0),(.bool false),(.bool false),(.bool false),(.bool false),(.sl (.csels [f,y]))])) none) ?_
   refine hk _ (QP ?_)
   show _/\_/\_/\_/\_/\_/\_/\_/\_/\_/\_/\True
   refine⟨?_,?_,?_,?_,?_,?_,?_,?_,?_,?_,?_,trivial⟩
   all_goals
    intro ω v h
    first
     | exact h
     | (rw[h.nat_inv];exact .int _ _)
     | (rw[h.nilsl_inv];exact .slz _ _ _ rfl)
 exact hP.elim
theorem Qm6 (x:CSel):(SV.agg (Zk x)).lt 0=true:=rfl
theorem sat49:Sat 49 c49:=by
 intro g0 w M ω svs args b K hS hn hr hP
 unfold c49 at hP
 split at hP
 rename_i x
 have key:∀{P:Spec},Sat 49 P->P [.cs x] none (fun o b'=>∃s s',o=.val s/\s'.lt 0=true/\(∀ω v,Rel ω s v->Rel ω s' v)/\K (.val s') b')->Calls zf 49 args w fun e w'=>∃v o b',e=.returned v/\K o b'/\QrF g0 w M ω o b' v w':=by
  intro P hs h
  exact (Sat.outW (P':=fun svs b K=>P svs b fun o b'=>∃s s',o=.val s/\s'.lt 0=true/\(∀ω v,Rel ω s v->Rel ω s' v)/\K (.val s') b') hs fun svs b K h=>h) g0 w M ω _ args none K hS hn hr h
 have go:∀s,Cv s (.agg (Zk x))->∃s1 s',Out.val s=.val s1/\s'.lt 0=true/\(∀ω v,Rel ω s1 v->Rel ω s' v)/\K (.val s') none:=fun s hs=>⟨s,_,rfl,Qm6 x,hs,hP⟩
 cases x with
 | tag k=>exact key Qpc go
 | cls v=>exact key Qpg go
 | idn v=>exact key Qpf go
 | attr k v o i=>exact key Qnj go
 | nth a b l t=>exact key Qpe go
 | only t=>exact key Qng go
 | empty  => exact key Qj8 go
 | root  => exact key Qnf go
 | input  => exact key Qj7 go
 | link  => exact key Qnh go
 | enabled  => exact key Qg6 go
 | disabled  => exact key QfE go
 | checked  => exact key Qg7 go
 | lang v=>exact key Qni go
 | contains v o=>exact key QfF go
 | never v=>exact key Qj6 go
 | rel n ks=>exact key Qpd go
 | compound ks pe=>exact key QfG go
 | combined f c y=>exact key QfH go
 exact hP.elim
theorem QoX (l:List Bs) (x:Bs):ZT l x<=l.length:=by unfold ZT;split<;>omega
theorem Zv {n m:Nat} (e:n=m):Cv (.nat n) (.nat m):=by subst e;exact fun _ _ h=>h
def QC (K:Nat) (key val op:Bs) (a b:Int) (l t ow ig:Bool):Nat×Nat×Bs×Bs×Int×Int×Nat:=
 if K=1 then (2,0,key,[],0,0,0) else if K=2 then (3,0,[],val,0,0,0) else if K=3 then (4,0,[],val,0,0,0)
 else if K=4 then (5,ZT [[],[61],[33,61],[126,61],[124,61],[94,61],[36,61],[42,61]] op,key,val,0,0,if ig=true then 1 else 0)
 else if K=5 then (6,0,[],[],a,b,Qcp l t) else if K=6 then (7,0,[],[],0,0,Qcp false t)
 else if K=14 then (15,0,[],val,0,0,0) else if K=15 then (if ow=true then 17 else 16,0,[],val,0,0,0) else if K=16 then (24,0,[],val,0,0,0)
 else if K=17 then (18+ZT [[110,111,116],[104,97,115],[104,97,115,99,104,105,108,100]] key-1,0,[],[],0,0,0)
 else if K=18 then (21,0,[],val,0,0,0) else if K=19 then (22,ZT [[32],[62],[43],[126]] op,[],[],0,0,0)
 else (8+K-7,0,[],[],0,0,0)
def Qt0 (p:Nat×Nat×Bs×Bs×Int×Int×Nat):List SV:=[.nat p.1,.nat p.2.1,.str p.2.2.1,.str p.2.2.2.1,.int .i64 p.2.2.2.2.1,.int .i64 p.2.2.2.2.2.1,.nat p.2.2.2.2.2.2,.nat 0]
def c50w (svs:List SV) (b:Option SB) (K:Out->Option SB->Prop):Prop:=match svs,b with
 | [.agg [.nat k,.str key,.str val,.str op,.int .i64 a,.int .i64 y,.bool l,.bool t,.bool ow,.bool ig,.sl (.csels ks)]],none=>k<=19/\∀s,Cv s (.agg (Qt0 (QC k key val op a y l t ow ig)))->K (.val s) none
 | _,_=>False
noncomputable def W50:Wk:=⟨[(73,.pure c73),(74,.pure c74),(75,.pure c75),(76,.pure c76)],Qe Tryz.f50,false,false,[.cell 2 33],[33],[],[]⟩
theorem has50:Has 50:=hsf Tryz.f50
theorem Qp6 {p q:Prop} (k:q) (h:p:=by first | omega | (simp;done) | (simp;omega) | (simp;assumption)):p/\q:=⟨h,k⟩
theorem QuB:Sat 50 c50w:=by
 have hD:Qa W50.D:=(Qa.cons has73 sat73 (Qa.cons has74 sat74 (Qa.cons has75 sat75 (Qa.cons has76 sat76 Qa.nil))))
 refine W50.sa hD Tryz.f50 fun svs b K hP=>?_
 unfold c50w at hP
 split at hP
 . rename_i k key val op a y l t ow ig ks
   obtain⟨h01,hk⟩:=hP
   have w1:ZT [[110,111,116],[104,97,115],[104,97,115,99,104,105,108,100]] key<=3:=QoX _ _
   refine W50.en (have a0:SV:=.nat (ZT [[],[61],[33,61],[126,61],[124,61],[94,61],[36,61],[42,61]] op);have a1:SV:=.sl (.strs [[],[61],[33,61],[126,61],[124,61],[94,61],[36,61],[42,61]]);have a2:SV:=.agg [(.nat 22),(.nat (ZT [[32],[62],[43],[126]] op)),(.str []),(.str []),(.nat 0),(.nat 0),(.nat 0),(.nat 0)];have a3:SV:=.agg [(.nat 5),a0,(.str key),(.str val),(.nat 0),(.nat 0),(.nat 0),(.nat 0)];have a4:SV:=.agg [(.nat 6),(.nat 0),(.str []),(.str []),(.int .i64 a),(.int .i64 y),(.nat (Qcp l t)),(.nat 0)];have a5:=((True/\True/\True)/\SV.lts 0 [a1,(.str op)]=true/\([[],[61],[33,61],[126,61],[124,61],[94,61],[36,61],[42,61]].length<=1000000)/\True)/\(a0:SV)=a0;have a7:=ZT [[110,111,116],[104,97,115],[104,97,115,99,104,105,108,100]] key;have a8:=(True)/\((.ptr 1 3):SV)=(.ptr 1 3);have a9:=(True)/\((.str op):SV)=(.str op);have a10:=(True)/\SV.lts 0 []=true/\True;have a11:=((True/\True/\True)/\SV.lts 0 [(.bool l),(.bool t)]=true/\True)/\((.nat (Qcp l t)):SV)=(.nat (Qcp l t));have a12:SV:=.sl (.strs [[32],[62],[43],[126]]);have a6:=((True/\True/\True)/\SV.lts 0 [a12,(.str op)]=true/\([[32],[62],[43],[126]].length<=1000000)/\True)/\((.nat (ZT [[32],[62],[43],[126]] op)):SV)=(.nat (ZT [[32],[62],[43],[126]] op));have a13:=(True)/\((.ptr 1 1):SV)=(.ptr 1 1);have a14:=(True)/\((.str key):SV)=(.str key);have a15:=(True)/\((.ptr 1 2):SV)=(.ptr 1 2);have a16:=(True)/\((.str val):SV)=(.str val);have a17:=(True)/\(a3:SV)=a3;have a18:=(True)/\((.int .i64 a):SV)=(.int .i64 a);have a19:=(True)/\((.int .i64 y):SV)=(.int .i64 y);cond (decide (k=1)) (K (.val (.agg [(.nat 2),(.nat 0),(.str key),(.str []),(.nat 0),(.nat 0),(.nat 0),(.nat 0)])) none) (cond (decide (k=2)) (K (.val (.agg [(.nat 3),(.nat 0),(.str []),(.str val),(.nat 0),(.nat 0),(.nat 0),(.nat 0)])) none) (cond (decide (k=3)) (K (.val (.agg [(.nat 4),(.nat 0),(.str []),(.str val),(.nat 0),(.nat 0),(.nat 0),(.nat 0)])) none) (cond (decide (k=4)) ((a13/\a13/\a13/\True)/\(a14/\a14/\a14/\True)/\(a15/\a15/\a15/\True)/\(a16/\a16/\a16/\True)/\((a10/\(a1:SV)=a1)/\(a10/\(a1:SV)=a1)/\(a10/\(a1:SV)=a1)/\True)/\(a8/\a8/\a8/\True)/\(a9/\a9/\a9/\True)/\(a5/\a5/\a5/\True)/\(a17/\a17/\a17/\True)/\((zt 33).isSome=true)/\(True/\True/\stC [(3,.blk 33 [(.nat 0),(.nat 0),(.str []),(.str []),(.nat 0),(.nat 0),(.nat 0),(.nat 0)]),(2,.blk 33 [(.nat 0),(.nat 0),(.str []),(.str []),(.nat 0),(.nat 0),(.nat 0),(.nat 0)]),(1,.blk 76 [(.nat k),(.str key),(.str val),(.str op),(.int .i64 a),(.int .i64 y),(.bool l),(.bool t),(.bool ow),(.bool ig),(.sl (.csels ks))])] 33 (.ptr 3 0) a3)/\cond ig (K (.val (.agg [(.nat 5),a0,(.str key),(.str val),(.nat 0),(.nat 0),(.nat 1),(.nat 0)])) none) (K (.val a3) none)) (cond (decide (k=5)) ((((True)/\((.ptr 1 4):SV)=(.ptr 1 4))/\((True)/\((.ptr 1 4):SV)=(.ptr 1 4))/\True)/\(a18/\a18/\True)/\(((True)/\((.ptr 1 5):SV)=(.ptr 1 5))/\((True)/\((.ptr 1 5):SV)=(.ptr 1 5))/\True)/\(a19/\a19/\True)/\(((True)/\((.ptr 1 6):SV)=(.ptr 1 6))/\((True)/\((.ptr 1 6):SV)=(.ptr 1 6))/\True)/\(((True)/\((.bool l):SV)=(.bool l))/\((True)/\((.bool l):SV)=(.bool l))/\True)/\(((True)/\((.ptr 1 7):SV)=(.ptr 1 7))/\((True)/\((.ptr 1 7):SV)=(.ptr 1 7))/\True)/\(((True)/\((.bool t):SV)=(.bool t))/\((True)/\((.bool t):SV)=(.bool t))/\True)/\(a11/\a11/\True)/\(((True)/\(a4:SV)=a4)/\((True)/\(a4:SV)=a4)/\True)/\(True/\True/\stC [(2,.blk 33 [(.nat 0),(.nat 0),(.str []),(.str []),(.nat 0),(.nat 0),(.nat 0),(.nat 0)]),(1,.blk 76 [(.nat k),(.str key),(.str val),(.str op),(.int .i64 a),(.int .i64 y),(.bool l),(.bool t),(.bool ow),(.bool ig),(.sl (.csels ks))])] 33 (.ptr 2 0) a4)/\K (.val a4) none) (cond (decide (k=6)) (K (.val (.agg [(.nat 7),(.nat 0),(.str []),(.str []),(.nat 0),(.nat 0),(.nat (Qcp false t)),(.nat 0)])) none) (cond (decide (k=14)) (K (.val (.agg [(.nat 15),(.nat 0),(.str []),(.str val),(.nat 0),(.nat 0),(.nat 0),(.nat 0)])) none) (cond (decide (k=15)) (cond ow (K (.val (.agg [(.nat 17),(.nat 0),(.str []),(.str val),(.nat 0),(.nat 0),(.nat 0),(.nat 0)])) none) (K (.val (.agg [(.nat 16),(.nat 0),(.str []),(.str val),(.nat 0),(.nat 0),(.nat 0),(.nat 0)])) none)) (cond (decide (k=16)) (K (.val (.agg [(.nat 24),(.nat 0),(.str []),(.str val),(.nat 0),(.nat 0),(.nat 0),(.nat 0)])) none) (cond (decide (k=17)) (([[110,111,116],[104,97,115],[104,97,115,99,104,105,108,100]].length<=1000000)/\(18+a7<=9223372036854775807)/\(1<=18+a7/\18+a7<=9223372036854775807)/\K (.val (.agg [(.nat (18+a7-1)),(.nat 0),(.str []),(.str []),(.nat 0),(.nat 0),(.nat 0),(.nat 0)])) none) (cond (decide (k=18)) (K (.val (.agg [(.nat 21),(.nat 0),(.str []),(.str val),(.nat 0),(.nat 0),(.nat 0),(.nat 0)])) none) (cond (decide (k=19)) (((a10/\(a12:SV)=a12)/\(a10/\(a12:SV)=a12)/\True)/\(a8/\a8/\True)/\(a9/\a9/\True)/\(a6/\a6/\True)/\(((True)/\(a2:SV)=a2)/\((True)/\(a2:SV)=a2)/\True)/\(True/\True/\stC [(2,.blk 33 [(.nat 0),(.nat 0),(.str []),(.str []),(.nat 0),(.nat 0),(.nat 0),(.nat 0)]),(1,.blk 76 [(.nat k),(.str key),(.str val),(.str op),(.int .i64 a),(.int .i64 y),(.bool l),(.bool t),(.bool ow),(.bool ig),(.sl (.csels ks))])] 33 (.ptr 2 0) a2)/\K (.val a2) none) ((8+k<=9223372036854775807)/\(7<=8+k/\8+k<=9223372036854775807)/\K (.val (.agg [(.nat (8+k-7)),(.nat 0),(.str []),(.str []),(.nat 0),(.nat 0),(.nat 0),(.nat 0)])) none))))))))))))) ?_
   refine Qb ?_ ?_<;>intro h1<;>try simp[-zd,-ze]at h1
   . simp[QC,h1,-zd]at hk
     refine hk _ (QP ?_)
     show _/\_/\_/\_/\_/\_/\_/\_/\True
     refine⟨?_,?_,?_,?_,?_,?_,?_,?_,trivial⟩
     all_goals
      intro ω v h
      first
       | exact h
       | (rw[h.nat_inv];exact .int _ _)
       | exact Zv (by dsimp only;omega) ω v h
   refine Qb (fun h2=>?_) (fun h2=>?_)
   . try simp[-zd,-ze]at h2
     simp[QC,h1,h2,-zd]at hk
     refine hk _ (QP ?_)
     show _/\_/\_/\_/\_/\_/\_/\_/\True
     refine⟨?_,?_,?_,?_,?_,?_,?_,?_,trivial⟩
     all_goals
      intro ω v h
      first
       | exact h
       | (rw[h.nat_inv];exact .int _ _)
       | exact Zv (by dsimp only;omega) ω v h
   try simp[-zd,-ze]at h2
   refine Qb ?_ ?_<;>intro h3<;>try simp[-zd,-ze]at h3
   . simp[QC,h1,h2,h3,-zd]at hk
     refine hk _ (QP ?_)
     show _/\_/\_/\_/\_/\_/\_/\_/\True
     refine⟨?_,?_,?_,?_,?_,?_,?_,?_,trivial⟩
     all_goals
      intro ω v h
      first
       | exact h
       | (rw[h.nat_inv];exact .int _ _)
       | exact Zv (by dsimp only;omega) ω v h
   refine Qb (fun h4=>?_) (fun h4=>?_)
   . try simp[-zd,-ze]at h4
     refine⟨⟨⟨trivial,rfl⟩,⟨trivial,rfl⟩,⟨trivial,rfl⟩,trivial⟩,?_⟩
     refine⟨⟨⟨trivial,rfl⟩,⟨trivial,rfl⟩,⟨trivial,rfl⟩,trivial⟩,?_⟩
     refine⟨⟨⟨trivial,rfl⟩,⟨trivial,rfl⟩,⟨trivial,rfl⟩,trivial⟩,?_⟩
     refine⟨⟨⟨trivial,rfl⟩,⟨trivial,rfl⟩,⟨trivial,rfl⟩,trivial⟩,?_⟩
     refine⟨⟨⟨⟨trivial,rfl,trivial⟩,rfl⟩,⟨⟨trivial,rfl,trivial⟩,rfl⟩,⟨⟨trivial,rfl,trivial⟩,rfl⟩,trivial⟩,?_⟩
     refine⟨⟨⟨trivial,rfl⟩,⟨trivial,rfl⟩,⟨trivial,rfl⟩,trivial⟩,?_⟩
     refine⟨⟨⟨trivial,rfl⟩,⟨trivial,rfl⟩,⟨trivial,rfl⟩,trivial⟩,?_⟩
     refine⟨⟨⟨⟨⟨trivial,trivial,trivial⟩,rfl,⟨(by first | omega | (simp;done) | (simp;omega) | (simp;assumption)),trivial⟩⟩,rfl⟩,⟨⟨⟨trivial,trivial,trivial⟩,rfl,⟨(by first | omega | (simp;done) | (simp;omega) | (simp;assumption)),trivial⟩⟩,rfl⟩,⟨⟨⟨trivial,trivial,trivial⟩,rfl,⟨(by first | omega | (simp;done) | (simp;omega) | (simp;assumption)),trivial⟩⟩,rfl⟩,trivial⟩,?_⟩
     refine⟨⟨⟨trivial,rfl⟩,⟨trivial,rfl⟩,⟨trivial,rfl⟩,trivial⟩,?_⟩
     refine⟨rfl,?_⟩
     refine⟨⟨trivial,trivial,rfl,xy rfl,rfl⟩,?_⟩
     refine Qb ?_ ?_<;>intro h5<;>try simp[-zd,-ze]at h5
     . simp[QC,h1,h2,h3,h4,h5,-zd]at hk
       refine hk _ (QP ?_)
       show _/\_/\_/\_/\_/\_/\_/\_/\True
       refine⟨?_,?_,?_,?_,?_,?_,?_,?_,trivial⟩
       all_goals
        intro ω v h
        first
         | exact h
         | (rw[h.nat_inv];exact .int _ _)
         | exact Zv (by dsimp only;omega) ω v h
     simp[QC,h1,h2,h3,h4,h5,-zd]at hk
     refine hk _ (QP ?_)
     show _/\_/\_/\_/\_/\_/\_/\_/\True
     refine⟨?_,?_,?_,?_,?_,?_,?_,?_,trivial⟩
     all_goals
      intro ω v h
      first
       | exact h
       | (rw[h.nat_inv];exact .int _ _)
       | exact Zv (by dsimp only;omega) ω v h
   try simp[-zd,-ze]at h4
   refine Qb ?_ ?_<;>intro h5<;>try simp[-zd,-ze]at h5
   . refine⟨⟨⟨trivial,rfl⟩,⟨trivial,rfl⟩,trivial⟩,?_⟩
     refine⟨⟨⟨trivial,rfl⟩,⟨trivial,rfl⟩,trivial⟩,?_⟩
     refine⟨⟨⟨trivial,rfl⟩,⟨trivial,rfl⟩,trivial⟩,?_⟩
     refine⟨⟨⟨trivial,rfl⟩,⟨trivial,rfl⟩,trivial⟩,?_⟩
     refine⟨⟨⟨trivial,rfl⟩,⟨trivial,rfl⟩,trivial⟩,?_⟩
     refine⟨⟨⟨trivial,rfl⟩,⟨trivial,rfl⟩,trivial⟩,?_⟩
     refine⟨⟨⟨trivial,rfl⟩,⟨trivial,rfl⟩,trivial⟩,?_⟩
     refine⟨⟨⟨trivial,rfl⟩,⟨trivial,rfl⟩,trivial⟩,?_⟩
     refine⟨⟨⟨⟨⟨trivial,trivial,trivial⟩,rfl,trivial⟩,rfl⟩,⟨⟨⟨trivial,trivial,trivial⟩,rfl,trivial⟩,rfl⟩,trivial⟩,?_⟩
     refine⟨⟨⟨trivial,rfl⟩,⟨trivial,rfl⟩,trivial⟩,?_⟩
     refine⟨⟨trivial,trivial,rfl,xy rfl,rfl⟩,?_⟩
     simp[QC,h1,h2,h3,h4,h5,-zd]at hk
     refine hk _ (QP ?_)
     show _/\_/\_/\_/\_/\_/\_/\_/\True
     refine⟨?_,?_,?_,?_,?_,?_,?_,?_,trivial⟩
     all_goals
      intro ω v h
      first
       | exact h
       | (rw[h.nat_inv];exact .int _ _)
       | exact Zv (by dsimp only;omega) ω v h
   refine Qb (fun h6=>?_) (fun h6=>?_)
   . try simp[-zd,-ze]at h6
     simp[QC,h1,h2,h3,h4,h5,h6,-zd]at hk
     refine hk _ (QP ?_)
     show _/\_/\_/\_/\_/\_/\_/\_/\True
     refine⟨?_,?_,?_,?_,?_,?_,?_,?_,trivial⟩
     all_goals
      intro ω v h
      first
       | exact h
       | (rw[h.nat_inv];exact .int _ _)
       | exact Zv (by dsimp only;omega) ω v h
   try simp[-zd,-ze]at h6
   refine Qb ?_ ?_<;>intro h7<;>try simp[-zd,-ze]at h7
   . simp[QC,h1,h2,h3,h4,h5,h6,h7,-zd]at hk
     refine hk _ (QP ?_)
     show _/\_/\_/\_/\_/\_/\_/\_/\True
     refine⟨?_,?_,?_,?_,?_,?_,?_,?_,trivial⟩
     all_goals
      intro ω v h
      first
       | exact h
       | (rw[h.nat_inv];exact .int _ _)
       | exact Zv (by dsimp only;omega) ω v h
   refine Qb (fun h8=>?_) (fun h8=>?_)
   . try simp[-zd,-ze]at h8
     refine Qb ?_ ?_<;>intro h9<;>try simp[-zd,-ze]at h9
     . simp[QC,h1,h2,h3,h4,h5,h6,h7,h8,h9,-zd]at hk
       refine hk _ (QP ?_)
       show _/\_/\_/\_/\_/\_/\_/\_/\True
       refine⟨?_,?_,?_,?_,?_,?_,?_,?_,trivial⟩
       all_goals
        intro ω v h
        first
         | exact h
         | (rw[h.nat_inv];exact .int _ _)
         | exact Zv (by dsimp only;omega) ω v h
     simp[QC,h1,h2,h3,h4,h5,h6,h7,h8,h9,-zd]at hk
     refine hk _ (QP ?_)
     show _/\_/\_/\_/\_/\_/\_/\_/\True
     refine⟨?_,?_,?_,?_,?_,?_,?_,?_,trivial⟩
     all_goals
      intro ω v h
      first
       | exact h
       | (rw[h.nat_inv];exact .int _ _)
       | exact Zv (by dsimp only;omega) ω v h
   try simp[-zd,-ze]at h8
   refine Qb ?_ ?_<;>intro h9<;>try simp[-zd,-ze]at h9
   . simp[QC,h1,h2,h3,h4,h5,h6,h7,h8,h9,-zd]at hk
     refine hk _ (QP ?_)
     show _/\_/\_/\_/\_/\_/\_/\_/\True
     refine⟨?_,?_,?_,?_,?_,?_,?_,?_,trivial⟩
     all_goals
      intro ω v h
      first
       | exact h
       | (rw[h.nat_inv];exact .int _ _)
       | exact Zv (by dsimp only;omega) ω v h
   refine Qb (fun h10=>?_) (fun h10=>?_)
   . try simp[-zd,-ze]at h10
     refine Qp6 (Qp6 (Qp6 ?_))
     simp[QC,h1,h2,h3,h4,h5,h6,h7,h8,h9,h10,-zd]at hk
     refine hk _ (QP ?_)
     show _/\_/\_/\_/\_/\_/\_/\_/\True
     refine⟨?_,?_,?_,?_,?_,?_,?_,?_,trivial⟩
     all_goals
      intro ω v h
      first
       | exact h
       | (rw[h.nat_inv];exact .int _ _)
       | exact Zv (by dsimp only;omega) ω v h
   try simp[-zd,-ze]at h10
   refine Qb ?_ ?_<;>intro h11<;>try simp[-zd,-ze]at h11
   . simp[QC,h1,h2,h3,h4,h5,h6,h7,h8,h9,h10,h11,-zd]at hk
     refine hk _ (QP ?_)
     show _/\_/\_/\_/\_/\_/\_/\_/\True
     refine⟨?_,?_,?_,?_,?_,?_,?_,?_,trivial⟩
     all_goals
      intro ω v h
      first
       | exact h
       | (rw[h.nat_inv];exact .int _ _)
       | exact Zv (by dsimp only;omega) ω v h
   refine Qb (fun h12=>?_) (fun h12=>?_)
   . try simp[-zd,-ze]at h12
     refine⟨⟨⟨⟨trivial,rfl,trivial⟩,rfl⟩,⟨⟨trivial,rfl,trivial⟩,rfl⟩,trivial⟩,?_⟩
     refine⟨⟨⟨trivial,rfl⟩,⟨trivial,rfl⟩,trivial⟩,?_⟩
     refine⟨⟨⟨trivial,rfl⟩,⟨trivial,rfl⟩,trivial⟩,?_⟩
     refine⟨⟨⟨⟨⟨trivial,trivial,trivial⟩,rfl,⟨(by first | omega | (simp;done) | (simp;omega) | (simp;assumption)),trivial⟩⟩,rfl⟩,⟨⟨⟨trivial,trivial,trivial⟩,rfl,⟨(by first | omega | (simp;done) | (simp;omega) | (simp;assumption)),trivial⟩⟩,rfl⟩,trivial⟩,?_⟩
     refine⟨⟨⟨trivial,rfl⟩,⟨trivial,rfl⟩,trivial⟩,?_⟩
     refine⟨⟨trivial,trivial,rfl,xy rfl,rfl⟩,?_⟩
     simp[QC,h1,h2,h3,h4,h5,h6,h7,h8,h9,h10,h11,h12,-zd]at hk
     refine hk _ (QP ?_)
     show _/\_/\_/\_/\_/\_/\_/\_/\True
     refine⟨?_,?_,?_,?_,?_,?_,?_,?_,trivial⟩
     all_goals
      intro ω v h
      first
       | exact h
       | (rw[h.nat_inv];exact .int _ _)
       | exact Zv (by dsimp only;omega) ω v h
   try simp[-zd,-ze]at h12
   refine Qp6 (Qp6 ?_)
   simp[QC,h1,h2,h3,h4,h5,h6,h7,h8,h9,h10,h11,h12,-zd]at hk
   refine hk _ (QP ?_)
   show _/\_/\_/\_/\_/\_/\_/\_/\True
   refine⟨?_,?_,?_,?_,?_,?_,?_,?_,trivial⟩
   all_goals
    intro ω v h
    first
     | exact h
     | (rw[h.nat_inv];exact .int _ _)
     | exact Zv (by dsimp only;omega) ω v h
 exact hP.elim
def c50 (svs:List SV) (b:Option SB) (K:Out->Option SB->Prop):Prop:=match svs,b with
 | [.agg [.nat k,.str key,.str val,.str op,.int .i64 a,.int .i64 y,.bool l,.bool t,.bool ow,.bool ig,.sl (.csels ks)]],none=>k<=19/\K (.val (.agg (Qt0 (QC k key val op a y l t ow ig)))) none
 | _,_=>False
theorem sat50:Sat 50 c50:=by
 refine Sat.outW QuB fun svs b K hP=>?_
 unfold c50 at hP
 split at hP
 exact⟨hP.1,fun s hs=>⟨s,_,rfl,rfl,hs,hP.2⟩⟩
 exact hP.elim
end
end Go.Proofs.YtengepcafdnalaaGreatDoor
