/-
  Parts of the proof that the law FnPrintBack holds for every input (texts Xh, Xi, Xj, Og, Oh, Oi). Conditions: none.
-/
import Derived.Test.YtengepcafdnalaaGreatDoorM33
import Derived.Lib.Join
import Derived.Lib.ItoaNum
import Derived.Shelf.Strconv.Itoa3
import Derived.Shelf.Strings.OnBuilder
import Derived.Lib.AppendIntMem
namespace Go.Proofs.YtengepcafdnalaaGreatDoor
open _root_.Array renaming getElem?_eq_getElem → zr, getElem?_eq_some_iff → zA
open _root_.Bool renaming and_eq_true → zk, or_eq_true → zx, false_or → xA, or_eq_false_iff → zT
open _root_.List renaming exists_cons_of_ne_nil → zX, mem_cons → zu, not_mem_nil → zJ, length_append → zh, length_cons → zj, length_nil → zo, flatten_cons → xu, replicate → zM, length_take → zP, length_replicate → z7, take_add_one → zU, getElem?_eq_getElem → zg, getD_eq_getElem?_getD → zd, take_of_length_le → zS, drop_eq_getElem_cons → zI, append_assoc → zw, getElem?_map → zC, getElem?_eq_some_iff → zy
open _root_.Nat renaming le_refl → zm, strongRecOn → zl
open _root_.Option renaming bind_some → zQ, map_eq_some_iff → zi
open Go.Proofs.Tryz renaming prog → zf, underlying4 → xm
open _root_.UInt8 renaming ofNat → zD, toNat_or → ze
section
set_option maxRecDepth 20000
def escL:Bs:=[44,33,34,35,36,37,38,39,40,41,42,43,32,45,46,47,58,59,60,61,62,63,64,91,92,93,94,96,123,124,125,126]
def QjA (c:UInt8):Bs:=if c∈escL then [92,c] else [c]
def Zp:Bs->Bs
 | []=>[]
 | c::s=>QjA c++Zp s
def QcC (l t:Bool):Bs:=(if l=true then [108,97,115,116,45] else [102,105,114,115,116,45])++(if t=true then [111,102,45,116,121,112,101] else [99,104,105,108,100])
mutual
def pr:CSel->Bs
 | .tag k=>k
 | .cls v=>46::Zp v
 | .idn v=>35::Zp v
 | .attr k v o i=>91::(k++(o++((if o=[] then v else 34::(v++[34]))++((if i=true then [32,105] else [])++[93]))))
 | .nth a b l t=>if a=0/\b=1 then 58::QcC l t else 58::(Way.Z7 l t++(40::(Qct a b++[41])))
 | .only t=>58::(if t=true then [111,110,108,121,45,111,102,45,116,121,112,101] else [111,110,108,121,45,99,104,105,108,100])
 | .empty=>58::VR.getD 0 []
 | .root=>58::VR.getD 1 []
 | .input=>58::VR.getD 2 []
 | .link=>58::VR.getD 3 []
 | .enabled=>58::VR.getD 4 []
 | .disabled=>58::VR.getD 5 []
 | .checked=>58::VR.getD 6 []
 | .lang v=>58::(Jc++(40::(v++[41])))
 | .contains v o=>58::((if o=true then [99,111,110,116,97,105,110,115,79,119,110] else [99,111,110,116,97,105,110,115])++(40::((34::(v++[34]))++[41])))
 | .never v=>v
 | .rel n l=>58::(n++(40::(Qcc (prs l)++[41])))
 | .compound l pe=>if l=[]/\pe=[] then [42] else (prs l).flatten++(if pe=[] then [] else 58::58::pe)
 | .combined f c s=>pr f++([32]++(YM c.toNat++([32]++pr s)))
def prs:List CSel->List Bs
 | []=>[]
 | x::l=>pr x::prs l
end
def prG (l:List CSel):Bs:=Qcc (prs l)
theorem Qhm (l:List CSel):prs l=l.map pr:=by
 induction l with
 | nil=>rfl
 | cons x l ih=>rw[prs,ih];rfl
namespace Way
def Uc (k:Bs):Prop:=IdW k k/\low k=k
def Qi6 (v:Bs):Prop:=∀c∈v,32<=c.toNat/\c.toNat≠127
def QpF (v:Bs):Prop:=∀c∈v,c.toNat≠34/\c.toNat≠92/\YI c.toNat=false
def peF:CSel->Bool
 | .compound _ pe => !decide (pe=[])
 | .combined _ _ s=>peF s
 | _=>false
def Qjd:CSel->Prop
 | .cls v=>v≠[]/\Qi6 v/\Qu (hd v)=false
 | .idn v=>v≠[]/\Qi6 v
 | .attr k v o i=>Uc k/\(o=[]/\v=[]/\i=false\/o∈attrSigns/\QpF v)
 | .nth a b _ _=>(-9223372036854775807<=a/\a<=9223372036854775807)/\(-9223372036854775807<=b/\b<=9223372036854775807)
 | .lang v=>Uc v
 | .contains v _=>QpF v/\low v=v
 | .never v=>∃n,n∈neverNames/\v=58::n
 | .tag _=>False
 | .rel _ _=>False
 | .compound _ _=>False
 | .combined _ _ _=>False
 | _=>True
def Gd:Nat->Nat->Nat->CSel->Prop
 | 0,_,_,_=>False
 | _+1,_,c,.tag k=>c≠0/\Uc k
 | m+1,d,_,.rel n l=>(n=Zz\/n=ZA\/n=QN)/\l≠[]/\∃d',d=d'+1/\∀y∈l,Gd m d' 2 y/\peF y=false
 | m+1,d,c,.compound l pe=>c≠0/\(pe=[]\/pe∈elNames)/\(l.length=1->pe≠[])/\(∀y∈l.tail,Gd m d 0 y)/\(∀y,l.head? = some y->Gd m d 0 y\/∃k,y=.tag k/\Uc k)
 | m+1,d,c,.combined f o s=>2<=c/\(o=32\/o=62\/o=43\/o=126)/\Gd m d 2 f/\peF f=false/\Gd m d 1 s
 | _+1,_,_,x=>Qjd x
theorem QmE:∀c:UInt8,32<=c.toNat/\c.toNat≠127->(c∈escL->QI c.toNat=false/\YI c.toNat=false)/\(c∉escL->Qr c.toNat=true/\(Qu c.toNat=false->QK c.toNat=true)):=by
 have h:∀n:Fin 256,32<=(zD n.val).toNat/\(zD n.val).toNat≠127->(zD n.val∈escL->QI (zD n.val).toNat=false/\YI (zD n.val).toNat=false)/\(zD n.val∉escL->Qr (zD n.val).toNat=true/\(Qu (zD n.val).toNat=false->QK (zD n.val).toNat=true)):=by decide +kernel
 intro c
 have:=h ⟨c.toNat,c.toNat_lt⟩
 simpa using this
theorem Qk2:∀{v:Bs},Qi6 v->NmW v (Zp v)
 | [],_=>.nil
 | c::v,h=>by
  have ih:=Qk2 (v:=v) (fun x hx=>h x (by simp[hx]))
  obtain⟨q1,q2⟩:=QmE c (h c (by simp))
  rw[Zp]
  unfold QjA
  by_cases hc:c∈escL
  rw[if_pos hc]
  exact .esc (a:=[c]) (.lit c (q1 hc).1 (q1 hc).2) ih
  rw[if_neg hc]
  exact .raw (q2 hc).1 ih
theorem Qxn {v:Bs} (h:v≠[]):Zp v≠[]:=by
 obtain⟨c,u,rfl⟩:=zX h
 rw[Zp];unfold QjA
 split<;>simp
theorem Qxo {v:Bs} (h:Qi6 v) (h0:v≠[]) (hd0:Qu (hd v)=false):IdW v (Zp v):=by
 refine⟨0,v,Zp v,rfl,rfl,Qk2 h,?_⟩
 obtain⟨c,u,rfl⟩:=zX h0
 obtain⟨q1,q2⟩:=QmE c (h c (by simp))
 rw[Zp]
 unfold QjA
 by_cases hc:c∈escL
 rw[if_pos hc];exact .inr rfl
 rw[if_neg hc];exact .inl ((q2 hc).2 hd0)
theorem QvL {v:Bs} (h:QpF v):StW 34 v v:=by
 induction v with
 | nil=>exact .nil
 | cons c v ih=>exact .raw (h c (by simp)) (ih fun x hx=>h x (by simp[hx]))
theorem QdT {v:Bs} (h:QpF v):Qlt v (34::(v++[34])):=.inr ⟨34,v,.inr rfl,QvL h,rfl⟩
theorem Qwb {x:CSel} (h:Qjd x):YJ 0 x (pr x):=by
 have pl:∀m:Fin 7,∀y:CSel,(∀G s j,VX G s (VR.getD m.val []) j=some (some y,[],j))->YJ 0 y (58::VR.getD m.val []):=fun m y hy=>by
  have q:=Qsj m
  exact YJ.plain q.1 (by rw[q.2];exact hy)
 cases x<;>simp only[Qjd]at h
 case cls v=>rw[pr];exact YJ.cls (Qxo h.2.1 h.1 h.2.2)
 case idn v=>rw[pr];exact YJ.idn (Qk2 h.2) (Qxn h.1)
 case attr k v o i=>
  obtain⟨⟨h1,h2⟩,h3⟩:=h
  rw[pr]
  rcases h3 with ⟨rfl,rfl,rfl⟩ | ⟨ho,hv⟩
  have q:=YJ.attr0 (g1:=[]) (g2:=[]) h1 .nil .nil
  rw[h2]at q
  simpa using q
  have ho':o≠[]:=fun q=>by subst q;exact absurd ho (by decide)
  rw[if_neg ho']
  cases i
  have q:=YJ.attr1 (g1:=[]) (g2:=[]) (g3:=[]) (g4:=[]) (g5:=[]) (f:=[]) (ign:=false) h1 .nil .nil ho .nil (QdT hv) .nil (.inl ⟨rfl,rfl⟩) (.inl rfl) .nil
  rw[h2]at q
  simpa using q
  have q:=YJ.attr1 (g1:=[]) (g2:=[]) (g3:=[]) (g4:=[32]) (g5:=[]) (f:=[105]) (ign:=true) h1 .nil .nil ho .nil (QdT hv) Qir (.inr ⟨rfl,.inl rfl⟩) (.inr (by simp)) .nil
  rw[h2]at q
  simpa using q
 case nth a b l t=>
  rw[pr]
  by_cases e:a=0/\b=1
  rw[if_pos e,e.1,e.2]
  cases l<;>cases t
  exact YJ.plain (x:=.nth 0 1 false false) (v:=[102,105,114,115,116,45,99,104,105,108,100]) (Y6 (by decide)) (fun G s j=>rfl)
  exact YJ.plain (x:=.nth 0 1 false true) (v:=[102,105,114,115,116,45,111,102,45,116,121,112,101]) (Y6 (by decide)) (fun G s j=>rfl)
  exact YJ.plain (x:=.nth 0 1 true false) (v:=[108,97,115,116,45,99,104,105,108,100]) (Y6 (by decide)) (fun G s j=>rfl)
  exact YJ.plain (x:=.nth 0 1 true true) (v:=[108,97,115,116,45,111,102,45,116,121,112,101]) (Y6 (by decide)) (fun G s j=>rfl)
  rw[if_neg e]
  have hn:∀l t:Bool,IdW (Z7 l t) (Z7 l t)/\low (Z7 l t)=Z7 l t:=by
   intro l t
   have:(((Z7 l t).all fun c=>Qr c.toNat)&&QK (hd (Z7 l t)))=true/\low (Z7 l t)=Z7 l t:=by
    cases l<;>cases t<;>decide
   exact⟨Y6 this.1,this.2⟩
  have q:=YJ.nth (g1:=[]) (g2:=[]) l t (hn l t).1 (hn l t).2 (Qog h.1 h.2) .nil .nil
  simpa using q
 case only t=>
  rw[pr]
  cases t
  exact YJ.plain (x:=.only false) (v:=[111,110,108,121,45,99,104,105,108,100]) (Y6 (by decide)) (fun G s j=>rfl)
  exact YJ.plain (x:=.only true) (v:=[111,110,108,121,45,111,102,45,116,121,112,101]) (Y6 (by decide)) (fun G s j=>rfl)
 case empty=>rw[pr];exact pl 0 _ fun G s j=>rfl
 case root=>rw[pr];exact pl 1 _ fun G s j=>rfl
 case input=>rw[pr];exact pl 2 _ fun G s j=>rfl
 case link=>rw[pr];exact pl 3 _ fun G s j=>rfl
 case enabled=>rw[pr];exact pl 4 _ fun G s j=>rfl
 case disabled=>rw[pr];exact pl 5 _ fun G s j=>rfl
 case checked=>rw[pr];exact pl 6 _ fun G s j=>rfl
 case lang v=>
  have q:=YJ.lang (g1:=[]) (g2:=[]) (Y6 (t:=Jc) (by decide)) (by decide) h.1 .nil .nil
  rw[h.2]at q
  rw[pr]
  simpa using q
 case never v=>
  obtain⟨n,hn,rfl⟩:=h
  rw[pr]
  simp only[neverNames,zu,zJ,or_false]at hn
  rcases hn with rfl | rfl | rfl | rfl | rfl<;>exact YJ.plain (Y6 (by decide)) (fun G s j=>rfl)
 case contains v o=>
  rw[pr]
  cases o
  have q:=YJ.contains (g1:=[]) (g2:=[]) false (Y6 (t:=[99,111,110,116,97,105,110,115]) (by decide)) (by decide) (QdT h.1) .nil .nil
  rw[h.2]at q
  simpa using q
  have q:=YJ.contains (g1:=[]) (g2:=[]) true (Y6 (t:=[99,111,110,116,97,105,110,115,79,119,110]) (by decide)) (by decide) (QdT h.1) .nil .nil
  rw[h.2]at q
  simpa using q
theorem el_p' {pe:Bs} (h:pe∈elNames):ElS pe (58::58::pe)/\pe≠[]:=by
 have key:∀v:Bs,((v.all fun c=>Qr c.toNat)&&QK (hd v))=true->low v=v->v∈elNames->(∀G s j,VX G s v j=some (none,v,j))->v≠[]->ElS v (58::58::v)/\v≠[]:=by
  intro v h1 h2 h3 h4 h5
  have q:=ElS.two (Y6 h1) (by rw[h2];exact h3) (by rw[h2];exact h4) (by rw[h2];exact h5)
  rw[h2]at q
  exact⟨q,h5⟩
 simp only[elNames,zu,zJ,or_false]at h
 rcases h with rfl | rfl | rfl | rfl | rfl | rfl | rfl | rfl | rfl | rfl | rfl<;>exact key _ (by decide) (by decide) (by decide) (fun G s j=>rfl) (by decide)
def peFs (l:List CSel):Bool:=l.any peF
theorem Qmz:∀(m d c:Nat) (x:CSel),Gd m d c x->∀(m' d' c':Nat),m<=m'->d<=d'->c<=c'->Gd m' d' c' x
 | 0,d,c,x,h,_,_,_,_,_,_=>by simp only[Gd]at h
 | m+1,d,c,x,h,m',d',c',hm,hd,hc=>by
  obtain⟨m',rfl⟩:∃k,m'=k+1:=⟨m'-1,by omega⟩
  have ih:=Qmz m
  cases x
  case tag k=>simp only[Gd]at h ⊢;exact⟨fun q=>h.1 (by omega),h.2⟩
  case rel n l=>
   simp only[Gd]at h ⊢
   obtain⟨h1,h2,e,rfl,h3⟩:=h
   exact⟨h1,h2,d'-1,by omega,fun y hy=>⟨ih _ _ _ (h3 y hy).1 _ _ _ (by omega) (by omega) (zm _),(h3 y hy).2⟩⟩
  case compound l pe=>
   simp only[Gd]at h ⊢
   obtain⟨h0,h1,h2,h3,h4⟩:=h
   exact⟨fun q=>h0 (by omega),h1,h2,fun y hy=>ih _ _ _ (h3 y hy) _ _ _ (by omega) hd (zm _),fun y hy=>(h4 y hy).imp (fun q=>ih _ _ _ q _ _ _ (by omega) hd (zm _)) id⟩
  case combined f o s=>
   simp only[Gd]at h ⊢
   obtain⟨h0,h1,h2,h3,h4⟩:=h
   exact⟨by omega,h1,ih _ _ _ h2 _ _ _ (by omega) hd (zm _),h3,ih _ _ _ h4 _ _ _ (by omega) hd (zm _)⟩
  all_goals (simp only[Gd]at h ⊢;exact h)
theorem Gd.mono {m d c:Nat} {x:CSel} (h:Gd m d c x) {m' d' c':Nat} (hm:m<=m') (hd:d<=d') (hc:c<=c'):Gd m' d' c' x:=Qmz m d c x h m' d' c' hm hd hc
end Way
end
section
set_option maxRecDepth 20000
def Jn (s:Bs):Bool:=decide (JL s=s)&&decide (JL (120::s)=120::s)
def U7:Bs:=[34,39,92,10,13,12]
def ZP (s b:Bs):Bool:=s.any fun c=>b.any fun e=>decide (c=e)
def QfQ (s:Bs):Bool:=s.any fun c=>decide (c.toNat<32)||decide (c.toNat=127)
def QdC:Bs->Bool
 | []=>false
 | c::u=>if c.toNat=45 then QdC u else Qu c.toNat
def YP (x:SelD):Bool:=
 if x.kind=2 then Jn x.key
 else if x.kind=15 then Jn x.val
 else if x.kind=5\/x.kind=16\/x.kind=17 then (!decide (x.kind=5)||Jn x.key) && !ZP x.val U7
 else if x.kind=3\/x.kind=4 then !QfQ x.val && !(decide (x.kind=3)&&QdC x.val)
 else true
def QnG (l:List SelD):Bool:=l.all YP
namespace Way
theorem Qsk {k:Bs} (hz:∀c∈k,c.toNat≠0) (hn:k≠[]) (h:Jn k=true) (hl:low k=k):Uc k:=by
 unfold Jn at h
 simp only[zk,decide_eq_true_eq]at h
 have q:=QpX hz hn
 rw[h.1]at q
 exact⟨q,hl⟩
theorem Qkm {v:Bs} (h:ZP v U7=false):QpF v:=by
 intro c hc
 unfold ZP at h
 rw[List.any_eq_false]at h
 have q:=h c hc
 simp only[U7,List.any_cons,List.any_nil,Bool.or_false,zx,decide_eq_true_eq,not_or]at q
 have ne:∀n:Nat,n<256->c≠zD n->c.toNat≠n:=fun n hn hc e=>hc (by rw[<-e];simp)
 refine⟨ne 34 (by omega) q.1,ne 92 (by omega) q.2.2.1,?_⟩
 have h1:=ne 10 (by omega) q.2.2.2.1
 have h2:=ne 13 (by omega) q.2.2.2.2.1
 have h3:=ne 12 (by omega) q.2.2.2.2.2
 simp[YI]
 omega
theorem Qi5 {v:Bs} (h:QfQ v=false):Qi6 v:=by
 intro c hc
 unfold QfQ at h
 rw[List.any_eq_false]at h
 have q:=h c hc
 simp only[zx,decide_eq_true_eq,not_or]at q
 omega
theorem Qxp {v:Bs} (h:QdC v=false):Qu (hd v)=false:=by
 cases v with
 | nil=>decide
 | cons c u=>
  rw[QdC]at h
  show Qu c.toNat=false
  split at h
  rename_i e;rw[e];decide
  exact h
structure GdT (m:Nat) (T:ST):Prop where
 sim:Qql T.node.kind=true->T.node.kind≠1->T.node.kind≠2->Gd m m 0 (c1 T)
 tag:T.node.kind=2->∃k,c1 T=.tag k/\Uc k
 seq:QkN T.node.kind=true->T.node.kind≠22->Gd m m 1 (c1 T)
 sel:QkN T.node.kind=true->Gd m m 2 (c1 T)
 pe:QkN T.node.kind=true->peF (c1 T)=hasP T
 grp:T.node.kind=23->cs T≠[]/\(∀y∈cs T,Gd m m 2 y)/\peFs (cs T)=hasP T
theorem GdT.mono {m m':Nat} {T:ST} (h:GdT m T) (hm:m<=m'):GdT m' T where
 sim:=fun a b c=>(h.sim a b c).mono hm hm (by omega)
 tag:=h.tag
 seq:=fun a b=>(h.seq a b).mono hm hm (by omega)
 sel:=fun a=>(h.sel a).mono hm hm (by omega)
 pe:=h.pe
 grp:=fun a=>⟨(h.grp a).1,fun y hy=>((h.grp a).2.1 y hy).mono hm hm (by omega),(h.grp a).2.2⟩
end Way
end
section
set_option maxRecDepth 20000
mutual
def hgt:CSel->Nat
 | .rel _ l=>QhU l+1
 | .compound l _=>QhU l+1
 | .combined f _ s=>max (hgt f) (hgt s)+1
 | _=>1
def QhU:List CSel->Nat
 | []=>0
 | x::l=>max (hgt x) (QhU l)
end
mutual
def okC:CSel->Prop
 | .nth a b _ _=>(-9223372036854775808<=a/\a<=9223372036854775807)/\(-9223372036854775808<=b/\b<=9223372036854775807)
 | .rel _ l=>Qi3 l
 | .compound l _=>Qi3 l
 | .combined f _ s=>okC f/\okC s
 | _=>True
def Qi3:List CSel->Prop
 | []=>True
 | x::l=>okC x/\Qi3 l
end
def okM (m:Nat) (x:CSel):Prop:=hgt x<=m/\okC x/\(pr x).length<=1000000/\(Qj x).length<=1000000
theorem QjG (l:List CSel):l.length<=(Qm l).length:=by
 have pos:∀x:CSel,0<(Qj x).length:=by intro x;cases x<;>simp[Qj,Ql]
 induction l with
 | nil=>simp
 | cons x l ih=>have:=pos x;simp[Qm];omega
theorem QjF {l:List CSel}:∀y∈l,(Qj y).length<=(Qm l).length:=by
 induction l with
 | nil=>intro y hy;cases hy
 | cons x l ih=>
  intro y hy
  rw[Qm,zh]
  rcases zu.1 hy with e | e
  subst e;omega
  have:=ih y e;omega
theorem Qe1 {l:List CSel} {m:Nat} (h:QhU l<=m):∀y∈l,hgt y<=m:=by
 induction l with
 | nil=>intro y hy;cases hy
 | cons x l ih=>
  rw[QhU]at h
  intro y hy
  rcases zu.1 hy with e | e
  subst e;omega
  exact ih (by omega) y e
theorem QpV {l:List CSel} (h:Qi3 l):∀y∈l,okC y:=by
 induction l with
 | nil=>intro y hy;cases hy
 | cons x l ih=>
  intro y hy
  rcases zu.1 hy with e | e
  subst e;exact h.1
  exact ih h.2 y e
theorem Qmq (x:CSel):1<=hgt x:=by cases x<;>simp[hgt]
theorem ZI:∀v:Bs,v.length<=(Zp v).length/\(Zp v).length<=2*v.length
 | []=>by simp[Zp]
 | c::v=>by
  have:=ZI v
  rw[Zp,zh,zj]
  unfold QjA
  split<;>simp<;>omega
theorem QoE {c:UInt8} (h:c=32\/c=62\/c=43\/c=126):(YM c.toNat).length=1:=by rcases h with rfl | rfl | rfl | rfl<;>decide
def prS:List CSel->Nat
 | []=>0
 | x::l=>(pr x).length+2+prS l
theorem QiT (l:List CSel):(prG l).length<=prS l:=by
 have key:∀l:List CSel,((prs l).flatMap fun u=>[44,32]++u).length=prS l:=by
  intro l
  induction l with
  | nil=>rfl
  | cons x l ih=>
   rw[prs,List.flatMap_cons,zh,ih,prS]
   simp only[zh,zj,zo];omega
 cases l with
 | nil=>simp[prG,prs,Qcc]
 | cons x l=>
  unfold prG
  rw[prs,Qcc,zh,key,prS]
  omega
theorem QpN (l:List CSel):(prs l).flatten.length<=prS l:=by
 induction l with
 | nil=>simp[prs]
 | cons x l ih=>
  rw[prs,xu,zh,prS];omega
theorem QlW (a b:List CSel):prS (a++b)=prS a+prS b:=by
 induction a with
 | nil=>simp[prS]
 | cons x a ih=>rw[List.cons_append,prS,prS,ih];omega
theorem Qsi {l:List CSel}:∀y∈l,(pr y).length+2<=prS l:=by
 induction l with
 | nil=>intro y hy;cases hy
 | cons x l ih=>
  intro y hy
  rw[prS]
  rcases zu.1 hy with e | e
  subst e;omega
  have:=ih y e;omega
theorem Qj5 (l:List CSel) (pe:Bs):(pr (VT l pe)).length<=prS l+pe.length+3:=by
 by_cases e:∃y,l=[y]/\pe=[]
 obtain⟨y,rfl,rfl⟩:=e
 show (pr y).length<=_
 simp only[prS]
 omega
 have h:VT l pe=.compound l pe:=by
  unfold VT
  split
  exact absurd ⟨_,rfl,rfl⟩ e
  rfl
 have q2:=QpN l
 rw[h,pr]
 split
 simp only[zj,zo];omega
 rw[zh]
 split<;>simp only[zj,zo]<;>omega
theorem Qji (l:List Bs):Go.Lib.join l [44,32]=Qcc l:=by
 cases l with
 | nil=>rfl
 | cons x l=>rw[Go.Lib.join_cons,Qcc];unfold Go.Lib.joinTail;rw[List.flatMap_def]
theorem QaP (l:List Bs):Go.Lib.join l []=l.flatten:=by
 cases l with
 | nil=>rfl
 | cons x l=>rw[Go.Lib.join_cons,xu];unfold Go.Lib.joinTail;simp
def prR (l:List CSel) (i:Nat):List Bs:=prs (l.take i)++zM (l.length-i) []
theorem QdU (l:List CSel):(prs l).length=l.length:=by rw[Qhm,List.length_map]
theorem QlX (l:List CSel) (i:Nat) (h:i<=l.length):(prR l i).length=l.length:=by
 unfold prR
 rw[zh,QdU,zP,z7]
 omega
theorem QtX {l:List CSel} {i:Nat} (h:i<l.length):(prR l i).set i (pr (l.getD i default))=prR l (i+1):=by
 unfold prR
 have e:(prs (l.take i)).length=i:=by rw[QdU,zP];omega
 obtain⟨k,hk⟩:∃k,l.length-i=k+1:=⟨l.length-i-1,by omega⟩
 rw[List.set_append_right _ _ (by omega),e,Nat.sub_self,hk,List.replicate_succ,List.set_cons_zero,zU,zg h,Qhm,Qhm,List.map_append,show l.length-(i+1)=k by omega]
 simp[zd,zg h]
theorem QaL {l:List CSel} {i:Nat} (h:l.length<=i):prR l i=prs l:=by
 unfold prR
 rw[zS h,show l.length-i=0 by omega]
 simp
theorem QmM:∀n:Nat,Go.Lib.decDigits n=Jz n:=by
 intro n
 induction n using zl with
 | _ n ih=>
  have d:∀m:Nat,m<10->Jz m=[zD (48+m)]:=by
   intro m hm
   rw[Jz,if_pos hm]
   exact (Way.dig10 ⟨m,hm⟩).1
  by_cases h:n<10
  rw[Go.Lib.decDigits,dif_pos h,d n h]
  rw[Go.Lib.decDigits,dif_neg h,Jz,if_neg h,ih (n/10) (by omega),d (n%10) (by omega)]
def itoa (n:Int):Bs:=if n<0 then 45::Jz (-n).toNat else Jz n.toNat
theorem Qqj (n:Int):Go.Lib.itoa n=itoa n:=by
 unfold Go.Lib.itoa itoa
 split
 rw[QmM,show n.natAbs=(-n).toNat by omega]
 rw[QmM]
theorem Qcd {n:Int} (h : -9223372036854775808<=n/\n<=9223372036854775807):(itoa n).length<=30:=by
 unfold itoa
 split
 have:=Qh3 25 (-n).toNat (by omega) (by decide)
 rw[zj];omega
 have:=Qh3 25 n.toNat (by omega) (by decide)
 omega
theorem JK {a b:Int} {l t:Bool} (h:¬(a=0/\b=1)):pr (.nth a b l t)=58::(Way.Z7 l t++(40::((itoa a++(110::(if b<0 then itoa b else 43::itoa b)))++[41]))):=by
 rw[pr,if_neg h]
 unfold Qct itoa QdL
 by_cases hb:b<0
 simp only[if_pos hb]
 simp only[if_neg hb]
end
section
open Go Go.RowKit
set_option maxRecDepth 20000
def c36 (svs:List SV) (b:Option SB):QR:=match svs,b with
 | [.str s],none=>some ([s.length<=80000],.bool (Jn s))
 | _,_=>none
noncomputable def W36:Wk:=⟨[(62,.pure c62)],Qe Tryz.f36,false,false,[.tmp 2],[4],[],[]⟩
theorem has36:Has 36:=hsf Tryz.f36
theorem ogz1 {c0 p0 q:Prop} (k:q) (h:c0->p0/\True:=by intro g0;(try simp at g0);exact⟨(by first | omega | (simp;omega) | (simp only[zh,zj,zo];omega)),trivial⟩):(c0->p0/\True)/\q:=⟨h,k⟩
theorem ogz0 {p q:Prop} (k:q) (h:p:=by first | omega | (simp;omega) | (simp only[zh,zj,zo];omega)):p/\q:=⟨h,k⟩
theorem sat36:Sat 36 (Qz c36):=by
 have hD:Qa W36.D:=(Qa.cons has62 sat62 Qa.nil)
 refine W36.sa hD Tryz.f36 fun svs b K hP=>?_
 obtain⟨ps,v,e,hp,hk⟩:=Qh hP
 unfold c36 at e
 split at e
 rename_i s
 cases e
 obtain⟨h01,_⟩:=hp
 have n1:=Qgo s
 have n2:=Qgo (120::s)
 rw[zj]at n2
 refine W36.en (have a0:=(decide (JL s=s))=true->(1+s.length<=2305843009213693952)/\True;(s.length<=100000)/\a0/\((decide (JL s=s))=true->(([120]++s).length<=100000)/\True)/\a0/\K (.val (.bool ((decide (JL s=s))&&(decide (JL ([120]++s)=[120]++s))))) none) ?_
 refine ogz0 (ogz1 (ogz1 (ogz1 ?_)))
 refine ZW hk ?_
 unfold Jn
 cases decide (JL s=s)<;>simp
 cases e
theorem Qda {p:UInt8->Bool} {s:Bs} {i:Nat} (h:i<s.length):(s.take (i+1)).any p=((s.take i).any p||p (s.getD i 0)):=by
 rw[zU,zg h,List.any_append]
 simp[zd,zg h]
theorem Qif {p:UInt8->Bool} {s:Bs} {i:Nat} (h:i<s.length) (hp:p (s.getD i 0)=true):s.any p=true:=by
 rw[List.any_eq_true]
 refine⟨s[i],List.getElem_mem h,?_⟩
 rwa [zd,zg h]at hp
theorem Qk8 {a b:UInt8} (h:a.toNat=b.toNat):a=b:=UInt8.toNat_inj.1 h
def c37 (svs:List SV) (b:Option SB):QR:=match svs,b with
 | [.str s,.str t],none=>some ([s.length<=1000000000/\t.length<=1000000000],.bool (ZP s t))
 | _,_=>none
noncomputable def W37:Wk:=⟨[],Qe Tryz.f37,false,false,[.tmp 4],[4],[(2,35),(5,99)],[]⟩
theorem has37:Has 37:=hsf Tryz.f37
theorem ogz2 {p q:Prop} (k:q) (h:p:=by first | omega | (simp;done)):p/\q:=⟨h,k⟩
theorem sat37:Sat 37 (Qz c37):=by
 have hD:Qa W37.D:=Qa.nil
 refine W37.sa hD Tryz.f37 fun svs b K hP=>?_
 obtain⟨ps,v,e,hp,hk⟩:=Qh hP
 unfold c37 at e
 split at e
 rename_i s t
 cases e
 obtain⟨⟨h01,h02⟩,_⟩:=hp
 have LL:∀mm:Nat,(∀(i:Nat),(s.length-i)*(t.length+2)+(t.length+1)=mm->(i<=s.length/\ZP (s.take i) t=false)->W37.L K 2 (mkS 26 [(0,(.str s)),(1,(.str t)),(5,(.nat i))] [] 1))/\(∀(i k:Nat),(s.length-i)*(t.length+2)+(t.length-k)=mm->(i<s.length/\k<=t.length/\ZP (s.take i) t=false/\((t.take k).any fun e=>decide (s.getD i 0=e))=false)->W37.L K 5 (mkS 26 [(0,(.str s)),(1,(.str t)),(5,(.nat i)),(6,(.nat k))] [] 1)):=by
  intro mm
  induction mm using zl with
  | _ mm ihh=>
   have i2:∀(i:Nat),(s.length-i)*(t.length+2)+(t.length+1)<mm->(i<=s.length/\ZP (s.take i) t=false)->W37.L K 2 (mkS 26 [(0,(.str s)),(1,(.str t)),(5,(.nat i))] [] 1):=fun i h hI=>(ihh _ h).1 i rfl hI
   have i5:∀(i k:Nat),(s.length-i)*(t.length+2)+(t.length-k)<mm->(i<s.length/\k<=t.length/\ZP (s.take i) t=false/\((t.take k).any fun e=>decide (s.getD i 0=e))=false)->W37.L K 5 (mkS 26 [(0,(.str s)),(1,(.str t)),(5,(.nat i)),(6,(.nat k))] [] 1):=fun i k h hI=>(ihh _ h).2 i k rfl hI
   refine⟨?_,?_⟩
   intro i hm hI
   obtain⟨k1,k2⟩:=hI
   refine W37.aL hD (cond (decide (i<s.length)) ((W37).L K 5 (mkS 26 [(0,(.str s)),(1,(.str t)),(5,(.nat i)),(6,(.nat 0))] [] 1)) (K (.val (.bool false)) none)) ?_
   refine Qb ?_ ?_<;>intro h1<;>try simp[-zd,-ze]at h1
   exact i5 i 0 (by omega) ⟨h1,by omega,k2,by simp⟩
   refine ZW hk ?_
   rw[zS (by omega)]at k2
   exact k2
   intro i k hm hI
   obtain⟨k1,k2,k3,k4⟩:=hI
   refine W37.aL hD (cond (decide (k<t.length)) ((i<s.length)/\(k<t.length)/\cond (decide (bat s i=bat t k)) (K (.val (.bool true)) none) ((k+1<=9223372036854775807)/\(W37).L K 5 (mkS 26 [(0,(.str s)),(1,(.str t)),(5,(.nat i)),(6,(.nat (k+1)))] [] 1))) ((i+1<=9223372036854775807)/\(W37).L K 2 (mkS 26 [(0,(.str s)),(1,(.str t)),(5,(.nat (i+1)))] [] 1))) ?_
   refine Qb ?_ ?_<;>intro h1<;>try simp[-zd,-ze]at h1
   refine ogz2 (ogz2 ?_)
   refine Qb ?_ ?_<;>intro h2<;>try simp[-zd,-ze]at h2
   refine ZW hk ?_
   unfold ZP
   exact Qif k1 (Qif h1 (decide_eq_true (Qk8 h2)))
   refine ogz2 ?_
   exact i5 i (k+1) (by omega) ⟨k1,by omega,k3,by rw[Qda h1,k4,xA,decide_eq_false (fun q=>h2 (by show (s.getD i 0).toNat=(t.getD k 0).toNat;rw[q]))]⟩
   refine ogz2 ?_
   exact i2 (i+1) (by have e:(s.length-i)*(t.length+2)=(s.length-(i+1))*(t.length+2)+(t.length+2):=by { rw[<-Nat.succ_mul];congr 1;omega };omega) ⟨by omega,by unfold ZP at k3 ⊢;rw[Qda k1,k3,xA];rwa [zS (by omega)]at k4⟩
 have L2:∀(mm:Nat) (i:Nat),(s.length-i)*(t.length+2)+(t.length+1)=mm->(i<=s.length/\ZP (s.take i) t=false)->W37.L K 2 (mkS 26 [(0,(.str s)),(1,(.str t)),(5,(.nat i))] [] 1):=fun mm i h hI=>(LL mm).1 i h hI
 have L5:∀(mm:Nat) (i k:Nat),(s.length-i)*(t.length+2)+(t.length-k)=mm->(i<s.length/\k<=t.length/\ZP (s.take i) t=false/\((t.take k).any fun e=>decide (s.getD i 0=e))=false)->W37.L K 5 (mkS 26 [(0,(.str s)),(1,(.str t)),(5,(.nat i)),(6,(.nat k))] [] 1):=fun mm i k h hI=>(LL mm).2 i k h hI
 refine W37.en ((W37).L K 2 (mkS 26 [(0,(.str s)),(1,(.str t)),(5,(.nat 0))] [] 1)) ?_
 exact L2 _ 0 rfl ⟨by omega,by simp[ZP]⟩
 cases e
def c38 (svs:List SV) (b:Option SB):QR:=match svs,b with
 | [.str s],none=>some ([s.length<=1000000000],.bool (QfQ s))
 | _,_=>none
noncomputable def W38:Wk:=⟨[],Qe Tryz.f38,false,false,[.tmp 2],[4],[(2,9)],[]⟩
theorem has38:Has 38:=hsf Tryz.f38
theorem ogz4 {c0 p0 q:Prop} (k:q) (h:c0->p0/\True:=by intro g0;(try simp at g0);exact⟨(by first | omega | (simp;done) | exact fun _=>⟨by omega,trivial⟩),trivial⟩):(c0->p0/\True)/\q:=⟨h,k⟩
theorem ogz3 {p q:Prop} (k:q) (h:p:=by first | omega | (simp;done) | exact fun _=>⟨by omega,trivial⟩):p/\q:=⟨h,k⟩
theorem sat38:Sat 38 (Qz c38):=by
 have hD:Qa W38.D:=Qa.nil
 refine W38.sa hD Tryz.f38 fun svs b K hP=>?_
 obtain⟨ps,v,e,hp,hk⟩:=Qh hP
 unfold c38 at e
 split at e
 rename_i s
 cases e
 obtain⟨h01,_⟩:=hp
 have L2:∀(mm:Nat) (i:Nat),s.length-i=mm->(i<=s.length/\QfQ (s.take i)=false)->W38.L K 2 (mkS 20 [(0,(.str s)),(3,(.nat i))] [] 1):=by
  intro mm
  induction mm using zl with
  | _ mm ih=>
   intro i hm hI
   obtain⟨k1,k2⟩:=hI
   refine W38.aL hD (cond (decide (i<s.length)) ((i<s.length)/\((decide (bat s i<32))=false->(i<s.length)/\True)/\cond ((decide (bat s i<32))||(decide (bat s i=127))) (K (.val (.bool true)) none) ((i+1<=9223372036854775807)/\(W38).L K 2 (mkS 20 [(0,(.str s)),(3,(.nat (i+1)))] [] 1))) (K (.val (.bool false)) none)) ?_
   refine Qb ?_ ?_<;>intro h1<;>try simp[-zd,-ze]at h1
   refine ogz3 (ogz4 ?_)
   refine Qb ?_ ?_<;>intro h2<;>try simp[-zd,-ze]at h2
   refine ZW hk ?_
   unfold QfQ
   refine Qif h1 ?_
   have h2':(s.getD i 0).toNat<32\/(s.getD i 0).toNat=127:=by first | exact h2 | (have:=h2;simpa using this)
   simpa using h2'
   refine ogz3 ?_
   exact ih _ (by omega) (i+1) rfl ⟨by omega,by unfold QfQ at k2 ⊢;rw[Qda h1,k2,xA];have h3:¬((s.getD i 0).toNat<32)/\¬((s.getD i 0).toNat=127):=by { have e:bat s i=(s.getD i 0).toNat:=rfl;omega };simp only[zT,decide_eq_false_iff_not];exact h3⟩
   refine ZW hk ?_
   rw[zS (by omega)]at k2
   exact k2
 refine W38.en ((W38).L K 2 (mkS 20 [(0,(.str s)),(3,(.nat 0))] [] 1)) ?_
 exact L2 _ 0 rfl ⟨by omega,by simp[QfQ]⟩
 cases e
theorem QjD {s:Bs} {i:Nat} (h:i<s.length):QdC (s.drop i)=if bat s i=45 then QdC (s.drop (i+1)) else Qu (bat s i):=by
 rw[zI h,QdC]
 have e:bat s i=s[i].toNat:=by simp[bat,zd,zg h]
 rw[e]
def c39 (svs:List SV) (b:Option SB):QR:=match svs,b with
 | [.str s],none=>some ([s.length<=1000000000],.bool (QdC s))
 | _,_=>none
noncomputable def W39:Wk:=⟨[],Qe Tryz.f39,false,false,[.tmp 2],[4],[(2,9)],[]⟩
theorem has39:Has 39:=hsf Tryz.f39
theorem sat39:Sat 39 (Qz c39):=by
 have hD:Qa W39.D:=Qa.nil
 refine W39.sa hD Tryz.f39 fun svs b K hP=>?_
 obtain⟨ps,v,e,hp,hk⟩:=Qh hP
 unfold c39 at e
 split at e
 rename_i s
 cases e
 obtain⟨h01,_⟩:=hp
 have L2:∀(mm:Nat) (i:Nat),s.length-i=mm->(i<=s.length/\QdC (s.drop i)=QdC s)->W39.L K 2 (mkS 32 [(0,(.str s)),(3,(.nat i))] [] 1):=by
  intro mm
  induction mm using zl with
  | _ mm ih=>
   intro i hm hI
   obtain⟨k1,k2⟩:=hI
   refine W39.aL hD (have a0:=decide (i<s.length);(a0=true->(i<s.length)/\True)/\cond (a0&&(decide (bat s i=45))) ((i+1<=9223372036854775807)/\(W39).L K 2 (mkS 32 [(0,(.str s)),(3,(.nat (i+1)))] [] 1)) ((a0=true->(i<s.length)/\True)/\((a0&&(decide (48<=bat s i)))=true->(i<s.length)/\True)/\K (.val (.bool ((a0&&(decide (48<=bat s i)))&&(decide (bat s i<=57))))) none)) ?_
   refine ogz4 ?_
   refine Qb ?_ ?_<;>intro h1<;>try simp[-zd,-ze]at h1
   refine ogz3 ?_
   exact ih _ (by omega) (i+1) rfl ⟨by omega,by rw[<-k2,QjD h1.1,if_pos h1.2]⟩
   refine ogz4 (ogz4 ?_)
   refine ZW hk ?_
   rw[<-k2]
   by_cases h2:i<s.length
   rw[QjD h2,if_neg (fun q=>h1 h2 q)]
   unfold Qu
   simp[h2]
   rw[List.drop_eq_nil_of_le (by omega)]
   simp[QdC,h2]
 refine W39.en ((W39).L K 2 (mkS 32 [(0,(.str s)),(3,(.nat 0))] [] 1)) ?_
 exact L2 _ 0 rfl ⟨by omega,rfl⟩
 cases e
theorem QbI {l:List SelD} {i:Nat} (h:i<l.length) (hp:YP (l.getD i default)=false):QnG l=false:=by
 unfold QnG
 rw[List.all_eq_false]
 refine⟨l[i],List.getElem_mem h,?_⟩
 rw[zd,zg h]at hp
 simpa using hp
theorem Ub {l:List SelD} {i:Nat} (h:i<l.length) (k:(l.take i).all YP=true) (hp:YP (l.getD i default)=true):(l.take (i+1)).all YP=true:=by
 rw[zU,zg h,List.all_append,k]
 rw[zd,zg h]at hp
 simpa using hp
def c20 (svs:List SV) (b:Option SB):QR:=match svs,b with
 | [.sl (.sels l)],none=>some ([l.length<=1000000000/\∀j,j<l.length->(l.getD j default).key.length<=80000/\(l.getD j default).val.length<=80000],.bool (QnG l))
 | _,_=>none
noncomputable def W20:Wk:=⟨[(36,.pure c36),(37,.pure c37),(38,.pure c38),(39,.pure c39)],Qe Tryz.f20,false,false,[.tmp 2],[4],[(2,9)],[]⟩
theorem has20:Has 20:=hsf Tryz.f20
theorem ogz7 {c0 c1 p0 q:Prop} (k:q) (h:c0->c1->p0/\True:=by intro g0 g1;(try simp at g0);(try simp at g1);exact⟨(by first | omega | (have:=f (by omega);omega) | exact fun _=>⟨by have:=f (by omega);omega,trivial⟩ | (have:=f (by omega);simp;omega) | (simp;done)),trivial⟩):(c0->c1->p0/\True)/\q:=⟨h,k⟩
theorem QnK {c0 p0 q:Prop} (k:q) (h:c0->p0/\True:=by intro g0;(try simp at g0);exact⟨(by first | omega | (have:=f (by omega);omega) | exact fun _=>⟨by have:=f (by omega);omega,trivial⟩ | (have:=f (by omega);simp;omega) | (simp;done)),trivial⟩):(c0->p0/\True)/\q:=⟨h,k⟩
theorem QcJ {p q:Prop} (k:q) (h:p:=by first | omega | (have:=f (by omega);omega) | exact fun _=>⟨by have:=f (by omega);omega,trivial⟩ | (have:=f (by omega);simp;omega) | (simp;done)):p/\q:=⟨h,k⟩
theorem sat20:Sat 20 (Qz c20):=by
 have hD:Qa W20.D:=(Qa.cons has36 sat36 (Qa.cons has37 sat37 (Qa.cons has38 sat38 (Qa.cons has39 sat39 Qa.nil))))
 refine W20.sa hD Tryz.f20 fun svs b K hP=>?_
 obtain⟨ps,v,e,hp,hk⟩:=Qh hP
 unfold c20 at e
 split at e
 rename_i l
 cases e
 obtain⟨⟨h01,h02⟩,_⟩:=hp
 have L2:∀(mm:Nat) (i:Nat),l.length-i=mm->(i<=l.length/\(l.take i).all YP=true)->W20.L K 2 (mkS 63 [(0,(.sl (.sels l))),(3,(.nat i))] [] 1):=by
  intro mm
  induction mm using zl with
  | _ mm ih=>
   intro i hm hI
   obtain⟨k1,k2⟩:=hI
   have f:i<l.length->(l.getD i default).key.length<=80000/\(l.getD i default).val.length<=80000:=fun h=>h02 i h
   refine W20.aL hD (have a1:=l.getD i default;have a0:=mkS 63 [(0,(.sl (.sels l))),(3,(.nat (i+1)))] [(1,.blk 33 [(.int .i64 (a1.kind)),(.int .i64 (a1.op)),(.str (a1.key)),(.str (a1.val)),(.int .i64 (a1.a)),(.int .i64 (a1.b)),(.int .i64 (a1.flag)),(.int .i64 (a1.size))])] 2;have a2:=(decide (a1.kind=(5:Int)))&&(!(Jn (a1.key)));have a3:=i+1<=9223372036854775807;have a4:=(decide (a1.kind=(5:Int)))=true->((a1.key).length<=80000)/\True;have a5:=a2=false->((a1.val).length<=1000000000/\6<=1000000000)/\True;have a6:=(QfQ (a1.val))=false->(decide (a1.kind=(3:Int)))=true->((a1.val).length<=1000000000)/\True;have a7:Out:=.val (.bool false);have a8:=a2||(ZP (a1.val) [34,39,92,10,13,12]);have a9:=(QfQ (a1.val))||((decide (a1.kind=(3:Int)))&&(QdC (a1.val)));cond (decide (i<l.length)) ((i<l.length)/\cond (decide (a1.kind=(2:Int))) (((a1.key).length<=80000)/\cond (!(Jn (a1.key))) (K a7 none) (a3/\(W20).L K 2 a0)) (cond (decide (a1.kind=(15:Int))) (((a1.val).length<=80000)/\cond (!(Jn (a1.val))) (K a7 none) (a3/\(W20).L K 2 a0)) (cond (decide (a1.kind=(5:Int))) (a4/\a5/\cond a8 (K a7 none) (a3/\(W20).L K 2 a0)) (cond (decide (a1.kind=(16:Int))) (a4/\a5/\cond a8 (K a7 none) (a3/\(W20).L K 2 a0)) (cond (decide (a1.kind=(17:Int))) (a4/\a5/\cond a8 (K a7 none) (a3/\(W20).L K 2 a0)) (cond (decide (a1.kind=(3:Int))) (((a1.val).length<=1000000000)/\a6/\cond a9 (K a7 none) (a3/\(W20).L K 2 a0)) (cond (decide (a1.kind=(4:Int))) (((a1.val).length<=1000000000)/\a6/\cond a9 (K a7 none) (a3/\(W20).L K 2 a0)) (a3/\(W20).L K 2 a0)))))))) (K (.val (.bool true)) none)) ?_
   refine Qb ?_ ?_<;>intro h1<;>try simp[-zd,-ze]at h1
   refine QcJ ?_
   refine Qb ?_ ?_<;>intro h2<;>try simp[-zd,-ze]at h2
   refine QcJ ?_
   refine Qb ?_ ?_<;>intro h3<;>try simp[-zd,-ze]at h3
   . refine ZW hk ?_
     refine QbI h1 ?_
     unfold YP
     simp_all [U7,-zd]
     all_goals grind
   refine QcJ ?_
   exact Wk.L.rn [0] (ih _ (by omega) (i+1) rfl ⟨by omega,Ub h1 k2 (by unfold YP;simp_all [U7,-zd])⟩)
   refine Qb (fun h3=>?_) (fun h3=>?_)
   try simp[-zd,-ze]at h3
   refine QcJ ?_
   refine Qb ?_ ?_<;>intro h4<;>try simp[-zd,-ze]at h4
   . refine ZW hk ?_
     refine QbI h1 ?_
     unfold YP
     simp_all [U7,-zd]
     all_goals grind
   refine QcJ ?_
   exact Wk.L.rn [0] (ih _ (by omega) (i+1) rfl ⟨by omega,Ub h1 k2 (by unfold YP;simp_all [U7,-zd])⟩)
   try simp[-zd,-ze]at h3
   refine Qb ?_ ?_<;>intro h4<;>try simp[-zd,-ze]at h4
   refine QnK (QnK ?_)
   refine Qb ?_ ?_<;>intro h5<;>try simp[-zd,-ze]at h5
   . refine ZW hk ?_
     refine QbI h1 ?_
     unfold YP
     simp_all [U7,-zd]
     all_goals grind
   refine QcJ ?_
   exact Wk.L.rn [0] (ih _ (by omega) (i+1) rfl ⟨by omega,Ub h1 k2 (by unfold YP;simp_all [U7,-zd])⟩)
   refine Qb (fun h5=>?_) (fun h5=>?_)
   try simp[-zd,-ze]at h5
   refine QnK (QnK ?_)
   refine Qb ?_ ?_<;>intro h6<;>try simp[-zd,-ze]at h6
   . refine ZW hk ?_
     refine QbI h1 ?_
     unfold YP
     simp_all [U7,-zd]
     all_goals grind
   refine QcJ ?_
   exact Wk.L.rn [0] (ih _ (by omega) (i+1) rfl ⟨by omega,Ub h1 k2 (by unfold YP;simp_all [U7,-zd])⟩)
   try simp[-zd,-ze]at h5
   refine Qb ?_ ?_<;>intro h6<;>try simp[-zd,-ze]at h6
   refine QnK (QnK ?_)
   refine Qb ?_ ?_<;>intro h7<;>try simp[-zd,-ze]at h7
   . refine ZW hk ?_
     refine QbI h1 ?_
     unfold YP
     simp_all [U7,-zd]
     all_goals grind
   refine QcJ ?_
   exact Wk.L.rn [0] (ih _ (by omega) (i+1) rfl ⟨by omega,Ub h1 k2 (by unfold YP;simp_all [U7,-zd])⟩)
   refine Qb (fun h7=>?_) (fun h7=>?_)
   try simp[-zd,-ze]at h7
   refine QcJ (ogz7 ?_)
   refine Qb ?_ ?_<;>intro h8<;>try simp[-zd,-ze]at h8
   . refine ZW hk ?_
     refine QbI h1 ?_
     unfold YP
     simp_all [U7,-zd]
     all_goals grind
   refine QcJ ?_
   exact Wk.L.rn [0] (ih _ (by omega) (i+1) rfl ⟨by omega,Ub h1 k2 (by unfold YP;simp_all [U7,-zd])⟩)
   try simp[-zd,-ze]at h7
   refine Qb ?_ ?_<;>intro h8<;>try simp[-zd,-ze]at h8
   refine QcJ (ogz7 ?_)
   refine Qb ?_ ?_<;>intro h9<;>try simp[-zd,-ze]at h9
   . refine ZW hk ?_
     refine QbI h1 ?_
     unfold YP
     simp_all [U7,-zd]
     all_goals grind
   refine QcJ ?_
   exact Wk.L.rn [0] (ih _ (by omega) (i+1) rfl ⟨by omega,Ub h1 k2 (by unfold YP;simp_all [U7,-zd])⟩)
   refine QcJ ?_
   exact Wk.L.rn [0] (ih _ (by omega) (i+1) rfl ⟨by omega,Ub h1 k2 (by unfold YP;simp_all [U7,-zd])⟩)
   refine ZW hk ?_
   rw[zS (by omega)]at k2
   exact k2
 refine W20.en ((W20).L K 2 (mkS 63 [(0,(.sl (.sels l))),(3,(.nat 0))] [] 1)) ?_
 exact L2 _ 0 rfl ⟨by omega,by simp⟩
 cases e
theorem Qjz:∀a b:Bs,Zp (a++b)=Zp a++Zp b
 | [],b=>rfl
 | c::a,b=>by rw[List.cons_append,Zp,Zp,Qjz a b,zw]
theorem Qq1 {s:Bs} {i:Nat} (h:i<s.length):Zp (s.take (i+1))=Zp (s.take i)++QjA (s.getD i 0):=by
 rw[zU,zg h,Qjz]
 simp[Zp,zd,zg h]
theorem Qte:∀j:Fin 32,escL.getD j.val 0∉escL.take j.val:=by decide
theorem Qk3 {j:Nat} (h:j<32) {c:UInt8}:c∈escL.take (j+1) ↔ c∈escL.take j\/c=escL.getD j 0:=by
 rw[zU,zg (show j<escL.length from h),List.mem_append]
 simp[zd,zg (show j<escL.length from h)]
def U6 (c:UInt8) (j:Nat):Bs:=if c∈escL.take j then [92] else []
theorem Qq3 {c:UInt8} {j:Nat} (h:j<32) (e:c=escL.getD j 0):U6 c j=[]/\U6 c (j+1)=[92]:=by
 unfold U6
 rw[if_pos ((Qk3 h).2 (.inr e)),if_neg (by rw[e];exact Qte ⟨j,h⟩)]
 exact⟨rfl,rfl⟩
theorem Qq4 {c:UInt8} {j:Nat} (h:j<32) (e:¬c=escL.getD j 0):U6 c (j+1)=U6 c j:=by
 unfold U6
 by_cases q:c∈escL.take j
 rw[if_pos q,if_pos ((Qk3 h).2 (.inl q))]
 rw[if_neg q,if_neg (fun r=>((Qk3 h).1 r).elim q e)]
theorem Qq5 (c:UInt8):U6 c 32++[c]=QjA c:=by
 unfold U6 QjA
 have:escL.take 32=escL:=rfl
 rw[this]
 split<;>rfl
def c204 (svs:List SV) (b:Option SB):QR:=match svs,b with
 | [.str s],none=>some ([s.length<=1000000],.str (Zp s))
 | _,_=>none
noncomputable def ZS:Wk:=⟨[],Qe Tryz.f204,false,false,[.tmp 2],[9],[(3,25),(6,114713)],[]⟩
theorem QqI:Has 204:=hsf Tryz.f204
theorem Ur {p q:Prop} (k:q) (h:p:=by first | omega | (simp;done) | (simp[escL];done) | (simp only[zh,zj,zo];omega)):p/\q:=⟨h,k⟩
theorem Qpi:Sat 204 (Qz c204):=by
 have hD:Qa ZS.D:=Qa.nil
 refine ZS.sa hD Tryz.f204 fun svs b K hP=>?_
 obtain⟨ps,v,e,hp,hk⟩:=Qh hP
 unfold c204 at e
 split at e
 rename_i s
 cases e
 obtain⟨h01,_⟩:=hp
 have LL:∀mm:Nat,(∀(i:Nat) (o:List UInt8),(s.length-i)*34+33=mm->(i<=s.length/\o=Zp (s.take i))->ZS.L K 3 (mkS 37 [(0,(.str s)),(3,(.own 1)),(4,(.nat i))] [(1,.row (.bytes o) true)] 2))/\(∀(i:Nat),(s.length-i)*34+33=mm->(i=0)->ZS.L K 3 (mkS 37 [(0,(.str s)),(3,.nilsl),(4,(.nat i))] [] 1))/\(∀(i j:Nat) (o:List UInt8),(s.length-i)*34+(32-j)=mm->(i<s.length/\j<=32/\o=Zp (s.take i)++U6 (s.getD i 0) j)->ZS.L K 6 (mkS 37 [(0,(.str s)),(3,(.own 1)),(4,(.nat i)),(14,(.own 2)),(15,(.nat 32)),(16,(.nat j))] [(1,.row (.bytes o) true),(2,.row (.bytes escL) false)] 3))/\(∀(i j:Nat),(s.length-i)*34+(32-j)=mm->(i=0/\i<s.length/\j<=32/\U6 (s.getD i 0) j=[])->ZS.L K 6 (mkS 37 [(0,(.str s)),(3,.nilsl),(4,(.nat i)),(14,(.own 1)),(15,(.nat 32)),(16,(.nat j))] [(1,.row (.bytes escL) false)] 2)):=by
  intro mm
  induction mm using zl with
  | _ mm ihh=>
   have i3b:∀(i:Nat) (o:List UInt8),(s.length-i)*34+33<mm->(i<=s.length/\o=Zp (s.take i))->ZS.L K 3 (mkS 37 [(0,(.str s)),(3,(.own 1)),(4,(.nat i))] [(1,.row (.bytes o) true)] 2):=fun i o h hI=>(ihh _ h).1 i o rfl hI
   have i3:∀(i:Nat),(s.length-i)*34+33<mm->(i=0)->ZS.L K 3 (mkS 37 [(0,(.str s)),(3,.nilsl),(4,(.nat i))] [] 1):=fun i h hI=>(ihh _ h).2.1 i rfl hI
   have i6b:∀(i j:Nat) (o:List UInt8),(s.length-i)*34+(32-j)<mm->(i<s.length/\j<=32/\o=Zp (s.take i)++U6 (s.getD i 0) j)->ZS.L K 6 (mkS 37 [(0,(.str s)),(3,(.own 1)),(4,(.nat i)),(14,(.own 2)),(15,(.nat 32)),(16,(.nat j))] [(1,.row (.bytes o) true),(2,.row (.bytes escL) false)] 3):=fun i j o h hI=>(ihh _ h).2.2.1 i j o rfl hI
   have i6:∀(i j:Nat),(s.length-i)*34+(32-j)<mm->(i=0/\i<s.length/\j<=32/\U6 (s.getD i 0) j=[])->ZS.L K 6 (mkS 37 [(0,(.str s)),(3,.nilsl),(4,(.nat i)),(14,(.own 1)),(15,(.nat 32)),(16,(.nat j))] [(1,.row (.bytes escL) false)] 2):=fun i j h hI=>(ihh _ h).2.2.2 i j rfl hI
   refine⟨?_,?_,?_,?_⟩
   intro i o hm hI
   obtain⟨k1,k2⟩:=hI
   have k3:=ZI (s.take i)
   rw[<-k2,zP]at k3
   refine ZS.aL hD (cond (decide (i<s.length)) ((0<32)/\(ZS).L K 6 (mkS 37 [(0,(.str s)),(3,(.own 1)),(4,(.nat i)),(14,(.own 2)),(15,(.nat 32)),(16,(.nat 0))] [(2,.row (.bytes [44,33,34,35,36,37,38,39,40,41,42,43,32,45,46,47,58,59,60,61,62,63,64,91,92,93,94,96,123,124,125,126]) false),(1,.row (.bytes o) true)] 3)) (K (.val (.str o)) none)) ?_
   refine Qb ?_ ?_<;>intro h1<;>try simp[-zd,-ze]at h1
   refine Ur ?_
   exact Wk.L.rn [0,1,2] (i6b i 0 o (by omega) ⟨h1,by omega,by rw[k2];simp[U6]⟩)
   refine YW hk ?_
   rw[k2,zS (by omega)]
   intro i hm hI
   refine ZS.aL hD (cond (decide (i<s.length)) ((0<32)/\(ZS).L K 6 (mkS 37 [(0,(.str s)),(3,.nilsl),(4,(.nat i)),(14,(.own 1)),(15,(.nat 32)),(16,(.nat 0))] [(1,.row (.bytes [44,33,34,35,36,37,38,39,40,41,42,43,32,45,46,47,58,59,60,61,62,63,64,91,92,93,94,96,123,124,125,126]) false)] 2)) (K (.val (.str [])) none)) ?_
   refine Qb ?_ ?_<;>intro h1<;>try simp[-zd,-ze]at h1
   refine Ur ?_
   exact i6 i 0 (by omega) ⟨hI,h1,by omega,by simp[U6]⟩
   refine YW hk ?_
   rw[show s=[] from List.length_eq_zero_iff.1 (by omega)]
   rfl
   intro i j o hm hI
   obtain⟨k1,k2,k4⟩:=hI
   have k3:=ZI (s.take i)
   have k5:o.length<=2*s.length+1:=by { rw[k4,zh];rw[zP]at k3;have:(U6 (s.getD i 0) j).length<=1:=by { unfold U6;split<;>simp };omega }
   have kL:escL.length=32:=rfl
   refine ZS.aL hD (cond (decide (j<32)) ((j<escL.length)/\(j<escL.length)/\(i<s.length)/\cond (decide (bat s i=bat escL j)) ((o.length+1<=1099511627776)/\(j+1<=9223372036854775807)/\(ZS).L K 6 (mkS 37 [(0,(.str s)),(3,(.own 4)),(4,(.nat i)),(14,(.own 2)),(15,(.nat 32)),(16,(.nat (j+1)))] [(4,.row (.bytes (o++[92])) true),(2,.row (.bytes escL) false)] 5)) ((j+1<=9223372036854775807)/\(ZS).L K 6 (mkS 37 [(0,(.str s)),(3,(.own 1)),(4,(.nat i)),(14,(.own 2)),(15,(.nat 32)),(16,(.nat (j+1)))] [(1,.row (.bytes o) true),(2,.row (.bytes escL) false)] 3))) ((i<s.length)/\(o.length+1<=1099511627776)/\(i+1<=9223372036854775807)/\(ZS).L K 3 (mkS 37 [(0,(.str s)),(3,(.own 4)),(4,(.nat (i+1)))] [(4,.row (.bytes (o++[s.getD i 0])) true),(2,.row (.bytes escL) false)] 5))) ?_
   refine Qb ?_ ?_<;>intro h1<;>try simp[-zd,-ze]at h1
   refine Ur (Ur (Ur ?_))
   refine Qb ?_ ?_<;>intro h2<;>try simp[-zd,-ze]at h2
   refine Ur (Ur ?_)
   have q:=Qq3 h1 (Qk8 h2)
   exact Wk.L.rn [0,4,2] (i6b i (j+1) (o++[92]) (by omega) ⟨k1,by omega,by rw[k4,q.1,q.2,List.append_nil]⟩)
   refine Ur ?_
   exact i6b i (j+1) o (by omega) ⟨k1,by omega,by rw[k4,Qq4 h1 (fun q=>h2 (by show (s.getD i 0).toNat=(escL.getD j 0).toNat;rw[q]))]⟩
   refine Ur (Ur (Ur ?_))
   have ej:j=32:=by omega
   exact Wk.L.rn [0,4] (i3b (i+1) (o++[s.getD i 0]) (by omega) ⟨by omega,by rw[k4,ej,zw,Qq5,Qq1 k1]⟩)
   intro i j hm hI
   obtain⟨k0,k1,k2,k4⟩:=hI
   have kL:escL.length=32:=rfl
   refine ZS.aL hD (cond (decide (j<32)) ((j<escL.length)/\(j<escL.length)/\(i<s.length)/\cond (decide (bat s i=bat escL j)) ((0+1<=1099511627776)/\(j+1<=9223372036854775807)/\(ZS).L K 6 (mkS 37 [(0,(.str s)),(3,(.own 3)),(4,(.nat i)),(14,(.own 1)),(15,(.nat 32)),(16,(.nat (j+1)))] [(3,.row (.bytes ([]++[92])) true),(1,.row (.bytes escL) false)] 4)) ((j+1<=9223372036854775807)/\(ZS).L K 6 (mkS 37 [(0,(.str s)),(3,.nilsl),(4,(.nat i)),(14,(.own 1)),(15,(.nat 32)),(16,(.nat (j+1)))] [(1,.row (.bytes escL) false)] 2))) ((i<s.length)/\(0+1<=1099511627776)/\(i+1<=9223372036854775807)/\(ZS).L K 3 (mkS 37 [(0,(.str s)),(3,(.own 3)),(4,(.nat (i+1)))] [(3,.row (.bytes ([]++[s.getD i 0])) true),(1,.row (.bytes escL) false)] 4))) ?_
   refine Qb ?_ ?_<;>intro h1<;>try simp[-zd,-ze]at h1
   refine Ur (Ur (Ur ?_))
   refine Qb ?_ ?_<;>intro h2<;>try simp[-zd,-ze]at h2
   refine Ur (Ur ?_)
   have q:=Qq3 h1 (Qk8 h2)
   exact Wk.L.rn [0,3,1] (i6b i (j+1) ([]++[92]) (by omega) ⟨k1,by omega,by rw[q.2,k0];rfl⟩)
   refine Ur ?_
   exact i6 i (j+1) (by omega) ⟨k0,k1,by omega,by rw[Qq4 h1 (fun q=>h2 (by show (s.getD i 0).toNat=(escL.getD j 0).toNat;rw[q]))];exact k4⟩
   refine Ur (Ur (Ur ?_))
   have ej:j=32:=by omega
   exact Wk.L.rn [0,3] (i3b (i+1) ([]++[s.getD i 0]) (by omega) ⟨by omega,by have e:=Qq5 (s.getD i 0);rw[<-ej,k4]at e;rw[Qq1 k1,<-e,k0];rfl⟩)
 have L3b:∀(mm:Nat) (i:Nat) (o:List UInt8),(s.length-i)*34+33=mm->(i<=s.length/\o=Zp (s.take i))->ZS.L K 3 (mkS 37 [(0,(.str s)),(3,(.own 1)),(4,(.nat i))] [(1,.row (.bytes o) true)] 2):=fun mm i o h hI=>(LL mm).1 i o h hI
 have L3:∀(mm:Nat) (i:Nat),(s.length-i)*34+33=mm->(i=0)->ZS.L K 3 (mkS 37 [(0,(.str s)),(3,.nilsl),(4,(.nat i))] [] 1):=fun mm i h hI=>(LL mm).2.1 i h hI
 have L6b:∀(mm:Nat) (i j:Nat) (o:List UInt8),(s.length-i)*34+(32-j)=mm->(i<s.length/\j<=32/\o=Zp (s.take i)++U6 (s.getD i 0) j)->ZS.L K 6 (mkS 37 [(0,(.str s)),(3,(.own 1)),(4,(.nat i)),(14,(.own 2)),(15,(.nat 32)),(16,(.nat j))] [(1,.row (.bytes o) true),(2,.row (.bytes escL) false)] 3):=fun mm i j o h hI=>(LL mm).2.2.1 i j o h hI
 have L6:∀(mm:Nat) (i j:Nat),(s.length-i)*34+(32-j)=mm->(i=0/\i<s.length/\j<=32/\U6 (s.getD i 0) j=[])->ZS.L K 6 (mkS 37 [(0,(.str s)),(3,.nilsl),(4,(.nat i)),(14,(.own 1)),(15,(.nat 32)),(16,(.nat j))] [(1,.row (.bytes escL) false)] 2):=fun mm i j h hI=>(LL mm).2.2.2 i j h hI
 refine ZS.en ((ZS).L K 3 (mkS 37 [(0,(.str s)),(3,.nilsl),(4,(.nat 0))] [] 1)) ?_
 exact L3 _ 0 rfl rfl
 cases e
end
section
open Go Go.RowKit Go.Shelf
set_option maxRecDepth 20000
theorem QsF:Go.Proofs.LaysM.n171 zf lays172_ren:={ QhF with }
def lays156_ren:Go.Shelf.Ren:=⟨fun | 156=>63 | 105=>143 | 212=>149 | 99=>113 | 165=>90 | 166=>91 | 170=>150 | 169=>92 | 263=>154 | 264=>155 | 206=>128 | 240=>105 | 241=>106 | 276=>120 | 277=>121 | n=>n,fun | 31=>83 | 9=>9 | 3=>3 | 4=>4 | 20=>20 | 0=>0 | 46=>88 | 109=>179 | 5=>5 | 72=>139 | 76=>141 | 51=>185 | 146=>186 | 53=>182 | 148=>188 | 70=>137 | 37=>37 | 75=>71 | 127=>149 | 164=>161 | 80=>63 | n=>n,fun | n=>n⟩
theorem Qmb:Go.Proofs.Lays.n156 zf lays156_ren:={
 mixed:=by kernel_rfl,
 f165:=Tryz.func90.trans (congrArg some (by kernel_rfl)),
 f166:=Tryz.func91.trans (congrArg some (by kernel_rfl)),
 f169:=Tryz.func92.trans (congrArg some (by kernel_rfl)),
 f240:=Tryz.func105.trans (congrArg some (by kernel_rfl)),
 f241:=Tryz.func106.trans (congrArg some (by kernel_rfl)),
 f276:=Tryz.func120.trans (congrArg some (by kernel_rfl)),
 f277:=Tryz.func121.trans (congrArg some (by kernel_rfl)),
 t0:=Tryz.underlying0,
 a0:=Tryz.isAgg0,
 z0:=Tryz.sizeOf0,
 v0:=Tryz.zeroValue0,
 t3:=Tryz.underlying3,
 a3:=Tryz.isAgg3,
 z3:=Tryz.sizeOf3,
 v3:=Tryz.zeroValue3,
 t4:=xm,
 a4:=Tryz.isAgg4,
 z4:=Tryz.sizeOf4,
 v4:=Tryz.zeroValue4,
 t9:=Tryz.underlying9,
 a9:=Tryz.isAgg9,
 z9:=Tryz.sizeOf9,
 v9:=Tryz.zeroValue9,
 t20:=Tryz.underlying20,
 a20:=Tryz.isAgg20,
 z20:=Tryz.sizeOf20,
 v20:=Tryz.zeroValue20,
 t37:=Tryz.underlying37,
 a37:=Tryz.isAgg37,
 z37:=Tryz.sizeOf37,
 v37:=Tryz.zeroValue37,
 t70:=Tryz.underlying137,
 a70:=Tryz.isAgg137,
 z70:=Tryz.sizeOf137,
 v70:=Tryz.zeroValue137,
 t72:=Tryz.underlying139,
 a72:=Tryz.isAgg139,
 z72:=Tryz.sizeOf139,
 v72:=Tryz.zeroValue139,
 t75:=Tryz.underlying71,
 a75:=Tryz.isAgg71,
 z75:=Tryz.sizeOf71,
 v75:=Tryz.zeroValue71,
 t76:=Tryz.underlying141,
 a76:=Tryz.isAgg141,
 z76:=Tryz.sizeOf141,
 v76:=Tryz.zeroValue141,
 t127:=Tryz.underlying149,
 a127:=Tryz.isAgg149,
 z127:=Tryz.sizeOf149,
 v127:=Tryz.zeroValue149,
 t164:=Tryz.underlying161,
 a164:=Tryz.isAgg161,
 z164:=Tryz.sizeOf161,
 v164:=Tryz.zeroValue161,
 f156:=Tryz.func63.trans (congrArg some (by kernel_rfl)),
 t31:=Tryz.underlying83,
 a31:=Tryz.isAgg83,
 z31:=Tryz.sizeOf83,
 v31:=Tryz.zeroValue83 }
theorem Qjy:Builder.Extra zf lays156_ren:={
 sizeBuilder:=by kernel_rfl,
 liesBuilder:=by kernel_rfl,
 t5:=Jw.t5,
 a5:=Jw.a5,
 z5:=Jw.z5,
 v5:=Jw.v5,
 infoByte:=by kernel_rfl,
 cellsByte:=by kernel_rfl,
 sizeByte:=by kernel_rfl,
 neB5:=by decide }
theorem Sat.libT {f:FuncId} {P:Spec} (h:∀(w:World) (ω:Wit) (svs:List SV) (args:Array Value) (b:Option SB) (K:Out->Option SB->Prop),
 (∀ c v T, ω.Γ c = some (v, T) -> ∃ fr, w.heap[c]? = some (.cells v T fr)) -> Lib.TabIs zf w "internal/strconv.uint64pow10" .u64 Lib.pow10Tab ->
 args.size=svs.length->(∀(i:Nat) (s:SV) (v:Value),svs[i]? = some s->args[i]? = some v->Rel ω s v)->P svs b K ->
 b=none/\Calls zf f args w fun e w'=>∃v s,e=.returned v/\K (.val s) none/\s.lt 0=true/\Rel ω s v/\Below w.heap.size w w'):Sat f P:=by
 intro g0 w M ω svs args b K hS hn hr hP
 have ht : Lib.TabIs zf w "internal/strconv.uint64pow10" .u64 Lib.pow10Tab := by
  obtain⟨T,hG⟩:=g0.tab
  obtain⟨fr,hh⟩:=hS.gam 6 _ _ (hS.gl _ _ hG)
  unfold Lib.TabIs World.var?
  rw [show zf.globalNamed "internal/strconv.uint64pow10" = some 6 by kernel_rfl]
  simp only[zQ,hh]
  unfold Lib.pow10Tab
  rw[List.map_map]
  rfl
 obtain⟨rfl,hc⟩:=h w ω svs args b K (fun c v T e=>hS.gam c v T e) ht hn hr hP
 refine hc.mono ?_
 rintro e w' ⟨v,s,he,hk,hl,hv,hb⟩
 refine⟨v,.val s,none,he,hk,ω,loc none,?_,(fun c e=>by cases e),hl,hv⟩
 have:=hS.grow (Wit.le.refl ω) hb.os hb.tape hb.output hb.size hb.block (fun b c T e=>.inl e)
 rw[hS.wn]at this
 exact this
def c167 (svs:List SV) (b:Option SB):QR:=match svs,b with
 | [.int .i64 n],none=>some ([-9223372036854775808<=n/\n<=9223372036854775807],.str (itoa n))
 | _,_=>none
theorem QwG:Has 167:=hsf Tryz.f167
theorem QuY:Sat 167 (Qz c167):=by
 refine Sat.libT fun w ω svs args b K hg ht hn hr hP=>?_
 obtain⟨ps,v,e,hp,hk⟩:=Qh hP
 unfold c167 at e
 split at e
 rename_i n
 cases e
 refine⟨rfl,?_⟩
 obtain⟨xs⟩:=args
 match xs,hn with
 | [x],_=>
  have hx:=(hr 0 _ x rfl rfl).int_inv
  subst hx
  refine (Any.strconv_Itoa QsF n hp.1.1 hp.1.2 w ht).mono ?_
  rintro e w' ⟨he,k,os,rfl⟩
  rw[Qqj]at he
  exact⟨_,_,he,hk,rfl,.str _,Lib.below_grow _ w (zm _) k os⟩
 cases e
def c63 (svs:List SV) (b:Option SB):QR:=match svs,b with
 | [.sl (.strs xs),.str sep],none=>some ([xs.length<=1000000000/\(Lib.join xs sep).length<=1000000000],.str (Lib.join xs sep))
 | _,_=>none
theorem Qt8:Has 63:=hsf Tryz.f63
theorem QtJ:Sat 63 (Qz c63):=by
 refine Sat.libT fun w ω svs args b K hg ht hn hr hP=>?_
 obtain⟨ps,v,e,hp,hk⟩:=Qh hP
 unfold c63 at e
 split at e
 rename_i xs sep
 cases e
 refine⟨rfl,?_⟩
 obtain⟨aa⟩:=args
 match aa,hn with
 | [x,y],_=>
  have hx:=hr 0 _ x rfl rfl
  have hy:=(hr 1 _ y rfl rfl).str_inv
  subst hy
  obtain⟨hp1,hp2⟩:=hp.1
  cases hx with
  | slz _ a c h0=>
   have h0':xs=[]:=List.length_eq_zero_iff.1 h0
   subst h0'
   refine (Any.strings_Join_none Qmb Qjy a c ⟨sep.toArray⟩ w).mono ?_
   rintro e w' ⟨he,rfl⟩
   exact⟨_,_,he,hk,rfl,.str _,Below.refl _ _⟩
  | sl _ b o c vs T hΓ hn hc h=>
   obtain⟨fr,hh⟩:=hg _ _ _ hΓ
   have hcell:∀(j:Nat) (x:ByteArray),(xs.map fun l=>(⟨l.toArray⟩:ByteArray))[j]? = some x->w.cell? ⟨b,o+j,Option.none⟩=some (.string x):=by
    intro j x e
    rw[zC]at e
    obtain⟨l,e1,rfl⟩:=zi.1 e
    have hj:j<xs.length:=(zy.1 e1).1
    have hsz:o+j<vs.size:=by
     have:o+xs.length*1<=vs.size:=hn
     omega
    have q:=h j 0 (.str (xs.getD j [])) vs[o+j] hj rfl (by show vs[o+(j*1+0)]? = _;rw[show o+(j*1+0)=o+j by omega,zr hsz])
    have e2:=q.str_inv
    rw[zd,e1]at e2
    rw[Z8 hh,zr hsz,e2]
    rfl
   have hm:(xs.map fun l=>(⟨l.toArray⟩:ByteArray)).map (·.data.toList)=xs:=by
    rw[List.map_map]
    conv=>rhs;rw[<-List.map_id xs]
    rfl
   have hb:b<w.heap.size:=(zA.1 hh).1
   have hA:=Any.strings_Join Qmb Qjy b o c (xs.map fun l=>(⟨l.toArray⟩:ByteArray)) ⟨sep.toArray⟩ w hcell hb (by rw[List.length_map];omega) (by rw[List.length_map];exact hc) (by rw[hm];show (Lib.join xs sep).length<=_;omega)
   rw[hm,List.length_map]at hA
   refine hA.mono ?_
   rintro e w' ⟨he,hw⟩
   exact⟨_,_,he,hk,rfl,.str _,hw⟩
 cases e
end
section
open Go Go.RowKit
set_option maxRecDepth 20000
def c199 (svs:List SV) (b:Option SB):QR:=match svs,b with
 | [.agg [.str k]],none=>some ([],.str (pr (.tag k)))
 | _,_=>none
noncomputable def W199:Wk:=⟨[],Qe Tryz.f199,false,false,[.tmp 2],[9],[],[]⟩
theorem Qe4:Has 199:=hsf Tryz.f199
theorem QuX:Sat 199 (Qz c199):=by
 have hD:Qa W199.D:=Qa.nil
 refine W199.sa hD Tryz.f199 fun svs b K hP=>?_
 obtain⟨ps,v,e,hp,hk⟩:=Qh hP
 unfold c199 at e
 split at e
 rename_i k
 cases e
 refine W199.en (K (.val (.str k)) none) ?_
 refine YW hk ?_
 simp[pr]
 cases e
def c203 (svs:List SV) (b:Option SB):QR:=match svs,b with
 | [.agg [.str k]],none=>some ([k.length<=1000000],.str (pr (.cls k)))
 | _,_=>none
noncomputable def W203:Wk:=⟨[(204,.pure c204)],Qe Tryz.f203,false,false,[.tmp 2],[9],[],[]⟩
theorem QwF:Has 203:=hsf Tryz.f203
theorem QA {p q:Prop} (k:q) (h:p:=by first | omega | (simp;done) | (simp only[zh,zj,zo];omega)):p/\q:=⟨h,k⟩
theorem QuW:Sat 203 (Qz c203):=by
 have hD:Qa W203.D:=(Qa.cons QqI Qpi Qa.nil)
 refine W203.sa hD Tryz.f203 fun svs b K hP=>?_
 obtain⟨ps,v,e,hp,hk⟩:=Qh hP
 unfold c203 at e
 split at e
 rename_i k
 cases e
 obtain⟨h01,_⟩:=hp
 have e:=ZI k
 refine W203.en ((k.length<=1000000)/\(1+(Zp k).length<=2305843009213693952)/\K (.val (.str ([46]++(Zp k)))) none) ?_
 refine QA (QA ?_)
 refine YW hk ?_
 simp[pr]
 cases e
def c208 (svs:List SV) (b:Option SB):QR:=match svs,b with
 | [.agg [.str k]],none=>some ([k.length<=1000000],.str (pr (.idn k)))
 | _,_=>none
noncomputable def W208:Wk:=⟨[(204,.pure c204)],Qe Tryz.f208,false,false,[.tmp 2],[9],[],[]⟩
theorem QwE:Has 208:=hsf Tryz.f208
theorem QuV:Sat 208 (Qz c208):=by
 have hD:Qa W208.D:=(Qa.cons QqI Qpi Qa.nil)
 refine W208.sa hD Tryz.f208 fun svs b K hP=>?_
 obtain⟨ps,v,e,hp,hk⟩:=Qh hP
 unfold c208 at e
 split at e
 rename_i k
 cases e
 obtain⟨h01,_⟩:=hp
 have e:=ZI k
 refine W208.en ((k.length<=1000000)/\(1+(Zp k).length<=2305843009213693952)/\K (.val (.str ([35]++(Zp k)))) none) ?_
 refine QA (QA ?_)
 refine YW hk ?_
 simp[pr]
 cases e
def c212 (svs:List SV) (b:Option SB):QR:=match svs,b with
 | [.agg [.str k,.str v,.str o,.bool i]],none=>some ([k.length<=1000000/\v.length<=1000000/\o.length<=1000000],.str (pr (.attr k v o i)))
 | _,_=>none
noncomputable def W212:Wk:=⟨[],Qe Tryz.f212,false,false,[.tmp 2],[9],[],[]⟩
theorem QwD:Has 212:=hsf Tryz.f212
theorem QuU:Sat 212 (Qz c212):=by
 have hD:Qa W212.D:=Qa.nil
 refine W212.sa hD Tryz.f212 fun svs b K hP=>?_
 obtain⟨ps,v,e,hp,hk⟩:=Qh hP
 unfold c212 at e
 split at e
 rename_i k v o i
 cases e
 obtain⟨⟨h01,h02,h03⟩,_⟩:=hp
 refine W212.en (have a0:=([91]++k).length+o.length<=2305843009213693952;have a1:=([91]++k++o).length+([34]++v++[34]).length<=2305843009213693952;have a2:=([91]++k++o).length+v.length<=2305843009213693952;cond (!(decide (o=[]))) ((1+v.length<=2305843009213693952)/\(([34]++v).length+1<=2305843009213693952)/\cond i ((1+k.length<=2305843009213693952)/\a0/\a1/\(([91]++k++o++([34]++v++[34])).length+2<=2305843009213693952)/\(([91]++k++o++([34]++v++[34])++[32,105]).length+1<=2305843009213693952)/\K (.val (.str ([91]++k++o++([34]++v++[34])++[32,105]++[93]))) none) ((1+k.length<=2305843009213693952)/\a0/\a1/\(([91]++k++o++([34]++v++[34])).length+0<=2305843009213693952)/\(([91]++k++o++([34]++v++[34])++[]).length+1<=2305843009213693952)/\K (.val (.str ([91]++k++o++([34]++v++[34])++[]++[93]))) none)) (cond i ((1+k.length<=2305843009213693952)/\a0/\a2/\(([91]++k++o++v).length+2<=2305843009213693952)/\(([91]++k++o++v++[32,105]).length+1<=2305843009213693952)/\K (.val (.str ([91]++k++o++v++[32,105]++[93]))) none) ((1+k.length<=2305843009213693952)/\a0/\a2/\(([91]++k++o++v).length+0<=2305843009213693952)/\(([91]++k++o++v++[]).length+1<=2305843009213693952)/\K (.val (.str ([91]++k++o++v++[]++[93]))) none))) ?_
 refine Qb ?_ ?_<;>intro h1<;>try simp[-zd,-ze]at h1
 refine QA (QA ?_)
 refine Qb ?_ ?_<;>intro h2<;>try simp[-zd,-ze]at h2
 refine QA (QA (QA (QA (QA ?_))))
 refine YW hk ?_
 simp[pr,h1,h2]
 refine QA (QA (QA (QA (QA ?_))))
 refine YW hk ?_
 simp[pr,h1,h2]
 refine Qb (fun h2=>?_) (fun h2=>?_)
 try simp[-zd,-ze]at h2
 refine QA (QA (QA (QA (QA ?_))))
 refine YW hk ?_
 simp[pr,h1,h2]
 try simp[-zd,-ze]at h2
 refine QA (QA (QA (QA (QA ?_))))
 refine YW hk ?_
 simp[pr,h1,h2]
 cases e
def c216 (svs:List SV) (b:Option SB):QR:=match svs,b with
 | [.agg [.int .i64 a,.int .i64 b,.bool l,.bool t]],none=>some ([(-9223372036854775808<=a/\a<=9223372036854775807)/\(-9223372036854775808<=b/\b<=9223372036854775807)],.str (pr (.nth a b l t)))
 | _,_=>none
noncomputable def W216:Wk:=⟨[(167,.pure c167)],Qe Tryz.f216,false,false,[.tmp 2],[9],[],[]⟩
theorem QwC:Has 216:=hsf Tryz.f216
theorem QuT:Sat 216 (Qz c216):=by
 have hD:Qa W216.D:=(Qa.cons QwG QuY Qa.nil)
 refine W216.sa hD Tryz.f216 fun svs b K hP=>?_
 obtain⟨ps,v,e,hp,hk⟩:=Qh hP
 unfold c216 at e
 split at e
 rename_i a b l t
 cases e
 obtain⟨⟨h01,h02⟩,_⟩:=hp
 have n1:=Qcd h01
 have n2:=Qcd h02
 refine W216.en (have a0:=([58]++[110,116,104,45,108,97,115,116,45,111,102,45,116,121,112,101]++[40]).length+(itoa a).length<=2305843009213693952;have a1:=([58]++[110,116,104,45,108,97,115,116,45,111,102,45,116,121,112,101]++[40]++(itoa a)).length+1<=2305843009213693952;have a2:=([58]++[110,116,104,45,108,97,115,116,45,99,104,105,108,100]++[40]).length+(itoa a).length<=2305843009213693952;have a3:=([58]++[110,116,104,45,108,97,115,116,45,99,104,105,108,100]++[40]++(itoa a)).length+1<=2305843009213693952;have a4:=([58]++[110,116,104,45,108,97,115,116,45,111,102,45,116,121,112,101]).length+1<=2305843009213693952;have a5:=([58]++[110,116,104,45,111,102,45,116,121,112,101]++[40]).length+(itoa a).length<=2305843009213693952;have a6:=([58]++[110,116,104,45,111,102,45,116,121,112,101]++[40]++(itoa a)).length+1<=2305843009213693952;have a7:=([58]++[110,116,104,45,108,97,115,116,45,99,104,105,108,100]).length+1<=2305843009213693952;have a8:=([58]++[110,116,104,45,99,104,105,108,100]++[40]).length+(itoa a).length<=2305843009213693952;have a9:=([58]++[110,116,104,45,99,104,105,108,100]++[40]++(itoa a)).length+1<=2305843009213693952;have a10:=([58]++[110,116,104,45,111,102,45,116,121,112,101]).length+1<=2305843009213693952;have a11:=([58]++[110,116,104,45,99,104,105,108,100]).length+1<=2305843009213693952;have a12:=decide (b<(0:Int));have a13:=([58]++[]++[40]).length+(itoa a).length<=2305843009213693952;have a14:=([58]++[]++[40]++(itoa a)).length+1<=2305843009213693952;have a15:=([58]++[]).length+1<=2305843009213693952;cond ((decide (a=(0:Int)))&&(decide (b=(1:Int)))) (cond l (cond t ((6+7<=2305843009213693952)/\K (.val (.str ([58,108,97,115,116,45]++[111,102,45,116,121,112,101]))) none) ((6+5<=2305843009213693952)/\K (.val (.str ([58,108,97,115,116,45]++[99,104,105,108,100]))) none)) (cond t ((7+7<=2305843009213693952)/\K (.val (.str ([58,102,105,114,115,116,45]++[111,102,45,116,121,112,101]))) none) ((7+5<=2305843009213693952)/\K (.val (.str ([58,102,105,114,115,116,45]++[99,104,105,108,100]))) none))) (cond ((decide (l=true))&&(decide (t=true))) ((-9223372036854775808<=b/\b<=9223372036854775807)/\(1+(itoa b).length<=2305843009213693952)/\cond a12 ((-9223372036854775808<=b/\b<=9223372036854775807)/\(1+16<=2305843009213693952)/\a4/\(-9223372036854775808<=a/\a<=9223372036854775807)/\a0/\a1/\(([58]++[110,116,104,45,108,97,115,116,45,111,102,45,116,121,112,101]++[40]++(itoa a)++[110]).length+(itoa b).length<=2305843009213693952)/\(([58]++[110,116,104,45,108,97,115,116,45,111,102,45,116,121,112,101]++[40]++(itoa a)++[110]++(itoa b)).length+1<=2305843009213693952)/\K (.val (.str ([58]++[110,116,104,45,108,97,115,116,45,111,102,45,116,121,112,101]++[40]++(itoa a)++[110]++(itoa b)++[41]))) none) ((1+16<=2305843009213693952)/\a4/\(-9223372036854775808<=a/\a<=9223372036854775807)/\a0/\a1/\(([58]++[110,116,104,45,108,97,115,116,45,111,102,45,116,121,112,101]++[40]++(itoa a)++[110]).length+([43]++(itoa b)).length<=2305843009213693952)/\(([58]++[110,116,104,45,108,97,115,116,45,111,102,45,116,121,112,101]++[40]++(itoa a)++[110]++([43]++(itoa b))).length+1<=2305843009213693952)/\K (.val (.str ([58]++[110,116,104,45,108,97,115,116,45,111,102,45,116,121,112,101]++[40]++(itoa a)++[110]++([43]++(itoa b))++[41]))) none)) (cond ((decide (l=true))&&(decide (t=false))) ((-9223372036854775808<=b/\b<=9223372036854775807)/\(1+(itoa b).length<=2305843009213693952)/\cond a12 ((-9223372036854775808<=b/\b<=9223372036854775807)/\(1+14<=2305843009213693952)/\a7/\(-9223372036854775808<=a/\a<=9223372036854775807)/\a2/\a3/\(([58]++[110,116,104,45,108,97,115,116,45,99,104,105,108,100]++[40]++(itoa a)++[110]).length+(itoa b).length<=2305843009213693952)/\(([58]++[110,116,104,45,108,97,115,116,45,99,104,105,108,100]++[40]++(itoa a)++[110]++(itoa b)).length+1<=2305843009213693952)/\K (.val (.str ([58]++[110,116,104,45,108,97,115,116,45,99,104,105,108,100]++[40]++(itoa a)++[110]++(itoa b)++[41]))) none) ((1+14<=2305843009213693952)/\a7/\(-9223372036854775808<=a/\a<=9223372036854775807)/\a2/\a3/\(([58]++[110,116,104,45,108,97,115,116,45,99,104,105,108,100]++[40]++(itoa a)++[110]).length+([43]++(itoa b)).length<=2305843009213693952)/\(([58]++[110,116,104,45,108,97,115,116,45,99,104,105,108,100]++[40]++(itoa a)++[110]++([43]++(itoa b))).length+1<=2305843009213693952)/\K (.val (.str ([58]++[110,116,104,45,108,97,115,116,45,99,104,105,108,100]++[40]++(itoa a)++[110]++([43]++(itoa b))++[41]))) none)) (cond ((decide (l=false))&&(decide (t=true))) ((-9223372036854775808<=b/\b<=9223372036854775807)/\(1+(itoa b).length<=2305843009213693952)/\cond a12 ((-9223372036854775808<=b/\b<=9223372036854775807)/\(1+11<=2305843009213693952)/\a10/\(-9223372036854775808<=a/\a<=9223372036854775807)/\a5/\a6/\(([58]++[110,116,104,45,111,102,45,116,121,112,101]++[40]++(itoa a)++[110]).length+(itoa b).length<=2305843009213693952)/\(([58]++[110,116,104,45,111,102,45,116,121,112,101]++[40]++(itoa a)++[110]++(itoa b)).length+1<=2305843009213693952)/\K (.val (.str ([58]++[110,116,104,45,111,102,45,116,121,112,101]++[40]++(itoa a)++[110]++(itoa b)++[41]))) none) ((1+11<=2305843009213693952)/\a10/\(-9223372036854775808<=a/\a<=9223372036854775807)/\a5/\a6/\(([58]++[110,116,104,45,111,102,45,116,121,112,101]++[40]++(itoa a)++[110]).length+([43]++(itoa b)).length<=2305843009213693952)/\(([58]++[110,116,104,45,111,102,45,116,121,112,101]++[40]++(itoa a)++[110]++([43]++(itoa b))).length+1<=2305843009213693952)/\K (.val (.str ([58]++[110,116,104,45,111,102,45,116,121,112,101]++[40]++(itoa a)++[110]++([43]++(itoa b))++[41]))) none)) (cond ((decide (l=false))&&(decide (t=false))) ((-9223372036854775808<=b/\b<=9223372036854775807)/\(1+(itoa b).length<=2305843009213693952)/\cond a12 ((-9223372036854775808<=b/\b<=9223372036854775807)/\(1+9<=2305843009213693952)/\a11/\(-9223372036854775808<=a/\a<=9223372036854775807)/\a8/\a9/\(([58]++[110,116,104,45,99,104,105,108,100]++[40]++(itoa a)++[110]).length+(itoa b).length<=2305843009213693952)/\(([58]++[110,116,104,45,99,104,105,108,100]++[40]++(itoa a)++[110]++(itoa b)).length+1<=2305843009213693952)/\K (.val (.str ([58]++[110,116,104,45,99,104,105,108,100]++[40]++(itoa a)++[110]++(itoa b)++[41]))) none) ((1+9<=2305843009213693952)/\a11/\(-9223372036854775808<=a/\a<=9223372036854775807)/\a8/\a9/\(([58]++[110,116,104,45,99,104,105,108,100]++[40]++(itoa a)++[110]).length+([43]++(itoa b)).length<=2305843009213693952)/\(([58]++[110,116,104,45,99,104,105,108,100]++[40]++(itoa a)++[110]++([43]++(itoa b))).length+1<=2305843009213693952)/\K (.val (.str ([58]++[110,116,104,45,99,104,105,108,100]++[40]++(itoa a)++[110]++([43]++(itoa b))++[41]))) none)) ((-9223372036854775808<=b/\b<=9223372036854775807)/\(1+(itoa b).length<=2305843009213693952)/\cond a12 ((-9223372036854775808<=b/\b<=9223372036854775807)/\(1+0<=2305843009213693952)/\a15/\(-9223372036854775808<=a/\a<=9223372036854775807)/\a13/\a14/\(([58]++[]++[40]++(itoa a)++[110]).length+(itoa b).length<=2305843009213693952)/\(([58]++[]++[40]++(itoa a)++[110]++(itoa b)).length+1<=2305843009213693952)/\K (.val (.str ([58]++[]++[40]++(itoa a)++[110]++(itoa b)++[41]))) none) ((1+0<=2305843009213693952)/\a15/\(-9223372036854775808<=a/\a<=9223372036854775807)/\a13/\a14/\(([58]++[]++[40]++(itoa a)++[110]).length+([43]++(itoa b)).length<=2305843009213693952)/\(([58]++[]++[40]++(itoa a)++[110]++([43]++(itoa b))).length+1<=2305843009213693952)/\K (.val (.str ([58]++[]++[40]++(itoa a)++[110]++([43]++(itoa b))++[41]))) none))))))) ?_
 refine Qb ?_ ?_<;>intro h1<;>try simp[-zd,-ze]at h1
 refine Qb (fun h2=>?_) (fun h2=>?_)
 try simp[-zd,-ze]at h2
 refine Qb ?_ ?_<;>intro h3<;>try simp[-zd,-ze]at h3
 refine QA ?_
 refine YW hk ?_
 rw[pr,if_pos h1]
 simp[QcC,h2,h3]
 refine QA ?_
 refine YW hk ?_
 rw[pr,if_pos h1]
 simp[QcC,h2,h3]
 try simp[-zd,-ze]at h2
 refine Qb ?_ ?_<;>intro h3<;>try simp[-zd,-ze]at h3
 refine QA ?_
 refine YW hk ?_
 rw[pr,if_pos h1]
 simp[QcC,h2,h3]
 refine QA ?_
 refine YW hk ?_
 rw[pr,if_pos h1]
 simp[QcC,h2,h3]
 refine Qb (fun h2=>?_) (fun h2=>?_)
 try simp[-zd,-ze]at h2
 refine QA (QA ?_)
 refine Qb ?_ ?_<;>intro h3<;>try simp[-zd,-ze]at h3
 refine QA (QA (QA (QA (QA (QA (QA (QA ?_)))))))
 have hn:¬(a=0/\b=1):=fun q=>h1 q.1 q.2
 refine YW hk ?_
 rw[JK hn]
 first
  | rw[if_pos (by omega)]
  | rw[if_neg (by omega)]
 cases l<;>cases t<;>first | (simp[Way.Z7,VE,QM,VK,QL];done) | (simp at h2;done) | (simp at h3;done) | (simp at h4;done) | (simp at h5;done) | (simp at h6;done) | (simp at h2 h3;done) | (simp at h2 h3 h4;done) | (simp at h2 h3 h4 h5;done)
 refine QA (QA (QA (QA (QA (QA (QA ?_))))))
 have hn:¬(a=0/\b=1):=fun q=>h1 q.1 q.2
 refine YW hk ?_
 rw[JK hn]
 first
  | rw[if_pos (by omega)]
  | rw[if_neg (by omega)]
 cases l<;>cases t<;>first | (simp[Way.Z7,VE,QM,VK,QL];done) | (simp at h2;done) | (simp at h3;done) | (simp at h4;done) | (simp at h5;done) | (simp at h6;done) | (simp at h2 h3;done) | (simp at h2 h3 h4;done) | (simp at h2 h3 h4 h5;done)
 try simp[-zd,-ze]at h2
 refine Qb ?_ ?_<;>intro h3<;>try simp[-zd,-ze]at h3
 refine QA (QA ?_)
 refine Qb ?_ ?_<;>intro h4<;>try simp[-zd,-ze]at h4
 refine QA (QA (QA (QA (QA (QA (QA (QA ?_)))))))
 have hn:¬(a=0/\b=1):=fun q=>h1 q.1 q.2
 refine YW hk ?_
 rw[JK hn]
 first
  | rw[if_pos (by omega)]
  | rw[if_neg (by omega)]
 cases l<;>cases t<;>first | (simp[Way.Z7,VE,QM,VK,QL];done) | (simp at h2;done) | (simp at h3;done) | (simp at h4;done) | (simp at h5;done) | (simp at h6;done) | (simp at h2 h3;done) | (simp at h2 h3 h4;done) | (simp at h2 h3 h4 h5;done)
 refine QA (QA (QA (QA (QA (QA (QA ?_))))))
 have hn:¬(a=0/\b=1):=fun q=>h1 q.1 q.2
 refine YW hk ?_
 rw[JK hn]
 first
  | rw[if_pos (by omega)]
  | rw[if_neg (by omega)]
 cases l<;>cases t<;>first | (simp[Way.Z7,VE,QM,VK,QL];done) | (simp at h2;done) | (simp at h3;done) | (simp at h4;done) | (simp at h5;done) | (simp at h6;done) | (simp at h2 h3;done) | (simp at h2 h3 h4;done) | (simp at h2 h3 h4 h5;done)
 refine Qb (fun h4=>?_) (fun h4=>?_)
 try simp[-zd,-ze]at h4
 refine QA (QA ?_)
 refine Qb ?_ ?_<;>intro h5<;>try simp[-zd,-ze]at h5
 refine QA (QA (QA (QA (QA (QA (QA (QA ?_)))))))
 have hn:¬(a=0/\b=1):=fun q=>h1 q.1 q.2
 refine YW hk ?_
 rw[JK hn]
 first
  | rw[if_pos (by omega)]
  | rw[if_neg (by omega)]
 cases l<;>cases t<;>first | (simp[Way.Z7,VE,QM,VK,QL];done) | (simp at h2;done) | (simp at h3;done) | (simp at h4;done) | (simp at h5;done) | (simp at h6;done) | (simp at h2 h3;done) | (simp at h2 h3 h4;done) | (simp at h2 h3 h4 h5;done)
 refine QA (QA (QA (QA (QA (QA (QA ?_))))))
 have hn:¬(a=0/\b=1):=fun q=>h1 q.1 q.2
 refine YW hk ?_
 rw[JK hn]
 first
  | rw[if_pos (by omega)]
  | rw[if_neg (by omega)]
 cases l<;>cases t<;>first | (simp[Way.Z7,VE,QM,VK,QL];done) | (simp at h2;done) | (simp at h3;done) | (simp at h4;done) | (simp at h5;done) | (simp at h6;done) | (simp at h2 h3;done) | (simp at h2 h3 h4;done) | (simp at h2 h3 h4 h5;done)
 try simp[-zd,-ze]at h4
 refine Qb ?_ ?_<;>intro h5<;>try simp[-zd,-ze]at h5
 refine QA (QA ?_)
 refine Qb ?_ ?_<;>intro h6<;>try simp[-zd,-ze]at h6
 refine QA (QA (QA (QA (QA (QA (QA (QA ?_)))))))
 have hn:¬(a=0/\b=1):=fun q=>h1 q.1 q.2
 refine YW hk ?_
 rw[JK hn]
 first
  | rw[if_pos (by omega)]
  | rw[if_neg (by omega)]
 cases l<;>cases t<;>first | (simp[Way.Z7,VE,QM,VK,QL];done) | (simp at h2;done) | (simp at h3;done) | (simp at h4;done) | (simp at h5;done) | (simp at h6;done) | (simp at h2 h3;done) | (simp at h2 h3 h4;done) | (simp at h2 h3 h4 h5;done)
 refine QA (QA (QA (QA (QA (QA (QA ?_))))))
 have hn:¬(a=0/\b=1):=fun q=>h1 q.1 q.2
 refine YW hk ?_
 rw[JK hn]
 first
  | rw[if_pos (by omega)]
  | rw[if_neg (by omega)]
 cases l<;>cases t<;>first | (simp[Way.Z7,VE,QM,VK,QL];done) | (simp at h2;done) | (simp at h3;done) | (simp at h4;done) | (simp at h5;done) | (simp at h6;done) | (simp at h2 h3;done) | (simp at h2 h3 h4;done) | (simp at h2 h3 h4 h5;done)
 refine QA (QA ?_)
 refine Qb ?_ ?_<;>intro h6<;>try simp[-zd,-ze]at h6
 refine QA (QA (QA (QA (QA (QA (QA (QA ?_)))))))
 have hn:¬(a=0/\b=1):=fun q=>h1 q.1 q.2
 refine YW hk ?_
 rw[JK hn]
 first
  | rw[if_pos (by omega)]
  | rw[if_neg (by omega)]
 cases l<;>cases t<;>first | (simp[Way.Z7,VE,QM,VK,QL];done) | (simp at h2;done) | (simp at h3;done) | (simp at h4;done) | (simp at h5;done) | (simp at h6;done) | (simp at h2 h3;done) | (simp at h2 h3 h4;done) | (simp at h2 h3 h4 h5;done)
 refine QA (QA (QA (QA (QA (QA (QA ?_))))))
 have hn:¬(a=0/\b=1):=fun q=>h1 q.1 q.2
 refine YW hk ?_
 rw[JK hn]
 first
  | rw[if_pos (by omega)]
  | rw[if_neg (by omega)]
 cases l<;>cases t<;>first | (simp[Way.Z7,VE,QM,VK,QL];done) | (simp at h2;done) | (simp at h3;done) | (simp at h4;done) | (simp at h5;done) | (simp at h6;done) | (simp at h2 h3;done) | (simp at h2 h3 h4;done) | (simp at h2 h3 h4 h5;done)
 cases e
def c218 (svs:List SV) (b:Option SB):QR:=match svs,b with
 | [.agg [.bool t]],none=>some ([],.str (pr (.only t)))
 | _,_=>none
noncomputable def W218:Wk:=⟨[],Qe Tryz.f218,false,false,[.tmp 2],[9],[],[]⟩
theorem QwB:Has 218:=hsf Tryz.f218
theorem QuS:Sat 218 (Qz c218):=by
 have hD:Qa W218.D:=Qa.nil
 refine W218.sa hD Tryz.f218 fun svs b K hP=>?_
 obtain⟨ps,v,e,hp,hk⟩:=Qh hP
 unfold c218 at e
 split at e
 rename_i t
 cases e
 refine W218.en (cond t (K (.val (.str [58,111,110,108,121,45,111,102,45,116,121,112,101])) none) (K (.val (.str [58,111,110,108,121,45,99,104,105,108,100])) none)) ?_
 refine Qb ?_ ?_<;>intro h1<;>try simp[-zd,-ze]at h1
 refine YW hk ?_
 simp[pr,h1]
 refine YW hk ?_
 simp[pr,h1]
 cases e
def c220 (svs:List SV) (b:Option SB):QR:=match svs,b with
 | [.agg []],none=>some ([],.str (pr (CSel.empty)))
 | _,_=>none
noncomputable def W220:Wk:=⟨[],Qe Tryz.f220,false,false,[.tmp 2],[9],[],[]⟩
theorem QwA:Has 220:=hsf Tryz.f220
theorem QuR:Sat 220 (Qz c220):=by
 have hD:Qa W220.D:=Qa.nil
 refine W220.sa hD Tryz.f220 fun svs b K hP=>?_
 obtain⟨ps,v,e,hp,hk⟩:=Qh hP
 unfold c220 at e
 split at e
 cases e
 refine W220.en (K (.val (.str [58,101,109,112,116,121])) none) ?_
 exact hk
 cases e
def c222 (svs:List SV) (b:Option SB):QR:=match svs,b with
 | [.agg []],none=>some ([],.str (pr (CSel.root)))
 | _,_=>none
noncomputable def W222:Wk:=⟨[],Qe Tryz.f222,false,false,[.tmp 2],[9],[],[]⟩
theorem Qwz:Has 222:=hsf Tryz.f222
theorem QuQ:Sat 222 (Qz c222):=by
 have hD:Qa W222.D:=Qa.nil
 refine W222.sa hD Tryz.f222 fun svs b K hP=>?_
 obtain⟨ps,v,e,hp,hk⟩:=Qh hP
 unfold c222 at e
 split at e
 cases e
 refine W222.en (K (.val (.str [58,114,111,111,116])) none) ?_
 exact hk
 cases e
def c224 (svs:List SV) (b:Option SB):QR:=match svs,b with
 | [.agg []],none=>some ([],.str (pr (CSel.input)))
 | _,_=>none
noncomputable def W224:Wk:=⟨[],Qe Tryz.f224,false,false,[.tmp 2],[9],[],[]⟩
theorem Qwy:Has 224:=hsf Tryz.f224
theorem QuP:Sat 224 (Qz c224):=by
 have hD:Qa W224.D:=Qa.nil
 refine W224.sa hD Tryz.f224 fun svs b K hP=>?_
 obtain⟨ps,v,e,hp,hk⟩:=Qh hP
 unfold c224 at e
 split at e
 cases e
 refine W224.en (K (.val (.str [58,105,110,112,117,116])) none) ?_
 exact hk
 cases e
def c226 (svs:List SV) (b:Option SB):QR:=match svs,b with
 | [.agg []],none=>some ([],.str (pr (CSel.link)))
 | _,_=>none
noncomputable def W226:Wk:=⟨[],Qe Tryz.f226,false,false,[.tmp 2],[9],[],[]⟩
theorem Qwx:Has 226:=hsf Tryz.f226
theorem QuO:Sat 226 (Qz c226):=by
 have hD:Qa W226.D:=Qa.nil
 refine W226.sa hD Tryz.f226 fun svs b K hP=>?_
 obtain⟨ps,v,e,hp,hk⟩:=Qh hP
 unfold c226 at e
 split at e
 cases e
 refine W226.en (K (.val (.str [58,108,105,110,107])) none) ?_
 exact hk
 cases e
def c228 (svs:List SV) (b:Option SB):QR:=match svs,b with
 | [.agg []],none=>some ([],.str (pr (CSel.enabled)))
 | _,_=>none
noncomputable def W228:Wk:=⟨[],Qe Tryz.f228,false,false,[.tmp 2],[9],[],[]⟩
theorem Qww:Has 228:=hsf Tryz.f228
theorem QuN:Sat 228 (Qz c228):=by
 have hD:Qa W228.D:=Qa.nil
 refine W228.sa hD Tryz.f228 fun svs b K hP=>?_
 obtain⟨ps,v,e,hp,hk⟩:=Qh hP
 unfold c228 at e
 split at e
 cases e
 refine W228.en (K (.val (.str [58,101,110,97,98,108,101,100])) none) ?_
 exact hk
 cases e
def c230 (svs:List SV) (b:Option SB):QR:=match svs,b with
 | [.agg []],none=>some ([],.str (pr (CSel.disabled)))
 | _,_=>none
noncomputable def W230:Wk:=⟨[],Qe Tryz.f230,false,false,[.tmp 2],[9],[],[]⟩
theorem Qwv:Has 230:=hsf Tryz.f230
theorem QuM:Sat 230 (Qz c230):=by
 have hD:Qa W230.D:=Qa.nil
 refine W230.sa hD Tryz.f230 fun svs b K hP=>?_
 obtain⟨ps,v,e,hp,hk⟩:=Qh hP
 unfold c230 at e
 split at e
 cases e
 refine W230.en (K (.val (.str [58,100,105,115,97,98,108,101,100])) none) ?_
 exact hk
 cases e
def c232 (svs:List SV) (b:Option SB):QR:=match svs,b with
 | [.agg []],none=>some ([],.str (pr (CSel.checked)))
 | _,_=>none
noncomputable def W232:Wk:=⟨[],Qe Tryz.f232,false,false,[.tmp 2],[9],[],[]⟩
theorem Qwu:Has 232:=hsf Tryz.f232
theorem QuL:Sat 232 (Qz c232):=by
 have hD:Qa W232.D:=Qa.nil
 refine W232.sa hD Tryz.f232 fun svs b K hP=>?_
 obtain⟨ps,v,e,hp,hk⟩:=Qh hP
 unfold c232 at e
 split at e
 cases e
 refine W232.en (K (.val (.str [58,99,104,101,99,107,101,100])) none) ?_
 exact hk
 cases e
def c234 (svs:List SV) (b:Option SB):QR:=match svs,b with
 | [.agg [.str v]],none=>some ([v.length<=1000000],.str (pr (.lang v)))
 | _,_=>none
noncomputable def W234:Wk:=⟨[],Qe Tryz.f234,false,false,[.tmp 2],[9],[],[]⟩
theorem Qwt:Has 234:=hsf Tryz.f234
theorem QuK:Sat 234 (Qz c234):=by
 have hD:Qa W234.D:=Qa.nil
 refine W234.sa hD Tryz.f234 fun svs b K hP=>?_
 obtain⟨ps,v,e,hp,hk⟩:=Qh hP
 unfold c234 at e
 split at e
 rename_i v
 cases e
 obtain⟨h01,_⟩:=hp
 refine W234.en ((6+v.length<=2305843009213693952)/\(([58,108,97,110,103,40]++v).length+1<=2305843009213693952)/\K (.val (.str ([58,108,97,110,103,40]++v++[41]))) none) ?_
 refine QA (QA ?_)
 refine YW hk ?_
 simp[pr,Jc]
 cases e
def c236 (svs:List SV) (b:Option SB):QR:=match svs,b with
 | [.agg [.str v,.bool o]],none=>some ([v.length<=1000000],.str (pr (.contains v o)))
 | _,_=>none
noncomputable def W236:Wk:=⟨[],Qe Tryz.f236,false,false,[.tmp 2],[9],[],[]⟩
theorem Qws:Has 236:=hsf Tryz.f236
theorem QuJ:Sat 236 (Qz c236):=by
 have hD:Qa W236.D:=Qa.nil
 refine W236.sa hD Tryz.f236 fun svs b K hP=>?_
 obtain⟨ps,v,e,hp,hk⟩:=Qh hP
 unfold c236 at e
 split at e
 rename_i v o
 cases e
 obtain⟨h01,_⟩:=hp
 refine W236.en (cond o ((8+3<=2305843009213693952)/\(1+([99,111,110,116,97,105,110,115]++[79,119,110]).length<=2305843009213693952)/\(([58]++([99,111,110,116,97,105,110,115]++[79,119,110])).length+2<=2305843009213693952)/\(([58]++([99,111,110,116,97,105,110,115]++[79,119,110])++[40,34]).length+v.length<=2305843009213693952)/\(([58]++([99,111,110,116,97,105,110,115]++[79,119,110])++[40,34]++v).length+2<=2305843009213693952)/\K (.val (.str ([58]++([99,111,110,116,97,105,110,115]++[79,119,110])++[40,34]++v++[34,41]))) none) ((1+8<=2305843009213693952)/\(([58]++[99,111,110,116,97,105,110,115]).length+2<=2305843009213693952)/\(([58]++[99,111,110,116,97,105,110,115]++[40,34]).length+v.length<=2305843009213693952)/\(([58]++[99,111,110,116,97,105,110,115]++[40,34]++v).length+2<=2305843009213693952)/\K (.val (.str ([58]++[99,111,110,116,97,105,110,115]++[40,34]++v++[34,41]))) none)) ?_
 refine Qb ?_ ?_<;>intro h1<;>try simp[-zd,-ze]at h1
 refine QA (QA (QA (QA (QA ?_))))
 refine YW hk ?_
 simp[pr,h1]
 refine QA (QA (QA (QA ?_)))
 refine YW hk ?_
 simp[pr,h1]
 cases e
def c240 (svs:List SV) (b:Option SB):QR:=match svs,b with
 | [.agg [.str v]],none=>some ([],.str (pr (.never v)))
 | _,_=>none
noncomputable def W240:Wk:=⟨[],Qe Tryz.f240,false,false,[.tmp 2],[9],[],[]⟩
theorem Qwr:Has 240:=hsf Tryz.f240
theorem QuH:Sat 240 (Qz c240):=by
 have hD:Qa W240.D:=Qa.nil
 refine W240.sa hD Tryz.f240 fun svs b K hP=>?_
 obtain⟨ps,v,e,hp,hk⟩:=Qh hP
 unfold c240 at e
 split at e
 rename_i v
 cases e
 refine W240.en (K (.val (.str v)) none) ?_
 refine YW hk ?_
 simp[pr]
 cases e
end
end Go.Proofs.YtengepcafdnalaaGreatDoor
