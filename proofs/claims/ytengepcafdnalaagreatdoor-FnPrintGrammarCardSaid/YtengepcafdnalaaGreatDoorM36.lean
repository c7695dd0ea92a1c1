/-
  Parts of the proof that the law FnPrintGrammar holds for every input (texts Wk, Xh). Conditions: none.
-/
import Derived.Test.YtengepcafdnalaaGreatDoorM35
namespace Go.Proofs.YtengepcafdnalaaGreatDoor
open _root_.Bool renaming not_eq_true' → zO, or_eq_false_iff → zz, and_eq_false_imp → zV, and_eq_true → zh, false_ne_true → zo
open _root_.List renaming getD_eq_getElem?_getD → za, getElem?_eq_getElem → ze, length_cons → zg, length_append → zf, getElem_of_mem → xl, nil_append → zW, append_nil → zD, exists_cons_of_ne_nil → zJ, mem_cons → zp, not_mem_nil → zT, flatten_cons → xx, append_assoc → zq
open _root_.Nat renaming le_refl → zj
open _root_.UInt8 renaming ofNat → zE
section
set_option maxRecDepth 20000
open Go.Proofs.YtengepcafdnalaaGreatDoor.Way
theorem QkT {s:Bs} (h:QbY s=true):low s=s:=by
 unfold QbY at h
 rw[U9]at h
 unfold low
 apply List.ext_getElem
 simp
 intro j h1 h2
 have q:=h j h2
 simp only[zO,zz,decide_eq_false_iff_not,zV,decide_eq_true_eq]at q
 have e:bat s j=(s[j]).toNat:=by simp[bat,za,ze h2]
 rw[List.getElem_map]
 unfold QbE
 rw[if_neg (by rw[<-e];intro c;exact q.2 c.1 c.2)]
theorem QjY {x:SelD} (h:(!QdV x)=true):QaP x:=by
 intro hk
 apply QkT
 unfold QdV at h
 have e1:(decide (x.kind=15)||(decide (x.kind=16)||decide (x.kind=17)))=true:=by simp;exact hk
 rw[e1]at h
 simpa using h
mutual
theorem Qmu:∀T:ST,(∀x∈T.flat,QaP x)->Qcm T
 | .mk x ks,h=>by
  rw[ST.flat,Qr]at h
  have h1:QaP { x with size:=((ST.flats ks).length:Nat)+1 }:=h _ (List.mem_cons_self ..)
  exact⟨h1,Qja ks fun y hy=>h y (List.mem_cons_of_mem _ hy)⟩
theorem Qja:∀ks:List ST,(∀x∈ST.flats ks,QaP x)->QbC ks
 | [],_=>trivial
 | t::ks,h=>by
  rw[ST.flats]at h
  exact⟨Qmu t fun y hy=>h y (List.mem_append_left _ hy),Qja ks fun y hy=>h y (List.mem_append_right _ hy)⟩
end
mutual
theorem Qin:∀T:ST,ST.ht' T<=T.flat.length
 | .mk x ks=>by have:=Qkf ks;simp only[ST.ht',ST.flat,Qr,zg];omega
theorem Qkf:∀ks:List ST,ST.hts' ks<=(ST.flats ks).length
 | []=>by simp[ST.hts']
 | t::ks=>by have:=Qin t;have:=Qkf ks;simp only[ST.hts',ST.flats,zf];omega
end
theorem Qpo:∀{l:List SelD},mbL l<=500->wtL l<=100*l.length+4*mbL l
 | [],_=>by simp[wtL]
 | x::l,h=>by
  rw[mbL]at h
  have ih:=Qpo (l:=l) (by omega)
  rw[wtL,mbL,zg]
  unfold wtN
  omega
structure Look (l:List SelD) (T:ST):Prop where
 e:l=T.flat
 r:Y3 T
 s:Qcm T
 k:T.node.kind=23\/Q0 T.node.kind=true
 n:0<l.length/\l.length<=60
 w:wtL l<=8000
theorem ZM {l:List SelD} (h:QbK l=true):∃T,Look l T:=by
 unfold QbK at h
 split at h
 cases h
 rename_i h0
 rw[zh,U9,zh,decide_eq_true_eq]at h
 obtain⟨h1,h2,h3⟩:=h
 obtain⟨T,e,r,k⟩:=Qql h3
 have hs:∀x∈T.flat,QaP x:=by
  rw[<-e]
  intro x hx
  obtain⟨i,hi,rfl⟩:=xl hx
  have:=h1 i hi
  rw[za,ze hi]at this
  exact QjY this
 refine⟨T,e,r,Qmu T hs,k,⟨?_,by omega⟩,?_⟩
 rw[e];exact Qba T
 have:=Qpo h2;omega
section
variable {l:List SelD} {T:ST}
theorem Look.drop0 (h:Look l T):l.drop 0=T.flat++[]:=by simpa using h.e
theorem Look.wat (h:Look l T):WAt l 2000 0:=⟨T,[],h.drop0,by have:=Qfw T;have:=h.n;have:=congrArg List.length h.e;omega,h.r⟩
theorem Look.text (h:Look l T):Y4 l=wr T:=by
 unfold Y4
 rw[if_neg (by have:=h.n;omega)]
 exact QhE l 2000 0 T [] h.drop0 (by have:=Qfw T;have:=h.n;have:=congrArg List.length h.e;omega)
theorem Look.len (h:Look l T):(Y4 l).length<=8000:=by
 have q:=QkN T h.r
 rw[h.text]
 have:=h.w
 rw[h.e]at this
 omega
theorem Look.read (h:Look l T):∃x L,cs T=x::L/\(L=[] ↔ (T.node.kind=23->(Qe l 0).length=1))/\∀acc,QU (wr T) true acc=(if ZF T=true/\acc=false then none else some (x::L)) /\
 QU (wr T) false acc=(if ZF T=true/\acc=false then none else if L=[] then some [x] else none):=by
 have hh:ST.ht' T<=1000:=by have:=Qin T;have:=h.n;have:=congrArg List.length h.e;omega
 have R:=Qjw 1000 T hh h.r h.s
 by_cases h23:T.node.kind=23
 obtain⟨x,p,t,L,q,u,g1,g2,g3,g4,g5,g6⟩:=R.grp h23
 refine⟨x,L,g4,?_,fun acc=>⟨?_,?_⟩⟩
 . have e:(cs T).length=(Qe l 0).length:=by
    obtain⟨y,ks⟩:=T
    have hr:=h.r
    obtain⟨_,_,hs,_⟩:=hr
    have h23':y.kind=23:=h23
    unfold QaH at hs
    rw[if_pos h23']at hs
    have hk:=Us ks 1 [] (VE h.drop0).2.1
    rw[<-(VE h.drop0).1]at hk
    have hl:(Qe l 0).length=ks.length:=by simpa using congrArg List.length hk
    rw[cs,Y5,if_pos h23',QnC (fun k hk'=>by have:=hs.1 k hk';simp[Q0,Qy]at this;omega),hl]
    simp
   rw[<-e,g4]
   simp[h23]
 rw[g3,Qb6 (Qee.mk g1 g2) (by omega) acc,g5]
 rw[g3,QgM g1 g2 (by omega) acc,g5]
 have hc:Q0 T.node.kind=true:=h.k.resolve_left h23
 have S:=R.sel hc
 have g1:=SlS.mk (g1:=[]) (g2:=[]) .nil S .nil
 rw[zW,zD]at g1
 have g2:=QaA.nil 1000
 refine⟨c1 T,[],Yv h23,by simp[h23],fun acc=>⟨?_,?_⟩⟩
 have q:=Qb6 (Qee.mk g1 g2) (by omega) acc
 rw[zD,Bool.or_false]at q
 exact q
 have q:=QgM g1 g2 (by omega) acc
 rw[zD,Bool.or_false]at q
 exact q
theorem QdD (v:List CSel):VY true v=(ST.mk Vj (QS v)).flat:=by
 simp[VY,ST.flat,ZH]
theorem Qnj (ks:List ST):Yh (ST.mk Vj ks).flat=(ST.mk Vj ks).flat:=by
 unfold Yh
 rw[if_pos]
 simp[ST.flat,Qr,Vj]
theorem Qyo {T:ST} (h:T.node.kind≠23):Yh T.flat=(ST.mk Vj [T]).flat:=by
 unfold Yh
 rw[if_neg]
 simp[Qj,ST.flat,ST.flats]
 obtain⟨x,ks⟩:=T
 simpa [ST.flat,Qr,ST.node] using h
theorem Look.grp (h:Look l T):∃G:ST,Yh l=G.flat/\(ST.mk Vj (QS (cs T))).norm=G.norm/\Qe (Yh l) 0=Qe G.flat 0/\(T.node.kind≠23->G=ST.mk Vj [T])/\(T.node.kind=23->G=T):=by
 obtain⟨n1,n2⟩:=QjM _ T (zj _) h.r
 by_cases h23:T.node.kind=23
 refine⟨T,?_,n2 h23,?_,fun q=>absurd h23 q,fun _=>rfl⟩
 rw[h.e]
 obtain⟨x,ks⟩:=T
 unfold Yh
 rw[if_pos]
 simpa [ST.flat,Qr,ST.node] using h23
 congr 1
 rw[h.e]
 obtain⟨x,ks⟩:=T
 unfold Yh
 rw[if_pos]
 simpa [ST.flat,Qr,ST.node] using h23
 have e:Yh l=(ST.mk Vj [T]).flat:=by rw[h.e];exact Qyo h23
 refine⟨ST.mk Vj [T],e,?_,by rw[e],fun _=>rfl,fun q=>absurd q h23⟩
 rw[Yv h23,Y0 (by decide),Y0 (by decide),QS,QS,ST.norms,ST.norms,ST.norms,ST.norms,n1 h23]
end
def QzX (t:Bs) (l:List SelD):Prop:=t.length<=1000000/\∃v,QU t true true=some v/\(0<(VY true v).length/\(VY true v).length<=10000000)/\(0<l.length/\l.length<=1000000) /\
 Yx (Yh (VY true v))/\Yx (Yh l)/\QeW (Yh (VY true v)) (Yh l)=true
theorem Look.same {l:List SelD} {T:ST} (h:Look l T) {t:Bs} (ht:t.length<=1000000) (hp:QU t true true=some (cs T)):QzX t l:=by
 obtain⟨G,e1,e2,_⟩:=h.grp
 refine⟨ht,cs T,hp,⟨?_,?_⟩,⟨h.n.1,by have:=h.n.2;omega⟩,?_,⟨G,e1⟩,?_⟩
 rw[QdD];exact Qba _
 have:=QgN hp;omega
 rw[QdD,Qnj];exact⟨_,rfl⟩
 rw[QdD,Qnj,e1]
 unfold QeW
 rw[Yx.normed,Yx.normed,e2]
 exact Qcl _
end
section
set_option maxRecDepth 20000
def escL:Bs:=[44,33,34,35,36,37,38,39,40,41,42,43,32,45,46,47,58,59,60,61,62,63,64,91,92,93,94,96,123,124,125,126]
def Qkq (c:UInt8):Bs:=if c∈escL then [92,c] else [c]
def ZD:Bs->Bs
 | []=>[]
 | c::s=>Qkq c++ZD s
def Qdc (l t:Bool):Bs:=(if l=true then [108,97,115,116,45] else [102,105,114,115,116,45])++(if t=true then [111,102,45,116,121,112,101] else [99,104,105,108,100])
mutual
def pr:CSel->Bs
 | .tag k=>k
 | .cls v=>46::ZD v
 | .idn v=>35::ZD v
 | .attr k v o i=>91::(k++(o++((if o=[] then v else 34::(v++[34]))++((if i=true then [32,105] else [])++[93]))))
 | .nth a b l t=>if a=0/\b=1 then 58::Qdc l t else 58::(Way.ZX l t++(40::(YH a b++[41])))
 | .only t=>58::(if t=true then [111,110,108,121,45,111,102,45,116,121,112,101] else [111,110,108,121,45,99,104,105,108,100])
 | .empty=>58::Qp.getD 0 []
 | .root=>58::Qp.getD 1 []
 | .input=>58::Qp.getD 2 []
 | .link=>58::Qp.getD 3 []
 | .enabled=>58::Qp.getD 4 []
 | .disabled=>58::Qp.getD 5 []
 | .checked=>58::Qp.getD 6 []
 | .lang v=>58::(ZY++(40::(v++[41])))
 | .contains v o=>58::((if o=true then [99,111,110,116,97,105,110,115,79,119,110] else [99,111,110,116,97,105,110,115])++(40::((34::(v++[34]))++[41])))
 | .never v=>v
 | .rel n l=>58::(n++(40::(Je (prs l)++[41])))
 | .compound l pe=>if l=[]/\pe=[] then [42] else (prs l).flatten++(if pe=[] then [] else 58::58::pe)
 | .combined f c s=>pr f++([32]++(Y6 c.toNat++([32]++pr s)))
def prs:List CSel->List Bs
 | []=>[]
 | x::l=>pr x::prs l
end
def prG (l:List CSel):Bs:=Je (prs l)
theorem QhS (l:List CSel):prs l=l.map pr:=by
 induction l with
 | nil=>rfl
 | cons x l ih=>rw[prs,ih];rfl
namespace Way
def Qak (k:Bs):Prop:=IdW k k/\low k=k
def QjP (v:Bs):Prop:=∀c∈v,32<=c.toNat/\c.toNat≠127
def Qqo (v:Bs):Prop:=∀c∈v,c.toNat≠34/\c.toNat≠92/\YL c.toNat=false
def peF:CSel->Bool
 | .compound _ pe => !decide (pe=[])
 | .combined _ _ s=>peF s
 | _=>false
def JK:CSel->Prop
 | .cls v=>v≠[]/\QjP v/\Qv (hd v)=false
 | .idn v=>v≠[]/\QjP v
 | .attr k v o i=>Qak k/\(o=[]/\v=[]/\i=false\/o∈attrSigns/\Qqo v)
 | .nth a b _ _=>(-9999<=a/\a<=9999)/\(-9999<=b/\b<=9999)
 | .lang v=>Qak v
 | .contains v _=>Qqo v/\low v=v
 | .never _=>False
 | .tag _=>False
 | .rel _ _=>False
 | .compound _ _=>False
 | .combined _ _ _=>False
 | _=>True
def Gd:Nat->Nat->Nat->CSel->Prop
 | 0,_,_,_=>False
 | _+1,_,c,.tag k=>c≠0/\Qak k
 | m+1,d,_,.rel n l=>(n=Zy\/n=Zz\/n=nHasChild)/\l≠[]/\∃d',d=d'+1/\∀y∈l,Gd m d' 2 y/\peF y=false
 | m+1,d,c,.compound l pe=>c≠0/\(pe=[]\/pe∈elNames)/\(l.length=1->pe≠[])/\(∀y∈l.tail,Gd m d 0 y)/\(∀y,l.head? = some y->Gd m d 0 y\/∃k,y=.tag k/\Qak k)
 | m+1,d,c,.combined f o s=>2<=c/\(o=32\/o=62\/o=43\/o=126)/\Gd m d 2 f/\peF f=false/\Gd m d 1 s
 | _+1,_,_,x=>JK x
theorem Qnu:∀c:UInt8,32<=c.toNat/\c.toNat≠127->(c∈escL->QK c.toNat=false/\YL c.toNat=false)/\(c∉escL->Qq c.toNat=true/\(Qv c.toNat=false->QI c.toNat=true)):=by
 have h:∀n:Fin 256,32<=(zE n.val).toNat/\(zE n.val).toNat≠127->(zE n.val∈escL->QK (zE n.val).toNat=false/\YL (zE n.val).toNat=false)/\(zE n.val∉escL->Qq (zE n.val).toNat=true/\(Qv (zE n.val).toNat=false->QI (zE n.val).toNat=true)):=by decide +kernel
 intro c
 have:=h ⟨c.toNat,c.toNat_lt⟩
 simpa using this
theorem QlX:∀{v:Bs},QjP v->NmW v (ZD v)
 | [],_=>.nil
 | c::v,h=>by
  have ih:=QlX (v:=v) (fun x hx=>h x (by simp[hx]))
  obtain⟨q1,q2⟩:=Qnu c (h c (by simp))
  rw[ZD]
  unfold Qkq
  by_cases hc:c∈escL
  rw[if_pos hc]
  exact .esc (a:=[c]) (.lit c (q1 hc).1 (q1 hc).2) ih
  rw[if_neg hc]
  exact .raw (q2 hc).1 ih
theorem Qys {v:Bs} (h:v≠[]):ZD v≠[]:=by
 obtain⟨c,u,rfl⟩:=zJ h
 rw[ZD];unfold Qkq
 split<;>simp
theorem Qyt {v:Bs} (h:QjP v) (h0:v≠[]) (hd0:Qv (hd v)=false):IdW v (ZD v):=by
 refine⟨0,v,ZD v,rfl,rfl,QlX h,?_⟩
 obtain⟨c,u,rfl⟩:=zJ h0
 obtain⟨q1,q2⟩:=Qnu c (h c (by simp))
 rw[ZD]
 unfold Qkq
 by_cases hc:c∈escL
 rw[if_pos hc];exact .inr rfl
 rw[if_neg hc];exact .inl ((q2 hc).2 hd0)
theorem QwN {v:Bs} (h:Qqo v):StW 34 v v:=by
 induction v with
 | nil=>exact .nil
 | cons c v ih=>exact .raw (h c (by simp)) (ih fun x hx=>h x (by simp[hx]))
theorem Qel {v:Bs} (h:Qqo v):QkJ v (34::(v++[34])):=.inr ⟨34,v,.inr rfl,QwN h,rfl⟩
theorem Qxg {x:CSel} (h:JK x):Vt 0 x (pr x):=by
 have pl:∀m:Fin 7,∀y:CSel,(∀G s j,V4 G s (Qp.getD m.val []) j=some (some y,[],j))->Vt 0 y (58::Qp.getD m.val []):=fun m y hy=>by
  have q:=Ur m
  exact Vt.plain q.1 (by rw[q.2];exact hy)
 cases x<;>simp only[JK]at h
 case cls v=>rw[pr];exact Vt.cls (Qyt h.2.1 h.1 h.2.2)
 case idn v=>rw[pr];exact Vt.idn (QlX h.2) (Qys h.1)
 case attr k v o i=>
  obtain⟨⟨h1,h2⟩,h3⟩:=h
  rw[pr]
  rcases h3 with ⟨rfl,rfl,rfl⟩ | ⟨ho,hv⟩
  have q:=Vt.attr0 (g1:=[]) (g2:=[]) h1 .nil .nil
  rw[h2]at q
  simpa using q
  have ho':o≠[]:=fun q=>by subst q;exact absurd ho (by decide)
  rw[if_neg ho']
  cases i
  have q:=Vt.attr1 (g1:=[]) (g2:=[]) (g3:=[]) (g4:=[]) (g5:=[]) (f:=[]) (ign:=false) h1 .nil .nil ho .nil (Qel hv) .nil (.inl ⟨rfl,rfl⟩) (.inl rfl) .nil
  rw[h2]at q
  simpa using q
  have q:=Vt.attr1 (g1:=[]) (g2:=[]) (g3:=[]) (g4:=[32]) (g5:=[]) (f:=[105]) (ign:=true) h1 .nil .nil ho .nil (Qel hv) QbV (.inr ⟨rfl,.inl rfl⟩) (.inr (by simp)) .nil
  rw[h2]at q
  simpa using q
 case nth a b l t=>
  rw[pr]
  by_cases e:a=0/\b=1
  rw[if_pos e,e.1,e.2]
  cases l<;>cases t
  exact Vt.plain (x:=.nth 0 1 false false) (v:=[102,105,114,115,116,45,99,104,105,108,100]) (VL (by decide)) (fun G s j=>rfl)
  exact Vt.plain (x:=.nth 0 1 false true) (v:=[102,105,114,115,116,45,111,102,45,116,121,112,101]) (VL (by decide)) (fun G s j=>rfl)
  exact Vt.plain (x:=.nth 0 1 true false) (v:=[108,97,115,116,45,99,104,105,108,100]) (VL (by decide)) (fun G s j=>rfl)
  exact Vt.plain (x:=.nth 0 1 true true) (v:=[108,97,115,116,45,111,102,45,116,121,112,101]) (VL (by decide)) (fun G s j=>rfl)
  rw[if_neg e]
  have hn:∀l t:Bool,IdW (ZX l t) (ZX l t)/\low (ZX l t)=ZX l t:=by
   intro l t
   have:(((ZX l t).all fun c=>Qq c.toNat)&&QI (hd (ZX l t)))=true/\low (ZX l t)=ZX l t:=by
    cases l<;>cases t<;>decide
   exact⟨VL this.1,this.2⟩
  have q:=Vt.nth (g1:=[]) (g2:=[]) l t (hn l t).1 (hn l t).2 (Qhj h.1 h.2) .nil .nil
  simpa using q
 case only t=>
  rw[pr]
  cases t
  exact Vt.plain (x:=.only false) (v:=[111,110,108,121,45,99,104,105,108,100]) (VL (by decide)) (fun G s j=>rfl)
  exact Vt.plain (x:=.only true) (v:=[111,110,108,121,45,111,102,45,116,121,112,101]) (VL (by decide)) (fun G s j=>rfl)
 case empty=>rw[pr];exact pl 0 _ fun G s j=>rfl
 case root=>rw[pr];exact pl 1 _ fun G s j=>rfl
 case input=>rw[pr];exact pl 2 _ fun G s j=>rfl
 case link=>rw[pr];exact pl 3 _ fun G s j=>rfl
 case enabled=>rw[pr];exact pl 4 _ fun G s j=>rfl
 case disabled=>rw[pr];exact pl 5 _ fun G s j=>rfl
 case checked=>rw[pr];exact pl 6 _ fun G s j=>rfl
 case lang v=>
  have q:=Vt.lang (g1:=[]) (g2:=[]) (VL (t:=ZY) (by decide)) (by decide) h.1 .nil .nil
  rw[h.2]at q
  rw[pr]
  simpa using q
 case contains v o=>
  rw[pr]
  cases o
  have q:=Vt.contains (g1:=[]) (g2:=[]) false (VL (t:=[99,111,110,116,97,105,110,115]) (by decide)) (by decide) (Qel h.1) .nil .nil
  rw[h.2]at q
  simpa using q
  have q:=Vt.contains (g1:=[]) (g2:=[]) true (VL (t:=[99,111,110,116,97,105,110,115,79,119,110]) (by decide)) (by decide) (Qel h.1) .nil .nil
  rw[h.2]at q
  simpa using q
theorem el_p' {pe:Bs} (h:pe∈elNames):ElS pe (58::58::pe)/\pe≠[]:=by
 have key:∀v:Bs,((v.all fun c=>Qq c.toNat)&&QI (hd v))=true->low v=v->v∈elNames->(∀G s j,V4 G s v j=some (none,v,j))->v≠[]->ElS v (58::58::v)/\v≠[]:=by
  intro v h1 h2 h3 h4 h5
  have q:=ElS.two (VL h1) (by rw[h2];exact h3) (by rw[h2];exact h4) (by rw[h2];exact h5)
  rw[h2]at q
  exact⟨q,h5⟩
 simp only[elNames,zp,zT,or_false]at h
 rcases h with rfl | rfl | rfl | rfl | rfl | rfl | rfl | rfl | rfl | rfl | rfl<;>exact key _ (by decide) (by decide) (by decide) (fun G s j=>rfl) (by decide)
theorem QhA {d:Nat} {pe:Bs} (hp:pe=[]\/pe∈elNames):∀{l:List CSel},(∀y∈l,Vt d y (pr y))->ZJ d l pe ((prs l).flatten++(if pe=[] then [] else 58::58::pe))
 | [],_=>by
  rw[prs,List.flatten_nil,zW]
  by_cases e:pe=[]
  rw[if_pos e,e];exact ZJ.nil d
  rw[if_neg e];exact ZJ.el d (el_p' (hp.resolve_left e)).1
 | y::l,h=>by
  rw[prs,xx,zq]
  exact ZJ.cons (h y (by simp)) (QhA hp fun z hz=>h z (by simp[hz]))
def Qf7 (l:List CSel):Bool:=l.any peF
theorem QrD {d:Nat}:∀{l:List CSel},(∀y∈l,Zt d y (peF y) (pr y))->QaA d l (Qf7 l) ((prs l).flatMap fun u=>[44,32]++u)
 | [],_=>QaA.nil d
 | y::l,h=>by
  have q:=QaA.cons (SlS.mk (g1:=[32]) (g2:=[]) QbV (h y (by simp)) .nil) (QrD (l:=l) fun z hz=>h z (by simp[hz]))
  rw[prs,List.flatMap_cons]
  unfold Qf7 at q ⊢
  rw[List.any_cons]
  simpa using q
theorem sl_p {d:Nat} {y:CSel} (h:Zt d y (peF y) (pr y)):SlS d y (peF y) (pr y):=by
 have q:=SlS.mk (g1:=[]) (g2:=[]) .nil h .nil
 rwa [zW,zD]at q
theorem QrE {d:Nat} {l:List CSel} (hl:l≠[]) (h:∀y∈l,Zt d y (peF y) (pr y)):Qee d l (Qf7 l) (prG l)/\Ys (prG l):=by
 obtain⟨y,u,rfl⟩:=zJ hl
 have h0:=h y (by simp)
 refine⟨Qee.mk (sl_p h0) (QrD (l:=u) fun z hz=>h z (by simp[hz])),?_⟩
 unfold prG
 rw[prs,Je]
 exact h0.1.stop
theorem Qe8:∀(m d:Nat) (x:CSel),(Gd m d 0 x->Vt d x (pr x))/\(Gd m d 1 x->Zl d x (peF x) (pr x))/\(Gd m d 2 x->Zt d x (peF x) (pr x))
 | 0,d,x=>by refine⟨fun h=>?_,fun h=>?_,fun h=>?_⟩<;>(simp only[Gd]at h)
 | m+1,d,x=>by
  have ih:=Qe8 m
  have one:∀{c:Nat},JK x->peF x=false->Vt d x (pr x)/\Zl d x (peF x) (pr x)/\Zt d x (peF x) (pr x):=by
   intro c h hp
   have h1:=(Qxg h).mono (Nat.zero_le d)
   have q:=Zl.bare (ZJ.cons h1 (ZJ.nil d)) (by simp[UC h1.1])
   rw[zD]at q
   rw[hp]
   exact⟨h1,q,Zt.one q⟩
  cases x
  case tag k=>
   have q:∀{c:Nat},Gd (m+1) d c (.tag k)->c≠0/\Zl d (.tag k) false (pr (.tag k)):=by
    intro c h
    simp only[Gd]at h
    have q:=Zl.tag h.2.1 (ZJ.nil d)
    rw[h.2.2,zD]at q
    exact⟨h.1,q⟩
   exact⟨fun h=>absurd rfl (q h).1,fun h=>(q h).2,fun h=>Zt.one (q h).2⟩
  case rel n l=>
   have q:∀{c:Nat},Gd (m+1) d c (.rel n l)->Vt d (.rel n l) (pr (.rel n l)):=by
    intro c h
    simp only[Gd]at h
    obtain⟨h1,h2,d',rfl,h3⟩:=h
    obtain⟨g1,g2⟩:=QrE (d:=d') h2 (fun y hy=>(ih d' y).2.2 (h3 y hy).1)
    have hp:Qf7 l=false:=by
     unfold Qf7
     rw[List.any_eq_false]
     intro y hy
     rw[(h3 y hy).2];exact zo
    rw[hp]at g1
    have hnm:IdW n n/\low n=n:=by
     have:((n.all fun c=>Qq c.toNat)&&QI (hd n))=true/\low n=n:=by
      rcases h1 with rfl | rfl | rfl<;>decide
     exact⟨VL this.1,this.2⟩
    have q:=Vt.rel (g1:=[]) hnm.1 hnm.2 h1 .nil g1 g2
    rw[pr]
    simpa [prG] using q
   have q2:∀{c:Nat},Gd (m+1) d c (.rel n l)->Zl d (.rel n l) false (pr (.rel n l)):=by
    intro c h
    have h1:=q h
    have q:=Zl.bare (ZJ.cons h1 (ZJ.nil d)) (by simp[UC h1.1])
    rw[zD]at q
    exact q
   exact⟨fun h=>q h,fun h=>q2 h,fun h=>Zt.one (q2 h)⟩
  case compound l pe=>
   have q:∀{c:Nat},Gd (m+1) d c (.compound l pe)->c≠0/\Zl d (.compound l pe) (peF (.compound l pe)) (pr (.compound l pe)):=by
    intro c h
    simp only[Gd]at h
    obtain⟨h0,h1,h2,h3,h4⟩:=h
    refine⟨h0,?_⟩
    rw[pr]
    by_cases e:l=[]/\pe=[]
    rw[if_pos e,e.1,e.2]
    exact Zl.star (ZJ.nil d)
    rw[if_neg e]
    have hs:VD l pe=.compound l pe:=by
     unfold VD
     split
     exact absurd rfl (h2 rfl)
     rfl
    show Zl d (.compound l pe) (!decide (pe=[])) _
    rw[<-hs]
    match l,e,h2,h3,h4 with
    | [],e,h2,h3,h4=>
     refine Zl.bare (QhA h1 (fun y hy=>by cases hy)) ?_
     rw[if_neg (fun q=>e ⟨rfl,q⟩)]
     simp
    | y::u,e,h2,h3,h4=>
     have hu:∀z∈u,Vt d z (pr z):=fun z hz=>(ih d z).1 (h3 z hz)
     rcases h4 y rfl with h | ⟨k,rfl,hk⟩
     have hy:=(ih d y).1 h
     refine Zl.bare (QhA h1 (l:=y::u) (fun z hz=>?_)) ?_
     rcases zp.1 hz with e | e
     subst e;exact hy
     exact hu z e
     rw[prs,xx]
     simp[UC hy.1]
     have q:=Zl.tag hk.1 (QhA h1 hu)
     rw[hk.2]at q
     rw[prs,xx,zq]
     exact q
   exact⟨fun h=>absurd rfl (q h).1,fun h=>(q h).2,fun h=>Zt.one (q h).2⟩
  case combined f o s=>
   refine⟨fun h=>?_,fun h=>?_,fun h=>?_⟩
   simp only[Gd]at h;omega
   simp only[Gd]at h;omega
   simp only[Gd]at h
   obtain⟨_,h1,h2,h3,h4⟩:=h
   have hA:=(ih d f).2.2 h2
   have hB:=(ih d s).2.1 h4
   rw[h3]at hA
   have hu:Y6 o.toNat=[o]:=by rcases h1 with rfl | rfl | rfl | rfl<;>decide
   rw[pr,hu]
   show Zt d (.combined f o s) (peF s) _
   rcases h1 with rfl | rfl | rfl | rfl
   exact Zt.desc hA (g:=[32,32,32]) (fun c hc=>by simp at hc;rw[hc];decide) (by simp) hB
   exact Zt.comb hA (g1:=[32]) (g2:=[32]) QbV (c:=62) (by decide) QbV hB
   exact Zt.comb hA (g1:=[32]) (g2:=[32]) QbV (c:=43) (by decide) QbV hB
   exact Zt.comb hA (g1:=[32]) (g2:=[32]) QbV (c:=126) (by decide) QbV hB
  all_goals
   refine⟨fun h=>?_,fun h=>?_,fun h=>?_⟩ <;>
    (have h':=h;simp only[Gd]at h';first | exact (one (c:=0) h' rfl).1 | exact (one (c:=0) h' rfl).2.1 | exact (one (c:=0) h' rfl).2.2)
theorem Qno:∀(m d c:Nat) (x:CSel),Gd m d c x->∀(m' d' c':Nat),m<=m'->d<=d'->c<=c'->Gd m' d' c' x
 | 0,d,c,x,h,_,_,_,_,_,_=>by simp only[Gd]at h
 | m+1,d,c,x,h,m',d',c',hm,hd,hc=>by
  obtain⟨m',rfl⟩:∃k,m'=k+1:=⟨m'-1,by omega⟩
  have ih:=Qno m
  cases x
  case tag k=>simp only[Gd]at h ⊢;exact⟨fun q=>h.1 (by omega),h.2⟩
  case rel n l=>
   simp only[Gd]at h ⊢
   obtain⟨h1,h2,e,rfl,h3⟩:=h
   exact⟨h1,h2,d'-1,by omega,fun y hy=>⟨ih _ _ _ (h3 y hy).1 _ _ _ (by omega) (by omega) (zj _),(h3 y hy).2⟩⟩
  case compound l pe=>
   simp only[Gd]at h ⊢
   obtain⟨h0,h1,h2,h3,h4⟩:=h
   exact⟨fun q=>h0 (by omega),h1,h2,fun y hy=>ih _ _ _ (h3 y hy) _ _ _ (by omega) hd (zj _),fun y hy=>(h4 y hy).imp (fun q=>ih _ _ _ q _ _ _ (by omega) hd (zj _)) id⟩
  case combined f o s=>
   simp only[Gd]at h ⊢
   obtain⟨h0,h1,h2,h3,h4⟩:=h
   exact⟨by omega,h1,ih _ _ _ h2 _ _ _ (by omega) hd (zj _),h3,ih _ _ _ h4 _ _ _ (by omega) hd (zj _)⟩
  all_goals (simp only[Gd]at h ⊢;exact h)
theorem Gd.mono {m d c:Nat} {x:CSel} (h:Gd m d c x) {m' d' c':Nat} (hm:m<=m') (hd:d<=d') (hc:c<=c'):Gd m' d' c' x:=Qno m d c x h m' d' c' hm hd hc
theorem Qlj {m d:Nat} {l:List CSel} (hl:l≠[]) (h:∀y∈l,Gd m d 2 y) (hd:d<=1000) (acc:Bool):QU (prG l) true acc=if Qf7 l=true/\acc=false then none else some l:=
 Qb6 (QrE hl fun y hy=>(Qe8 m d y).2.2 (h y hy)).1 hd acc
end Way
end
end Go.Proofs.YtengepcafdnalaaGreatDoor
