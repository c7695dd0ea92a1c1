/-
  Parts of the proof that the law FnPrintGrammar holds for every input (texts Wb). Conditions: none.
-/
import Derived.Test.YtengepcafdnalaaGreatDoorM30
namespace Go.Proofs.YtengepcafdnalaaGreatDoor
open _root_.Bool renaming or_eq_true → zu, false_ne_true → zo
open _root_.List renaming mem_cons → zp, not_mem_nil → zT, length_pos_iff → zw, length_cons → zg, length_nil → zl, nil_append → zW, append_assoc → zq
section
namespace Way
set_option maxRecDepth 20000
theorem J3 {r:Bs} {n:Nat} (h:hd r=n) (h1:Qq n=false) (h2:n≠92):ZI r:=by subst h;exact⟨h1,h2⟩
theorem J2 {g r:Bs} (hg:WsL g) (hr:ZI r):ZI (g++r):=by
 match g,hg with
 | [],_=>exact hr
 | c::g,hg=>
  have h:=hg c (by simp)
  simp only[VT,zu,decide_eq_true_eq]at h
  refine J3 (n:=c.toNat) rfl ?_ (by omega)
  rcases h with ((((h | h) | h) | h) | h)<;>rw[h]<;>decide
theorem QeK {v t r:Bs} (h:IdW v t):Ys (t++r):=by
 obtain⟨h1,_,h3⟩:=h.head
 have h4:=Qfr h3
 unfold Ys
 rw[VQ h1]
 exact⟨h4.2.2.2.1,h4.2.2.2.2.1⟩
theorem JO {c:UInt8} {r:Bs} (h1:VT c.toNat=false) (h2:c.toNat≠47):Ys (c::r):=⟨h1,h2⟩
section
variable {s:Bs}
theorem Qsf {v t g1 g2:Bs} (h:IdW v t) (w1:WsL g1) (w2:WsL g2) {i:Nat} {r:Bs} (e:s.drop i=91::(g1++(t++(g2++(93::r))))) :
 VK s i=some (.attr (low v) [] [] false,i+(g1.length+t.length+g2.length+2)):=by
 obtain⟨_,_,_,e1⟩:=d1 e
 have q1:=Y1 g1 (i+1) _ e1 w1 (QeK h)
 have e2:=dA e1
 have q2:=ZP h e2 (J2 w2 (J3 (n:=93) rfl (by decide) (by decide)))
 have e3:=dA e2
 have q3:=Y1 g2 _ _ e3 w2 (JO (by decide) (by decide))
 obtain⟨k1,k2,k3,k4⟩:=d1 (dA e3)
 unfold VK
 rw[q1,q2]
 simp only
 rw[q3,if_pos k1,if_pos (show _=93 from k2)]
 simp;omega
theorem QkU {op:Bs} (h:op∈attrSigns):op=[61]\/∃c:UInt8,op=[c,61]/\c.toNat≠61/\c.toNat≠93/\Qq c.toNat=false/\c.toNat≠92/\VT c.toNat=false/\c.toNat≠47:=by
 simp only[attrSigns,zp,zT,or_false]at h
 rcases h with h | h | h | h | h | h | h
 . exact .inl h
 all_goals (refine .inr ⟨_,h,?_⟩;decide)
def Qsx (ign:Bool) (f:Bs):Prop:=(ign=false/\f=[])\/(ign=true/\(f=[105]\/f=[73]))
theorem Qsd {v t g1 g2 op g3 val vt g4 f g5:Bs} {ign:Bool} (h:IdW v t) (w1:WsL g1) (w2:WsL g2) (ho:op∈attrSigns) (w3:WsL g3) (hv:QkJ val vt) (w4:WsL g4)
 (hf:Qsx ign f) (hz:f=[]\/g4≠[]\/∃u,vt=u++[34]\/vt=u++[39]) (w5:WsL g5) {i:Nat} {r:Bs} (hn:ZI (g4++(f++(g5++(93::r))))\/¬IdW val vt)
 (e:s.drop i=91::(g1++(t++(g2++(op++(g3++(vt++(g4++(f++(g5++(93::r))))))))))) :
 VK s i=some (.attr (low v) val op ign,i+(g1.length+t.length+g2.length+op.length+g3.length+vt.length+g4.length+f.length+g5.length+2)):=by
 obtain⟨_,_,_,e1⟩:=d1 e
 have q1:=Y1 g1 (i+1) _ e1 w1 (QeK h)
 have e2:=dA e1
 have hop:=QkU ho
 have hsn:ZI (op++(g3++(vt++(g4++(f++(g5++(93::r))))))):=by
  rcases hop with rfl | ⟨c,rfl,k1,k2,k3,k4,k5,k6⟩
  exact J3 (n:=61) rfl (by decide) (by decide)
  exact⟨k3,k4⟩
 have q2:=ZP h e2 (J2 w2 hsn)
 have e3:=dA e2
 have hsw:Ys (op++(g3++(vt++(g4++(f++(g5++(93::r))))))):=by
  rcases hop with rfl | ⟨c,rfl,k1,k2,k3,k4,k5,k6⟩
  exact JO (by decide) (by decide)
  exact JO k5 k6
 have q3:=Y1 g2 _ _ e3 w2 hsw
 have e4:=dA e3
 have e5:=dA e4
 have hve:=hv.ne
 have q5:=Y1 g3 _ _ e5 w3 (by unfold Ys;rw[VQ hve.1];exact hve.2)
 have e6:=dA e5
 have q6:(if bat s (i+1+g1.length+t.length+g2.length+op.length+g3.length)=39\/bat s (i+1+g1.length+t.length+g2.length+op.length+g3.length)=34 then Jb s (i+1+g1.length+t.length+g2.length+op.length+g3.length)
  else QC s (i+1+g1.length+t.length+g2.length+op.length+g3.length))=some (val,i+1+g1.length+t.length+g2.length+op.length+g3.length+vt.length):=by
  rcases hn with hn | hn
  . exact Qpt hv e6 hn
  rcases hv with hv | ⟨q,u,hq,hu,hvt⟩
  . exact absurd hv hn
  subst hvt
  have e':s.drop (i+1+g1.length+t.length+g2.length+op.length+g3.length)=q::(u++(q::(g4++(f++(g5++(93::r)))))):=by rw[e6];simp
  have hb:=(d1 e').2.1
  rw[hb,if_pos (by rcases hq with rfl | rfl<;>decide),Qm9 (by rcases hq with rfl | rfl<;>decide) hu e']
  simp
 have e7:=dA e6
 have hfw:Ys (f++(g5++(93::r)))\/f=[]:=by
  rcases hf with ⟨_,hf⟩ | ⟨_,hf | hf⟩
  exact .inr hf
  subst hf;exact .inl (JO (by decide) (by decide))
  subst hf;exact .inl (JO (by decide) (by decide))
 obtain⟨z1,z2,z3,z4⟩:=d1 (dA (dA (dA e7)))
 have hm:i+1+g1.length+t.length+g2.length<s.length:=lhd e4 (by rcases hop with rfl | ⟨c,rfl,_⟩<;>simp)
 unfold VK
 rw[q1,q2]
 simp only
 rw[q3,if_pos hm]
 have b0:bat s (i+1+g1.length+t.length+g2.length)=hd op:=by rw[bhd e4,VQ (by rcases hop with rfl | ⟨c,rfl,_⟩<;>simp)]
 have hvl:1<=vt.length:=zw.2 hve.1
 have key:VK.iAttrV s (low v) op (i+1+g1.length+t.length+g2.length+op.length+g3.length)=some (.attr (low v) val op ign,i+(g1.length+t.length+g2.length+op.length+g3.length+vt.length+g4.length+f.length+g5.length+2)):=by
  unfold VK.iAttrV
  rw[if_pos (lhd e6 (by simp[hve.1])),q6]
  simp only
  rcases hf with ⟨rfl,rfl⟩ | ⟨rfl,hf⟩
  have e8:s.drop (i+1+g1.length+t.length+g2.length+op.length+g3.length+vt.length)=(g4++g5)++(93::r):=by rw[e7];simp
  have w45:WsL (g4++g5):=fun c hc=>(List.mem_append.1 hc).elim (w4 c) (w5 c)
  have q8:=Y1 _ _ _ e8 w45 (JO (by decide) (by decide))
  have e9:=dA e8
  obtain⟨y1,y2,y3,y4⟩:=d1 e9
  have q9:=iWs_0 e9 (JO (by decide) (by decide))
  rw[q8,if_pos y1,y2,if_neg (by decide),q9]
  unfold VK.iAttrE
  rw[if_pos ⟨y1,y2,ho⟩]
  simp;omega
  have hfl:f≠[]:=by rcases hf with rfl | rfl<;>simp
  have hfb:hd f=105\/hd f=73:=by rcases hf with rfl | rfl<;>decide
  have hf1:f.length=1:=by rcases hf with rfl | rfl<;>rfl
  have hsf:Ys (f++(g5++(93::r))):=hfw.resolve_right hfl
  have q8:=Y1 g4 _ _ e7 w4 hsf
  have e8:=dA e7
  have e9:=dA e8
  have hb:=bhd e8
  rw[VQ hfl]at hb
  have q9:=Y1 g5 _ _ e9 w5 (JO (by decide) (by decide))
  rw[q8,if_pos (lhd e8 (by simp[hfl])),hb,if_pos hfb,decide_eq_true hfb]
  rw[hf1]at q9
  rw[q9]
  rw[hf1]at z1 z2
  unfold VK.iAttrE
  rw[if_pos ⟨z1,z2,ho⟩,hf1]
  simp;omega
 rcases hop with rfl | ⟨c,rfl,k1,k2,k3,k4,k5,k6⟩
 have b1:bat s (i+1+g1.length+t.length+g2.length)=61:=b0
 rw[b1,if_neg (by decide),if_pos ⟨by simp only[zg,zl]at z1;omega,.inl rfl⟩,if_pos rfl,if_pos rfl]
 simp only[zg,zl]at q5 key ⊢
 rw[q5]
 exact key
 have b1:bat s (i+1+g1.length+t.length+g2.length)=c.toNat:=b0
 obtain⟨x1,x2,x3,x4⟩:=d1 e4
 obtain⟨y1,y2,y3,y4⟩:=d1 x4
 rw[b1,if_neg k2,if_pos ⟨by simp only[zg,zl]at z1;omega,.inr y2⟩,if_neg k1,if_neg k1,x3,y3]
 simp only[zg,zl]at q5 key ⊢
 rw[q5]
 exact key
theorem Qhi:∀(ds:Bs) (i:Nat) (r:Bs),s.drop i=ds++r->(∀c∈ds,Qv c.toNat=true)->Qv (hd r)=false->QM s i=i+ds.length
 | [],i,r,e,_,hr=>by
  rw[QM,if_neg]
  rfl
  rintro⟨_,q⟩
  rw[bhd e]at q
  simp only[zW]at q
  rw[hr]at q;cases q
 | c::ds,i,r,e,h,hr=>by
  obtain⟨h1,h2,h3,h4⟩:=d1 e
  rw[QM,if_pos ⟨h1,by rw[h2];exact h c (by simp)⟩,Qhi ds (i+1) r h4 (fun c hc=>h c (by simp[hc])) hr]
  simp;omega
def Qpn (n:Nat) (ds:Bs):Prop:=ds≠[]/\(∀c∈ds,Qv c.toNat=true)/\YU ds=n/\n<=9223372036854775807
theorem Qnb {n:Nat} {ds:Bs} (h:Qpn n ds) {i:Nat} {r:Bs} (e:s.drop i=ds++r) (hr:Qv (hd r)=false):QcQ s i=some ((n:Int),i+ds.length):=by
 obtain⟨h1,h2,h3,h4⟩:=h
 have h5:1<=ds.length:=zw.2 h1
 unfold QcQ
 rw[Qhi ds i r e h2 hr,if_neg (by omega),Qvj e,h3,if_pos h4]
end
def NthW (a b:Int) (t:Bs):Prop:=t≠[]/\VT (hd t)=false/\hd t≠47/\∀(s:Bs) (i:Nat) (g r:Bs),s.drop i=t++(g++(41::r))->WsL g->∃j,Ym s i=some (a,b,j)/\(j=i+t.length\/j=i+t.length+g.length)
theorem ws_or {g r:Bs} (w:WsL g):VT (hd (g++(41::r)))=true\/hd (g++(41::r))=41:=by
 match g,w with
 | [],_=>exact .inr rfl
 | c::g,w=>exact .inl (w c (by simp))
def Vt (d:Nat) (x:CSel) (t:Bs):Prop:=Qx (hd t)=true/\∀(s:Bs) (acc:Bool) (k i:Nat) (r:Bs),d<=k->s.drop i=t++r->ZI r->Vm (QD s acc k) s i=some (some x,[],i+t.length)
theorem UC {t:Bs} (h:Qx (hd t)=true):t≠[]:=Qki (by simp[Qx]at h;omega)
theorem Qjc {t r:Bs} (h:Qx (hd t)=true):ZI (t++r):=by
 unfold ZI
 rw[VQ (UC h)]
 simp only[Qx,zu,decide_eq_true_eq]at h
 rcases h with ((h | h) | h) | h<;>rw[h]<;>decide
theorem Vt.mono {d d':Nat} {x:CSel} {t:Bs} (h:Vt d x t) (hd:d<=d'):Vt d' x t:=⟨h.1,fun s acc k i r hk=>h.2 s acc k i r (by omega)⟩
theorem Vt.idn {v t:Bs} (h:NmW v t) (ht:t≠[]):Vt 0 (.idn v) (35::t):=by
 refine⟨show Qx 35=true by decide,fun s acc k i r _ e hs=>?_⟩
 obtain⟨h1,h2,h3,h4⟩:=d1 e
 unfold Vm
 rw[h2,if_pos (by decide),Qj8 h ht h4 hs]
 simp;omega
theorem Vt.cls {v t:Bs} (h:IdW v t):Vt 0 (.cls v) (46::t):=by
 refine⟨show Qx 46=true by decide,fun s acc k i r _ e hs=>?_⟩
 obtain⟨h1,h2,h3,h4⟩:=d1 e
 unfold Vm
 rw[h2,if_neg (by decide),if_pos (by decide),ZP h h4 hs]
 simp;omega
theorem Vt.attr0 {v t g1 g2:Bs} (h:IdW v t) (w1:WsL g1) (w2:WsL g2):Vt 0 (.attr (low v) [] [] false) (91::(g1++(t++(g2++[93])))):=by
 refine⟨show Qx 91=true by decide,fun s acc k i r _ e hs=>?_⟩
 have e':s.drop i=91::(g1++(t++(g2++(93::r)))):=by rw[e];simp
 unfold Vm
 rw[(d1 e).2.1,if_neg (by decide),if_neg (by decide),if_pos (by decide),Qsf h w1 w2 e']
 simp;omega
theorem Vt.attr1 {v t g1 g2 op g3 val vt g4 f g5:Bs} {ign:Bool} (h:IdW v t) (w1:WsL g1) (w2:WsL g2) (ho:op∈attrSigns) (w3:WsL g3) (hv:QkJ val vt) (w4:WsL g4)
 (hf:Qsx ign f) (hz:f=[]\/g4≠[]) (w5:WsL g5):Vt 0 (.attr (low v) val op ign) (91::(g1++(t++(g2++(op++(g3++(vt++(g4++(f++(g5++[93])))))))))):=by
 refine⟨show Qx 91=true by decide,fun s acc k i r _ e hs=>?_⟩
 have e':s.drop i=91::(g1++(t++(g2++(op++(g3++(vt++(g4++(f++(g5++(93::r)))))))))):=by rw[e];simp
 have hn:ZI (g4++(f++(g5++(93::r)))):=by
  have h93:ZI (g5++(93::r)):=J2 w5 (J3 (n:=93) rfl (by decide) (by decide))
  rcases hz with rfl | hz
  exact J2 w4 h93
  match g4,w4,hz with
  | c::g,w4,_=>
   have q:=J2 (g:=[c]) (r:=[93]) (fun x hx=>w4 x (by simp at hx;simp[hx])) (J3 (n:=93) rfl (by decide) (by decide))
   exact q
 unfold Vm
 rw[(d1 e).2.1,if_neg (by decide),if_neg (by decide),if_pos (by decide),Qsd h w1 w2 ho w3 hv w4 hf (hz.elim .inl fun q=>.inr (.inl q)) w5 (.inl hn) e']
 simp;omega
section
variable {s:Bs}
theorem Qft {G:Nat->Option (List CSel×Nat)} {v t:Bs} (h:IdW v t) {i:Nat} {r:Bs} (e:s.drop i=58::(t++r)) (hs:ZI r):iPs G s i=V4 G s (low v) (i+(t.length+1)):=by
 obtain⟨h1,h2,h3,h4⟩:=d1 e
 obtain⟨k1,_,k3⟩:=h.head
 have k4:=Qfr k3
 have hb:=bhd h4
 rw[VQ k1]at hb
 unfold iPs
 rw[if_pos (lhd h4 (by simp[k1])),hb,if_neg k4.2.2.2.2.2.2.2.2,ZP h h4 hs]
 simp only
 rw[if_neg (fun q=>k4.2.2.2.2.2.2.2.2 q.1)]
 congr 1;omega
theorem Jn {G:Nat->Option (List CSel×Nat)} {i:Nat} (h:bat s i=58):Vm G s i=iPs G s i:=by
 unfold Vm
 rw[h,if_neg (by decide),if_neg (by decide),if_neg (by decide)]
end
theorem Vt.plain {v t:Bs} {x:CSel} (h:IdW v t) (hx:∀G s j,V4 G s (low v) j=some (some x,[],j)):Vt 0 x (58::t):=by
 refine⟨show Qx 58=true by decide,fun s acc k i r _ e hs=>?_⟩
 rw[Jn (d1 e).2.1,Qft h e hs,hx]
 simp
theorem Qhx {r:Bs}:ZI (40::r):=J3 (n:=40) rfl (by decide) (by decide)
theorem QpG {r:Bs}:ZI (41::r):=J3 (n:=41) rfl (by decide) (by decide)
section
variable {s:Bs}
theorem QcO {g:Bs} {i:Nat} {r:Bs} (e:s.drop i=40::(g++r)) (hg:WsL g) (hr:Ys r):Vs s i=some (i+1+g.length):=by
 obtain⟨h1,h2,h3,h4⟩:=d1 e
 unfold Vs
 rw[if_pos ⟨h1,h2⟩,Y1 g _ r h4 hg hr]
theorem U4 {g:Bs} {i:Nat} {r:Bs} (e:s.drop i=g++(41::r)) (hg:WsL g):QP s i=some (i+g.length+1):=by
 have q:=Y1 g i (41::r) e hg (JO (by decide) (by decide))
 obtain⟨h1,h2,h3,h4⟩:=d1 (dA e)
 unfold QP
 rw[q,if_pos ⟨h1,h2⟩]
end
theorem Vt.lang {v t w u g1 g2:Bs} (h:IdW v t) (hv:low v=ZY) (hu:IdW w u) (w1:WsL g1) (w2:WsL g2):Vt 0 (.lang (low w)) (58::(t++(40::(g1++(u++(g2++[41])))))):=by
 refine⟨show Qx 58=true by decide,fun s acc k i r _ e hs=>?_⟩
 have e1:s.drop i=58::(t++(40::(g1++(u++(g2++(41::r)))))):=by rw[e];simp
 have e2:s.drop (i+(t.length+1))=40::(g1++(u++(g2++(41::r)))):=by
  have:=dA (d1 e1).2.2.2;rw[<-this];congr 1;omega
 have e3:=dA (d1 e2).2.2.2
 have e4:=dA e3
 rw[Jn (d1 e).2.1,Qft h e1 Qhx,hv]
 unfold V4
 rw[if_neg (by decide),if_neg (by decide),if_neg (by decide),if_pos rfl]
 unfold Zv
 rw[QcO e2 w1 (QeK hu)]
 simp only
 rw[if_pos (lhd e3 (by simp[hu.head.1])),ZP hu e3 (J2 w2 QpG)]
 simp only
 rw[U4 e4 w2]
 simp;omega
theorem Vt.contains {v t w u g1 g2:Bs} (own:Bool) (h:IdW v t) (hv:low v=if own=true then Q8 else VJ) (hu:QkJ w u) (w1:WsL g1) (w2:WsL g2) :
 Vt 0 (.contains (low w) own) (58::(t++(40::(g1++(u++(g2++[41])))))):=by
 refine⟨show Qx 58=true by decide,fun s acc k i r _ e hs=>?_⟩
 have e1:s.drop i=58::(t++(40::(g1++(u++(g2++(41::r)))))):=by rw[e];simp
 have e2:s.drop (i+(t.length+1))=40::(g1++(u++(g2++(41::r)))):=by
  have:=dA (d1 e1).2.2.2;rw[<-this];congr 1;omega
 have e3:=dA (d1 e2).2.2.2
 have e4:=dA e3
 have hue:=hu.ne
 have hsw:Ys (u++(g2++(41::r))):=by unfold Ys;rw[VQ hue.1];exact hue.2
 rw[Jn (d1 e).2.1,Qft h e1 Qhx,hv]
 have hname:V4 (QD s acc k) s (if own=true then Q8 else VJ) (i+(t.length+1))=(Zc s own (i+(t.length+1))).map fun p=>(some p.1,[],p.2):=by
  unfold V4
  cases own
  rw[if_neg (by decide),if_pos (by decide)];rfl
  rw[if_neg (by decide),if_pos (by decide)];rfl
 rw[hname]
 unfold Zc
 rw[QcO e2 w1 hsw]
 simp only
 rw[if_pos (lhd e3 (by simp[hue.1])),Qpt hu e3 (J2 w2 QpG)]
 simp only
 rw[U4 e4 w2]
 simp;omega
def ZX (last ofType:Bool):Bs:=if last=true then (if ofType=true then QL else QH) else (if ofType=true then VI else Vp)
theorem Vt.nth {v t u g1 g2:Bs} {a b:Int} (l ty:Bool) (h:IdW v t) (hv:low v=ZX l ty) (hu:NthW a b u) (w1:WsL g1) (w2:WsL g2) :
 Vt 0 (.nth a b l ty) (58::(t++(40::(g1++(u++(g2++[41])))))):=by
 refine⟨show Qx 58=true by decide,fun s acc k i r _ e hs=>?_⟩
 have e1:s.drop i=58::(t++(40::(g1++(u++(g2++(41::r)))))):=by rw[e];simp
 have e2:s.drop (i+(t.length+1))=40::(g1++(u++(g2++(41::r)))):=by
  have:=dA (d1 e1).2.2.2;rw[<-this];congr 1;omega
 have e3:=dA (d1 e2).2.2.2
 have e4:=dA e3
 obtain⟨n1,n2,n3,n4⟩:=hu
 have hsw:Ys (u++(g2++(41::r))):=by unfold Ys;rw[VQ n1];exact⟨n2,n3⟩
 rw[Jn (d1 e).2.1,Qft h e1 Qhx,hv]
 have hname:V4 (QD s acc k) s (ZX l ty) (i+(t.length+1))=(Zd s l ty (i+(t.length+1))).map fun p=>(some p.1,[],p.2):=by
  unfold V4
  cases l<;>cases ty<;>rfl
 obtain⟨j,n5,n6⟩:=n4 s _ g2 r e3 w2
 rw[hname]
 unfold Zd
 rw[QcO e2 w1 hsw]
 simp only
 rw[n5]
 simp only
 rcases n6 with rfl | rfl
 rw[U4 e4 w2]
 simp;omega
 rw[U4 (g:=[]) (dA e4) .nil]
 simp;omega
def ElS (pe t:Bs):Prop:=Qx (hd t)=true/\pe≠[]/\∀(G:Nat->Option (List CSel×Nat)) (s:Bs) (i:Nat) (r:Bs),s.drop i=t++r->ZI r->Vm G s i=some (none,pe,i+t.length)
theorem ElS.two {v t:Bs} (h:IdW v t) (hv:low v∈elNames) (hn:∀G s j,V4 G s (low v) j=some (none,low v,j)) (hz:low v≠[]):ElS (low v) (58::58::t):=by
 refine⟨show Qx 58=true by decide,hz,fun G s i r e hs=>?_⟩
 obtain⟨h1,h2,h3,h4⟩:=d1 e
 obtain⟨k1,k2,k3,k4⟩:=d1 h4
 rw[Jn h2]
 unfold iPs
 rw[if_pos k1,k2,if_pos (by decide),ZP h k4 hs]
 simp only
 rw[if_neg (fun q=>q.2 hv),hn]
 simp;omega
def QdK (r:Bs):Prop:=r=[]\/hd r=44\/hd r=41\/Vg (hd r)=true\/VT (hd r)=true
theorem QdK.no {r:Bs} (h:QdK r):Qx (hd r)=false/\ZI r/\hd r≠124:=by
 rcases h with h | h | h | h | h
 subst h;exact⟨by decide,⟨by decide,by decide⟩,by decide⟩
 exact⟨by rw[h];decide,⟨by rw[h];decide,by omega⟩,by omega⟩
 exact⟨by rw[h];decide,⟨by rw[h];decide,by omega⟩,by omega⟩
 simp only[Vg,zu,decide_eq_true_eq]at h
 rcases h with (h | h) | h<;>exact⟨by rw[h];decide,⟨by rw[h];decide,by omega⟩,by omega⟩
 simp only[VT,zu,decide_eq_true_eq]at h
 rcases h with (((h | h) | h) | h) | h<;>exact⟨by rw[h];decide,⟨by rw[h];decide,by omega⟩,by omega⟩
def ZJ (d:Nat) (l:List CSel) (pe t:Bs):Prop:=(t=[]\/Qx (hd t)=true)/\∀(s:Bs) (acc:Bool) (k i:Nat) (r:Bs) (l0:List CSel),d<=k->s.drop i=t++r->QdK r ->
 QT (QD s acc k) s acc i l0 []=if pe≠[]/\acc=false then none else some (VD (l0++l) pe,i+t.length)
theorem Qgu {G:Nat->Option (List CSel×Nat)} {s:Bs} {acc:Bool} {i:Nat} {l:List CSel} {pe r:Bs} (e:s.drop i=r) (h:QdK r):QT G s acc i l pe=some (VD l pe,i):=by
 rw[QT,if_neg]
 rintro⟨_,q⟩
 rw[bhd e,h.no.1]at q
 cases q
theorem ZJ.nil (d:Nat):ZJ d [] [] []:=by
 refine⟨.inl rfl,fun s acc k i r l0 _ e hr=>?_⟩
 rw[Qgu e hr,if_neg (fun q=>q.1 rfl)]
 simp
theorem ZJ.el {pe t:Bs} (d:Nat) (h:ElS pe t):ZJ d [] pe t:=by
 refine⟨.inr h.1,fun s acc k i r l0 _ e hr=>?_⟩
 have hb:=bhd e
 rw[VQ (UC h.1)]at hb
 have hl:=lhd e (by simp[UC h.1])
 have hp:1<=t.length:=zw.2 (UC h.1)
 rw[QT,if_pos ⟨hl,by rw[hb];exact h.1⟩,h.2.2 _ s i r e hr.no.2.1]
 simp only
 rw[if_pos (by omega)]
 cases acc with
 | false=>rw[if_neg (by simp),if_pos ⟨h.2.1,rfl⟩]
 | true=>rw[if_pos (by simp),Qgu (dA e) hr,if_neg (by simp)];simp
theorem ZJ.cons {d:Nat} {x:CSel} {t:Bs} {l:List CSel} {pe u:Bs} (h:Vt d x t) (h':ZJ d l pe u):ZJ d (x::l) pe (t++u):=by
 have hne:=UC h.1
 refine⟨.inr (by rw[VQ hne];exact h.1),fun s acc k i r l0 hk e hr=>?_⟩
 rw[zq]at e
 have hb:=bhd e
 rw[VQ hne]at hb
 have hl:=lhd e (by simp[hne])
 have hp:1<=t.length:=zw.2 hne
 have hs:ZI (u++r):=by
  rcases h'.1 with q | q
  subst q;exact hr.no.2.1
  exact Qjc q
 rw[QT,if_pos ⟨hl,by rw[hb];exact h.1⟩,h.2 s acc k i _ hk e hs]
 simp only
 rw[if_pos (by omega),if_pos trivial,h'.2 s acc k _ r _ hk (dA e) hr]
 simp[Nat.add_assoc]
def Qbe (t:Bs):Prop:=t≠[]/\VT (hd t)=false/\hd t≠47/\Vg (hd t)=false/\hd t≠44/\hd t≠41
theorem Qbe.app {t u:Bs} (h:Qbe t):Qbe (t++u):=by
 obtain⟨h1,h2⟩:=h
 refine⟨by simp[h1],?_⟩
 rw[VQ h1];exact h2
theorem Qbe.stop {t r:Bs} (h:Qbe t):Ys (t++r):=by
 unfold Ys;rw[VQ h.1];exact⟨h.2.1,h.2.2.1⟩
def Zl (d:Nat) (x:CSel) (p:Bool) (t:Bs):Prop:=Qbe t/\∀(s:Bs) (acc:Bool) (k i:Nat) (r:Bs),d<=k->s.drop i=t++r->QdK r ->
 YD (QD s acc k) s acc i=if p=true/\acc=false then none else some (x,i+t.length)
theorem ifp {α:Type} {pe:Bs} {acc:Bool} (a b:α):(if pe≠[]/\acc=false then a else b)=(if (!decide (pe=[]))=true/\acc=false then a else b):=by
 by_cases h:pe=[]
 subst h;simp
 simp[h]
theorem Zl.star {d:Nat} {l:List CSel} {pe u:Bs} (h:ZJ d l pe u):Zl d (VD l pe) (!decide (pe=[])) (42::u):=by
 refine⟨⟨by simp,show VT 42=false by decide,show 42≠47 by decide,show Vg 42=false by decide,show 42≠44 by decide,show 42≠41 by decide⟩,fun s acc k i r hk e hr=>?_⟩
 obtain⟨h1,h2,h3,h4⟩:=d1 (show s.drop i=42::(u++r) from e)
 have hb:=bhd h4
 have hb':bat s (i+1)≠124:=by
  rw[hb]
  rcases h.1 with q | q
  subst q;exact hr.no.2.2
  rw[VQ (UC q)]
  simp only[Qx,zu,decide_eq_true_eq]at q
  omega
 unfold YD
 rw[if_pos h1,h2,if_pos (by decide),if_neg (fun q=>hb' q.2.1),h.2 s acc k _ r [] hk h4 hr,<-ifp,show i+1+u.length=i+(42::u).length by simp;omega]
 rfl
theorem Zl.bare {d:Nat} {l:List CSel} {pe u:Bs} (h:ZJ d l pe u) (hu:u≠[]):Zl d (VD l pe) (!decide (pe=[])) u:=by
 have hs:=h.1.resolve_left hu
 refine⟨⟨hu,?_⟩,fun s acc k i r hk e hr=>?_⟩
 simp only[Qx,zu,decide_eq_true_eq]at hs
 rcases hs with ((q | q) | q) | q<;>rw[q]<;>decide
 have hb:=bhd e
 rw[VQ hu]at hb
 unfold YD
 rw[if_pos (lhd e (by simp[hu])),if_neg (by rw[hb];intro q;rw[q]at hs;revert hs;decide),if_pos (by rw[hb];exact hs),h.2 s acc k i r [] hk e hr,<-ifp]
 simp
theorem Zl.tag {d:Nat} {v t:Bs} {l:List CSel} {pe u:Bs} (ht:IdW v t) (h:ZJ d l pe u):Zl d (VD (.tag (low v)::l) pe) (!decide (pe=[])) (t++u):=by
 obtain⟨k1,_,k3⟩:=ht.head
 have k4:=Qfr k3
 refine⟨Qbe.app ⟨k1,k4.2.2.2.1,k4.2.2.2.2.1,k4.2.2.2.2.2.1,k4.2.2.2.2.2.2.1,k4.2.2.2.2.2.2.2.1⟩,fun s acc k i r hk e hr=>?_⟩
 rw[zq]at e
 have hb:=bhd e
 rw[VQ k1]at hb
 have hs:ZI (u++r):=by
  rcases h.1 with q | q
  subst q;exact hr.no.2.1
  exact Qjc q
 unfold YD
 rw[if_pos (lhd e (by simp[k1])),hb,if_neg k4.2.1,if_neg (by rw[k4.2.2.1];exact zo),ZP ht e hs]
 simp only
 rw[h.2 s acc k _ r _ hk (dA e) hr,<-ifp]
 simp[Nat.add_assoc]
def Zt (d:Nat) (x:CSel) (p:Bool) (t:Bs):Prop:=Qbe t/\∀(s:Bs) (acc:Bool) (k i:Nat) (r:Bs),d<=k->s.drop i=t++r->QdK r ->
 ((YD (QD s acc k) s acc i).bind fun y=>Vh (QD s acc k) s acc y.1 y.2)=if p=true/\acc=false then none else Vh (QD s acc k) s acc x (i+t.length)
theorem Zt.one {d:Nat} {x:CSel} {p:Bool} {t:Bs} (h:Zl d x p t):Zt d x p t:=by
 refine⟨h.1,fun s acc k i r hk e hr=>?_⟩
 rw[h.2 s acc k i r hk e hr]
 by_cases hq:p=true/\acc=false
 rw[if_pos hq,if_pos hq];rfl
 rw[if_neg hq,if_neg hq];rfl
theorem QdK.ws {g r:Bs} (hg:WsL g) (hr:QdK r):QdK (g++r):=by
 match g,hg with
 | [],_=>exact hr
 | c::g,hg=>exact .inr (.inr (.inr (.inr (hg c (by simp)))))
theorem Qo6 {c:UInt8} {r:Bs} (h:Vg c.toNat=true):Ys (c::r):=by
 simp only[Vg,zu,decide_eq_true_eq]at h
 unfold Ys
 rcases h with (h | h) | h<;>(show VT c.toNat=false/\c.toNat≠47)<;>rw[h]<;>decide
theorem Zt.comb {d:Nat} {x y:CSel} {p:Bool} {t g1 g2 u:Bs} {c:UInt8} (h:Zt d x false t) (w1:WsL g1) (hc:Vg c.toNat=true) (w2:WsL g2) (h':Zl d y p u) :
 Zt d (.combined x c y) p (t++(g1++(c::(g2++u)))):=by
 refine⟨h.1.app,fun s acc k i r hk e hr=>?_⟩
 have e1:s.drop i=t++(g1++(c::(g2++(u++r)))):=by rw[e];simp
 have e2:=dA e1
 have e3:=dA e2
 obtain⟨c1,c2,c3,c4⟩:=d1 e3
 have e5:=dA c4
 rw[h.2 s acc k i _ hk e1 (QdK.ws w1 (.inr (.inr (.inr (.inl hc))))),if_neg (by simp)]
 rw[Vh,Y1 g1 _ _ e2 w1 (Qo6 hc),if_pos c1,if_pos (by rw[c2];exact hc),Y1 g2 _ _ c4 w2 h'.1.stop,h'.2 s acc k _ r hk e5 hr,c3]
 have hp:1<=u.length:=zw.2 h'.1.1
 by_cases hq:p=true/\acc=false
 rw[if_pos hq,if_pos hq]
 rw[if_neg hq,if_neg hq]
 simp only
 rw[if_pos (by omega)]
 congr 1
 simp;omega
theorem Zt.desc {d:Nat} {x y:CSel} {p:Bool} {t g u:Bs} (h:Zt d x false t) (w:WsL g) (hg:g≠[]) (h':Zl d y p u):Zt d (.combined x 32 y) p (t++(g++u)):=by
 refine⟨h.1.app,fun s acc k i r hk e hr=>?_⟩
 have e1:s.drop i=t++(g++(u++r)):=by rw[e];simp
 have e2:=dA e1
 have e3:=dA e2
 have hb:=bhd e3
 rw[VQ h'.1.1]at hb
 have hgl:1<=g.length:=zw.2 hg
 have hws:QdK (g++(u++r)):=by
  match g,w,hg with
  | c::g,w,_=>exact .inr (.inr (.inr (.inr (w c (by simp)))))
 rw[h.2 s acc k i _ hk e1 hws,if_neg (by simp)]
 rw[Vh,Y1 g _ _ e2 w h'.1.stop,if_pos (lhd e3 (by simp[h'.1.1])),hb,if_neg (by rw[h'.1.2.2.2.1];exact zo),
  if_neg (by rintro (q | q | q);exact h'.1.2.2.2.2.1 q;exact h'.1.2.2.2.2.2 q;omega),h'.2 s acc k _ r hk e3 hr]
 have hp:1<=u.length:=zw.2 h'.1.1
 by_cases hq:p=true/\acc=false
 rw[if_pos hq,if_pos hq]
 rw[if_neg hq,if_neg hq]
 simp only
 rw[if_pos (by omega)]
 congr 1
 simp;omega
def Qsy (r:Bs):Prop:=r=[]\/hd r=44\/hd r=41
theorem Qsy.s {r:Bs} (h:Qsy r):QdK r/\Ys r:=by
 rcases h with h | h | h
 subst h;exact⟨.inl rfl,by decide,by decide⟩
 exact⟨.inr (.inl h),by unfold Ys;rw[h];decide⟩
 exact⟨.inr (.inr (.inl h)),by unfold Ys;rw[h];decide⟩
theorem QtI (G:Nat->Option (List CSel×Nat)) (s:Bs) (acc:Bool) (i:Nat):Zj G s acc i=(YD G s acc (iWs s i)).bind fun y=>Vh G s acc y.1 y.2:=by
 unfold Zj
 cases YD G s acc (iWs s i)<;>rfl
def SlS (d:Nat) (x:CSel) (p:Bool) (t:Bs):Prop:=t≠[]/\∀(s:Bs) (acc:Bool) (k i:Nat) (r:Bs),d<=k->s.drop i=t++r->Qsy r ->
 Zj (QD s acc k) s acc i=if p=true/\acc=false then none else some (x,i+t.length)
theorem selGo_end {G:Nat->Option (List CSel×Nat)} {s:Bs} {acc:Bool} {j:Nat} {x:CSel} {g r:Bs} (e:s.drop j=g++r) (hg:WsL g) (h:Qsy r):Vh G s acc x j=some (x,j+g.length):=by
 have q:=Y1 g j r e hg h.s.2
 have e2:=dA e
 have hb:=bhd e2
 rw[Vh,q]
 split
 rename_i hl
 rw[hb]
 rcases h with h | h | h
 subst h;have:=nhd e2;omega
 rw[h,if_neg (by decide),if_pos (.inl rfl)]
 rw[h,if_neg (by decide),if_pos (.inr (.inl rfl))]
 rfl
theorem SlS.mk {d:Nat} {x:CSel} {p:Bool} {t g1 g2:Bs} (w1:WsL g1) (h:Zt d x p t) (w2:WsL g2):SlS d x p (g1++(t++g2)):=by
 refine⟨by simp[h.1.1],fun s acc k i r hk e hr=>?_⟩
 have e1:s.drop i=g1++(t++(g2++r)):=by rw[e];simp
 have e2:=dA e1
 rw[QtI,Y1 g1 i _ e1 w1 h.1.stop,h.2 s acc k _ _ hk e2 (QdK.ws w2 hr.s.1)]
 by_cases hq:p=true/\acc=false
 rw[if_pos hq,if_pos hq]
 rw[if_neg hq,if_neg hq,selGo_end (dA e2) w2 hr]
 simp;omega
def QaA (d:Nat) (l:List CSel) (p:Bool) (t:Bs):Prop:=(t=[]/\l=[]/\p=false\/hd t=44/\l≠[])/\∀(s:Bs) (acc:Bool) (k j:Nat) (r:Bs) (l0:List CSel),d<=k->s.drop j=t++r->(r=[]\/hd r=41) ->
 V5 (QD s acc k) s acc l0 j=if p=true/\acc=false then none else some (l0++l,j+t.length)
theorem QaA.nil (d:Nat):QaA d [] false []:=by
 refine⟨.inl ⟨rfl,rfl,rfl⟩,fun s acc k j r l0 _ e hr=>?_⟩
 have e':s.drop j=r:=e
 rw[V5,if_neg,if_neg (by simp)]
 simp
 rintro⟨h1,h2⟩
 rcases hr with hr | hr
 subst hr;have:=nhd e';omega
 rw[bhd e',hr]at h2;cases h2
theorem Qiy {d:Nat} {l:List CSel} {p:Bool} {t r:Bs} (h:QaA d l p t) (hr:r=[]\/hd r=41):Qsy (t++r):=by
 rcases h.1 with ⟨q,_⟩ | ⟨q,_⟩
 subst q;exact hr.elim .inl fun q=>.inr (.inr q)
 exact .inr (.inl (by rw[VQ (Qki (by omega))];exact q))
theorem QqF {α:Type} {p q acc:Bool} {a:α} {b:Option α}:(if p=true/\acc=false then none else if q=true/\acc=false then none else b)=(if (p||q)=true/\acc=false then none else b):=by
 cases p<;>cases q<;>cases acc<;>rfl
theorem QaA.cons {d:Nat} {x:CSel} {p q:Bool} {t u:Bs} {l:List CSel} (h:SlS d x p t) (h':QaA d l q u):QaA d (x::l) (p||q) (44::(t++u)):=by
 refine⟨.inr ⟨rfl,by simp⟩,fun s acc k j r l0 hk e hr=>?_⟩
 have e1:s.drop j=44::(t++(u++r)):=by rw[e];simp
 obtain⟨h1,h2,h3,h4⟩:=d1 e1
 have hp:1<=t.length:=zw.2 h.1
 rw[V5,if_pos ⟨h1,h2⟩,h.2 s acc k _ _ hk h4 (Qiy h' hr),<-QqF (a:=(l0++x::l,j))]
 by_cases hq:p=true/\acc=false
 rw[if_pos hq,if_pos hq]
 rw[if_neg hq,if_neg hq]
 simp only
 rw[if_pos (by omega),h'.2 s acc k _ r _ hk (dA h4) hr]
 simp[Nat.add_assoc,Nat.add_comm,Nat.add_left_comm]
def Qee (d:Nat) (l:List CSel) (p:Bool) (t:Bs):Prop:=t≠[]/\∀(s:Bs) (acc:Bool) (k i:Nat) (r:Bs),d<=k->s.drop i=t++r->(r=[]\/hd r=41) ->
 QD s acc (k+1) i=if p=true/\acc=false then none else some (l,i+t.length)
theorem Qee.mk {d:Nat} {x:CSel} {p q:Bool} {t u:Bs} {l:List CSel} (h:SlS d x p t) (h':QaA d l q u):Qee d (x::l) (p||q) (t++u):=by
 refine⟨by simp[h.1],fun s acc k i r hk e hr=>?_⟩
 rw[zq]at e
 rw[QD,h.2 s acc k i _ hk e (Qiy h' hr),<-QqF (a:=(x::l,i))]
 by_cases hq:p=true/\acc=false
 rw[if_pos hq,if_pos hq]
 rw[if_neg hq,if_neg hq]
 simp only
 rw[h'.2 s acc k _ r _ hk (dA e) hr]
 simp[Nat.add_assoc]
theorem Vt.rel {d:Nat} {v n t g1 u:Bs} {l:List CSel} (h:IdW v t) (hv:low v=n) (hn:n=Zy\/n=Zz\/n=nHasChild) (w1:WsL g1) (hu:Qee d l false u) (hh:Ys u) :
 Vt (d+1) (.rel n l) (58::(t++(40::(g1++(u++[41]))))):=by
 refine⟨show Qx 58=true by decide,fun s acc k i r hk e hs=>?_⟩
 have e1:s.drop i=58::(t++(40::(g1++(u++(41::r))))):=by rw[e];simp
 have e2:s.drop (i+(t.length+1))=40::(g1++(u++(41::r))):=by
  have:=dA (d1 e1).2.2.2;rw[<-this];congr 1;omega
 have e3:=dA (d1 e2).2.2.2
 have e4:=dA e3
 have hsw:Ys (u++(41::r)):=by unfold Ys;rw[VQ hu.1];exact hh
 obtain⟨k',rfl⟩:∃k',k=k'+1:=⟨k-1,by omega⟩
 rw[Jn (d1 e).2.1,Qft h e1 Qhx,hv]
 unfold V4
 rw[if_pos hn]
 unfold Zw
 rw[QcO e2 w1 hsw]
 simp only
 rw[hu.2 s acc k' _ _ (by omega) e3 (.inr rfl),if_neg (by simp)]
 simp only
 rw[U4 (g:=[]) e4 .nil]
 simp;omega
theorem Qb6 {d:Nat} {l:List CSel} {p:Bool} {t:Bs} (h:Qee d l p t) (hd:d<=1000) (acc:Bool):QU t true acc=if p=true/\acc=false then none else some l:=by
 unfold QU
 rw[if_pos rfl,h.2 t acc 1000 0 [] hd (by simp) (.inl rfl)]
 by_cases hq:p=true/\acc=false
 rw[if_pos hq,if_pos hq]
 rw[if_neg hq,if_neg hq]
 simp
theorem QgM {d:Nat} {x:CSel} {p q:Bool} {t u:Bs} {l:List CSel} (h:SlS d x p t) (h':QaA d l q u) (hd:d<=1001) (acc:Bool) :
 QU (t++u) false acc=if (p||q)=true/\acc=false then none else if l=[] then some [x] else none:=by
 unfold QU
 rw[if_neg (by decide),h.2 (t++u) acc 1001 0 u hd (by simp) (by have:=Qiy h' (r:=[]) (.inl rfl);simpa using this)]
 rcases h'.1 with ⟨h1,h2,h3⟩ | ⟨h1,h2⟩
 subst h1 h2 h3
 cases p<;>cases acc<;>simp
 have hu:u≠[]:=Qki (by omega)
 have hul:1<=u.length:=zw.2 hu
 by_cases hq:p=true/\acc=false
 rw[if_pos hq,if_neg h2]
 simp
 rw[if_neg hq,if_neg h2]
 simp only
 rw[if_pos (by simp;omega)]
 simp
end Way
end
end Go.Proofs.YtengepcafdnalaaGreatDoor
