/-
  Parts of the proof that the law FnPrintBack holds for every input (texts Wb, Wc). Conditions: none.
-/
import Derived.Test.YtengepcafdnalaaGreatDoorM31
namespace Go.Proofs.YtengepcafdnalaaGreatDoor
open _root_.Bool renaming or_eq_true → zx, false_ne_true → zq
open _root_.List renaming mem_cons → zu, not_mem_nil → zJ, length_pos_iff → zN, length_cons → zj, length_nil → zo, append_assoc → zw
open _root_.Nat renaming add_assoc → xe
section
namespace Way
set_option maxRecDepth 20000
theorem JG {r:Bs} {n:Nat} (h:hd r=n) (h1:Qr n=false) (h2:n≠92):Y9 r:=by subst h;exact⟨h1,h2⟩
theorem JF {g r:Bs} (hg:WsL g) (hr:Y9 r):Y9 (g++r):=by
 match g,hg with
 | [],_=>exact hr
 | c::g,hg=>
  have h:=hg c (by simp)
  simp only[VO,zx,decide_eq_true_eq]at h
  refine JG (n:=c.toNat) rfl ?_ (by omega)
  rcases h with ((((h | h) | h) | h) | h)<;>rw[h]<;>decide
theorem Qei {v t r:Bs} (h:IdW v t):Yg (t++r):=by
 obtain⟨h1,_,h3⟩:=h.head
 have h4:=QcQ h3
 unfold Yg
 rw[Vm h1]
 exact⟨h4.2.2.2.1,h4.2.2.2.2.1⟩
theorem Jt {c:UInt8} {r:Bs} (h1:VO c.toNat=false) (h2:c.toNat≠47):Yg (c::r):=⟨h1,h2⟩
section
variable {s:Bs}
theorem Qrn {v t g1 g2:Bs} (h:IdW v t) (w1:WsL g1) (w2:WsL g2) {i:Nat} {r:Bs} (e:s.drop i=91::(g1++(t++(g2++(93::r))))) :
 VF s i=some (.attr (low v) [] [] false,i+(g1.length+t.length+g2.length+2)):=by
 obtain⟨_,_,_,e1⟩:=d1 e
 have q1:=Ym g1 (i+1) _ e1 w1 (Qei h)
 have e2:=dA e1
 have q2:=Zj h e2 (JF w2 (JG (n:=93) rfl (by decide) (by decide)))
 have e3:=dA e2
 have q3:=Ym g2 _ _ e3 w2 (Jt (by decide) (by decide))
 obtain⟨k1,k2,k3,k4⟩:=d1 (dA e3)
 unfold VF
 rw[q1,q2]
 simp only
 rw[q3,if_pos k1,if_pos (show _=93 from k2)]
 simp;omega
theorem Qj3 {op:Bs} (h:op∈attrSigns):op=[61]\/∃c:UInt8,op=[c,61]/\c.toNat≠61/\c.toNat≠93/\Qr c.toNat=false/\c.toNat≠92/\VO c.toNat=false/\c.toNat≠47:=by
 simp only[attrSigns,zu,zJ,or_false]at h
 rcases h with h | h | h | h | h | h | h
 . exact .inl h
 all_goals (refine .inr ⟨_,h,?_⟩;decide)
def Quo (ign:Bool) (f:Bs):Prop:=(ign=false/\f=[])\/(ign=true/\(f=[105]\/f=[73]))
theorem Qrl {v t g1 g2 op g3 val vt g4 f g5:Bs} {ign:Bool} (h:IdW v t) (w1:WsL g1) (w2:WsL g2) (ho:op∈attrSigns) (w3:WsL g3) (hv:Qlt val vt) (w4:WsL g4)
 (hf:Quo ign f) (hz:f=[]\/g4≠[]\/∃u,vt=u++[34]\/vt=u++[39]) (w5:WsL g5) {i:Nat} {r:Bs} (hn:Y9 (g4++(f++(g5++(93::r))))\/¬IdW val vt)
 (e:s.drop i=91::(g1++(t++(g2++(op++(g3++(vt++(g4++(f++(g5++(93::r))))))))))) :
 VF s i=some (.attr (low v) val op ign,i+(g1.length+t.length+g2.length+op.length+g3.length+vt.length+g4.length+f.length+g5.length+2)):=by
 obtain⟨_,_,_,e1⟩:=d1 e
 have q1:=Ym g1 (i+1) _ e1 w1 (Qei h)
 have e2:=dA e1
 have hop:=Qj3 ho
 have hsn:Y9 (op++(g3++(vt++(g4++(f++(g5++(93::r))))))):=by
  rcases hop with rfl | ⟨c,rfl,k1,k2,k3,k4,k5,k6⟩
  exact JG (n:=61) rfl (by decide) (by decide)
  exact⟨k3,k4⟩
 have q2:=Zj h e2 (JF w2 hsn)
 have e3:=dA e2
 have hsw:Yg (op++(g3++(vt++(g4++(f++(g5++(93::r))))))):=by
  rcases hop with rfl | ⟨c,rfl,k1,k2,k3,k4,k5,k6⟩
  exact Jt (by decide) (by decide)
  exact Jt k5 k6
 have q3:=Ym g2 _ _ e3 w2 hsw
 have e4:=dA e3
 have e5:=dA e4
 have hve:=hv.ne
 have q5:=Ym g3 _ _ e5 w3 (by unfold Yg;rw[Vm hve.1];exact hve.2)
 have e6:=dA e5
 have q6:(if bat s (i+1+g1.length+t.length+g2.length+op.length+g3.length)=39\/bat s (i+1+g1.length+t.length+g2.length+op.length+g3.length)=34 then ZB s (i+1+g1.length+t.length+g2.length+op.length+g3.length)
  else Qx s (i+1+g1.length+t.length+g2.length+op.length+g3.length))=some (val,i+1+g1.length+t.length+g2.length+op.length+g3.length+vt.length):=by
  rcases hn with hn | hn
  . exact QoC hv e6 hn
  rcases hv with hv | ⟨q,u,hq,hu,hvt⟩
  . exact absurd hv hn
  subst hvt
  have e':s.drop (i+1+g1.length+t.length+g2.length+op.length+g3.length)=q::(u++(q::(g4++(f++(g5++(93::r)))))):=by rw[e6];simp
  have hb:=(d1 e').2.1
  rw[hb,if_pos (by rcases hq with rfl | rfl<;>decide),Qmg (by rcases hq with rfl | rfl<;>decide) hu e']
  simp
 have e7:=dA e6
 have hfw:Yg (f++(g5++(93::r)))\/f=[]:=by
  rcases hf with ⟨_,hf⟩ | ⟨_,hf | hf⟩
  exact .inr hf
  subst hf;exact .inl (Jt (by decide) (by decide))
  subst hf;exact .inl (Jt (by decide) (by decide))
 obtain⟨z1,z2,z3,z4⟩:=d1 (dA (dA (dA e7)))
 have hm:i+1+g1.length+t.length+g2.length<s.length:=lhd e4 (by rcases hop with rfl | ⟨c,rfl,_⟩<;>simp)
 unfold VF
 rw[q1,q2]
 simp only
 rw[q3,if_pos hm]
 have b0:bat s (i+1+g1.length+t.length+g2.length)=hd op:=by rw[bhd e4,Vm (by rcases hop with rfl | ⟨c,rfl,_⟩<;>simp)]
 have hvl:1<=vt.length:=zN.2 hve.1
 have key:VF.iAttrV s (low v) op (i+1+g1.length+t.length+g2.length+op.length+g3.length)=some (.attr (low v) val op ign,i+(g1.length+t.length+g2.length+op.length+g3.length+vt.length+g4.length+f.length+g5.length+2)):=by
  unfold VF.iAttrV
  rw[if_pos (lhd e6 (by simp[hve.1])),q6]
  simp only
  rcases hf with ⟨rfl,rfl⟩ | ⟨rfl,hf⟩
  have e8:s.drop (i+1+g1.length+t.length+g2.length+op.length+g3.length+vt.length)=(g4++g5)++(93::r):=by rw[e7];simp
  have w45:WsL (g4++g5):=fun c hc=>(List.mem_append.1 hc).elim (w4 c) (w5 c)
  have q8:=Ym _ _ _ e8 w45 (Jt (by decide) (by decide))
  have e9:=dA e8
  obtain⟨y1,y2,y3,y4⟩:=d1 e9
  have q9:=iWs_0 e9 (Jt (by decide) (by decide))
  rw[q8,if_pos y1,y2,if_neg (by decide),q9]
  unfold VF.iAttrE
  rw[if_pos ⟨y1,y2,ho⟩]
  simp;omega
  have hfl:f≠[]:=by rcases hf with rfl | rfl<;>simp
  have hfb:hd f=105\/hd f=73:=by rcases hf with rfl | rfl<;>decide
  have hf1:f.length=1:=by rcases hf with rfl | rfl<;>rfl
  have hsf:Yg (f++(g5++(93::r))):=hfw.resolve_right hfl
  have q8:=Ym g4 _ _ e7 w4 hsf
  have e8:=dA e7
  have e9:=dA e8
  have hb:=bhd e8
  rw[Vm hfl]at hb
  have q9:=Ym g5 _ _ e9 w5 (Jt (by decide) (by decide))
  rw[q8,if_pos (lhd e8 (by simp[hfl])),hb,if_pos hfb,decide_eq_true hfb]
  rw[hf1]at q9
  rw[q9]
  rw[hf1]at z1 z2
  unfold VF.iAttrE
  rw[if_pos ⟨z1,z2,ho⟩,hf1]
  simp;omega
 rcases hop with rfl | ⟨c,rfl,k1,k2,k3,k4,k5,k6⟩
 have b1:bat s (i+1+g1.length+t.length+g2.length)=61:=b0
 rw[b1,if_neg (by decide),if_pos ⟨by simp only[zj,zo]at z1;omega,.inl rfl⟩,if_pos rfl,if_pos rfl]
 simp only[zj,zo]at q5 key ⊢
 rw[q5]
 exact key
 have b1:bat s (i+1+g1.length+t.length+g2.length)=c.toNat:=b0
 obtain⟨x1,x2,x3,x4⟩:=d1 e4
 obtain⟨y1,y2,y3,y4⟩:=d1 x4
 rw[b1,if_neg k2,if_pos ⟨by simp only[zj,zo]at z1;omega,.inr y2⟩,if_neg k1,if_neg k1,x3,y3]
 simp only[zj,zo]at q5 key ⊢
 rw[q5]
 exact key
theorem QgM:∀(ds:Bs) (i:Nat) (r:Bs),s.drop i=ds++r->(∀c∈ds,Qu c.toNat=true)->Qu (hd r)=false->QO s i=i+ds.length
 | [],i,r,e,_,hr=>by
  rw[QO,if_neg]
  rfl
  rintro⟨_,q⟩
  rw[bhd e]at q
  simp only[List.nil_append]at q
  rw[hr]at q;cases q
 | c::ds,i,r,e,h,hr=>by
  obtain⟨h1,h2,h3,h4⟩:=d1 e
  rw[QO,if_pos ⟨h1,by rw[h2];exact h c (by simp)⟩,QgM ds (i+1) r h4 (fun c hc=>h c (by simp[hc])) hr]
  simp;omega
def Qoy (n:Nat) (ds:Bs):Prop:=ds≠[]/\(∀c∈ds,Qu c.toNat=true)/\YO ds=n/\n<=9223372036854775807
theorem Qmk {n:Nat} {ds:Bs} (h:Qoy n ds) {i:Nat} {r:Bs} (e:s.drop i=ds++r) (hr:Qu (hd r)=false):Qa6 s i=some ((n:Int),i+ds.length):=by
 obtain⟨h1,h2,h3,h4⟩:=h
 have h5:1<=ds.length:=zN.2 h1
 unfold Qa6
 rw[QgM ds i r e h2 hr,if_neg (by omega),Quk e,h3,if_pos h4]
end
def NthW (a b:Int) (t:Bs):Prop:=t≠[]/\VO (hd t)=false/\hd t≠47/\∀(s:Bs) (i:Nat) (g r:Bs),s.drop i=t++(g++(41::r))->WsL g->∃j,Yc s i=some (a,b,j)/\(j=i+t.length\/j=i+t.length+g.length)
theorem ws_or {g r:Bs} (w:WsL g):VO (hd (g++(41::r)))=true\/hd (g++(41::r))=41:=by
 match g,w with
 | [],_=>exact .inr rfl
 | c::g,w=>exact .inl (w c (by simp))
def YJ (d:Nat) (x:CSel) (t:Bs):Prop:=Qv (hd t)=true/\∀(s:Bs) (acc:Bool) (k i:Nat) (r:Bs),d<=k->s.drop i=t++r->Y9 r->Vd (Qw s acc k) s i=some (some x,[],i+t.length)
theorem UB {t:Bs} (h:Qv (hd t)=true):t≠[]:=Qjt (by simp[Qv]at h;omega)
theorem QbS {t r:Bs} (h:Qv (hd t)=true):Y9 (t++r):=by
 unfold Y9
 rw[Vm (UB h)]
 simp only[Qv,zx,decide_eq_true_eq]at h
 rcases h with ((h | h) | h) | h<;>rw[h]<;>decide
theorem YJ.mono {d d':Nat} {x:CSel} {t:Bs} (h:YJ d x t) (hd:d<=d'):YJ d' x t:=⟨h.1,fun s acc k i r hk=>h.2 s acc k i r (by omega)⟩
theorem YJ.idn {v t:Bs} (h:NmW v t) (ht:t≠[]):YJ 0 (.idn v) (35::t):=by
 refine⟨show Qv 35=true by decide,fun s acc k i r _ e hs=>?_⟩
 obtain⟨h1,h2,h3,h4⟩:=d1 e
 unfold Vd
 rw[h2,if_pos (by decide),Qjl h ht h4 hs]
 simp;omega
theorem YJ.cls {v t:Bs} (h:IdW v t):YJ 0 (.cls v) (46::t):=by
 refine⟨show Qv 46=true by decide,fun s acc k i r _ e hs=>?_⟩
 obtain⟨h1,h2,h3,h4⟩:=d1 e
 unfold Vd
 rw[h2,if_neg (by decide),if_pos (by decide),Zj h h4 hs]
 simp;omega
theorem YJ.attr0 {v t g1 g2:Bs} (h:IdW v t) (w1:WsL g1) (w2:WsL g2):YJ 0 (.attr (low v) [] [] false) (91::(g1++(t++(g2++[93])))):=by
 refine⟨show Qv 91=true by decide,fun s acc k i r _ e hs=>?_⟩
 have e':s.drop i=91::(g1++(t++(g2++(93::r)))):=by rw[e];simp
 unfold Vd
 rw[(d1 e).2.1,if_neg (by decide),if_neg (by decide),if_pos (by decide),Qrn h w1 w2 e']
 simp;omega
theorem YJ.attr1 {v t g1 g2 op g3 val vt g4 f g5:Bs} {ign:Bool} (h:IdW v t) (w1:WsL g1) (w2:WsL g2) (ho:op∈attrSigns) (w3:WsL g3) (hv:Qlt val vt) (w4:WsL g4)
 (hf:Quo ign f) (hz:f=[]\/g4≠[]) (w5:WsL g5):YJ 0 (.attr (low v) val op ign) (91::(g1++(t++(g2++(op++(g3++(vt++(g4++(f++(g5++[93])))))))))):=by
 refine⟨show Qv 91=true by decide,fun s acc k i r _ e hs=>?_⟩
 have e':s.drop i=91::(g1++(t++(g2++(op++(g3++(vt++(g4++(f++(g5++(93::r)))))))))):=by rw[e];simp
 have hn:Y9 (g4++(f++(g5++(93::r)))):=by
  have h93:Y9 (g5++(93::r)):=JF w5 (JG (n:=93) rfl (by decide) (by decide))
  rcases hz with rfl | hz
  exact JF w4 h93
  match g4,w4,hz with
  | c::g,w4,_=>
   have q:=JF (g:=[c]) (r:=[93]) (fun x hx=>w4 x (by simp at hx;simp[hx])) (JG (n:=93) rfl (by decide) (by decide))
   exact q
 unfold Vd
 rw[(d1 e).2.1,if_neg (by decide),if_neg (by decide),if_pos (by decide),Qrl h w1 w2 ho w3 hv w4 hf (hz.elim .inl fun q=>.inr (.inl q)) w5 (.inl hn) e']
 simp;omega
section
variable {s:Bs}
theorem QcS {G:Nat->Option (List CSel×Nat)} {v t:Bs} (h:IdW v t) {i:Nat} {r:Bs} (e:s.drop i=58::(t++r)) (hs:Y9 r):iPs G s i=VX G s (low v) (i+(t.length+1)):=by
 obtain⟨h1,h2,h3,h4⟩:=d1 e
 obtain⟨k1,_,k3⟩:=h.head
 have k4:=QcQ k3
 have hb:=bhd h4
 rw[Vm k1]at hb
 unfold iPs
 rw[if_pos (lhd h4 (by simp[k1])),hb,if_neg k4.2.2.2.2.2.2.2.2,Zj h h4 hs]
 simp only
 rw[if_neg (fun q=>k4.2.2.2.2.2.2.2.2 q.1)]
 congr 1;omega
theorem Zw {G:Nat->Option (List CSel×Nat)} {i:Nat} (h:bat s i=58):Vd G s i=iPs G s i:=by
 unfold Vd
 rw[h,if_neg (by decide),if_neg (by decide),if_neg (by decide)]
end
theorem YJ.plain {v t:Bs} {x:CSel} (h:IdW v t) (hx:∀G s j,VX G s (low v) j=some (some x,[],j)):YJ 0 x (58::t):=by
 refine⟨show Qv 58=true by decide,fun s acc k i r _ e hs=>?_⟩
 rw[Zw (d1 e).2.1,QcS h e hs,hx]
 simp
theorem Qej {r:Bs}:Y9 (40::r):=JG (n:=40) rfl (by decide) (by decide)
theorem QoN {r:Bs}:Y9 (41::r):=JG (n:=41) rfl (by decide) (by decide)
section
variable {s:Bs}
theorem Qao {g:Bs} {i:Nat} {r:Bs} (e:s.drop i=40::(g++r)) (hg:WsL g) (hr:Yg r):Vu s i=some (i+1+g.length):=by
 obtain⟨h1,h2,h3,h4⟩:=d1 e
 unfold Vu
 rw[if_pos ⟨h1,h2⟩,Ym g _ r h4 hg hr]
theorem JC {g:Bs} {i:Nat} {r:Bs} (e:s.drop i=g++(41::r)) (hg:WsL g):QT s i=some (i+g.length+1):=by
 have q:=Ym g i (41::r) e hg (Jt (by decide) (by decide))
 obtain⟨h1,h2,h3,h4⟩:=d1 (dA e)
 unfold QT
 rw[q,if_pos ⟨h1,h2⟩]
end
theorem YJ.lang {v t w u g1 g2:Bs} (h:IdW v t) (hv:low v=Jc) (hu:IdW w u) (w1:WsL g1) (w2:WsL g2):YJ 0 (.lang (low w)) (58::(t++(40::(g1++(u++(g2++[41])))))):=by
 refine⟨show Qv 58=true by decide,fun s acc k i r _ e hs=>?_⟩
 have e1:s.drop i=58::(t++(40::(g1++(u++(g2++(41::r)))))):=by rw[e];simp
 have e2:s.drop (i+(t.length+1))=40::(g1++(u++(g2++(41::r)))):=by
  have:=dA (d1 e1).2.2.2;rw[<-this];congr 1;omega
 have e3:=dA (d1 e2).2.2.2
 have e4:=dA e3
 rw[Zw (d1 e).2.1,QcS h e1 Qej,hv]
 unfold VX
 rw[if_neg (by decide),if_neg (by decide),if_neg (by decide),if_pos rfl]
 unfold Zf
 rw[Qao e2 w1 (Qei hu)]
 simp only
 rw[if_pos (lhd e3 (by simp[hu.head.1])),Zj hu e3 (JF w2 QoN)]
 simp only
 rw[JC e4 w2]
 simp;omega
theorem YJ.contains {v t w u g1 g2:Bs} (own:Bool) (h:IdW v t) (hv:low v=if own=true then Vc else VV) (hu:Qlt w u) (w1:WsL g1) (w2:WsL g2) :
 YJ 0 (.contains (low w) own) (58::(t++(40::(g1++(u++(g2++[41])))))):=by
 refine⟨show Qv 58=true by decide,fun s acc k i r _ e hs=>?_⟩
 have e1:s.drop i=58::(t++(40::(g1++(u++(g2++(41::r)))))):=by rw[e];simp
 have e2:s.drop (i+(t.length+1))=40::(g1++(u++(g2++(41::r)))):=by
  have:=dA (d1 e1).2.2.2;rw[<-this];congr 1;omega
 have e3:=dA (d1 e2).2.2.2
 have e4:=dA e3
 have hue:=hu.ne
 have hsw:Yg (u++(g2++(41::r))):=by unfold Yg;rw[Vm hue.1];exact hue.2
 rw[Zw (d1 e).2.1,QcS h e1 Qej,hv]
 have hname:VX (Qw s acc k) s (if own=true then Vc else VV) (i+(t.length+1))=(YY s own (i+(t.length+1))).map fun p=>(some p.1,[],p.2):=by
  unfold VX
  cases own
  rw[if_neg (by decide),if_pos (by decide)];rfl
  rw[if_neg (by decide),if_pos (by decide)];rfl
 rw[hname]
 unfold YY
 rw[Qao e2 w1 hsw]
 simp only
 rw[if_pos (lhd e3 (by simp[hue.1])),QoC hu e3 (JF w2 QoN)]
 simp only
 rw[JC e4 w2]
 simp;omega
def Z7 (last ofType:Bool):Bs:=if last=true then (if ofType=true then QL else QM) else (if ofType=true then VK else VE)
theorem YJ.nth {v t u g1 g2:Bs} {a b:Int} (l ty:Bool) (h:IdW v t) (hv:low v=Z7 l ty) (hu:NthW a b u) (w1:WsL g1) (w2:WsL g2) :
 YJ 0 (.nth a b l ty) (58::(t++(40::(g1++(u++(g2++[41])))))):=by
 refine⟨show Qv 58=true by decide,fun s acc k i r _ e hs=>?_⟩
 have e1:s.drop i=58::(t++(40::(g1++(u++(g2++(41::r)))))):=by rw[e];simp
 have e2:s.drop (i+(t.length+1))=40::(g1++(u++(g2++(41::r)))):=by
  have:=dA (d1 e1).2.2.2;rw[<-this];congr 1;omega
 have e3:=dA (d1 e2).2.2.2
 have e4:=dA e3
 obtain⟨n1,n2,n3,n4⟩:=hu
 have hsw:Yg (u++(g2++(41::r))):=by unfold Yg;rw[Vm n1];exact⟨n2,n3⟩
 rw[Zw (d1 e).2.1,QcS h e1 Qej,hv]
 have hname:VX (Qw s acc k) s (Z7 l ty) (i+(t.length+1))=(YZ s l ty (i+(t.length+1))).map fun p=>(some p.1,[],p.2):=by
  unfold VX
  cases l<;>cases ty<;>rfl
 obtain⟨j,n5,n6⟩:=n4 s _ g2 r e3 w2
 rw[hname]
 unfold YZ
 rw[Qao e2 w1 hsw]
 simp only
 rw[n5]
 simp only
 rcases n6 with rfl | rfl
 rw[JC e4 w2]
 simp;omega
 rw[JC (g:=[]) (dA e4) .nil]
 simp;omega
def ElS (pe t:Bs):Prop:=Qv (hd t)=true/\pe≠[]/\∀(G:Nat->Option (List CSel×Nat)) (s:Bs) (i:Nat) (r:Bs),s.drop i=t++r->Y9 r->Vd G s i=some (none,pe,i+t.length)
theorem ElS.two {v t:Bs} (h:IdW v t) (hv:low v∈elNames) (hn:∀G s j,VX G s (low v) j=some (none,low v,j)) (hz:low v≠[]):ElS (low v) (58::58::t):=by
 refine⟨show Qv 58=true by decide,hz,fun G s i r e hs=>?_⟩
 obtain⟨h1,h2,h3,h4⟩:=d1 e
 obtain⟨k1,k2,k3,k4⟩:=d1 h4
 rw[Zw h2]
 unfold iPs
 rw[if_pos k1,k2,if_pos (by decide),Zj h k4 hs]
 simp only
 rw[if_neg (fun q=>q.2 hv),hn]
 simp;omega
def U8 (r:Bs):Prop:=r=[]\/hd r=44\/hd r=41\/Vf (hd r)=true\/VO (hd r)=true
theorem U8.no {r:Bs} (h:U8 r):Qv (hd r)=false/\Y9 r/\hd r≠124:=by
 rcases h with h | h | h | h | h
 subst h;exact⟨by decide,⟨by decide,by decide⟩,by decide⟩
 exact⟨by rw[h];decide,⟨by rw[h];decide,by omega⟩,by omega⟩
 exact⟨by rw[h];decide,⟨by rw[h];decide,by omega⟩,by omega⟩
 simp only[Vf,zx,decide_eq_true_eq]at h
 rcases h with (h | h) | h<;>exact⟨by rw[h];decide,⟨by rw[h];decide,by omega⟩,by omega⟩
 simp only[VO,zx,decide_eq_true_eq]at h
 rcases h with (((h | h) | h) | h) | h<;>exact⟨by rw[h];decide,⟨by rw[h];decide,by omega⟩,by omega⟩
def QbM (d:Nat) (l:List CSel) (pe t:Bs):Prop:=(t=[]\/Qv (hd t)=true)/\∀(s:Bs) (acc:Bool) (k i:Nat) (r:Bs) (l0:List CSel),d<=k->s.drop i=t++r->U8 r ->
 QS (Qw s acc k) s acc i l0 []=if pe≠[]/\acc=false then none else some (VT (l0++l) pe,i+t.length)
theorem QcD {G:Nat->Option (List CSel×Nat)} {s:Bs} {acc:Bool} {i:Nat} {l:List CSel} {pe r:Bs} (e:s.drop i=r) (h:U8 r):QS G s acc i l pe=some (VT l pe,i):=by
 rw[QS,if_neg]
 rintro⟨_,q⟩
 rw[bhd e,h.no.1]at q
 cases q
theorem QbM.nil (d:Nat):QbM d [] [] []:=by
 refine⟨.inl rfl,fun s acc k i r l0 _ e hr=>?_⟩
 rw[QcD e hr,if_neg (fun q=>q.1 rfl)]
 simp
theorem QbM.el {pe t:Bs} (d:Nat) (h:ElS pe t):QbM d [] pe t:=by
 refine⟨.inr h.1,fun s acc k i r l0 _ e hr=>?_⟩
 have hb:=bhd e
 rw[Vm (UB h.1)]at hb
 have hl:=lhd e (by simp[UB h.1])
 have hp:1<=t.length:=zN.2 (UB h.1)
 rw[QS,if_pos ⟨hl,by rw[hb];exact h.1⟩,h.2.2 _ s i r e hr.no.2.1]
 simp only
 rw[if_pos (by omega)]
 cases acc with
 | false=>rw[if_neg (by simp),if_pos ⟨h.2.1,rfl⟩]
 | true=>rw[if_pos (by simp),QcD (dA e) hr,if_neg (by simp)];simp
theorem QbM.cons {d:Nat} {x:CSel} {t:Bs} {l:List CSel} {pe u:Bs} (h:YJ d x t) (h':QbM d l pe u):QbM d (x::l) pe (t++u):=by
 have hne:=UB h.1
 refine⟨.inr (by rw[Vm hne];exact h.1),fun s acc k i r l0 hk e hr=>?_⟩
 rw[zw]at e
 have hb:=bhd e
 rw[Vm hne]at hb
 have hl:=lhd e (by simp[hne])
 have hp:1<=t.length:=zN.2 hne
 have hs:Y9 (u++r):=by
  rcases h'.1 with q | q
  subst q;exact hr.no.2.1
  exact QbS q
 rw[QS,if_pos ⟨hl,by rw[hb];exact h.1⟩,h.2 s acc k i _ hk e hs]
 simp only
 rw[if_pos (by omega),if_pos trivial,h'.2 s acc k _ r _ hk (dA e) hr]
 simp[xe]
def JX (t:Bs):Prop:=t≠[]/\VO (hd t)=false/\hd t≠47/\Vf (hd t)=false/\hd t≠44/\hd t≠41
theorem JX.app {t u:Bs} (h:JX t):JX (t++u):=by
 obtain⟨h1,h2⟩:=h
 refine⟨by simp[h1],?_⟩
 rw[Vm h1];exact h2
theorem JX.stop {t r:Bs} (h:JX t):Yg (t++r):=by
 unfold Yg;rw[Vm h.1];exact⟨h.2.1,h.2.2.1⟩
def Qdd (d:Nat) (x:CSel) (p:Bool) (t:Bs):Prop:=JX t/\∀(s:Bs) (acc:Bool) (k i:Nat) (r:Bs),d<=k->s.drop i=t++r->U8 r ->
 V8 (Qw s acc k) s acc i=if p=true/\acc=false then none else some (x,i+t.length)
theorem ifp {α:Type} {pe:Bs} {acc:Bool} (a b:α):(if pe≠[]/\acc=false then a else b)=(if (!decide (pe=[]))=true/\acc=false then a else b):=by
 by_cases h:pe=[]
 subst h;simp
 simp[h]
theorem Qdd.star {d:Nat} {l:List CSel} {pe u:Bs} (h:QbM d l pe u):Qdd d (VT l pe) (!decide (pe=[])) (42::u):=by
 refine⟨⟨by simp,show VO 42=false by decide,show 42≠47 by decide,show Vf 42=false by decide,show 42≠44 by decide,show 42≠41 by decide⟩,fun s acc k i r hk e hr=>?_⟩
 obtain⟨h1,h2,h3,h4⟩:=d1 (show s.drop i=42::(u++r) from e)
 have hb:=bhd h4
 have hb':bat s (i+1)≠124:=by
  rw[hb]
  rcases h.1 with q | q
  subst q;exact hr.no.2.2
  rw[Vm (UB q)]
  simp only[Qv,zx,decide_eq_true_eq]at q
  omega
 unfold V8
 rw[if_pos h1,h2,if_pos (by decide),if_neg (fun q=>hb' q.2.1),h.2 s acc k _ r [] hk h4 hr,<-ifp,show i+1+u.length=i+(42::u).length by simp;omega]
 rfl
theorem Qdd.bare {d:Nat} {l:List CSel} {pe u:Bs} (h:QbM d l pe u) (hu:u≠[]):Qdd d (VT l pe) (!decide (pe=[])) u:=by
 have hs:=h.1.resolve_left hu
 refine⟨⟨hu,?_⟩,fun s acc k i r hk e hr=>?_⟩
 simp only[Qv,zx,decide_eq_true_eq]at hs
 rcases hs with ((q | q) | q) | q<;>rw[q]<;>decide
 have hb:=bhd e
 rw[Vm hu]at hb
 unfold V8
 rw[if_pos (lhd e (by simp[hu])),if_neg (by rw[hb];intro q;rw[q]at hs;revert hs;decide),if_pos (by rw[hb];exact hs),h.2 s acc k i r [] hk e hr,<-ifp]
 simp
theorem Qdd.tag {d:Nat} {v t:Bs} {l:List CSel} {pe u:Bs} (ht:IdW v t) (h:QbM d l pe u):Qdd d (VT (.tag (low v)::l) pe) (!decide (pe=[])) (t++u):=by
 obtain⟨k1,_,k3⟩:=ht.head
 have k4:=QcQ k3
 refine⟨JX.app ⟨k1,k4.2.2.2.1,k4.2.2.2.2.1,k4.2.2.2.2.2.1,k4.2.2.2.2.2.2.1,k4.2.2.2.2.2.2.2.1⟩,fun s acc k i r hk e hr=>?_⟩
 rw[zw]at e
 have hb:=bhd e
 rw[Vm k1]at hb
 have hs:Y9 (u++r):=by
  rcases h.1 with q | q
  subst q;exact hr.no.2.1
  exact QbS q
 unfold V8
 rw[if_pos (lhd e (by simp[k1])),hb,if_neg k4.2.1,if_neg (by rw[k4.2.2.1];exact zq),Zj ht e hs]
 simp only
 rw[h.2 s acc k _ r _ hk (dA e) hr,<-ifp]
 simp[xe]
def QdH (d:Nat) (x:CSel) (p:Bool) (t:Bs):Prop:=JX t/\∀(s:Bs) (acc:Bool) (k i:Nat) (r:Bs),d<=k->s.drop i=t++r->U8 r ->
 ((V8 (Qw s acc k) s acc i).bind fun y=>Q6 (Qw s acc k) s acc y.1 y.2)=if p=true/\acc=false then none else Q6 (Qw s acc k) s acc x (i+t.length)
theorem QdH.one {d:Nat} {x:CSel} {p:Bool} {t:Bs} (h:Qdd d x p t):QdH d x p t:=by
 refine⟨h.1,fun s acc k i r hk e hr=>?_⟩
 rw[h.2 s acc k i r hk e hr]
 by_cases hq:p=true/\acc=false
 rw[if_pos hq,if_pos hq];rfl
 rw[if_neg hq,if_neg hq];rfl
theorem U8.ws {g r:Bs} (hg:WsL g) (hr:U8 r):U8 (g++r):=by
 match g,hg with
 | [],_=>exact hr
 | c::g,hg=>exact .inr (.inr (.inr (.inr (hg c (by simp)))))
theorem QgO {c:UInt8} {r:Bs} (h:Vf c.toNat=true):Yg (c::r):=by
 simp only[Vf,zx,decide_eq_true_eq]at h
 unfold Yg
 rcases h with (h | h) | h<;>(show VO c.toNat=false/\c.toNat≠47)<;>rw[h]<;>decide
theorem QdH.comb {d:Nat} {x y:CSel} {p:Bool} {t g1 g2 u:Bs} {c:UInt8} (h:QdH d x false t) (w1:WsL g1) (hc:Vf c.toNat=true) (w2:WsL g2) (h':Qdd d y p u) :
 QdH d (.combined x c y) p (t++(g1++(c::(g2++u)))):=by
 refine⟨h.1.app,fun s acc k i r hk e hr=>?_⟩
 have e1:s.drop i=t++(g1++(c::(g2++(u++r)))):=by rw[e];simp
 have e2:=dA e1
 have e3:=dA e2
 obtain⟨c1,c2,c3,c4⟩:=d1 e3
 have e5:=dA c4
 rw[h.2 s acc k i _ hk e1 (U8.ws w1 (.inr (.inr (.inr (.inl hc))))),if_neg (by simp)]
 rw[Q6,Ym g1 _ _ e2 w1 (QgO hc),if_pos c1,if_pos (by rw[c2];exact hc),Ym g2 _ _ c4 w2 h'.1.stop,h'.2 s acc k _ r hk e5 hr,c3]
 have hp:1<=u.length:=zN.2 h'.1.1
 by_cases hq:p=true/\acc=false
 rw[if_pos hq,if_pos hq]
 rw[if_neg hq,if_neg hq]
 simp only
 rw[if_pos (by omega)]
 congr 1
 simp;omega
theorem QdH.desc {d:Nat} {x y:CSel} {p:Bool} {t g u:Bs} (h:QdH d x false t) (w:WsL g) (hg:g≠[]) (h':Qdd d y p u):QdH d (.combined x 32 y) p (t++(g++u)):=by
 refine⟨h.1.app,fun s acc k i r hk e hr=>?_⟩
 have e1:s.drop i=t++(g++(u++r)):=by rw[e];simp
 have e2:=dA e1
 have e3:=dA e2
 have hb:=bhd e3
 rw[Vm h'.1.1]at hb
 have hgl:1<=g.length:=zN.2 hg
 have hws:U8 (g++(u++r)):=by
  match g,w,hg with
  | c::g,w,_=>exact .inr (.inr (.inr (.inr (w c (by simp)))))
 rw[h.2 s acc k i _ hk e1 hws,if_neg (by simp)]
 rw[Q6,Ym g _ _ e2 w h'.1.stop,if_pos (lhd e3 (by simp[h'.1.1])),hb,if_neg (by rw[h'.1.2.2.2.1];exact zq),
  if_neg (by rintro (q | q | q);exact h'.1.2.2.2.2.1 q;exact h'.1.2.2.2.2.2 q;omega),h'.2 s acc k _ r hk e3 hr]
 have hp:1<=u.length:=zN.2 h'.1.1
 by_cases hq:p=true/\acc=false
 rw[if_pos hq,if_pos hq]
 rw[if_neg hq,if_neg hq]
 simp only
 rw[if_pos (by omega)]
 congr 1
 simp;omega
def Qlv (r:Bs):Prop:=r=[]\/hd r=44\/hd r=41
theorem Qlv.s {r:Bs} (h:Qlv r):U8 r/\Yg r:=by
 rcases h with h | h | h
 subst h;exact⟨.inl rfl,by decide,by decide⟩
 exact⟨.inr (.inl h),by unfold Yg;rw[h];decide⟩
 exact⟨.inr (.inr (.inl h)),by unfold Yg;rw[h];decide⟩
theorem Qmh (G:Nat->Option (List CSel×Nat)) (s:Bs) (acc:Bool) (i:Nat):YX G s acc i=(V8 G s acc (iWs s i)).bind fun y=>Q6 G s acc y.1 y.2:=by
 unfold YX
 cases V8 G s acc (iWs s i)<;>rfl
def SlS (d:Nat) (x:CSel) (p:Bool) (t:Bs):Prop:=t≠[]/\∀(s:Bs) (acc:Bool) (k i:Nat) (r:Bs),d<=k->s.drop i=t++r->Qlv r ->
 YX (Qw s acc k) s acc i=if p=true/\acc=false then none else some (x,i+t.length)
theorem selGo_end {G:Nat->Option (List CSel×Nat)} {s:Bs} {acc:Bool} {j:Nat} {x:CSel} {g r:Bs} (e:s.drop j=g++r) (hg:WsL g) (h:Qlv r):Q6 G s acc x j=some (x,j+g.length):=by
 have q:=Ym g j r e hg h.s.2
 have e2:=dA e
 have hb:=bhd e2
 rw[Q6,q]
 split
 rename_i hl
 rw[hb]
 rcases h with h | h | h
 subst h;have:=nhd e2;omega
 rw[h,if_neg (by decide),if_pos (.inl rfl)]
 rw[h,if_neg (by decide),if_pos (.inr (.inl rfl))]
 rfl
theorem SlS.mk {d:Nat} {x:CSel} {p:Bool} {t g1 g2:Bs} (w1:WsL g1) (h:QdH d x p t) (w2:WsL g2):SlS d x p (g1++(t++g2)):=by
 refine⟨by simp[h.1.1],fun s acc k i r hk e hr=>?_⟩
 have e1:s.drop i=g1++(t++(g2++r)):=by rw[e];simp
 have e2:=dA e1
 rw[Qmh,Ym g1 i _ e1 w1 h.1.stop,h.2 s acc k _ _ hk e2 (U8.ws w2 hr.s.1)]
 by_cases hq:p=true/\acc=false
 rw[if_pos hq,if_pos hq]
 rw[if_neg hq,if_neg hq,selGo_end (dA e2) w2 hr]
 simp;omega
def QfB (d:Nat) (l:List CSel) (p:Bool) (t:Bs):Prop:=(t=[]/\l=[]/\p=false\/hd t=44/\l≠[])/\∀(s:Bs) (acc:Bool) (k j:Nat) (r:Bs) (l0:List CSel),d<=k->s.drop j=t++r->(r=[]\/hd r=41) ->
 VM (Qw s acc k) s acc l0 j=if p=true/\acc=false then none else some (l0++l,j+t.length)
theorem QfB.nil (d:Nat):QfB d [] false []:=by
 refine⟨.inl ⟨rfl,rfl,rfl⟩,fun s acc k j r l0 _ e hr=>?_⟩
 have e':s.drop j=r:=e
 rw[VM,if_neg,if_neg (by simp)]
 simp
 rintro⟨h1,h2⟩
 rcases hr with hr | hr
 subst hr;have:=nhd e';omega
 rw[bhd e',hr]at h2;cases h2
theorem QmG {d:Nat} {l:List CSel} {p:Bool} {t r:Bs} (h:QfB d l p t) (hr:r=[]\/hd r=41):Qlv (t++r):=by
 rcases h.1 with ⟨q,_⟩ | ⟨q,_⟩
 subst q;exact hr.elim .inl fun q=>.inr (.inr q)
 exact .inr (.inl (by rw[Vm (Qjt (by omega))];exact q))
theorem QpT {α:Type} {p q acc:Bool} {a:α} {b:Option α}:(if p=true/\acc=false then none else if q=true/\acc=false then none else b)=(if (p||q)=true/\acc=false then none else b):=by
 cases p<;>cases q<;>cases acc<;>rfl
theorem QfB.cons {d:Nat} {x:CSel} {p q:Bool} {t u:Bs} {l:List CSel} (h:SlS d x p t) (h':QfB d l q u):QfB d (x::l) (p||q) (44::(t++u)):=by
 refine⟨.inr ⟨rfl,by simp⟩,fun s acc k j r l0 hk e hr=>?_⟩
 have e1:s.drop j=44::(t++(u++r)):=by rw[e];simp
 obtain⟨h1,h2,h3,h4⟩:=d1 e1
 have hp:1<=t.length:=zN.2 h.1
 rw[VM,if_pos ⟨h1,h2⟩,h.2 s acc k _ _ hk h4 (QmG h' hr),<-QpT (a:=(l0++x::l,j))]
 by_cases hq:p=true/\acc=false
 rw[if_pos hq,if_pos hq]
 rw[if_neg hq,if_neg hq]
 simp only
 rw[if_pos (by omega),h'.2 s acc k _ r _ hk (dA h4) hr]
 simp[xe,Nat.add_comm,Nat.add_left_comm]
def Qox (d:Nat) (l:List CSel) (p:Bool) (t:Bs):Prop:=t≠[]/\∀(s:Bs) (acc:Bool) (k i:Nat) (r:Bs),d<=k->s.drop i=t++r->(r=[]\/hd r=41) ->
 Qw s acc (k+1) i=if p=true/\acc=false then none else some (l,i+t.length)
theorem Qox.mk {d:Nat} {x:CSel} {p q:Bool} {t u:Bs} {l:List CSel} (h:SlS d x p t) (h':QfB d l q u):Qox d (x::l) (p||q) (t++u):=by
 refine⟨by simp[h.1],fun s acc k i r hk e hr=>?_⟩
 rw[zw]at e
 rw[Qw,h.2 s acc k i _ hk e (QmG h' hr),<-QpT (a:=(x::l,i))]
 by_cases hq:p=true/\acc=false
 rw[if_pos hq,if_pos hq]
 rw[if_neg hq,if_neg hq]
 simp only
 rw[h'.2 s acc k _ r _ hk (dA e) hr]
 simp[xe]
theorem YJ.rel {d:Nat} {v n t g1 u:Bs} {l:List CSel} (h:IdW v t) (hv:low v=n) (hn:n=Zz\/n=ZA\/n=QN) (w1:WsL g1) (hu:Qox d l false u) (hh:Yg u) :
 YJ (d+1) (.rel n l) (58::(t++(40::(g1++(u++[41]))))):=by
 refine⟨show Qv 58=true by decide,fun s acc k i r hk e hs=>?_⟩
 have e1:s.drop i=58::(t++(40::(g1++(u++(41::r))))):=by rw[e];simp
 have e2:s.drop (i+(t.length+1))=40::(g1++(u++(41::r))):=by
  have:=dA (d1 e1).2.2.2;rw[<-this];congr 1;omega
 have e3:=dA (d1 e2).2.2.2
 have e4:=dA e3
 have hsw:Yg (u++(41::r)):=by unfold Yg;rw[Vm hu.1];exact hh
 obtain⟨k',rfl⟩:∃k',k=k'+1:=⟨k-1,by omega⟩
 rw[Zw (d1 e).2.1,QcS h e1 Qej,hv]
 unfold VX
 rw[if_pos hn]
 unfold Y7
 rw[Qao e2 w1 hsw]
 simp only
 rw[hu.2 s acc k' _ _ (by omega) e3 (.inr rfl),if_neg (by simp)]
 simp only
 rw[JC (g:=[]) e4 .nil]
 simp;omega
end Way
end
section
def Qby:Bs:=[48,49,50,51,52,53,54,55,56,57,97,98,99,100,101,102]
def QfP (c:Nat) (o:Bs):Bs:=if 0<c then QfP (c/16) ((Qby.take (c%16+1)).drop (c%16)++o) else o
 termination_by c
 decreasing_by omega
def JQ (c:Nat):Bs:=92::(QfP c []++[32])
def nmP (h i:Nat) (c:UInt8):Bs:=
 if c.toNat<32\/c.toNat=127\/(Qu c.toNat=true/\(i=0\/(i=1/\h=45)))\/(c.toNat=45/\i=1/\h=45) then JQ c.toNat
 else if Qr c.toNat=true then [c] else [92,c]
def nmF (h:Nat):Nat->Bs->Bs
 | _,[]=>[]
 | i,c::u=>nmP h i c++nmF h (i+1) u
def JL (s:Bs):Bs:=if s=[45] then [92,45] else nmF (bat s 0) 0 s
def Jz (n:Nat):Bs:=if n<10 then (([48,49,50,51,52,53,54,55,56,57]:List UInt8).take (n+1)).drop n else Jz (n/10)++Jz (n%10)
 termination_by n
 decreasing_by all_goals omega
def QdL (n:Int):Bs:=if n<0 then 45::Jz (-n).toNat else 43::Jz n.toNat
def Qct (a b:Int):Bs:=(if a<0 then 45::Jz (-a).toNat else Jz a.toNat)++(110::QdL b)
def QrV:List Bs:=[[],[],[61],[33,61],[126,61],[124,61],[94,61],[36,61],[42,61]]
def VR:List Bs:=[[101,109,112,116,121],[114,111,111,116],[105,110,112,117,116],[108,105,110,107],[101,110,97,98,108,101,100],[100,105,115,97,98,108,101,100],[99,104,101,99,107,101,100]]
def QvK:List Bs:=[Zz,ZA,QN]
def Qcc:List Bs->Bs
 | []=>[]
 | t::l=>t++l.flatMap fun u=>[44,32]++u
def isElB (l:List UInt8):Bool:=decide (l=[98,101,102,111,114,101])||decide (l=[97,102,116,101,114])||decide (l=[102,105,114,115,116,45,108,105,110,101])||decide (l=[102,105,114,115,116,45,108,101,116,116,101,114])
def Qql (n:Int):Bool:=decide (1<=n)&&decide (n<=20)
def QkN (n:Int):Bool:=Qql n||decide (n=21)||decide (n=22)
def Qv0 (x:SelD):Bool:=decide (x.kind=21) && !decide (x.val=[])
def fldB (x:SelD):Bool:=
 let key:=decide (x.kind=2)||decide (x.kind=5)
 let name:=decide (x.kind=3)||decide (x.kind=4)||decide (x.kind=15)
 let val:=name||(decide (x.kind=5) && !decide (x.op=1))||decide (x.kind=16)||decide (x.kind=17)
 YH x.key 0&&YH x.val 0&&decide (low x.key=x.key)
 && !(key==decide (x.key=[])) && !(name&&decide (x.val=[])) && !(!val && !decide (x.val=[])&&(!decide (x.kind=21) || !isElB x.val))
 && !(!decide (x.kind=6)&&(!decide (x.a=0) || !decide (x.b=0)))&&decide (x.a<=9999)&&decide (-9999<=x.a)&&decide (x.b<=9999)&&decide (-9999<=x.b)
 && (if x.kind=5 then decide (1<=x.op)&&decide (x.op<=8)&&decide (0<=x.flag)&&decide (x.flag<=1)&&(!decide (x.op=1)||decide (x.flag=0))
  else if x.kind=22 then decide (1<=x.op)&&decide (x.op<=4)&&decide (x.flag=0)
  else if x.kind=6 then decide (x.op=0)&&decide (0<=x.flag)&&decide (x.flag<=3)
  else if x.kind=7 then decide (x.op=0)&&(decide (x.flag=0)||decide (x.flag=2))
  else decide (x.op=0)&&decide (x.flag=0))
def combB (op:Int):UInt8:=([0,32,62,43,126]:List UInt8).getD op.toNat 0
def leafC (x:SelD):CSel:=
 if x.kind=1 then .compound [] []
 else if x.kind=2 then .tag x.key
 else if x.kind=3 then .cls x.val
 else if x.kind=4 then .idn x.val
 else if x.kind=5 then .attr x.key x.val (QrV.getD x.op.toNat []) (decide (x.flag=1))
 else if x.kind=6 then .nth x.a x.b (decide (x.flag=1\/x.flag=3)) (decide (x.flag=2\/x.flag=3))
 else if x.kind=7 then .only (decide (x.flag=2))
 else if x.kind=8 then .empty
 else if x.kind=9 then .root
 else if x.kind=10 then .input
 else if x.kind=11 then .link
 else if x.kind=12 then .enabled
 else if x.kind=13 then .disabled
 else if x.kind=14 then .checked
 else if x.kind=15 then .lang x.val
 else if x.kind=16 then .contains x.val false
 else .contains x.val true
def Qwk:CSel->Bool
 | .compound [] []=>true
 | _=>false
def nodeW (x:SelD) (l:List CSel):List CSel:=
 if x.kind=23 then l
 else if x.kind=22 then [.combined (l.getD 0 default) (combB x.op) (l.getD 1 default)]
 else if x.kind=21 then [VT (l.filter fun y => !Qwk y) x.val]
 else if x.kind=18\/x.kind=19\/x.kind=20 then [.rel (QvK.getD (x.kind-18).toNat []) l]
 else [leafC x]
mutual
def cs:ST->List CSel
 | .mk x ks=>nodeW x (css ks)
def css:List ST->List CSel
 | []=>[]
 | t::l=>cs t++css l
end
def c1 (T:ST):CSel:=(cs T).headD default
end
end Go.Proofs.YtengepcafdnalaaGreatDoor
