/-
  Parts of the proof that the law FnPrintBack holds for every input (texts Pg). Conditions: none.
-/
import Derived.Test.YtengepcafdnalaaGreatDoorM04
namespace Go.Proofs.YtengepcafdnalaaGreatDoor
open _root_.Bool renaming false_ne_true → zq, or_eq_true → zx, and_eq_true → zk, or_eq_false_iff → zT
open _root_.List renaming mem_cons → zu, not_mem_nil → zJ, mem_singleton → zW
open _root_.Option renaming map_eq_some_iff → zi, bind_some → zQ
section
namespace Law
def Qa9 (s:Bs) (f:Option (Option CSel×Bs×Nat)) (g:(List SelD×Bs)×RS):Prop:=
 g.2.un=true\/(g.2.bad=false/\((∃c,f=some (some c,[],g.2.p)/\g.1.2=[]/\Smp c/\MT c g.1.1)\/(f=some (none,g.1.2,g.2.p)/\g.1.2≠[])))\/(f=none/\U9 s g.2)
theorem Qa9.of {s:Bs} {f:Option (CSel×Nat)} {g:List SelD×RS} (h:Sim s MT f g) (hs:∀c e,f=some (c,e)->Smp c):Qa9 s (f.map fun p=>(some p.1,[],p.2)) ((g.1,[]),g.2):=by
 rcases h with h | ⟨c,h1,h2,h3⟩ | ⟨h1,h2⟩
 exact .inl h
 exact .inr (.inl ⟨h2,.inl ⟨c,by rw[h1];rfl,rfl,hs _ _ h1,h3⟩⟩)
 exact .inr (.inr ⟨by rw[h1];rfl,h2⟩)
def J0 (n:Bs):Bool:=decide (n∈[Zz,ZA,QN,VV,Vc,VE,QM,VK,QL,Jc])
theorem QcT {Gi:Nat->Option (List CSel×Nat)} {s n:Bs} {j:Nat} (h:J0 n=false):VX Gi s n j=match Jm n with
 | some x=>some (some x,[],j)
 | none=>if n∈elNames then some (none,n,j) else none:=by
 simp only[J0,zu,zJ,or_false,decide_eq_false_iff_not,not_or]at h
 unfold VX
 rw[if_neg (by simp[h]),if_neg (by simp[h]),if_neg (by simp[h]),if_neg (by simp[h])]
 rfl
def PB (n:Bs) (x:SelD):Prop:=∃c,Jm n=some c/\J0 n=false/\Qj c=Ql x []/\Qy c=x/\Qk c=.mk (Qy c) []/\Smp c
theorem Qks {n:Bs} {x:SelD} (h:Yx n=some x):PB n x:=by
 unfold Yx at h
 by_cases e:n=[102,105,114,115,116,45,99,104,105,108,100]
 rw[if_pos e]at h
 cases h
 rw[e]
 exact⟨.nth 0 1 false false,rfl,by decide,rfl,rfl,by simp[Qk],trivial⟩
 rw[if_neg e]at h
 clear e
 by_cases e:n=[108,97,115,116,45,99,104,105,108,100]
 rw[if_pos e]at h
 cases h
 rw[e]
 exact⟨.nth 0 1 true false,rfl,by decide,rfl,rfl,by simp[Qk],trivial⟩
 rw[if_neg e]at h
 clear e
 by_cases e:n=[102,105,114,115,116,45,111,102,45,116,121,112,101]
 rw[if_pos e]at h
 cases h
 rw[e]
 exact⟨.nth 0 1 false true,rfl,by decide,rfl,rfl,by simp[Qk],trivial⟩
 rw[if_neg e]at h
 clear e
 by_cases e:n=[108,97,115,116,45,111,102,45,116,121,112,101]
 rw[if_pos e]at h
 cases h
 rw[e]
 exact⟨.nth 0 1 true true,rfl,by decide,rfl,rfl,by simp[Qk],trivial⟩
 rw[if_neg e]at h
 clear e
 by_cases e:n=[111,110,108,121,45,99,104,105,108,100]
 rw[if_pos e]at h
 cases h
 rw[e]
 exact⟨.only false,rfl,by decide,rfl,rfl,by simp[Qk],trivial⟩
 rw[if_neg e]at h
 clear e
 by_cases e:n=[111,110,108,121,45,111,102,45,116,121,112,101]
 rw[if_pos e]at h
 cases h
 rw[e]
 exact⟨.only true,rfl,by decide,rfl,rfl,by simp[Qk],trivial⟩
 rw[if_neg e]at h
 clear e
 by_cases e:n=[101,109,112,116,121]
 rw[if_pos e]at h
 cases h
 rw[e]
 exact⟨.empty,rfl,by decide,rfl,rfl,by simp[Qk],trivial⟩
 rw[if_neg e]at h
 clear e
 by_cases e:n=[114,111,111,116]
 rw[if_pos e]at h
 cases h
 rw[e]
 exact⟨.root,rfl,by decide,rfl,rfl,by simp[Qk],trivial⟩
 rw[if_neg e]at h
 clear e
 by_cases e:n=[105,110,112,117,116]
 rw[if_pos e]at h
 cases h
 rw[e]
 exact⟨.input,rfl,by decide,rfl,rfl,by simp[Qk],trivial⟩
 rw[if_neg e]at h
 clear e
 by_cases e:n=[108,105,110,107]
 rw[if_pos e]at h
 cases h
 rw[e]
 exact⟨.link,rfl,by decide,rfl,rfl,by simp[Qk],trivial⟩
 rw[if_neg e]at h
 clear e
 by_cases e:n=[101,110,97,98,108,101,100]
 rw[if_pos e]at h
 cases h
 rw[e]
 exact⟨.enabled,rfl,by decide,rfl,rfl,by simp[Qk],trivial⟩
 rw[if_neg e]at h
 clear e
 by_cases e:n=[100,105,115,97,98,108,101,100]
 rw[if_pos e]at h
 cases h
 rw[e]
 exact⟨.disabled,rfl,by decide,rfl,rfl,by simp[Qk],trivial⟩
 rw[if_neg e]at h
 clear e
 by_cases e:n=[99,104,101,99,107,101,100]
 rw[if_pos e]at h
 cases h
 rw[e]
 exact⟨.checked,rfl,by decide,rfl,rfl,by simp[Qk],trivial⟩
 rw[if_neg e]at h
 clear e
 cases h
theorem Yi {n l:Bs} (h:Yx n=none) (hl:(Yx l).isSome=true):n≠l:=by
 intro e;rw[<-e,h]at hl;cases hl
theorem Qkr {n:Bs} (h:Yx n=none) (ho:n∉VD):Jm n=none/\n∉elNames:=by
 constructor
 unfold Jm
 rw[if_neg (Yi h (by decide)),if_neg (Yi h (by decide)),if_neg (Yi h (by decide)),if_neg (Yi h (by decide)),if_neg (Yi h (by decide)),if_neg (Yi h (by decide)),if_neg (Yi h (by decide)),if_neg (Yi h (by decide)),if_neg (Yi h (by decide)),if_neg (Yi h (by decide)),if_neg (Yi h (by decide)),if_neg (Yi h (by decide)),if_neg (Yi h (by decide)),if_neg]
 intro k
 apply ho
 simp only[neverNames,zu,zJ,or_false]at k
 rcases k with k | k | k | k | k<;>(subst k;decide)
 intro k
 apply ho
 simp only[elNames,zu,zJ,or_false]at k
 rcases k with k | k | k | k | k | k | k | k | k | k | k<;>(subst k;decide)
def J3 (G:RS->List SelD×RS) (s:Bs) (n:Bs) (v:RS):List SelD×RS:=
 if v.bad=true then (failL,v.no)
 else match Yx n with
  | some x=>if bat s v.p=40 then (failL,(v.unI true).no) else (Qi x [],v)
  | none=>
   if n∈VD then (failL,(v.unI true).no)
   else if (QH n<0/\VW n=0)\/bat s v.p≠40 then (failL,v.no)
   else V3 G s (VW n) (QH n) (v.go (v.p+1))
theorem Qkq (G:RS->List SelD×RS) (s:Bs) (t:RS):Q8 G s t=J3 G s (low (Qg s t).1) (Qg s t).2:=rfl
theorem Qkp {G:RS->List SelD×RS} (hU:GU G) {s n:Bs} {v:RS} (h:v.un=true):(J3 G s n v).2.un=true:=by
 unfold J3
 repeat' split
 all_goals first | exact QlN hU _ _ _ _ h | simp[h]
theorem Qhl {G:RS->List SelD×RS} {s n:Bs} {v:RS} (h:U9 s v):U9 s (J3 G s n v).2:=by
 unfold J3
 rcases h with h | h
 rw[if_pos h];exact .inl rfl
 split
 exact .inl rfl
 split
 rw[if_neg (by omega)];exact .inr h
 split
 exact .inl rfl
 rw[if_pos (.inr (by omega))];exact .inl rfl
theorem QcU {Gi:Nat->Option (List CSel×Nat)} {s n:Bs} {j:Nat} {c:CSel} {e:Nat} (h:Y7 Gi s n j=some (c,e)):Smp c:=by
 unfold Y7 at h
 split at h
 cases h
 split at h
 cases h
 simp only[zi,Prod.mk.injEq]at h
 obtain⟨_,_,h,_⟩:=h
 rw[<-h];trivial
theorem Qgx {s:Bs} {o:Bool} {j:Nat} {c:CSel} {e:Nat} (h:YY s o j=some (c,e)):Smp c:=by
 unfold YY at h
 split at h
 cases h
 split at h
 split at h
 cases h
 simp only[zi,Prod.mk.injEq]at h
 obtain⟨_,_,h,_⟩:=h
 rw[<-h];trivial
 cases h
theorem Qn2 {s:Bs} {j:Nat} {c:CSel} {e:Nat} (h:Zf s j=some (c,e)):Smp c:=by
 unfold Zf at h
 split at h
 cases h
 split at h
 split at h
 cases h
 simp only[zi,Prod.mk.injEq]at h
 obtain⟨_,_,h,_⟩:=h
 rw[<-h];trivial
 cases h
theorem QaT {s:Bs} {a b:Bool} {j:Nat} {c:CSel} {e:Nat} (h:YZ s a b j=some (c,e)):Smp c:=by
 unfold YZ at h
 split at h
 cases h
 split at h
 cases h
 simp only[zi,Prod.mk.injEq]at h
 obtain⟨_,_,h,_⟩:=h
 rw[<-h];trivial
theorem QkS {s key op val:Bs} {ign:Bool} {k:Nat} {x:CSel} {m:Nat} (h:VF.iAttrE s key op val ign k=some (x,m)):Smp x:=by
 unfold VF.iAttrE at h
 split at h
 cases h;trivial
 cases h
theorem QkR {s key op:Bs} {k:Nat} {x:CSel} {m:Nat} (h:VF.iAttrV s key op k=some (x,m)):Smp x:=by
 unfold VF.iAttrV at h
 split at h
 split at h
 cases h
 rename_i v m' h1
 by_cases h8:iWs s m'<s.length
 rw[if_pos h8]at h;exact QkS h
 rw[if_neg h8]at h;cases h
 cases h
theorem Qn1 {s:Bs} {j:Nat} {c:CSel} {e:Nat} (h:VF s j=some (c,e)):Smp c:=by
 unfold VF at h
 split at h
 cases h
 rename_i key k h0
 by_cases q1:iWs s k<s.length
 rw[if_pos q1]at h
 by_cases q2:bat s (iWs s k)=93
 rw[if_pos q2]at h;cases h;trivial
 rw[if_neg q2]at h
 by_cases q3:iWs s k+2<s.length/\(bat s (iWs s k)=61\/bat s (iWs s k+1)=61)
 rw[if_pos q3]at h;exact QkR h
 rw[if_neg q3]at h;cases h
 rw[if_neg q1]at h;cases h
theorem UP {s:Bs} {j:Nat} (h:bat s j≠40):Vu s j=none:=by unfold Vu;rw[if_neg (fun k=>h k.2)]
section
variable {s:Bs} {Gi:Nat->Option (List CSel×Nat)} {G:RS->List SelD×RS} {lo:Nat}
theorem Qsg (hr:RD s) (hG:GS s lo Gi G) (hU:GU G) (n:Bs) (v:RS) (hb:v.bad=false) (hlo:lo<=v.p+1) :
 Qa9 s (VX Gi s n v.p) (((J3 G s n v).1,[]),(J3 G s n v).2):=by
 unfold J3
 rw[if_neg (by rw[hb];exact zq)]
 cases hp:Yx n with
 | some x=>
  obtain⟨c,h1,h2,h3,h4,h5,h6⟩:=Qks hp
  simp only
  split
  left;simp
  right;left
  refine⟨hb,.inl ⟨c,?_,rfl,h6,MT.leaf x h3 h4 h5⟩⟩
  rw[QcT h2,h1]
 | none=>
  simp only
  split
  left;simp
  rename_i ho
  cases hsp:J0 n with
  | false=>
   have hk:QH n<0/\VW n=0:=by
    simp only[J0,zu,zJ,or_false,decide_eq_false_iff_not,not_or]at hsp
    obtain⟨q1,q2,q3,q4,q5,q6,q7,q8,q9,q10⟩:=hsp
    constructor
    unfold QH;rw[if_neg q6,if_neg q7,if_neg q8,if_neg q9];decide
    unfold VW;rw[if_neg q1,if_neg q2,if_neg q3,if_neg q4,if_neg q5,if_neg q10]
   rw[if_pos (.inl hk)]
   obtain⟨h1,h2⟩:=Qkr hp ho
   right;right
   refine⟨?_,.inl rfl⟩
   rw[QcT hsp,h1]
   simp[h2]
  | true=>
   by_cases h40:bat s v.p=40
   simp only[J0,zu,zJ,or_false,decide_eq_true_eq]at hsp
   have hg:=fun (n:Bs) (k f:Int)=>Qrx hr (v.go (v.p+1)) hb v.p rfl h40 hG hU hlo n k f
   have hv:=fun (o:Bool) (f:Int)=>Qrr hr (v.go (v.p+1)) hb v.p rfl h40 (G:=G) o f
   have hl:=fun (f:Int)=>Qrv hr (v.go (v.p+1)) hb v.p rfl h40 (G:=G) f
   have hn:=fun (a b:Bool) (k f:Int)=>Qru hr (v.go (v.p+1)) hb v.p rfl h40 (G:=G) a b k f
   rcases hsp with e | e | e | e | e | e | e | e | e | e<;>subst e<;>rw[if_neg (by simp only[h40];decide)]
   rw[show VX Gi s Zz v.p=(Y7 Gi s Zz v.p).map fun p=>(some p.1,[],p.2) from by unfold VX;rw[if_pos (by simp)]]
   exact Qa9.of (hg Zz _ _ (by decide) (by decide) (by decide)) (fun _ _=>QcU)
   rw[show VX Gi s ZA v.p=(Y7 Gi s ZA v.p).map fun p=>(some p.1,[],p.2) from by unfold VX;rw[if_pos (by simp)]]
   exact Qa9.of (hg ZA _ _ (by decide) (by decide) (by decide)) (fun _ _=>QcU)
   rw[show VX Gi s QN v.p=(Y7 Gi s QN v.p).map fun p=>(some p.1,[],p.2) from by unfold VX;rw[if_pos (by simp)]]
   exact Qa9.of (hg QN _ _ (by decide) (by decide) (by decide)) (fun _ _=>QcU)
   rw[show VX Gi s VV v.p=(YY s false v.p).map fun p=>(some p.1,[],p.2) from by unfold VX;rw[if_neg (by decide),if_pos (by decide)];rfl]
   exact Qa9.of (hv false _ (by decide)) (fun _ _=>Qgx)
   rw[show VX Gi s Vc v.p=(YY s true v.p).map fun p=>(some p.1,[],p.2) from by unfold VX;rw[if_neg (by decide),if_pos (by decide)];rfl]
   exact Qa9.of (hv true _ (by decide)) (fun _ _=>Qgx)
   rw[show VX Gi s VE v.p=(YZ s false false v.p).map fun p=>(some p.1,[],p.2) from by unfold VX;rw[if_neg (by decide),if_neg (by decide),if_pos (by decide)];rfl]
   exact Qa9.of (hn false false _ _ (by decide)) (fun _ _=>QaT)
   rw[show VX Gi s QM v.p=(YZ s true false v.p).map fun p=>(some p.1,[],p.2) from by unfold VX;rw[if_neg (by decide),if_neg (by decide),if_pos (by decide)];rfl]
   exact Qa9.of (hn true false _ _ (by decide)) (fun _ _=>QaT)
   rw[show VX Gi s VK v.p=(YZ s false true v.p).map fun p=>(some p.1,[],p.2) from by unfold VX;rw[if_neg (by decide),if_neg (by decide),if_pos (by decide)];rfl]
   exact Qa9.of (hn false true _ _ (by decide)) (fun _ _=>QaT)
   rw[show VX Gi s QL v.p=(YZ s true true v.p).map fun p=>(some p.1,[],p.2) from by unfold VX;rw[if_neg (by decide),if_neg (by decide),if_pos (by decide)];rfl]
   exact Qa9.of (hn true true _ _ (by decide)) (fun _ _=>QaT)
   rw[show VX Gi s Jc v.p=(Zf s v.p).map fun p=>(some p.1,[],p.2) from by unfold VX;rw[if_neg (by decide),if_neg (by decide),if_neg (by decide),if_pos rfl]]
   exact Qa9.of (hl _ (by decide)) (fun _ _=>Qn2)
   rw[if_pos (.inr h40)]
   right;right
   refine⟨?_,.inl rfl⟩
   have hg:Y7 Gi s n v.p=none:=by unfold Y7;rw[UP h40]
   have hv:∀o,YY s o v.p=none:=by intro o;unfold YY;rw[UP h40]
   have hn:∀a b,YZ s a b v.p=none:=by intro a b;unfold YZ;rw[UP h40]
   have hl:Zf s v.p=none:=by unfold Zf;rw[UP h40]
   unfold VX
   rw[hg,hv,hn,hl]
   simp only[J0,zu,zJ,or_false,decide_eq_true_eq]at hsp
   split
   rfl
   split
   rfl
   split
   rfl
   split
   rfl
   rename_i q1 q2 q3 q4
   simp only[not_or]at q1 q2 q3
   rcases hsp with e | e | e | e | e | e | e | e | e | e
   exact absurd e q1.1
   exact absurd e q1.2.1
   exact absurd e q1.2.2
   exact absurd e q2.1
   exact absurd e q2.2
   exact absurd e q3.1
   exact absurd e q3.2.1
   exact absurd e q3.2.2.1
   exact absurd e q3.2.2.2
   exact absurd e q4
theorem elder {n:Bs} (h:n∈YV):J0 n=false/\Jm n=none/\n∈elNames/\n≠[]:=by
 simp only[YV,zu,zJ,or_false]at h
 rcases h with h | h | h | h<;>subst h<;>exact⟨by decide,by simp[Jm,neverNames],by decide,by decide⟩
theorem QkP {i:Nat} (h:s.length<=i):Qx s i=none:=by
 unfold Qx
 have:=hyEnd_ge s i
 rw[if_neg (fun k=>by omega)]
theorem QsT {i:Nat} (h2:¬bat s (i+1)=58):iPs Gi s i=(Qx s (i+1)).bind fun p=>VX Gi s (low p.1) p.2:=by
 unfold iPs
 by_cases h:i+1<s.length
 rw[if_pos h,if_neg h2]
 rcases Qx s (i+1) with _ | ⟨n,j⟩
 rfl
 dsimp only[zQ]
 rw[if_neg (fun k=>h2 k.1)]
 rw[if_neg h,QkP (by omega)];rfl
theorem QvZ (hr:RD s) (hG:GS s lo Gi G) (hU:GU G) (t:RS) (hb:t.bad=false) (hlo:lo<=t.p+1) (h58:bat s t.p=58):Qa9 s (iPs Gi s t.p)
 (if bat s (t.p+1)=58 then (([],(Ja s (t.go (t.p+2))).1),(Ja s (t.go (t.p+2))).2) else (((Q8 G s (t.go (t.p+1))).1,[]),(Q8 G s (t.go (t.p+1))).2)):=by
 unfold iPs
 by_cases h2:bat s (t.p+1)=58
 rw[if_pos h2,if_pos (Yy (by omega)),if_pos h2]
 have hn:=Jb hr (t.go (t.p+2)) hb
 unfold Ja
 simp only[Vg]at hn
 generalize Qg s (t.go (t.p+2))=w at hn ⊢
 simp only
 by_cases he:low w.1∈YV
 by_cases h40:bat s w.2.p=40
 left;simp[h40]
 obtain⟨q1,q2,q3,q4⟩:=elder he
 rcases hn with h | ⟨nm,h3,h4,h5⟩ | ⟨h3,h4⟩
 left;simp[h]
 right;left
 refine⟨h4,.inr ⟨?_,q4⟩⟩
 rw[h3]
 simp only
 rw[h5,if_neg (fun k=>k.2 q3),QcT q1,q2]
 simp[q3]
 right;right
 rw[h3]
 exact⟨rfl,h4⟩
 left;simp[he]
 have e:=QsT (Gi:=Gi) h2
 unfold iPs at e
 rw[e,if_neg h2,Qkq]
 have hn:=Jb hr (t.go (t.p+1)) hb
 simp only[Vg]at hn
 have hup:∀nm p,Qx s (t.p+1)=some (nm,p)->t.p+1<p:=fun nm p h=>(iIdent_lt h).1
 generalize Qg s (t.go (t.p+1))=w at hn ⊢
 rcases hn with h | ⟨nm,h3,h4,h5⟩ | ⟨h3,h4⟩
 exact .inl (Qkp hU h)
 rw[h3]
 simp only[zQ]
 rw[h5]
 exact Qsg hr hG hU (low w.1) w.2 h4 (by have:=hup _ _ h3;omega)
 rw[h3]
 exact .inr (.inr ⟨rfl,Qhl h4⟩)
theorem JH (hr:RD s) (hG:GS s lo Gi G) (hU:GU G) (t:RS) (hb:t.bad=false) (hlo:lo<=t.p+1) (hc:Qv (bat s t.p)=true):Qa9 s (Vd Gi s t.p) (Qo G s t):=by
 simp only[Qv,zx,decide_eq_true_eq]at hc
 unfold Vd Qo
 by_cases h46:bat s t.p=46
 rw[if_neg (by omega),if_pos h46,if_pos h46]
 have hn:=Jb hr (t.go (t.p+1)) hb
 simp only[Vg]at hn
 generalize Qg s (t.go (t.p+1))=w at hn ⊢
 rcases hn with h | ⟨nm,h3,h4,h5⟩ | ⟨h3,h4⟩
 exact .inl h
 refine .inr (.inl ⟨h4,.inl ⟨.cls w.1,by rw[h3,h5];rfl,rfl,trivial,MT.leaf _ (by simp[Qj,Qy]) (by simp[Qy]) (by simp[Qk])⟩⟩)
 exact .inr (.inr ⟨by rw[h3];rfl,h4⟩)
 by_cases h35:bat s t.p=35
 rw[if_pos h35,if_neg h46,if_pos h35]
 have hn:=QqD hr (t.go (t.p+1)) hb
 simp only[Vg]at hn
 generalize Zl s (t.go (t.p+1))=w at hn ⊢
 rcases hn with h | ⟨nm,h3,h4,h5⟩ | ⟨h3,h4⟩
 exact .inl h
 refine .inr (.inl ⟨h4,.inl ⟨.idn w.1,by rw[h3,h5];rfl,rfl,trivial,MT.leaf _ (by simp[Qj,Qy]) (by simp[Qy]) (by simp[Qk])⟩⟩)
 exact .inr (.inr ⟨by rw[h3];rfl,h4⟩)
 simp only[if_neg h35,if_neg h46]
 by_cases h91:bat s t.p=91
 simp only[if_pos h91]
 exact Qa9.of (Qrm hr (t.go (t.p+1)) hb t.p rfl) (fun _ _=>Qn1)
 simp only[if_neg h91]
 exact QvZ hr hG hU t hb hlo (by omega)
theorem Qqk:Qv 92=false:=by decide
theorem QbD {ps pseudo:Bool} {t:RS} {l:List SelD} {pe:Bs} {many:Nat} (h:U9 s t):U9 s (Vh G s ps pseudo t l pe many).2:=by
 rw[Vh,if_neg]
 simp only
 split
 exact .inl rfl
 exact h
 intro k
 rcases h with h | h
 rw[h]at k;cases k.1
 rw[h,Qqk]at k;cases k.2.2
theorem Qc7 (hr:RD s) (hG:GS s lo Gi G) (hU:GU G) (ps pseudo:Bool) (hps:pseudo=true->ps=true) (t:RS) (l:List SelD) (pe:Bs) (many:Nat) :
 ∀(xs:List CSel),t.bad=false->lo<=t.p+1->MTs xs l->(∀y∈xs,Smp y)->(many=0->Qv (bat s t.p)=true) ->
 Sim s MT (QS Gi s ps t.p xs pe) (Vh G s ps pseudo t l pe many):=by
 fun_induction Vh G s ps pseudo t l pe many with
 | case1 t l pe many h1 v h2 h3=>
  intro xs hb hlo hm hx h0
  have hs:=JH hr hG hU t hb hlo h1.2.2
  rcases hs with h | ⟨h4,⟨c,h5,h6,h7,h8⟩ | ⟨h5,h6⟩⟩ | ⟨h5,h6⟩
  exact .un (by simp[show v.2.un=true from h])
  exact absurd h6 h2
  cases hq:ps
  refine .bad ?_ rfl
  rw[QS,if_pos h1.2,h5]
  simp
  exact .un (by simp)
  refine .bad ?_ rfl
  rw[QS,if_pos h1.2,h5]
 | case2 t l pe many h1 v h2 h3 h4=>
  intro xs hb hlo hm hx h0
  exact .un (by simp)
 | case3 t l pe many h1 v h2 h3 h4 h5 ih=>
  intro xs hb hlo hm hx h0
  simp only[Bool.not_eq_false]at h3
  simp only[ne_eq,Decidable.not_not]at h4
  have hs:=JH hr hG hU t hb hlo h1.2.2
  rcases hs with h | ⟨h6,⟨c,h7,h8,h9,h10⟩ | ⟨h7,h8⟩⟩ | ⟨h7,h8⟩
  exact .un (Z1 hU _ _ _ _ _ _ _ h)
  exact absurd h8 h2
  rw[QS,if_pos h1.2,h7]
  simp only
  rw[if_pos h5,if_pos ⟨h4,hps h3⟩]
  exact ih xs h6 (by omega) hm hx (by omega)
  refine .no ?_ (QbD h8)
  rw[QS,if_pos h1.2,h7]
 | case4 t l pe many h1 v h2 h3 h4 h5=>
  intro xs hb hlo hm hx h0
  have hs:=JH hr hG hU t hb hlo h1.2.2
  rcases hs with h | ⟨h6,⟨c,h7,h8,h9,h10⟩ | ⟨h7,h8⟩⟩ | ⟨h7,h8⟩
  exact .un (by simp[show v.2.un=true from h])
  exact absurd h8 h2
  refine .bad ?_ rfl
  rw[QS,if_pos h1.2,h7]
  simp only
  rw[if_neg h5]
  refine .bad ?_ rfl
  rw[QS,if_pos h1.2,h7]
 | case5 t l pe many h1 v h2 h3 ih=>
  intro xs hb hlo hm hx h0
  have hs:=JH hr hG hU t hb hlo h1.2.2
  rcases hs with h | ⟨h6,⟨c,h7,h8,h9,h10⟩ | ⟨h7,h8⟩⟩ | ⟨h7,h8⟩
  exact .un (Z1 hU _ _ _ _ _ _ _ (by simp[show v.2.un=true from h]))
  by_cases hpe:pe=[]
  rw[QS,if_pos h1.2,h7]
  simp only
  rw[if_pos h3,if_pos hpe]
  refine ih (xs++[c]) h6 ?_ (hm.snoc h10) ?_ (by omega)
  simp only[Qbl];omega
  intro y hy
  simp only[List.mem_append,zW]at hy
  rcases hy with hy | hy
  exact hx y hy
  rw[hy];exact h9
  exact .un (Z1 hU _ _ _ _ _ _ _ (by simp[hpe]))
  exact absurd h8 (by simpa using h2)
  refine .no ?_ (QbD h8)
  rw[QS,if_pos h1.2,h7]
 | case6 t l pe many h1 v h2 h3=>
  intro xs hb hlo hm hx h0
  have hs:=JH hr hG hU t hb hlo h1.2.2
  rcases hs with h | ⟨h6,⟨c,h7,h8,h9,h10⟩ | ⟨h7,h8⟩⟩ | ⟨h7,h8⟩
  exact .un (by simp[show v.2.un=true from h])
  refine .bad ?_ rfl
  rw[QS,if_pos h1.2,h7]
  simp only
  rw[if_neg h3]
  exact absurd h8 (by simpa using h2)
  refine .bad ?_ rfl
  rw[QS,if_pos h1.2,h7]
 | case7 t l pe h1 t1=>
  intro xs hb hlo hm hx h0
  exfalso
  have hq:=h0 rfl
  refine h1 ⟨hb,Yy ?_,hq⟩
  intro e;rw[e]at hq;revert hq;decide
 | case8 t l pe many h1 t1=>
  intro xs hb hlo hm hx h0
  refine .ok _ ?_ hb (hm.seq pe hx)
  rw[QS,if_neg (fun k=>h1 ⟨hb,k⟩)]
  rfl
theorem Qk1 {i:Nat} (h:Vo s i=true):Qv (bat s i)=false/\bat s i≠42:=by
 obtain⟨_,h1⟩:=Qc0 h
 simp only[Qv,Qr,QK,zx,zk,decide_eq_true_eq,zT,decide_eq_false_iff_not] at *
 omega
theorem QmS (hr:RD s) (hG:GS s lo Gi G) (hU:GU G) (ps pseudo:Bool) (hps:pseudo=true->ps=true) (t:RS) (hb:t.bad=false) (hlo:lo<=t.p+1) :
 Sim s MT (V8 Gi s ps t.p) (VB G s ps pseudo t):=by
 unfold VB V8
 by_cases h42:bat s t.p=42
 rw[if_pos h42,if_pos h42,if_pos (Yy (by omega))]
 by_cases h124:bat s (t.p+1)=124
 left
 rw[Vh,if_neg (by simp only[Vg,h124];intro k;exact absurd k.2.2 (by decide))]
 simp only[Vg,h124,decide_true,Bool.true_or]
 rw[if_neg (by decide)]
 simp
 rw[if_neg (fun k=>h124 k.2.1)]
 exact Qc7 hr hG hU ps pseudo hps (t.go (t.p+1)) [] [] 1 [] hb (by simp only[Vg];omega) MTs.nil (by simp) (by omega)
 rw[if_neg h42,if_neg h42]
 cases hf:Vo s t.p with
 | true=>
  obtain⟨q1,q2⟩:=Qk1 hf
  rw[if_pos rfl,if_pos (Qc0 hf).1,if_neg (by rw[q1];exact zq)]
  simp only
  have hn:=Jb hr (t.unI (VS s t.p)) hb
  simp only[Qbl]at hn
  generalize Qg s (t.unI (VS s t.p))=w at hn ⊢
  rcases hn with h | ⟨nm,h3,h4,h5⟩ | ⟨h3,h4⟩
  exact .un (Z1 hU _ _ _ _ _ _ _ h)
  have hl:=iIdent_lt h3
  rw[h3]
  simp only
  rw[h5]
  refine Qc7 hr hG hU ps pseudo hps w.2 _ [] 1 [.tag (low w.1)] h4 (by omega) (MTs.one ?_) (by simp[Smp]) (by omega)
  exact MT.leaf _ (by simp[Qj,Qy]) (by simp[Qy]) (by simp[Qk])
  rw[h3]
  exact .no rfl (QbD h4)
 | false=>
  rw[if_neg zq]
  by_cases hc:Qv (bat s t.p)=true
  have hl:t.p<s.length:=by apply Yy;intro e;rw[e]at hc;revert hc;decide
  rw[if_pos hl,if_pos hc]
  exact Qc7 hr hG hU ps pseudo hps (t.unI (VS s t.p)) [] [] 0 [] hb hlo MTs.nil (by simp) (fun _=>hc)
  have hn:=Jb hr t hb
  unfold Qg at hn
  rw[if_neg (by rw[hf];exact zq)]at hn
  have e:(Vh G s ps pseudo (t.unI (VS s t.p)) [] [] 0).2=((t.unI (VS s t.p)).unI (decide (bat s t.p=124)||decide (bat s t.p=42))).no:=by
   rw[Vh,if_neg (fun k=>hc k.2.2)]
   rfl
  rcases hn with h | ⟨nm,h3,h4,h5⟩ | ⟨h3,h4⟩
  refine .un ?_
  rw[e]
  simp only[RS.no_un,RS.unI_un]at h ⊢
  rw[h];rfl
  simp at h4
  refine .bad ?_ (by rw[e];rfl)
  split
  rw[h3]
  rfl
end
end Law
end
end Go.Proofs.YtengepcafdnalaaGreatDoor
