/-
  Parts of the proof that the law FnPrintGrammar holds for every input (texts Pg). Conditions: none.
-/
import Derived.Test.YtengepcafdnalaaGreatDoorM04
namespace Go.Proofs.YtengepcafdnalaaGreatDoor
open _root_.Bool renaming false_ne_true → zo, or_eq_true → zu, and_eq_true → zh, or_eq_false_iff → zz
open _root_.List renaming mem_cons → zp, not_mem_nil → zT, mem_singleton → zP
open _root_.Option renaming map_eq_some_iff → zk, bind_some → zU
section
namespace Law
def QbJ (s:Bs) (f:Option (Option CSel×Bs×Nat)) (g:(List SelD×Bs)×RS):Prop:=
 g.2.un=true\/(g.2.bad=false/\((∃c,f=some (some c,[],g.2.p)/\g.1.2=[]/\Smp c/\MT c g.1.1)\/(f=some (none,g.1.2,g.2.p)/\g.1.2≠[])))\/(f=none/\QaM s g.2)
theorem QbJ.of {s:Bs} {f:Option (CSel×Nat)} {g:List SelD×RS} (h:Sim s MT f g) (hs:∀c e,f=some (c,e)->Smp c):QbJ s (f.map fun p=>(some p.1,[],p.2)) ((g.1,[]),g.2):=by
 rcases h with h | ⟨c,h1,h2,h3⟩ | ⟨h1,h2⟩
 exact .inl h
 exact .inr (.inl ⟨h2,.inl ⟨c,by rw[h1];rfl,rfl,hs _ _ h1,h3⟩⟩)
 exact .inr (.inr ⟨by rw[h1];rfl,h2⟩)
def Um (n:Bs):Bool:=decide (n∈[Zy,Zz,nHasChild,VJ,Q8,Vp,QH,VI,QL,ZY])
theorem Qdr {Gi:Nat->Option (List CSel×Nat)} {s n:Bs} {j:Nat} (h:Um n=false):V4 Gi s n j=match UD n with
 | some x=>some (some x,[],j)
 | none=>if n∈elNames then some (none,n,j) else none:=by
 simp only[Um,zp,zT,or_false,decide_eq_false_iff_not,not_or]at h
 unfold V4
 rw[if_neg (by simp[h]),if_neg (by simp[h]),if_neg (by simp[h]),if_neg (by simp[h])]
 rfl
def PB (n:Bs) (x:SelD):Prop:=∃c,UD n=some c/\Um n=false/\Qz c=Qr x []/\QQ c=x/\Qt c=.mk (QQ c) []/\Smp c
theorem Qlm {n:Bs} {x:SelD} (h:Yt n=some x):PB n x:=by
 unfold Yt at h
 by_cases e:n=[102,105,114,115,116,45,99,104,105,108,100]
 rw[if_pos e]at h
 cases h
 rw[e]
 exact⟨.nth 0 1 false false,rfl,by decide,rfl,rfl,by simp[Qt],trivial⟩
 rw[if_neg e]at h
 clear e
 by_cases e:n=[108,97,115,116,45,99,104,105,108,100]
 rw[if_pos e]at h
 cases h
 rw[e]
 exact⟨.nth 0 1 true false,rfl,by decide,rfl,rfl,by simp[Qt],trivial⟩
 rw[if_neg e]at h
 clear e
 by_cases e:n=[102,105,114,115,116,45,111,102,45,116,121,112,101]
 rw[if_pos e]at h
 cases h
 rw[e]
 exact⟨.nth 0 1 false true,rfl,by decide,rfl,rfl,by simp[Qt],trivial⟩
 rw[if_neg e]at h
 clear e
 by_cases e:n=[108,97,115,116,45,111,102,45,116,121,112,101]
 rw[if_pos e]at h
 cases h
 rw[e]
 exact⟨.nth 0 1 true true,rfl,by decide,rfl,rfl,by simp[Qt],trivial⟩
 rw[if_neg e]at h
 clear e
 by_cases e:n=[111,110,108,121,45,99,104,105,108,100]
 rw[if_pos e]at h
 cases h
 rw[e]
 exact⟨.only false,rfl,by decide,rfl,rfl,by simp[Qt],trivial⟩
 rw[if_neg e]at h
 clear e
 by_cases e:n=[111,110,108,121,45,111,102,45,116,121,112,101]
 rw[if_pos e]at h
 cases h
 rw[e]
 exact⟨.only true,rfl,by decide,rfl,rfl,by simp[Qt],trivial⟩
 rw[if_neg e]at h
 clear e
 by_cases e:n=[101,109,112,116,121]
 rw[if_pos e]at h
 cases h
 rw[e]
 exact⟨.empty,rfl,by decide,rfl,rfl,by simp[Qt],trivial⟩
 rw[if_neg e]at h
 clear e
 by_cases e:n=[114,111,111,116]
 rw[if_pos e]at h
 cases h
 rw[e]
 exact⟨.root,rfl,by decide,rfl,rfl,by simp[Qt],trivial⟩
 rw[if_neg e]at h
 clear e
 by_cases e:n=[105,110,112,117,116]
 rw[if_pos e]at h
 cases h
 rw[e]
 exact⟨.input,rfl,by decide,rfl,rfl,by simp[Qt],trivial⟩
 rw[if_neg e]at h
 clear e
 by_cases e:n=[108,105,110,107]
 rw[if_pos e]at h
 cases h
 rw[e]
 exact⟨.link,rfl,by decide,rfl,rfl,by simp[Qt],trivial⟩
 rw[if_neg e]at h
 clear e
 by_cases e:n=[101,110,97,98,108,101,100]
 rw[if_pos e]at h
 cases h
 rw[e]
 exact⟨.enabled,rfl,by decide,rfl,rfl,by simp[Qt],trivial⟩
 rw[if_neg e]at h
 clear e
 by_cases e:n=[100,105,115,97,98,108,101,100]
 rw[if_pos e]at h
 cases h
 rw[e]
 exact⟨.disabled,rfl,by decide,rfl,rfl,by simp[Qt],trivial⟩
 rw[if_neg e]at h
 clear e
 by_cases e:n=[99,104,101,99,107,101,100]
 rw[if_pos e]at h
 cases h
 rw[e]
 exact⟨.checked,rfl,by decide,rfl,rfl,by simp[Qt],trivial⟩
 rw[if_neg e]at h
 clear e
 cases h
theorem Yk {n l:Bs} (h:Yt n=none) (hl:(Yt l).isSome=true):n≠l:=by
 intro e;rw[<-e,h]at hl;cases hl
theorem Qll {n:Bs} (h:Yt n=none) (ho:n∉VH):UD n=none/\n∉elNames:=by
 constructor
 unfold UD
 rw[if_neg (Yk h (by decide)),if_neg (Yk h (by decide)),if_neg (Yk h (by decide)),if_neg (Yk h (by decide)),if_neg (Yk h (by decide)),if_neg (Yk h (by decide)),if_neg (Yk h (by decide)),if_neg (Yk h (by decide)),if_neg (Yk h (by decide)),if_neg (Yk h (by decide)),if_neg (Yk h (by decide)),if_neg (Yk h (by decide)),if_neg (Yk h (by decide)),if_neg]
 intro k
 apply ho
 simp only[Qam,zp,zT,or_false]at k
 rcases k with k | k | k | k | k<;>(subst k;decide)
 intro k
 apply ho
 simp only[elNames,zp,zT,or_false]at k
 rcases k with k | k | k | k | k | k | k | k | k | k | k<;>(subst k;decide)
def Uq (G:RS->List SelD×RS) (s:Bs) (n:Bs) (v:RS):List SelD×RS:=
 if v.bad=true then (failL,v.no)
 else match Yt n with
  | some x=>if bat s v.p=40 then (failL,(v.unI true).no) else (Qj x [],v)
  | none=>
   if n∈VH then (failL,(v.unI true).no)
   else if (QJ n<0/\VW n=0)\/bat s v.p≠40 then (failL,v.no)
   else V2 G s (VW n) (QJ n) (v.go (v.p+1))
theorem Qli (G:RS->List SelD×RS) (s:Bs) (t:RS):Q5 G s t=Uq G s (low (Qi s t).1) (Qi s t).2:=rfl
theorem Qlh {G:RS->List SelD×RS} (hU:GU G) {s n:Bs} {v:RS} (h:v.un=true):(Uq G s n v).2.un=true:=by
 unfold Uq
 repeat' split
 all_goals first | exact QmF hU _ _ _ _ h | simp[h]
theorem QhR {G:RS->List SelD×RS} {s n:Bs} {v:RS} (h:QaM s v):QaM s (Uq G s n v).2:=by
 unfold Uq
 rcases h with h | h
 rw[if_pos h];exact .inl rfl
 split
 exact .inl rfl
 split
 rw[if_neg (by omega)];exact .inr h
 split
 exact .inl rfl
 rw[if_pos (.inr (by omega))];exact .inl rfl
theorem Qds {Gi:Nat->Option (List CSel×Nat)} {s n:Bs} {j:Nat} {c:CSel} {e:Nat} (h:Zw Gi s n j=some (c,e)):Smp c:=by
 unfold Zw at h
 split at h
 cases h
 split at h
 cases h
 simp only[zk,Prod.mk.injEq]at h
 obtain⟨_,_,h,_⟩:=h
 rw[<-h];trivial
theorem Qg4 {s:Bs} {o:Bool} {j:Nat} {c:CSel} {e:Nat} (h:Zc s o j=some (c,e)):Smp c:=by
 unfold Zc at h
 split at h
 cases h
 split at h
 split at h
 cases h
 simp only[zk,Prod.mk.injEq]at h
 obtain⟨_,_,h,_⟩:=h
 rw[<-h];trivial
 cases h
theorem QoQ {s:Bs} {j:Nat} {c:CSel} {e:Nat} (h:Zv s j=some (c,e)):Smp c:=by
 unfold Zv at h
 split at h
 cases h
 split at h
 split at h
 cases h
 simp only[zk,Prod.mk.injEq]at h
 obtain⟨_,_,h,_⟩:=h
 rw[<-h];trivial
 cases h
theorem Qbr {s:Bs} {a b:Bool} {j:Nat} {c:CSel} {e:Nat} (h:Zd s a b j=some (c,e)):Smp c:=by
 unfold Zd at h
 split at h
 cases h
 split at h
 cases h
 simp only[zk,Prod.mk.injEq]at h
 obtain⟨_,_,h,_⟩:=h
 rw[<-h];trivial
theorem QlN {s key op val:Bs} {ign:Bool} {k:Nat} {x:CSel} {m:Nat} (h:VK.iAttrE s key op val ign k=some (x,m)):Smp x:=by
 unfold VK.iAttrE at h
 split at h
 cases h;trivial
 cases h
theorem QlM {s key op:Bs} {k:Nat} {x:CSel} {m:Nat} (h:VK.iAttrV s key op k=some (x,m)):Smp x:=by
 unfold VK.iAttrV at h
 split at h
 split at h
 cases h
 rename_i v m' h1
 by_cases h8:iWs s m'<s.length
 rw[if_pos h8]at h;exact QlN h
 rw[if_neg h8]at h;cases h
 cases h
theorem QoP {s:Bs} {j:Nat} {c:CSel} {e:Nat} (h:VK s j=some (c,e)):Smp c:=by
 unfold VK at h
 split at h
 cases h
 rename_i key k h0
 by_cases q1:iWs s k<s.length
 rw[if_pos q1]at h
 by_cases q2:bat s (iWs s k)=93
 rw[if_pos q2]at h;cases h;trivial
 rw[if_neg q2]at h
 by_cases q3:iWs s k+2<s.length/\(bat s (iWs s k)=61\/bat s (iWs s k+1)=61)
 rw[if_pos q3]at h;exact QlM h
 rw[if_neg q3]at h;cases h
 rw[if_neg q1]at h;cases h
theorem Qap {s:Bs} {j:Nat} (h:bat s j≠40):Vs s j=none:=by unfold Vs;rw[if_neg (fun k=>h k.2)]
section
variable {s:Bs} {Gi:Nat->Option (List CSel×Nat)} {G:RS->List SelD×RS} {lo:Nat}
theorem Qs6 (hr:RD s) (hG:GS s lo Gi G) (hU:GU G) (n:Bs) (v:RS) (hb:v.bad=false) (hlo:lo<=v.p+1) :
 QbJ s (V4 Gi s n v.p) (((Uq G s n v).1,[]),(Uq G s n v).2):=by
 unfold Uq
 rw[if_neg (by rw[hb];exact zo)]
 cases hp:Yt n with
 | some x=>
  obtain⟨c,h1,h2,h3,h4,h5,h6⟩:=Qlm hp
  simp only
  split
  left;simp
  right;left
  refine⟨hb,.inl ⟨c,?_,rfl,h6,MT.leaf x h3 h4 h5⟩⟩
  rw[Qdr h2,h1]
 | none=>
  simp only
  split
  left;simp
  rename_i ho
  cases hsp:Um n with
  | false=>
   have hk:QJ n<0/\VW n=0:=by
    simp only[Um,zp,zT,or_false,decide_eq_false_iff_not,not_or]at hsp
    obtain⟨q1,q2,q3,q4,q5,q6,q7,q8,q9,q10⟩:=hsp
    constructor
    unfold QJ;rw[if_neg q6,if_neg q7,if_neg q8,if_neg q9];decide
    unfold VW;rw[if_neg q1,if_neg q2,if_neg q3,if_neg q4,if_neg q5,if_neg q10]
   rw[if_pos (.inl hk)]
   obtain⟨h1,h2⟩:=Qll hp ho
   right;right
   refine⟨?_,.inl rfl⟩
   rw[Qdr hsp,h1]
   simp[h2]
  | true=>
   by_cases h40:bat s v.p=40
   simp only[Um,zp,zT,or_false,decide_eq_true_eq]at hsp
   have hg:=fun (n:Bs) (k f:Int)=>Qsp hr (v.go (v.p+1)) hb v.p rfl h40 hG hU hlo n k f
   have hv:=fun (o:Bool) (f:Int)=>Qsj hr (v.go (v.p+1)) hb v.p rfl h40 (G:=G) o f
   have hl:=fun (f:Int)=>Qsn hr (v.go (v.p+1)) hb v.p rfl h40 (G:=G) f
   have hn:=fun (a b:Bool) (k f:Int)=>Qsm hr (v.go (v.p+1)) hb v.p rfl h40 (G:=G) a b k f
   rcases hsp with e | e | e | e | e | e | e | e | e | e<;>subst e<;>rw[if_neg (by simp only[h40];decide)]
   rw[show V4 Gi s Zy v.p=(Zw Gi s Zy v.p).map fun p=>(some p.1,[],p.2) from by unfold V4;rw[if_pos (by simp)]]
   exact QbJ.of (hg Zy _ _ (by decide) (by decide) (by decide)) (fun _ _=>Qds)
   rw[show V4 Gi s Zz v.p=(Zw Gi s Zz v.p).map fun p=>(some p.1,[],p.2) from by unfold V4;rw[if_pos (by simp)]]
   exact QbJ.of (hg Zz _ _ (by decide) (by decide) (by decide)) (fun _ _=>Qds)
   rw[show V4 Gi s nHasChild v.p=(Zw Gi s nHasChild v.p).map fun p=>(some p.1,[],p.2) from by unfold V4;rw[if_pos (by simp)]]
   exact QbJ.of (hg nHasChild _ _ (by decide) (by decide) (by decide)) (fun _ _=>Qds)
   rw[show V4 Gi s VJ v.p=(Zc s false v.p).map fun p=>(some p.1,[],p.2) from by unfold V4;rw[if_neg (by decide),if_pos (by decide)];rfl]
   exact QbJ.of (hv false _ (by decide)) (fun _ _=>Qg4)
   rw[show V4 Gi s Q8 v.p=(Zc s true v.p).map fun p=>(some p.1,[],p.2) from by unfold V4;rw[if_neg (by decide),if_pos (by decide)];rfl]
   exact QbJ.of (hv true _ (by decide)) (fun _ _=>Qg4)
   rw[show V4 Gi s Vp v.p=(Zd s false false v.p).map fun p=>(some p.1,[],p.2) from by unfold V4;rw[if_neg (by decide),if_neg (by decide),if_pos (by decide)];rfl]
   exact QbJ.of (hn false false _ _ (by decide)) (fun _ _=>Qbr)
   rw[show V4 Gi s QH v.p=(Zd s true false v.p).map fun p=>(some p.1,[],p.2) from by unfold V4;rw[if_neg (by decide),if_neg (by decide),if_pos (by decide)];rfl]
   exact QbJ.of (hn true false _ _ (by decide)) (fun _ _=>Qbr)
   rw[show V4 Gi s VI v.p=(Zd s false true v.p).map fun p=>(some p.1,[],p.2) from by unfold V4;rw[if_neg (by decide),if_neg (by decide),if_pos (by decide)];rfl]
   exact QbJ.of (hn false true _ _ (by decide)) (fun _ _=>Qbr)
   rw[show V4 Gi s QL v.p=(Zd s true true v.p).map fun p=>(some p.1,[],p.2) from by unfold V4;rw[if_neg (by decide),if_neg (by decide),if_pos (by decide)];rfl]
   exact QbJ.of (hn true true _ _ (by decide)) (fun _ _=>Qbr)
   rw[show V4 Gi s ZY v.p=(Zv s v.p).map fun p=>(some p.1,[],p.2) from by unfold V4;rw[if_neg (by decide),if_neg (by decide),if_neg (by decide),if_pos rfl]]
   exact QbJ.of (hl _ (by decide)) (fun _ _=>QoQ)
   rw[if_pos (.inr h40)]
   right;right
   refine⟨?_,.inl rfl⟩
   have hg:Zw Gi s n v.p=none:=by unfold Zw;rw[Qap h40]
   have hv:∀o,Zc s o v.p=none:=by intro o;unfold Zc;rw[Qap h40]
   have hn:∀a b,Zd s a b v.p=none:=by intro a b;unfold Zd;rw[Qap h40]
   have hl:Zv s v.p=none:=by unfold Zv;rw[Qap h40]
   unfold V4
   rw[hg,hv,hn,hl]
   simp only[Um,zp,zT,or_false,decide_eq_true_eq]at hsp
   split
   rfl
   split
   rfl
   split
   rfl
   split
   rfl
   rename_i q1 q2 q3 q4
   simp only[not_or]at q1 q2 q3
   rcases hsp with e | e | e | e | e | e | e | e | e | e
   exact absurd e q1.1
   exact absurd e q1.2.1
   exact absurd e q1.2.2
   exact absurd e q2.1
   exact absurd e q2.2
   exact absurd e q3.1
   exact absurd e q3.2.1
   exact absurd e q3.2.2.1
   exact absurd e q3.2.2.2
   exact absurd e q4
theorem elder {n:Bs} (h:n∈Y2):Um n=false/\UD n=none/\n∈elNames/\n≠[]:=by
 simp only[Y2,zp,zT,or_false]at h
 rcases h with h | h | h | h<;>subst h<;>exact⟨by decide,by simp[UD,Qam],by decide,by decide⟩
theorem QlK {i:Nat} (h:s.length<=i):QC s i=none:=by
 unfold QC
 have:=Qkd s i
 rw[if_neg (fun k=>by omega)]
theorem QtJ {i:Nat} (h2:¬bat s (i+1)=58):iPs Gi s i=(QC s (i+1)).bind fun p=>V4 Gi s (low p.1) p.2:=by
 unfold iPs
 by_cases h:i+1<s.length
 rw[if_pos h,if_neg h2]
 rcases QC s (i+1) with _ | ⟨n,j⟩
 rfl
 dsimp only[zU]
 rw[if_neg (fun k=>h2 k.1)]
 rw[if_neg h,QlK (by omega)];rfl
theorem Qw2 (hr:RD s) (hG:GS s lo Gi G) (hU:GU G) (t:RS) (hb:t.bad=false) (hlo:lo<=t.p+1) (h58:bat s t.p=58):QbJ s (iPs Gi s t.p)
 (if bat s (t.p+1)=58 then (([],(Ju s (t.go (t.p+2))).1),(Ju s (t.go (t.p+2))).2) else (((Q5 G s (t.go (t.p+1))).1,[]),(Q5 G s (t.go (t.p+1))).2)):=by
 unfold iPs
 by_cases h2:bat s (t.p+1)=58
 rw[if_pos h2,if_pos (Yw (by omega)),if_pos h2]
 have hn:=Jv hr (t.go (t.p+2)) hb
 unfold Ju
 simp only[Vb]at hn
 generalize Qi s (t.go (t.p+2))=w at hn ⊢
 simp only
 by_cases he:low w.1∈Y2
 by_cases h40:bat s w.2.p=40
 left;simp[h40]
 obtain⟨q1,q2,q3,q4⟩:=elder he
 rcases hn with h | ⟨nm,h3,h4,h5⟩ | ⟨h3,h4⟩
 left;simp[h]
 right;left
 refine⟨h4,.inr ⟨?_,q4⟩⟩
 rw[h3]
 simp only
 rw[h5,if_neg (fun k=>k.2 q3),Qdr q1,q2]
 simp[q3]
 right;right
 rw[h3]
 exact⟨rfl,h4⟩
 left;simp[he]
 have e:=QtJ (Gi:=Gi) h2
 unfold iPs at e
 rw[e,if_neg h2,Qli]
 have hn:=Jv hr (t.go (t.p+1)) hb
 simp only[Vb]at hn
 have hup:∀nm p,QC s (t.p+1)=some (nm,p)->t.p+1<p:=fun nm p h=>(iIdent_lt h).1
 generalize Qi s (t.go (t.p+1))=w at hn ⊢
 rcases hn with h | ⟨nm,h3,h4,h5⟩ | ⟨h3,h4⟩
 exact .inl (Qlh hU h)
 rw[h3]
 simp only[zU]
 rw[h5]
 exact Qs6 hr hG hU (low w.1) w.2 h4 (by have:=hup _ _ h3;omega)
 rw[h3]
 exact .inr (.inr ⟨rfl,QhR h4⟩)
theorem J4 (hr:RD s) (hG:GS s lo Gi G) (hU:GU G) (t:RS) (hb:t.bad=false) (hlo:lo<=t.p+1) (hc:Qx (bat s t.p)=true):QbJ s (Vm Gi s t.p) (Qk G s t):=by
 simp only[Qx,zu,decide_eq_true_eq]at hc
 unfold Vm Qk
 by_cases h46:bat s t.p=46
 rw[if_neg (by omega),if_pos h46,if_pos h46]
 have hn:=Jv hr (t.go (t.p+1)) hb
 simp only[Vb]at hn
 generalize Qi s (t.go (t.p+1))=w at hn ⊢
 rcases hn with h | ⟨nm,h3,h4,h5⟩ | ⟨h3,h4⟩
 exact .inl h
 refine .inr (.inl ⟨h4,.inl ⟨.cls w.1,by rw[h3,h5];rfl,rfl,trivial,MT.leaf _ (by simp[Qz,QQ]) (by simp[QQ]) (by simp[Qt])⟩⟩)
 exact .inr (.inr ⟨by rw[h3];rfl,h4⟩)
 by_cases h35:bat s t.p=35
 rw[if_pos h35,if_neg h46,if_pos h35]
 have hn:=Qrp hr (t.go (t.p+1)) hb
 simp only[Vb]at hn
 generalize Zu s (t.go (t.p+1))=w at hn ⊢
 rcases hn with h | ⟨nm,h3,h4,h5⟩ | ⟨h3,h4⟩
 exact .inl h
 refine .inr (.inl ⟨h4,.inl ⟨.idn w.1,by rw[h3,h5];rfl,rfl,trivial,MT.leaf _ (by simp[Qz,QQ]) (by simp[QQ]) (by simp[Qt])⟩⟩)
 exact .inr (.inr ⟨by rw[h3];rfl,h4⟩)
 simp only[if_neg h35,if_neg h46]
 by_cases h91:bat s t.p=91
 simp only[if_pos h91]
 exact QbJ.of (Qse hr (t.go (t.p+1)) hb t.p rfl) (fun _ _=>QoP)
 simp only[if_neg h91]
 exact Qw2 hr hG hU t hb hlo (by omega)
theorem Qq7:Qx 92=false:=by decide
theorem Qcf {ps pseudo:Bool} {t:RS} {l:List SelD} {pe:Bs} {many:Nat} (h:QaM s t):QaM s (Ve G s ps pseudo t l pe many).2:=by
 rw[Ve,if_neg]
 simp only
 split
 exact .inl rfl
 exact h
 intro k
 rcases h with h | h
 rw[h]at k;cases k.1
 rw[h,Qq7]at k;cases k.2.2
theorem QdE (hr:RD s) (hG:GS s lo Gi G) (hU:GU G) (ps pseudo:Bool) (hps:pseudo=true->ps=true) (t:RS) (l:List SelD) (pe:Bs) (many:Nat) :
 ∀(xs:List CSel),t.bad=false->lo<=t.p+1->MTs xs l->(∀y∈xs,Smp y)->(many=0->Qx (bat s t.p)=true) ->
 Sim s MT (QT Gi s ps t.p xs pe) (Ve G s ps pseudo t l pe many):=by
 fun_induction Ve G s ps pseudo t l pe many with
 | case1 t l pe many h1 v h2 h3=>
  intro xs hb hlo hm hx h0
  have hs:=J4 hr hG hU t hb hlo h1.2.2
  rcases hs with h | ⟨h4,⟨c,h5,h6,h7,h8⟩ | ⟨h5,h6⟩⟩ | ⟨h5,h6⟩
  exact .un (by simp[show v.2.un=true from h])
  exact absurd h6 h2
  cases hq:ps
  refine .bad ?_ rfl
  rw[QT,if_pos h1.2,h5]
  simp
  exact .un (by simp)
  refine .bad ?_ rfl
  rw[QT,if_pos h1.2,h5]
 | case2 t l pe many h1 v h2 h3 h4=>
  intro xs hb hlo hm hx h0
  exact .un (by simp)
 | case3 t l pe many h1 v h2 h3 h4 h5 ih=>
  intro xs hb hlo hm hx h0
  simp only[Bool.not_eq_false]at h3
  simp only[ne_eq,Decidable.not_not]at h4
  have hs:=J4 hr hG hU t hb hlo h1.2.2
  rcases hs with h | ⟨h6,⟨c,h7,h8,h9,h10⟩ | ⟨h7,h8⟩⟩ | ⟨h7,h8⟩
  exact .un (Jk hU _ _ _ _ _ _ _ h)
  exact absurd h8 h2
  rw[QT,if_pos h1.2,h7]
  simp only
  rw[if_pos h5,if_pos ⟨h4,hps h3⟩]
  exact ih xs h6 (by omega) hm hx (by omega)
  refine .no ?_ (Qcf h8)
  rw[QT,if_pos h1.2,h7]
 | case4 t l pe many h1 v h2 h3 h4 h5=>
  intro xs hb hlo hm hx h0
  have hs:=J4 hr hG hU t hb hlo h1.2.2
  rcases hs with h | ⟨h6,⟨c,h7,h8,h9,h10⟩ | ⟨h7,h8⟩⟩ | ⟨h7,h8⟩
  exact .un (by simp[show v.2.un=true from h])
  exact absurd h8 h2
  refine .bad ?_ rfl
  rw[QT,if_pos h1.2,h7]
  simp only
  rw[if_neg h5]
  refine .bad ?_ rfl
  rw[QT,if_pos h1.2,h7]
 | case5 t l pe many h1 v h2 h3 ih=>
  intro xs hb hlo hm hx h0
  have hs:=J4 hr hG hU t hb hlo h1.2.2
  rcases hs with h | ⟨h6,⟨c,h7,h8,h9,h10⟩ | ⟨h7,h8⟩⟩ | ⟨h7,h8⟩
  exact .un (Jk hU _ _ _ _ _ _ _ (by simp[show v.2.un=true from h]))
  by_cases hpe:pe=[]
  rw[QT,if_pos h1.2,h7]
  simp only
  rw[if_pos h3,if_pos hpe]
  refine ih (xs++[c]) h6 ?_ (hm.snoc h10) ?_ (by omega)
  simp only[QbX];omega
  intro y hy
  simp only[List.mem_append,zP]at hy
  rcases hy with hy | hy
  exact hx y hy
  rw[hy];exact h9
  exact .un (Jk hU _ _ _ _ _ _ _ (by simp[hpe]))
  exact absurd h8 (by simpa using h2)
  refine .no ?_ (Qcf h8)
  rw[QT,if_pos h1.2,h7]
 | case6 t l pe many h1 v h2 h3=>
  intro xs hb hlo hm hx h0
  have hs:=J4 hr hG hU t hb hlo h1.2.2
  rcases hs with h | ⟨h6,⟨c,h7,h8,h9,h10⟩ | ⟨h7,h8⟩⟩ | ⟨h7,h8⟩
  exact .un (by simp[show v.2.un=true from h])
  refine .bad ?_ rfl
  rw[QT,if_pos h1.2,h7]
  simp only
  rw[if_neg h3]
  exact absurd h8 (by simpa using h2)
  refine .bad ?_ rfl
  rw[QT,if_pos h1.2,h7]
 | case7 t l pe h1 t1=>
  intro xs hb hlo hm hx h0
  exfalso
  have hq:=h0 rfl
  refine h1 ⟨hb,Yw ?_,hq⟩
  intro e;rw[e]at hq;revert hq;decide
 | case8 t l pe many h1 t1=>
  intro xs hb hlo hm hx h0
  refine .ok _ ?_ hb (hm.seq pe hx)
  rw[QT,if_neg (fun k=>h1 ⟨hb,k⟩)]
  rfl
theorem QlW {i:Nat} (h:Vo s i=true):Qx (bat s i)=false/\bat s i≠42:=by
 obtain⟨_,h1⟩:=Qdx h
 simp only[Qx,Qq,QI,zu,zh,decide_eq_true_eq,zz,decide_eq_false_iff_not] at *
 omega
theorem QnG (hr:RD s) (hG:GS s lo Gi G) (hU:GU G) (ps pseudo:Bool) (hps:pseudo=true->ps=true) (t:RS) (hb:t.bad=false) (hlo:lo<=t.p+1) :
 Sim s MT (YD Gi s ps t.p) (VG G s ps pseudo t):=by
 unfold VG YD
 by_cases h42:bat s t.p=42
 rw[if_pos h42,if_pos h42,if_pos (Yw (by omega))]
 by_cases h124:bat s (t.p+1)=124
 left
 rw[Ve,if_neg (by simp only[Vb,h124];intro k;exact absurd k.2.2 (by decide))]
 simp only[Vb,h124,decide_true,Bool.true_or]
 rw[if_neg (by decide)]
 simp
 rw[if_neg (fun k=>h124 k.2.1)]
 exact QdE hr hG hU ps pseudo hps (t.go (t.p+1)) [] [] 1 [] hb (by simp only[Vb];omega) MTs.nil (by simp) (by omega)
 rw[if_neg h42,if_neg h42]
 cases hf:Vo s t.p with
 | true=>
  obtain⟨q1,q2⟩:=QlW hf
  rw[if_pos rfl,if_pos (Qdx hf).1,if_neg (by rw[q1];exact zo)]
  simp only
  have hn:=Jv hr (t.unI (VS s t.p)) hb
  simp only[QbX]at hn
  generalize Qi s (t.unI (VS s t.p))=w at hn ⊢
  rcases hn with h | ⟨nm,h3,h4,h5⟩ | ⟨h3,h4⟩
  exact .un (Jk hU _ _ _ _ _ _ _ h)
  have hl:=iIdent_lt h3
  rw[h3]
  simp only
  rw[h5]
  refine QdE hr hG hU ps pseudo hps w.2 _ [] 1 [.tag (low w.1)] h4 (by omega) (MTs.one ?_) (by simp[Smp]) (by omega)
  exact MT.leaf _ (by simp[Qz,QQ]) (by simp[QQ]) (by simp[Qt])
  rw[h3]
  exact .no rfl (Qcf h4)
 | false=>
  rw[if_neg zo]
  by_cases hc:Qx (bat s t.p)=true
  have hl:t.p<s.length:=by apply Yw;intro e;rw[e]at hc;revert hc;decide
  rw[if_pos hl,if_pos hc]
  exact QdE hr hG hU ps pseudo hps (t.unI (VS s t.p)) [] [] 0 [] hb hlo MTs.nil (by simp) (fun _=>hc)
  have hn:=Jv hr t hb
  unfold Qi at hn
  rw[if_neg (by rw[hf];exact zo)]at hn
  have e:(Ve G s ps pseudo (t.unI (VS s t.p)) [] [] 0).2=((t.unI (VS s t.p)).unI (decide (bat s t.p=124)||decide (bat s t.p=42))).no:=by
   rw[Ve,if_neg (fun k=>hc k.2.2)]
   rfl
  rcases hn with h | ⟨nm,h3,h4,h5⟩ | ⟨h3,h4⟩
  refine .un ?_
  rw[e]
  simp only[RS.no_un,RS.unI_un]at h ⊢
  rw[h];rfl
  simp at h4
  refine .bad ?_ (by rw[e];rfl)
  split
  rw[h3]
  rfl
end
end Law
end
end Go.Proofs.YtengepcafdnalaaGreatDoor
