/-
  Parts of the proof that the law FnPrintBack holds for every input (texts Xl, Xm, Op, Lx). Conditions: none.
-/
import Derived.Test.YtengepcafdnalaaGreatDoorM36
import Derived.Test.YtengepcafdnalaaGreatDoorCards
import Derived.Test.YtengepcafdnalaaGreatDoorTie
import Derived.ProofKit
import Derived.LaidMore
import Derived.OpenShut
import Derived.Stop.Joined
import Derived.JoinedOf
import Derived.MakeChecks
import Derived.ChangeMaps5
import Derived.SevenTiedAt
import Derived.Deep.Slices
import Derived.WideKeyArgs
import Derived.ChangeOld
import Derived.Lib.LaidTab
namespace Go.Proofs.YtengepcafdnalaaGreatDoor
open _root_.Array renaming getElem?_eq_some_iff → zA
open _root_.Bool renaming or_eq_true → zx
open _root_.List renaming length_append → zh, length_replicate → z7, length_cons → zj, length_nil → zo, mem_cons → zu, mem_singleton → zW, exists_cons_of_ne_nil → zX, getD_eq_getElem?_getD → zd, getElem?_eq_getElem → zg, mem_of_getElem? → xp, mem_cons_self → xc, not_mem_nil → zJ
open _root_.Nat renaming le_refl → zm, strongRecOn → zl, zero_le → zO
open _root_.Option renaming map_eq_some_iff → zi, bind_some → zQ
open Go.Proofs.Tryz renaming prog → zf
open _root_.UInt8 renaming ofNat → zD, toNat_or → ze
section
set_option maxRecDepth 20000
theorem Qp5:∀c:UInt8,Uf (Uf c)=Uf c:=by
 have h:∀n:Fin 256,Uf (Uf (zD n.val))=Uf (zD n.val):=by decide +kernel
 intro c
 have:=h ⟨c.toNat,c.toNat_lt⟩
 simpa using this
theorem Qb9 (v:Bs):low (low v)=low v:=by
 unfold low
 rw[List.map_map]
 exact List.map_congr_left fun c _=>Qp5 c
theorem Qhw {v:Bs} (h:v≠[]):low v≠[]:=by
 unfold low
 simp[h]
theorem Qhx (v:Bs):(low v).length=v.length:=by unfold low;simp
theorem QpY {s:Bs} {i:Nat} {acc:Bs}:∀{r:Bs} {j:Nat},Q9 s i acc=some (r,j)->r.length+4*i<=acc.length+4*j:=by
 fun_induction Q9 s i acc with
 | case1 i acc h1 h2 ih=>intro r j h;have:=ih h;simp at this;omega
 | case2 i acc h1 h2 h3 h4=>intro r j h;cases h
 | case3 i acc h1 h2 h3 v k h4 ih=>intro r j h;have:=ih h;have:=Ze h4;simp at *;omega
 | case4 i acc h1 h2 h3=>intro r j h;cases h;omega
 | case5 i acc h1=>intro r j h;cases h;omega
theorem Qmj {s:Bs} {i:Nat} {r:Bs} {j:Nat} (h:VY s i=some (r,j)):r≠[]/\r.length+4*i<=4*j:=by
 unfold VY at h
 split at h
 cases h
 rename_i hx
 have q:=QpY h
 refine⟨fun e=>?_,by simpa using q⟩
 subst e
 exact hx _ h
theorem Qap {s:Bs} {i:Nat} {r:Bs} {j:Nat} (h:Qx s i=some (r,j)):r≠[]/\r.length+4*i<=4*j:=by
 have w:=Law.hyEnd_ge s i
 unfold Qx at h
 split at h
 split at h
 cases h
 rename_i r' j' hn
 cases h
 have q:=Qmj hn
 refine⟨by simp[q.1],?_⟩
 rw[zh,z7]
 omega
 cases h
theorem QrT {s:Bs} {q i:Nat} {acc:Bs}:∀{r:Bs} {j:Nat},Vk s q i acc=some (r,j)->r.length+4*i<=acc.length+4*j:=by
 fun_induction Vk s q i acc<;>intro r j h
 all_goals first
  | (cases h;done)
  | (cases h;omega)
  | (rename_i hx ih;have:=Ze hx;have:=ih h;simp at *;omega)
  | (rename_i ih;have:=ih h;simp at *;omega)
theorem Qqr {s:Bs} {i:Nat} {r:Bs} {j:Nat} (h:(if bat s i=39\/bat s i=34 then ZB s i else Qx s i)=some (r,j)):r.length+4*i<=4*j:=by
 split at h
 unfold ZB at h
 split at h
 cases h
 have:=QrT h
 simp at this
 omega
 exact (Qap h).2
def Jo (a:Int):Prop := -9223372036854775807<=a/\a<=9223372036854775807
theorem QhR {s:Bs} {i:Nat} {v:Int×Nat} (h:Qa6 s i=some v):Jo v.1/\Jo (0-v.1):=by
 unfold Qa6 at h
 split at h
 cases h
 split at h
 cases h
 unfold Jo
 dsimp only
 omega
 cases h
theorem QdS {s:Bs} {a:Int} {i:Nat} {v:Int×Int×Nat} (ha:Jo a) (h:Y1 s a i=some v):Jo v.1/\Jo v.2.1:=by
 unfold Y1 at h
 split at h
 split at h
 simp only[zi]at h
 obtain⟨p,h1,rfl⟩:=h
 exact⟨ha,(QhR h1).1⟩
 split at h
 simp only[zi]at h
 obtain⟨p,h1,rfl⟩:=h
 exact⟨ha,(QhR h1).2⟩
 cases h
 exact⟨ha,by unfold Jo;dsimp only;omega⟩
 cases h
theorem QlQ {s:Bs} {a:Int} {i:Nat} {v:Int×Int×Nat} (ha:Jo a) (h:Z3 s a i=some v):Jo v.1/\Jo v.2.1:=by
 unfold Z3 at h
 split at h
 split at h
 exact QdS ha h
 cases h
 exact⟨by unfold Jo;dsimp only;omega,ha⟩
 cases h
theorem Qal:Jo 1/\Jo (-1)/\Jo 2/\Jo 0:=by unfold Jo;omega
theorem Qwo {s:Bs} {i:Nat} {v:Int×Int×Nat} (h:Yc s i=some v):Jo v.1/\Jo v.2.1:=by
 have pos:∀{j},Yf s j=some v->Jo v.1/\Jo v.2.1:=by
  intro j h
  unfold Yf at h
  split at h
  split at h
  simp only[Option.bind_eq_some_iff]at h
  obtain⟨p,h1,h2⟩:=h
  exact QlQ (QhR h1).1 h2
  split at h
  exact QdS Qal.1 h
  cases h
  cases h
 have neg:∀{j},Yn s j=some v->Jo v.1/\Jo v.2.1:=by
  intro j h
  unfold Yn at h
  split at h
  split at h
  simp only[Option.bind_eq_some_iff]at h
  obtain⟨p,h1,h2⟩:=h
  exact QlQ (QhR h1).2 h2
  split at h
  exact QdS Qal.2.1 h
  cases h
  cases h
 unfold Yc at h
 refine VL h (fun h=>?_) (fun h=>by cases h)
 refine VL h neg (fun h=>?_)
 refine VL h pos (fun h=>?_)
 refine VL h pos (fun h=>?_)
 refine VL h (fun h=>QdS Qal.1 h) (fun h=>?_)
 refine VL h (fun h=>?_) (fun h=>by cases h)
 split at h
 cases h
 refine VL h (fun h=>?_) (fun h=>?_)
 cases h;exact⟨Qal.2.2.1,Qal.1⟩
 refine VL h (fun h=>?_) (fun h=>by cases h)
 cases h;exact⟨Qal.2.2.1,Qal.2.2.2⟩
theorem Ql3 {a b:Int} {l t:Bool} (ha:Jo a) (hb:Jo b):(pr (.nth a b l t)).length<=90:=by
 unfold Jo at ha hb
 have h2:∀l t:Bool,(QcC l t).length<=20/\(Way.Z7 l t).length<=20:=by decide
 have:=h2 l t
 by_cases e:a=0/\b=1
 rw[pr,if_pos e,zj];omega
 have e1:=Qcd (n:=a) (by omega)
 have e2:=Qcd (n:=b) (by omega)
 rw[JK e]
 simp only[zh,zj,zo]
 split<;>(try simp only[zj])<;>omega
def GW (a:Bool) (L k:Nat) (G:Nat->Option (List CSel×Nat)):Prop:=∀i v,G i=some v->v.1≠[]/\(∃k',k=k'+1/\Wfs a L v.1 k' 3 3)/\prS v.1+200*i<=200*v.2+10
section
variable {G:Nat->Option (List CSel×Nat)} {s:Bs} {a:Bool} {L k:Nat}
theorem QpP {n:Bs} {x:CSel} (h:Jm n=some x):(∃b t,x=.nth 0 1 b t)\/(Zq L x/\(pr x).length<=20):=by
 unfold Jm at h
 iterate 4 refine VL h (fun h=>by cases h;exact .inl ⟨_,_,rfl⟩) (fun h=>?_)
 iterate 9 refine VL h (fun h=>by cases h;exact .inr ⟨trivial,by simp[pr,VR]⟩) (fun h=>?_)
 by_cases q0:n∉neverNames
 rw[if_neg q0]at h;cases h
 have q:n∈neverNames:=Decidable.not_not.1 q0
 rw[if_pos q]at h
 cases h
 refine .inr ⟨⟨n,q,rfl⟩,?_⟩
 rw[pr]
 have:∀n∈neverNames,(58::n:Bs).length<=20:=by decide
 exact this n q
theorem ps_W (hG:GW a L k G) (hL:4*s.length<=L) {i j:Nat} {x:CSel} {n:Bs} (h:iPs G s i=some (some x,n,j)) (hj:i<j):Wf a L x k 0/\(pr x).length+100+200*i<=200*j:=by
 unfold iPs at h
 split at h
 split at h
 cases h
 rename_i nm p hp
 split at h
 cases h
 have hlt:i+1<p:=by
  have:=(Law.iIdent_lt hp).1
  split at this<;>omega
 unfold VX at h
 split at h
 rename_i hn
 simp only[zi,Prod.mk.injEq,Option.some.injEq]at h
 obtain⟨⟨y,e⟩,h1,rfl,_,rfl⟩:=h
 unfold Y7 at h1
 split at h1
 cases h1
 rename_i k' hk
 split at h1
 cases h1
 rename_i l m hg
 simp only[zi,Prod.mk.injEq]at h1
 obtain⟨e',h2,rfl,rfl⟩:=h1
 have h3:=hG _ _ hg
 have h4:=Qce hk
 have h5:=QaR h2
 have h6:=QiT l
 have h7:(low nm).length<=8:=by rcases hn with hn | hn | hn<;>rw[hn]<;>decide
 dsimp only at h3 ⊢
 refine⟨?_,?_⟩
 simp only[Wf];exact⟨hn,h3.1,h3.2.1⟩
 rw[pr]
 unfold prG at h6
 simp only[zh,zj,zo]
 omega
 split at h
 simp only[zi,Prod.mk.injEq,Option.some.injEq]at h
 obtain⟨⟨y,e⟩,h1,rfl,_,rfl⟩:=h
 unfold YY at h1
 split at h1
 cases h1
 rename_i k' hk
 split at h1
 split at h1
 cases h1
 rename_i v m hv
 simp only[zi,Prod.mk.injEq]at h1
 obtain⟨e',h2,rfl,rfl⟩:=h1
 have h3:=Qqr hv
 have h4:=Qce hk
 have h5:=QaR h2
 have h6:=(Law.val_lt hv).2
 have h7:=Qhx v
 dsimp only at hj ⊢
 refine⟨?_,?_⟩
 simp only[Wf,Zq];exact⟨Qb9 v,by omega⟩
 rw[pr]
 simp only[zh,zj,zo]
 split<;>simp only[zj,zo]<;>omega
 cases h1
 split at h
 simp only[zi,Prod.mk.injEq,Option.some.injEq]at h
 obtain⟨⟨y,e⟩,h1,rfl,_,rfl⟩:=h
 unfold YZ at h1
 split at h1
 cases h1
 split at h1
 cases h1
 rename_i hn
 simp only[zi,Prod.mk.injEq]at h1
 obtain⟨e',h2,rfl,rfl⟩:=h1
 have h3:=Qwo hn
 dsimp only at hj h3 ⊢
 have h4:=fun l t=>Ql3 (l:=l) (t:=t) h3.1 h3.2
 refine⟨?_,?_⟩
 simp only[Wf,Zq];exact h3
 have:=h4 (decide (low nm=QM\/low nm=QL)) (decide (low nm=VK\/low nm=QL))
 omega
 split at h
 simp only[zi,Prod.mk.injEq,Option.some.injEq]at h
 obtain⟨⟨y,e⟩,h1,rfl,_,rfl⟩:=h
 unfold Zf at h1
 split at h1
 cases h1
 rename_i k' hk
 split at h1
 split at h1
 cases h1
 rename_i v m hv
 simp only[zi,Prod.mk.injEq]at h1
 obtain⟨e',h2,rfl,rfl⟩:=h1
 have h3:=Qap hv
 have h4:=Qce hk
 have h5:=QaR h2
 have h6:=(Law.iIdent_lt hv).2
 have h7:=Qhx v
 have eL:Jc.length=4:=rfl
 dsimp only at hj ⊢
 refine⟨?_,?_⟩
 simp only[Wf,Zq];exact⟨Qhw h3.1,Qb9 v,by omega⟩
 rw[pr]
 simp only[zh,zj,zo]
 omega
 cases h1
 split at h
 rename_i y hy
 simp only[Option.some.injEq,Prod.mk.injEq]at h
 obtain⟨rfl,_,rfl⟩:=h
 rcases QpP (L:=L) hy with ⟨b,t,rfl⟩ | ⟨q1,q2⟩
 have:=Ql3 (l:=b) (t:=t) Qal.2.2.2 Qal.1
 refine⟨?_,by omega⟩
 simp only[Wf,Zq];exact⟨Qal.2.2.2,Qal.1⟩
 refine⟨?_,by omega⟩
 cases y<;>simp only[Zq]at q1<;>simp only[Wf,Zq]<;>exact q1
 split at h
 simp at h
 cases h
 cases h
theorem ps_n {i j:Nat} {n:Bs} (h:iPs G s i=some (none,n,j)):n∈elNames:=by
 unfold iPs at h
 split at h
 split at h
 cases h
 split at h
 cases h
 unfold VX at h
 split at h
 simp at h
 split at h
 simp at h
 split at h
 simp at h
 split at h
 simp at h
 split at h
 cases h
 split at h
 rename_i q
 simp only[Option.some.injEq,Prod.mk.injEq,true_and]at h
 rw[<-h.1];exact q
 cases h
 cases h
theorem aE_W {key op val:Bs} {g:Bool} {m:Nat} {v:(Bs×Bs×Bs×Bool)×Nat} (h:aE s key op val g m=some v):v.1.1=key/\v.1.2.1=val/\v.1.2.2.1=op/\op∈attrSigns/\m<v.2:=by
 unfold aE at h
 split at h
 rename_i q
 cases h
 exact⟨rfl,rfl,rfl,q.2.2,by dsimp only;omega⟩
 cases h
theorem Qm9 {o:Bs} (h:o∈attrSigns):o.length<=2:=by
 have:∀o∈attrSigns,o.length<=2:=by decide
 exact this o h
theorem QjM {key v o:Bs} {b:Bool} (h:o.length<=2):(pr (.attr key v o b)).length<=key.length+v.length+8:=by
 rw[pr]
 simp only[zh,zj,zo]
 split<;>split<;>simp only[zh,zj,zo]<;>omega
theorem Qx9 (hL:4*s.length<=L) {i:Nat} {v:(Bs×Bs×Bs×Bool)×Nat} (h:Yo s i=some v):Zq L (attrOf v).1/\(pr (attrOf v).1).length+100+200*i<=200*v.2:=by
 have h0:=QmY h
 unfold Yo at h
 split at h
 cases h
 rename_i key j hk
 have w0:=QQ s (i+1)
 have w1:=QQ s j
 have h1:=Qap hk
 have h2:=Law.iIdent_lt hk
 have h3:=Qhx key
 split at h
 refine VL h (fun h=>?_) (fun h=>?_)
 cases h
 have:=QjM (key:=low key) (v:=[]) (o:=[]) (b:=false) (by simp)
 simp only[zo]at this
 unfold attrOf
 dsimp only at h0 ⊢
 exact⟨by simp only[Zq];exact⟨⟨Qhw h1.1,Qb9 key,by omega,by simp⟩,.inl (by simp)⟩,by omega⟩
 refine VL h (fun h=>?_) (fun h=>by cases h)
 generalize hj:iWs s (iWs s j+(if bat s (iWs s j)=61 then 1 else 2))=q at h
 have w2:j+1<=q:=by
  have:=QQ s (iWs s j+(if bat s (iWs s j)=61 then 1 else 2))
  rw[hj]at this
  split at this<;>omega
 unfold aV at h
 refine VL h (fun h=>?_) (fun h=>by cases h)
 split at h
 cases h
 rename_i val m hv
 have h4:=Qqr hv
 have h5:=(Law.val_lt hv).2
 have w3:=QQ s m
 unfold aW at h
 refine VL h (fun h=>?_) (fun h=>by cases h)
 obtain⟨e1,e2,e3,e4,e5⟩:=aE_W h
 have w4:=QQ s (if bat s (iWs s m)=105\/bat s (iWs s m)=73 then iWs s m+1 else iWs s m)
 have w6:iWs s m<=(if bat s (iWs s m)=105\/bat s (iWs s m)=73 then iWs s m+1 else iWs s m):=by split<;>omega
 have w5:m<v.2:=by omega
 obtain⟨⟨a1,a2,a3,a4⟩,a5⟩:=v
 dsimp only at e1 e2 e3 e5 w5 h0
 subst e1 e2 e3
 have:=QjM (key:=low key) (v:=a2) (b:=a4) (Qm9 e4)
 unfold attrOf
 dsimp only
 refine⟨?_,by omega⟩
 simp only[Zq]
 exact⟨⟨Qhw h1.1,Qb9 key,by omega,by omega⟩,.inr e4⟩
 cases h
theorem QgY {x:CSel} {d c:Nat} (h:Zq L x):Wf a L x d c:=by
 cases x<;>simp only[Zq]at h<;>simp only[Wf,Zq]<;>exact h
theorem QoU (hG:GW a L k G) (hL:4*s.length<=L) {i j:Nat} {x:CSel} {n:Bs} (h:Vd G s i=some (some x,n,j)) (hj:i<j):Wf a L x k 0/\(pr x).length+100+200*i<=200*j:=by
 unfold Vd at h
 split at h
 simp only[zi,Prod.mk.injEq,Option.some.injEq]at h
 obtain⟨⟨y,e⟩,h1,rfl,_,rfl⟩:=h
 have q:=Qmj h1
 have q2:=(Law.iName_lt h1).2
 have q3:=ZI y
 dsimp only at hj ⊢
 refine⟨QgY (by simp only[Zq];exact⟨q.1,by omega⟩),?_⟩
 rw[pr,zj]
 omega
 split at h
 simp only[zi,Prod.mk.injEq,Option.some.injEq]at h
 obtain⟨⟨y,e⟩,h1,rfl,_,rfl⟩:=h
 have q:=Qap h1
 have q2:=(Law.iIdent_lt h1).2
 have q3:=ZI y
 dsimp only at hj ⊢
 refine⟨QgY (by simp only[Zq];exact⟨q.1,by omega⟩),?_⟩
 rw[pr,zj]
 omega
 split at h
 rw[QdZ]at h
 simp only[zi,Prod.mk.injEq,Option.some.injEq]at h
 obtain⟨_,⟨y,h1,rfl⟩,rfl,_,rfl⟩:=h
 have q:=Qx9 hL h1
 exact⟨QgY q.1,q.2⟩
 exact ps_W hG hL h hj
theorem QoS {i j:Nat} {n:Bs} (h:Vd G s i=some (none,n,j)):n∈elNames:=by
 unfold Vd at h
 split at h
 simp at h
 split at h
 simp at h
 split at h
 simp at h
 exact ps_n h
theorem QmI {o:Bs} (h:o∈elNames):o.length<=30:=by
 have:∀o∈elNames,o.length<=30:=by decide
 exact this o h
theorem Qo5 {l:List CSel} {pe:Bs} {d:Nat} (h1:Wfs a L l d 1 0) (h2:pe=[]\/pe∈elNames/\a=true):Wf a L (VT l pe) d 2:=by
 by_cases e:∃y,l=[y]/\pe=[]
 obtain⟨y,rfl,rfl⟩:=e
 rw[Wfs]at h1
 exact h1.1.mono (by omega)
 have h:VT l pe=.compound l pe:=by
  unfold VT
  split
  exact absurd ⟨_,rfl,rfl⟩ e
  rfl
 rw[h]
 simp only[Wf]
 refine⟨zm _,h2,fun q r=>?_,h1⟩
 obtain⟨y,hy⟩:=List.length_eq_one_iff.1 q
 exact e ⟨y,hy,r⟩
theorem Qg4 (hG:GW a L k G) (hL:4*s.length<=L) {i0:Nat}:∀(n i:Nat) (l:List CSel) (pe:Bs),s.length-i=n->Wfs a L l k 1 0->(pe=[]\/pe∈elNames/\a=true)->prS l+pe.length+200*i0<=200*i->∀x m,QS G s a i l pe=some (x,m)->Wf a L x k 2/\(pr x).length+2+200*i0<=200*m+10:=by
 intro n
 induction n using zl with
 | _ n ih=>
  intro i l pe hn hw hp hl x m h
  rw[QS]at h
  split at h
  rename_i hc
  split at h
  cases h
  rename_i y nm j hy
  split at h
  rename_i hj
  split at h
  have hm:=QoS hy
  have hm2:=QmI hm
  split at h
  rename_i q
  exact ih _ (by omega) j l nm rfl hw (.inr ⟨hm,q.2⟩) (by rw[q.1]at hl;simp only[zo]at hl;omega) x m h
  cases h
  rename_i z
  have hb:=QoU hG hL hy hj
  split at h
  exact ih _ (by omega) j (l++[z]) pe rfl (QrE hw hb.1) hp (by rw[QlW,prS,prS];omega) x m h
  cases h
  cases h
  simp only[Option.some.injEq,Prod.mk.injEq]at h
  obtain⟨rfl,rfl⟩:=h
  have:=Qj5 l pe
  exact⟨Qo5 hw hp,by omega⟩
theorem QgX {d c c':Nat}:Wfs a L [] d c c':=by rw[Wfs];trivial
theorem Qo2 (hG:GW a L k G) (hL:4*s.length<=L) {i:Nat} {x:CSel} {m:Nat} (h:V8 G s a i=some (x,m)):Wf a L x k 2/\(pr x).length+2+200*i<=200*m+10:=by
 unfold V8 at h
 split at h
 split at h
 exact Qg4 hG hL _ _ [] [] rfl QgX (.inl rfl) (by simp only[prS,zo];split<;>omega) x m h
 split at h
 exact Qg4 hG hL _ _ [] [] rfl QgX (.inl rfl) (by simp[prS]) x m h
 split at h
 cases h
 rename_i t j ht
 have q:=Qap ht
 have q2:=Law.iIdent_lt ht
 have q3:=Qhx t
 refine Qg4 hG hL _ _ _ [] rfl ?_ (.inl rfl) (by rw[prS,prS,pr];simp only[zo];omega) x m h
 rw[Wfs]
 refine⟨?_,QgX⟩
 simp only[Wf]
 exact⟨zm _,Qhw q.1,Qb9 t,by omega⟩
 cases h
theorem Qxq {c:UInt8} (h:Vf c.toNat=true):c=32\/c=62\/c=43\/c=126:=by
 simp only[Vf,zx,decide_eq_true_eq]at h
 rcases h with (h | h) | h
 exact .inr (.inr (.inl (UInt8.toNat_inj.1 h)))
 exact .inr (.inl (UInt8.toNat_inj.1 h))
 exact .inr (.inr (.inr (UInt8.toNat_inj.1 h)))
theorem QjH {f g:CSel} {o:UInt8} (h:o=32\/o=62\/o=43\/o=126):(pr (.combined f o g)).length=(pr f).length+(pr g).length+3:=by
 have:=QoE h
 rw[pr]
 simp only[zh,zj,zo]
 omega
theorem Qr2 (hG:GW a L k G) (hL:4*s.length<=L) {i0:Nat}:∀(n j:Nat) (x:CSel),s.length-j=n->Wf a L x k 3->(pr x).length+2+200*i0<=200*j+10->∀y m,Q6 G s a x j=some (y,m)->Wf a L y k 3/\(pr y).length+2+200*i0<=200*m+10:=by
 intro n
 induction n using zl with
 | _ n ih=>
  intro j x hn hw hx y m h
  have w0:=QQ s j
  have w1:=QQ s (iWs s j+1)
  rw[Q6]at h
  split at h
  split at h
  rename_i hc
  split at h
  cases h
  rename_i z p hz
  split at h
  have q:=Qo2 hG hL hz
  have ho:=Qxq (c:=s.getD (iWs s j) 0) hc
  have hl:=QjH (f:=x) (g:=z) ho
  exact ih _ (by omega) p _ rfl (by simp only[Wf];exact⟨zm _,ho,hw,q.1⟩) (by omega) y m h
  cases h
  split at h
  simp only[Option.some.injEq,Prod.mk.injEq]at h
  obtain⟨rfl,rfl⟩:=h
  exact⟨hw,by omega⟩
  split at h
  cases h
  rename_i z p hz
  split at h
  have q:=Qo2 hG hL hz
  have hl:=QjH (f:=x) (g:=z) (o:=32) (.inl rfl)
  exact ih _ (by omega) p _ rfl (by simp only[Wf];exact⟨zm _,by simp,hw,q.1⟩) (by omega) y m h
  cases h
  simp only[Option.some.injEq,Prod.mk.injEq]at h
  obtain⟨rfl,rfl⟩:=h
  exact⟨hw,by omega⟩
theorem Qo8 (hG:GW a L k G) (hL:4*s.length<=L) {i:Nat} {x:CSel} {m:Nat} (h:YX G s a i=some (x,m)):Wf a L x k 3/\(pr x).length+2+200*i<=200*m+10:=by
 unfold YX at h
 split at h
 cases h
 rename_i y j hy
 have q:=Qo2 hG hL hy
 have w0:=QQ s i
 exact Qr2 hG hL _ _ _ rfl (q.1.mono (by omega)) (by omega) x m h
theorem Qs6 (hG:GW a L k G) (hL:4*s.length<=L) {i0:Nat}:∀(n j:Nat) (l:List CSel),s.length-j=n->l≠[]->Wfs a L l k 3 3->prS l+200*i0<=200*j+10->∀v m,VM G s a l j=some (v,m)->v≠[]/\Wfs a L v k 3 3/\prS v+200*i0<=200*m+10:=by
 intro n
 induction n using zl with
 | _ n ih=>
  intro j l hn h0 hw hx v m h
  rw[VM]at h
  split at h
  split at h
  cases h
  rename_i z p hz
  split at h
  have q:=Qo8 hG hL hz
  exact ih _ (by omega) p _ rfl (by simp) (Qii hw q.1) (by rw[QlW,prS,prS];omega) v m h
  cases h
  simp only[Option.some.injEq,Prod.mk.injEq]at h
  obtain⟨rfl,rfl⟩:=h
  exact⟨h0,hw,hx⟩
theorem Qmu (hL:4*s.length<=L):∀k,GW a L k (Qw s a k)
 | 0=>fun i v h=>by simp[Qw]at h
 | k+1=>fun i v h=>by
  obtain⟨v,m⟩:=v
  rw[Qw]at h
  split at h
  cases h
  rename_i x j hx
  have q:=Qo8 (Qmu hL k) hL hx
  have r:=Qs6 (i0:=i) (Qmu hL k) hL _ _ _ rfl (by simp) (by rw[Wfs,Wfs];exact⟨q.1,trivial⟩) (by rw[prS,prS];omega) v m h
  exact⟨r.1,⟨k,rfl,r.2.1⟩,r.2.2⟩
end
theorem Qsn {s:Bs} {m p:Bool} {l:List CSel} {L:Nat} (hL:4*s.length<=L) (h:QV s m p=some l):l≠[]/\Wfs p L l (if m=true then 1000 else 1001) 3 3/\prS l<=200*s.length+10/\(m=false->∃x,l=[x]):=by
 unfold QV at h
 split at h
 rename_i hm
 split at h
 rename_i l' j hg
 split at h
 cases h
 cases h
 obtain⟨h1,⟨k',e,h2⟩,h3⟩:=Qmu (a:=p) hL 1001 _ _ hg
 have h4:=QqQ hg
 cases e
 rw[if_pos hm]
 dsimp only at h1 h2 h3 h4
 exact⟨h1,h2,by omega,fun q=>by rw[hm]at q;cases q⟩
 cases h
 rename_i hm
 split at h
 rename_i x j hg
 split at h
 cases h
 cases h
 have h1:=Qo8 (Qmu (a:=p) hL 1001) hL hg
 have h4:=Qg5 hg
 rw[if_neg hm,Wfs,Wfs,prS,prS]
 exact⟨by simp,⟨h1.1,trivial⟩,by omega,fun _=>⟨x,rfl⟩⟩
 cases h
end
section
open Go Go.RowKit
set_option maxRecDepth 20000
mutual
def Q7 (p:SelD->Prop):ST->Prop
 | .mk x ks=>p x/\QU p ks
def QU (p:SelD->Prop):List ST->Prop
 | []=>True
 | t::ks=>Q7 p t/\QU p ks
end
section
variable {p q:SelD->Prop}
theorem Qa3:∀{l:List ST},QU p l ↔ ∀t∈l,Q7 p t
 | []=>by simp[QU]
 | t::l=>by rw[QU,Qa3];simp
mutual
theorem Uw (hp:∀x n,p { x with size:=n } ↔ p x):∀T:ST,(∀x∈T.flat,p x) ↔ Q7 p T
 | .mk x ks=>by
  rw[ST.flat,Ql,Q7,<-Qbw hp ks]
  simp[hp]
theorem Qbw (hp:∀x n,p { x with size:=n } ↔ p x):∀l:List ST,(∀x∈ST.flats l,p x) ↔ QU p l
 | []=>by simp[ST.flats,QU]
 | t::l=>by
  rw[ST.flats,QU,<-Uw hp t,<-Qbw hp l]
  simp only[List.mem_append]
  exact⟨fun h=>⟨fun x hx=>h x (.inl hx),fun x hx=>h x (.inr hx)⟩,fun h x hx=>hx.elim (h.1 x) (h.2 x)⟩
end
theorem Qoz {x:SelD} {ks:List ST} (ha:p Qry) (hx:p x) (hk:∀t∈ks,Q7 p t):Q7 p (Qaa x ks):=by
 have hm:Q7 p (.mk x ks):=by rw[Q7];exact⟨hx,Qa3.2 hk⟩
 unfold Qaa
 split
 split
 rw[Q7,QU];exact⟨ha,trivial⟩
 exact hk _ (by simp)
 exact hm
 exact hm
theorem Qqg {x:SelD} {ks:List ST}:∀t∈ZV x ks,t∈ks:=by
 intro t ht
 unfold ZV at ht
 split at ht
 exact (List.mem_filter.1 ht).1
 exact ht
mutual
theorem QeL (ha:p Qry):∀T:ST,Q7 p T->Q7 p T.norm
 | .mk x ks,h=>by
  rw[Q7]at h
  rw[ST.norm]
  exact Qoz ha h.1 fun t ht=>Qgm ha ks h.2 t (Qqg t ht)
theorem Qgm (ha:p Qry):∀l:List ST,QU p l->∀t∈ST.norms l,Q7 p t
 | [],_,t,ht=>by simp[ST.norms]at ht
 | k::l,h,t,ht=>by
  rw[QU]at h
  rw[ST.norms]at ht
  rcases zu.1 ht with e | e
  subst e;exact QeL ha k h.1
  exact Qgm ha l h.2 t e
end
def Quh (p:SelD->Prop) (x:SelD):Prop:=x.kind≠1/\(x.kind=21->x.val=[]->p x)
mutual
theorem QcL:∀T:ST,Q7 (Quh p) T->(Q7 p T.norm\/T.norm.node.kind=1)->Q7 p T
 | .mk x ks,h,hn=>by
  rw[Q7]at h
  rw[ST.norm]at hn
  have hk:(∀t∈ST.norms ks,Q7 p t\/t.node.kind=1)->QU p ks:=QeJ ks h.2
  rw[Q7]
  by_cases hc:x.kind=21/\x.val=[]
  refine⟨h.1.2 hc.1 hc.2,hk fun t ht=>?_⟩
  by_cases h1:t.node.kind=1
  exact .inr h1
  have hm:t∈ZV x (ST.norms ks):=by
   unfold ZV
   rw[if_pos hc.1]
   exact List.mem_filter.2 ⟨ht,by simp[Qbu,h1]⟩
  unfold Qaa at hn
  rw[if_pos hc]at hn
  generalize ZV x (ST.norms ks)=l at hm hn
  match l,hm,hn with
  | [],hm,_=>cases hm
  | [k],hm,hn=>
   rw[zW.1 hm]at h1 ⊢
   exact hn
  | k1::k2::l,hm,hn=>
   rcases hn with hn | hn
   simp only[Q7]at hn
   exact .inl (Qa3.1 hn.2 t hm)
   exact absurd hn h.1.1
  unfold Qaa at hn
  rw[if_neg hc]at hn
  rcases hn with hn | hn
  rw[Q7]at hn
  refine⟨hn.1,hk fun t ht=>?_⟩
  by_cases h1:t.node.kind=1
  exact .inr h1
  refine .inl (Qa3.1 hn.2 t ?_)
  unfold ZV
  split
  exact List.mem_filter.2 ⟨ht,by simp[Qbu,h1]⟩
  exact ht
  exact absurd hn h.1.1
theorem QeJ:∀l:List ST,QU (Quh p) l->(∀t∈ST.norms l,Q7 p t\/t.node.kind=1)->QU p l
 | [],_,_=>by rw[QU];trivial
 | k::l,h,hn=>by
  rw[QU]at h
  rw[ST.norms]at hn
  rw[QU]
  exact⟨QcL k h.1 (hn _ (by simp)),QeJ l h.2 fun t ht=>hn t (by simp[ht])⟩
end
mutual
theorem Qee (hg:p Q4) (hn:∀y:CSel,p (Qy y)):∀x:CSel,Q7 p (Qk x)
 | .rel n l=>by simp only[Qk,Q7,QU];exact⟨hn _,⟨hg,QaC hg hn l⟩,trivial⟩
 | .compound l pe=>by simp only[Qk,Q7];exact⟨hn _,QaC hg hn l⟩
 | .combined f c s=>by simp only[Qk,Q7,QU];exact⟨hn _,Qee hg hn f,Qee hg hn s,trivial⟩
 | .tag k=>by simp only[Qk,Q7,QU];exact⟨hn _,trivial⟩
 | .cls v=>by simp only[Qk,Q7,QU];exact⟨hn _,trivial⟩
 | .idn v=>by simp only[Qk,Q7,QU];exact⟨hn _,trivial⟩
 | .attr a b c d=>by simp only[Qk,Q7,QU];exact⟨hn _,trivial⟩
 | .nth a b c d=>by simp only[Qk,Q7,QU];exact⟨hn _,trivial⟩
 | .only a=>by simp only[Qk,Q7,QU];exact⟨hn _,trivial⟩
 | .empty=>by simp only[Qk,Q7,QU];exact⟨hn _,trivial⟩
 | .root=>by simp only[Qk,Q7,QU];exact⟨hn _,trivial⟩
 | .input=>by simp only[Qk,Q7,QU];exact⟨hn _,trivial⟩
 | .link=>by simp only[Qk,Q7,QU];exact⟨hn _,trivial⟩
 | .enabled=>by simp only[Qk,Q7,QU];exact⟨hn _,trivial⟩
 | .disabled=>by simp only[Qk,Q7,QU];exact⟨hn _,trivial⟩
 | .checked=>by simp only[Qk,Q7,QU];exact⟨hn _,trivial⟩
 | .lang a=>by simp only[Qk,Q7,QU];exact⟨hn _,trivial⟩
 | .contains a b=>by simp only[Qk,Q7,QU];exact⟨hn _,trivial⟩
 | .never a=>by simp only[Qk,Q7,QU];exact⟨hn _,trivial⟩
theorem QaC (hg:p Q4) (hn:∀y:CSel,p (Qy y)):∀l:List CSel,QU p (Vj l)
 | []=>by simp[Vj,QU]
 | x::l=>by simp only[Vj,QU];exact⟨Qee hg hn x,QaC hg hn l⟩
end
end
mutual
theorem Qed:∀x:CSel,Q7 (fun y=>YP y=true) (Qk x)->prC x
 | .rel n l,h=>by simp only[Qk,Q7,QU]at h;simp only[prC];exact QaB l h.2.1.2
 | .compound l pe,h=>by simp only[Qk,Q7]at h;simp only[prC];exact QaB l h.2
 | .combined f c s,h=>by simp only[Qk,Q7,QU]at h;simp only[prC];exact⟨Qed f h.2.1,Qed s h.2.2.1⟩
 | .tag k,h=>by simp only[Qk,Q7]at h;simp only[prC];exact h.1
 | .cls v,h=>by simp only[Qk,Q7]at h;simp only[prC];exact h.1
 | .idn v,h=>by simp only[Qk,Q7]at h;simp only[prC];exact h.1
 | .attr a b c d,h=>by simp only[Qk,Q7]at h;simp only[prC];exact h.1
 | .nth a b c d,h=>by simp only[Qk,Q7]at h;simp only[prC];exact h.1
 | .only a,h=>by simp only[Qk,Q7]at h;simp only[prC];exact h.1
 | .empty,h=>by simp only[Qk,Q7]at h;simp only[prC];exact h.1
 | .root,h=>by simp only[Qk,Q7]at h;simp only[prC];exact h.1
 | .input,h=>by simp only[Qk,Q7]at h;simp only[prC];exact h.1
 | .link,h=>by simp only[Qk,Q7]at h;simp only[prC];exact h.1
 | .enabled,h=>by simp only[Qk,Q7]at h;simp only[prC];exact h.1
 | .disabled,h=>by simp only[Qk,Q7]at h;simp only[prC];exact h.1
 | .checked,h=>by simp only[Qk,Q7]at h;simp only[prC];exact h.1
 | .lang a,h=>by simp only[Qk,Q7]at h;simp only[prC];exact h.1
 | .contains a b,h=>by simp only[Qk,Q7]at h;simp only[prC];exact h.1
 | .never a,h=>by simp only[Qk,Q7]at h;simp only[prC];exact h.1
theorem QaB:∀l:List CSel,QU (fun y=>YP y=true) (Vj l)->QfJ l
 | [],_=>by simp[QfJ]
 | x::l,h=>by simp only[Vj,QU]at h;simp only[QfJ];exact⟨Qed x h.1,QaB l h.2⟩
end
def shN (L:Nat) (x:SelD):Prop:=x.key.length<=L/\x.val.length<=L
theorem Yb {a:Bool} {L d c:Nat} {x:CSel} (hL:30<=L) (h:Wf a L x d c):shN L (Qy x):=by
 unfold shN
 cases x<;>simp only[Wf,Zq]at h<;>simp only[Qy,zo]<;>try omega
 case never v=>
  obtain⟨n,hn,rfl⟩:=h
  have:∀n∈neverNames,(58::n:Bs).length<=30:=by decide
  have:=this n hn
  omega
 case compound l pe=>
  rcases h.2.1 with rfl | q
  simp
  have:=QmI q.1
  omega
mutual
theorem Qg0 {a:Bool} {L:Nat} (hL:30<=L):∀(x:CSel) (d c:Nat),Wf a L x d c->Q7 (shN L) (Qk x)
 | .rel n l,d,c,h=>by
  have q:=Yb hL h
  simp only[Wf]at h
  obtain⟨_,_,d',_,h3⟩:=h
  simp only[Qk,Q7,QU]
  exact⟨q,⟨⟨zO _,zO _⟩,QbP hL l _ _ _ h3⟩,trivial⟩
 | .compound l pe,d,c,h=>by
  have q:=Yb hL h
  simp only[Wf]at h
  simp only[Qk,Q7]
  exact⟨q,QbP hL l _ _ _ h.2.2.2⟩
 | .combined f o s,d,c,h=>by
  have q:=Yb hL h
  simp only[Wf]at h
  simp only[Qk,Q7,QU]
  exact⟨q,Qg0 hL f _ _ h.2.2.1,Qg0 hL s _ _ h.2.2.2,trivial⟩
 | .tag k,d,c,h=>by simp only[Qk,Q7,QU];exact⟨Yb hL h,trivial⟩
 | .cls v,d,c,h=>by simp only[Qk,Q7,QU];exact⟨Yb hL h,trivial⟩
 | .idn v,d,c,h=>by simp only[Qk,Q7,QU];exact⟨Yb hL h,trivial⟩
 | .attr _ _ _ _,d,c,h=>by simp only[Qk,Q7,QU];exact⟨Yb hL h,trivial⟩
 | .nth _ _ _ _,d,c,h=>by simp only[Qk,Q7,QU];exact⟨Yb hL h,trivial⟩
 | .only _,d,c,h=>by simp only[Qk,Q7,QU];exact⟨Yb hL h,trivial⟩
 | .empty,d,c,h=>by simp only[Qk,Q7,QU];exact⟨Yb hL h,trivial⟩
 | .root,d,c,h=>by simp only[Qk,Q7,QU];exact⟨Yb hL h,trivial⟩
 | .input,d,c,h=>by simp only[Qk,Q7,QU];exact⟨Yb hL h,trivial⟩
 | .link,d,c,h=>by simp only[Qk,Q7,QU];exact⟨Yb hL h,trivial⟩
 | .enabled,d,c,h=>by simp only[Qk,Q7,QU];exact⟨Yb hL h,trivial⟩
 | .disabled,d,c,h=>by simp only[Qk,Q7,QU];exact⟨Yb hL h,trivial⟩
 | .checked,d,c,h=>by simp only[Qk,Q7,QU];exact⟨Yb hL h,trivial⟩
 | .lang _,d,c,h=>by simp only[Qk,Q7,QU];exact⟨Yb hL h,trivial⟩
 | .contains _ _,d,c,h=>by simp only[Qk,Q7,QU];exact⟨Yb hL h,trivial⟩
 | .never _,d,c,h=>by simp only[Qk,Q7,QU];exact⟨Yb hL h,trivial⟩
theorem QbP {a:Bool} {L:Nat} (hL:30<=L):∀(l:List CSel) (d c c':Nat),Wfs a L l d c c'->QU (shN L) (Vj l)
 | [],d,c,c',_=>by simp[Vj,QU]
 | x::l,d,c,c',h=>by
  rw[Wfs]at h
  simp only[Vj,QU]
  exact⟨Qg0 hL x _ _ h.1,QbP hL l _ _ _ h.2⟩
theorem Qlx {a:Bool} {L:Nat}:∀(x:CSel) (d c:Nat),Wf a L x d c->okC x
 | .rel n l,d,c,h=>by
  simp only[Wf]at h
  obtain⟨_,_,d',_,h3⟩:=h
  rw[okC]
  exact QjY l _ _ _ h3
 | .compound l pe,d,c,h=>by
  simp only[Wf]at h
  rw[okC]
  exact QjY l _ _ _ h.2.2.2
 | .combined f o s,d,c,h=>by
  simp only[Wf]at h
  rw[okC]
  exact⟨Qlx f _ _ h.2.2.1,Qlx s _ _ h.2.2.2⟩
 | .nth _ _ _ _,d,c,h=>by
  simp only[Wf,Zq]at h
  rw[okC]
  omega
 | .tag _,_,_,_=>by simp[okC]
 | .cls _,_,_,_=>by simp[okC]
 | .idn _,_,_,_=>by simp[okC]
 | .attr _ _ _ _,_,_,_=>by simp[okC]
 | .only _,_,_,_=>by simp[okC]
 | .empty,_,_,_=>by simp[okC]
 | .root,_,_,_=>by simp[okC]
 | .input,_,_,_=>by simp[okC]
 | .link,_,_,_=>by simp[okC]
 | .enabled,_,_,_=>by simp[okC]
 | .disabled,_,_,_=>by simp[okC]
 | .checked,_,_,_=>by simp[okC]
 | .lang _,_,_,_=>by simp[okC]
 | .contains _ _,_,_,_=>by simp[okC]
 | .never _,_,_,_=>by simp[okC]
theorem QjY {a:Bool} {L:Nat}:∀(l:List CSel) (d c c':Nat),Wfs a L l d c c'->Qi3 l
 | [],_,_,_,_=>by simp[Qi3]
 | x::l,d,c,c',h=>by
  rw[Wfs]at h
  rw[Qi3]
  exact⟨Qlx x _ _ h.1,QjY l _ _ _ h.2⟩
end
mutual
theorem Qcj:∀x:CSel,hgt x<=(Qj x).length
 | .rel n l=>by have:=QcV l;simp only[hgt,Qj,Ql,zj];omega
 | .compound l pe=>by have:=QcV l;simp only[hgt,Qj,Ql,zj];omega
 | .combined f o s=>by have:=Qcj f;have:=Qcj s;simp only[hgt,Qj,Ql,zj,zh];omega
 | .tag _=>by simp[hgt,Qj,Ql]
 | .cls _=>by simp[hgt,Qj,Ql]
 | .idn _=>by simp[hgt,Qj,Ql]
 | .attr _ _ _ _=>by simp[hgt,Qj,Ql]
 | .nth _ _ _ _=>by simp[hgt,Qj,Ql]
 | .only _=>by simp[hgt,Qj,Ql]
 | .empty=>by simp[hgt,Qj,Ql]
 | .root=>by simp[hgt,Qj,Ql]
 | .input=>by simp[hgt,Qj,Ql]
 | .link=>by simp[hgt,Qj,Ql]
 | .enabled=>by simp[hgt,Qj,Ql]
 | .disabled=>by simp[hgt,Qj,Ql]
 | .checked=>by simp[hgt,Qj,Ql]
 | .lang _=>by simp[hgt,Qj,Ql]
 | .contains _ _=>by simp[hgt,Qj,Ql]
 | .never _=>by simp[hgt,Qj,Ql]
theorem QcV:∀l:List CSel,QhU l<=(Qm l).length
 | []=>by simp[QhU]
 | x::l=>by have:=Qcj x;have:=QcV l;simp only[QhU,Qm,zh];omega
end
structure Back (s:Bs) (m p:Bool) (v:List CSel):Prop where
 i:QV s m p=some v
 ok:QrG v
 sh:(QX s m p).1.length<=1000000000/\∀j,j<(QX s m p).1.length->((QX s m p).1.getD j default).key.length<=80000/\((QX s m p).1.getD j default).val.length<=80000
 pr:QnG (QX s m p).1=true->QV (prO s m p).1 m p=some v
 len:(prO s m p).1.length<=1000000
theorem YF {s:Bs} {m p:Bool} (hs:s.length<=1000) (h1:(QX s m p).2.2=true) (h2:(QX s m p).2.1=true):∃v,Back s m p v:=by
 rcases Law.parse_sim s m p hs h1 with ⟨v,hv,_,A,B,ea,eb,hn,_,_,hz⟩ | ⟨_,h⟩
 refine⟨v,?_⟩
 obtain⟨w1,w2,w3,w4⟩:=Qsn (L:=4*s.length+30) (by omega) hv
 have hd:=QaM hv
 have hj:=QiT v
 have hdl:(Qm v).length<=10000:=by
  cases m with
  | true=>
   have:(QG true v).length=(Qm v).length+1:=by simp[QG,Ql]
   omega
  | false=>
   obtain⟨x,rfl⟩:=w4 rfl
   have:(QG false [x]).length=(Qm [x]).length:=by simp[QG,Qm]
   omega
 have all:∀y∈v,okM 3000 y:=fun y hy=>by
  have a:=Qcj y
  have b:=Qsi y hy
  have c:=QjF y hy
  have e:(Qm v).length<=2*s.length+2:=by
   cases m with
   | true=>
    have:(QG true v).length=(Qm v).length+1:=by simp[QG,Ql]
    omega
   | false=>
    obtain⟨x,rfl⟩:=w4 rfl
    have:(QG false [x]).length=(Qm [x]).length:=by simp[QG,Qm]
    omega
  exact⟨by omega,Qlx y _ _ (Qcw w2 y hy),by omega,by omega⟩
 have ok:QrG v:=by
  refine⟨by have:=QjG v;omega,all,by omega,?_⟩
  obtain⟨x,L,e⟩:=zX w1
  rw[e]at all ⊢
  exact all x (by simp)
 have tr:∀{q:SelD->Prop},(∀x n,q { x with size:=n } ↔ q x)->q Q4->(Q7 q A ↔ QU q (Vj v)):=by
  intro q hq hg
  rw[<-Uw hq A,<-ea,<-Qbw hq,Zt]
  cases m with
  | true=>simp[QG,Ql,hq,hg]
  | false=>
   obtain⟨x,rfl⟩:=w4 rfl
   simp[QG,Qm]
 have hsh:Q7 (shN (4*s.length+30)) A:=by
  exact (tr (fun x n=>Iff.rfl) ⟨zO _,zO _⟩).2 (QbP (by omega) v _ _ _ w2)
 refine⟨hv,ok,⟨by have:=Qdj (many:=m) (p:=p) hs;omega,fun j hj=>?_⟩,fun hp=>?_,?_⟩
 . have hB:Q7 (shN (4*s.length+30)) B:=by
    refine QcL B ?_ (.inl ?_)
    rw[<-Uw (fun x n=>Iff.rfl),<-eb]
    intro y hy
    obtain⟨z1,z2⟩:=hz y hy
    exact⟨z1,fun a b=>⟨by rw[z2 a];simp,by rw[b];simp⟩⟩
    rw[<-hn]
    exact QeL ⟨zO _,zO _⟩ A hsh
   rw[<-Uw (fun x n=>Iff.rfl),<-eb]at hB
   have:=hB _ (show (QX s m p).1.getD j default∈_ by rw[zd,zg hj];exact List.getElem_mem hj)
   unfold shN at this
   omega
 have hP:∀(x:SelD) (n:Int),(YP { x with size:=n }=true) ↔ YP x=true:=fun x n=>Iff.rfl
 have hB:Q7 (fun y=>YP y=true) B:=by
  rw[<-Uw hP,<-eb]
  unfold QnG at hp
  rw[List.all_eq_true]at hp
  exact hp
 have hA:Q7 (fun y=>YP y=true) A:=by
  refine QcL A ?_ (.inl (by rw[hn];exact QeL (p:=fun y=>YP y=true) (by decide) B hB))
  refine (tr (fun x n=>Iff.rfl) ⟨by decide,fun a=>by cases a⟩).2 (QaC ⟨by decide,fun a=>by cases a⟩ (fun y=>⟨(QaO y).1,fun a _=>?_⟩) v)
  unfold YP
  simp[a]
 have hC:=QaB v ((tr (q:=fun y=>YP y=true) hP (by decide)).1 hA)
 unfold prO
 rw[hv]
 cases m with
 | true=>exact Qop w1 hC w2
 | false=>
  obtain⟨x,rfl⟩:=w4 rfl
  rw[QfJ]at hC
  rw[Wfs]at w2
  exact Qrk hC.1 w2.1
 unfold prO
 rw[hv]
 have q:=ok.2.2.2.2.2.1
 cases m with
 | true=>simp only[if_true];omega
 | false=>simp only[Bool.false_eq_true,if_false];exact q
 rw[h]at h2;cases h2
end
section
open Go Go.RowKit
set_option maxRecDepth 20000
def c9 (svs:List SV) (b:Option SB):QR:=match svs,b with
 | [.str s,.bool m,.bool p],none=>some ([s.length<=9223372036854775807],.bool true)
 | _,_=>none
noncomputable def W9:Wk:=⟨[(10,.pure c10),(11,.plain c11),(12,.pure c12),(13,.pure c13),(20,.pure c20),(21,.pure c21)],Qe Tryz.f9,false,false,[.tmp 6],[4],[],[]⟩
theorem opz2 {c0 p0 p1 p2 q:Prop} (k:q) (h:c0->p0/\p1/\p2/\True:=by intro g0;(try simp at g0);exact⟨(by first | omega | (obtain⟨v,q⟩:=YF h2 g0.2 g0.1;exact q.sh) | (obtain⟨v,q⟩:=YF h2 h3.1.2 h3.1.1;first | exact q.len | exact fun u hu=>by rw[q.i]at hu;cases hu;exact q.ok) | (obtain⟨v,q⟩:=YF h2 h3.1.2 h3.1.1;have e:=q.pr h3.2;rw[h4]at e;cases e;have l:=QnV h2 h3.1.2 q.i;first | omega | exact l.2.2.2.1 | exact l.2.2.2.2.1)),(by first | omega | (obtain⟨v,q⟩:=YF h2 g0.2 g0.1;exact q.sh) | (obtain⟨v,q⟩:=YF h2 h3.1.2 h3.1.1;first | exact q.len | exact fun u hu=>by rw[q.i]at hu;cases hu;exact q.ok) | (obtain⟨v,q⟩:=YF h2 h3.1.2 h3.1.1;have e:=q.pr h3.2;rw[h4]at e;cases e;have l:=QnV h2 h3.1.2 q.i;first | omega | exact l.2.2.2.1 | exact l.2.2.2.2.1)),(by first | omega | (obtain⟨v,q⟩:=YF h2 g0.2 g0.1;exact q.sh) | (obtain⟨v,q⟩:=YF h2 h3.1.2 h3.1.1;first | exact q.len | exact fun u hu=>by rw[q.i]at hu;cases hu;exact q.ok) | (obtain⟨v,q⟩:=YF h2 h3.1.2 h3.1.1;have e:=q.pr h3.2;rw[h4]at e;cases e;have l:=QnV h2 h3.1.2 q.i;first | omega | exact l.2.2.2.1 | exact l.2.2.2.2.1)),trivial⟩):(c0->p0/\p1/\p2/\True)/\q:=⟨h,k⟩
theorem opz1 {c0 p0 q:Prop} (k:q) (h:c0->p0/\True:=by intro g0;(try simp at g0);exact⟨(by first | omega | (obtain⟨v,q⟩:=YF h2 g0.2 g0.1;exact q.sh) | (obtain⟨v,q⟩:=YF h2 h3.1.2 h3.1.1;first | exact q.len | exact fun u hu=>by rw[q.i]at hu;cases hu;exact q.ok) | (obtain⟨v,q⟩:=YF h2 h3.1.2 h3.1.1;have e:=q.pr h3.2;rw[h4]at e;cases e;have l:=QnV h2 h3.1.2 q.i;first | omega | exact l.2.2.2.1 | exact l.2.2.2.2.1)),trivial⟩):(c0->p0/\True)/\q:=⟨h,k⟩
theorem opz0 {p q:Prop} (k:q) (h:p:=by first | omega | (obtain⟨v,q⟩:=YF h2 g0.2 g0.1;exact q.sh) | (obtain⟨v,q⟩:=YF h2 h3.1.2 h3.1.1;first | exact q.len | exact fun u hu=>by rw[q.i]at hu;cases hu;exact q.ok) | (obtain⟨v,q⟩:=YF h2 h3.1.2 h3.1.1;have e:=q.pr h3.2;rw[h4]at e;cases e;have l:=QnV h2 h3.1.2 q.i;first | omega | exact l.2.2.2.1 | exact l.2.2.2.2.1)):p/\q:=⟨h,k⟩
theorem sat9:Sat 9 (Qz c9):=by
 have hD:Qa W9.D:=(Qa.cons has10 sat10 (Qa.cons has11 sat11 (Qa.cons has12 sat12 (Qa.cons has13 sat13 (Qa.cons has20 sat20 (Qa.cons has21 sat21 Qa.nil))))))
 refine W9.sa hD Tryz.f9 fun svs b K hP=>?_
 obtain⟨ps,v,e,hp,hk⟩:=Qh hP
 unfold c9 at e
 split at e
 rename_i s m p
 cases e
 obtain⟨h01,_⟩:=hp
 refine W9.en (have a0:=(QX s m p).1;have a1:=((prO s m p).2&&false)&&false;have a2:=(prO s m p).2||false;have a3:=(!(QX s m p).2.1)||(!(QX s m p).2.2);cond (decide (2147483647<s.length)) (K (.val (.bool true)) none) (cond (decide (1000<s.length)) (K (.val (.bool true)) none) ((s.length<=100000)/\(a3=false->(a0.length<=1000000000/\∀j,j<a0.length->(a0.getD j default).key.length<=80000/\(a0.getD j default).val.length<=80000)/\True)/\cond (a3||(!(QnG a0))) (K (.val (.bool true)) none) ((s.length<=1000000)/\(PrOk s m p)/\(((prO s m p).1).length<=1000000)/\Qt (QV ((prO s m p).1) m p) (fun v1=>((a2&&(decide (0<(QG m v1).length)))=true->(0<(QG m v1).length/\(QG m v1).length<=1000000000)/\True)/\((a2&&(decide (0<(QG m v1).length)))=true->(0<a0.length/\a0.length<=1000000000)/\True)/\((a2&&(decide (0<(QG m v1).length)))=true->((VP (QG m v1)).length<=1000000000/\(VP a0).length<=1000000000)/\(Ye (VP (QG m v1)))/\(Ye (VP a0))/\True)/\K (.val (.bool ((a2&&(decide (0<(QG m v1).length)))&&(Qdi (VP (QG m v1)) (VP a0))))) none) ((a1=true->(0<0/\0<=1000000000)/\True)/\(a1=true->(0<a0.length/\a0.length<=1000000000)/\True)/\(a1=true->((VP []).length<=1000000000/\(VP a0).length<=1000000000)/\(Ye (VP []))/\(Ye (VP a0))/\True)/\K (.val (.bool (a1&&(Qdi (VP []) (VP a0))))) none))))) ?_
 refine Qb ?_ ?_<;>intro h1<;>try simp[-zd,-ze]at h1
 exact hk
 refine Qb (fun h2=>?_) (fun h2=>?_)
 try simp[-zd,-ze]at h2
 exact hk
 try simp[-zd,-ze]at h2
 refine opz0 (opz1 ?_)
 refine Qb ?_ ?_<;>intro h3<;>try simp[-zd,-ze]at h3
 exact hk
 refine opz0 (opz0 (opz0 ?_))
 refine QJ (fun v1 h4=>?_) (fun h4=>?_)
 refine opz1 (opz1 (opz2 ?_))
 obtain⟨v,q⟩:=YF h2 h3.1.2 h3.1.1
 have e:=q.pr h3.2
 rw[h4]at e
 cases e
 have l:=QnV h2 h3.1.2 q.i
 have e2:(prO s m p).2=true:=by unfold prO;rw[q.i]
 refine ZW hk ?_
 rw[e2,l.2.2.2.2.2.1,decide_eq_true l.2.1.1]
 rfl
 exfalso
 obtain⟨v,q⟩:=YF h2 h3.1.2 h3.1.1
 have e:=q.pr h3.2
 rw[h4]at e
 cases e
 cases e
end
section
open Go Go.ChangeShapes Go.WideShapes Go.RowKit Go.Deep
set_option maxRecDepth 100000
theorem own:ownKnob zf.godebug=Option.none:=by kernel_rfl
theorem QhG {P:Program} {W:World}:∀{l:List (String×DataW Unit)} {ps:List MemPlace},DataW.LaidVars P W l ps->∀{n:String} {d:DataW Unit},(n,d)∈l ->
 ∃g t cs fuel p,P.globalNamed n=some g/\(P.globals[g]?).map (·.type)=some t/\W.var? P n=some cs/\DataW.trod (fun _=>()) P W 0 (fun _=>true) false fuel t cs.toList=some (d,p)
 | [],_,_,_,_,h=>by cases h
 | (_,_)::_,_,⟨g,t,cs,f,p,_,h1,h2,h3,h4,h5,_⟩,_,_,h=>by
  rcases zu.1 h with e | e
  cases e;exact⟨g,t,cs,f,p,h1,h2,h3,h4⟩
  exact QhG h5 e
theorem Qqn {fuel:Nat} {W:World} {cs:List Value} {n:String} {x:DataW Unit} {p:List MemPlace}
 (h:DataW.trod (fun _=>()) zf W 0 (fun _=>true) false fuel 71 cs=some (.iface n x,p)):∃u v,cs=[.iface u v]:=by
 cases fuel with
 | zero=>simp[DataW.trod]at h
 | succ f=>
  unfold DataW.trod at h
  rw[Tryz.underlying71]at h
  match cs,h with
  | [],h=>simp at h
  | [v],h=>cases v<;>simp at h<;>exact⟨_,_,rfl⟩
  | _::_::_,h=>simp at h
theorem Qtf {W:World} (h:laidMetH zf Rows.fnParseWrittenRow.laid W) (g:Nat) (hg:QjB g=true):∃u v T fr,W.heap[g]? = some (.cells #[.iface u v] T fr):=by
 rw[MakeChecks.laidMetH_plain _ _ _ (by kernel_rfl)]at h
 obtain⟨ps,h,_⟩:=h
 have one:∀(n:String) (a:String) (d:DataW Unit),(n,DataW.iface a d)∈Rows.fnParseWrittenRow.laid->zf.globalNamed n=some g->(zf.globals[g]?).map (·.type)=some 71->∃u v T fr,W.heap[g]? = some (.cells #[.iface u v] T fr):=by
  intro n a d hm hn ht
  obtain⟨g',t,cs,fuel,p,h1,h2,h3,h4⟩:=QhG h hm
  obtain rfl:=Option.some.inj (hn.symm.trans h1)
  obtain rfl:=Option.some.inj (ht.symm.trans h2)
  obtain⟨u,v,e⟩:=Qqn h4
  simp only[World.var?,hn,zQ]at h3
  split at h3
  rename_i c T fr hh
  cases h3
  refine⟨u,v,T,fr,?_⟩
  rw[hh]
  obtain⟨l⟩:=cs
  simp only at e
  rw[e]
  cases h3
 have hc:g=0\/g=1\/g=2\/g=4\/g=5:=by
  simp[QjB]at hg
  omega
 rcases hc with rfl | rfl | rfl | rfl | rfl
 exact one "given.example/pub-bosquet/pub/cascadia.errExpectedParenthesis" _ _ (xp (i := 5) rfl) (by kernel_rfl) (by kernel_rfl)
 exact one "given.example/pub-bosquet/pub/cascadia.errExpectedClosingParenthesis" _ _ (xp (i := 6) rfl) (by kernel_rfl) (by kernel_rfl)
 exact one "given.example/pub-bosquet/pub/cascadia.errUnmatchedParenthesis" _ _ (xp (i := 7) rfl) (by kernel_rfl) (by kernel_rfl)
 exact one "strconv.ErrSyntax" _ _ (xp (i := 4) rfl) (by kernel_rfl) (by kernel_rfl)
 exact one "strconv.ErrRange" _ _ (xp (i := 3) rfl) (by kernel_rfl) (by kernel_rfl)
def JV (W:World) (b:Nat):Option (Array Value×TypeId):=match W.heap[b]? with
 | some (.cells c T _)=>some (c,T)
 | _=>Option.none
theorem QrM {W:World} (h:laidMetH zf Rows.fnParseWrittenRow.laid W):∃T fr,W.heap[6]? = some (.cells ((List.range 20).map fun i=>Value.int .u64 ((10^i:Nat):Int)).toArray T fr):=by
 rw[MakeChecks.laidMetH_plain _ _ _ (by kernel_rfl)]at h
 obtain⟨ps,h,_⟩:=h
 obtain⟨g',t,cs,fuel,p,h1,h2,h3,h4⟩:=QhG h (xp (i:=2) rfl)
 obtain rfl := Option.some.inj ((show zf.globalNamed "internal/strconv.uint64pow10" = some 6 by kernel_rfl).symm.trans h1)
 obtain rfl:=Option.some.inj ((show (zf.globals[6]?).map (·.type)=some 207 by kernel_rfl).symm.trans h2)
 have hz:=Lib.cells_of_tab (zs:=(List.range 20).map fun i=>((10^i:Nat):Int)) (k:=.u64) (show zf.underlying 207=some (.array 20 182) by kernel_rfl) (by kernel_rfl) (by kernel_rfl) (by kernel_rfl) h4
 simp only[World.var?,h1,zQ]at h3
 split at h3
 rename_i c T fr hh
 cases h3
 refine⟨T,fr,?_⟩
 rw[hh]
 obtain⟨l⟩:=cs
 simp only at hz
 rw[hz,List.map_map]
 rfl
 cases h3
theorem Qbg {W:World} {b:Nat} {c:Array Value} {T:TypeId} {fr:Nat×Nat} (h:W.heap[b]? = some (.cells c T fr)):JV W b=some (c,T):=by
 unfold JV;rw[h]
theorem Qfu {W:World} {b:Nat} {c:Array Value} {T:TypeId} (e:JV W b=some (c,T)):∃fr,W.heap[b]? = some (.cells c T fr):=by
 unfold JV at e
 split at e
 rename_i h;cases e;exact⟨_,h⟩
 cases e
theorem Sat.calls {f:FuncId} {P:Spec} (hf:Sat f P) {W:World} (he:∀g,QjB g=true->∃u v T fr,W.heap[g]? = some (.cells #[.iface u v] T fr)) (ht:∃T fr,W.heap[6]? = some (.cells ((List.range 20).map fun i=>Value.int .u64 ((10^i:Nat):Int)).toArray T fr)) {svs:List SV} {args:Array Value} (hn:args.size=svs.length)
 (hr:∀(ω:Wit),ω.Γ=JV W->∀(i:Nat) (s:SV) (v:Value),svs[i]? = some s->args[i]? = some v->Rel ω s v) {s:SV} (hk:P svs Option.none fun o _=>o=.val s) :
 Calls zf f args W fun e W'=>∃v,e=.returned v/\(∃ω,Rel ω s v)/\Frame W (fun _=>False) W':=by
 let g0:Glob:=⟨JV W,fun g hg=>by
  obtain⟨u,v,T,fr,h⟩:=he g hg
  exact⟨u,v,T,Qbg h⟩,[],by obtain⟨T,fr,h⟩:=ht;exact⟨T,Qbg h⟩⟩
 have hS:Sim g0 W (fun _=>False) ⟨JV W,fun _=>0,fun _=>undef,1⟩ (loc Option.none) a0 W:={
  env:=fun i s e=>by simp[loc,elk,lk2]at e
  heap:=fun r b e=>by simp[loc,hlk]at e
  sep:=fun r r' b b' k e=>by simp[loc,hlk]at e
  ng:=fun r b k e=>by simp[loc,hlk]at e
  mine:=fun r b k e=>by simp[loc,hlk]at e
  nx:=fun r b e=>by simp[loc,hlk]at e
  wn:=rfl
  gam:=fun b c T e=>Qfu e
  fr:=Frame.refl W _
  df:=rfl
  gl:=fun b x e=>e
  gn:=fun b x e=>.inl e
  pin:=fun k hk=>hk.elim
  n0:=Nat.zero_lt_one }
 refine (hf g0 W _ _ svs args Option.none _ hS hn (fun i s v e1 e2=>hr _ rfl i s v e1 e2) hk).mono ?_
 rintro e W' ⟨v,o,b',he,rfl,ω',S',h1,_,h3⟩
 exact⟨v,he,⟨ω',h3.2⟩,h1.fr⟩
theorem Frame.kept {W W':World} (h:Frame W (fun _=>False) W') (may:MemPlace->Prop):W.keptBut W' may:=by
 refine⟨h.os,h.output,fun i hi=>?_⟩
 rw[h.block i hi (fun q=>q)]
 exact (World.keptBut_refl W may).2.2 i hi
section
variable {H:Type} {enc:TypeId×Value->H}
theorem QfW {W W':World} {sp sp':Nat->Bool}:∀{ns:List String} {gs:List (DataW H)} {q:List MemPlace},DataW.TrodVars enc zf W sp ns gs q ->
 (∀n∈ns,∃g u v T fr,zf.globalNamed n=some g/\(zf.globals[g]?).map (·.type)=some 71/\W.heap[g]? = some (.cells #[.iface u v] T fr)/\W'.heap[g]? = W.heap[g]?) ->
 DataW.TrodVars enc zf W' sp' ns gs q
 | [],[],_,h,_=>h
 | [],_::_,_,h,_=>h.elim
 | _::_,[],_,h,_=>h.elim
 | n::ns,d::gs,_,⟨g,t,cs,fuel,p,q,h1,h2,h3,h4,h5,h6⟩,hall=>by
  obtain⟨g',u,v,T,fr,k1,k2,k3,k4⟩:=hall n (xc ..)
  obtain rfl:=Option.some.inj (k1.symm.trans h1)
  obtain rfl:=Option.some.inj (k2.symm.trans h2)
  have e:cs = #[.iface u v]:=by
   simp only[World.var?,h1,zQ,k3,Option.some.injEq]at h3
   exact h3.symm
  subst e
  refine⟨g',71,#[.iface u v],fuel,p,q,h1,h2,?_,?_,QfW h5 fun m hm=>hall m (List.mem_cons_of_mem _ hm),h6⟩
  simp only[World.var?,h1,zQ,k4,k3]
  cases fuel with
  | zero=>simp[DataW.trod]at h4
  | succ f=>
   unfold DataW.trod at h4 ⊢
   rw[Tryz.underlying71]at h4 ⊢
   simpa using h4
theorem QjZ {W:World} {sp:Nat->Bool} {a b c:String} {gs:List (DataW H)} {q:List MemPlace} (h:DataW.TrodVars enc zf W sp [a,b,c] gs q):∃x y z,gs=[x,y,z]:=by
 match gs,h with
 | [],h=>exact h.elim
 | [x],⟨_,_,_,_,_,_,_,_,_,_,h,_⟩=>exact h.elim
 | [x,y],⟨_,_,_,_,_,_,_,_,_,_,⟨_,_,_,_,_,_,_,_,_,_,h,_⟩,_⟩=>exact h.elim
 | [x,y,z],_=>exact⟨x,y,z,rfl⟩
 | x::y::z::t::l,⟨_,_,_,_,_,_,_,_,_,_,⟨_,_,_,_,_,_,_,_,_,_,⟨_,_,_,_,_,_,_,_,_,_,h,_⟩,_⟩,_⟩=>exact h.elim
theorem Qj0 {W W':World} {sp sp':Nat->Bool} {gs:List (DataW H)} {q:List MemPlace} (hc:∀g,QjB g=true->∃u v T fr,W.heap[g]? = some (.cells #[.iface u v] T fr)) (hf:Frame W (fun _=>False) W')
 (hV : DataW.TrodVars enc zf W sp ["given.example/pub-bosquet/pub/cascadia.errExpectedParenthesis", "given.example/pub-bosquet/pub/cascadia.errExpectedClosingParenthesis", "given.example/pub-bosquet/pub/cascadia.errUnmatchedParenthesis"] gs q) :
 DataW.TrodVars enc zf W' sp' ["given.example/pub-bosquet/pub/cascadia.errExpectedParenthesis", "given.example/pub-bosquet/pub/cascadia.errExpectedClosingParenthesis", "given.example/pub-bosquet/pub/cascadia.errUnmatchedParenthesis"] gs q := by
 refine QfW hV fun n hn=>?_
 have fin:∀g,QjB g=true->zf.globalNamed n=some g->(zf.globals[g]?).map (·.type)=some 71 ->
  ∃g u v T fr,zf.globalNamed n=some g/\(zf.globals[g]?).map (·.type)=some 71/\W.heap[g]? = some (.cells #[.iface u v] T fr)/\W'.heap[g]? = W.heap[g]?:=by
  intro g hg k1 k2
  obtain⟨u,v,T,fr,k3⟩:=hc g hg
  exact⟨g,u,v,T,fr,k1,k2,k3,hf.block g (zA.1 k3).1 (fun q=>q)⟩
 simp only[zu,zJ,or_false]at hn
 rcases hn with rfl | rfl | rfl
 exact fin 0 rfl (by kernel_rfl) (by kernel_rfl)
 exact fin 1 rfl (by kernel_rfl) (by kernel_rfl)
 exact fin 2 rfl (by kernel_rfl) (by kernel_rfl)
end
theorem Qra (os:Os) (args:Array Value):laidMetH zf Rows.fnParseWrittenRow.laid ((World.doorLaid zf 124 os).forCall (fun _ _=>0) ⟨#[],args,[]⟩).memory:=by
 rw[MakeChecks.laidMetH_plain _ _ _ (by kernel_rfl)]
 exact laidMet_of_run' 8 (by kernel_rfl) (by kernel_rfl)
end
end Go.Proofs.YtengepcafdnalaaGreatDoor
