/-
  Parts of the proof that the law FnPrintGrammar holds for every input (texts Pb, Pc, Pd). Conditions: none.
-/
import Derived.Test.YtengepcafdnalaaGreatDoorM01
namespace Go.Proofs.YtengepcafdnalaaGreatDoor
open _root_.List renaming length_cons → zg, length_nil → zl, filter_cons_of_pos → xu
section
structure RS where
 p:Nat
 bad:Bool
 un:Bool
def RS.go (t:RS) (p:Nat):RS:={ t with p:=p }
def RS.unI (t:RS) (b:Bool):RS:={ t with un:=t.un||b }
def RS.no (t:RS):RS:={ t with bad:=true }
def Qj (x:SelD) (kids:List SelD):List SelD:=Qr x kids
def failL:List SelD:=[⟨1,0,[],[],0,0,0,1⟩]
def VP (k:Int):SelD:=⟨k,0,[],[],0,0,0,0⟩
def sSp (s:Bs) (t:RS):RS:=
 if t.bad=false/\t.p<s.length then
  if VT (bat s t.p)=true then sSp s (t.go (t.p+1))
  else if t.p+2<=s.length/\bat s t.p=47/\bat s (t.p+1)=42 then
   match h:V6 s (t.p+2) with
   | some j=>sSp s (t.go j)
   | none=>(t.unI true).no
  else t
 else t
 termination_by s.length-t.p
 decreasing_by
  . simp only[RS.go];omega
  have:=YW _ _ h;simp only[RS.go];omega
def JU (s:Bs) (i:Nat):Bool:=decide (i+1<s.length)&&decide (bat s i=92) && !YL (bat s (i+1))
def UG (s:Bs) (i:Nat):Nat:=if i<s.length/\bat s i=45 then i+1 else i
def Vo (s:Bs) (i:Nat):Bool:=(decide (UG s i<s.length)&&QI (bat s (UG s i)))||JU s (UG s i)
def VS (s:Bs) (i:Nat):Bool:=decide (i<s.length/\bat s i=45/\i+1<s.length/\bat s (i+1)=45)
def Yf (b:Nat):Nat×Nat×Nat:=
 if 194<=b/\b<224 then (b-192,2,128) else if 224<=b/\b<240 then (b-224,3,2048) else if 240<=b/\b<245 then (b-240,4,65536) else (0,0,0)
def Zo (s:Bs):Nat->Nat->Nat->Option Nat
 | 0,_,c=>some c
 | k+1,i,c=>if bat s i<128\/191<bat s i then none else Zo s k (i+1) (c*64+bat s i-128)
def Va (s:Bs) (i:Nat):Nat×Nat:=
 if bat s i<128 then (bat s i,1)
 else
  if (Yf (bat s i)).2.1=0\/s.length<i+(Yf (bat s i)).2.1 then (0,0)
  else match Zo s ((Yf (bat s i)).2.1-1) (i+1) (Yf (bat s i)).1 with
   | none=>(0,0)
   | some c=>if c<(Yf (bat s i)).2.2\/1114111<c\/(55296<=c/\c<57344) then (0,0) else (c,(Yf (bat s i)).2.1)
def VV (s:Bs) (i:Nat):Bool:=
 if i<s.length then
  if h:(Va s i).2=0\/(Va s i).1=0\/(Va s i).1=65279 then false else VV s (i+(Va s i).2)
 else true
 termination_by s.length-i
 decreasing_by simp only[not_or]at h;omega
def Z8 (n:Nat):Bool := !(decide (n=0)||decide (n=65279)||decide (1114111<n)||(decide (55296<=n)&&decide (n<57344)))
def VR (s:Bs) (t:RS):Bs×RS:=
 if QE s 6 (t.p+1)=t.p+1 then
  ((s.take (t.p+1+(Va s (t.p+1)).2)).drop (t.p+1),t.go (t.p+1+(Va s (t.p+1)).2))
 else if Z8 (VN ((s.take (QE s 6 (t.p+1))).drop (t.p+1)))=true then
  (Y6 (VN ((s.take (QE s 6 (t.p+1))).drop (t.p+1))),t.go (Q7 s (QE s 6 (t.p+1))))
 else ([],(t.go (Q7 s (QE s 6 (t.p+1)))).unI true)
theorem Qae (s:Bs) (t:RS):t.p+1<=(VR s t).2.p:=by
 have h1:=Qdv s 6 (t.p+1)
 have h2:=QeR s (QE s 6 (t.p+1))
 unfold VR
 repeat' split
 all_goals (simp only[RS.go,RS.unI];omega)
def VX (s:Bs) (t:RS) (acc:Bs):Bs×RS:=
 if t.p<s.length/\t.bad=false then
  if Qq (bat s t.p)=true then VX s (t.go (t.p+1)) (acc++[s.getD t.p 0])
  else if JU s t.p=true then VX s (VR s t).2 (acc++(VR s t).1)
  else (acc,t)
 else (acc,t)
 termination_by s.length-t.p
 decreasing_by
  . simp only[RS.go];omega
  have:=Qae s t;omega
def Qi (s:Bs) (t:RS):Bs×RS:=
 if Vo s t.p=true then VX s (t.unI (VS s t.p)) [] else ([],(t.unI (VS s t.p)).no)
def Zu (s:Bs) (t:RS):Bs×RS:=
 if Vo s t.p=true then (if t.bad=true then ([],t.unI (VS s t.p)) else VX s (t.unI (VS s t.p)) [])
 else if t.bad=true\/Qq (bat s t.p)=false then ([],(t.unI (VS s t.p||Qq (bat s t.p))).no)
 else VX s (t.unI true) []
def Vu (s:Bs) (q:Nat) (t:RS) (acc:Bs):Bs×RS:=
 if t.p<s.length then
  if bat s t.p=q then (acc,t.go (t.p+1))
  else if YL (bat s t.p)=true then ([],t.no)
  else if bat s t.p≠92 then Vu s q (t.go (t.p+1)) (acc++[s.getD t.p 0])
  else if JU s t.p=true then Vu s q (VR s t).2 (acc++(VR s t).1)
  else Vu s q (t.go (if bat s (t.p+1)=13/\bat s (t.p+2)=10/\t.p+3<=s.length then t.p+3 else t.p+2)) acc
 else ([],t.no)
 termination_by s.length-t.p
 decreasing_by
  . simp only[RS.go];omega
  . have:=Qae s t;omega
  simp only[RS.go];split<;>omega
def Jq (s:Bs) (t:RS):Bs×RS:=Vu s (bat s t.p) (t.go (t.p+1)) []
def isQ (c:Nat):Bool:=decide (c=34)||decide (c=39)
def Qs (s:Bs) (t:RS):Bs×RS:=
 if isQ (bat s t.p)=true then Jq s t
 else Qi s (t.unI (VS s t.p||(!Vo s t.p&&(Qq (bat s t.p)||decide (128<=bat s t.p)))))
def V8 (s:Bs) (i:Nat):Int×Nat:=
 if bat s i=61 then (2,1)
 else if bat s (i+1)=61 then
  (if bat s i=33 then (3,2) else if bat s i=126 then (4,2) else if bat s i=124 then (5,2) else if bat s i=94 then (6,2) else if bat s i=36 then (7,2) else if bat s i=42 then (8,2) else (1,0))
 else (1,0)
def Ji (s:Bs) (c:Nat) (x:SelD) (kids:List SelD) (t:RS):List SelD×RS:=
 if bat s t.p=c then (Qj x kids,t.go (t.p+1)) else (failL,t.no)
def Zg (s:Bs) (key:Bs) (op:Int) (val:Bs) (t:RS):List SelD×RS:=
 if t.bad=false/\(bat s t.p=105\/bat s t.p=73) then Ji s 93 ⟨5,op,key,val,0,0,1,0⟩ [] (sSp s (t.go (t.p+1)))
 else Ji s 93 ⟨5,op,key,val,0,0,0,0⟩ [] (t.unI (decide (bat s t.p=115)||decide (bat s t.p=83)))
def Y7 (s:Bs) (key:Bs) (t:RS):List SelD×RS:=
 if (V8 s t.p).1=1 then (failL,(t.unI (decide (bat s t.p=124)||decide (bat s t.p=35))).no)
 else Zg s key (V8 s t.p).1 (Qs s (sSp s (t.go (t.p+(V8 s t.p).2)))).1 (sSp s (Qs s (sSp s (t.go (t.p+(V8 s t.p).2)))).2)
def ZO (s:Bs) (t:RS):List SelD×RS:=
 let n:=Qi s (sSp s t)
 let t2:=sSp s n.2
 if t2.bad=true then (failL,t2.no)
 else if bat s t2.p=93 then (Qj ⟨5,1,low n.1,[],0,0,0,0⟩ [],t2.go (t2.p+1))
 else Y7 s (low n.1) t2
def Yt (n:Bs):Option SelD:=
 if n=[102,105,114,115,116,45,99,104,105,108,100] then some (⟨6,0,[],[],0,1,0,0⟩)
 else if n=[108,97,115,116,45,99,104,105,108,100] then some (⟨6,0,[],[],0,1,1,0⟩)
 else if n=[102,105,114,115,116,45,111,102,45,116,121,112,101] then some (⟨6,0,[],[],0,1,2,0⟩)
 else if n=[108,97,115,116,45,111,102,45,116,121,112,101] then some (⟨6,0,[],[],0,1,3,0⟩)
 else if n=[111,110,108,121,45,99,104,105,108,100] then some (⟨7,0,[],[],0,0,0,0⟩)
 else if n=[111,110,108,121,45,111,102,45,116,121,112,101] then some (⟨7,0,[],[],0,0,2,0⟩)
 else if n=[101,109,112,116,121] then some (VP 8)
 else if n=[114,111,111,116] then some (VP 9)
 else if n=[105,110,112,117,116] then some (VP 10)
 else if n=[108,105,110,107] then some (VP 11)
 else if n=[101,110,97,98,108,101,100] then some (VP 12)
 else if n=[100,105,115,97,98,108,101,100] then some (VP 13)
 else if n=[99,104,101,99,107,101,100] then some (VP 14)
 else none
def VH:List Bs:=[[118,105,115,105,116,101,100],[104,111,118,101,114],[97,99,116,105,118,101],[102,111,99,117,115],[116,97,114,103,101,116],[109,97,116,99,104,101,115],[109,97,116,99,104,101,115,111,119,110],[105,115],[119,104,101,114,101],[115,99,111,112,101],[102,105,114,115,116,45,108,105,110,101],[102,105,114,115,116,45,108,101,116,116,101,114],[98,101,102,111,114,101],[97,102,116,101,114],[97,110,121,45,108,105,110,107],[102,111,99,117,115,45,119,105,116,104,105,110],[102,111,99,117,115,45,118,105,115,105,98,108,101],[114,101,113,117,105,114,101,100],[111,112,116,105,111,110,97,108],[114,101,97,100,45,111,110,108,121],[114,101,97,100,45,119,114,105,116,101],[100,101,102,97,117,108,116],[118,97,108,105,100],[105,110,118,97,108,105,100],[105,110,100,101,116,101,114,109,105,110,97,116,101],[100,101,102,105,110,101,100],[102,117,108,108,115,99,114,101,101,110],[104,111,115,116],[108,111,99,97,108,45,108,105,110,107],[99,117,114,114,101,110,116],[112,97,115,116],[102,117,116,117,114,101],[100,105,114],[110,116,104,45,99,111,108],[110,116,104,45,108,97,115,116,45,99,111,108],[112,108,97,99,101,104,111,108,100,101,114,45,115,104,111,119,110],[105,110,45,114,97,110,103,101],[111,117,116,45,111,102,45,114,97,110,103,101],[112,97,114,101,110,116],[98,97,99,107,100,114,111,112],[99,117,101],[103,114,97,109,109,97,114,45,101,114,114,111,114],[109,97,114,107,101,114],[112,108,97,99,101,104,111,108,100,101,114],[115,101,108,101,99,116,105,111,110],[115,112,101,108,108,105,110,103,45,101,114,114,111,114],[104,101,97,100,101,114],[98,117,116,116,111,110],[99,104,101,99,107,98,111,120],[114,97,100,105,111],[115,117,98,109,105,116],[116,101,120,116],[105,109,97,103,101],[102,105,108,101],[112,97,115,115,119,111,114,100],[114,101,115,101,116],[115,101,108,101,99,116,101,100],[104,105,100,100,101,110],[118,105,115,105,98,108,101],[102,105,114,115,116],[108,97,115,116],[101,118,101,110],[111,100,100],[101,113],[103,116],[108,116]]
def QJ (n:Bs):Int:=if n=Vp then 0 else if n=QH then 1 else if n=VI then 2 else if n=QL then 3 else -1
def VW (n:Bs):Int:=if n=Zy then 18 else if n=Zz then 19 else if n=nHasChild then 20 else if n=VJ then 16 else if n=Q8 then 17 else if n=ZY then 15 else 0
def Vr (s:Bs) (t:RS) (n:Nat) (is:Bool):Nat×Bool×RS:=
 if Qv (bat s t.p)=true/\t.p<s.length then Vr s (t.go (t.p+1)) (min (10*n+(bat s t.p-48)) 100000) true
 else (n,is,t.unI (decide (n=100000)))
 termination_by s.length-t.p
 decreasing_by simp only[RS.go];omega
def ZS (s:Bs) (w:Bs) (i:Nat):Bool:=
 decide (i+w.length<=s.length)&&decide (low ((s.take (i+w.length)).drop i)=w) && !(decide (i+w.length<s.length)&&(Qq (bat s (i+w.length))||decide (bat s (i+w.length)=92)))
def Qbc (s:Bs) (i:Nat):Bool:=decide (bat s i=92)||decide (bat s (i+1)=92)||decide (bat s (i+2)=92)||decide (bat s (i+3)=92)
def ZU (s:Bs) (a:Int) (t:RS):(Int×Int)×RS:=
 let t1:=sSp s t
 let c:=bat s t1.p
 if c=43\/c=45 then
  let d:=Vr s (sSp s (t1.go (t1.p+1))) 0 false
  ((a,if c=45 then 0-(d.1:Int) else (d.1:Int)),if d.2.1=true then d.2.2 else d.2.2.no)
 else ((a,0),t1.unI ((decide (t1.p=t.p)&&(Qq c||decide (c=92)))||decide (c=111)||decide (c=79)||Qv c))
def YY (s:Bs) (sign:Int) (t:RS):(Int×Int)×RS:=
 let d:=Vr s t 0 false
 let t1:=d.2.2
 if isN (bat s t1.p)=true then ZU s (if d.2.1=true then sign*d.1 else sign) (t1.go (t1.p+1))
 else ((0,sign*d.1),(if d.2.1=true then t1 else t1.no).unI (Qbc s t1.p||(decide (bat s t1.p=111)&&decide (bat s (t1.p+1)=102))))
def VM (s:Bs) (t:RS):(Int×Int)×RS:=
 if ZS s [111,100,100] t.p=true then ((2,1),t.go (t.p+3))
 else if ZS s [101,118,101,110] t.p=true then ((2,0),t.go (t.p+4))
 else if bat s t.p=45 then YY s (-1) (t.go (t.p+1))
 else if bat s t.p=43 then YY s 1 (t.go (t.p+1))
 else YY s 1 t
def hiB (l:Bs):Bool:=l.any fun c=>decide (128<=c.toNat)
def V2 (G:RS->List SelD×RS) (s:Bs) (kind flag:Int) (t:RS):List SelD×RS:=
 let t1:=sSp s t
 let c:=bat s t1.p
 if 0<=flag then
  let n:=VM s t1
  let t2:=sSp s n.2
  if t2.bad=true then (failL,t2.no) else Ji s 41 ⟨6,0,[],[],n.1.1,n.1.2,flag,0⟩ [] t2
 else if 18<=kind then
  let g:=G (t1.unI (decide (c=62)||decide (c=43)||decide (c=126)))
  if g.2.bad=true then (failL,g.2.no) else Ji s 41 (VP kind) g.1 g.2
 else if kind=15 then
  let v:=Qi s (t1.unI (isQ c||decide (c=42)))
  let t2:=sSp s (v.2.unI (hiB v.1))
  let t3:=t2.unI (decide (bat s t2.p=44))
  if t3.bad=true then (failL,t3.no) else Ji s 41 ⟨15,0,[],low v.1,0,0,0,0⟩ [] t3
 else
  let v:=Qs s t1
  let t2:=sSp s (v.2.unI (hiB v.1))
  if t2.bad=true then (failL,t2.no) else Ji s 41 ⟨kind,0,[],low v.1,0,0,0,0⟩ [] t2
def Q5 (G:RS->List SelD×RS) (s:Bs) (t:RS):List SelD×RS:=
 let v:=Qi s t
 let n:=low v.1
 if v.2.bad=true then (failL,v.2.no)
 else match Yt n with
  | some x=>if bat s v.2.p=40 then (failL,(v.2.unI true).no) else (Qj x [],v.2)
  | none=>
   if n∈VH then (failL,(v.2.unI true).no)
   else if (QJ n<0/\VW n=0)\/bat s v.2.p≠40 then (failL,v.2.no)
   else V2 G s (VW n) (QJ n) (v.2.go (v.2.p+1))
def Y2:List Bs:=[[98,101,102,111,114,101],[97,102,116,101,114],[102,105,114,115,116,45,108,105,110,101],[102,105,114,115,116,45,108,101,116,116,101,114]]
def Ju (s:Bs) (t:RS):Bs×RS:=
 let v:=Qi s t
 (low v.1,v.2.unI (!decide (low v.1∈Y2)||decide (bat s v.2.p=40)))
def Qk (G:RS->List SelD×RS) (s:Bs) (t:RS):(List SelD×Bs)×RS:=
 if bat s t.p=46 then
  let v:=Qi s (t.go (t.p+1))
  ((Qj ⟨3,0,[],v.1,0,0,0,0⟩ [],[]),v.2)
 else if bat s t.p=35 then
  let v:=Zu s (t.go (t.p+1))
  ((Qj ⟨4,0,[],v.1,0,0,0,0⟩ [],[]),v.2)
 else if bat s t.p=91 then
  let v:=ZO s (t.go (t.p+1))
  ((v.1,[]),v.2)
 else if bat s (t.p+1)=58 then
  let v:=Ju s (t.go (t.p+2))
  (([],v.1),v.2)
 else
  let v:=Q5 G s (t.go (t.p+1))
  ((v.1,[]),v.2)
def Ve (G:RS->List SelD×RS) (s:Bs) (ps pseudo:Bool) (t:RS) (l:List SelD) (pe:Bs) (many:Nat):List SelD×RS:=
 if t.bad=false/\t.p<s.length/\Qx (bat s t.p)=true then
  let v:=Qk G s t
  if v.1.2≠[] then
   if pseudo=false then (failL,(v.2.unI ps).no)
   else if pe≠[] then (failL,(v.2.unI true).no)
   else if t.p<v.2.p then Ve G s ps pseudo v.2 l v.1.2 (many+1) else (failL,v.2.no)
  else if t.p<v.2.p then Ve G s ps pseudo (v.2.unI (decide (pe≠[]))) (l++v.1.1) pe (many+1) else (failL,v.2.no)
 else
  let t1:=t.unI (decide (bat s t.p=124)||decide (bat s t.p=42))
  if many=0 then (failL,t1.no) else (Qj ⟨21,0,[],pe,0,0,0,0⟩ l,t1)
 termination_by s.length-t.p
 decreasing_by all_goals (try simp only[RS.unI]);all_goals exact (by omega:s.length-v.2.p<s.length-t.p)
def VG (G:RS->List SelD×RS) (s:Bs) (ps pseudo:Bool) (t:RS):List SelD×RS:=
 if bat s t.p=42 then Ve G s ps pseudo (t.go (t.p+1)) [] [] 1
 else if Vo s t.p=true then
  let v:=Qi s (t.unI (VS s t.p))
  Ve G s ps pseudo v.2 (Qj ⟨2,0,low v.1,[],0,0,0,0⟩ []) [] 1
 else Ve G s ps pseudo (t.unI (VS s t.p)) [] [] 0
def J7 (l:List SelD):Nat->Nat->Bs
 | 0,_=>[]
 | n+1,i=>
  let x:=l.getD i default
  if x.kind=22 then J7 l n (lastKid l (i+x.size.toNat) (i+1) (i+1) n)
  else if x.kind=21 then x.val else []
where
 /-- The last of the kids that begin ahead of a place. -/
 lastKid (l:List SelD) (fin k last:Nat):Nat->Nat
 | 0=>last
 | n+1=>if k<fin then lastKid l fin (k+max 1 (l.getD k default).size.toNat) k n else last
def QdA (l:List SelD):Bool:=
 let x:=l.getD 0 default
 (decide (x.kind=21)&&decide (x.val≠[]))||(decide (x.kind=22)&&decide (J7 l (l.length+1) 0≠[]))
def Q6 (c:Nat):Int:=if c=62 then 2 else if c=43 then 3 else if c=126 then 4 else 0
def VU (G:RS->List SelD×RS) (s:Bs) (ps pseudo:Bool) (t:RS) (left:List SelD):List SelD×RS:=
 if t.bad=true then (left,t)
 else
  let t1:=sSp s t
  let c:=bat s t1.p
  let op:=if Q6 c≠0 then Q6 c else 1
  let t2:=if Q6 c≠0 then sSp s (t1.go (t1.p+1)) else t1
  if Q6 c=0/\(s.length<=t1.p\/c=44\/c=41\/t1.p<=t.p) then (left,t1)
  else if QdA left=true then (failL,(t2.unI true).no)
  else
   let r:=VG G s ps pseudo t2
   if t.p<r.2.p/\t.p<s.length then VU G s ps pseudo r.2 (Qj ⟨22,op,[],[],0,0,0,0⟩ (left++r.1))
   else (Qj ⟨22,op,[],[],0,0,0,0⟩ (left++r.1),r.2)
 termination_by s.length-t.p
 decreasing_by exact (by omega:s.length-r.2.p<s.length-t.p)
def Yj (G:RS->List SelD×RS) (s:Bs) (ps pseudo:Bool) (t:RS):List SelD×RS:=
 let r:=VG G s ps pseudo (sSp s t)
 VU G s ps pseudo r.2 r.1
def YJ (G:RS->List SelD×RS) (s:Bs) (ps pseudo:Bool) (t:RS) (l:List SelD):List SelD×RS:=
 if t.bad=false/\t.p<s.length/\bat s t.p=44 then
  let r:=Yj G s ps pseudo (t.go (t.p+1))
  if t.p<r.2.p then YJ G s ps pseudo r.2 (l++r.1) else (l++r.1,r.2)
 else (l,t)
 termination_by s.length-t.p
 decreasing_by exact (by omega:s.length-r.2.p<s.length-t.p)
def VF (G:RS->List SelD×RS) (s:Bs) (ps many pseudo:Bool) (t:RS):List SelD×RS:=
 let r:=Yj G s ps pseudo t
 let g:=if many=true then YJ G s ps pseudo r.2 r.1 else r
 (Qj Vj g.1,g.2)
def Qo (s:Bs) (ps:Bool):Nat->RS->List SelD×RS
 | 0,t=>(failL,t.no)
 | n+1,t=>VF (Qo s ps n) s ps true false t
def Vi (s:Bs) (many pseudo:Bool):List SelD×Bool×Bool:=
 if VV s 0=true then
  let g:=VF (Qo s pseudo (s.length+1)) s pseudo many pseudo ⟨0,false,false⟩
  if g.2.bad=true\/g.2.p<s.length then ([],false,!g.2.un)
  else (if many=true then g.1 else (g.1.drop 1).take (g.1.getD 1 default).size.toNat,true,!g.2.un)
 else ([],false,false)
end
section
@[simp] theorem RS.go_p (t:RS) (p:Nat):(t.go p).p=p:=rfl
@[simp] theorem RS.go_bad (t:RS) (p:Nat):(t.go p).bad=t.bad:=rfl
@[simp] theorem RS.go_un (t:RS) (p:Nat):(t.go p).un=t.un:=rfl
@[simp] theorem RS.unI_p (t:RS) (b:Bool):(t.unI b).p=t.p:=rfl
@[simp] theorem RS.unI_bad (t:RS) (b:Bool):(t.unI b).bad=t.bad:=rfl
@[simp] theorem RS.unI_un (t:RS) (b:Bool):(t.unI b).un=(t.un||b):=rfl
@[simp] theorem RS.no_p (t:RS):t.no.p=t.p:=rfl
@[simp] theorem RS.no_bad (t:RS):t.no.bad=true:=rfl
@[simp] theorem RS.no_un (t:RS):t.no.un=t.un:=rfl
@[simp] theorem RS.unI_f (t:RS):t.unI false=t:=by cases t;simp[RS.unI]
theorem RS.ext' {a b:RS} (h1:a.p=b.p) (h2:a.bad=b.bad) (h3:a.un=b.un):a=b:=by cases a;cases b;simp_all
theorem Vz (s:Bs) (t:RS) (h:t.un=true):(sSp s t).un=true:=by
 fun_induction sSp s t with
 | case1 t h1 h2 ih=>exact ih h
 | case2 t h1 h2 h3 j hj ih=>exact ih h
 | case3 t h1 h2 h3 hj=>simp
 | case4 t h1 h2 h3=>exact h
 | case5 t h1=>exact h
theorem QmE (s:Bs) (t:RS) (h:t.un=true):(VR s t).2.un=true:=by
 unfold VR;repeat' split
 all_goals simp[h]
theorem QaT (s:Bs) (t:RS) (acc:Bs) (h:t.un=true):(VX s t acc).2.un=true:=by
 fun_induction VX s t acc with
 | case1 t acc h1 h2 ih=>exact ih h
 | case2 t acc h1 h2 h3 ih=>exact ih (QmE s t h)
 | case3 t acc h1 h2 h3=>exact h
 | case4 t acc h1=>exact h
theorem ZT (s:Bs) (t:RS) (h:t.un=true):(Qi s t).2.un=true:=by
 unfold Qi;split
 exact QaT s _ _ (by simp[h])
 simp[h]
theorem Qqb (s:Bs) (t:RS) (h:t.un=true):(Zu s t).2.un=true:=by
 unfold Zu;repeat' split
 all_goals first | exact QaT s _ _ (by simp[h]) | simp[h]
theorem Qgx (s:Bs) (q:Nat) (t:RS) (acc:Bs) (h:t.un=true):(Vu s q t acc).2.un=true:=by
 fun_induction Vu s q t acc<;>first | exact h | (rename_i ih;exact ih (QmE s _ h)) | (rename_i ih;exact ih h)
theorem Qbj (s:Bs) (t:RS) (h:t.un=true):(Qs s t).2.un=true:=by
 unfold Qs;split
 exact Qgx s _ _ _ h
 exact ZT s _ (by simp[h])
theorem JQ (s:Bs) (c:Nat) (x:SelD) (k:List SelD) (t:RS) (h:t.un=true):(Ji s c x k t).2.un=true:=by
 unfold Ji;split<;>exact h
theorem Qbl (s key val:Bs) (op:Int) (t:RS) (h:t.un=true):(Zg s key op val t).2.un=true:=by
 unfold Zg;split
 exact JQ _ _ _ _ _ (Vz _ _ h)
 exact JQ _ _ _ _ _ (by simp[h])
theorem QgC (s key:Bs) (t:RS) (h:t.un=true):(Y7 s key t).2.un=true:=by
 unfold Y7;split
 simp[h]
 exact Qbl _ _ _ _ _ (Vz _ _ (Qbj _ _ (Vz _ _ h)))
theorem Qqi (s:Bs) (t:RS) (h:t.un=true):(ZO s t).2.un=true:=by
 have h1:=Vz s _ (ZT s _ (Vz s t h))
 unfold ZO;simp only;repeat' split
 exact h1
 exact h1
 exact QgC _ _ _ h1
theorem Qew (s:Bs) (t:RS) (n:Nat) (is:Bool) (h:t.un=true):(Vr s t n is).2.2.un=true:=by
 fun_induction Vr s t n is with
 | case1 t n is h1 ih=>exact ih h
 | case2 t n is h1=>simp[h]
theorem Qb0 (s:Bs) (a:Int) (t:RS) (h:t.un=true):(ZU s a t).2.un=true:=by
 have h1:=Vz s t h
 unfold ZU;simp only;repeat' split
 all_goals first | exact Qew _ _ _ _ (Vz _ _ h1) | simp[h1]
theorem Qk6 (s:Bs) (g:Int) (t:RS) (h:t.un=true):(YY s g t).2.un=true:=by
 have h1:=Qew s t 0 false h
 unfold YY;simp only;repeat' split
 all_goals first | exact Qb0 _ _ _ h1 | simp[h1]
theorem QgA (s:Bs) (t:RS) (h:t.un=true):(VM s t).2.un=true:=by
 unfold VM;repeat' split
 all_goals first | exact Qk6 _ _ _ h | exact h
theorem QmF {G:RS->List SelD×RS} (hG:∀t,t.un=true->(G t).2.un=true) (s:Bs) (k f:Int) (t:RS) (h:t.un=true):(V2 G s k f t).2.un=true:=by
 have h1:=Vz s t h
 have h2:=Vz s _ (QgA s _ h1)
 have h3:=fun b=>hG ((sSp s t).unI b) (by simp[h1])
 have h4:=fun b c=>Vz s ((Qi s ((sSp s t).unI b)).2.unI c) (by simp[ZT s ((sSp s t).unI b) (by simp[h1])])
 have h5:=fun c=>Vz s ((Qs s (sSp s t)).2.unI c) (by simp[Qbj s (sSp s t) h1])
 unfold V2;simp only
 split
 split
 exact h2
 exact JQ _ _ _ _ _ h2
 split
 split
 exact h3 _
 exact JQ _ _ _ _ _ (h3 _)
 split
 split
 simp[h4]
 exact JQ _ _ _ _ _ (by simp[h4])
 split
 exact h5 _
 exact JQ _ _ _ _ _ (h5 _)
theorem Qk3 {G:RS->List SelD×RS} (hG:∀t,t.un=true->(G t).2.un=true) (s:Bs) (t:RS) (h:t.un=true):(Q5 G s t).2.un=true:=by
 have h1:=ZT s t h
 unfold Q5;simp only;repeat' split
 all_goals first | exact QmF hG _ _ _ _ h1 | simp[h1]
theorem Qqg (s:Bs) (t:RS) (h:t.un=true):(Ju s t).2.un=true:=by
 simp[Ju,ZT s t h]
theorem Qk2 {G:RS->List SelD×RS} (hG:∀t,t.un=true->(G t).2.un=true) (s:Bs) (t:RS) (h:t.un=true):(Qk G s t).2.un=true:=by
 unfold Qk;simp only;repeat' split
 exact ZT _ _ h
 exact Qqb _ _ h
 exact Qqi _ _ h
 exact Qqg _ _ h
 exact Qk3 hG _ _ h
theorem Jk {G:RS->List SelD×RS} (hG:∀t,t.un=true->(G t).2.un=true) (s:Bs) (ps pseudo:Bool) (t:RS) (l:List SelD) (pe:Bs) (m:Nat) (h:t.un=true):(Ve G s ps pseudo t l pe m).2.un=true:=by
 fun_induction Ve G s ps pseudo t l pe m <;>
  (have hv:=Qk2 hG s _ h
   first
   | (simp +zetaDelta [hv];done)
   | (rename_i ih;exact ih hv)
   | (rename_i ih;exact ih (by simp +zetaDelta [hv]))
   | (simp +zetaDelta [h];done))
theorem Un {G:RS->List SelD×RS} (hG:∀t,t.un=true->(G t).2.un=true) (s:Bs) (ps pseudo:Bool) (t:RS) (h:t.un=true):(VG G s ps pseudo t).2.un=true:=by
 unfold VG;simp only;repeat' split
 exact Jk hG _ _ _ _ _ _ _ h
 exact Jk hG _ _ _ _ _ _ _ (ZT _ _ (by simp[h]))
 exact Jk hG _ _ _ _ _ _ _ (by simp[h])
theorem Jj {G:RS->List SelD×RS} (hG:∀t,t.un=true->(G t).2.un=true) (s:Bs) (ps pseudo:Bool) (t:RS) (left:List SelD) (h:t.un=true):(VU G s ps pseudo t left).2.un=true:=by
 fun_induction VU G s ps pseudo t left with
 | case1=>exact h
 | case2=>exact Vz _ _ h
 | case3=>simp
 | case4 t left h1 t1 c op t2 h2 h3 r h4 ih=>
  refine ih (Un hG _ _ _ _ ?_)
  show (if _ then _ else _:RS).un=true
  split
  exact Vz _ _ (Vz _ _ h)
  exact Vz _ _ h
 | case5 t left h1 t1 c op t2 h2 h3 r h4=>
  refine Un hG _ _ _ _ ?_
  show (if _ then _ else _:RS).un=true
  split
  exact Vz _ _ (Vz _ _ h)
  exact Vz _ _ h
theorem Qek {G:RS->List SelD×RS} (hG:∀t,t.un=true->(G t).2.un=true) (s:Bs) (ps pseudo:Bool) (t:RS) (h:t.un=true):(Yj G s ps pseudo t).2.un=true:=
 Jj hG _ _ _ _ _ (Un hG _ _ _ _ (Vz _ _ h))
theorem Qdg {G:RS->List SelD×RS} (hG:∀t,t.un=true->(G t).2.un=true) (s:Bs) (ps pseudo:Bool) (t:RS) (l:List SelD) (h:t.un=true):(YJ G s ps pseudo t l).2.un=true:=by
 fun_induction YJ G s ps pseudo t l with
 | case1 t l h1 r h2 ih=>exact ih (Qek hG _ _ _ _ h)
 | case2 t l h1 r h2=>exact Qek hG _ _ _ _ h
 | case3=>exact h
theorem Qqe {G:RS->List SelD×RS} (hG:∀t,t.un=true->(G t).2.un=true) (s:Bs) (ps many pseudo:Bool) (t:RS) (h:t.un=true):(VF G s ps many pseudo t).2.un=true:=by
 unfold VF;simp only;split
 exact Qdg hG _ _ _ _ _ (Qek hG _ _ _ _ h)
 exact Qek hG _ _ _ _ h
theorem Qcy (s:Bs) (ps:Bool):∀(n:Nat) (t:RS),t.un=true->(Qo s ps n t).2.un=true
 | 0,t,h=>h
 | n+1,t,h=>Qqe (Qcy s ps n) _ _ _ _ _ h
end
section
inductive ST where
 | mk (x:SelD) (ks:List ST)
mutual
def ST.flat:ST->List SelD
 | .mk x ks=>Qr x (ST.flats ks)
def ST.flats:List ST->List SelD
 | []=>[]
 | t::l=>t.flat++ST.flats l
end
def ST.node:ST->SelD
 | .mk x _=>x
def Qsq:SelD:=⟨1,0,[],[],0,0,0,0⟩
def Qdp (t:ST):Bool:=decide (t.node.kind=1)
def UN (x:SelD) (ks:List ST):ST:=
 if x.kind=21/\x.val=[] then
  match ks with
  | []=>.mk Qsq []
  | [k]=>k
  | ks=>.mk x ks
 else .mk x ks
def Z1 (x:SelD) (ks:List ST):List ST:=if x.kind=21 then ks.filter (fun t => !Qdp t) else ks
mutual
def ST.norm:ST->ST
 | .mk x ks=>UN x (Z1 x (ST.norms ks))
def ST.norms:List ST->List ST
 | []=>[]
 | t::l=>t.norm::ST.norms l
end
mutual
def Qt:CSel->ST
 | .rel n ks=>.mk (QQ (.rel n ks)) [.mk Vj (QS ks)]
 | .compound ks pe=>.mk (QQ (.compound ks pe)) (QS ks)
 | .combined f c s=>.mk (QQ (.combined f c s)) [Qt f,Qt s]
 | x=>.mk (QQ x) []
def QS:List CSel->List ST
 | []=>[]
 | x::l=>Qt x::QS l
end
theorem QcZ:∀a b,ST.flats (a++b)=ST.flats a++ST.flats b
 | [],b=>by simp[ST.flats]
 | t::a,b=>by simp[ST.flats,QcZ a b]
theorem Qal:∀a b,ST.norms (a++b)=ST.norms a++ST.norms b
 | [],b=>by simp[ST.norms]
 | t::a,b=>by simp[ST.norms,Qal a b]
theorem QaN:∀a b,QS (a++b)=QS a++QS b
 | [],b=>by simp[QS]
 | t::a,b=>by simp[QS,QaN a b]
mutual
theorem Uw:∀x,(Qt x).flat=Qz x
 | .rel n ks=>by simp[Qt,ST.flat,ST.flats,Qz,ZH ks]
 | .compound ks pe=>by simp[Qt,ST.flat,Qz,ZH ks]
 | .combined f c s=>by simp[Qt,ST.flat,ST.flats,Qz,Uw f,Uw s]
 | .tag k=>by simp[Qt,ST.flat,ST.flats,Qz]
 | .cls v=>by simp[Qt,ST.flat,ST.flats,Qz]
 | .idn v=>by simp[Qt,ST.flat,ST.flats,Qz]
 | .attr a b c d=>by simp[Qt,ST.flat,ST.flats,Qz]
 | .nth a b c d=>by simp[Qt,ST.flat,ST.flats,Qz]
 | .only a=>by simp[Qt,ST.flat,ST.flats,Qz]
 | .empty=>by simp[Qt,ST.flat,ST.flats,Qz]
 | .root=>by simp[Qt,ST.flat,ST.flats,Qz]
 | .input=>by simp[Qt,ST.flat,ST.flats,Qz]
 | .link=>by simp[Qt,ST.flat,ST.flats,Qz]
 | .enabled=>by simp[Qt,ST.flat,ST.flats,Qz]
 | .disabled=>by simp[Qt,ST.flat,ST.flats,Qz]
 | .checked=>by simp[Qt,ST.flat,ST.flats,Qz]
 | .lang a=>by simp[Qt,ST.flat,ST.flats,Qz]
 | .contains a b=>by simp[Qt,ST.flat,ST.flats,Qz]
 | .never a=>by simp[Qt,ST.flat,ST.flats,Qz]
theorem ZH:∀l,ST.flats (QS l)=Vk l
 | []=>by simp[QS,ST.flats,Vk]
 | x::l=>by simp[QS,ST.flats,Vk,Uw x,ZH l]
end
def MT (x:CSel) (l:List SelD):Prop:=∃T:ST,l=T.flat/\T.norm=(Qt x).norm
def MTs (xs:List CSel) (l:List SelD):Prop:=∃Ts:List ST,l=ST.flats Ts/\ST.norms Ts=ST.norms (QS xs)
def Smp:CSel->Prop
 | .compound _ _=>False
 | _=>True
theorem sign3 (n:Bs):(17+YI [Zy,Zz,nHasChild] n≠1)/\(17+YI [Zy,Zz,nHasChild] n≠21)/\(17+YI [Zy,Zz,nHasChild] n≠23):=by
 have h:0<=YI [Zy,Zz,nHasChild] n/\YI [Zy,Zz,nHasChild] n<=3:=by
  unfold YI
  split
  rename_i h
  simp only[zg,zl]at h
  omega
  omega
 omega
theorem QgR (x:CSel):(QQ x).kind≠1/\(Smp x->(QQ x).kind≠21)/\(QQ x).kind≠23:=by
 cases x<;>simp[QQ,Smp]
 rename_i v o;cases o<;>simp[b2i]
 rename_i n ks;exact sign3 n
theorem Qgp (x:CSel):∃ks,Qt x=.mk (QQ x) ks:=by
 cases x<;>simp[Qt]
theorem Qi9 {x:CSel} (h:Smp x):Qdp (Qt x).norm=false:=by
 obtain⟨ks,e⟩:=Qgp x
 obtain⟨h1,h2,_⟩:=QgR x
 have h3:=h2 h
 rw[e,ST.norm];unfold UN;rw[if_neg (fun h=>h3 h.1)]
 simp[Qdp,ST.node,h1]
theorem QgX {x:SelD}:∀{l:List CSel},(∀y∈l,Smp y)->Z1 x (ST.norms (QS l))=ST.norms (QS l):=by
 intro l h
 unfold Z1
 split
 . induction l with
   | nil=>simp[QS,ST.norms]
   | cons y l ih=>
    rw[QS,ST.norms,xu (by simp[Qi9 (h y (by simp))]),ih (fun z hz=>h z (by simp[hz]))]
 rfl
theorem MTs.nil:MTs [] []:=⟨[],by simp[ST.flats],by simp[QS]⟩
theorem MTs.snoc {xs:List CSel} {l:List SelD} {x:CSel} {m:List SelD} (h:MTs xs l) (k:MT x m):MTs (xs++[x]) (l++m):=by
 obtain⟨Ts,rfl,e⟩:=h
 obtain⟨T,rfl,e'⟩:=k
 exact⟨Ts++[T],by rw[QcZ];simp[ST.flats],by rw[Qal,QaN,Qal,e];simp[ST.norms,QS,e']⟩
theorem MTs.one {x:CSel} {m:List SelD} (k:MT x m):MTs [x] m:=by simpa using MTs.snoc MTs.nil k
theorem MTs.seq {xs:List CSel} {l:List SelD} (pe:Bs) (hs:∀y∈xs,Smp y) (h:MTs xs l):MT (VD xs pe) (Qj ⟨21,0,[],pe,0,0,0,0⟩ l):=by
 obtain⟨Ts,rfl,e⟩:=h
 refine⟨.mk ⟨21,0,[],pe,0,0,0,0⟩ Ts,by rw[ST.flat,Qj],?_⟩
 rw[ST.norm,e]
 have hc:(Qt (.compound xs pe)).norm=UN ⟨21,0,[],pe,0,0,0,0⟩ (Z1 ⟨21,0,[],pe,0,0,0,0⟩ (ST.norms (QS xs))):=by
  rw[Qt,ST.norm,QQ]
 unfold VD
 split
 rename_i x
 rw[QgX hs]
 simp[QS,ST.norms,UN]
 exact hc.symm
theorem MT.comb {f s:CSel} {c:UInt8} {op:Int} {a b:List SelD} (hf:MT f a) (hs:MT s b) (ho:YI [[32],[62],[43],[126]] (Y6 c.toNat)=op) :
 MT (.combined f c s) (Qj ⟨22,op,[],[],0,0,0,0⟩ (a++b)):=by
 obtain⟨A,rfl,ea⟩:=hf
 obtain⟨B,rfl,eb⟩:=hs
 refine⟨.mk ⟨22,op,[],[],0,0,0,0⟩ [A,B],by simp[ST.flat,ST.flats,Qj],?_⟩
 rw[Qt,ST.norm,ST.norm]
 simp only[ST.norms,ea,eb,QQ,ho]
theorem MT.rel {n:Bs} {ks:List CSel} {l:List SelD} {k:Int} (h:MTs ks l) (hk:17+YI [Zy,Zz,nHasChild] n=k):MT (.rel n ks) (Qj (VP k) (Qj Vj l)):=by
 obtain⟨Ts,rfl,e⟩:=h
 refine⟨.mk (VP k) [.mk Vj Ts],by simp[ST.flat,ST.flats,Qj],?_⟩
 rw[Qt,ST.norm,ST.norm]
 simp only[ST.norms,ST.norm,e,QQ,hk,VP]
theorem MT.leaf {x:CSel} (y:SelD) (h:Qz x=Qr y []) (e:QQ x=y) (k:Qt x=.mk (QQ x) []):MT x (Qj y []):=by
 refine⟨.mk y [],by simp[ST.flat,ST.flats,Qj],?_⟩
 rw[k,e]
end
end Go.Proofs.YtengepcafdnalaaGreatDoor
