/-
  Parts of the proof that the law FnPrintBack holds for every input (texts Pb, Pc, Pd). Conditions: none.
-/
import Derived.Test.YtengepcafdnalaaGreatDoorM01
namespace Go.Proofs.YtengepcafdnalaaGreatDoor
open _root_.List renaming mem_cons → zu, length_cons → zj, length_nil → zo
section
structure RS where
 p:Nat
 bad:Bool
 un:Bool
def RS.go (t:RS) (p:Nat):RS:={ t with p:=p }
def RS.unI (t:RS) (b:Bool):RS:={ t with un:=t.un||b }
def RS.no (t:RS):RS:={ t with bad:=true }
def Qi (x:SelD) (kids:List SelD):List SelD:=Ql x kids
def failL:List SelD:=[⟨1,0,[],[],0,0,0,1⟩]
def VJ (k:Int):SelD:=⟨k,0,[],[],0,0,0,0⟩
def sSp (s:Bs) (t:RS):RS:=
 if t.bad=false/\t.p<s.length then
  if VO (bat s t.p)=true then sSp s (t.go (t.p+1))
  else if t.p+2<=s.length/\bat s t.p=47/\bat s (t.p+1)=42 then
   match h:V4 s (t.p+2) with
   | some j=>sSp s (t.go j)
   | none=>(t.unI true).no
  else t
 else t
 termination_by s.length-t.p
 decreasing_by
  . simp only[RS.go];omega
  have:=YQ _ _ h;simp only[RS.go];omega
def Jy (s:Bs) (i:Nat):Bool:=decide (i+1<s.length)&&decide (bat s i=92) && !YI (bat s (i+1))
def Ud (s:Bs) (i:Nat):Nat:=if i<s.length/\bat s i=45 then i+1 else i
def Vo (s:Bs) (i:Nat):Bool:=(decide (Ud s i<s.length)&&QK (bat s (Ud s i)))||Jy s (Ud s i)
def VS (s:Bs) (i:Nat):Bool:=decide (i<s.length/\bat s i=45/\i+1<s.length/\bat s (i+1)=45)
def Ya (b:Nat):Nat×Nat×Nat:=
 if 194<=b/\b<224 then (b-192,2,128) else if 224<=b/\b<240 then (b-224,3,2048) else if 240<=b/\b<245 then (b-240,4,65536) else (0,0,0)
def ZG (s:Bs):Nat->Nat->Nat->Option Nat
 | 0,_,c=>some c
 | k+1,i,c=>if bat s i<128\/191<bat s i then none else ZG s k (i+1) (c*64+bat s i-128)
def Vn (s:Bs) (i:Nat):Nat×Nat:=
 if bat s i<128 then (bat s i,1)
 else
  if (Ya (bat s i)).2.1=0\/s.length<i+(Ya (bat s i)).2.1 then (0,0)
  else match ZG s ((Ya (bat s i)).2.1-1) (i+1) (Ya (bat s i)).1 with
   | none=>(0,0)
   | some c=>if c<(Ya (bat s i)).2.2\/1114111<c\/(55296<=c/\c<57344) then (0,0) else (c,(Ya (bat s i)).2.1)
def YH (s:Bs) (i:Nat):Bool:=
 if i<s.length then
  if h:(Vn s i).2=0\/(Vn s i).1=0\/(Vn s i).1=65279 then false else YH s (i+(Vn s i).2)
 else true
 termination_by s.length-i
 decreasing_by simp only[not_or]at h;omega
def ZO (n:Nat):Bool := !(decide (n=0)||decide (n=65279)||decide (1114111<n)||(decide (55296<=n)&&decide (n<57344)))
def VQ (s:Bs) (t:RS):Bs×RS:=
 if QD s 6 (t.p+1)=t.p+1 then
  ((s.take (t.p+1+(Vn s (t.p+1)).2)).drop (t.p+1),t.go (t.p+1+(Vn s (t.p+1)).2))
 else if ZO (VH ((s.take (QD s 6 (t.p+1))).drop (t.p+1)))=true then
  (YM (VH ((s.take (QD s 6 (t.p+1))).drop (t.p+1))),t.go (Vb s (QD s 6 (t.p+1))))
 else ([],(t.go (Vb s (QD s 6 (t.p+1)))).unI true)
theorem UF (s:Bs) (t:RS):t.p+1<=(VQ s t).2.p:=by
 have h1:=QcY s 6 (t.p+1)
 have h2:=Qeq s (QD s 6 (t.p+1))
 unfold VQ
 repeat' split
 all_goals (simp only[RS.go,RS.unI];omega)
def VZ (s:Bs) (t:RS) (acc:Bs):Bs×RS:=
 if t.p<s.length/\t.bad=false then
  if Qr (bat s t.p)=true then VZ s (t.go (t.p+1)) (acc++[s.getD t.p 0])
  else if Jy s t.p=true then VZ s (VQ s t).2 (acc++(VQ s t).1)
  else (acc,t)
 else (acc,t)
 termination_by s.length-t.p
 decreasing_by
  . simp only[RS.go];omega
  have:=UF s t;omega
def Qg (s:Bs) (t:RS):Bs×RS:=
 if Vo s t.p=true then VZ s (t.unI (VS s t.p)) [] else ([],(t.unI (VS s t.p)).no)
def Zl (s:Bs) (t:RS):Bs×RS:=
 if Vo s t.p=true then (if t.bad=true then ([],t.unI (VS s t.p)) else VZ s (t.unI (VS s t.p)) [])
 else if t.bad=true\/Qr (bat s t.p)=false then ([],(t.unI (VS s t.p||Qr (bat s t.p))).no)
 else VZ s (t.unI true) []
def Vv (s:Bs) (q:Nat) (t:RS) (acc:Bs):Bs×RS:=
 if t.p<s.length then
  if bat s t.p=q then (acc,t.go (t.p+1))
  else if YI (bat s t.p)=true then ([],t.no)
  else if bat s t.p≠92 then Vv s q (t.go (t.p+1)) (acc++[s.getD t.p 0])
  else if Jy s t.p=true then Vv s q (VQ s t).2 (acc++(VQ s t).1)
  else Vv s q (t.go (if bat s (t.p+1)=13/\bat s (t.p+2)=10/\t.p+3<=s.length then t.p+3 else t.p+2)) acc
 else ([],t.no)
 termination_by s.length-t.p
 decreasing_by
  . simp only[RS.go];omega
  . have:=UF s t;omega
  simp only[RS.go];split<;>omega
def Z5 (s:Bs) (t:RS):Bs×RS:=Vv s (bat s t.p) (t.go (t.p+1)) []
def isQ (c:Nat):Bool:=decide (c=34)||decide (c=39)
def Qs (s:Bs) (t:RS):Bs×RS:=
 if isQ (bat s t.p)=true then Z5 s t
 else Qg s (t.unI (VS s t.p||(!Vo s t.p&&(Qr (bat s t.p)||decide (128<=bat s t.p)))))
def V6 (s:Bs) (i:Nat):Int×Nat:=
 if bat s i=61 then (2,1)
 else if bat s (i+1)=61 then
  (if bat s i=33 then (3,2) else if bat s i=126 then (4,2) else if bat s i=124 then (5,2) else if bat s i=94 then (6,2) else if bat s i=36 then (7,2) else if bat s i=42 then (8,2) else (1,0))
 else (1,0)
def ZZ (s:Bs) (c:Nat) (x:SelD) (kids:List SelD) (t:RS):List SelD×RS:=
 if bat s t.p=c then (Qi x kids,t.go (t.p+1)) else (failL,t.no)
def Zb (s:Bs) (key:Bs) (op:Int) (val:Bs) (t:RS):List SelD×RS:=
 if t.bad=false/\(bat s t.p=105\/bat s t.p=73) then ZZ s 93 ⟨5,op,key,val,0,0,1,0⟩ [] (sSp s (t.go (t.p+1)))
 else ZZ s 93 ⟨5,op,key,val,0,0,0,0⟩ [] (t.unI (decide (bat s t.p=115)||decide (bat s t.p=83)))
def Y0 (s:Bs) (key:Bs) (t:RS):List SelD×RS:=
 if (V6 s t.p).1=1 then (failL,(t.unI (decide (bat s t.p=124)||decide (bat s t.p=35))).no)
 else Zb s key (V6 s t.p).1 (Qs s (sSp s (t.go (t.p+(V6 s t.p).2)))).1 (sSp s (Qs s (sSp s (t.go (t.p+(V6 s t.p).2)))).2)
def Zy (s:Bs) (t:RS):List SelD×RS:=
 let n:=Qg s (sSp s t)
 let t2:=sSp s n.2
 if t2.bad=true then (failL,t2.no)
 else if bat s t2.p=93 then (Qi ⟨5,1,low n.1,[],0,0,0,0⟩ [],t2.go (t2.p+1))
 else Y0 s (low n.1) t2
def Yx (n:Bs):Option SelD:=
 if n=[102,105,114,115,116,45,99,104,105,108,100] then some (⟨6,0,[],[],0,1,0,0⟩)
 else if n=[108,97,115,116,45,99,104,105,108,100] then some (⟨6,0,[],[],0,1,1,0⟩)
 else if n=[102,105,114,115,116,45,111,102,45,116,121,112,101] then some (⟨6,0,[],[],0,1,2,0⟩)
 else if n=[108,97,115,116,45,111,102,45,116,121,112,101] then some (⟨6,0,[],[],0,1,3,0⟩)
 else if n=[111,110,108,121,45,99,104,105,108,100] then some (⟨7,0,[],[],0,0,0,0⟩)
 else if n=[111,110,108,121,45,111,102,45,116,121,112,101] then some (⟨7,0,[],[],0,0,2,0⟩)
 else if n=[101,109,112,116,121] then some (VJ 8)
 else if n=[114,111,111,116] then some (VJ 9)
 else if n=[105,110,112,117,116] then some (VJ 10)
 else if n=[108,105,110,107] then some (VJ 11)
 else if n=[101,110,97,98,108,101,100] then some (VJ 12)
 else if n=[100,105,115,97,98,108,101,100] then some (VJ 13)
 else if n=[99,104,101,99,107,101,100] then some (VJ 14)
 else none
def VD:List Bs:=[[118,105,115,105,116,101,100],[104,111,118,101,114],[97,99,116,105,118,101],[102,111,99,117,115],[116,97,114,103,101,116],[109,97,116,99,104,101,115],[109,97,116,99,104,101,115,111,119,110],[105,115],[119,104,101,114,101],[115,99,111,112,101],[102,105,114,115,116,45,108,105,110,101],[102,105,114,115,116,45,108,101,116,116,101,114],[98,101,102,111,114,101],[97,102,116,101,114],[97,110,121,45,108,105,110,107],[102,111,99,117,115,45,119,105,116,104,105,110],[102,111,99,117,115,45,118,105,115,105,98,108,101],[114,101,113,117,105,114,101,100],[111,112,116,105,111,110,97,108],[114,101,97,100,45,111,110,108,121],[114,101,97,100,45,119,114,105,116,101],[100,101,102,97,117,108,116],[118,97,108,105,100],[105,110,118,97,108,105,100],[105,110,100,101,116,101,114,109,105,110,97,116,101],[100,101,102,105,110,101,100],[102,117,108,108,115,99,114,101,101,110],[104,111,115,116],[108,111,99,97,108,45,108,105,110,107],[99,117,114,114,101,110,116],[112,97,115,116],[102,117,116,117,114,101],[100,105,114],[110,116,104,45,99,111,108],[110,116,104,45,108,97,115,116,45,99,111,108],[112,108,97,99,101,104,111,108,100,101,114,45,115,104,111,119,110],[105,110,45,114,97,110,103,101],[111,117,116,45,111,102,45,114,97,110,103,101],[112,97,114,101,110,116],[98,97,99,107,100,114,111,112],[99,117,101],[103,114,97,109,109,97,114,45,101,114,114,111,114],[109,97,114,107,101,114],[112,108,97,99,101,104,111,108,100,101,114],[115,101,108,101,99,116,105,111,110],[115,112,101,108,108,105,110,103,45,101,114,114,111,114],[104,101,97,100,101,114],[98,117,116,116,111,110],[99,104,101,99,107,98,111,120],[114,97,100,105,111],[115,117,98,109,105,116],[116,101,120,116],[105,109,97,103,101],[102,105,108,101],[112,97,115,115,119,111,114,100],[114,101,115,101,116],[115,101,108,101,99,116,101,100],[104,105,100,100,101,110],[118,105,115,105,98,108,101],[102,105,114,115,116],[108,97,115,116],[101,118,101,110],[111,100,100],[101,113],[103,116],[108,116]]
def QH (n:Bs):Int:=if n=VE then 0 else if n=QM then 1 else if n=VK then 2 else if n=QL then 3 else -1
def VW (n:Bs):Int:=if n=Zz then 18 else if n=ZA then 19 else if n=QN then 20 else if n=VV then 16 else if n=Vc then 17 else if n=Jc then 15 else 0
def Vt (s:Bs) (t:RS) (n:Nat) (is:Bool):Nat×Bool×RS:=
 if Qu (bat s t.p)=true/\t.p<s.length then Vt s (t.go (t.p+1)) (min (10*n+(bat s t.p-48)) 100000) true
 else (n,is,t.unI (decide (n=100000)))
 termination_by s.length-t.p
 decreasing_by simp only[RS.go];omega
def ZC (s:Bs) (w:Bs) (i:Nat):Bool:=
 decide (i+w.length<=s.length)&&decide (low ((s.take (i+w.length)).drop i)=w) && !(decide (i+w.length<s.length)&&(Qr (bat s (i+w.length))||decide (bat s (i+w.length)=92)))
def Qav (s:Bs) (i:Nat):Bool:=decide (bat s i=92)||decide (bat s (i+1)=92)||decide (bat s (i+2)=92)||decide (bat s (i+3)=92)
def ZE (s:Bs) (a:Int) (t:RS):(Int×Int)×RS:=
 let t1:=sSp s t
 let c:=bat s t1.p
 if c=43\/c=45 then
  let d:=Vt s (sSp s (t1.go (t1.p+1))) 0 false
  ((a,if c=45 then 0-(d.1:Int) else (d.1:Int)),if d.2.1=true then d.2.2 else d.2.2.no)
 else ((a,0),t1.unI ((decide (t1.p=t.p)&&(Qr c||decide (c=92)))||decide (c=111)||decide (c=79)||Qu c))
def YT (s:Bs) (sign:Int) (t:RS):(Int×Int)×RS:=
 let d:=Vt s t 0 false
 let t1:=d.2.2
 if isN (bat s t1.p)=true then ZE s (if d.2.1=true then sign*d.1 else sign) (t1.go (t1.p+1))
 else ((0,sign*d.1),(if d.2.1=true then t1 else t1.no).unI (Qav s t1.p||(decide (bat s t1.p=111)&&decide (bat s (t1.p+1)=102))))
def VG (s:Bs) (t:RS):(Int×Int)×RS:=
 if ZC s [111,100,100] t.p=true then ((2,1),t.go (t.p+3))
 else if ZC s [101,118,101,110] t.p=true then ((2,0),t.go (t.p+4))
 else if bat s t.p=45 then YT s (-1) (t.go (t.p+1))
 else if bat s t.p=43 then YT s 1 (t.go (t.p+1))
 else YT s 1 t
def hiB (l:Bs):Bool:=l.any fun c=>decide (128<=c.toNat)
def V3 (G:RS->List SelD×RS) (s:Bs) (kind flag:Int) (t:RS):List SelD×RS:=
 let t1:=sSp s t
 let c:=bat s t1.p
 if 0<=flag then
  let n:=VG s t1
  let t2:=sSp s n.2
  if t2.bad=true then (failL,t2.no) else ZZ s 41 ⟨6,0,[],[],n.1.1,n.1.2,flag,0⟩ [] t2
 else if 18<=kind then
  let g:=G (t1.unI (decide (c=62)||decide (c=43)||decide (c=126)))
  if g.2.bad=true then (failL,g.2.no) else ZZ s 41 (VJ kind) g.1 g.2
 else if kind=15 then
  let v:=Qg s (t1.unI (isQ c||decide (c=42)))
  let t2:=sSp s (v.2.unI (hiB v.1))
  let t3:=t2.unI (decide (bat s t2.p=44))
  if t3.bad=true then (failL,t3.no) else ZZ s 41 ⟨15,0,[],low v.1,0,0,0,0⟩ [] t3
 else
  let v:=Qs s t1
  let t2:=sSp s (v.2.unI (hiB v.1))
  if t2.bad=true then (failL,t2.no) else ZZ s 41 ⟨kind,0,[],low v.1,0,0,0,0⟩ [] t2
def Q8 (G:RS->List SelD×RS) (s:Bs) (t:RS):List SelD×RS:=
 let v:=Qg s t
 let n:=low v.1
 if v.2.bad=true then (failL,v.2.no)
 else match Yx n with
  | some x=>if bat s v.2.p=40 then (failL,(v.2.unI true).no) else (Qi x [],v.2)
  | none=>
   if n∈VD then (failL,(v.2.unI true).no)
   else if (QH n<0/\VW n=0)\/bat s v.2.p≠40 then (failL,v.2.no)
   else V3 G s (VW n) (QH n) (v.2.go (v.2.p+1))
def YV:List Bs:=[[98,101,102,111,114,101],[97,102,116,101,114],[102,105,114,115,116,45,108,105,110,101],[102,105,114,115,116,45,108,101,116,116,101,114]]
def Ja (s:Bs) (t:RS):Bs×RS:=
 let v:=Qg s t
 (low v.1,v.2.unI (!decide (low v.1∈YV)||decide (bat s v.2.p=40)))
def Qo (G:RS->List SelD×RS) (s:Bs) (t:RS):(List SelD×Bs)×RS:=
 if bat s t.p=46 then
  let v:=Qg s (t.go (t.p+1))
  ((Qi ⟨3,0,[],v.1,0,0,0,0⟩ [],[]),v.2)
 else if bat s t.p=35 then
  let v:=Zl s (t.go (t.p+1))
  ((Qi ⟨4,0,[],v.1,0,0,0,0⟩ [],[]),v.2)
 else if bat s t.p=91 then
  let v:=Zy s (t.go (t.p+1))
  ((v.1,[]),v.2)
 else if bat s (t.p+1)=58 then
  let v:=Ja s (t.go (t.p+2))
  (([],v.1),v.2)
 else
  let v:=Q8 G s (t.go (t.p+1))
  ((v.1,[]),v.2)
def Vh (G:RS->List SelD×RS) (s:Bs) (ps pseudo:Bool) (t:RS) (l:List SelD) (pe:Bs) (many:Nat):List SelD×RS:=
 if t.bad=false/\t.p<s.length/\Qv (bat s t.p)=true then
  let v:=Qo G s t
  if v.1.2≠[] then
   if pseudo=false then (failL,(v.2.unI ps).no)
   else if pe≠[] then (failL,(v.2.unI true).no)
   else if t.p<v.2.p then Vh G s ps pseudo v.2 l v.1.2 (many+1) else (failL,v.2.no)
  else if t.p<v.2.p then Vh G s ps pseudo (v.2.unI (decide (pe≠[]))) (l++v.1.1) pe (many+1) else (failL,v.2.no)
 else
  let t1:=t.unI (decide (bat s t.p=124)||decide (bat s t.p=42))
  if many=0 then (failL,t1.no) else (Qi ⟨21,0,[],pe,0,0,0,0⟩ l,t1)
 termination_by s.length-t.p
 decreasing_by all_goals (try simp only[RS.unI]);all_goals exact (by omega:s.length-v.2.p<s.length-t.p)
def VB (G:RS->List SelD×RS) (s:Bs) (ps pseudo:Bool) (t:RS):List SelD×RS:=
 if bat s t.p=42 then Vh G s ps pseudo (t.go (t.p+1)) [] [] 1
 else if Vo s t.p=true then
  let v:=Qg s (t.unI (VS s t.p))
  Vh G s ps pseudo v.2 (Qi ⟨2,0,low v.1,[],0,0,0,0⟩ []) [] 1
 else Vh G s ps pseudo (t.unI (VS s t.p)) [] [] 0
def JM (l:List SelD):Nat->Nat->Bs
 | 0,_=>[]
 | n+1,i=>
  let x:=l.getD i default
  if x.kind=22 then JM l n (lastKid l (i+x.size.toNat) (i+1) (i+1) n)
  else if x.kind=21 then x.val else []
where
 /-- The last of the kids that begin ahead of a place. -/
 lastKid (l:List SelD) (fin k last:Nat):Nat->Nat
 | 0=>last
 | n+1=>if k<fin then lastKid l fin (k+max 1 (l.getD k default).size.toNat) k n else last
def Qc2 (l:List SelD):Bool:=
 let x:=l.getD 0 default
 (decide (x.kind=21)&&decide (x.val≠[]))||(decide (x.kind=22)&&decide (JM l (l.length+1) 0≠[]))
def Va (c:Nat):Int:=if c=62 then 2 else if c=43 then 3 else if c=126 then 4 else 0
def VU (G:RS->List SelD×RS) (s:Bs) (ps pseudo:Bool) (t:RS) (left:List SelD):List SelD×RS:=
 if t.bad=true then (left,t)
 else
  let t1:=sSp s t
  let c:=bat s t1.p
  let op:=if Va c≠0 then Va c else 1
  let t2:=if Va c≠0 then sSp s (t1.go (t1.p+1)) else t1
  if Va c=0/\(s.length<=t1.p\/c=44\/c=41\/t1.p<=t.p) then (left,t1)
  else if Qc2 left=true then (failL,(t2.unI true).no)
  else
   let r:=VB G s ps pseudo t2
   if t.p<r.2.p/\t.p<s.length then VU G s ps pseudo r.2 (Qi ⟨22,op,[],[],0,0,0,0⟩ (left++r.1))
   else (Qi ⟨22,op,[],[],0,0,0,0⟩ (left++r.1),r.2)
 termination_by s.length-t.p
 decreasing_by exact (by omega:s.length-r.2.p<s.length-t.p)
def Yh (G:RS->List SelD×RS) (s:Bs) (ps pseudo:Bool) (t:RS):List SelD×RS:=
 let r:=VB G s ps pseudo (sSp s t)
 VU G s ps pseudo r.2 r.1
def YG (G:RS->List SelD×RS) (s:Bs) (ps pseudo:Bool) (t:RS) (l:List SelD):List SelD×RS:=
 if t.bad=false/\t.p<s.length/\bat s t.p=44 then
  let r:=Yh G s ps pseudo (t.go (t.p+1))
  if t.p<r.2.p then YG G s ps pseudo r.2 (l++r.1) else (l++r.1,r.2)
 else (l,t)
 termination_by s.length-t.p
 decreasing_by exact (by omega:s.length-r.2.p<s.length-t.p)
def VI (G:RS->List SelD×RS) (s:Bs) (ps many pseudo:Bool) (t:RS):List SelD×RS:=
 let r:=Yh G s ps pseudo t
 let g:=if many=true then YG G s ps pseudo r.2 r.1 else r
 (Qi Q4 g.1,g.2)
def Qq (s:Bs) (ps:Bool):Nat->RS->List SelD×RS
 | 0,t=>(failL,t.no)
 | n+1,t=>VI (Qq s ps n) s ps true false t
def QX (s:Bs) (many pseudo:Bool):List SelD×Bool×Bool:=
 if YH s 0=true then
  let g:=VI (Qq s pseudo (s.length+1)) s pseudo many pseudo ⟨0,false,false⟩
  if g.2.bad=true\/g.2.p<s.length then ([],false,!g.2.un)
  else (if many=true then g.1 else (g.1.drop 1).take (g.1.getD 1 default).size.toNat,true,!g.2.un)
 else ([],false,false)
end
section
@[simp] theorem RS.go_p (t:RS) (p:Nat):(t.go p).p=p:=rfl
@[simp] theorem RS.go_bad (t:RS) (p:Nat):(t.go p).bad=t.bad:=rfl
@[simp] theorem RS.go_un (t:RS) (p:Nat):(t.go p).un=t.un:=rfl
@[simp] theorem RS.unI_p (t:RS) (b:Bool):(t.unI b).p=t.p:=rfl
@[simp] theorem RS.unI_bad (t:RS) (b:Bool):(t.unI b).bad=t.bad:=rfl
@[simp] theorem RS.unI_un (t:RS) (b:Bool):(t.unI b).un=(t.un||b):=rfl
@[simp] theorem RS.no_p (t:RS):t.no.p=t.p:=rfl
@[simp] theorem RS.no_bad (t:RS):t.no.bad=true:=rfl
@[simp] theorem RS.no_un (t:RS):t.no.un=t.un:=rfl
@[simp] theorem RS.unI_f (t:RS):t.unI false=t:=by cases t;simp[RS.unI]
theorem RS.ext' {a b:RS} (h1:a.p=b.p) (h2:a.bad=b.bad) (h3:a.un=b.un):a=b:=by cases a;cases b;simp_all
theorem Vz (s:Bs) (t:RS) (h:t.un=true):(sSp s t).un=true:=by
 fun_induction sSp s t with
 | case1 t h1 h2 ih=>exact ih h
 | case2 t h1 h2 h3 j hj ih=>exact ih h
 | case3 t h1 h2 h3 hj=>simp
 | case4 t h1 h2 h3=>exact h
 | case5 t h1=>exact h
theorem QlM (s:Bs) (t:RS) (h:t.un=true):(VQ s t).2.un=true:=by
 unfold VQ;repeat' split
 all_goals simp[h]
theorem Qae (s:Bs) (t:RS) (acc:Bs) (h:t.un=true):(VZ s t acc).2.un=true:=by
 fun_induction VZ s t acc with
 | case1 t acc h1 h2 ih=>exact ih h
 | case2 t acc h1 h2 h3 ih=>exact ih (QlM s t h)
 | case3 t acc h1 h2 h3=>exact h
 | case4 t acc h1=>exact h
theorem ZD (s:Bs) (t:RS) (h:t.un=true):(Qg s t).2.un=true:=by
 unfold Qg;split
 exact Qae s _ _ (by simp[h])
 simp[h]
theorem Qpt (s:Bs) (t:RS) (h:t.un=true):(Zl s t).2.un=true:=by
 unfold Zl;repeat' split
 all_goals first | exact Qae s _ _ (by simp[h]) | simp[h]
theorem Qf5 (s:Bs) (q:Nat) (t:RS) (acc:Bs) (h:t.un=true):(Vv s q t acc).2.un=true:=by
 fun_induction Vv s q t acc<;>first | exact h | (rename_i ih;exact ih (QlM s _ h)) | (rename_i ih;exact ih h)
theorem QaG (s:Bs) (t:RS) (h:t.un=true):(Qs s t).2.un=true:=by
 unfold Qs;split
 exact Qf5 s _ _ _ h
 exact ZD s _ (by simp[h])
theorem Jv (s:Bs) (c:Nat) (x:SelD) (k:List SelD) (t:RS) (h:t.un=true):(ZZ s c x k t).2.un=true:=by
 unfold ZZ;split<;>exact h
theorem QaI (s key val:Bs) (op:Int) (t:RS) (h:t.un=true):(Zb s key op val t).2.un=true:=by
 unfold Zb;split
 exact Jv _ _ _ _ _ (Vz _ _ h)
 exact Jv _ _ _ _ _ (by simp[h])
theorem Qga (s key:Bs) (t:RS) (h:t.un=true):(Y0 s key t).2.un=true:=by
 unfold Y0;split
 simp[h]
 exact QaI _ _ _ _ _ (Vz _ _ (QaG _ _ (Vz _ _ h)))
theorem QpA (s:Bs) (t:RS) (h:t.un=true):(Zy s t).2.un=true:=by
 have h1:=Vz s _ (ZD s _ (Vz s t h))
 unfold Zy;simp only;repeat' split
 exact h1
 exact h1
 exact Qga _ _ _ h1
theorem Qd4 (s:Bs) (t:RS) (n:Nat) (is:Bool) (h:t.un=true):(Vt s t n is).2.2.un=true:=by
 fun_induction Vt s t n is with
 | case1 t n is h1 ih=>exact ih h
 | case2 t n is h1=>simp[h]
theorem Qbo (s:Bs) (a:Int) (t:RS) (h:t.un=true):(ZE s a t).2.un=true:=by
 have h1:=Vz s t h
 unfold ZE;simp only;repeat' split
 all_goals first | exact Qd4 _ _ _ _ (Vz _ _ h1) | simp[h1]
theorem Qkf (s:Bs) (g:Int) (t:RS) (h:t.un=true):(YT s g t).2.un=true:=by
 have h1:=Qd4 s t 0 false h
 unfold YT;simp only;repeat' split
 all_goals first | exact Qbo _ _ _ h1 | simp[h1]
theorem Qf8 (s:Bs) (t:RS) (h:t.un=true):(VG s t).2.un=true:=by
 unfold VG;repeat' split
 all_goals first | exact Qkf _ _ _ h | exact h
theorem QlN {G:RS->List SelD×RS} (hG:∀t,t.un=true->(G t).2.un=true) (s:Bs) (k f:Int) (t:RS) (h:t.un=true):(V3 G s k f t).2.un=true:=by
 have h1:=Vz s t h
 have h2:=Vz s _ (Qf8 s _ h1)
 have h3:=fun b=>hG ((sSp s t).unI b) (by simp[h1])
 have h4:=fun b c=>Vz s ((Qg s ((sSp s t).unI b)).2.unI c) (by simp[ZD s ((sSp s t).unI b) (by simp[h1])])
 have h5:=fun c=>Vz s ((Qs s (sSp s t)).2.unI c) (by simp[QaG s (sSp s t) h1])
 unfold V3;simp only
 split
 split
 exact h2
 exact Jv _ _ _ _ _ h2
 split
 split
 exact h3 _
 exact Jv _ _ _ _ _ (h3 _)
 split
 split
 simp[h4]
 exact Jv _ _ _ _ _ (by simp[h4])
 split
 exact h5 _
 exact Jv _ _ _ _ _ (h5 _)
theorem Qkc {G:RS->List SelD×RS} (hG:∀t,t.un=true->(G t).2.un=true) (s:Bs) (t:RS) (h:t.un=true):(Q8 G s t).2.un=true:=by
 have h1:=ZD s t h
 unfold Q8;simp only;repeat' split
 all_goals first | exact QlN hG _ _ _ _ h1 | simp[h1]
theorem Qpy (s:Bs) (t:RS) (h:t.un=true):(Ja s t).2.un=true:=by
 simp[Ja,ZD s t h]
theorem Qkb {G:RS->List SelD×RS} (hG:∀t,t.un=true->(G t).2.un=true) (s:Bs) (t:RS) (h:t.un=true):(Qo G s t).2.un=true:=by
 unfold Qo;simp only;repeat' split
 exact ZD _ _ h
 exact Qpt _ _ h
 exact QpA _ _ h
 exact Qpy _ _ h
 exact Qkc hG _ _ h
theorem Z1 {G:RS->List SelD×RS} (hG:∀t,t.un=true->(G t).2.un=true) (s:Bs) (ps pseudo:Bool) (t:RS) (l:List SelD) (pe:Bs) (m:Nat) (h:t.un=true):(Vh G s ps pseudo t l pe m).2.un=true:=by
 fun_induction Vh G s ps pseudo t l pe m <;>
  (have hv:=Qkb hG s _ h
   first
   | (simp +zetaDelta [hv];done)
   | (rename_i ih;exact ih hv)
   | (rename_i ih;exact ih (by simp +zetaDelta [hv]))
   | (simp +zetaDelta [h];done))
theorem J1 {G:RS->List SelD×RS} (hG:∀t,t.un=true->(G t).2.un=true) (s:Bs) (ps pseudo:Bool) (t:RS) (h:t.un=true):(VB G s ps pseudo t).2.un=true:=by
 unfold VB;simp only;repeat' split
 exact Z1 hG _ _ _ _ _ _ _ h
 exact Z1 hG _ _ _ _ _ _ _ (ZD _ _ (by simp[h]))
 exact Z1 hG _ _ _ _ _ _ _ (by simp[h])
theorem Z0 {G:RS->List SelD×RS} (hG:∀t,t.un=true->(G t).2.un=true) (s:Bs) (ps pseudo:Bool) (t:RS) (left:List SelD) (h:t.un=true):(VU G s ps pseudo t left).2.un=true:=by
 fun_induction VU G s ps pseudo t left with
 | case1=>exact h
 | case2=>exact Vz _ _ h
 | case3=>simp
 | case4 t left h1 t1 c op t2 h2 h3 r h4 ih=>
  refine ih (J1 hG _ _ _ _ ?_)
  show (if _ then _ else _:RS).un=true
  split
  exact Vz _ _ (Vz _ _ h)
  exact Vz _ _ h
 | case5 t left h1 t1 c op t2 h2 h3 r h4=>
  refine J1 hG _ _ _ _ ?_
  show (if _ then _ else _:RS).un=true
  split
  exact Vz _ _ (Vz _ _ h)
  exact Vz _ _ h
theorem QdR {G:RS->List SelD×RS} (hG:∀t,t.un=true->(G t).2.un=true) (s:Bs) (ps pseudo:Bool) (t:RS) (h:t.un=true):(Yh G s ps pseudo t).2.un=true:=
 Z0 hG _ _ _ _ _ (J1 hG _ _ _ _ (Vz _ _ h))
theorem QcG {G:RS->List SelD×RS} (hG:∀t,t.un=true->(G t).2.un=true) (s:Bs) (ps pseudo:Bool) (t:RS) (l:List SelD) (h:t.un=true):(YG G s ps pseudo t l).2.un=true:=by
 fun_induction YG G s ps pseudo t l with
 | case1 t l h1 r h2 ih=>exact ih (QdR hG _ _ _ _ h)
 | case2 t l h1 r h2=>exact QdR hG _ _ _ _ h
 | case3=>exact h
theorem Qpw {G:RS->List SelD×RS} (hG:∀t,t.un=true->(G t).2.un=true) (s:Bs) (ps many pseudo:Bool) (t:RS) (h:t.un=true):(VI G s ps many pseudo t).2.un=true:=by
 unfold VI;simp only;split
 exact QcG hG _ _ _ _ _ (QdR hG _ _ _ _ h)
 exact QdR hG _ _ _ _ h
theorem QdO (s:Bs) (ps:Bool):∀(n:Nat) (t:RS),t.un=true->(Qq s ps n t).2.un=true
 | 0,t,h=>h
 | n+1,t,h=>Qpw (QdO s ps n) _ _ _ _ _ h
end
section
inductive ST where
 | mk (x:SelD) (ks:List ST)
mutual
def ST.flat:ST->List SelD
 | .mk x ks=>Ql x (ST.flats ks)
def ST.flats:List ST->List SelD
 | []=>[]
 | t::l=>t.flat++ST.flats l
end
def ST.node:ST->SelD
 | .mk x _=>x
def Qry:SelD:=⟨1,0,[],[],0,0,0,0⟩
def Qbu (t:ST):Bool:=decide (t.node.kind=1)
def Qaa (x:SelD) (ks:List ST):ST:=
 if x.kind=21/\x.val=[] then
  match ks with
  | []=>.mk Qry []
  | [k]=>k
  | ks=>.mk x ks
 else .mk x ks
def ZV (x:SelD) (ks:List ST):List ST:=if x.kind=21 then ks.filter (fun t => !Qbu t) else ks
mutual
def ST.norm:ST->ST
 | .mk x ks=>Qaa x (ZV x (ST.norms ks))
def ST.norms:List ST->List ST
 | []=>[]
 | t::l=>t.norm::ST.norms l
end
mutual
def Qk:CSel->ST
 | .rel n ks=>.mk (Qy (.rel n ks)) [.mk Q4 (Vj ks)]
 | .compound ks pe=>.mk (Qy (.compound ks pe)) (Vj ks)
 | .combined f c s=>.mk (Qy (.combined f c s)) [Qk f,Qk s]
 | x=>.mk (Qy x) []
def Vj:List CSel->List ST
 | []=>[]
 | x::l=>Qk x::Vj l
end
theorem Qco:∀a b,ST.flats (a++b)=ST.flats a++ST.flats b
 | [],b=>by simp[ST.flats]
 | t::a,b=>by simp[ST.flats,Qco a b]
theorem UL:∀a b,ST.norms (a++b)=ST.norms a++ST.norms b
 | [],b=>by simp[ST.norms]
 | t::a,b=>by simp[ST.norms,UL a b]
theorem Qab:∀a b,Vj (a++b)=Vj a++Vj b
 | [],b=>by simp[Vj]
 | t::a,b=>by simp[Vj,Qab a b]
mutual
theorem J6:∀x,(Qk x).flat=Qj x
 | .rel n ks=>by simp[Qk,ST.flat,ST.flats,Qj,Zt ks]
 | .compound ks pe=>by simp[Qk,ST.flat,Qj,Zt ks]
 | .combined f c s=>by simp[Qk,ST.flat,ST.flats,Qj,J6 f,J6 s]
 | .tag k=>by simp[Qk,ST.flat,ST.flats,Qj]
 | .cls v=>by simp[Qk,ST.flat,ST.flats,Qj]
 | .idn v=>by simp[Qk,ST.flat,ST.flats,Qj]
 | .attr a b c d=>by simp[Qk,ST.flat,ST.flats,Qj]
 | .nth a b c d=>by simp[Qk,ST.flat,ST.flats,Qj]
 | .only a=>by simp[Qk,ST.flat,ST.flats,Qj]
 | .empty=>by simp[Qk,ST.flat,ST.flats,Qj]
 | .root=>by simp[Qk,ST.flat,ST.flats,Qj]
 | .input=>by simp[Qk,ST.flat,ST.flats,Qj]
 | .link=>by simp[Qk,ST.flat,ST.flats,Qj]
 | .enabled=>by simp[Qk,ST.flat,ST.flats,Qj]
 | .disabled=>by simp[Qk,ST.flat,ST.flats,Qj]
 | .checked=>by simp[Qk,ST.flat,ST.flats,Qj]
 | .lang a=>by simp[Qk,ST.flat,ST.flats,Qj]
 | .contains a b=>by simp[Qk,ST.flat,ST.flats,Qj]
 | .never a=>by simp[Qk,ST.flat,ST.flats,Qj]
theorem Zt:∀l,ST.flats (Vj l)=Qm l
 | []=>by simp[Vj,ST.flats,Qm]
 | x::l=>by simp[Vj,ST.flats,Qm,J6 x,Zt l]
end
def nzN (x:SelD):Prop:=x.kind≠1/\(x.kind=21->x.key=[])
theorem QaN {x:SelD} {l:List SelD} (h:nzN x) (hl:∀y∈l,nzN y):∀y∈Ql x l,nzN y:=by
 intro y hy
 rcases zu.1 hy with rfl | hy
 exact h
 exact hl y hy
def MT (x:CSel) (l:List SelD):Prop:=∃T:ST,l=T.flat/\T.norm=(Qk x).norm/\∀y∈l,nzN y
def MTs (xs:List CSel) (l:List SelD):Prop:=∃Ts:List ST,l=ST.flats Ts/\ST.norms Ts=ST.norms (Vj xs)/\∀y∈l,nzN y
def Smp:CSel->Prop
 | .compound _ _=>False
 | _=>True
theorem QtH (n:Bs):(17+Yw [Zz,ZA,QN] n≠1)/\(17+Yw [Zz,ZA,QN] n≠21)/\(17+Yw [Zz,ZA,QN] n≠23):=by
 have h:0<=Yw [Zz,ZA,QN] n/\Yw [Zz,ZA,QN] n<=3:=by
  unfold Yw
  split
  rename_i h
  simp only[zj,zo]at h
  omega
  omega
 omega
theorem QaO (x:CSel):(Qy x).kind≠1/\(Smp x->(Qy x).kind≠21)/\(Qy x).kind≠23:=by
 cases x<;>simp[Qy,Smp]
 rename_i v o;cases o<;>simp[b2i]
 rename_i n ks;exact QtH n
theorem QfY (x:CSel):∃ks,Qk x=.mk (Qy x) ks:=by
 cases x<;>simp[Qk]
theorem QoP {x:CSel} (h:Smp x):Qbu (Qk x).norm=false:=by
 obtain⟨ks,e⟩:=QfY x
 obtain⟨h1,h2,_⟩:=QaO x
 have h3:=h2 h
 rw[e,ST.norm];unfold Qaa;rw[if_neg (fun h=>h3 h.1)]
 simp[Qbu,ST.node,h1]
theorem QnX {x:SelD}:∀{l:List CSel},(∀y∈l,Smp y)->ZV x (ST.norms (Vj l))=ST.norms (Vj l):=by
 intro l h
 unfold ZV
 split
 . induction l with
   | nil=>simp[Vj,ST.norms]
   | cons y l ih=>
    rw[Vj,ST.norms,List.filter_cons_of_pos (by simp[QoP (h y (by simp))]),ih (fun z hz=>h z (by simp[hz]))]
 rfl
theorem MTs.nil:MTs [] []:=⟨[],by simp[ST.flats],by simp[Vj],by simp⟩
theorem MTs.snoc {xs:List CSel} {l:List SelD} {x:CSel} {m:List SelD} (h:MTs xs l) (k:MT x m):MTs (xs++[x]) (l++m):=by
 obtain⟨Ts,rfl,e,z⟩:=h
 obtain⟨T,rfl,e',z'⟩:=k
 exact⟨Ts++[T],by rw[Qco];simp[ST.flats],by rw[UL,Qab,UL,e];simp[ST.norms,Vj,e'],fun y hy=>(List.mem_append.1 hy).elim (z y) (z' y)⟩
theorem MTs.one {x:CSel} {m:List SelD} (k:MT x m):MTs [x] m:=by simpa using MTs.snoc MTs.nil k
theorem MTs.seq {xs:List CSel} {l:List SelD} (pe:Bs) (hs:∀y∈xs,Smp y) (h:MTs xs l):MT (VT xs pe) (Qi ⟨21,0,[],pe,0,0,0,0⟩ l):=by
 obtain⟨Ts,rfl,e,z⟩:=h
 refine⟨.mk ⟨21,0,[],pe,0,0,0,0⟩ Ts,by rw[ST.flat,Qi],?_,QaN ⟨show (21:Int)≠1 by decide,fun _=>rfl⟩ z⟩
 rw[ST.norm,e]
 have hc:(Qk (.compound xs pe)).norm=Qaa ⟨21,0,[],pe,0,0,0,0⟩ (ZV ⟨21,0,[],pe,0,0,0,0⟩ (ST.norms (Vj xs))):=by
  rw[Qk,ST.norm,Qy]
 unfold VT
 split
 rename_i x
 rw[QnX hs]
 simp[Vj,ST.norms,Qaa]
 exact hc.symm
theorem MT.comb {f s:CSel} {c:UInt8} {op:Int} {a b:List SelD} (hf:MT f a) (hs:MT s b) (ho:Yw [[32],[62],[43],[126]] (YM c.toNat)=op) :
 MT (.combined f c s) (Qi ⟨22,op,[],[],0,0,0,0⟩ (a++b)):=by
 obtain⟨A,rfl,ea,za⟩:=hf
 obtain⟨B,rfl,eb,zb⟩:=hs
 refine⟨.mk ⟨22,op,[],[],0,0,0,0⟩ [A,B],by simp[ST.flat,ST.flats,Qi],?_,QaN ⟨show (22:Int)≠1 by decide,fun _=>rfl⟩ fun y hy=>(List.mem_append.1 hy).elim (za y) (zb y)⟩
 rw[Qk,ST.norm,ST.norm]
 simp only[ST.norms,ea,eb,Qy,ho]
theorem MT.rel {n:Bs} {ks:List CSel} {l:List SelD} {k:Int} (h:MTs ks l) (hk:17+Yw [Zz,ZA,QN] n=k):MT (.rel n ks) (Qi (VJ k) (Qi Q4 l)):=by
 obtain⟨Ts,rfl,e,z⟩:=h
 refine⟨.mk (VJ k) [.mk Q4 Ts],by simp[ST.flat,ST.flats,Qi],?_,QaN ⟨by rw[<-hk];exact (QtH n).1,fun _=>rfl⟩ (QaN ⟨by decide,fun _=>rfl⟩ z)⟩
 rw[Qk,ST.norm,ST.norm]
 simp only[ST.norms,ST.norm,e,Qy,hk,VJ]
theorem Qsu (x:CSel):nzN (Qy x):=by
 refine⟨(QaO x).1,?_⟩
 cases x<;>simp[Qy]
theorem MT.leaf {x:CSel} (y:SelD) (h:Qj x=Ql y []) (e:Qy x=y) (k:Qk x=.mk (Qy x) []):MT x (Qi y []):=by
 refine⟨.mk y [],by simp[ST.flat,ST.flats,Qi],?_,QaN (e ▸ Qsu x) (by simp)⟩
 rw[k,e]
end
end Go.Proofs.YtengepcafdnalaaGreatDoor
