/-
  Parts of the proof that the law FnPrintBack holds for every input (texts Pa). Conditions: none.
-/
import GoSem.Core.Utf8
namespace Go.Proofs.YtengepcafdnalaaGreatDoor
open _root_.List renaming replicate → zM
open _root_.Nat renaming le_refl → zm
section
abbrev Bs:=List UInt8
structure SelD where
 kind:Int
 op:Int
 key:List UInt8
 val:List UInt8
 a:Int
 b:Int
 flag:Int
 size:Int
instance:Inhabited SelD:=⟨⟨0,0,[],[],0,0,0,0⟩⟩
inductive CSel where
 | tag (k:List UInt8)
 | cls (v:List UInt8)
 | idn (v:List UInt8)
 | attr (key val op:List UInt8) (ins:Bool)
 | nth (a b:Int) (last ofType:Bool)
 | only (ofType:Bool)
 | empty | root | input | link | enabled | disabled | checked
 | lang (v:List UInt8)
 | contains (v:List UInt8) (own:Bool)
 | never (v:List UInt8)
 | rel (name:List UInt8) (kids:List CSel)
 | compound (kids:List CSel) (pe:List UInt8)
 | combined (f:CSel) (c:UInt8) (s:CSel)
instance:Inhabited CSel:=⟨.empty⟩
def bat (s:Bs) (i:Nat):Nat:=(s.getD i 0).toNat
def QI (c:Nat):Bool:=(decide (48<=c)&&decide (c<=57))||(decide (97<=c)&&decide (c<=102))||(decide (65<=c)&&decide (c<=70))
def QK (c:Nat):Bool:=(decide (97<=c)&&decide (c<=122))||(decide (65<=c)&&decide (c<=90))||decide (c=95)||decide (127<c)
def Qr (c:Nat):Bool:=QK c||decide (c=45)||(decide (48<=c)&&decide (c<=57))
def VO (c:Nat):Bool:=decide (c=32)||decide (c=9)||decide (c=13)||decide (c=10)||decide (c=12)
def YI (c:Nat):Bool:=decide (c=13)||decide (c=10)||decide (c=12)
def Qu (c:Nat):Bool:=decide (48<=c)&&decide (c<=57)
def YL (c:Nat):Nat:=if c<=57 then c-48 else if c<=70 then c-55 else c-87
def VH (l:Bs):Nat:=l.foldl (fun n c=>16*n+YL c.toNat) 0
def QD (s:Bs):Nat->Nat->Nat
 | 0,i=>i
 | k+1,i=>if i<s.length/\QI (bat s i)=true then QD s k (i+1) else i
def Vb (s:Bs) (i:Nat):Nat:=
 if i<s.length then
  if bat s i=13 then (if i+1<s.length/\bat s (i+1)=10 then i+2 else i+1)
  else if VO (bat s i)=true then i+1 else i
 else i
def YM (n:Int):List UInt8:=(Utf8.encode n).data.toList
def Y2 (s:Bs) (i:Nat):Option (Bs×Nat):=
 if s.length<i+2\/bat s i≠92 then none
 else if YI (bat s (i+1))=true then none
 else if QI (bat s (i+1))=true then
  some (YM (VH ((s.take (QD s 6 (i+1))).drop (i+1))),Vb s (QD s 6 (i+1)))
 else some ([s.getD (i+1) 0],i+2)
theorem QcY (s:Bs):∀k i,i<=QD s k i
 | 0,i=>zm _
 | k+1,i=>by
  unfold QD
  split
  exact Nat.le_trans (Nat.le_succ i) (QcY s k (i+1))
  exact zm _
theorem QcX (s:Bs):∀k i,i<=s.length->QD s k i<=s.length
 | 0,i,h=>h
 | k+1,i,h=>by
  unfold QD
  split
  rename_i h1;exact QcX s k (i+1) h1.1
  exact h
theorem QcW (s:Bs) (k i:Nat) (h:i<s.length) (hd:QI (bat s i)=true):i+1<=QD s (k+1) i:=by
 unfold QD;rw[if_pos ⟨h,hd⟩];exact QcY s k (i+1)
theorem Qeq (s:Bs) (i:Nat):i<=Vb s i:=by
 unfold Vb;repeat' split
 all_goals omega
theorem Qep (s:Bs) (i:Nat) (h:i<=s.length):Vb s i<=s.length:=by
 unfold Vb
 repeat' split
 all_goals (first | omega | (rename_i h1 h2;have:=h2.1;omega) | skip)
theorem JB {s:Bs} {i:Nat} {r:Bs} {j:Nat} (h:Y2 s i=some (r,j)):i+2<=j/\j<=s.length/\i+1<s.length/\bat s i=92:=by
 unfold Y2 at h
 split at h
 cases h
 rename_i h0
 simp only[not_or,Decidable.not_not]at h0
 split at h
 cases h
 split at h
 rename_i hd
 simp only[Option.some.injEq,Prod.mk.injEq]at h
 obtain⟨_,rfl⟩:=h
 have h1:i+1+1<=QD s 6 (i+1):=QcW s 5 (i+1) (by omega) hd
 have h2:=QcX s 6 (i+1) (by omega)
 have h3:=Qeq s (QD s 6 (i+1))
 have h4:=Qep s (QD s 6 (i+1)) h2
 exact⟨by omega,h4,by omega,h0.2⟩
 simp only[Option.some.injEq,Prod.mk.injEq]at h
 obtain⟨_,rfl⟩:=h
 exact⟨by omega,by omega,by omega,h0.2⟩
def Q9 (s:Bs) (i:Nat) (acc:Bs):Option (Bs×Nat):=
 if i<s.length then
  if Qr (bat s i)=true then Q9 s (i+1) (acc++[s.getD i 0])
  else if bat s i=92 then
   match h:Y2 s i with
   | none=>none
   | some (v,j)=>Q9 s j (acc++v)
  else some (acc,i)
 else some (acc,i)
 termination_by s.length-i
 decreasing_by
  . omega
  have:=JB h;omega
def VY (s:Bs) (i:Nat):Option (Bs×Nat):=
 match Q9 s i [] with
 | some ([],_)=>none
 | r=>r
def Yp (s:Bs) (i:Nat):Nat:=
 if i<s.length/\bat s i=45 then Yp s (i+1) else i
 termination_by s.length-i
def Qx (s:Bs) (i:Nat):Option (Bs×Nat):=
 if Yp s i<s.length/\(QK (bat s (Yp s i))=true\/bat s (Yp s i)=92) then
  match VY s (Yp s i) with
  | none=>none
  | some (r,j)=>some (zM (Yp s i-i) 45++r,j)
 else none
def Vk (s:Bs) (q i:Nat) (acc:Bs):Option (Bs×Nat):=
 if i<s.length then
  if bat s i=92 then
   if i+1<s.length/\bat s (i+1)=13 then
    (if i+2<s.length/\bat s (i+2)=10 then Vk s q (i+3) acc else Vk s q (i+2) acc)
   else if i+1<s.length/\(bat s (i+1)=10\/bat s (i+1)=12) then Vk s q (i+2) acc
   else match h:Y2 s i with
    | none=>none
    | some (v,j)=>Vk s q j (acc++v)
  else if bat s i=q then some (acc,i+1)
  else if YI (bat s i)=true then none
  else Vk s q (i+1) (acc++[s.getD i 0])
 else none
 termination_by s.length-i
 decreasing_by
  all_goals (first | omega | (have:=JB h;omega))
def ZB (s:Bs) (i:Nat):Option (Bs×Nat):=
 if s.length<i+2 then none else Vk s (bat s i) (i+1) []
def V4 (s:Bs) (i:Nat):Option Nat:=
 if i+2<=s.length then
  if bat s i=42/\bat s (i+1)=47 then some (i+2) else V4 s (i+1)
 else none
 termination_by s.length-i
theorem YQ (s:Bs) (i:Nat) {j:Nat} (h:V4 s i=some j):i+2<=j/\j<=s.length:=by
 fun_induction V4 s i with
 | case1 i h1 h2=>simp at h;omega
 | case2 i h1 h2 ih=>have:=ih h;omega
 | case3 i h1=>cases h
def iWs (s:Bs) (i:Nat):Nat:=
 if i<s.length then
  if VO (bat s i)=true then iWs s (i+1)
  else if i+2<=s.length/\bat s i=47/\bat s (i+1)=42 then
   match h:V4 s (i+2) with
   | some j=>iWs s j
   | none=>i
  else i
 else i
 termination_by s.length-i
 decreasing_by
  . omega
  have:=YQ _ _ h;omega
theorem QQ (s:Bs) (i:Nat):i<=iWs s i:=by
 fun_induction iWs s i with
 | case1 i h1 h2 ih=>omega
 | case2 i h1 h2 h3 j hj ih=>have:=YQ _ _ hj;omega
 | case3=>omega
 | case4=>omega
 | case5=>omega
theorem Vw (s:Bs) (i:Nat) (h:i<=s.length):iWs s i<=s.length:=by
 fun_induction iWs s i with
 | case1 i h1 h2 ih=>exact ih (by omega)
 | case2 i h1 h2 h3 j hj ih=>exact ih (YQ _ _ hj).2
 | case3=>omega
 | case4=>omega
 | case5=>omega
def Uf (c:UInt8):UInt8:=if 65<=c.toNat/\c.toNat<=90 then c+32 else c
def low (l:Bs):Bs:=l.map Uf
def Vu (s:Bs) (i:Nat):Option Nat:=if i<s.length/\bat s i=40 then some (iWs s (i+1)) else none
def QT (s:Bs) (i:Nat):Option Nat:=if iWs s i<s.length/\bat s (iWs s i)=41 then some (iWs s i+1) else none
def elNames:List Bs:=[[97,102,116,101,114],[98,97,99,107,100,114,111,112],[98,101,102,111,114,101],[99,117,101],[102,105,114,115,116,45,108,101,116,116,101,114],[102,105,114,115,116,45,108,105,110,101],[103,114,97,109,109,97,114,45,101,114,114,111,114],[109,97,114,107,101,114],[112,108,97,99,101,104,111,108,100,101,114],[115,101,108,101,99,116,105,111,110],[115,112,101,108,108,105,110,103,45,101,114,114,111,114]]
def attrSigns:List Bs:=[[61],[33,61],[126,61],[124,61],[94,61],[36,61],[42,61]]
def VF (s:Bs) (i:Nat):Option (CSel×Nat):=
 match Qx s (iWs s (i+1)) with
 | none=>none
 | some (key,j)=>
  if iWs s j<s.length then
   if bat s (iWs s j)=93 then some (.attr (low key) [] [] false,iWs s j+1)
   else if iWs s j+2<s.length/\(bat s (iWs s j)=61\/bat s (iWs s j+1)=61) then
    iAttrV s (low key) (if bat s (iWs s j)=61 then [61] else [s.getD (iWs s j) 0,s.getD (iWs s j+1) 0])
     (iWs s (iWs s j+(if bat s (iWs s j)=61 then 1 else 2)))
   else none
  else none
where
 iAttrV (s key op:Bs) (k:Nat):Option (CSel×Nat):=
  if k<s.length then
   match (if bat s k=39\/bat s k=34 then ZB s k else Qx s k) with
   | none=>none
   | some (val,m)=>
    if iWs s m<s.length then
     iAttrE s key op val (decide (bat s (iWs s m)=105\/bat s (iWs s m)=73))
      (iWs s (if bat s (iWs s m)=105\/bat s (iWs s m)=73 then iWs s m+1 else iWs s m))
    else none
  else none
 iAttrE (s key op val:Bs) (ign:Bool) (m:Nat):Option (CSel×Nat):=
  if m<s.length/\bat s m=93/\op∈attrSigns then some (.attr key val op ign,m+1) else none
def YO (l:Bs):Nat:=l.foldl (fun n c=>10*n+(c.toNat-48)) 0
def QO (s:Bs) (i:Nat):Nat:=
 if i<s.length/\Qu (bat s i)=true then QO s (i+1) else i
 termination_by s.length-i
def Qa6 (s:Bs) (i:Nat):Option (Int×Nat):=
 if QO s i=i then none
 else if YO ((s.take (QO s i)).drop i)<=9223372036854775807 then some ((YO ((s.take (QO s i)).drop i):Nat),QO s i) else none
def isN (c:Nat):Bool:=decide (c=110)||decide (c=78)
def Y1 (s:Bs) (a:Int) (i:Nat):Option (Int×Int×Nat):=
 if iWs s i<s.length then
  if bat s (iWs s i)=43 then (Qa6 s (iWs s (iWs s i+1))).map fun p=>(a,p.1,p.2)
  else if bat s (iWs s i)=45 then (Qa6 s (iWs s (iWs s i+1))).map fun p=>(a,0-p.1,p.2)
  else some (a,0,iWs s i)
 else none
def Z3 (s:Bs) (a:Int) (i:Nat):Option (Int×Int×Nat):=
 if i<s.length then
  if isN (bat s i)=true then Y1 s a (i+1) else some (0,a,i)
 else none
def Yf (s:Bs) (i:Nat):Option (Int×Int×Nat):=
 if i<s.length then
  if Qu (bat s i)=true then (Qa6 s i).bind fun p=>Z3 s p.1 p.2
  else if isN (bat s i)=true then Y1 s 1 (i+1)
  else none
 else none
def Yn (s:Bs) (i:Nat):Option (Int×Int×Nat):=
 if i<s.length then
  if Qu (bat s i)=true then (Qa6 s i).bind fun p=>Z3 s (0-p.1) p.2
  else if isN (bat s i)=true then Y1 s (-1) (i+1)
  else none
 else none
def Jf (c:Nat):Bool:=decide (c=111)||decide (c=79)||decide (c=101)||decide (c=69)
def Yc (s:Bs) (i:Nat):Option (Int×Int×Nat):=
 if i<s.length then
  if bat s i=45 then Yn s (i+1)
  else if bat s i=43 then Yf s (i+1)
  else if Qu (bat s i)=true then Yf s i
  else if isN (bat s i)=true then Y1 s 1 (i+1)
  else if Jf (bat s i)=true then
   match VY s i with
   | none=>none
   | some (w,j)=>if low w=[111,100,100] then some (2,1,j) else if low w=[101,118,101,110] then some (2,0,j) else none
  else none
 else none
def Y7 (G:Nat->Option (List CSel×Nat)) (s:Bs) (name:Bs) (i:Nat):Option (CSel×Nat):=
 match Vu s i with
 | none=>none
 | some k=>match G k with
  | none=>none
  | some (l,m)=>(QT s m).map fun e=>(.rel name l,e)
def YY (s:Bs) (own:Bool) (i:Nat):Option (CSel×Nat):=
 match Vu s i with
 | none=>none
 | some k=>if k<s.length then
  match (if bat s k=39\/bat s k=34 then ZB s k else Qx s k) with
  | none=>none
  | some (v,m)=>(QT s m).map fun e=>(.contains (low v) own,e)
  else none
def YZ (s:Bs) (last ofType:Bool) (i:Nat):Option (CSel×Nat):=
 match Vu s i with
 | none=>none
 | some k=>match Yc s k with
  | none=>none
  | some (a,b,m)=>(QT s m).map fun e=>(.nth a b last ofType,e)
def Zf (s:Bs) (i:Nat):Option (CSel×Nat):=
 match Vu s i with
 | none=>none
 | some k=>if k<s.length then
  match Qx s k with
  | none=>none
  | some (v,m)=>(QT s m).map fun e=>(.lang (low v),e)
  else none
def Zz:Bs:=[110,111,116]
def ZA:Bs:=[104,97,115]
def QN:Bs:=[104,97,115,99,104,105,108,100]
def VV:Bs:=[99,111,110,116,97,105,110,115]
def Vc:Bs:=[99,111,110,116,97,105,110,115,111,119,110]
def VE:Bs:=[110,116,104,45,99,104,105,108,100]
def QM:Bs:=[110,116,104,45,108,97,115,116,45,99,104,105,108,100]
def VK:Bs:=[110,116,104,45,111,102,45,116,121,112,101]
def QL:Bs:=[110,116,104,45,108,97,115,116,45,111,102,45,116,121,112,101]
def Jc:Bs:=[108,97,110,103]
def neverNames:List Bs:=[[118,105,115,105,116,101,100],[104,111,118,101,114],[97,99,116,105,118,101],[102,111,99,117,115],[116,97,114,103,101,116]]
def Jm (n:Bs):Option CSel:=
 if n=[102,105,114,115,116,45,99,104,105,108,100] then some (.nth 0 1 false false)
 else if n=[108,97,115,116,45,99,104,105,108,100] then some (.nth 0 1 true false)
 else if n=[102,105,114,115,116,45,111,102,45,116,121,112,101] then some (.nth 0 1 false true)
 else if n=[108,97,115,116,45,111,102,45,116,121,112,101] then some (.nth 0 1 true true)
 else if n=[111,110,108,121,45,99,104,105,108,100] then some (.only false)
 else if n=[111,110,108,121,45,111,102,45,116,121,112,101] then some (.only true)
 else if n=[105,110,112,117,116] then some (.input)
 else if n=[101,109,112,116,121] then some (.empty)
 else if n=[114,111,111,116] then some (.root)
 else if n=[108,105,110,107] then some (.link)
 else if n=[101,110,97,98,108,101,100] then some (.enabled)
 else if n=[100,105,115,97,98,108,101,100] then some (.disabled)
 else if n=[99,104,101,99,107,101,100] then some (.checked)
 else if n∈neverNames then some (.never (58::n))
 else none
def VX (G:Nat->Option (List CSel×Nat)) (s:Bs) (n:Bs) (j:Nat):Option (Option CSel×Bs×Nat):=
 if n=Zz\/n=ZA\/n=QN then (Y7 G s n j).map fun p=>(some p.1,[],p.2)
 else if n=VV\/n=Vc then (YY s (decide (n=Vc)) j).map fun p=>(some p.1,[],p.2)
 else if n=VE\/n=QM\/n=VK\/n=QL then
  (YZ s (decide (n=QM\/n=QL)) (decide (n=VK\/n=QL)) j).map fun p=>(some p.1,[],p.2)
 else if n=Jc then (Zf s j).map fun p=>(some p.1,[],p.2)
 else match Jm n with
  | some x=>some (some x,[],j)
  | none=>if n∈elNames then some (none,n,j) else none
def iPs (G:Nat->Option (List CSel×Nat)) (s:Bs) (i:Nat):Option (Option CSel×Bs×Nat):=
 if i+1<s.length then
  match Qx s (if bat s (i+1)=58 then i+2 else i+1) with
  | none=>none
  | some (n,j)=>if bat s (i+1)=58/\low n∉elNames then none else VX G s (low n) j
 else none
def Vd (G:Nat->Option (List CSel×Nat)) (s:Bs) (i:Nat):Option (Option CSel×Bs×Nat):=
 if bat s i=35 then (VY s (i+1)).map fun p=>(some (.idn p.1),[],p.2)
 else if bat s i=46 then (Qx s (i+1)).map fun p=>(some (.cls p.1),[],p.2)
 else if bat s i=91 then (VF s i).map fun p=>(some p.1,[],p.2)
 else iPs G s i
def Qv (c:Nat):Bool:=decide (c=35)||decide (c=46)||decide (c=91)||decide (c=58)
def VT (l:List CSel) (pe:Bs):CSel:=
 match l,pe with
 | [x],[]=>x
 | l,pe=>.compound l pe
def QS (G:Nat->Option (List CSel×Nat)) (s:Bs) (acc:Bool) (i:Nat) (l:List CSel) (pe:Bs):Option (CSel×Nat):=
 if i<s.length/\Qv (bat s i)=true then
  match Vd G s i with
  | none=>none
  | some (x,n,j)=>
   if i<j then
    match x with
    | none=>if pe=[]/\acc=true then QS G s acc j l n else none
    | some x=>if pe=[] then QS G s acc j (l++[x]) pe else none
   else none
 else some (VT l pe,i)
 termination_by s.length-i
def V8 (G:Nat->Option (List CSel×Nat)) (s:Bs) (acc:Bool) (i:Nat):Option (CSel×Nat):=
 if i<s.length then
  if bat s i=42 then QS G s acc (if i+3<s.length/\bat s (i+1)=124/\bat s (i+2)=42 then i+3 else i+1) [] []
  else if Qv (bat s i)=true then QS G s acc i [] []
  else match Qx s i with
   | none=>none
   | some (t,j)=>QS G s acc j [.tag (low t)] []
 else none
def Vf (c:Nat):Bool:=decide (c=43)||decide (c=62)||decide (c=126)
def Q6 (G:Nat->Option (List CSel×Nat)) (s:Bs) (acc:Bool) (x:CSel) (j:Nat):Option (CSel×Nat):=
 if iWs s j<s.length then
  if Vf (bat s (iWs s j))=true then
   match V8 G s acc (iWs s (iWs s j+1)) with
   | none=>none
   | some (y,m)=>if j<m then Q6 G s acc (.combined x (s.getD (iWs s j) 0) y) m else none
  else if bat s (iWs s j)=44\/bat s (iWs s j)=41\/iWs s j=j then some (x,iWs s j)
  else match V8 G s acc (iWs s j) with
   | none=>none
   | some (y,m)=>if j<m then Q6 G s acc (.combined x 32 y) m else none
 else some (x,iWs s j)
 termination_by s.length-j
 decreasing_by all_goals (have:=QQ s j;omega)
def YX (G:Nat->Option (List CSel×Nat)) (s:Bs) (acc:Bool) (i:Nat):Option (CSel×Nat):=
 match V8 G s acc (iWs s i) with
 | none=>none
 | some (x,j)=>Q6 G s acc x j
def VM (G:Nat->Option (List CSel×Nat)) (s:Bs) (acc:Bool) (l:List CSel) (j:Nat):Option (List CSel×Nat):=
 if j<s.length/\bat s j=44 then
  match YX G s acc (j+1) with
  | none=>none
  | some (y,m)=>if j<m then VM G s acc (l++[y]) m else none
 else some (l,j)
 termination_by s.length-j
def Qw (s:Bs) (acc:Bool):Nat->Nat->Option (List CSel×Nat)
 | 0,_=>none
 | k+1,i=>match YX (Qw s acc k) s acc i with
  | none=>none
  | some (x,j)=>VM (Qw s acc k) s acc [x] j
def QV (s:Bs) (many pseudo:Bool):Option (List CSel):=
 if many=true then
  match Qw s pseudo 1001 0 with
  | some (l,j)=>if j<s.length then none else some l
  | none=>none
 else
  match YX (Qw s pseudo 1001) s pseudo 0 with
  | some (x,j)=>if j<s.length then none else some [x]
  | none=>none
def b2i (b:Bool) (n:Int):Int:=if b=true then n else 0
def Yw (l:List Bs) (x:Bs):Int:=if l.idxOf x<l.length then (l.idxOf x:Nat)+1 else 0
def Qy:CSel->SelD
 | .tag k=>⟨2,0,k,[],0,0,0,0⟩
 | .cls v=>⟨3,0,[],v,0,0,0,0⟩
 | .idn v=>⟨4,0,[],v,0,0,0,0⟩
 | .attr k v o i=>⟨5,Yw ([]::attrSigns) o,k,v,0,0,b2i i 1,0⟩
 | .nth a b l t=>⟨6,0,[],[],a,b,b2i l 1+b2i t 2,0⟩
 | .only t=>⟨7,0,[],[],0,0,b2i t 2,0⟩
 | .empty=>⟨8,0,[],[],0,0,0,0⟩
 | .root=>⟨9,0,[],[],0,0,0,0⟩
 | .input=>⟨10,0,[],[],0,0,0,0⟩
 | .link=>⟨11,0,[],[],0,0,0,0⟩
 | .enabled=>⟨12,0,[],[],0,0,0,0⟩
 | .disabled=>⟨13,0,[],[],0,0,0,0⟩
 | .checked=>⟨14,0,[],[],0,0,0,0⟩
 | .lang v=>⟨15,0,[],v,0,0,0,0⟩
 | .contains v o=>⟨16+b2i o 1,0,[],v,0,0,0,0⟩
 | .never v=>⟨24,0,[],v,0,0,0,0⟩
 | .rel n _=>⟨17+Yw [Zz,ZA,QN] n,0,[],[],0,0,0,0⟩
 | .compound _ pe=>⟨21,0,[],pe,0,0,0,0⟩
 | .combined _ c _=>⟨22,Yw [[32],[62],[43],[126]] (YM c.toNat),[],[],0,0,0,0⟩
def Ql (x:SelD) (l:List SelD):List SelD:={ x with size:=(l.length:Nat)+1 }::l
def Q4:SelD:=⟨23,0,[],[],0,0,0,0⟩
mutual
def Qj:CSel->List SelD
 | .rel n ks=>Ql (Qy (.rel n ks)) (Ql Q4 (Qm ks))
 | .compound ks pe=>Ql (Qy (.compound ks pe)) (Qm ks)
 | .combined f c s=>Ql (Qy (.combined f c s)) (Qj f++Qj s)
 | x=>Ql (Qy x) []
def Qm:List CSel->List SelD
 | []=>[]
 | x::l=>Qj x++Qm l
end
def QG (many:Bool) (l:List CSel):List SelD:=
 if many=true then Ql Q4 (Qm l) else Qj (l.headD default)
end
end Go.Proofs.YtengepcafdnalaaGreatDoor
