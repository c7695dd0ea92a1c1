/-
  Parts of the proof that the law FnPrintGrammar holds for every input (texts Oi, Oj, Ok, Om, On, Lx). Conditions: none.
-/
import Derived.Test.YtengepcafdnalaaGreatDoorM37
import Derived.Test.YtengepcafdnalaaGreatDoorCards
import Derived.Test.YtengepcafdnalaaGreatDoorTie
import Derived.ProofKit
import Derived.LaidMore
import Derived.OpenShut
import Derived.Stop.Joined
import Derived.JoinedOf
import Derived.MakeChecks
import Derived.ChangeMaps5
import Derived.SevenTiedAt
import Derived.Deep.Slices
import Derived.WideKeyArgs
import Derived.ChangeOld
import Derived.Lib.LaidTab
namespace Go.Proofs.YtengepcafdnalaaGreatDoor
open _root_.Array renaming getElem?_eq_some_iff → zy
open _root_.Bool renaming false_ne_true → zo, and_eq_true → zh
open _root_.List renaming length_append → zf, length_cons → zg, length_nil → zl, getD_eq_getElem?_getD → za, mem_cons → zp, flatten_cons → xx, getElem?_eq_getElem → ze, replicate → zR, append_nil → zD, length_take → zF, length_drop → zI, mem_singleton → zP, exists_cons_of_ne_nil → zJ, mem_of_getElem? → xr, range → xa, not_mem_nil → zT, getElem?_map → zB, getElem?_eq_some_iff → zx
open _root_.Nat renaming strongRecOn → zi, le_refl → zj
open _root_.Option renaming bind_some → zU, map_eq_some_iff → zk
open Go.Proofs.Tryz renaming prog → zd
open _root_.UInt8 renaming toNat_or → zb
section
open Go Go.RowKit
set_option maxRecDepth 20000
def c199 (svs:List SV) (b:Option SB):QR:=match svs,b with
 | [.agg [.str k]],none=>some ([],.str (pr (.tag k)))
 | _,_=>none
noncomputable def W199:Wk:=⟨[],Qh Tryz.f199,false,false,[.tmp 2],[9],[],[]⟩
theorem QfB:Has 199:=hsf Tryz.f199
theorem QvZ:Sat 199 (Ql c199):=by
 have hD:Qb W199.D:=Qb.nil
 refine W199.sa hD Tryz.f199 fun svs b K hP=>?_
 obtain⟨ps,v,e,hp,hk⟩:=Qd hP
 unfold c199 at e
 split at e
 rename_i k
 cases e
 refine W199.en (K (.val (.str k)) none) ?_
 refine Vv hk ?_
 simp[pr]
 cases e
def c203 (svs:List SV) (b:Option SB):QR:=match svs,b with
 | [.agg [.str k]],none=>some ([k.length<=1000000],.str (pr (.cls k)))
 | _,_=>none
noncomputable def W203:Wk:=⟨[(204,.pure c204)],Qh Tryz.f203,false,false,[.tmp 2],[9],[],[]⟩
theorem QxH:Has 203:=hsf Tryz.f203
theorem QA {p q:Prop} (k:q) (h:p:=by first | omega | (simp;done) | (simp only[zf,zg,zl];omega)):p/\q:=⟨h,k⟩
theorem QvY:Sat 203 (Ql c203):=by
 have hD:Qb W203.D:=(Qb.cons Qrv QpZ Qb.nil)
 refine W203.sa hD Tryz.f203 fun svs b K hP=>?_
 obtain⟨ps,v,e,hp,hk⟩:=Qd hP
 unfold c203 at e
 split at e
 rename_i k
 cases e
 obtain⟨h01,_⟩:=hp
 have e:=JA k
 refine W203.en ((k.length<=1000000)/\(1+(ZD k).length<=2305843009213693952)/\K (.val (.str ([46]++(ZD k)))) none) ?_
 refine QA (QA ?_)
 refine Vv hk ?_
 simp[pr]
 cases e
def c208 (svs:List SV) (b:Option SB):QR:=match svs,b with
 | [.agg [.str k]],none=>some ([k.length<=1000000],.str (pr (.idn k)))
 | _,_=>none
noncomputable def W208:Wk:=⟨[(204,.pure c204)],Qh Tryz.f208,false,false,[.tmp 2],[9],[],[]⟩
theorem QxG:Has 208:=hsf Tryz.f208
theorem QvX:Sat 208 (Ql c208):=by
 have hD:Qb W208.D:=(Qb.cons Qrv QpZ Qb.nil)
 refine W208.sa hD Tryz.f208 fun svs b K hP=>?_
 obtain⟨ps,v,e,hp,hk⟩:=Qd hP
 unfold c208 at e
 split at e
 rename_i k
 cases e
 obtain⟨h01,_⟩:=hp
 have e:=JA k
 refine W208.en ((k.length<=1000000)/\(1+(ZD k).length<=2305843009213693952)/\K (.val (.str ([35]++(ZD k)))) none) ?_
 refine QA (QA ?_)
 refine Vv hk ?_
 simp[pr]
 cases e
def c212 (svs:List SV) (b:Option SB):QR:=match svs,b with
 | [.agg [.str k,.str v,.str o,.bool i]],none=>some ([k.length<=1000000/\v.length<=1000000/\o.length<=1000000],.str (pr (.attr k v o i)))
 | _,_=>none
noncomputable def W212:Wk:=⟨[],Qh Tryz.f212,false,false,[.tmp 2],[9],[],[]⟩
theorem QxF:Has 212:=hsf Tryz.f212
theorem QvW:Sat 212 (Ql c212):=by
 have hD:Qb W212.D:=Qb.nil
 refine W212.sa hD Tryz.f212 fun svs b K hP=>?_
 obtain⟨ps,v,e,hp,hk⟩:=Qd hP
 unfold c212 at e
 split at e
 rename_i k v o i
 cases e
 obtain⟨⟨h01,h02,h03⟩,_⟩:=hp
 refine W212.en (have a0:=([91]++k).length+o.length<=2305843009213693952;have a1:=([91]++k++o).length+([34]++v++[34]).length<=2305843009213693952;have a2:=([91]++k++o).length+v.length<=2305843009213693952;cond (!(decide (o=[]))) ((1+v.length<=2305843009213693952)/\(([34]++v).length+1<=2305843009213693952)/\cond i ((1+k.length<=2305843009213693952)/\a0/\a1/\(([91]++k++o++([34]++v++[34])).length+2<=2305843009213693952)/\(([91]++k++o++([34]++v++[34])++[32,105]).length+1<=2305843009213693952)/\K (.val (.str ([91]++k++o++([34]++v++[34])++[32,105]++[93]))) none) ((1+k.length<=2305843009213693952)/\a0/\a1/\(([91]++k++o++([34]++v++[34])).length+0<=2305843009213693952)/\(([91]++k++o++([34]++v++[34])++[]).length+1<=2305843009213693952)/\K (.val (.str ([91]++k++o++([34]++v++[34])++[]++[93]))) none)) (cond i ((1+k.length<=2305843009213693952)/\a0/\a2/\(([91]++k++o++v).length+2<=2305843009213693952)/\(([91]++k++o++v++[32,105]).length+1<=2305843009213693952)/\K (.val (.str ([91]++k++o++v++[32,105]++[93]))) none) ((1+k.length<=2305843009213693952)/\a0/\a2/\(([91]++k++o++v).length+0<=2305843009213693952)/\(([91]++k++o++v++[]).length+1<=2305843009213693952)/\K (.val (.str ([91]++k++o++v++[]++[93]))) none))) ?_
 refine Qa ?_ ?_<;>intro h1<;>try simp[-za,-zb]at h1
 refine QA (QA ?_)
 refine Qa ?_ ?_<;>intro h2<;>try simp[-za,-zb]at h2
 refine QA (QA (QA (QA (QA ?_))))
 refine Vv hk ?_
 simp[pr,h1,h2]
 refine QA (QA (QA (QA (QA ?_))))
 refine Vv hk ?_
 simp[pr,h1,h2]
 refine Qa (fun h2=>?_) (fun h2=>?_)
 try simp[-za,-zb]at h2
 refine QA (QA (QA (QA (QA ?_))))
 refine Vv hk ?_
 simp[pr,h1,h2]
 try simp[-za,-zb]at h2
 refine QA (QA (QA (QA (QA ?_))))
 refine Vv hk ?_
 simp[pr,h1,h2]
 cases e
def c216 (svs:List SV) (b:Option SB):QR:=match svs,b with
 | [.agg [.int .i64 a,.int .i64 b,.bool l,.bool t]],none=>some ([(-9223372036854775808<=a/\a<=9223372036854775807)/\(-9223372036854775808<=b/\b<=9223372036854775807)],.str (pr (.nth a b l t)))
 | _,_=>none
noncomputable def W216:Wk:=⟨[(167,.pure c167)],Qh Tryz.f216,false,false,[.tmp 2],[9],[],[]⟩
theorem QxE:Has 216:=hsf Tryz.f216
theorem QvV:Sat 216 (Ql c216):=by
 have hD:Qb W216.D:=(Qb.cons QxI Qv0 Qb.nil)
 refine W216.sa hD Tryz.f216 fun svs b K hP=>?_
 obtain⟨ps,v,e,hp,hk⟩:=Qd hP
 unfold c216 at e
 split at e
 rename_i a b l t
 cases e
 obtain⟨⟨h01,h02⟩,_⟩:=hp
 have n1:=Qj5 h01
 have n2:=Qj5 h02
 refine W216.en (have a0:=([58]++[110,116,104,45,108,97,115,116,45,111,102,45,116,121,112,101]++[40]).length+(itoa a).length<=2305843009213693952;have a1:=([58]++[110,116,104,45,108,97,115,116,45,111,102,45,116,121,112,101]++[40]++(itoa a)).length+1<=2305843009213693952;have a2:=([58]++[110,116,104,45,108,97,115,116,45,99,104,105,108,100]++[40]).length+(itoa a).length<=2305843009213693952;have a3:=([58]++[110,116,104,45,108,97,115,116,45,99,104,105,108,100]++[40]++(itoa a)).length+1<=2305843009213693952;have a4:=([58]++[110,116,104,45,108,97,115,116,45,111,102,45,116,121,112,101]).length+1<=2305843009213693952;have a5:=([58]++[110,116,104,45,111,102,45,116,121,112,101]++[40]).length+(itoa a).length<=2305843009213693952;have a6:=([58]++[110,116,104,45,111,102,45,116,121,112,101]++[40]++(itoa a)).length+1<=2305843009213693952;have a7:=([58]++[110,116,104,45,108,97,115,116,45,99,104,105,108,100]).length+1<=2305843009213693952;have a8:=([58]++[110,116,104,45,99,104,105,108,100]++[40]).length+(itoa a).length<=2305843009213693952;have a9:=([58]++[110,116,104,45,99,104,105,108,100]++[40]++(itoa a)).length+1<=2305843009213693952;have a10:=([58]++[110,116,104,45,111,102,45,116,121,112,101]).length+1<=2305843009213693952;have a11:=([58]++[110,116,104,45,99,104,105,108,100]).length+1<=2305843009213693952;have a12:=decide (b<(0:Int));have a13:=([58]++[]++[40]).length+(itoa a).length<=2305843009213693952;have a14:=([58]++[]++[40]++(itoa a)).length+1<=2305843009213693952;have a15:=([58]++[]).length+1<=2305843009213693952;cond ((decide (a=(0:Int)))&&(decide (b=(1:Int)))) (cond l (cond t ((6+7<=2305843009213693952)/\K (.val (.str ([58,108,97,115,116,45]++[111,102,45,116,121,112,101]))) none) ((6+5<=2305843009213693952)/\K (.val (.str ([58,108,97,115,116,45]++[99,104,105,108,100]))) none)) (cond t ((7+7<=2305843009213693952)/\K (.val (.str ([58,102,105,114,115,116,45]++[111,102,45,116,121,112,101]))) none) ((7+5<=2305843009213693952)/\K (.val (.str ([58,102,105,114,115,116,45]++[99,104,105,108,100]))) none))) (cond ((decide (l=true))&&(decide (t=true))) ((-9223372036854775808<=b/\b<=9223372036854775807)/\(1+(itoa b).length<=2305843009213693952)/\cond a12 ((-9223372036854775808<=b/\b<=9223372036854775807)/\(1+16<=2305843009213693952)/\a4/\(-9223372036854775808<=a/\a<=9223372036854775807)/\a0/\a1/\(([58]++[110,116,104,45,108,97,115,116,45,111,102,45,116,121,112,101]++[40]++(itoa a)++[110]).length+(itoa b).length<=2305843009213693952)/\(([58]++[110,116,104,45,108,97,115,116,45,111,102,45,116,121,112,101]++[40]++(itoa a)++[110]++(itoa b)).length+1<=2305843009213693952)/\K (.val (.str ([58]++[110,116,104,45,108,97,115,116,45,111,102,45,116,121,112,101]++[40]++(itoa a)++[110]++(itoa b)++[41]))) none) ((1+16<=2305843009213693952)/\a4/\(-9223372036854775808<=a/\a<=9223372036854775807)/\a0/\a1/\(([58]++[110,116,104,45,108,97,115,116,45,111,102,45,116,121,112,101]++[40]++(itoa a)++[110]).length+([43]++(itoa b)).length<=2305843009213693952)/\(([58]++[110,116,104,45,108,97,115,116,45,111,102,45,116,121,112,101]++[40]++(itoa a)++[110]++([43]++(itoa b))).length+1<=2305843009213693952)/\K (.val (.str ([58]++[110,116,104,45,108,97,115,116,45,111,102,45,116,121,112,101]++[40]++(itoa a)++[110]++([43]++(itoa b))++[41]))) none)) (cond ((decide (l=true))&&(decide (t=false))) ((-9223372036854775808<=b/\b<=9223372036854775807)/\(1+(itoa b).length<=2305843009213693952)/\cond a12 ((-9223372036854775808<=b/\b<=9223372036854775807)/\(1+14<=2305843009213693952)/\a7/\(-9223372036854775808<=a/\a<=9223372036854775807)/\a2/\a3/\(([58]++[110,116,104,45,108,97,115,116,45,99,104,105,108,100]++[40]++(itoa a)++[110]).length+(itoa b).length<=2305843009213693952)/\(([58]++[110,116,104,45,108,97,115,116,45,99,104,105,108,100]++[40]++(itoa a)++[110]++(itoa b)).length+1<=2305843009213693952)/\K (.val (.str ([58]++[110,116,104,45,108,97,115,116,45,99,104,105,108,100]++[40]++(itoa a)++[110]++(itoa b)++[41]))) none) ((1+14<=2305843009213693952)/\a7/\(-9223372036854775808<=a/\a<=9223372036854775807)/\a2/\a3/\(([58]++[110,116,104,45,108,97,115,116,45,99,104,105,108,100]++[40]++(itoa a)++[110]).length+([43]++(itoa b)).length<=2305843009213693952)/\(([58]++[110,116,104,45,108,97,115,116,45,99,104,105,108,100]++[40]++(itoa a)++[110]++([43]++(itoa b))).length+1<=2305843009213693952)/\K (.val (.str ([58]++[110,116,104,45,108,97,115,116,45,99,104,105,108,100]++[40]++(itoa a)++[110]++([43]++(itoa b))++[41]))) none)) (cond ((decide (l=false))&&(decide (t=true))) ((-9223372036854775808<=b/\b<=9223372036854775807)/\(1+(itoa b).length<=2305843009213693952)/\cond a12 ((-9223372036854775808<=b/\b<=9223372036854775807)/\(1+11<=2305843009213693952)/\a10/\(-9223372036854775808<=a/\a<=9223372036854775807)/\a5/\a6/\(([58]++[110,116,104,45,111,102,45,116,121,112,101]++[40]++(itoa a)++[110]).length+(itoa b).length<=2305843009213693952)/\(([58]++[110,116,104,45,111,102,45,116,121,112,101]++[40]++(itoa a)++[110]++(itoa b)).length+1<=2305843009213693952)/\K (.val (.str ([58]++[110,116,104,45,111,102,45,116,121,112,101]++[40]++(itoa a)++[110]++(itoa b)++[41]))) none) ((1+11<=2305843009213693952)/\a10/\(-9223372036854775808<=a/\a<=9223372036854775807)/\a5/\a6/\(([58]++[110,116,104,45,111,102,45,116,121,112,101]++[40]++(itoa a)++[110]).length+([43]++(itoa b)).length<=2305843009213693952)/\(([58]++[110,116,104,45,111,102,45,116,121,112,101]++[40]++(itoa a)++[110]++([43]++(itoa b))).length+1<=2305843009213693952)/\K (.val (.str ([58]++[110,116,104,45,111,102,45,116,121,112,101]++[40]++(itoa a)++[110]++([43]++(itoa b))++[41]))) none)) (cond ((decide (l=false))&&(decide (t=false))) ((-9223372036854775808<=b/\b<=9223372036854775807)/\(1+(itoa b).length<=2305843009213693952)/\cond a12 ((-9223372036854775808<=b/\b<=9223372036854775807)/\(1+9<=2305843009213693952)/\a11/\(-9223372036854775808<=a/\a<=9223372036854775807)/\a8/\a9/\(([58]++[110,116,104,45,99,104,105,108,100]++[40]++(itoa a)++[110]).length+(itoa b).length<=2305843009213693952)/\(([58]++[110,116,104,45,99,104,105,108,100]++[40]++(itoa a)++[110]++(itoa b)).length+1<=2305843009213693952)/\K (.val (.str ([58]++[110,116,104,45,99,104,105,108,100]++[40]++(itoa a)++[110]++(itoa b)++[41]))) none) ((1+9<=2305843009213693952)/\a11/\(-9223372036854775808<=a/\a<=9223372036854775807)/\a8/\a9/\(([58]++[110,116,104,45,99,104,105,108,100]++[40]++(itoa a)++[110]).length+([43]++(itoa b)).length<=2305843009213693952)/\(([58]++[110,116,104,45,99,104,105,108,100]++[40]++(itoa a)++[110]++([43]++(itoa b))).length+1<=2305843009213693952)/\K (.val (.str ([58]++[110,116,104,45,99,104,105,108,100]++[40]++(itoa a)++[110]++([43]++(itoa b))++[41]))) none)) ((-9223372036854775808<=b/\b<=9223372036854775807)/\(1+(itoa b).length<=2305843009213693952)/\cond a12 ((-9223372036854775808<=b/\b<=9223372036854775807)/\(1+0<=2305843009213693952)/\a15/\(-9223372036854775808<=a/\a<=9223372036854775807)/\a13/\a14/\(([58]++[]++[40]++(itoa a)++[110]).length+(itoa b).length<=2305843009213693952)/\(([58]++[]++[40]++(itoa a)++[110]++(itoa b)).length+1<=2305843009213693952)/\K (.val (.str ([58]++[]++[40]++(itoa a)++[110]++(itoa b)++[41]))) none) ((1+0<=2305843009213693952)/\a15/\(-9223372036854775808<=a/\a<=9223372036854775807)/\a13/\a14/\(([58]++[]++[40]++(itoa a)++[110]).length+([43]++(itoa b)).length<=2305843009213693952)/\(([58]++[]++[40]++(itoa a)++[110]++([43]++(itoa b))).length+1<=2305843009213693952)/\K (.val (.str ([58]++[]++[40]++(itoa a)++[110]++([43]++(itoa b))++[41]))) none))))))) ?_
 refine Qa ?_ ?_<;>intro h1<;>try simp[-za,-zb]at h1
 refine Qa (fun h2=>?_) (fun h2=>?_)
 try simp[-za,-zb]at h2
 refine Qa ?_ ?_<;>intro h3<;>try simp[-za,-zb]at h3
 refine QA ?_
 refine Vv hk ?_
 rw[pr,if_pos h1]
 simp[Qdc,h2,h3]
 refine QA ?_
 refine Vv hk ?_
 rw[pr,if_pos h1]
 simp[Qdc,h2,h3]
 try simp[-za,-zb]at h2
 refine Qa ?_ ?_<;>intro h3<;>try simp[-za,-zb]at h3
 refine QA ?_
 refine Vv hk ?_
 rw[pr,if_pos h1]
 simp[Qdc,h2,h3]
 refine QA ?_
 refine Vv hk ?_
 rw[pr,if_pos h1]
 simp[Qdc,h2,h3]
 refine Qa (fun h2=>?_) (fun h2=>?_)
 try simp[-za,-zb]at h2
 refine QA (QA ?_)
 refine Qa ?_ ?_<;>intro h3<;>try simp[-za,-zb]at h3
 refine QA (QA (QA (QA (QA (QA (QA (QA ?_)))))))
 have hn:¬(a=0/\b=1):=fun q=>h1 q.1 q.2
 refine Vv hk ?_
 rw[UF hn]
 first
  | rw[if_pos (by omega)]
  | rw[if_neg (by omega)]
 cases l<;>cases t<;>first | (simp[Way.ZX,Vp,QH,VI,QL];done) | (simp at h2;done) | (simp at h3;done) | (simp at h4;done) | (simp at h5;done) | (simp at h6;done) | (simp at h2 h3;done) | (simp at h2 h3 h4;done) | (simp at h2 h3 h4 h5;done)
 refine QA (QA (QA (QA (QA (QA (QA ?_))))))
 have hn:¬(a=0/\b=1):=fun q=>h1 q.1 q.2
 refine Vv hk ?_
 rw[UF hn]
 first
  | rw[if_pos (by omega)]
  | rw[if_neg (by omega)]
 cases l<;>cases t<;>first | (simp[Way.ZX,Vp,QH,VI,QL];done) | (simp at h2;done) | (simp at h3;done) | (simp at h4;done) | (simp at h5;done) | (simp at h6;done) | (simp at h2 h3;done) | (simp at h2 h3 h4;done) | (simp at h2 h3 h4 h5;done)
 try simp[-za,-zb]at h2
 refine Qa ?_ ?_<;>intro h3<;>try simp[-za,-zb]at h3
 refine QA (QA ?_)
 refine Qa ?_ ?_<;>intro h4<;>try simp[-za,-zb]at h4
 refine QA (QA (QA (QA (QA (QA (QA (QA ?_)))))))
 have hn:¬(a=0/\b=1):=fun q=>h1 q.1 q.2
 refine Vv hk ?_
 rw[UF hn]
 first
  | rw[if_pos (by omega)]
  | rw[if_neg (by omega)]
 cases l<;>cases t<;>first | (simp[Way.ZX,Vp,QH,VI,QL];done) | (simp at h2;done) | (simp at h3;done) | (simp at h4;done) | (simp at h5;done) | (simp at h6;done) | (simp at h2 h3;done) | (simp at h2 h3 h4;done) | (simp at h2 h3 h4 h5;done)
 refine QA (QA (QA (QA (QA (QA (QA ?_))))))
 have hn:¬(a=0/\b=1):=fun q=>h1 q.1 q.2
 refine Vv hk ?_
 rw[UF hn]
 first
  | rw[if_pos (by omega)]
  | rw[if_neg (by omega)]
 cases l<;>cases t<;>first | (simp[Way.ZX,Vp,QH,VI,QL];done) | (simp at h2;done) | (simp at h3;done) | (simp at h4;done) | (simp at h5;done) | (simp at h6;done) | (simp at h2 h3;done) | (simp at h2 h3 h4;done) | (simp at h2 h3 h4 h5;done)
 refine Qa (fun h4=>?_) (fun h4=>?_)
 try simp[-za,-zb]at h4
 refine QA (QA ?_)
 refine Qa ?_ ?_<;>intro h5<;>try simp[-za,-zb]at h5
 refine QA (QA (QA (QA (QA (QA (QA (QA ?_)))))))
 have hn:¬(a=0/\b=1):=fun q=>h1 q.1 q.2
 refine Vv hk ?_
 rw[UF hn]
 first
  | rw[if_pos (by omega)]
  | rw[if_neg (by omega)]
 cases l<;>cases t<;>first | (simp[Way.ZX,Vp,QH,VI,QL];done) | (simp at h2;done) | (simp at h3;done) | (simp at h4;done) | (simp at h5;done) | (simp at h6;done) | (simp at h2 h3;done) | (simp at h2 h3 h4;done) | (simp at h2 h3 h4 h5;done)
 refine QA (QA (QA (QA (QA (QA (QA ?_))))))
 have hn:¬(a=0/\b=1):=fun q=>h1 q.1 q.2
 refine Vv hk ?_
 rw[UF hn]
 first
  | rw[if_pos (by omega)]
  | rw[if_neg (by omega)]
 cases l<;>cases t<;>first | (simp[Way.ZX,Vp,QH,VI,QL];done) | (simp at h2;done) | (simp at h3;done) | (simp at h4;done) | (simp at h5;done) | (simp at h6;done) | (simp at h2 h3;done) | (simp at h2 h3 h4;done) | (simp at h2 h3 h4 h5;done)
 try simp[-za,-zb]at h4
 refine Qa ?_ ?_<;>intro h5<;>try simp[-za,-zb]at h5
 refine QA (QA ?_)
 refine Qa ?_ ?_<;>intro h6<;>try simp[-za,-zb]at h6
 refine QA (QA (QA (QA (QA (QA (QA (QA ?_)))))))
 have hn:¬(a=0/\b=1):=fun q=>h1 q.1 q.2
 refine Vv hk ?_
 rw[UF hn]
 first
  | rw[if_pos (by omega)]
  | rw[if_neg (by omega)]
 cases l<;>cases t<;>first | (simp[Way.ZX,Vp,QH,VI,QL];done) | (simp at h2;done) | (simp at h3;done) | (simp at h4;done) | (simp at h5;done) | (simp at h6;done) | (simp at h2 h3;done) | (simp at h2 h3 h4;done) | (simp at h2 h3 h4 h5;done)
 refine QA (QA (QA (QA (QA (QA (QA ?_))))))
 have hn:¬(a=0/\b=1):=fun q=>h1 q.1 q.2
 refine Vv hk ?_
 rw[UF hn]
 first
  | rw[if_pos (by omega)]
  | rw[if_neg (by omega)]
 cases l<;>cases t<;>first | (simp[Way.ZX,Vp,QH,VI,QL];done) | (simp at h2;done) | (simp at h3;done) | (simp at h4;done) | (simp at h5;done) | (simp at h6;done) | (simp at h2 h3;done) | (simp at h2 h3 h4;done) | (simp at h2 h3 h4 h5;done)
 refine QA (QA ?_)
 refine Qa ?_ ?_<;>intro h6<;>try simp[-za,-zb]at h6
 refine QA (QA (QA (QA (QA (QA (QA (QA ?_)))))))
 have hn:¬(a=0/\b=1):=fun q=>h1 q.1 q.2
 refine Vv hk ?_
 rw[UF hn]
 first
  | rw[if_pos (by omega)]
  | rw[if_neg (by omega)]
 cases l<;>cases t<;>first | (simp[Way.ZX,Vp,QH,VI,QL];done) | (simp at h2;done) | (simp at h3;done) | (simp at h4;done) | (simp at h5;done) | (simp at h6;done) | (simp at h2 h3;done) | (simp at h2 h3 h4;done) | (simp at h2 h3 h4 h5;done)
 refine QA (QA (QA (QA (QA (QA (QA ?_))))))
 have hn:¬(a=0/\b=1):=fun q=>h1 q.1 q.2
 refine Vv hk ?_
 rw[UF hn]
 first
  | rw[if_pos (by omega)]
  | rw[if_neg (by omega)]
 cases l<;>cases t<;>first | (simp[Way.ZX,Vp,QH,VI,QL];done) | (simp at h2;done) | (simp at h3;done) | (simp at h4;done) | (simp at h5;done) | (simp at h6;done) | (simp at h2 h3;done) | (simp at h2 h3 h4;done) | (simp at h2 h3 h4 h5;done)
 cases e
def c218 (svs:List SV) (b:Option SB):QR:=match svs,b with
 | [.agg [.bool t]],none=>some ([],.str (pr (.only t)))
 | _,_=>none
noncomputable def W218:Wk:=⟨[],Qh Tryz.f218,false,false,[.tmp 2],[9],[],[]⟩
theorem QxD:Has 218:=hsf Tryz.f218
theorem QvU:Sat 218 (Ql c218):=by
 have hD:Qb W218.D:=Qb.nil
 refine W218.sa hD Tryz.f218 fun svs b K hP=>?_
 obtain⟨ps,v,e,hp,hk⟩:=Qd hP
 unfold c218 at e
 split at e
 rename_i t
 cases e
 refine W218.en (cond t (K (.val (.str [58,111,110,108,121,45,111,102,45,116,121,112,101])) none) (K (.val (.str [58,111,110,108,121,45,99,104,105,108,100])) none)) ?_
 refine Qa ?_ ?_<;>intro h1<;>try simp[-za,-zb]at h1
 refine Vv hk ?_
 simp[pr,h1]
 refine Vv hk ?_
 simp[pr,h1]
 cases e
def c220 (svs:List SV) (b:Option SB):QR:=match svs,b with
 | [.agg []],none=>some ([],.str (pr (CSel.empty)))
 | _,_=>none
noncomputable def W220:Wk:=⟨[],Qh Tryz.f220,false,false,[.tmp 2],[9],[],[]⟩
theorem QxC:Has 220:=hsf Tryz.f220
theorem QvT:Sat 220 (Ql c220):=by
 have hD:Qb W220.D:=Qb.nil
 refine W220.sa hD Tryz.f220 fun svs b K hP=>?_
 obtain⟨ps,v,e,hp,hk⟩:=Qd hP
 unfold c220 at e
 split at e
 cases e
 refine W220.en (K (.val (.str [58,101,109,112,116,121])) none) ?_
 exact hk
 cases e
def c222 (svs:List SV) (b:Option SB):QR:=match svs,b with
 | [.agg []],none=>some ([],.str (pr (CSel.root)))
 | _,_=>none
noncomputable def W222:Wk:=⟨[],Qh Tryz.f222,false,false,[.tmp 2],[9],[],[]⟩
theorem QxB:Has 222:=hsf Tryz.f222
theorem QvS:Sat 222 (Ql c222):=by
 have hD:Qb W222.D:=Qb.nil
 refine W222.sa hD Tryz.f222 fun svs b K hP=>?_
 obtain⟨ps,v,e,hp,hk⟩:=Qd hP
 unfold c222 at e
 split at e
 cases e
 refine W222.en (K (.val (.str [58,114,111,111,116])) none) ?_
 exact hk
 cases e
def c224 (svs:List SV) (b:Option SB):QR:=match svs,b with
 | [.agg []],none=>some ([],.str (pr (CSel.input)))
 | _,_=>none
noncomputable def W224:Wk:=⟨[],Qh Tryz.f224,false,false,[.tmp 2],[9],[],[]⟩
theorem QxA:Has 224:=hsf Tryz.f224
theorem QvR:Sat 224 (Ql c224):=by
 have hD:Qb W224.D:=Qb.nil
 refine W224.sa hD Tryz.f224 fun svs b K hP=>?_
 obtain⟨ps,v,e,hp,hk⟩:=Qd hP
 unfold c224 at e
 split at e
 cases e
 refine W224.en (K (.val (.str [58,105,110,112,117,116])) none) ?_
 exact hk
 cases e
def c226 (svs:List SV) (b:Option SB):QR:=match svs,b with
 | [.agg []],none=>some ([],.str (pr (CSel.link)))
 | _,_=>none
noncomputable def W226:Wk:=⟨[],Qh Tryz.f226,false,false,[.tmp 2],[9],[],[]⟩
theorem Qxz:Has 226:=hsf Tryz.f226
theorem QvQ:Sat 226 (Ql c226):=by
 have hD:Qb W226.D:=Qb.nil
 refine W226.sa hD Tryz.f226 fun svs b K hP=>?_
 obtain⟨ps,v,e,hp,hk⟩:=Qd hP
 unfold c226 at e
 split at e
 cases e
 refine W226.en (K (.val (.str [58,108,105,110,107])) none) ?_
 exact hk
 cases e
def c228 (svs:List SV) (b:Option SB):QR:=match svs,b with
 | [.agg []],none=>some ([],.str (pr (CSel.enabled)))
 | _,_=>none
noncomputable def W228:Wk:=⟨[],Qh Tryz.f228,false,false,[.tmp 2],[9],[],[]⟩
theorem Qxy:Has 228:=hsf Tryz.f228
theorem QvP:Sat 228 (Ql c228):=by
 have hD:Qb W228.D:=Qb.nil
 refine W228.sa hD Tryz.f228 fun svs b K hP=>?_
 obtain⟨ps,v,e,hp,hk⟩:=Qd hP
 unfold c228 at e
 split at e
 cases e
 refine W228.en (K (.val (.str [58,101,110,97,98,108,101,100])) none) ?_
 exact hk
 cases e
def c230 (svs:List SV) (b:Option SB):QR:=match svs,b with
 | [.agg []],none=>some ([],.str (pr (CSel.disabled)))
 | _,_=>none
noncomputable def W230:Wk:=⟨[],Qh Tryz.f230,false,false,[.tmp 2],[9],[],[]⟩
theorem Qxx:Has 230:=hsf Tryz.f230
theorem QvO:Sat 230 (Ql c230):=by
 have hD:Qb W230.D:=Qb.nil
 refine W230.sa hD Tryz.f230 fun svs b K hP=>?_
 obtain⟨ps,v,e,hp,hk⟩:=Qd hP
 unfold c230 at e
 split at e
 cases e
 refine W230.en (K (.val (.str [58,100,105,115,97,98,108,101,100])) none) ?_
 exact hk
 cases e
def c232 (svs:List SV) (b:Option SB):QR:=match svs,b with
 | [.agg []],none=>some ([],.str (pr (CSel.checked)))
 | _,_=>none
noncomputable def W232:Wk:=⟨[],Qh Tryz.f232,false,false,[.tmp 2],[9],[],[]⟩
theorem Qxw:Has 232:=hsf Tryz.f232
theorem QvN:Sat 232 (Ql c232):=by
 have hD:Qb W232.D:=Qb.nil
 refine W232.sa hD Tryz.f232 fun svs b K hP=>?_
 obtain⟨ps,v,e,hp,hk⟩:=Qd hP
 unfold c232 at e
 split at e
 cases e
 refine W232.en (K (.val (.str [58,99,104,101,99,107,101,100])) none) ?_
 exact hk
 cases e
def c234 (svs:List SV) (b:Option SB):QR:=match svs,b with
 | [.agg [.str v]],none=>some ([v.length<=1000000],.str (pr (.lang v)))
 | _,_=>none
noncomputable def W234:Wk:=⟨[],Qh Tryz.f234,false,false,[.tmp 2],[9],[],[]⟩
theorem Qxv:Has 234:=hsf Tryz.f234
theorem QvM:Sat 234 (Ql c234):=by
 have hD:Qb W234.D:=Qb.nil
 refine W234.sa hD Tryz.f234 fun svs b K hP=>?_
 obtain⟨ps,v,e,hp,hk⟩:=Qd hP
 unfold c234 at e
 split at e
 rename_i v
 cases e
 obtain⟨h01,_⟩:=hp
 refine W234.en ((6+v.length<=2305843009213693952)/\(([58,108,97,110,103,40]++v).length+1<=2305843009213693952)/\K (.val (.str ([58,108,97,110,103,40]++v++[41]))) none) ?_
 refine QA (QA ?_)
 refine Vv hk ?_
 simp[pr,ZY]
 cases e
def c236 (svs:List SV) (b:Option SB):QR:=match svs,b with
 | [.agg [.str v,.bool o]],none=>some ([v.length<=1000000],.str (pr (.contains v o)))
 | _,_=>none
noncomputable def W236:Wk:=⟨[],Qh Tryz.f236,false,false,[.tmp 2],[9],[],[]⟩
theorem Qxu:Has 236:=hsf Tryz.f236
theorem QvL:Sat 236 (Ql c236):=by
 have hD:Qb W236.D:=Qb.nil
 refine W236.sa hD Tryz.f236 fun svs b K hP=>?_
 obtain⟨ps,v,e,hp,hk⟩:=Qd hP
 unfold c236 at e
 split at e
 rename_i v o
 cases e
 obtain⟨h01,_⟩:=hp
 refine W236.en (cond o ((8+3<=2305843009213693952)/\(1+([99,111,110,116,97,105,110,115]++[79,119,110]).length<=2305843009213693952)/\(([58]++([99,111,110,116,97,105,110,115]++[79,119,110])).length+2<=2305843009213693952)/\(([58]++([99,111,110,116,97,105,110,115]++[79,119,110])++[40,34]).length+v.length<=2305843009213693952)/\(([58]++([99,111,110,116,97,105,110,115]++[79,119,110])++[40,34]++v).length+2<=2305843009213693952)/\K (.val (.str ([58]++([99,111,110,116,97,105,110,115]++[79,119,110])++[40,34]++v++[34,41]))) none) ((1+8<=2305843009213693952)/\(([58]++[99,111,110,116,97,105,110,115]).length+2<=2305843009213693952)/\(([58]++[99,111,110,116,97,105,110,115]++[40,34]).length+v.length<=2305843009213693952)/\(([58]++[99,111,110,116,97,105,110,115]++[40,34]++v).length+2<=2305843009213693952)/\K (.val (.str ([58]++[99,111,110,116,97,105,110,115]++[40,34]++v++[34,41]))) none)) ?_
 refine Qa ?_ ?_<;>intro h1<;>try simp[-za,-zb]at h1
 refine QA (QA (QA (QA (QA ?_))))
 refine Vv hk ?_
 simp[pr,h1]
 refine QA (QA (QA (QA ?_)))
 refine Vv hk ?_
 simp[pr,h1]
 cases e
def c240 (svs:List SV) (b:Option SB):QR:=match svs,b with
 | [.agg [.str v]],none=>some ([],.str (pr (.never v)))
 | _,_=>none
noncomputable def W240:Wk:=⟨[],Qh Tryz.f240,false,false,[.tmp 2],[9],[],[]⟩
theorem Qxt:Has 240:=hsf Tryz.f240
theorem QvJ:Sat 240 (Ql c240):=by
 have hD:Qb W240.D:=Qb.nil
 refine W240.sa hD Tryz.f240 fun svs b K hP=>?_
 obtain⟨ps,v,e,hp,hk⟩:=Qd hP
 unfold c240 at e
 split at e
 rename_i v
 cases e
 refine W240.en (K (.val (.str v)) none) ?_
 refine Vv hk ?_
 simp[pr]
 cases e
end
section
open Go Go.RowKit
set_option maxRecDepth 20000
theorem QtC:∀l:List CSel,l.length<=(prG l).length+1/\∀y∈l,(pr y).length<=(prG l).length:=by
 have key:∀l:List CSel,2*l.length<=((prs l).flatMap fun u=>[44,32]++u).length/\∀y∈l,(pr y).length<=((prs l).flatMap fun u=>[44,32]++u).length:=by
  intro l
  induction l with
  | nil=>exact⟨by simp[prs],fun y hy=>by cases hy⟩
  | cons x l ih=>
   obtain⟨i1,i2⟩:=ih
   rw[prs,List.flatMap_cons,zf]
   simp only[zf,zg,zl]
   refine⟨by omega,fun y hy=>?_⟩
   rcases zp.1 hy with e | e
   subst e;omega
   have:=i2 y e;omega
 intro l
 cases l with
 | nil=>exact⟨by simp,fun y hy=>by cases hy⟩
 | cons x l=>
  obtain⟨i1,i2⟩:=key l
  unfold prG
  rw[prs,Je,zf,zg]
  refine⟨by omega,fun y hy=>?_⟩
  rcases zp.1 hy with e | e
  subst e;omega
  have:=i2 y e;omega
theorem Qt1 (l:List CSel):∀y∈l,(pr y).length<=(prs l).flatten.length:=by
 induction l with
 | nil=>intro y hy;cases hy
 | cons x l ih=>
  intro y hy
  rw[prs,xx,zf]
  rcases zp.1 hy with e | e
  subst e;omega
  have:=ih y e;omega
def gS (m:Nat) (x:CSel):Option (List Prop×List UInt8):=some ([okM m x],pr x)
theorem QjV {l:List CSel} {i:Nat} (h:i<l.length):l.getD i default∈l:=by
 rw[za,ze h]
 exact List.getElem_mem h
def c40 (m:Nat) (svs:List SV) (b:Option SB):QR:=match svs,b with
 | [.sl (.csels l)],none=>some ([l.length<=1000000/\∀y∈l,okM m y,(prG l).length<=1000000],.str (prG l))
 | _,_=>none
noncomputable def W40 (m:Nat):Wk:=⟨[(63,.pure c63),(199,.meth (gS m))],Qh Tryz.f40,false,false,[.tmp 2],[9],[(3,3592)],[]⟩
theorem Qvc:Has 40:=hsf Tryz.f40
theorem QjL {p q:Prop} (k:q) (h:p:=by first | omega | exact h02 _ (QjV (by omega)) | (rw[QmP l i (by omega)];omega) | (rw[Qbo (by omega),Qj4,Qem];exact⟨by omega,by have:=h03;unfold prG at this;omega⟩) | (simp;done)):p/\q:=⟨h,k⟩
theorem QuJ (m:Nat) (hM:Qaz (gS m)):Sat 40 (Ql (c40 m)):=by
 have hD:Qb (W40 m).D:=(Qb.cons Qu7 QuE (Qb.cons QfB hM Qb.nil))
 refine (W40 m).sa hD Tryz.f40 fun svs b K hP=>?_
 obtain⟨ps,v,e,hp,hk⟩:=Qd hP
 unfold c40 at e
 split at e
 rename_i l
 cases e
 obtain⟨⟨h01,h02⟩,h03,_⟩:=hp
 have L3:∀(mm:Nat) (i:Nat),l.length-i=mm->(i<=l.length)->(W40 m).L K 3 (mkS 24 [(3,(.own 1)),(9,(.sl (.csels l))),(10,(.nat l.length)),(11,(.nat i))] [(1,.row (.strs (prR l i)) true)] 2):=by
  intro mm
  induction mm using zi with
  | _ mm ih=>
   intro i hm hI
   refine (W40 m).aL hD (cond (decide (i<l.length)) ((i<l.length)/\(okM m (l.getD i default))/\(i<(prR l i).length)/\(i<(prR l i).length)/\(i+1<=9223372036854775807)/\(W40 m).L K 3 (mkS 24 [(3,(.own 1)),(9,(.sl (.csels l))),(10,(.nat l.length)),(11,(.nat (i+1)))] [(1,.row (.strs ((prR l i).set i (pr (l.getD i default)))) true)] 2)) (((prR l i).length<=1000000000/\(Lib.join (prR l i) [44,32]).length<=1000000000)/\K (.val (.str (Lib.join (prR l i) [44,32]))) none)) ?_
   refine Qa ?_ ?_<;>intro h1<;>try simp[-za,-zb]at h1
   refine QjL (QjL (QjL (QjL (QjL ?_))))
   rw[QuW h1]
   exact ih _ (by omega) (i+1) rfl (by omega)
   refine QjL ?_
   refine Vv hk ?_
   rw[Qbo (by omega),Qj4]
   rfl
 refine (W40 m).en ((l.length=l.length)/\(l.length<=1099511627776)/\(W40 m).L K 3 (mkS 24 [(3,(.own 1)),(9,(.sl (.csels l))),(10,(.nat l.length)),(11,(.nat 0))] [(1,.row (.strs (zR l.length ([]:List UInt8))) true)] 2)) ?_
 refine QjL (QjL ?_)
 exact L3 _ 0 rfl (by omega)
 cases e
def c244 (m:Nat) (svs:List SV) (b:Option SB):QR:=match svs,b with
 | [.agg [.str n,.sl (.csels l)]],none=>some ([l.length<=1000000/\∀y∈l,okM m y,(prG l).length<=1000000,n.length<=1000000],.str (pr (.rel n l)))
 | _,_=>none
noncomputable def W244 (m:Nat):Wk:=⟨[(40,.pure (c40 m))],Qh Tryz.f244,false,false,[.tmp 2],[9],[],[]⟩
theorem Qxs:Has 244:=hsf Tryz.f244
theorem Qos {p q:Prop} (k:q) (h:p:=by first | omega | exact⟨h01,h02⟩ | (simp;done) | (simp only[zf,zg,zl];omega)):p/\q:=⟨h,k⟩
theorem QvI (m:Nat) (hM:Qaz (gS m)):Sat 244 (Ql (c244 m)):=by
 have hD:Qb (W244 m).D:=(Qb.cons Qvc (QuJ m hM) Qb.nil)
 refine (W244 m).sa hD Tryz.f244 fun svs b K hP=>?_
 obtain⟨ps,v,e,hp,hk⟩:=Qd hP
 unfold c244 at e
 split at e
 rename_i n l
 cases e
 obtain⟨⟨h01,h02⟩,h03,h04,_⟩:=hp
 refine (W244 m).en ((1+n.length<=2305843009213693952)/\(([58]++n).length+1<=2305843009213693952)/\(l.length<=1000000/\∀y∈l,okM m y)/\((prG l).length<=1000000)/\(([58]++n++[40]).length+(prG l).length<=2305843009213693952)/\(([58]++n++[40]++(prG l)).length+1<=2305843009213693952)/\K (.val (.str ([58]++n++[40]++(prG l)++[41]))) none) ?_
 refine Qos (Qos (Qos (Qos (Qos (Qos ?_)))))
 refine Vv hk ?_
 rw[pr]
 unfold prG
 simp
 cases e
def c248 (m:Nat) (svs:List SV) (b:Option SB):QR:=match svs,b with
 | [.agg [.sl (.csels l),.str pe]],none=>some ([l.length<=1000000/\∀y∈l,okM m y,(prs l).flatten.length<=1000000,pe.length<=1000000],.str (pr (.compound l pe)))
 | _,_=>none
noncomputable def Qmc (m:Nat):Wk:=⟨[(63,.pure c63),(199,.meth (gS m))],Qh Tryz.f248,false,false,[.tmp 2],[9],[(5,14680074)],[]⟩
theorem Qru:Has 248:=hsf Tryz.f248
theorem Qf9 {p q:Prop} (k:q) (h:p:=by first | omega | exact h02 _ (QjV (by omega)) | (rw[QmP l i (by omega)];omega) | (rw[Qbo (by omega),Qbp,Qem];exact⟨by omega,by omega⟩) | (rw[Qbo (by omega),Qbp];first | omega | (simp only[zf,zg,zl];omega)) | (simp;done) | (simp only[zf,zg,zl];omega)):p/\q:=⟨h,k⟩
theorem QpY (m:Nat) (hM:Qaz (gS m)):Sat 248 (Ql (c248 m)):=by
 have hD:Qb (Qmc m).D:=(Qb.cons Qu7 QuE (Qb.cons QfB hM Qb.nil))
 refine (Qmc m).sa hD Tryz.f248 fun svs b K hP=>?_
 obtain⟨ps,v,e,hp,hk⟩:=Qd hP
 unfold c248 at e
 split at e
 rename_i l pe
 cases e
 obtain⟨⟨h01,h02⟩,h03,h04,_⟩:=hp
 have L5:∀(mm:Nat) (i:Nat),l.length-i=mm->(i<=l.length/\¬(l=[]/\pe=[]))->(Qmc m).L K 5 (mkS 45 [(1,(.ptr 1 0)),(3,(.own 2)),(21,(.sl (.csels l))),(22,(.nat l.length)),(23,(.nat i))] [(1,.blk 129 [(.sl (.csels l)),(.str pe)]),(2,.row (.strs (prR l i)) true)] 3):=by
  intro mm
  induction mm using zi with
  | _ mm ih=>
   intro i hm hI
   obtain⟨k1,k2⟩:=hI
   refine (Qmc m).aL hD (cond (decide (i<l.length)) ((i<l.length)/\(okM m (l.getD i default))/\(i<(prR l i).length)/\(i<(prR l i).length)/\(i+1<=9223372036854775807)/\(Qmc m).L K 5 (mkS 45 [(1,(.ptr 1 0)),(3,(.own 2)),(21,(.sl (.csels l))),(22,(.nat l.length)),(23,(.nat (i+1)))] [(1,.blk 129 [(.sl (.csels l)),(.str pe)]),(2,.row (.strs ((prR l i).set i (pr (l.getD i default)))) true)] 3)) (((prR l i).length<=1000000000/\(Lib.join (prR l i) []).length<=1000000000)/\cond (!(decide (pe=[]))) ((2+pe.length<=2305843009213693952)/\((Lib.join (prR l i) []).length+([58,58]++pe).length<=2305843009213693952)/\K (.val (.str (Lib.join (prR l i) []++([58,58]++pe)))) none) (K (.val (.str (Lib.join (prR l i) []))) none))) ?_
   refine Qa ?_ ?_<;>intro h1<;>try simp[-za,-zb]at h1
   refine Qf9 (Qf9 (Qf9 (Qf9 (Qf9 ?_))))
   rw[QuW h1]
   exact ih _ (by omega) (i+1) rfl ⟨by omega,k2⟩
   refine Qf9 ?_
   refine Qa ?_ ?_<;>intro h2<;>try simp[-za,-zb]at h2
   refine Qf9 (Qf9 ?_)
   refine Vv hk ?_
   rw[Qbo (by omega),Qbp,pr,if_neg k2,if_neg h2]
   rfl
   refine Vv hk ?_
   rw[Qbo (by omega),Qbp,pr,if_neg k2,if_pos h2,zD]
 refine (Qmc m).en (cond ((decide (l.length=0))&&(decide (pe=[]))) (K (.val (.str [42])) none) ((l.length=l.length)/\(l.length<=1099511627776)/\(Qmc m).L K 5 (mkS 45 [(1,(.ptr 1 0)),(3,(.own 2)),(21,(.sl (.csels l))),(22,(.nat l.length)),(23,(.nat 0))] [(2,.row (.strs (zR l.length ([]:List UInt8))) true),(1,.blk 129 [(.sl (.csels l)),(.str pe)])] 3))) ?_
 refine Qa ?_ ?_<;>intro h1<;>try simp[-za,-zb]at h1
 refine Vv hk ?_
 rw[pr,if_pos h1]
 refine Qf9 (Qf9 ?_)
 exact Wk.L.rn [0,1,2] (L5 _ 0 rfl ⟨by omega,fun q=>h1 q.1 q.2⟩)
 cases e
def c252 (m:Nat) (svs:List SV) (b:Option SB):QR:=match svs,b with
 | [.agg [.cs f,.byt c,.cs s]],none=>some ([okM m f,okM m s,(Y6 c.toNat).length<=1000000],.str (pr (.combined f c s)))
 | _,_=>none
noncomputable def W252 (m:Nat):Wk:=⟨[(199,.meth (gS m))],Qh Tryz.f252,false,false,[.tmp 2],[9],[],[]⟩
theorem Qxr:Has 252:=hsf Tryz.f252
theorem Qor {p q:Prop} (k:q) (h:p:=by first | omega | exact h01 | exact h02 | (simp;done) | (simp only[zf,zg,zl];omega)):p/\q:=⟨h,k⟩
theorem QvH (m:Nat) (hM:Qaz (gS m)):Sat 252 (Ql (c252 m)):=by
 have hD:Qb (W252 m).D:=(Qb.cons QfB hM Qb.nil)
 refine (W252 m).sa hD Tryz.f252 fun svs b K hP=>?_
 obtain⟨ps,v,e,hp,hk⟩:=Qd hP
 unfold c252 at e
 split at e
 rename_i f c s
 cases e
 obtain⟨h01,h02,h03,_⟩:=hp
 have e1:=h01.2.2.1
 have e2:=h02.2.2.1
 refine (W252 m).en (have a0:=Y6 ((c.toNat:Nat):Int);(okM m f)/\(1+a0.length<=2305843009213693952)/\(([32]++a0).length+1<=2305843009213693952)/\(okM m s)/\(([32]++a0++[32]).length+(pr s).length<=2305843009213693952)/\((pr f).length+([32]++a0++[32]++(pr s)).length<=2305843009213693952)/\K (.val (.str (pr f++([32]++a0++[32]++(pr s))))) none) ?_
 refine Qor (Qor (Qor (Qor (Qor (Qor ?_)))))
 refine Vv hk ?_
 rw[pr]
 simp
 cases e
theorem Qxb (m:Nat) (hM:Qaz (gS m)):Qaz (gS (m+1)):=by
 intro x ps s e hp
 cases e
 obtain⟨⟨h1,h2,h3,h4⟩,_⟩:=hp
 have kids:∀{l:List CSel},Qiq l<=m->Qoq l->(∀y∈l,(pr y).length<=1000000)->(Vk l).length<=1000000->∀y∈l,okM m y:=fun a b c d y hy=>⟨Qrn a y hy,QqH b y hy,c y hy,Nat.le_trans (Qkv y hy) d⟩
 cases x
 case tag k=>exact⟨199,c199,_,QfB,QvZ,rfl,trivial,fun u w=>by kernel_rfl⟩
 case cls k=>
  have:=JA k
  rw[pr,zg]at h3
  exact⟨203,c203,_,QxH,QvY,rfl,⟨by omega,trivial⟩,fun u w=>by kernel_rfl⟩
 case idn k=>
  have:=JA k
  rw[pr,zg]at h3
  exact⟨208,c208,_,QxG,QvX,rfl,⟨by omega,trivial⟩,fun u w=>by kernel_rfl⟩
 case attr k v o i=>
  rw[pr]at h3
  simp only[zf,zg,zl]at h3
  have hv:v.length<=1000000:=by
   split at h3
   omega
   simp only[zf,zg,zl]at h3
   omega
  exact⟨212,c212,_,QxF,QvW,rfl,⟨⟨by omega,hv,by omega⟩,trivial⟩,fun u w=>by kernel_rfl⟩
 case nth a b l t=>
  simp only[okC]at h2
  exact⟨216,c216,_,QxE,QvV,rfl,⟨h2,trivial⟩,fun u w=>by kernel_rfl⟩
 case only t=>exact⟨218,c218,_,QxD,QvU,rfl,trivial,fun u w=>by kernel_rfl⟩
 case empty=>exact⟨220,c220,_,QxC,QvT,rfl,trivial,fun u w=>by kernel_rfl⟩
 case root=>exact⟨222,c222,_,QxB,QvS,rfl,trivial,fun u w=>by kernel_rfl⟩
 case input=>exact⟨224,c224,_,QxA,QvR,rfl,trivial,fun u w=>by kernel_rfl⟩
 case link=>exact⟨226,c226,_,Qxz,QvQ,rfl,trivial,fun u w=>by kernel_rfl⟩
 case enabled=>exact⟨228,c228,_,Qxy,QvP,rfl,trivial,fun u w=>by kernel_rfl⟩
 case disabled=>exact⟨230,c230,_,Qxx,QvO,rfl,trivial,fun u w=>by kernel_rfl⟩
 case checked=>exact⟨232,c232,_,Qxw,QvN,rfl,trivial,fun u w=>by kernel_rfl⟩
 case lang v=>
  rw[pr]at h3
  simp only[zf,zg,zl]at h3
  exact⟨234,c234,_,Qxv,QvM,rfl,⟨by omega,trivial⟩,fun u w=>by kernel_rfl⟩
 case contains v o=>
  rw[pr]at h3
  simp only[zf,zg,zl]at h3
  exact⟨236,c236,_,Qxu,QvL,rfl,⟨by omega,trivial⟩,fun u w=>by kernel_rfl⟩
 case never v=>exact⟨240,c240,_,Qxt,QvJ,rfl,trivial,fun u w=>by kernel_rfl⟩
 case rel n l=>
  rw[hgt]at h1
  rw[okC]at h2
  rw[pr]at h3
  simp only[zf,zg,zl]at h3
  obtain⟨j1,j2⟩:=QtC l
  have j3:(Je (prs l)).length=(prG l).length:=rfl
  exact⟨244,c244 m,_,Qxs,QvI m hM,rfl,⟨⟨by omega,kids (by omega) h2 (fun y hy=>by have:=j2 y hy;omega) (by simp[Qz,Qr]at h4;omega)⟩,by omega,by omega,trivial⟩,fun u w=>by kernel_rfl⟩
 case compound l pe=>
  rw[hgt]at h1
  rw[okC]at h2
  rw[pr]at h3
  by_cases e:l=[]/\pe=[]
  obtain⟨rfl,rfl⟩:=e
  exact⟨248,c248 m,_,Qru,QpY m hM,rfl,⟨⟨by simp,fun y hy=>by cases hy⟩,by simp[prs],by simp,trivial⟩,fun u w=>by kernel_rfl⟩
  rw[if_neg e,zf]at h3
  have hpe:pe.length<=1000000:=by
   split at h3
   rename_i q;rw[q];simp
   simp only[zg]at h3;omega
  have hd:(Vk l).length<=1000000:=by simp[Qz,Qr]at h4;omega
  have hn:=Qkw l
  exact⟨248,c248 m,_,Qru,QpY m hM,rfl,⟨⟨by omega,kids (by omega) h2 (fun y hy=>by have:=Qt1 l y hy;omega) hd⟩,by omega,hpe,trivial⟩,fun u w=>by kernel_rfl⟩
 case combined f c s=>
  rw[hgt]at h1
  rw[okC]at h2
  rw[pr]at h3
  simp only[zf,zg,zl]at h3
  exact⟨252,c252 m,_,Qxr,QvH m hM,rfl,⟨⟨by omega,h2.1,by omega,by simp[Qz,Qr]at h4;omega⟩,⟨by omega,h2.2,by omega,by simp[Qz,Qr]at h4;omega⟩,by omega,trivial⟩,fun u w=>by kernel_rfl⟩
theorem meth:∀m,Qaz (gS m)
 | 0=>by
  intro x ps s e hp
  cases e
  have:=QtO x
  have:=hp.1.1
  omega
 | m+1=>Qxb m (meth m)
end
section
open Go Go.RowKit
set_option maxRecDepth 20000
def prO (s:Bs) (m p:Bool):Bs×Bool:=
 match QU s m p with
 | some v=>(if m=true then prG v else pr (v.headD default),true)
 | none=>([],false)
def Qsw (v:List CSel):Prop:=v.length<=1000000/\(∀y∈v,okM 3000 y)/\(prG v).length<=1000000/\okM 3000 (v.headD default)
def Qgj (s:Bs) (m p:Bool):Prop:=∀v,QU s m p=some v->Qsw v
def c21 (svs:List SV) (b:Option SB):QR:=match svs,b with
 | [.str s,.bool m,.bool p],none=>some ([s.length<=1000000,Qgj s m p],.tup [.str (prO s m p).1,.bool (prO s m p).2])
 | _,_=>none
noncomputable def W21:Wk:=⟨[(25,.plain c25),(40,.pure (c40 3000)),(199,.meth (gS 3000))],Qh Tryz.f21,false,false,[.tmp 6,.tmp 7],[9,4],[],[]⟩
theorem has21:Has 21:=hsf Tryz.f21
theorem QhY {p q:Prop} (k:q) (h:p:=by first | omega | (simp;done) | exact⟨(h02 _ (by rw[h1];exact h2)).1,(h02 _ (by rw[h1];exact h2)).2.1⟩ | exact (h02 _ (by rw[h1];exact h2)).2.2.1 | exact (h02 _ (by rw[h1];exact h2)).2.2.2 | (exfalso;rw[h1]at h3;exact absurd h3 (by decide))):p/\q:=⟨h,k⟩
theorem sat21:Sat 21 (Ql c21):=by
 have hD:Qb W21.D:=(Qb.cons has25 sat25 (Qb.cons Qvc (QuJ 3000 (meth 3000)) (Qb.cons QfB (meth 3000) Qb.nil)))
 refine W21.sa hD Tryz.f21 fun svs b K hP=>?_
 obtain⟨ps,v,e,hp,hk⟩:=Qd hP
 unfold c21 at e
 split at e
 rename_i s m p
 cases e
 obtain⟨h01,h02,_⟩:=hp
 refine W21.en ((s.length<=1000000)/\cond m (Qu (QU s true p) (fun v1=>cond m ((v1.length<=1000000/\∀y∈v1,okM 3000 y)/\((prG v1).length<=1000000)/\K (.val (.tup [(.str (prG v1)),(.bool true)])) none) ((0<v1.length)/\(okM 3000 (v1.getD 0 default))/\K (.val (.tup [(.str (pr (v1.getD 0 default))),(.bool true)])) none)) (K (.val (.tup [(.str []),(.bool false)])) none)) (Qu (QU s false p) (fun v2=>cond m (([v2.headD default].length<=1000000/\∀y∈[v2.headD default],okM 3000 y)/\((prG [v2.headD default]).length<=1000000)/\K (.val (.tup [(.str (prG [v2.headD default])),(.bool true)])) none) ((0<1)/\(okM 3000 (([v2.headD default]:List CSel).getD 0 default))/\K (.val (.tup [(.str (pr (([v2.headD default]:List CSel).getD 0 default))),(.bool true)])) none)) (K (.val (.tup [(.str []),(.bool false)])) none))) ?_
 refine QhY ?_
 refine Qa ?_ ?_<;>intro h1<;>try simp[-za,-zb]at h1
 refine QN (fun v1 h2=>?_) (fun h2=>?_)
 refine Qa ?_ ?_<;>intro h3<;>try simp[-za,-zb]at h3
 refine QhY (QhY ?_)
 subst h1
 have e:prO s true p=(prG v1,true):=by unfold prO;rw[h2];try rfl
 rw[e]at hk
 exact hk
 refine QhY (QhY ?_)
 exfalso
 rw[h1]at h3
 exact absurd h3 (by decide)
 subst h1
 have e:prO s true p=([],false):=by unfold prO;rw[h2];try rfl
 rw[e]at hk
 exact hk
 refine QN (fun v2 h2=>?_) (fun h2=>?_)
 refine Qa ?_ ?_<;>intro h3<;>try simp[-za,-zb]at h3
 refine QhY (QhY ?_)
 exfalso
 rw[h1]at h3
 exact absurd h3 (by decide)
 refine QhY (QhY ?_)
 subst h1
 have e:prO s false p=(pr (v2.headD default),true):=by unfold prO;rw[h2];try rfl
 rw[e]at hk
 exact hk
 subst h1
 have e:prO s false p=([],false):=by unfold prO;rw[h2];try rfl
 rw[e]at hk
 exact hk
 cases e
end
section
open Go Go.RowKit
set_option maxRecDepth 20000
namespace Law
theorem parse_simK (s:Bs) (pseudo:Bool) (hsure:(Vi s true pseudo).2.2=true) {K:Nat} (hK:s.length<=K) {l:List CSel} (hl:QD s pseudo (K+1) 0=some (l,s.length)) :
 (Vi s true pseudo).2.1=true/\∃B:ST,(Vi s true pseudo).1=B.flat/\(ST.mk Vj (QS l)).norm=B.norm:=by
 unfold Vi at hsure ⊢
 cases hg:VV s 0 with
 | false=>rw[hg,if_neg zo]at hsure;cases hsure
 | true=>
  rw[hg,if_pos rfl]at hsure
  rw[if_pos rfl]
  have hr:=QuO hg
  have hU:GU (Qo s pseudo (s.length+1)):=fun t=>Qcy s pseudo _ t
  have hG:=QfC hr pseudo (s.length+1) K 1 (by omega) (by omega)
  obtain⟨hs,-⟩:=QcW hr hG hU pseudo pseudo id ⟨0,false,false⟩ rfl (by simp)
  rw[<-U3]at hs
  simp only at hs hsure ⊢
  generalize VF (Qo s pseudo (s.length+1)) s pseudo true pseudo ⟨0,false,false⟩=g at hs hsure ⊢
  rw[hl]at hs
  rcases hs with h | ⟨xs,h1,h2,h3⟩ | ⟨h1,h2⟩
  split at hsure<;>simp[h]at hsure
  simp only[Option.some.injEq,Prod.mk.injEq]at h1
  obtain⟨rfl,h1⟩:=h1
  obtain⟨b,h3,h4⟩:=h3
  rw[if_neg (by rw[h2];simp;omega)]
  refine⟨rfl,?_⟩
  obtain⟨Ts,h5,h6⟩:=h4
  refine⟨.mk Vj Ts,?_,?_⟩
  simp only[if_true];rw[h3,h5];simp[ST.flat,Qj]
  rw[ST.norm,ST.norm,h6]
  cases h1
end Law
theorem QhG {s:Bs} {many p:Bool} (h:s.length<=10000):(Vi s many p).1.length<=1000000000:=by
 unfold Vi
 split
 have a:=QhH (c:=3*(s.length+1)+8) (by omega) (Zf s p (s.length+1)) p many p ⟨0,false,false⟩ (Nat.zero_le _)
 have d:(3*(s.length+1)+8+3)*(VF (Qo s p (s.length+1)) s p many p ⟨0,false,false⟩).2.p<=30014*10001:=Nat.mul_le_mul (by omega) (by have:=a.1.2;omega)
 have b:=a.2
 simp only
 split
 simp
 simp only
 split
 omega
 simp only[zF,zI];omega
 simp
theorem VO {s:Bs} {p:Bool} {v:List CSel} (h:QU s true p=some v):prO s true p=(prG v,true):=by unfold prO;rw[h];rfl
theorem Qgj.of {s:Bs} {m p:Bool} {v:List CSel} (h:QU s m p=some v) (k:Qsw v):Qgj s m p:=fun u hu=>by
 rw[h]at hu;cases hu;exact k
structure Again (l:List SelD) (T:ST):Prop where
 look:Look l T
 len:(Y4 l).length<=1000000
 w:QU (Y4 l) true true=some (cs T)
 ok:Qsw (cs T)
 g:QU (prG (cs T)) true true=some (cs T)
 plen:(prG (cs T)).length<=8000
 r:∀k,1000<=k->QD (prG (cs T)) true (k+1) 0=some (cs T,(prG (cs T)).length)
theorem ZL {l:List SelD} {T:ST} (q:Look l T) (hp:Qoo l=true):Again l T:=by
 have hx:∀x∈T.flat,ZW x=true:=by
  rw[<-q.e]
  unfold Qoo at hp
  rw[List.all_eq_true]at hp
  exact hp
 have ht:=Qin T
 have hl:l.length=T.flat.length:=congrArg List.length q.e
 have hn:=q.n
 have hw:QU (Y4 l) true true=some (cs T):=by
  obtain⟨x,L,e,_,h⟩:=q.read
  rw[q.text,(h true).1,if_neg (by simp),e]
 have hlen:=q.len
 have gd:∀y∈cs T,Way.Gd (Way.ST.ht' T) (Way.ST.ht' T) 2 y:=by
  have g:=Way.Qjr _ T (zj _) q.r q.s hx
  rcases q.k with k | k
  exact (g.grp k).2.1
  have n23:T.node.kind≠23:=by simp[Q0,Qy]at k;omega
  rw[Yv n23]
  intro y hy
  rw[zP.1 hy]
  exact g.sel k
 have hS:=Qjz T q.r
 have hw5:wtL T.flat<=8000:=by rw[<-q.e];exact q.w
 have hd:=QgN hw
 have hdl:(Vk (cs T)).length<=100000:=by
  have:(VY true (cs T)).length=(Vk (cs T)).length+1:=by simp[VY,Qr]
  omega
 have all:∀y∈cs T,okM 3000 y:=fun y hy=>by
  have a:=Qvi _ _ _ _ (gd y hy)
  have b:=Qs7 y hy
  have c:=Qkv y hy
  exact⟨by omega,a.2,by omega,by omega⟩
 have hk:cs T≠[]:=by
  obtain⟨x,L,e,_⟩:=q.read
  rw[e];simp
 have hj:=QjA (cs T)
 have hG:=(Way.QrE hk fun y hy=>(Way.Qe8 _ _ y).2.2 (gd y hy)).1
 refine⟨q,by omega,hw,⟨by have:=Qkw (cs T);omega,all,by omega,?_⟩,Way.QuV (by omega) q.r q.s hx q.k,by omega,fun k hk'=>?_⟩
 obtain⟨x,L,e⟩:=zJ hk
 rw[e]at all ⊢
 exact all x (by simp)
 have:=hG.2 (prG (cs T)) true k 0 [] (by omega) (by simp) (.inl rfl)
 rw[this,if_neg (by simp)]
 simp
theorem Zr {l:List SelD} {T:ST} (A:Again l T) (hs:(Vi (prG (cs T)) true true).2.2=true) :
 (Vi (prG (cs T)) true true).2.1=true/\Yx (Vi (prG (cs T)) true true).1/\Yx (Yh l)/\QeW (Vi (prG (cs T)) true true).1 (Yh l)=true /\
 ((Vi (prG (cs T)) true true).1.length<=1000000000/\(Yh l).length<=1000000000):=by
 have hp:=A.plen
 obtain⟨h1,B,h2,h3⟩:=Law.parse_simK (prG (cs T)) true hs (K:=8000) (by omega) (A.r 8000 (by omega))
 obtain⟨G,e1,e2,_⟩:=A.look.grp
 have hn:=A.look.n
 have hg:(Yh l).length<=l.length+1:=by
  unfold Yh
  split
  omega
  simp[Qj,Qr]
 refine⟨h1,⟨B,h2⟩,⟨G,e1⟩,?_,QhG (by omega),by omega⟩
 rw[h2,e1]
 unfold QeW
 rw[Yx.normed,Yx.normed,<-e2,<-h3]
 exact Qcl _
theorem Jh {l:List SelD} (h:QbK l=true):l.length<=1000000000/\∀j,j<l.length->(l.getD j default).key.length<=80000/\(l.getD j default).val.length<=80000:=by
 obtain⟨T,q⟩:=ZM h
 have hn:=q.n
 have hm:mbL l<=500:=by
  unfold QbK at h
  split at h
  cases h
  simp only[zh,decide_eq_true_eq]at h
  exact h.2.1
 refine⟨by omega,fun j hj=>?_⟩
 have:=QcI hm (l.getD j default) (by rw[za,ze hj];exact List.getElem_mem hj)
 omega
end
section
open Go Go.RowKit
set_option maxRecDepth 20000
def c8 (svs:List SV) (b:Option SB):QR:=match svs,b with
 | [.sl (.sels l)],none=>some ([l.length<=9223372036854775807],.bool true)
 | _,_=>none
noncomputable def W8:Wk:=⟨[(10,.pure c10),(12,.pure c12),(13,.pure c13),(14,.pure c14),(15,.pure c15),(16,.pure c16),(20,.pure c20),(21,.pure c21)],Qh Tryz.f8,false,false,[.tmp 2],[4],[],[]⟩
theorem onz3 {c0 c1 c2 p0 p1 p2 q:Prop} (k:q) (h:c0->c1->c2->p0/\p1/\p2/\True:=by intro g0 g1 g2;(try simp at g0);(try simp at g1);(try simp at g2);exact⟨(by first | omega | assumption | exact Jh g0 | (obtain⟨T,q1⟩:=ZM h2.1;have A:=ZL q1 h2.2;have n0:=q1.n;have n1:=q1.w;first | omega | with_reducible exact fun _=>q1.wat | with_reducible exact A.len | with_reducible exact Qgj.of A.w A.ok | (constructor<;>omega) | (rw[VO A.w];simp only;have:=A.plen;omega) | (rw[VO A.w]at g1 ⊢;have G:=Zr A g1;first | exact G.2.2.2.2 | exact G.2.1) | (rw[VO A.w]at g1;exact (Zr A g1).2.2.1))),(by first | omega | assumption | exact Jh g0 | (obtain⟨T,q1⟩:=ZM h2.1;have A:=ZL q1 h2.2;have n0:=q1.n;have n1:=q1.w;first | omega | with_reducible exact fun _=>q1.wat | with_reducible exact A.len | with_reducible exact Qgj.of A.w A.ok | (constructor<;>omega) | (rw[VO A.w];simp only;have:=A.plen;omega) | (rw[VO A.w]at g1 ⊢;have G:=Zr A g1;first | exact G.2.2.2.2 | exact G.2.1) | (rw[VO A.w]at g1;exact (Zr A g1).2.2.1))),(by first | omega | assumption | exact Jh g0 | (obtain⟨T,q1⟩:=ZM h2.1;have A:=ZL q1 h2.2;have n0:=q1.n;have n1:=q1.w;first | omega | with_reducible exact fun _=>q1.wat | with_reducible exact A.len | with_reducible exact Qgj.of A.w A.ok | (constructor<;>omega) | (rw[VO A.w];simp only;have:=A.plen;omega) | (rw[VO A.w]at g1 ⊢;have G:=Zr A g1;first | exact G.2.2.2.2 | exact G.2.1) | (rw[VO A.w]at g1;exact (Zr A g1).2.2.1))),trivial⟩):(c0->c1->c2->p0/\p1/\p2/\True)/\q:=⟨h,k⟩
theorem onz2 {c0 c1 c2 p0 q:Prop} (k:q) (h:c0->c1->c2->p0/\True:=by intro g0 g1 g2;(try simp at g0);(try simp at g1);(try simp at g2);exact⟨(by first | omega | assumption | exact Jh g0 | (obtain⟨T,q1⟩:=ZM h2.1;have A:=ZL q1 h2.2;have n0:=q1.n;have n1:=q1.w;first | omega | with_reducible exact fun _=>q1.wat | with_reducible exact A.len | with_reducible exact Qgj.of A.w A.ok | (constructor<;>omega) | (rw[VO A.w];simp only;have:=A.plen;omega) | (rw[VO A.w]at g1 ⊢;have G:=Zr A g1;first | exact G.2.2.2.2 | exact G.2.1) | (rw[VO A.w]at g1;exact (Zr A g1).2.2.1))),trivial⟩):(c0->c1->c2->p0/\True)/\q:=⟨h,k⟩
theorem onz1 {c0 p0 q:Prop} (k:q) (h:c0->p0/\True:=by intro g0;(try simp at g0);exact⟨(by first | omega | assumption | exact Jh g0 | (obtain⟨T,q1⟩:=ZM h2.1;have A:=ZL q1 h2.2;have n0:=q1.n;have n1:=q1.w;first | omega | with_reducible exact fun _=>q1.wat | with_reducible exact A.len | with_reducible exact Qgj.of A.w A.ok | (constructor<;>omega) | (rw[VO A.w];simp only;have:=A.plen;omega) | (rw[VO A.w]at g1 ⊢;have G:=Zr A g1;first | exact G.2.2.2.2 | exact G.2.1) | (rw[VO A.w]at g1;exact (Zr A g1).2.2.1))),trivial⟩):(c0->p0/\True)/\q:=⟨h,k⟩
theorem Qlp {p q:Prop} (k:q) (h:p:=by first | omega | assumption | exact Jh g0 | (obtain⟨T,q1⟩:=ZM h2.1;have A:=ZL q1 h2.2;have n0:=q1.n;have n1:=q1.w;first | omega | with_reducible exact fun _=>q1.wat | with_reducible exact A.len | with_reducible exact Qgj.of A.w A.ok | (constructor<;>omega) | (rw[VO A.w];simp only;have:=A.plen;omega) | (rw[VO A.w]at g1 ⊢;have G:=Zr A g1;first | exact G.2.2.2.2 | exact G.2.1) | (rw[VO A.w]at g1;exact (Zr A g1).2.2.1))):p/\q:=⟨h,k⟩
theorem sat8:Sat 8 (Ql c8):=by
 have hD:Qb W8.D:=(Qb.cons has10 sat10 (Qb.cons has12 sat12 (Qb.cons has13 sat13 (Qb.cons has14 sat14 (Qb.cons has15 sat15 (Qb.cons has16 sat16 (Qb.cons has20 sat20 (Qb.cons has21 sat21 Qb.nil))))))))
 refine W8.sa hD Tryz.f8 fun svs b K hP=>?_
 obtain⟨ps,v,e,hp,hk⟩:=Qd hP
 unfold c8 at e
 split at e
 rename_i l
 cases e
 obtain⟨h01,_⟩:=hp
 refine W8.en (have a1:=prO (Y4 l) true true;have a0:=Vi (a1.1) true true;(l.length<=9223372036854775807)/\cond (!(Qc0 l)) (K (.val (.bool true)) none) ((Qc0 l=true)/\((!(QbK l))=false->(l.length<=1000000000/\∀j,j<l.length->(l.getD j default).key.length<=80000/\(l.getD j default).val.length<=80000)/\True)/\cond ((!(QbK l))||(!(Qoo l))) (K (.val (.bool true)) none) ((l.length<=2000/\wtL l<=100000)/\(l.length≠0->WAt l 2000 0)/\((Y4 l).length<=1000000)/\(Qgj (Y4 l) true true)/\((a1.1).length<=100000)/\(a1.2=true->(!a0.2.2)=false->a0.2.1=true->(0<l.length/\l.length<=1000000000)/\True)/\(a1.2=true->(!a0.2.2)=false->a0.2.1=true->((a0.1).length<=1000000000/\(Yh l).length<=1000000000)/\(Yx (a0.1))/\(Yx (Yh l))/\True)/\K (.val (.bool (a1.2&&((!a0.2.2)||(a0.2.1&&(QeW (a0.1) (Yh l))))))) none))) ?_
 refine Qlp ?_
 refine Qa ?_ ?_<;>intro h1<;>try simp[-za,-zb]at h1
 exact hk
 refine Qlp (onz1 ?_)
 refine Qa ?_ ?_<;>intro h2<;>try simp[-za,-zb]at h2
 exact hk
 refine Qlp (Qlp (Qlp (Qlp (Qlp (onz2 (onz3 ?_))))))
 obtain⟨T,q1⟩:=ZM h2.1
 have A:=ZL q1 h2.2
 have n0:=q1.n
 have n1:=q1.w
 refine Vd hk ?_
 rw[VO A.w]
 simp only
 cases hs:(Vi (prG (cs T)) true true).2.2
 simp
 have G:=Zr A hs
 rw[G.1,G.2.2.2.1]
 rfl
 cases e
end
section
open Go Go.ChangeShapes Go.WideShapes Go.RowKit Go.Deep
set_option maxRecDepth 100000
theorem own:ownKnob zd.godebug=Option.none:=by kernel_rfl
theorem QqZ:laidOutB zd=true:=by kernel_rfl
theorem Qib {P:Program} {W:World}:∀{l:List (String×DataW Unit)} {ps:List MemPlace},DataW.LaidVars P W l ps->∀{n:String} {d:DataW Unit},(n,d)∈l ->
 ∃g t cs fuel p,P.globalNamed n=some g/\(P.globals[g]?).map (·.type)=some t/\W.var? P n=some cs/\DataW.trod (fun _=>()) P W 0 (fun _=>true) false fuel t cs.toList=some (d,p)
 | [],_,_,_,_,h=>by cases h
 | (_,_)::_,_,⟨g,t,cs,f,p,_,h1,h2,h3,h4,h5,_⟩,_,_,h=>by
  rcases zp.1 h with e | e
  cases e;exact⟨g,t,cs,f,p,h1,h2,h3,h4⟩
  exact Qib h5 e
theorem Qq9 {fuel:Nat} {W:World} {cs:List Value} {n:String} {x:DataW Unit} {p:List MemPlace}
 (h:DataW.trod (fun _=>()) zd W 0 (fun _=>true) false fuel 71 cs=some (.iface n x,p)):∃u v,cs=[.iface u v]:=by
 cases fuel with
 | zero=>simp[DataW.trod]at h
 | succ f=>
  unfold DataW.trod at h
  rw[Tryz.underlying71]at h
  match cs,h with
  | [],h=>simp at h
  | [v],h=>cases v<;>simp at h<;>exact⟨_,_,rfl⟩
  | _::_::_,h=>simp at h
theorem Qt5 {W:World} (h:laidMetH zd Rows.fnParseWrittenRow.laid W) (g:Nat) (hg:Qkr g=true):∃u v T fr,W.heap[g]? = some (.cells #[.iface u v] T fr):=by
 rw[MakeChecks.laidMetH_plain _ _ _ (by kernel_rfl)]at h
 obtain⟨ps,h,_⟩:=h
 have one:∀(n:String) (a:String) (d:DataW Unit),(n,DataW.iface a d)∈Rows.fnParseWrittenRow.laid->zd.globalNamed n=some g->(zd.globals[g]?).map (·.type)=some 71->∃u v T fr,W.heap[g]? = some (.cells #[.iface u v] T fr):=by
  intro n a d hm hn ht
  obtain⟨g',t,cs,fuel,p,h1,h2,h3,h4⟩:=Qib h hm
  obtain rfl:=Option.some.inj (hn.symm.trans h1)
  obtain rfl:=Option.some.inj (ht.symm.trans h2)
  obtain⟨u,v,e⟩:=Qq9 h4
  simp only[World.var?,hn,zU]at h3
  split at h3
  rename_i c T fr hh
  cases h3
  refine⟨u,v,T,fr,?_⟩
  rw[hh]
  obtain⟨l⟩:=cs
  simp only at e
  rw[e]
  cases h3
 have hc:g=0\/g=1\/g=2\/g=4\/g=5:=by
  simp[Qkr]at hg
  omega
 rcases hc with rfl | rfl | rfl | rfl | rfl
 exact one "given.example/pub-bosquet/pub/cascadia.errExpectedParenthesis" _ _ (xr (i := 5) rfl) (by kernel_rfl) (by kernel_rfl)
 exact one "given.example/pub-bosquet/pub/cascadia.errExpectedClosingParenthesis" _ _ (xr (i := 6) rfl) (by kernel_rfl) (by kernel_rfl)
 exact one "given.example/pub-bosquet/pub/cascadia.errUnmatchedParenthesis" _ _ (xr (i := 7) rfl) (by kernel_rfl) (by kernel_rfl)
 exact one "strconv.ErrSyntax" _ _ (xr (i := 4) rfl) (by kernel_rfl) (by kernel_rfl)
 exact one "strconv.ErrRange" _ _ (xr (i := 3) rfl) (by kernel_rfl) (by kernel_rfl)
def JG (W:World) (b:Nat):Option (Array Value×TypeId):=match W.heap[b]? with
 | some (.cells c T _)=>some (c,T)
 | _=>Option.none
theorem QsD {W:World} (h:laidMetH zd Rows.fnParseWrittenRow.laid W):∃T fr,W.heap[6]? = some (.cells ((xa 20).map fun i=>Value.int .u64 ((10^i:Nat):Int)).toArray T fr):=by
 rw[MakeChecks.laidMetH_plain _ _ _ (by kernel_rfl)]at h
 obtain⟨ps,h,_⟩:=h
 obtain⟨g',t,cs,fuel,p,h1,h2,h3,h4⟩:=Qib h (xr (i:=2) rfl)
 obtain rfl := Option.some.inj ((show zd.globalNamed "internal/strconv.uint64pow10" = some 6 by kernel_rfl).symm.trans h1)
 obtain rfl:=Option.some.inj ((show (zd.globals[6]?).map (·.type)=some 207 by kernel_rfl).symm.trans h2)
 have hz:=Lib.cells_of_tab (zs:=(xa 20).map fun i=>((10^i:Nat):Int)) (k:=.u64) (show zd.underlying 207=some (.array 20 182) by kernel_rfl) (by kernel_rfl) (by kernel_rfl) (by kernel_rfl) h4
 simp only[World.var?,h1,zU]at h3
 split at h3
 rename_i c T fr hh
 cases h3
 refine⟨T,fr,?_⟩
 rw[hh]
 obtain⟨l⟩:=cs
 simp only at hz
 rw[hz,List.map_map]
 rfl
 cases h3
theorem UK {W:World} {b:Nat} {c:Array Value} {T:TypeId} {fr:Nat×Nat} (h:W.heap[b]? = some (.cells c T fr)):JG W b=some (c,T):=by
 unfold JG;rw[h]
theorem Qf1 {W:World} {b:Nat} {c:Array Value} {T:TypeId} (e:JG W b=some (c,T)):∃fr,W.heap[b]? = some (.cells c T fr):=by
 unfold JG at e
 split at e
 rename_i h;cases e;exact⟨_,h⟩
 cases e
theorem Sat.calls {f:FuncId} {P:Spec} (hf:Sat f P) {W:World} (he:∀g,Qkr g=true->∃u v T fr,W.heap[g]? = some (.cells #[.iface u v] T fr)) (ht:∃T fr,W.heap[6]? = some (.cells ((xa 20).map fun i=>Value.int .u64 ((10^i:Nat):Int)).toArray T fr)) {svs:List SV} {args:Array Value} (hn:args.size=svs.length)
 (hr:∀(ω:Wit),ω.Γ=JG W->∀(i:Nat) (s:SV) (v:Value),svs[i]? = some s->args[i]? = some v->Rel ω s v) {s:SV} (hk:P svs Option.none fun o _=>o=.val s) :
 Calls zd f args W fun e W'=>∃v,e=.returned v/\(∃ω,Rel ω s v)/\Frame W (fun _=>False) W':=by
 let g0:Glob:=⟨JG W,fun g hg=>by
  obtain⟨u,v,T,fr,h⟩:=he g hg
  exact⟨u,v,T,UK h⟩,[],by obtain⟨T,fr,h⟩:=ht;exact⟨T,UK h⟩⟩
 have hS:Sim g0 W (fun _=>False) ⟨JG W,fun _=>0,fun _=>undef,1⟩ (loc Option.none) a0 W:={
  env:=fun i s e=>by simp[loc,elk,lk2]at e
  heap:=fun r b e=>by simp[loc,hlk]at e
  sep:=fun r r' b b' k e=>by simp[loc,hlk]at e
  ng:=fun r b k e=>by simp[loc,hlk]at e
  mine:=fun r b k e=>by simp[loc,hlk]at e
  nx:=fun r b e=>by simp[loc,hlk]at e
  wn:=rfl
  gam:=fun b c T e=>Qf1 e
  fr:=Frame.refl W _
  df:=rfl
  gl:=fun b x e=>e
  gn:=fun b x e=>.inl e
  pin:=fun k hk=>hk.elim
  n0:=Nat.zero_lt_one }
 refine (hf g0 W _ _ svs args Option.none _ hS hn (fun i s v e1 e2=>hr _ rfl i s v e1 e2) hk).mono ?_
 rintro e W' ⟨v,o,b',he,rfl,ω',S',h1,_,h3⟩
 exact⟨v,he,⟨ω',h3.2⟩,h1.fr⟩
theorem Frame.kept {W W':World} (h:Frame W (fun _=>False) W') (may:MemPlace->Prop):W.keptBut W' may:=by
 refine⟨h.os,h.output,fun i hi=>?_⟩
 rw[h.block i hi (fun q=>q)]
 exact (World.keptBut_refl W may).2.2 i hi
theorem Frame.sameAt {W W':World} (h:Frame W (fun _=>False) W') {p:MemPlace} (hp:p.block<W.heap.size):W.sameAt W' p:=by
 cases p with
 | cell b o=>exact World.cell?_of_block (w:=W) (h.block b hp (fun q=>q))
 | map b=>exact h.block b hp (fun q=>q)
section
variable {H:Type} {enc:TypeId×Value->H}
theorem Qgn {W W':World} {sp sp':Nat->Bool}:∀{ns:List String} {gs:List (DataW H)} {q:List MemPlace},DataW.TrodVars enc zd W sp ns gs q ->
 (∀n∈ns,∃g u v T fr,zd.globalNamed n=some g/\(zd.globals[g]?).map (·.type)=some 71/\W.heap[g]? = some (.cells #[.iface u v] T fr)/\W'.heap[g]? = W.heap[g]?) ->
 DataW.TrodVars enc zd W' sp' ns gs q
 | [],[],_,h,_=>h
 | [],_::_,_,h,_=>h.elim
 | _::_,[],_,h,_=>h.elim
 | n::ns,d::gs,_,⟨g,t,cs,fuel,p,q,h1,h2,h3,h4,h5,h6⟩,hall=>by
  obtain⟨g',u,v,T,fr,k1,k2,k3,k4⟩:=hall n (List.mem_cons_self ..)
  obtain rfl:=Option.some.inj (k1.symm.trans h1)
  obtain rfl:=Option.some.inj (k2.symm.trans h2)
  have e:cs = #[.iface u v]:=by
   simp only[World.var?,h1,zU,k3,Option.some.injEq]at h3
   exact h3.symm
  subst e
  refine⟨g',71,#[.iface u v],fuel,p,q,h1,h2,?_,?_,Qgn h5 fun m hm=>hall m (List.mem_cons_of_mem _ hm),h6⟩
  simp only[World.var?,h1,zU,k4,k3]
  cases fuel with
  | zero=>simp[DataW.trod]at h4
  | succ f=>
   unfold DataW.trod at h4 ⊢
   rw[Tryz.underlying71]at h4 ⊢
   simpa using h4
theorem QkP {W:World} {sp:Nat->Bool} {a b c:String} {gs:List (DataW H)} {q:List MemPlace} (h:DataW.TrodVars enc zd W sp [a,b,c] gs q):∃x y z,gs=[x,y,z]:=by
 match gs,h with
 | [],h=>exact h.elim
 | [x],⟨_,_,_,_,_,_,_,_,_,_,h,_⟩=>exact h.elim
 | [x,y],⟨_,_,_,_,_,_,_,_,_,_,⟨_,_,_,_,_,_,_,_,_,_,h,_⟩,_⟩=>exact h.elim
 | [x,y,z],_=>exact⟨x,y,z,rfl⟩
 | x::y::z::t::l,⟨_,_,_,_,_,_,_,_,_,_,⟨_,_,_,_,_,_,_,_,_,_,⟨_,_,_,_,_,_,_,_,_,_,h,_⟩,_⟩,_⟩=>exact h.elim
theorem QkQ {W W':World} {sp sp':Nat->Bool} {gs:List (DataW H)} {q:List MemPlace} (hc:∀g,Qkr g=true->∃u v T fr,W.heap[g]? = some (.cells #[.iface u v] T fr)) (hf:Frame W (fun _=>False) W')
 (hV : DataW.TrodVars enc zd W sp ["given.example/pub-bosquet/pub/cascadia.errExpectedParenthesis", "given.example/pub-bosquet/pub/cascadia.errExpectedClosingParenthesis", "given.example/pub-bosquet/pub/cascadia.errUnmatchedParenthesis"] gs q) :
 DataW.TrodVars enc zd W' sp' ["given.example/pub-bosquet/pub/cascadia.errExpectedParenthesis", "given.example/pub-bosquet/pub/cascadia.errExpectedClosingParenthesis", "given.example/pub-bosquet/pub/cascadia.errUnmatchedParenthesis"] gs q := by
 refine Qgn hV fun n hn=>?_
 have fin:∀g,Qkr g=true->zd.globalNamed n=some g->(zd.globals[g]?).map (·.type)=some 71 ->
  ∃g u v T fr,zd.globalNamed n=some g/\(zd.globals[g]?).map (·.type)=some 71/\W.heap[g]? = some (.cells #[.iface u v] T fr)/\W'.heap[g]? = W.heap[g]?:=by
  intro g hg k1 k2
  obtain⟨u,v,T,fr,k3⟩:=hc g hg
  exact⟨g,u,v,T,fr,k1,k2,k3,hf.block g (zy.1 k3).1 (fun q=>q)⟩
 simp only[zp,zT,or_false]at hn
 rcases hn with rfl | rfl | rfl
 exact fin 0 rfl (by kernel_rfl) (by kernel_rfl)
 exact fin 1 rfl (by kernel_rfl) (by kernel_rfl)
 exact fin 2 rfl (by kernel_rfl) (by kernel_rfl)
theorem U2 {W:World} {sp:Nat->Bool} {held:Bool} {n:Nat} {v:Value} {x:DataW H×List MemPlace} (h:DataW.trod enc zd W 0 sp held n 3 [v]=some x):∃k:Int,v=.int .i64 k:=by
 obtain⟨k,e,_⟩:=DataW.trod_int (k:=.i64) (by kernel_rfl) h
 cases e;exact⟨k,rfl⟩
theorem Qi5 {W:World} {sp:Nat->Bool} {held:Bool} {n:Nat} {v:Value} {x:DataW H×List MemPlace} (h:DataW.trod enc zd W 0 sp held n 9 [v]=some x):∃l:List UInt8,v=.string ⟨l.toArray⟩:=by
 obtain⟨k,e,_⟩:=DataW.trod_string Tryz.underlying9 h
 cases e
 obtain⟨⟨l⟩⟩:=k
 exact⟨l,rfl⟩
def QuA (P:Program):Option (List (Nat×Nat)):=match P.underlying 33 with
 | some (.struct fs)=>some (fs.toList.map fun f=>(f.offset,f.type))
 | _=>Option.none
theorem QnZ:∃fs:Array Field,zd.underlying 33=some (.struct fs)/\fs.toList.map (fun f=>(f.offset,f.type))=[(0,3),(1,3),(2,9),(3,9),(4,3),(5,3),(6,3),(7,3)]:=by
 have h:QuA zd=some [(0,3),(1,3),(2,9),(3,9),(4,3),(5,3),(6,3),(7,3)]:=by kernel_rfl
 unfold QuA at h
 split at h
 rename_i fs hu
 exact⟨fs,hu,Option.some.inj h⟩
 cases h
theorem Qlr {W:World} {sp:Nat->Bool} {held:Bool} {n:Nat} {cs:List Value} {x:DataW H×List MemPlace} (h:DataW.trod enc zd W 0 sp held n 33 cs=some x) :
 ∃y:SelD,∀(ω:Wit) (j:Nat) (s:SV) (v:Value),(Vn y)[j]? = some s->cs[j]? = some v->Rel ω s v:=by
 obtain⟨fs,hu,hfs⟩:=QnZ
 obtain⟨xs,m,_,_,hl,_,hf⟩:=DataW.trod_struct hu h
 have hl:cs.length=8:=hl
 have one:∀(i o t:Nat),(fs.toList.map fun f=>(f.offset,f.type))[i]? = some (o,t)->zd.cellsOf t=1->∃y,DataW.trod enc zd W 0 sp held m t ((cs.drop o).take 1)=some y:=by
  intro i o t e hc
  rw[zB,Array.getElem?_toList]at e
  obtain⟨f,e1,e2⟩:=zk.1 e
  cases e2
  have q:=hf i f e1
  rw[hc]at q
  have:i<xs.length:=by
   have h1:i<fs.size:=(zy.1 e1).1
   omega
  exact⟨_,q.trans (ze this)⟩
 rw[hfs]at one
 have c3:zd.cellsOf 3=1:=by kernel_rfl
 have c9:zd.cellsOf 9=1:=by kernel_rfl
 match cs,hl with
 | [v0,v1,v2,v3,v4,v5,v6,v7],_=>
  obtain⟨_,y0⟩:=one 0 0 3 rfl c3
  obtain⟨_,y1⟩:=one 1 1 3 rfl c3
  obtain⟨_,y2⟩:=one 2 2 9 rfl c9
  obtain⟨_,y3⟩:=one 3 3 9 rfl c9
  obtain⟨_,y4⟩:=one 4 4 3 rfl c3
  obtain⟨_,y5⟩:=one 5 5 3 rfl c3
  obtain⟨_,y6⟩:=one 6 6 3 rfl c3
  obtain⟨_,y7⟩:=one 7 7 3 rfl c3
  obtain⟨k,rfl⟩:=U2 y0
  obtain⟨o,rfl⟩:=U2 y1
  obtain⟨ke,rfl⟩:=Qi5 y2
  obtain⟨va,rfl⟩:=Qi5 y3
  obtain⟨a,rfl⟩:=U2 y4
  obtain⟨b,rfl⟩:=U2 y5
  obtain⟨fl,rfl⟩:=U2 y6
  obtain⟨sz,rfl⟩:=U2 y7
  refine⟨⟨k,o,ke,va,a,b,fl,sz⟩,fun ω j s v e1 e2=>?_⟩
  match j,e1,e2 with
  | 0,e1,e2=>cases e1;cases e2;exact .int _ _
  | 1,e1,e2=>cases e1;cases e2;exact .int _ _
  | 2,e1,e2=>cases e1;cases e2;exact .str _
  | 3,e1,e2=>cases e1;cases e2;exact .str _
  | 4,e1,e2=>cases e1;cases e2;exact .int _ _
  | 5,e1,e2=>cases e1;cases e2;exact .int _ _
  | 6,e1,e2=>cases e1;cases e2;exact .int _ _
  | 7,e1,e2=>cases e1;cases e2;exact .int _ _
  | j+8,e1,e2=>cases e1
theorem QpS {W:World} {sp:Nat->Bool} {held:Bool} {v:Value} {d:DataW H} {p:List MemPlace} {base:Nat} (hval:Value.okWide zd W .any base 22 v) (h:DataW.Trod enc zd W 0 sp held 22 v d p) :
 ∃l:List SelD,l.length<=9223372036854775807/\∀ω:Wit,ω.Γ=JG W->Rel ω (.sl (.sels l)) v:=by
 obtain⟨n,h⟩:=h
 have hc8:zd.cellsOf 33=8:=by kernel_rfl
 have hv:∀(a:Option Addr) (len cap:Nat),v.cells.toList=[.slice a len cap]->v=.slice a len cap:=by
  intro a len cap e
  obtain⟨a',l',c',rfl⟩:=okWide_slice Tryz.underlying22 hval
  simpa [Value.cells] using e
 rcases open_slice (e:=33) Tryz.underlying22 h with ⟨e,_⟩ | ⟨a,len,cap,m,n',D,Pl,e,_,hl,hm,hmm,_,hi⟩
 obtain rfl:=hv _ _ _ e
 exact⟨[],by simp,fun ω _=>.slz _ _ _ rfl⟩
 obtain rfl:=hv _ _ _ e
 rcases Nat.eq_zero_or_pos len with h0 | h0
 subst h0
 exact⟨[],by simp,fun ω _=>.slz _ _ _ rfl⟩
 rw[hc8]at hi
 have hlm:len<=m:=by rw[hmm];split<;>omega
 have hY:∀i,i<len->∃y:SelD,∀(ω:Wit) (j:Nat) (s:SV) (u:Value),(Vn y)[j]? = some s->W.cell? (a.add (i*8+j))=some u->Rel ω s u:=by
  intro i hil
  obtain⟨cs',h1,h2⟩:=hi i (by omega)
  obtain⟨y,hy⟩:=Qlr h2
  obtain⟨_,hcl,hat⟩:=World.cells?_some h1
  refine⟨y,fun ω j s u e1 e2=>hy ω j s u e1 ?_⟩
  have hj:j<8:=by
   have:j<(Vn y).length:=(zx.1 e1).1
   exact this
  rw[<-hat j hj,add_add]
  exact e2
 obtain⟨Y,hY⟩:=choose_lt (α:=SelD) hY
 have hcell:∀i j,i<len->j<8->∃u,W.cell? (a.add (i*8+j))=some u:=by
  intro i j hil hj
  obtain⟨cs',h1,h2⟩:=hi i (by omega)
  obtain⟨_,hcl,hat⟩:=World.cells?_some h1
  have:=hat j hj
  rw[add_add,ze (by omega)]at this
  exact⟨_,this⟩
 obtain⟨b,o,spot⟩:=a
 have hspot:spot=Option.none:=by
  obtain⟨u,hu⟩:=hcell 0 0 h0 (by omega)
  have:=World.cell?_spot hu
  simpa [Addr.add] using this
 subst hspot
 have hblk:∃c T fr,W.heap[b]? = some (.cells c T fr):=by
  obtain⟨u,hu⟩:=hcell 0 0 h0 (by omega)
  simp only[Nat.zero_mul,Nat.add_zero,Addr.add,if_true,World.cell?]at hu
  split at hu
  rename_i c T fr hh;exact⟨c,T,fr,hh⟩
  cases hu
 obtain⟨c,T,fr,hb⟩:=hblk
 have hat:∀k,W.cell? ((⟨b,o,Option.none⟩:Addr).add k)=c[o+k]?:=by
  intro k
  rw[Ui]
  unfold World.cell?
  simp only[hb]
  rfl
 refine⟨(xa len).map Y,by simp only[List.length_map,List.length_range,maxLen]at hm ⊢;omega,fun ω hω=>?_⟩
 have hlen:(RV.sels ((xa len).map Y)).len=len:=by simp[RV.len]
 have q:=Rel.sl (ω:=ω) (.sels ((xa len).map Y)) b o cap c T (by rw[hω];exact UK hb) (by
  rw[hlen]
  show o+len*8<=c.size
  obtain⟨u,hu⟩:=hcell (len-1) 7 (by omega) (by omega)
  rw[hat]at hu
  have:=(zy.1 hu).1
  omega) (by rw[hlen];exact hl) (by
  intro i j s u e0 e1 e2
  rw[hlen]at e0
  refine hY i e0 ω j s u ?_ (by rw[hat];exact e2)
  rw[<-e1]
  show (Vn (Y i))[j]? = (Vn (((xa len).map Y).getD i default))[j]?
  rw[za,zB,List.getElem?_range e0]
  rfl)
 rw[hlen]at q
 exact q
theorem QkX {W W':World} {v:Value} {d:DataW H} {p:List MemPlace} (h:DataW.Trod enc zd W 0 (fun _=>true) true 22 v d p) (hf:Frame W (fun _=>False) W') :
 DataW.Trod enc zd W' 0 (fun b=>decide (b<W.heap.size)) true 22 v d p:=by
 have hlt:∀q∈p,q.block<W.heap.size:=by
  obtain⟨n,hn⟩:=h
  exact DataW.trod_lt n _ _ _ hn
 exact WideElems.Trod_stays QqZ (by kernel_rfl) (of_decide_eq_true (by kernel_rfl)) h (fun q hq=>hf.sameAt (hlt q hq)) (fun q hq=>by simpa using hlt q hq)
end
theorem Qr1 (os:Os) (args:Array Value):laidMetH zd Rows.fnParseWrittenRow.laid ((World.doorLaid zd 124 os).forCall (fun _ _=>0) ⟨#[],args,[]⟩).memory:=by
 rw[MakeChecks.laidMetH_plain _ _ _ (by kernel_rfl)]
 exact laidMet_of_run' 8 (by kernel_rfl) (by kernel_rfl)
end
end Go.Proofs.YtengepcafdnalaaGreatDoor
