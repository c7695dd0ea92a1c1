/-
  
-/
import Derived.Test.YtengepcafdnalaaGreatDoorM37
namespace Go.Proofs.YtengepcafdnalaaGreatDoor
open Go.Proofs.Tryz renaming prog → zf, underlying4 → xm
section
open Go Go.ChangeShapes Go.WideShapes Go.RowKit
set_option maxRecDepth 100000
theorem Qp7 (os:Os) (started:os.Started) (H:Type) (enc:TypeId×Value->H) :
 ReturnsInHanded {} Tryz.checked os 9 .any (fun w args=>(Rows.fnPrintBackSpec.pre enc zf Tryz.f9 [] false w args/\laidMetH zf Rows.fnPrintBackRow.laid w)/\sizedMet enc zf Tryz.f9 (OpenSpec.ofChange Rows.fnPrintBackSpec) false w args)
  (Rows.fnPrintBackSpec.post enc zf Tryz.f9 false true false false):=by
 refine returnsInHanded_of_change_and (C:=Tryz.checked) (X:=fun w _=>laidMetH zf Rows.fnPrintBackRow.laid w) (fun _ _ _ hh h=>h.of_heap hh) own started (by kernel_rfl) Tryz.func9
  (ChangeSpec.witness_shaped (enc:=enc) (C:=Tryz.checked) (os:=os) (X:=fun w _=>laidMetH zf Rows.fnPrintBackRow.laid w) false (World.doorLaid zf 124 os) #[.string ⟨#[]⟩,.bool false,.bool false] 8 rfl (World.shaped_of_RefB (by kernel_rfl) (by kernel_rfl)) (by kernel_rfl) (by kernel_rfl) (by kernel_rfl) (Qra os _)) ?_
 intro W base args ds gs before hval0 hW _ _ hL _
 have hval:∀(j:Nat) t v,Tryz.f9.params[j]? = some t->args[j]? = some v->Value.okWide zf W .any base t v:=hval0
 have hW':=hW
 obtain⟨p,q,hA0,hV,rfl,hfz,hnd⟩:=hW
 have hA:DataW.TrodAll enc zf W 0 (fun _=>true) true Tryz.f9.params.toList args.toList ds p:=hA0
 rw[Tryz.params9]at hA hval
 obtain⟨v0,v1,v2,d0,d1,d2,p0,p1,p2,rfl,rfl,rfl,h0,h1,h2⟩:=trodAll_three hA
 obtain⟨s0,rfl,rfl,rfl,hs0⟩:=ChangeMaps.open_string Tryz.underlying9 (hval 0 9 v0 rfl rfl) h0
 obtain⟨⟨l0⟩⟩:=s0
 have hl0:l0.length<=9223372036854775807:=by
  have:(⟨⟨l0⟩⟩:ByteArray).size=l0.length:=rfl
  rw[this]at hs0
  simp only[maxLen]at hs0
  omega
 obtain⟨b1,rfl,rfl,rfl⟩:=open_bool xm (hval 1 4 v1 rfl rfl) h1
 obtain⟨b2,rfl,rfl,rfl⟩:=open_bool xm (hval 2 4 v2 rfl rfl) h2
 have hc:=Qtf hL
 have ht:=QrM hL
 obtain⟨x,y,z,rfl⟩:=QjZ hV
 refine (Sat.calls sat9 hc ht (svs:=[.str l0,.bool b1,.bool b2]) rfl (fun ω hω i s v e1 e2=>?_) (s:=.bool true) ⟨hl0,rfl⟩).mono ?_
 . match i,e1,e2 with
   | 0,e1,e2=>cases e1;cases e2;exact .str l0
   | 1,e1,e2=>cases e1;cases e2;exact .bool b1
   | 2,e1,e2=>cases e1;cases e2;exact .bool b2
 rintro en W' ⟨v,rfl,⟨ω,hv⟩,hf⟩
 obtain rfl:=hv.bool_inv
 exact⟨_,rfl,_,_,_,[],_,q,hW',trodAll_mk1 (shut_bool xm true),trodAll_mk3 (ChangeMaps.shut_string Tryz.underlying9 hs0) (shut_bool xm b1) (shut_bool xm b2),Qj0 hc hf hV,hf.kept _,fun h=>by cases h⟩
theorem QsX:Rows.FnPrintBackSaid:=
 OpenClaim.holds_of_wide 9 Tryz.f9 rfl rfl rfl rfl rfl rfl rfl ⟨rfl,rfl,rfl,rfl,rfl⟩ rfl rfl rfl rfl rfl (by kernel_rfl) Tryz.func9 (by kernel_rfl)
  (of_decide_eq_true (by kernel_rfl)) (by unfold Func.isWrapper;first | (rw[if_pos (by decide +kernel)];kernel_rfl) | (rw[if_neg (by decide +kernel)];exact⟨rfl,rfl⟩))
  (fun os started H enc _=>Qp7 os started H enc)
theorem fnPrintBack_card:Rows.FnPrintBackCardSaid:=
 Claim7.holds_tied_plain_at .later [] [.data, .data, .data, .sentinel, .sentinel, .sentinel, .sentinel, .sentinel] true (true, "a169cf2e141b0dc0794576c785faf48765b70d49e638a73e170b800f4ba5d19f") true
  QsX (fun _ h=>by cases h) (by kernel_rfl) (fun _ h=>by cases h) fnPrintBack_row_tie rfl ⟨rfl,rfl⟩ (by kernel_rfl) rfl
  (fun f fn hf hfn=>by
   obtain rfl : f = 9 := Option.some.inj ((show zf.funcNamed "given.example/pub-bosquet/laws.FnPrintBack" = some 9 by kernel_rfl).symm.trans hf) |>.symm
   obtain rfl:fn=Tryz.f9:=(Option.some.inj (Tryz.func9.symm.trans hfn)).symm
   refine⟨by kernel_rfl,fun j t ht=>?_⟩
   rw[Tryz.params9]at ht
   match j,ht with
   | 0,ht=>cases ht;exact (show zf.wantsStandIn 9=false by kernel_rfl)
   | 1,ht=>cases ht;exact (show zf.wantsStandIn 4=false by kernel_rfl)
   | 2,ht=>cases ht;exact (show zf.wantsStandIn 4=false by kernel_rfl)
   | j+3,ht=>simp at ht)
  (by kernel_rfl)
#print axioms fnPrintBack_card
end
end Go.Proofs.YtengepcafdnalaaGreatDoor
