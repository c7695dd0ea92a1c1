/-
  
-/
import Derived.Test.YtengepcafdnalaaGreatDoorM38
namespace Go.Proofs.YtengepcafdnalaaGreatDoor
open Go.Proofs.Tryz renaming prog → zd
section
open Go Go.ChangeShapes Go.WideShapes Go.RowKit
set_option maxRecDepth 100000
theorem QqR (os:Os) (started:os.Started) (H:Type) (enc:TypeId×Value->H) :
 ReturnsInHanded {} Tryz.checked os 8 .any (fun w args=>(Rows.fnPrintGrammarSpec.pre enc zd Tryz.f8 [] false w args/\laidMetH zd Rows.fnPrintGrammarRow.laid w)/\sizedMet enc zd Tryz.f8 (OpenSpec.ofChange Rows.fnPrintGrammarSpec) false w args)
  (Rows.fnPrintGrammarSpec.post enc zd Tryz.f8 false true false false):=by
 refine returnsInHanded_of_change_and (C:=Tryz.checked) (X:=fun w _=>laidMetH zd Rows.fnPrintGrammarRow.laid w) (fun _ _ _ hh h=>h.of_heap hh) own started (by kernel_rfl) Tryz.func8
  (ChangeSpec.witness_shaped (enc:=enc) (C:=Tryz.checked) (os:=os) (X:=fun w _=>laidMetH zd Rows.fnPrintGrammarRow.laid w) false (World.doorLaid zd 124 os) #[.slice none 0 0] 8 rfl (World.shaped_of_RefB (by kernel_rfl) (by kernel_rfl)) (by kernel_rfl) (by kernel_rfl) (by kernel_rfl) (Qr1 os _)) ?_
 intro W base args ds gs before hval0 hW _ _ hL _
 have hval:∀(j:Nat) t v,Tryz.f8.params[j]? = some t->args[j]? = some v->Value.okWide zd W .any base t v:=hval0
 have hW':=hW
 obtain⟨p,q,hA0,hV,rfl,hfz,hnd⟩:=hW
 have hA:DataW.TrodAll enc zd W 0 (fun _=>true) true Tryz.f8.params.toList args.toList ds p:=hA0
 rw[Tryz.params8]at hA hval
 obtain⟨v0,d0,rfl,rfl,h0⟩:=trodAll_one hA
 obtain⟨l0,hl0,hr0⟩:=QpS (hval 0 22 v0 rfl rfl) h0
 have hc:=Qt5 hL
 have ht:=QsD hL
 obtain⟨x,y,z,rfl⟩:=QkP hV
 refine (Sat.calls sat8 hc ht (svs:=[.sl (.sels l0)]) rfl (fun ω hω i s v e1 e2=>?_) (s:=.bool true) ⟨hl0,rfl⟩).mono ?_
 . match i,e1,e2 with
   | 0,e1,e2=>cases e1;cases e2;exact hr0 ω hω
 rintro en W' ⟨v,rfl,⟨ω,hv⟩,hf⟩
 obtain rfl:=hv.bool_inv
 exact⟨_,rfl,_,_,_,[],_,q,hW',trodAll_mk1 (shut_bool Tryz.underlying4 true),trodAll_mk1 (QkX h0 hf),QkQ hc hf hV,hf.kept _,fun h=>by cases h⟩
theorem QtN:Rows.FnPrintGrammarSaid:=
 OpenClaim.holds_of_wide 8 Tryz.f8 rfl rfl rfl rfl rfl rfl rfl ⟨rfl,rfl,rfl,rfl,rfl⟩ rfl rfl rfl rfl rfl (by kernel_rfl) Tryz.func8 (by kernel_rfl)
  (of_decide_eq_true (by kernel_rfl)) (by unfold Func.isWrapper;first | (rw[if_pos (by decide +kernel)];kernel_rfl) | (rw[if_neg (by decide +kernel)];exact⟨rfl,rfl⟩))
  (fun os started H enc _=>QqR os started H enc)
theorem fnPrintGrammar_card:Rows.FnPrintGrammarCardSaid:=
 Claim7.holds_tied_plain_at .later [] [.data, .data, .data, .sentinel, .sentinel, .sentinel, .sentinel, .sentinel] true (true, "a169cf2e141b0dc0794576c785faf48765b70d49e638a73e170b800f4ba5d19f") true
  QtN (fun _ h=>by cases h) (by kernel_rfl) (fun _ h=>by cases h) fnPrintGrammar_row_tie rfl ⟨rfl,rfl⟩ (by kernel_rfl) rfl
  (fun f fn hf hfn=>by
   obtain rfl : f = 8 := Option.some.inj ((show zd.funcNamed "given.example/pub-bosquet/laws.FnPrintGrammar" = some 8 by kernel_rfl).symm.trans hf) |>.symm
   obtain rfl:fn=Tryz.f8:=(Option.some.inj (Tryz.func8.symm.trans hfn)).symm
   refine⟨by kernel_rfl,fun j t ht=>?_⟩
   rw[Tryz.params8]at ht
   match j,ht with
   | 0,ht=>cases ht;exact (show zd.wantsStandIn 22=false by kernel_rfl)
   | j+1,ht=>simp at ht)
  (by kernel_rfl)
#print axioms fnPrintGrammar_card
end
end Go.Proofs.YtengepcafdnalaaGreatDoor
