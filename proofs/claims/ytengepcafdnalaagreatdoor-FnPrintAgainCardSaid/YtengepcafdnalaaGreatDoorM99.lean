/-
  
-/
import Derived.Test.YtengepcafdnalaaGreatDoorM36
namespace Go.Proofs.YtengepcafdnalaaGreatDoor
open Go.Proofs.Tryz renaming prog → zg
section
open Go Go.ChangeShapes Go.WideShapes Go.RowKit
set_option maxRecDepth 100000
theorem Qnj (os : Os) (started : os.Started) (H : Type) (enc : TypeId × Value -> H) :
 ReturnsInHanded {} Tryz.checked os 7 .any (fun w args => (Rows.fnPrintAgainSpec.pre enc zg Tryz.f7 [] false w args /\ laidMetH zg Rows.fnPrintAgainRow.laid w) /\ sizedMet enc zg Tryz.f7 (OpenSpec.ofChange Rows.fnPrintAgainSpec) false w args)
  (Rows.fnPrintAgainSpec.post enc zg Tryz.f7 false true false false) := by
 refine returnsInHanded_of_change_and (C := Tryz.checked) (X := fun w _ => laidMetH zg Rows.fnPrintAgainRow.laid w) (fun _ _ _ hh h => h.of_heap hh) own started (by kernel_rfl) Tryz.func7
  (ChangeSpec.witness_shaped (enc := enc) (C := Tryz.checked) (os := os) (X := fun w _ => laidMetH zg Rows.fnPrintAgainRow.laid w) false (World.doorLaid zg 124 os) #[.slice none 0 0, .slice none 0 0] 8 rfl (World.shaped_of_RefB (by kernel_rfl) (by kernel_rfl)) (by kernel_rfl) (by kernel_rfl) (by kernel_rfl) (Qof os _)) ?_
 intro W base args ds gs before hval0 hW _ _ hL _
 have hval : ∀ (j : Nat) t v, Tryz.f7.params[j]? = some t -> args[j]? = some v -> Value.okWide zg W .any base t v := hval0
 have hW' := hW
 obtain ⟨p, q, hA0, hV, rfl, hfz, hnd⟩ := hW
 have hA : DataW.TrodAll enc zg W 0 (fun _ => true) true Tryz.f7.params.toList args.toList ds p := hA0
 rw [Tryz.params7] at hA hval
 obtain ⟨v0, v1, d0, d1, p0, p1, rfl, rfl, rfl, h0, h1⟩ := trodAll_two hA
 obtain ⟨l0, hl0, hr0⟩ := Qmo (hval 0 22 v0 rfl rfl) h0
 obtain ⟨l1, hl1, hr1⟩ := QlQ (hval 1 37 v1 rfl rfl) h1
 have hc := Qp6 hL
 have ht := QoO hL
 obtain ⟨x, y, z, rfl⟩ := Qil hV
 refine (Sat.calls sat7 hc ht (svs := [.sl (.sels l0), .sl (.bytes l1)]) rfl (fun ω hω i s v e1 e2 => ?_) (s := .bool true) ⟨hl0, hl1, rfl⟩).mono ?_
 . match i, e1, e2 with
   | 0, e1, e2 => cases e1; cases e2; exact hr0 ω hω
   | 1, e1, e2 => cases e1; cases e2; exact hr1 ω hω
 rintro en W' ⟨v, rfl, ⟨ω, hv⟩, hf⟩
 obtain rfl := hv.bool_inv
 exact ⟨_, rfl, _, _, _, [], _, q, hW', trodAll_mk1 (shut_bool Tryz.underlying4 true), trodAll_mk2 (Qiw h0 hf) (Qh9 h1 hf), Qim hc hf hV, hf.kept _, fun h => by cases h⟩
theorem QpQ : Rows.FnPrintAgainSaid :=
 OpenClaim.holds_of_wide 7 Tryz.f7 rfl rfl rfl rfl rfl rfl rfl ⟨rfl, rfl, rfl, rfl, rfl⟩ rfl rfl rfl rfl rfl (by kernel_rfl) Tryz.func7 (by kernel_rfl)
  (of_decide_eq_true (by kernel_rfl)) (by unfold Func.isWrapper; first | (rw [if_pos (by decide +kernel)]; kernel_rfl) | (rw [if_neg (by decide +kernel)]; exact ⟨rfl, rfl⟩))
  (fun os started H enc _ => Qnj os started H enc)
theorem fnPrintAgain_card : Rows.FnPrintAgainCardSaid :=
 Claim7.holds_tied_plain_at .later [] [.data, .data, .data, .sentinel, .sentinel, .sentinel, .sentinel, .sentinel] true (true, "a169cf2e141b0dc0794576c785faf48765b70d49e638a73e170b800f4ba5d19f") true
  QpQ (fun _ h => by cases h) (by kernel_rfl) (fun _ h => by cases h) fnPrintAgain_row_tie rfl ⟨rfl, rfl⟩ (by kernel_rfl) rfl
  (fun f fn hf hfn => by
   obtain rfl : f = 7 := Option.some.inj ((show zg.funcNamed "given.example/pub-bosquet/laws.FnPrintAgain" = some 7 by kernel_rfl).symm.trans hf) |>.symm
   obtain rfl : fn = Tryz.f7 := (Option.some.inj (Tryz.func7.symm.trans hfn)).symm
   refine ⟨by kernel_rfl, fun j t ht => ?_⟩
   rw [Tryz.params7] at ht
   match j, ht with
   | 0, ht => cases ht; exact (show zg.wantsStandIn 22 = false by kernel_rfl)
   | 1, ht => cases ht; exact (show zg.wantsStandIn 37 = false by kernel_rfl)
   | j + 2, ht => simp at ht)
  (by kernel_rfl)
#print axioms fnPrintAgain_card
end
end Go.Proofs.YtengepcafdnalaaGreatDoor
