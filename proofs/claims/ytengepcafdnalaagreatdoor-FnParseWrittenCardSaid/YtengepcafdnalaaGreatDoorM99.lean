/-
  
-/
import Derived.Test.YtengepcafdnalaaGreatDoorM43
namespace Go.Proofs.YtengepcafdnalaaGreatDoor
section
open Go Go.ChangeShapes Go.WideShapes Go.RowKit
set_option maxRecDepth 100000
theorem lifted_6 (os : Os) (started : os.Started) (H : Type) (enc : TypeId × Value → H) :
 ReturnsInHanded {} Tryz.checked os 6 .any (fun w args => (Rows.fnParseWrittenSpec.pre enc Tryz.prog Tryz.f6 [] false w args ∧ laidMetH Tryz.prog Rows.fnParseWrittenRow.laid w) ∧ sizedMet enc Tryz.prog Tryz.f6 (OpenSpec.ofChange Rows.fnParseWrittenSpec) false w args)
  (Rows.fnParseWrittenSpec.post enc Tryz.prog Tryz.f6 false true false false) := by
 refine returnsInHanded_of_change_and (C := Tryz.checked) (X := fun w _ => laidMetH Tryz.prog Rows.fnParseWrittenRow.laid w) (fun _ _ _ hh h => h.of_heap hh) own started (by kernel_rfl) Tryz.func6
  (ChangeSpec.witness_shaped (enc := enc) (C := Tryz.checked) (os := os) (X := fun w _ => laidMetH Tryz.prog Rows.fnParseWrittenRow.laid w) false (World.doorLaid Tryz.prog 124 os) #[.slice none 0 0] 8 rfl (World.shaped_of_RefB (by kernel_rfl) (by kernel_rfl)) (by kernel_rfl) (by kernel_rfl) (by kernel_rfl) (door_met os _)) ?_
 intro W base args ds gs before hval0 hW _ _ hL _
 have hval : ∀ (j : Nat) t v, Tryz.f6.params[j]? = some t → args[j]? = some v → Value.okWide Tryz.prog W .any base t v := hval0
 have hW' := hW
 obtain ⟨p, q, hA0, hV, rfl, hfz, hnd⟩ := hW
 have hA : DataW.TrodAll enc Tryz.prog W 0 (fun _ => true) true Tryz.f6.params.toList args.toList ds p := hA0
 rw [Tryz.params6] at hA hval
 obtain ⟨v0, d0, rfl, rfl, h0⟩ := trodAll_one hA
 obtain ⟨l0, hl0, hr0⟩ := sels_rel (hval 0 22 v0 rfl rfl) h0
 have hc := errCell hL
 obtain ⟨x, y, z, rfl⟩ := vars_three hV
 refine (Sat.calls sat6 hc (svs := [.sl (.sels l0)]) rfl (fun ω hω i s v e1 e2 => ?_) (s := .bool true) ⟨hl0, rfl⟩).mono ?_
 · match i, e1, e2 with
   | 0, e1, e2 => cases e1; cases e2; exact hr0 ω hω
 rintro en W' ⟨v, rfl, ⟨ω, hv⟩, hf⟩
 obtain rfl := hv.bool_inv
 exact ⟨_, rfl, _, _, _, [], _, q, hW', trodAll_mk1 (shut_bool Tryz.underlying4 true), trodAll_mk1 (sels_after h0 hf), vars_after hc hf hV, hf.kept _, fun h => by cases h⟩
theorem holds_6 : Rows.FnParseWrittenSaid :=
 OpenClaim.holds_of_wide 6 Tryz.f6 rfl rfl rfl rfl rfl rfl rfl ⟨rfl, rfl, rfl, rfl, rfl⟩ rfl rfl rfl rfl rfl (by kernel_rfl) Tryz.func6 (by kernel_rfl)
  (of_decide_eq_true (by kernel_rfl)) (by unfold Func.isWrapper; first | (rw [if_pos (by decide +kernel)]; kernel_rfl) | (rw [if_neg (by decide +kernel)]; exact ⟨rfl, rfl⟩))
  (fun os started H enc _ => lifted_6 os started H enc)
theorem fnParseWritten_card : Rows.FnParseWrittenCardSaid :=
 Claim7.holds_tied_plain_at .later [] [.data, .data, .data, .sentinel, .sentinel, .sentinel, .sentinel, .sentinel] true (true, "a169cf2e141b0dc0794576c785faf48765b70d49e638a73e170b800f4ba5d19f") true
  holds_6 (fun _ h => by cases h) (by kernel_rfl) (fun _ h => by cases h) fnParseWritten_row_tie rfl ⟨rfl, rfl⟩ (by kernel_rfl) rfl
  (fun f fn hf hfn => by
   obtain rfl : f = 6 := Option.some.inj ((show Tryz.prog.funcNamed "given.example/pub-bosquet/laws.FnParseWritten" = some 6 by kernel_rfl).symm.trans hf) |>.symm
   obtain rfl : fn = Tryz.f6 := (Option.some.inj (Tryz.func6.symm.trans hfn)).symm
   refine ⟨by kernel_rfl, fun j t ht => ?_⟩
   rw [Tryz.params6] at ht
   match j, ht with
   | 0, ht => cases ht; exact (show Tryz.prog.wantsStandIn 22 = false by kernel_rfl)
   | j + 1, ht => simp at ht)
  (by kernel_rfl)
#print axioms fnParseWritten_card
end
end Go.Proofs.YtengepcafdnalaaGreatDoor
