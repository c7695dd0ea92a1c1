/-
  
-/
import Derived.Test.YtengepcafdnalaaGreatDoorM43
namespace Go.Proofs.YtengepcafdnalaaGreatDoor
section
open Go Go.ChangeShapes Go.WideShapes Go.RowKit
set_option maxRecDepth 100000
theorem lifted_4 (os : Os) (started : os.Started) (H : Type) (enc : TypeId × Value → H) :
 ReturnsInHanded {} Tryz.checked os 4 .any (fun w args => (Rows.fnParseOneSpec.pre enc Tryz.prog Tryz.f4 [] false w args ∧ laidMetH Tryz.prog Rows.fnParseOneRow.laid w) ∧ sizedMet enc Tryz.prog Tryz.f4 (OpenSpec.ofChange Rows.fnParseOneSpec) false w args)
  (Rows.fnParseOneSpec.post enc Tryz.prog Tryz.f4 false true false false) := by
 refine returnsInHanded_of_change_and (C := Tryz.checked) (X := fun w _ => laidMetH Tryz.prog Rows.fnParseOneRow.laid w) (fun _ _ _ hh h => h.of_heap hh) own started (by kernel_rfl) Tryz.func4
  (ChangeSpec.witness_shaped (enc := enc) (C := Tryz.checked) (os := os) (X := fun w _ => laidMetH Tryz.prog Rows.fnParseOneRow.laid w) false (World.doorLaid Tryz.prog 124 os) #[.slice none 0 0, .bool false] 8 rfl (World.shaped_of_RefB (by kernel_rfl) (by kernel_rfl)) (by kernel_rfl) (by kernel_rfl) (by kernel_rfl) (door_met os _)) ?_
 intro W base args ds gs before hval0 hW _ _ hL _
 have hval : ∀ (j : Nat) t v, Tryz.f4.params[j]? = some t → args[j]? = some v → Value.okWide Tryz.prog W .any base t v := hval0
 have hW' := hW
 obtain ⟨p, q, hA0, hV, rfl, hfz, hnd⟩ := hW
 have hA : DataW.TrodAll enc Tryz.prog W 0 (fun _ => true) true Tryz.f4.params.toList args.toList ds p := hA0
 rw [Tryz.params4] at hA hval
 obtain ⟨v0, v1, d0, d1, p0, p1, rfl, rfl, rfl, h0, h1⟩ := trodAll_two hA
 obtain ⟨l0, hl0, hr0⟩ := sels_rel (hval 0 22 v0 rfl rfl) h0
 obtain ⟨b1, rfl, rfl, rfl⟩ := open_bool Tryz.underlying4 (hval 1 4 v1 rfl rfl) h1
 have hc := errCell hL
 obtain ⟨x, y, z, rfl⟩ := vars_three hV
 refine (Sat.calls sat4 hc (svs := [.sl (.sels l0), .bool b1]) rfl (fun ω hω i s v e1 e2 => ?_) (s := .bool true) ⟨hl0, rfl⟩).mono ?_
 · match i, e1, e2 with
   | 0, e1, e2 => cases e1; cases e2; exact hr0 ω hω
   | 1, e1, e2 => cases e1; cases e2; exact .bool b1
 rintro en W' ⟨v, rfl, ⟨ω, hv⟩, hf⟩
 obtain rfl := hv.bool_inv
 exact ⟨_, rfl, _, _, _, [], _, q, hW', trodAll_mk1 (shut_bool Tryz.underlying4 true), trodAll_mk2 (sels_after h0 hf) (shut_bool Tryz.underlying4 b1), vars_after hc hf hV, hf.kept _, fun h => by cases h⟩
theorem holds_4 : Rows.FnParseOneSaid :=
 OpenClaim.holds_of_wide 4 Tryz.f4 rfl rfl rfl rfl rfl rfl rfl ⟨rfl, rfl, rfl, rfl, rfl⟩ rfl rfl rfl rfl rfl (by kernel_rfl) Tryz.func4 (by kernel_rfl)
  (of_decide_eq_true (by kernel_rfl)) (by unfold Func.isWrapper; first | (rw [if_pos (by decide +kernel)]; kernel_rfl) | (rw [if_neg (by decide +kernel)]; exact ⟨rfl, rfl⟩))
  (fun os started H enc _ => lifted_4 os started H enc)
theorem fnParseOne_card : Rows.FnParseOneCardSaid :=
 Claim7.holds_tied_plain_at .later [] [.data, .data, .data, .sentinel, .sentinel, .sentinel, .sentinel, .sentinel] true (true, "a169cf2e141b0dc0794576c785faf48765b70d49e638a73e170b800f4ba5d19f") true
  holds_4 (fun _ h => by cases h) (by kernel_rfl) (fun _ h => by cases h) fnParseOne_row_tie rfl ⟨rfl, rfl⟩ (by kernel_rfl) rfl
  (fun f fn hf hfn => by
   obtain rfl : f = 4 := Option.some.inj ((show Tryz.prog.funcNamed "given.example/pub-bosquet/laws.FnParseOne" = some 4 by kernel_rfl).symm.trans hf) |>.symm
   obtain rfl : fn = Tryz.f4 := (Option.some.inj (Tryz.func4.symm.trans hfn)).symm
   refine ⟨by kernel_rfl, fun j t ht => ?_⟩
   rw [Tryz.params4] at ht
   match j, ht with
   | 0, ht => cases ht; exact (show Tryz.prog.wantsStandIn 22 = false by kernel_rfl)
   | 1, ht => cases ht; exact (show Tryz.prog.wantsStandIn 4 = false by kernel_rfl)
   | j + 2, ht => simp at ht)
  (by kernel_rfl)
#print axioms fnParseOne_card
end
end Go.Proofs.YtengepcafdnalaaGreatDoor
