/-
  
-/
import Derived.Test.YtengepcafdnalaaGreatDoorM48
namespace Go.Proofs.YtengepcafdnalaaGreatDoor
section
open Go Go.ChangeShapes Go.WideShapes Go.RowKit
set_option maxRecDepth 100000
theorem QmV (os : Os) (started : os.Started) (H : Type) (enc : TypeId × Value -> H) :
 ReturnsInHanded {} Tryz.checked os 5 .any (fun w args => (Rows.fnParseOtherwiseSpec.pre enc Tryz.prog Tryz.f5 [] false w args /\ laidMetH Tryz.prog Rows.fnParseOtherwiseRow.laid w) /\ sizedMet enc Tryz.prog Tryz.f5 (OpenSpec.ofChange Rows.fnParseOtherwiseSpec) false w args)
  (Rows.fnParseOtherwiseSpec.post enc Tryz.prog Tryz.f5 false true false false) := by
 refine returnsInHanded_of_change_and (C := Tryz.checked) (X := fun w _ => laidMetH Tryz.prog Rows.fnParseOtherwiseRow.laid w) (fun _ _ _ hh h => h.of_heap hh) own started (by kernel_rfl) Tryz.func5
  (ChangeSpec.witness_shaped (enc := enc) (C := Tryz.checked) (os := os) (X := fun w _ => laidMetH Tryz.prog Rows.fnParseOtherwiseRow.laid w) false (World.doorLaid Tryz.prog 124 os) #[.slice none 0 0, .slice none 0 0] 8 rfl (World.shaped_of_RefB (by kernel_rfl) (by kernel_rfl)) (by kernel_rfl) (by kernel_rfl) (by kernel_rfl) (QnF os _)) ?_
 intro W base args ds gs before hval0 hW _ _ hL _
 have hval : ∀ (j : Nat) t v, Tryz.f5.params[j]? = some t -> args[j]? = some v -> Value.okWide Tryz.prog W .any base t v := hval0
 have hW' := hW
 obtain ⟨p, q, hA0, hV, rfl, hfz, hnd⟩ := hW
 have hA : DataW.TrodAll enc Tryz.prog W 0 (fun _ => true) true Tryz.f5.params.toList args.toList ds p := hA0
 rw [Tryz.params5] at hA hval
 obtain ⟨v0, v1, d0, d1, p0, p1, rfl, rfl, rfl, h0, h1⟩ := trodAll_two hA
 obtain ⟨l0, hl0, hr0⟩ := QlY (hval 0 22 v0 rfl rfl) h0
 obtain ⟨l1, hl1, hr1⟩ := Qlq (hval 1 37 v1 rfl rfl) h1
 have hc := Qpo hL
 obtain ⟨x, y, z, rfl⟩ := QhV hV
 refine (Sat.calls sat5 hc (svs := [.sl (.sels l0), .sl (.bytes l1)]) rfl (fun ω hω i s v e1 e2 => ?_) (s := .bool true) ⟨hl0, hl1, rfl⟩).mono ?_
 . match i, e1, e2 with
   | 0, e1, e2 => cases e1; cases e2; exact hr0 ω hω
   | 1, e1, e2 => cases e1; cases e2; exact hr1 ω hω
 rintro en W' ⟨v, rfl, ⟨ω, hv⟩, hf⟩
 obtain rfl := hv.bool_inv
 exact ⟨_, rfl, _, _, _, [], _, q, hW', trodAll_mk1 (shut_bool Tryz.underlying4 true), trodAll_mk2 (Qh5 h0 hf) (QhJ h1 hf), QhW hc hf hV, hf.kept _, fun h => by cases h⟩
theorem Qpc : Rows.FnParseOtherwiseSaid :=
 OpenClaim.holds_of_wide 5 Tryz.f5 rfl rfl rfl rfl rfl rfl rfl ⟨rfl, rfl, rfl, rfl, rfl⟩ rfl rfl rfl rfl rfl (by kernel_rfl) Tryz.func5 (by kernel_rfl)
  (of_decide_eq_true (by kernel_rfl)) (by unfold Func.isWrapper; first | (rw [if_pos (by decide +kernel)]; kernel_rfl) | (rw [if_neg (by decide +kernel)]; exact ⟨rfl, rfl⟩))
  (fun os started H enc _ => QmV os started H enc)
theorem fnParseOtherwise_card : Rows.FnParseOtherwiseCardSaid :=
 Claim7.holds_tied_plain_at .later [] [.data, .data, .data, .sentinel, .sentinel, .sentinel, .sentinel, .sentinel] true (true, "a169cf2e141b0dc0794576c785faf48765b70d49e638a73e170b800f4ba5d19f") true
  Qpc (fun _ h => by cases h) (by kernel_rfl) (fun _ h => by cases h) fnParseOtherwise_row_tie rfl ⟨rfl, rfl⟩ (by kernel_rfl) rfl
  (fun f fn hf hfn => by
   obtain rfl : f = 5 := Option.some.inj ((show Tryz.prog.funcNamed "given.example/pub-bosquet/laws.FnParseOtherwise" = some 5 by kernel_rfl).symm.trans hf) |>.symm
   obtain rfl : fn = Tryz.f5 := (Option.some.inj (Tryz.func5.symm.trans hfn)).symm
   refine ⟨by kernel_rfl, fun j t ht => ?_⟩
   rw [Tryz.params5] at ht
   match j, ht with
   | 0, ht => cases ht; exact (show Tryz.prog.wantsStandIn 22 = false by kernel_rfl)
   | 1, ht => cases ht; exact (show Tryz.prog.wantsStandIn 37 = false by kernel_rfl)
   | j + 2, ht => simp at ht)
  (by kernel_rfl)
#print axioms fnParseOtherwise_card
end
end Go.Proofs.YtengepcafdnalaaGreatDoor
