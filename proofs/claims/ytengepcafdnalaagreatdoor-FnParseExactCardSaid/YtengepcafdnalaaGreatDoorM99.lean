/-
  The law FnParseExact holds for every input: what a text is read as by the package is what the reference's reader says. Conditions: the listed variables, as the card ties them.
-/
import Derived.Test.YtengepcafdnalaaGreatDoorM48
import Derived.Test.YtengepcafdnalaaGreatDoorCards
import Derived.Test.YtengepcafdnalaaGreatDoorTie
import Derived.ProofKit
import Derived.LaidMore
import Derived.OpenShut
import Derived.Stop.Joined
import Derived.JoinedOf
import Derived.MakeChecks
import Derived.ChangeMaps5
import Derived.SevenTiedAt
namespace Go.Proofs.YtengepcafdnalaaGreatDoor
section
open Go Go.ChangeShapes Go.WideShapes Go.RowKit
set_option maxRecDepth 100000
theorem own : ownKnob Tryz.prog.godebug = Option.none := by kernel_rfl
theorem laidVar {P : Program} {W : World} : ∀ {l : List (String × DataW Unit)} {ps : List MemPlace}, DataW.LaidVars P W l ps → ∀ {n : String} {d : DataW Unit}, (n, d) ∈ l →
 ∃ g t cs fuel p, P.globalNamed n = some g ∧ (P.globals[g]?).map (·.type) = some t ∧ W.var? P n = some cs ∧ DataW.trod (fun _ => ()) P W 0 (fun _ => true) false fuel t cs.toList = some (d, p)
 | [], _, _, _, _, h => by cases h
 | (_, _) :: _, _, ⟨g, t, cs, f, p, _, h1, h2, h3, h4, h5, _⟩, _, _, h => by
  rcases List.mem_cons.1 h with e | e
  · cases e; exact ⟨g, t, cs, f, p, h1, h2, h3, h4⟩
  exact laidVar h5 e
theorem iface_of {fuel : Nat} {W : World} {cs : List Value} {n : String} {x : DataW Unit} {p : List MemPlace}
 (h : DataW.trod (fun _ => ()) Tryz.prog W 0 (fun _ => true) false fuel 71 cs = some (.iface n x, p)) : ∃ u v, cs = [.iface u v] := by
 cases fuel with
 | zero => simp [DataW.trod] at h
 | succ f =>
  unfold DataW.trod at h
  rw [Tryz.underlying71] at h
  match cs, h with
  | [], h => simp at h
  | [v], h => cases v <;> simp at h <;> exact ⟨_, _, rfl⟩
  | _ :: _ :: _, h => simp at h
theorem errCell {W : World} (h : laidMetH Tryz.prog Rows.fnParseExactRow.laid W) (g : Nat) (hg : errG g = true) : ∃ u v T fr, W.heap[g]? = some (.cells #[.iface u v] T fr) := by
 rw [MakeChecks.laidMetH_plain _ _ _ (by kernel_rfl)] at h
 obtain ⟨ps, h, _⟩ := h
 have one : ∀ (n : String) (a : String) (d : DataW Unit), (n, DataW.iface a d) ∈ Rows.fnParseExactRow.laid → Tryz.prog.globalNamed n = some g → (Tryz.prog.globals[g]?).map (·.type) = some 71 → ∃ u v T fr, W.heap[g]? = some (.cells #[.iface u v] T fr) := by
  intro n a d hm hn ht
  obtain ⟨g', t, cs, fuel, p, h1, h2, h3, h4⟩ := laidVar h hm
  obtain rfl := Option.some.inj (hn.symm.trans h1)
  obtain rfl := Option.some.inj (ht.symm.trans h2)
  obtain ⟨u, v, e⟩ := iface_of h4
  simp only [World.var?, hn, Option.bind_some] at h3
  split at h3
  · rename_i c T fr hh
    cases h3
    refine ⟨u, v, T, fr, ?_⟩
    rw [hh]
    obtain ⟨l⟩ := cs
    simp only at e
    rw [e]
  cases h3
 have hc : g = 0 ∨ g = 1 ∨ g = 2 ∨ g = 4 ∨ g = 5 := by
  simp [errG] at hg
  omega
 rcases hc with rfl | rfl | rfl | rfl | rfl
 · exact one "given.example/pub-bosquet/pub/cascadia.errExpectedParenthesis" _ _ (List.mem_of_getElem? (i := 5) rfl) (by kernel_rfl) (by kernel_rfl)
 · exact one "given.example/pub-bosquet/pub/cascadia.errExpectedClosingParenthesis" _ _ (List.mem_of_getElem? (i := 6) rfl) (by kernel_rfl) (by kernel_rfl)
 · exact one "given.example/pub-bosquet/pub/cascadia.errUnmatchedParenthesis" _ _ (List.mem_of_getElem? (i := 7) rfl) (by kernel_rfl) (by kernel_rfl)
 · exact one "strconv.ErrSyntax" _ _ (List.mem_of_getElem? (i := 4) rfl) (by kernel_rfl) (by kernel_rfl)
 exact one "strconv.ErrRange" _ _ (List.mem_of_getElem? (i := 3) rfl) (by kernel_rfl) (by kernel_rfl)
theorem Sat.calls {f : FuncId} {P : Spec} (hf : Sat f P) {W : World} (he : ∀ g, errG g = true → ∃ u v T fr, W.heap[g]? = some (.cells #[.iface u v] T fr)) {svs : List SV} {args : Array Value} (hn : args.size = svs.length)
 (hr : ∀ (ω : Wit) (i : Nat) (s : SV) (v : Value), svs[i]? = some s → args[i]? = some v → Rel ω s v) {s : SV} (hk : P svs Option.none fun o _ => o = .val s) :
 Calls Tryz.prog f args W fun e W' => ∃ v, e = .returned v ∧ (∃ ω, Rel ω s v) ∧ Frame W (fun _ => False) W' := by
 let G : Nat → Option (Array Value × TypeId) := fun b => match errG b, W.heap[b]? with
  | true, some (.cells c T _) => some (c, T)
  | _, _ => Option.none
 have hG : ∀ b c T, G b = some (c, T) → ∃ fr, W.heap[b]? = some (.cells c T fr) := by
  intro b c T e
  simp only [G] at e
  split at e
  · rename_i h; cases e; exact ⟨_, h⟩
  cases e
 let g0 : Glob := ⟨G, fun g hg => by
  obtain ⟨u, v, T, fr, h⟩ := he g hg
  exact ⟨u, v, T, by simp only [G, hg, h]⟩, []⟩
 have hS : Sim g0 W (fun _ => False) ⟨G, fun _ => 0, fun _ => undef, 1⟩ (loc Option.none) a0 W := {
  env := fun i s e => by simp [loc, elk, lk2] at e
  heap := fun r b e => by simp [loc, hlk] at e
  sep := fun r r' b b' k e => by simp [loc, hlk] at e
  ng := fun r b k e => by simp [loc, hlk] at e
  mine := fun r b k e => by simp [loc, hlk] at e
  nx := fun r b e => by simp [loc, hlk] at e
  wn := rfl
  gam := fun b c T e => hG b c T e
  fr := Frame.refl W _
  df := rfl
  gl := fun b x e => e
  gn := fun b x e => .inl e
  pin := fun k hk => hk.elim
  n0 := Nat.zero_lt_one }
 refine (hf g0 W _ _ svs args Option.none _ hS hn (fun i s v e1 e2 => hr _ i s v e1 e2) hk).mono ?_
 rintro e W' ⟨v, o, b', he, rfl, ω', S', h1, _, h3⟩
 exact ⟨v, he, ⟨ω', h3.2⟩, h1.fr⟩
theorem Frame.kept {W W' : World} (h : Frame W (fun _ => False) W') (may : MemPlace → Prop) : W.keptBut W' may := by
 refine ⟨h.os, h.output, fun i hi => ?_⟩
 rw [h.block i hi (fun q => q)]
 exact (World.keptBut_refl W may).2.2 i hi
section
variable {H : Type} {enc : TypeId × Value → H}
theorem vars_keep {W W' : World} {sp sp' : Nat → Bool} : ∀ {ns : List String} {gs : List (DataW H)} {q : List MemPlace}, DataW.TrodVars enc Tryz.prog W sp ns gs q →
 (∀ n ∈ ns, ∃ g u v T fr, Tryz.prog.globalNamed n = some g ∧ (Tryz.prog.globals[g]?).map (·.type) = some 71 ∧ W.heap[g]? = some (.cells #[.iface u v] T fr) ∧ W'.heap[g]? = W.heap[g]?) →
 DataW.TrodVars enc Tryz.prog W' sp' ns gs q
 | [], [], _, h, _ => h
 | [], _ :: _, _, h, _ => h.elim
 | _ :: _, [], _, h, _ => h.elim
 | n :: ns, d :: gs, _, ⟨g, t, cs, fuel, p, q, h1, h2, h3, h4, h5, h6⟩, hall => by
  obtain ⟨g', u, v, T, fr, k1, k2, k3, k4⟩ := hall n (List.mem_cons_self ..)
  obtain rfl := Option.some.inj (k1.symm.trans h1)
  obtain rfl := Option.some.inj (k2.symm.trans h2)
  have e : cs = #[.iface u v] := by
   simp only [World.var?, h1, Option.bind_some, k3, Option.some.injEq] at h3
   exact h3.symm
  subst e
  refine ⟨g', 71, #[.iface u v], fuel, p, q, h1, h2, ?_, ?_, vars_keep h5 fun m hm => hall m (List.mem_cons_of_mem _ hm), h6⟩
  · simp only [World.var?, h1, Option.bind_some, k4, k3]
  cases fuel with
  | zero => simp [DataW.trod] at h4
  | succ f =>
   unfold DataW.trod at h4 ⊢
   rw [Tryz.underlying71] at h4 ⊢
   simpa using h4
theorem vars_three {W : World} {sp : Nat → Bool} {a b c : String} {gs : List (DataW H)} {q : List MemPlace} (h : DataW.TrodVars enc Tryz.prog W sp [a, b, c] gs q) : ∃ x y z, gs = [x, y, z] := by
 match gs, h with
 | [], h => exact h.elim
 | [x], ⟨_, _, _, _, _, _, _, _, _, _, h, _⟩ => exact h.elim
 | [x, y], ⟨_, _, _, _, _, _, _, _, _, _, ⟨_, _, _, _, _, _, _, _, _, _, h, _⟩, _⟩ => exact h.elim
 | [x, y, z], _ => exact ⟨x, y, z, rfl⟩
 | x :: y :: z :: t :: l, ⟨_, _, _, _, _, _, _, _, _, _, ⟨_, _, _, _, _, _, _, _, _, _, ⟨_, _, _, _, _, _, _, _, _, _, h, _⟩, _⟩, _⟩ => exact h.elim
end
theorem door_met (os : Os) (args : Array Value) : laidMetH Tryz.prog Rows.fnParseExactRow.laid ((World.doorLaid Tryz.prog 124 os).forCall (fun _ _ => 0) ⟨#[], args, []⟩).memory := by
 rw [MakeChecks.laidMetH_plain _ _ _ (by kernel_rfl)]
 exact laidMet_of_run' 8 (by kernel_rfl) (by kernel_rfl)
theorem exact_lifted (os : Os) (started : os.Started) (H : Type) (enc : TypeId × Value → H) :
 ReturnsInHanded {} Tryz.checked os 3 .any (fun w args => (Rows.fnParseExactSpec.pre enc Tryz.prog Tryz.f3 [] false w args ∧ laidMetH Tryz.prog Rows.fnParseExactRow.laid w) ∧ sizedMet enc Tryz.prog Tryz.f3 (OpenSpec.ofChange Rows.fnParseExactSpec) false w args)
  (Rows.fnParseExactSpec.post enc Tryz.prog Tryz.f3 false true false false) := by
 refine returnsInHanded_of_change_and (C := Tryz.checked) (X := fun w _ => laidMetH Tryz.prog Rows.fnParseExactRow.laid w) (fun _ _ _ hh h => h.of_heap hh) own started (by kernel_rfl) Tryz.func3
  (ChangeSpec.witness_shaped (enc := enc) (C := Tryz.checked) (os := os) (X := fun w _ => laidMetH Tryz.prog Rows.fnParseExactRow.laid w) false (World.doorLaid Tryz.prog 124 os) #[.string ⟨#[]⟩, .bool false, .bool false] 8 rfl (World.shaped_of_RefB (by kernel_rfl) (by kernel_rfl)) (by kernel_rfl) (by kernel_rfl) (by kernel_rfl) (door_met os _)) ?_
 intro W base args ds gs before hval0 hW _ _ hL _
 have hval : ∀ (j : Nat) t v, Tryz.f3.params[j]? = some t → args[j]? = some v → Value.okWide Tryz.prog W .any base t v := hval0
 have hW' := hW
 obtain ⟨p, q, hA0, hV, rfl, hfz, hnd⟩ := hW
 have hA : DataW.TrodAll enc Tryz.prog W 0 (fun _ => true) true Tryz.f3.params.toList args.toList ds p := hA0
 rw [Tryz.params3] at hA hval
 obtain ⟨v0, v1, v2, d0, d1, d2, p0, p1, p2, rfl, rfl, rfl, h0, h1, h2⟩ := trodAll_three hA
 obtain ⟨s, rfl, rfl, rfl, hs⟩ := ChangeMaps.open_string Tryz.underlying9 (hval 0 9 v0 rfl rfl) h0
 obtain ⟨m, rfl, rfl, rfl⟩ := open_bool Tryz.underlying4 (hval 1 4 v1 rfl rfl) h1
 obtain ⟨e, rfl, rfl, rfl⟩ := open_bool Tryz.underlying4 (hval 2 4 v2 rfl rfl) h2
 have hc := errCell hL
 obtain ⟨x, y, z, rfl⟩ := vars_three hV
 obtain ⟨⟨l⟩⟩ := s
 have hl : l.length ≤ 9223372036854775807 := by
  have : (⟨⟨l⟩⟩ : ByteArray).size = l.length := rfl
  rw [this] at hs
  simp only [maxLen] at hs
  omega
 refine (Sat.calls sat3 hc (svs := [.str l, .bool m, .bool e]) rfl (fun ω i s v e1 e2 => ?_) (s := .bool true) ⟨hl, rfl⟩).mono ?_
 · match i, e1, e2 with
   | 0, e1, e2 => cases e1; cases e2; exact .str l
   | 1, e1, e2 => cases e1; cases e2; exact .bool m
   | 2, e1, e2 => cases e1; cases e2; exact .bool e
 rintro en W' ⟨v, rfl, ⟨ω, hv⟩, hf⟩
 obtain rfl := hv.bool_inv
 refine ⟨_, rfl, _, _, _, [], [], q, hW', ?_, ?_, ?_, hf.kept _, fun h => by cases h⟩
 · exact trodAll_mk1 (shut_bool Tryz.underlying4 true)
 · exact trodAll_mk3 (ChangeMaps.shut_string Tryz.underlying9 hs) (shut_bool Tryz.underlying4 m) (shut_bool Tryz.underlying4 e)
 refine vars_keep hV fun n hn => ?_
 have fin : ∀ g, errG g = true → Tryz.prog.globalNamed n = some g → (Tryz.prog.globals[g]?).map (·.type) = some 71 →
  ∃ g u v T fr, Tryz.prog.globalNamed n = some g ∧ (Tryz.prog.globals[g]?).map (·.type) = some 71 ∧ W.heap[g]? = some (.cells #[.iface u v] T fr) ∧ W'.heap[g]? = W.heap[g]? := by
  intro g hg k1 k2
  obtain ⟨u, v, T, fr, k3⟩ := hc g hg
  exact ⟨g, u, v, T, fr, k1, k2, k3, hf.block g (Array.getElem?_eq_some_iff.1 k3).1 (fun q => q)⟩
 have hn' : n ∈ ["given.example/pub-bosquet/pub/cascadia.errExpectedParenthesis", "given.example/pub-bosquet/pub/cascadia.errExpectedClosingParenthesis", "given.example/pub-bosquet/pub/cascadia.errUnmatchedParenthesis"] := hn
 simp only [List.mem_cons, List.not_mem_nil, or_false] at hn'
 rcases hn' with rfl | rfl | rfl
 · exact fin 0 rfl (by kernel_rfl) (by kernel_rfl)
 · exact fin 1 rfl (by kernel_rfl) (by kernel_rfl)
 exact fin 2 rfl (by kernel_rfl) (by kernel_rfl)
theorem exact_holds : Rows.FnParseExactSaid :=
 OpenClaim.holds_of_wide 3 Tryz.f3 rfl rfl rfl rfl rfl rfl rfl ⟨rfl, rfl, rfl, rfl, rfl⟩ rfl rfl rfl rfl rfl (by kernel_rfl) Tryz.func3 (by kernel_rfl)
  (of_decide_eq_true (by kernel_rfl)) (by unfold Func.isWrapper; first | (rw [if_pos (by decide +kernel)]; kernel_rfl) | (rw [if_neg (by decide +kernel)]; exact ⟨rfl, rfl⟩))
  (fun os started H enc _ => exact_lifted os started H enc)
theorem fnParseExact_card : Rows.FnParseExactCardSaid :=
 Claim7.holds_tied_plain_at .later [] [.data, .data, .data, .sentinel, .sentinel, .sentinel, .sentinel, .sentinel] true (true, "a169cf2e141b0dc0794576c785faf48765b70d49e638a73e170b800f4ba5d19f") true
  exact_holds (fun _ h => by cases h) (by kernel_rfl) (fun _ h => by cases h) fnParseExact_row_tie rfl ⟨rfl, rfl⟩ (by kernel_rfl) rfl
  (fun f fn hf hfn => by
   obtain rfl : f = 3 := Option.some.inj ((show Tryz.prog.funcNamed "given.example/pub-bosquet/laws.FnParseExact" = some 3 by kernel_rfl).symm.trans hf) |>.symm
   obtain rfl : fn = Tryz.f3 := (Option.some.inj (Tryz.func3.symm.trans hfn)).symm
   exact ⟨by kernel_rfl, fun j t ht => by
    rw [Tryz.params3] at ht
    have h3 : t = 9 ∨ t = 4 := by
     match j, ht with
     | 0, ht => left; simpa using ht.symm
     | 1, ht => right; simpa using ht.symm
     | 2, ht => right; simpa using ht.symm
     | j + 3, ht => simp at ht
    rcases h3 with rfl | rfl
    · exact (show Tryz.prog.wantsStandIn 9 = false by kernel_rfl)
    exact (show Tryz.prog.wantsStandIn 4 = false by kernel_rfl)⟩)
  (by kernel_rfl)
#print axioms fnParseExact_card
end
end Go.Proofs.YtengepcafdnalaaGreatDoor
