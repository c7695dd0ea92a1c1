/-
  Parts of the proof that the law FnParseOne holds for every input (texts Ks, Kx). Conditions: none.
-/
import Derived.Test.YtengepcafdnalaaGreatDoorM20
import Derived.Shelf.Strconv.AtoiAll
import Derived.Shelf.Strings.Repeat
import Derived.Lib.AtoiErrMem
namespace Go.Proofs.YtengepcafdnalaaGreatDoor
section
open Go Go.RowKit Go.Shelf
def lays172_ren : Go.Shelf.Ren := ⟨fun | 172 => 153 | 244 => 158 | 245 => 157 | 247 => 165 | 279 => 161 | 280 => 162 | 281 => 163 | 282 => 164 | 287 => 156 | 316 => 166 | 171 => 167 | 205 => 71 | 321 => 159 | 322 => 160 | 243 => 168 | 246 => 169 | 283 => 170 | 284 => 171 | 285 => 172 | 286 => 173 | 129 => 175 | 317 => 174 | 318 => 176 | 319 => 177 | 320 => 178 | 337 => 179 | 338 => 180 | n => n, fun | 9 => 9 | 3 => 3 | 75 => 71 | 76 => 141 | 4 => 4 | 5 => 5 | 167 => 191 | 37 => 37 | 0 => 0 | 85 => 196 | 2 => 2 | 168 => 193 | 53 => 182 | 175 => 183 | 46 => 88 | 210 => 199 | 127 => 149 | 145 => 147 | 143 => 145 | 21 => 21 | 171 => 201 | 173 => 204 | 212 => 207 | 51 => 185 | 20 => 20 | 213 => 208 | 232 => 211 | 233 => 212 | 80 => 63 | n => n, fun | 15 => 4 | 16 => 5 | 17 => 6 | 18 => 7 | 19 => 8 | n => n⟩
theorem lays172 : Go.Proofs.LaysC.n172 Tryz.prog lays172_ren := {
 mixed := by kernel_rfl,
 f129 := Tryz.func175.trans (congrArg some (by kernel_rfl)),
 f171 := Tryz.func167.trans (congrArg some (by kernel_rfl)),
 f172 := Tryz.func153.trans (congrArg some (by kernel_rfl)),
 f205 := Tryz.func71.trans (congrArg some (by kernel_rfl)),
 f243 := Tryz.func168.trans (congrArg some (by kernel_rfl)),
 f244 := Tryz.func158.trans (congrArg some (by kernel_rfl)),
 f245 := Tryz.func157.trans (congrArg some (by kernel_rfl)),
 f246 := Tryz.func169.trans (congrArg some (by kernel_rfl)),
 f247 := Tryz.func165.trans (congrArg some (by kernel_rfl)),
 f279 := Tryz.func161.trans (congrArg some (by kernel_rfl)),
 f280 := Tryz.func162.trans (congrArg some (by kernel_rfl)),
 f281 := Tryz.func163.trans (congrArg some (by kernel_rfl)),
 f282 := Tryz.func164.trans (congrArg some (by kernel_rfl)),
 f283 := Tryz.func170.trans (congrArg some (by kernel_rfl)),
 f284 := Tryz.func171.trans (congrArg some (by kernel_rfl)),
 f285 := Tryz.func172.trans (congrArg some (by kernel_rfl)),
 f286 := Tryz.func173.trans (congrArg some (by kernel_rfl)),
 f287 := Tryz.func156.trans (congrArg some (by kernel_rfl)),
 f316 := Tryz.func166.trans (congrArg some (by kernel_rfl)),
 f317 := Tryz.func174.trans (congrArg some (by kernel_rfl)),
 f318 := Tryz.func176.trans (congrArg some (by kernel_rfl)),
 f319 := Tryz.func177.trans (congrArg some (by kernel_rfl)),
 f320 := Tryz.func178.trans (congrArg some (by kernel_rfl)),
 f321 := Tryz.func159.trans (congrArg some (by kernel_rfl)),
 f322 := Tryz.func160.trans (congrArg some (by kernel_rfl)),
 f337 := Tryz.func179.trans (congrArg some (by kernel_rfl)),
 f338 := Tryz.func180.trans (congrArg some (by kernel_rfl)),
 t0 := Tryz.underlying0,
 a0 := Tryz.isAgg0,
 z0 := Tryz.sizeOf0,
 v0 := Tryz.zeroValue0,
 t2 := Tryz.underlying2,
 a2 := Tryz.isAgg2,
 z2 := Tryz.sizeOf2,
 v2 := Tryz.zeroValue2,
 t3 := Tryz.underlying3,
 a3 := Tryz.isAgg3,
 z3 := Tryz.sizeOf3,
 v3 := Tryz.zeroValue3,
 t4 := Tryz.underlying4,
 a4 := Tryz.isAgg4,
 z4 := Tryz.sizeOf4,
 v4 := Tryz.zeroValue4,
 t5 := Tryz.underlying5,
 a5 := Tryz.isAgg5,
 z5 := Tryz.sizeOf5,
 v5 := Tryz.zeroValue5,
 t9 := Tryz.underlying9,
 a9 := Tryz.isAgg9,
 z9 := Tryz.sizeOf9,
 v9 := Tryz.zeroValue9,
 t20 := Tryz.underlying20,
 a20 := Tryz.isAgg20,
 z20 := Tryz.sizeOf20,
 v20 := Tryz.zeroValue20,
 t21 := Tryz.underlying21,
 a21 := Tryz.isAgg21,
 z21 := Tryz.sizeOf21,
 v21 := Tryz.zeroValue21,
 t37 := Tryz.underlying37,
 a37 := Tryz.isAgg37,
 z37 := Tryz.sizeOf37,
 v37 := Tryz.zeroValue37,
 t46 := Tryz.underlying88,
 a46 := Tryz.isAgg88,
 z46 := Tryz.sizeOf88,
 v46 := Tryz.zeroValue88,
 t51 := Tryz.underlying185,
 a51 := Tryz.isAgg185,
 z51 := Tryz.sizeOf185,
 v51 := Tryz.zeroValue185,
 t53 := Tryz.underlying182,
 a53 := Tryz.isAgg182,
 z53 := Tryz.sizeOf182,
 v53 := Tryz.zeroValue182,
 t75 := Tryz.underlying71,
 a75 := Tryz.isAgg71,
 z75 := Tryz.sizeOf71,
 v75 := Tryz.zeroValue71,
 t76 := Tryz.underlying141,
 a76 := Tryz.isAgg141,
 z76 := Tryz.sizeOf141,
 v76 := Tryz.zeroValue141,
 t85 := Tryz.underlying196,
 a85 := Tryz.isAgg196,
 z85 := Tryz.sizeOf196,
 v85 := Tryz.zeroValue196,
 t127 := Tryz.underlying149,
 a127 := Tryz.isAgg149,
 z127 := Tryz.sizeOf149,
 v127 := Tryz.zeroValue149,
 t143 := Tryz.underlying145,
 a143 := Tryz.isAgg145,
 z143 := Tryz.sizeOf145,
 v143 := Tryz.zeroValue145,
 t145 := Tryz.underlying147,
 a145 := Tryz.isAgg147,
 z145 := Tryz.sizeOf147,
 v145 := Tryz.zeroValue147,
 t167 := Tryz.underlying191,
 a167 := Tryz.isAgg191,
 z167 := Tryz.sizeOf191,
 v167 := Tryz.zeroValue191,
 t168 := Tryz.underlying193,
 a168 := Tryz.isAgg193,
 z168 := Tryz.sizeOf193,
 v168 := Tryz.zeroValue193,
 t171 := Tryz.underlying201,
 a171 := Tryz.isAgg201,
 z171 := Tryz.sizeOf201,
 v171 := Tryz.zeroValue201,
 t173 := Tryz.underlying204,
 a173 := Tryz.isAgg204,
 z173 := Tryz.sizeOf204,
 v173 := Tryz.zeroValue204,
 t175 := Tryz.underlying183,
 a175 := Tryz.isAgg183,
 z175 := Tryz.sizeOf183,
 v175 := Tryz.zeroValue183,
 t210 := Tryz.underlying199,
 a210 := Tryz.isAgg199,
 z210 := Tryz.sizeOf199,
 v210 := Tryz.zeroValue199,
 t212 := Tryz.underlying207,
 a212 := Tryz.isAgg207,
 z212 := Tryz.sizeOf207,
 v212 := Tryz.zeroValue207,
 t213 := Tryz.underlying208,
 a213 := Tryz.isAgg208,
 z213 := Tryz.sizeOf208,
 t232 := Tryz.underlying211,
 a232 := Tryz.isAgg211,
 z232 := Tryz.sizeOf211,
 v232 := Tryz.zeroValue211,
 t233 := Tryz.underlying212,
 a233 := Tryz.isAgg212,
 z233 := Tryz.sizeOf212,
 v233 := Tryz.zeroValue212,
 g15 := by kernel_rfl,
 g16 := by kernel_rfl,
 g17 := by kernel_rfl,
 g18 := by kernel_rfl,
 g19 := by kernel_rfl,
 t80 := Tryz.underlying63,
 a80 := Tryz.isAgg63,
 z80 := Tryz.sizeOf63,
 v80 := Tryz.zeroValue63,
 i0 := by kernel_rfl,
 i2 := by kernel_rfl,
 i3 := by kernel_rfl,
 i4 := by kernel_rfl,
 i5 := by kernel_rfl,
 i9 := by kernel_rfl,
 i20 := by kernel_rfl,
 i21 := by kernel_rfl,
 i37 := by kernel_rfl,
 i46 := by kernel_rfl,
 i51 := by kernel_rfl,
 i53 := by kernel_rfl,
 i75 := by kernel_rfl,
 i76 := by kernel_rfl,
 i80 := by kernel_rfl,
 i85 := by kernel_rfl,
 i127 := by kernel_rfl,
 i143 := by kernel_rfl,
 i145 := by kernel_rfl,
 i167 := by kernel_rfl,
 i168 := by kernel_rfl,
 i171 := by kernel_rfl,
 i173 := by kernel_rfl,
 i175 := by kernel_rfl,
 i210 := by kernel_rfl,
 i212 := by kernel_rfl,
 i232 := by kernel_rfl,
 i233 := by kernel_rfl,
 m15 := by kernel_rfl,
 m16 := by kernel_rfl,
 m17 := by kernel_rfl,
 m18 := by kernel_rfl,
 m19 := by kernel_rfl,
 c0 := by kernel_rfl,
 c2 := by kernel_rfl,
 c3 := by kernel_rfl,
 c4 := by kernel_rfl,
 c5 := by kernel_rfl,
 c9 := by kernel_rfl,
 c20 := by kernel_rfl,
 c21 := by kernel_rfl,
 c37 := by kernel_rfl,
 c46 := by kernel_rfl,
 c51 := by kernel_rfl,
 c53 := by kernel_rfl,
 c75 := by kernel_rfl,
 c76 := by kernel_rfl,
 c80 := by kernel_rfl,
 c85 := by kernel_rfl,
 c127 := by kernel_rfl,
 c143 := by kernel_rfl,
 c145 := by kernel_rfl,
 c167 := by kernel_rfl,
 c168 := by kernel_rfl,
 c171 := by kernel_rfl,
 c173 := by kernel_rfl,
 c175 := by kernel_rfl,
 c210 := by kernel_rfl,
 c212 := by kernel_rfl,
 c213 := by kernel_rfl,
 c232 := by kernel_rfl,
 c233 := by kernel_rfl }
def lays105_ren : Go.Shelf.Ren := ⟨fun | 105 => 143 | 212 => 149 | 99 => 113 | 165 => 90 | 166 => 91 | 170 => 150 | 169 => 92 | 263 => 154 | 264 => 155 | 206 => 128 | 240 => 105 | 241 => 106 | 276 => 120 | 277 => 121 | n => n, fun | 9 => 9 | 3 => 3 | 4 => 4 | 20 => 20 | 0 => 0 | 46 => 88 | 109 => 179 | 5 => 5 | 72 => 139 | 76 => 141 | 51 => 185 | 146 => 186 | 53 => 182 | 148 => 188 | 70 => 137 | 37 => 37 | 75 => 71 | 127 => 149 | 164 => 161 | 80 => 63 | n => n, fun | n => n⟩
theorem lays105 : Go.Proofs.Lays.n105 Tryz.prog lays105_ren := {
 mixed := by kernel_rfl,
 f99 := Tryz.func113.trans (congrArg some (by kernel_rfl)),
 f105 := Tryz.func143.trans (congrArg some (by kernel_rfl)),
 f165 := Tryz.func90.trans (congrArg some (by kernel_rfl)),
 f166 := Tryz.func91.trans (congrArg some (by kernel_rfl)),
 f169 := Tryz.func92.trans (congrArg some (by kernel_rfl)),
 f170 := Tryz.func150.trans (congrArg some (by kernel_rfl)),
 f206 := Tryz.func128.trans (congrArg some (by kernel_rfl)),
 f212 := Tryz.func149.trans (congrArg some (by kernel_rfl)),
 f240 := Tryz.func105.trans (congrArg some (by kernel_rfl)),
 f241 := Tryz.func106.trans (congrArg some (by kernel_rfl)),
 f263 := Tryz.func154.trans (congrArg some (by kernel_rfl)),
 f264 := Tryz.func155.trans (congrArg some (by kernel_rfl)),
 f276 := Tryz.func120.trans (congrArg some (by kernel_rfl)),
 f277 := Tryz.func121.trans (congrArg some (by kernel_rfl)),
 t0 := Tryz.underlying0,
 a0 := Tryz.isAgg0,
 z0 := Tryz.sizeOf0,
 v0 := Tryz.zeroValue0,
 t3 := Tryz.underlying3,
 a3 := Tryz.isAgg3,
 z3 := Tryz.sizeOf3,
 v3 := Tryz.zeroValue3,
 t4 := Tryz.underlying4,
 a4 := Tryz.isAgg4,
 z4 := Tryz.sizeOf4,
 v4 := Tryz.zeroValue4,
 t5 := Tryz.underlying5,
 a5 := Tryz.isAgg5,
 z5 := Tryz.sizeOf5,
 v5 := Tryz.zeroValue5,
 t9 := Tryz.underlying9,
 a9 := Tryz.isAgg9,
 z9 := Tryz.sizeOf9,
 v9 := Tryz.zeroValue9,
 t20 := Tryz.underlying20,
 a20 := Tryz.isAgg20,
 z20 := Tryz.sizeOf20,
 v20 := Tryz.zeroValue20,
 t37 := Tryz.underlying37,
 a37 := Tryz.isAgg37,
 z37 := Tryz.sizeOf37,
 v37 := Tryz.zeroValue37,
 t46 := Tryz.underlying88,
 a46 := Tryz.isAgg88,
 z46 := Tryz.sizeOf88,
 v46 := Tryz.zeroValue88,
 t51 := Tryz.underlying185,
 a51 := Tryz.isAgg185,
 z51 := Tryz.sizeOf185,
 v51 := Tryz.zeroValue185,
 t53 := Tryz.underlying182,
 a53 := Tryz.isAgg182,
 z53 := Tryz.sizeOf182,
 v53 := Tryz.zeroValue182,
 t70 := Tryz.underlying137,
 a70 := Tryz.isAgg137,
 z70 := Tryz.sizeOf137,
 v70 := Tryz.zeroValue137,
 t72 := Tryz.underlying139,
 a72 := Tryz.isAgg139,
 z72 := Tryz.sizeOf139,
 v72 := Tryz.zeroValue139,
 t75 := Tryz.underlying71,
 a75 := Tryz.isAgg71,
 z75 := Tryz.sizeOf71,
 v75 := Tryz.zeroValue71,
 t76 := Tryz.underlying141,
 a76 := Tryz.isAgg141,
 z76 := Tryz.sizeOf141,
 v76 := Tryz.zeroValue141,
 t109 := Tryz.underlying179,
 a109 := Tryz.isAgg179,
 z109 := Tryz.sizeOf179,
 v109 := Tryz.zeroValue179,
 t127 := Tryz.underlying149,
 a127 := Tryz.isAgg149,
 z127 := Tryz.sizeOf149,
 v127 := Tryz.zeroValue149,
 t146 := Tryz.underlying186,
 a146 := Tryz.isAgg186,
 z146 := Tryz.sizeOf186,
 v146 := Tryz.zeroValue186,
 t148 := Tryz.underlying188,
 a148 := Tryz.isAgg188,
 z148 := Tryz.sizeOf188,
 v148 := Tryz.zeroValue188,
 t164 := Tryz.underlying161,
 a164 := Tryz.isAgg161,
 z164 := Tryz.sizeOf161,
 v164 := Tryz.zeroValue161 }
theorem extra105 : Builder.Extra Tryz.prog lays105_ren := {
 sizeBuilder := by kernel_rfl,
 liesBuilder := by kernel_rfl,
 t5 := lays105.t5,
 a5 := lays105.a5,
 z5 := lays105.z5,
 v5 := lays105.v5,
 infoByte := by kernel_rfl,
 cellsByte := by kernel_rfl,
 sizeByte := by kernel_rfl,
 neB5 := by decide }
theorem Sat.lib {f : FuncId} {P : Spec} (h : ∀ (w : World) (ω : Wit) (svs : List SV) (args : Array Value) (b : Option SB) (K : Out → Option SB → Prop),
 (∀ g, errG g = true → ∃ t v, w.cell? ⟨g, 0, none⟩ = some (.iface t v)) → args.size = svs.length → (∀ (i : Nat) (s : SV) (v : Value), svs[i]? = some s → args[i]? = some v → Rel ω s v) → P svs b K →
 b = none ∧ Calls Tryz.prog f args w fun e w' => ∃ v s, e = .returned v ∧ K (.val s) none ∧ s.lt 0 = true ∧ Rel ω s v ∧ Below w.heap.size w w') : Sat f P := by
 intro g0 w M ω svs args b K hS hn hr hP
 obtain ⟨rfl, hc⟩ := h w ω svs args b K (fun g hg => by
  obtain ⟨t, v, T, hG⟩ := g0.err g hg
  obtain ⟨fr, hh⟩ := hS.gam g _ _ (hS.gl _ _ hG)
  exact ⟨t, v, by rw [cell_at hh]; rfl⟩) hn hr hP
 refine hc.mono ?_
 rintro e w' ⟨v, s, he, hk, hl, hv, hb⟩
 refine ⟨v, .val s, none, he, hk, ω, loc none, ?_, (fun c e => by cases e), hl, hv⟩
 have := hS.grow (Wit.le.refl ω) hb.os hb.tape hb.output hb.size hb.block (fun b c T e => .inl e)
 rw [hS.wn] at this
 exact this
theorem rel_tup2 {ω : Wit} {a b : SV} {u v : Value} (h : Rel ω a u) (k : Rel ω b v) : Rel ω (.tup [a, b]) (.tuple #[u, v]) := by
 refine .tup _ _ rfl fun i s x h1 h2 => ?_
 match i with
 | 0 => simp at h1 h2; rw [← h1, ← h2]; exact h
 | 1 => simp at h1 h2; rw [← h1, ← h2]; exact k
 | i + 2 => simp at h1
theorem fold_up (l : Bs) : ∀ n : Nat, n ≤ l.foldl (fun n c => 10 * n + (c.toNat - 48)) n := by
 induction l with
 | nil => intro n; exact Nat.le_refl _
 | cons c l ih => intro n; have := ih (10 * n + (c.toNat - 48)); simp only [List.foldl_cons]; omega
theorem parse10 : ∀ (l : Bs) (acc : Nat), acc < 18446744073709551616 → (∀ c ∈ l, digB c.toNat = true) →
 Lib.parseUint10 acc l = if l.foldl (fun n c => 10 * n + (c.toNat - 48)) acc < 18446744073709551616 then .ok (l.foldl (fun n c => 10 * n + (c.toNat - 48)) acc) else .range
 | [], acc, h, hd => by rw [Lib.parseUint10, List.foldl_nil, if_pos h]
 | c :: r, acc, h, hd => by
  have hc := hd c (by simp)
  simp only [digB, Bool.and_eq_true, decide_eq_true_eq] at hc
  have hf := fold_up r (10 * acc + (c.toNat - 48))
  rw [Lib.parseUint10, if_pos hc, List.foldl_cons]
  split
  · rw [if_neg (by omega)]
  split
  · rw [if_neg (by omega)]
  rw [show acc * 10 + (c.toNat - 48) = 10 * acc + (c.toNat - 48) from by omega]
  exact parse10 r _ (by omega) fun x hx => hd x (by simp [hx])
theorem atoi_digits {l : Bs} (h0 : 0 < l.length) (hd : ∀ c ∈ l, digB c.toNat = true) : Lib.atoiAll l = if decVal l ≤ 9223372036854775807 then .ok (decVal l : Int) else .range := by
 match l, h0 with
 | c :: r, _ =>
  have hc := hd c (by simp)
  simp only [digB, Bool.and_eq_true, decide_eq_true_eq] at hc
  have hp := parse10 (c :: r) 0 (by omega) hd
  have e : (c :: r).foldl (fun n c => 10 * n + (c.toNat - 48)) 0 = decVal (c :: r) := rfl
  rw [e] at hp
  unfold Lib.atoiAll
  simp only
  rw [if_neg (by omega), Lib.parseMag, if_neg (by simp), hp]
  by_cases h1 : decVal (c :: r) < 18446744073709551616
  · rw [if_pos h1]
    simp only
    by_cases h2 : decVal (c :: r) ≤ 9223372036854775807
    · rw [if_neg (by omega), if_neg (by omega), if_pos h2, if_neg (by omega)]
    rw [if_pos (by omega), if_neg h2]
  rw [if_neg h1, if_neg (by omega)]
def c153 (svs : List SV) (b : Option SB) (K : Out → Option SB → Prop) : Prop := match svs, b with
 | [.str l], none => l.length ≤ 1000000 ∧ 0 < l.length ∧ (∀ c ∈ l, digB c.toNat = true) ∧
  cond (decide (decVal l ≤ 9223372036854775807)) (K (.val (.tup [.nat (decVal l), .nilif])) none) (∀ n : Int, K (.val (.tup [.int .i64 n, .ifx])) none)
 | _, _ => False
theorem has153 : Has 153 := Has.of (fn := Tryz.f153) (by kernel_rfl) (by kernel_rfl) (by kernel_rfl)
theorem sat153 : Sat 153 c153 := by
 refine Sat.lib fun w ω svs args b K hg hn hr hP => ?_
 unfold c153 at hP
 split at hP
 · rename_i l
   obtain ⟨h1, h2, h3, h4⟩ := hP
   refine ⟨rfl, ?_⟩
   obtain ⟨xs⟩ := args
   match xs, hn with
   | [x], _ =>
    have hx := (hr 0 _ x rfl rfl).str_inv
    subst hx
    have hs : (⟨l.toArray⟩ : ByteArray).data.toList = l := rfl
    have hz : (⟨l.toArray⟩ : ByteArray).size = l.length := rfl
    have ha := atoi_digits h2 h3
    by_cases hv : decVal l ≤ 9223372036854775807
    · rw [if_pos hv] at ha
      rw [decide_eq_true hv] at h4
      have hA := Any.strconv_Atoi_ok lays172 ⟨l.toArray⟩ (by rw [hz]; omega) _ (by rw [hs]; exact ha) w
      refine hA.mono ?_
      rintro e w' ⟨he, hw⟩
      refine ⟨_, _, he, h4, rfl, rel_tup2 (.nat _) .nilif, ?_⟩
      rcases hw with rfl | ⟨t, rfl⟩
      · exact Below.refl _ _
      exact Lib.bytesWorld_below w _ t
    rw [if_neg hv] at ha
    rw [decide_eq_false hv] at h4
    obtain ⟨t, v, hc⟩ := hg 5 rfl
    have hA := Any.strconv_Atoi_range lays172 ⟨l.toArray⟩ (by rw [hz]; omega) (by rw [hs]; exact ha) _ w hc (.inr ⟨t, v, rfl⟩)
    refine hA.mono ?_
    rintro e w' ⟨N, he, _, _, hb⟩
    exact ⟨_, _, he, h4 _, rfl, rel_tup2 (.int _ _) (.ifx _ _), hb⟩
 exact hP.elim
def c143 (svs : List SV) (b : Option SB) : QR := match svs, b with
 | [.str l, .nat c], none => some ([l.length * c ≤ 140737488355328 ∧ c ≤ 9223372036854775807], .str (Lib.repeatL l c))
 | _, _ => none
theorem has143 : Has 143 := Has.of (fn := Tryz.f143) (by kernel_rfl) (by kernel_rfl) (by kernel_rfl)
theorem sat143 : Sat 143 (pureS c143) := by
 refine Sat.lib fun w ω svs args b K hg hn hr hP => ?_
 obtain ⟨ps, v, e, hp, hk⟩ := pureS_inv hP
 unfold c143 at e
 split at e
 · rename_i l c
   cases e
   refine ⟨rfl, ?_⟩
   obtain ⟨xs⟩ := args
   match xs, hn with
   | [x, y], _ =>
    have hx := (hr 0 _ x rfl rfl).str_inv
    have hy := (hr 1 _ y rfl rfl).nat_inv
    subst hx
    subst hy
    have hz : (⟨l.toArray⟩ : ByteArray).size = l.length := rfl
    have hA := Any.strings_Repeat lays105 extra105 ⟨l.toArray⟩ c w hp.1.2 (by rw [hz]; exact hp.1.1)
    refine hA.mono ?_
    rintro e w' ⟨he, hb⟩
    exact ⟨_, _, he, hk, rfl, .str _, hb⟩
 cases e
end
section
open Go Go.RowKit
set_option maxRecDepth 20000
theorem low_id {l : Bs} {i : Nat} (h : low (l.take i) = l.take i) : low (l.take i) ++ l.drop i = l := by rw [h, List.take_append_drop]
theorem low_all (l : Bs) (i : Nat) (h : l.length ≤ i) : low (l.take i) ++ l.drop i = low l := by rw [List.take_of_length_le h, List.drop_eq_nil_iff.2 h, List.append_nil]
theorem byt32 (c : UInt8) : c + 97 - 65 = c + 32 := by
 apply UInt8.toNat_inj.1
 rw [UInt8.toNat_sub, UInt8.toNat_add, UInt8.toNat_add]
 have h1 : (97 : UInt8).toNat = 97 := rfl
 have h2 : (65 : UInt8).toNat = 65 := rfl
 have h3 : (32 : UInt8).toNat = 32 := rfl
 omega
def c133 (svs : List SV) (b : Option SB) (K : Out → Option SB → Prop) : Prop := match svs, b with
 | [.ptr 0 0], some (.blk 94 [.str s, .nat i, .nat d, .bool a]) => s.length ≤ 1000000 ∧ i ≤ s.length ∧ optK (iOpen s i) (fun j => i < j ∧ j ≤ s.length → K (.val (.bool true)) (some (.blk 94 [.str s, .nat j, .nat d, .bool a]))) (K (.val (.bool false)) (some (.blk 94 [.str s, .nat i, .nat d, .bool a])))
 | _, _ => False
noncomputable def W133 : Wk := ⟨[(99, .fn c99)], bodyOf Tryz.f133, true, false, [.tmp 2], [4], [], []⟩
theorem has133 : Has 133 := Has.of (fn := Tryz.f133) (by kernel_rfl) (by kernel_rfl) (by kernel_rfl)
theorem kxz2 {p q : Prop} (k : q) (h : p := by first | omega | (have := iWs_le s i h02; omega) | (simp; done) | (simp; omega) | (simp; have := iWs_le s i h02; omega)) : p ∧ q := ⟨h, k⟩
theorem kxz1 {c0 p0 p1 p2 q : Prop} (k : q) (h : c0 → p0 ∧ p1 ∧ p2 ∧ True := by intro g0; (try simp at g0); exact ⟨(by first | omega | (have := iWs_le s i h02; omega) | (simp; done) | (simp; omega) | (simp; have := iWs_le s i h02; omega)), (by first | omega | (have := iWs_le s i h02; omega) | (simp; done) | (simp; omega) | (simp; have := iWs_le s i h02; omega)), (by first | omega | (have := iWs_le s i h02; omega) | (simp; done) | (simp; omega) | (simp; have := iWs_le s i h02; omega)), trivial⟩) : (c0 → p0 ∧ p1 ∧ p2 ∧ True) ∧ q := ⟨h, k⟩
theorem kxz0 {c0 p0 q : Prop} (k : q) (h : c0 → p0 ∧ True := by intro g0; (try simp at g0); exact ⟨(by first | omega | (have := iWs_le s i h02; omega) | (simp; done) | (simp; omega) | (simp; have := iWs_le s i h02; omega)), trivial⟩) : (c0 → p0 ∧ True) ∧ q := ⟨h, k⟩
theorem sat133 : Sat 133 c133 := by
 have hD : CxOk W133.D := (CxOk.cons has99 sat99 CxOk.nil)
 refine W133.sat hD (fn := Tryz.f133) (by kernel_rfl) (by kernel_rfl) (by kernel_rfl) (Nat.le_of_ble_eq_true (by kernel_rfl)) fun svs b K hP => ?_
 unfold c133 at hP
 split at hP
 · rename_i s i d a
   obtain ⟨h01, h02, hk⟩ := hP
   refine W133.entry rfl (X := have a1 := decide (i < s.length); have a0 := a1 = true → ((a1 == true) = true) ∧ True; a0 ∧ a0 ∧ a0 ∧ a0 ∧ a0 ∧ a0 ∧ (a1 = true → ((a1 == true) = true) ∧ ((a1 == true) = true) ∧ (i < s.length) ∧ True) ∧ a0 ∧ (a1 = true → (a1 == true) = true) ∧ cond (a1 && (decide (bat s i = 40))) ((i + 1 ≤ 9223372036854775807) ∧ (s.length ≤ 1000000) ∧ (i + 1 ≤ s.length) ∧ K (.val (.bool true)) (some (.blk 94 [(.str s), (.nat (iWs s (i + 1))), (.nat d), (.bool a)]))) (K (.val (.bool false)) (some (.blk 94 [(.str s), (.nat i), (.nat d), (.bool a)])))) (by kernel_rfl) ?_
   refine kxz0 ?_
   refine kxz0 ?_
   refine kxz0 ?_
   refine kxz0 ?_
   refine kxz0 ?_
   refine kxz0 ?_
   refine kxz1 ?_
   refine kxz0 ?_
   refine kxz2 ?_
   refine cndI ?_ ?_ <;> intro h1 <;> simp -failIfUnchanged [-List.getD_eq_getElem?_getD] at h1
   · refine kxz2 ?_
     refine kxz2 (kxz2 ?_)
     have e : iOpen s i = some (iWs s (i + 1)) := by unfold iOpen; rw [if_pos h1]
     rw [e] at hk
     exact hk ⟨by have := iWs_ge s (i + 1); omega, iWs_le s (i + 1) (by omega)⟩
   have e : iOpen s i = none := by unfold iOpen; rw [if_neg (by intro q; exact h1 q.1 q.2)]
   rw [e] at hk
   exact hk
 exact hP.elim
def c134 (svs : List SV) (b : Option SB) (K : Out → Option SB → Prop) : Prop := match svs, b with
 | [.ptr 0 0], some (.blk 94 [.str s, .nat i, .nat d, .bool a]) => s.length ≤ 1000000 ∧ i ≤ s.length ∧ optK (iClose s i) (fun j => i < j ∧ j ≤ s.length → K (.val (.bool true)) (some (.blk 94 [.str s, .nat j, .nat d, .bool a]))) (K (.val (.bool false)) (some (.blk 94 [.str s, .nat i, .nat d, .bool a])))
 | _, _ => False
noncomputable def W134 : Wk := ⟨[(99, .fn c99)], bodyOf Tryz.f134, true, false, [.tmp 2], [4], [], []⟩
theorem has134 : Has 134 := Has.of (fn := Tryz.f134) (by kernel_rfl) (by kernel_rfl) (by kernel_rfl)
theorem sat134 : Sat 134 c134 := by
 have hD : CxOk W134.D := (CxOk.cons has99 sat99 CxOk.nil)
 refine W134.sat hD (fn := Tryz.f134) (by kernel_rfl) (by kernel_rfl) (by kernel_rfl) (Nat.le_of_ble_eq_true (by kernel_rfl)) fun svs b K hP => ?_
 unfold c134 at hP
 split at hP
 · rename_i s i d a
   obtain ⟨h01, h02, hk⟩ := hP
   refine W134.entry rfl (X := have a1 := decide (iWs s i < s.length); have a0 := a1 = true → ((a1 == true) = true) ∧ True; (s.length ≤ 1000000) ∧ (i ≤ s.length) ∧ a0 ∧ a0 ∧ a0 ∧ a0 ∧ a0 ∧ a0 ∧ (a1 = true → ((a1 == true) = true) ∧ ((a1 == true) = true) ∧ (iWs s i < s.length) ∧ True) ∧ a0 ∧ (a1 = true → (a1 == true) = true) ∧ cond (a1 && (decide (bat s (iWs s i) = 41))) ((iWs s i + 1 ≤ 9223372036854775807) ∧ K (.val (.bool true)) (some (.blk 94 [(.str s), (.nat (iWs s i + 1)), (.nat d), (.bool a)]))) (K (.val (.bool false)) (some (.blk 94 [(.str s), (.nat i), (.nat d), (.bool a)])))) (by kernel_rfl) ?_
   refine kxz2 (kxz2 ?_)
   refine kxz0 ?_
   refine kxz0 ?_
   refine kxz0 ?_
   refine kxz0 ?_
   refine kxz0 ?_
   refine kxz0 ?_
   refine kxz1 ?_
   refine kxz0 ?_
   refine kxz2 ?_
   refine cndI ?_ ?_ <;> intro h1 <;> simp -failIfUnchanged [-List.getD_eq_getElem?_getD] at h1
   · refine kxz2 ?_
     have e : iClose s i = some (iWs s i + 1) := by unfold iClose; rw [if_pos h1]
     rw [e] at hk
     exact hk ⟨by have := iWs_ge s i; omega, by omega⟩
   have e : iClose s i = none := by unfold iClose; rw [if_neg (by intro q; exact h1 q.1 q.2)]
   rw [e] at hk
   exact hk
 exact hP.elim
def c130 (svs : List SV) (b : Option SB) : QR := match svs, b with
 | [.str l], none => some ([l.length ≤ 1000000000], .str (low l))
 | _, _ => none
noncomputable def W130 : Wk := ⟨[], bodyOf Tryz.f130, false, false, [.tmp 2], [9], [(3, 25)], []⟩
theorem has130 : Has 130 := Has.of (fn := Tryz.f130) (by kernel_rfl) (by kernel_rfl) (by kernel_rfl)
theorem kxz3 {p q : Prop} (k : q) (h : p := by first | omega | (simp [low]; omega) | (simp; done) | (simp; omega)) : p ∧ q := ⟨h, k⟩
theorem sat130 : Sat 130 (pureS c130) := by
 have hD : CxOk W130.D := CxOk.nil
 refine W130.sat hD (fn := Tryz.f130) (by kernel_rfl) (by kernel_rfl) (by kernel_rfl) (Nat.le_of_ble_eq_true (by kernel_rfl)) fun svs b K hP => ?_
 obtain ⟨ps, v, e, hp, hk⟩ := pureS_inv hP
 unfold c130 at e
 split at e
 · rename_i l
   cases e
   obtain ⟨h01, _⟩ := hp
   have L3b : ∀ (mm : Nat) (i : Nat), l.length - i = mm → (i ≤ l.length ∧ 0 < l.length) → W130.L K 3 (mkS 41 [(0, (.str l)), (3, (.own 1)), (4, (.nat i))] [(1, .row (.bytes (low (l.take i) ++ l.drop i)) true)] 2) := by
    intro mm
    induction mm using Nat.strongRecOn with
    | _ mm ih =>
     intro i hm hI
     refine W130.atL hD (X := have a0 := low (l.take i) ++ l.drop i; cond (decide (i < l.length)) ((i < l.length) ∧ cond ((decide (65 ≤ bat l i)) && (decide (bat l i ≤ 90))) ((0 < a0.length) ∧ (i < l.length) ∧ (i < a0.length) ∧ (i < a0.length) ∧ (i + 1 ≤ 9223372036854775807) ∧ (W130).L K 3 (mkS 41 [(0, (.str l)), (3, (.own 1)), (4, (.nat (i + 1)))] [(1, .row (.bytes (a0.set i (l.getD i 0 + 32))) true)] 2)) ((i + 1 ≤ 9223372036854775807) ∧ (W130).L K 3 (mkS 41 [(0, (.str l)), (3, (.own 1)), (4, (.nat (i + 1)))] [(1, .row (.bytes a0) true)] 2))) ((0 < a0.length) ∧ K (.val (.str a0)) none)) (by kernel_rfl) ?_
     refine cndI ?_ ?_ <;> intro h1 <;> simp -failIfUnchanged [-List.getD_eq_getElem?_getD] at h1
     · refine kxz3 ?_
       refine cndI ?_ ?_ <;> intro h2 <;> simp -failIfUnchanged [-List.getD_eq_getElem?_getD] at h2
       · refine kxz3 ?_
         refine kxz3 ?_
         refine kxz3 ?_
         refine kxz3 ?_
         refine kxz3 ?_
         have e : (low (l.take i) ++ l.drop i).set i (l.getD i 0 + 32) = low (l.take (i + 1)) ++ l.drop (i + 1) := by
          rw [← low_set l i h1]; unfold lowB; rw [if_pos (show 65 ≤ (l.getD i 0).toNat ∧ (l.getD i 0).toNat ≤ 90 from h2)]
         rw [e]
         exact ih _ (by omega) (i + 1) rfl ⟨by omega, by omega⟩
       refine kxz3 ?_
       rw [low_same l i h1 (by unfold lowB; rw [if_neg (fun h => by have := h2 h.1; have h3 : bat l i ≤ 90 := h.2; omega)])]
       exact ih _ (by omega) (i + 1) rfl ⟨by omega, by omega⟩
     refine kxz3 ?_
     rw [low_all l i (by omega)]
     exact hk
   have L3 : ∀ (mm : Nat) (i : Nat), l.length - i = mm → (i ≤ l.length ∧ low (l.take i) = l.take i) → W130.L K 3 (mkS 41 [(0, (.str l)), (3, .nilsl), (4, (.nat i))] [] 1) := by
    intro mm
    induction mm using Nat.strongRecOn with
    | _ mm ih =>
     intro i hm hI
     obtain ⟨k1, k2⟩ := hI
     refine W130.atL hD (X := cond (decide (i < l.length)) ((i < l.length) ∧ cond ((decide (65 ≤ bat l i)) && (decide (bat l i ≤ 90))) ((l.length = l.length) ∧ (l.length ≤ 1099511627776) ∧ ((List.replicate l.length (0 : UInt8)).length = l.length) ∧ (i < l.length) ∧ (i < l.length) ∧ (i < l.length) ∧ (i + 1 ≤ 9223372036854775807) ∧ (W130).L K 3 (mkS 41 [(0, (.str l)), (3, (.own 1)), (4, (.nat (i + 1)))] [(1, .row (.bytes (l.set i (l.getD i 0 + 32))) true)] 2)) ((i + 1 ≤ 9223372036854775807) ∧ (W130).L K 3 (mkS 41 [(0, (.str l)), (3, .nilsl), (4, (.nat (i + 1)))] [] 1))) (K (.val (.str l)) none)) (by kernel_rfl) ?_
     refine cndI ?_ ?_ <;> intro h1 <;> simp -failIfUnchanged [-List.getD_eq_getElem?_getD] at h1
     · refine kxz3 ?_
       refine cndI ?_ ?_ <;> intro h2 <;> simp -failIfUnchanged [-List.getD_eq_getElem?_getD] at h2
       · refine kxz3 (kxz3 ?_)
         refine kxz3 ?_
         refine kxz3 ?_
         refine kxz3 ?_
         refine kxz3 ?_
         refine kxz3 ?_
         have e : l.set i (l.getD i 0 + 32) = low (l.take (i + 1)) ++ l.drop (i + 1) := by
          rw [← low_set l i h1, low_id k2]; unfold lowB; rw [if_pos (show 65 ≤ (l.getD i 0).toNat ∧ (l.getD i 0).toNat ≤ 90 from h2)]
         rw [e]
         exact L3b _ (i + 1) rfl ⟨by omega, by omega⟩
       refine kxz3 ?_
       have e := low_same l i h1 (by unfold lowB; rw [if_neg (fun h => by have := h2 h.1; have h3 : bat l i ≤ 90 := h.2; omega)])
       rw [low_id k2] at e
       exact ih _ (by omega) (i + 1) rfl ⟨by omega, List.append_cancel_right (bs := l.drop (i + 1)) (by rw [List.take_append_drop]; exact e.symm)⟩
     have e := low_all l i (by omega)
     rw [low_id k2] at e
     rw [← e] at hk
     exact hk
   refine W130.entry rfl (X := (W130).L K 3 (mkS 41 [(0, (.str l)), (3, .nilsl), (4, (.nat 0))] [] 1)) (by kernel_rfl) ?_
   exact L3 _ 0 rfl ⟨by omega, by simp [low]⟩
 cases e
def c135 (svs : List SV) (b : Option SB) : QR := match svs, b with
 | [.str l], none => some ([l.length ≤ 1000000000], .str (low l))
 | _, _ => none
noncomputable def W135 : Wk := ⟨[], bodyOf Tryz.f135, false, false, [.tmp 2], [9], [(3, 1800)], []⟩
theorem has135 : Has 135 := Has.of (fn := Tryz.f135) (by kernel_rfl) (by kernel_rfl) (by kernel_rfl)
theorem sat135 : Sat 135 (pureS c135) := by
 have hD : CxOk W135.D := CxOk.nil
 refine W135.sat hD (fn := Tryz.f135) (by kernel_rfl) (by kernel_rfl) (by kernel_rfl) (Nat.le_of_ble_eq_true (by kernel_rfl)) fun svs b K hP => ?_
 obtain ⟨ps, v, e, hp, hk⟩ := pureS_inv hP
 unfold c135 at e
 split at e
 · rename_i l
   cases e
   obtain ⟨h01, _⟩ := hp
   have L3 : ∀ (mm : Nat) (i : Nat), l.length - i = mm → (i ≤ l.length) → W135.L K 3 (mkS 30 [(3, (.own 1)), (8, (.own 1)), (9, (.nat l.length)), (10, (.nat i))] [(1, .row (.bytes (low (l.take i) ++ l.drop i)) false)] 2) := by
    intro mm
    induction mm using Nat.strongRecOn with
    | _ mm ih =>
     intro i hm hI
     refine W135.atL hD (X := have a0 := low (l.take i) ++ l.drop i; cond (decide (i < l.length)) ((i < a0.length) ∧ (i < a0.length) ∧ cond ((decide (65 ≤ bat a0 i)) && (decide (bat a0 i ≤ 90))) ((i < a0.length) ∧ (i < a0.length) ∧ (i + 1 ≤ 9223372036854775807) ∧ (W135).L K 3 (mkS 30 [(3, (.own 1)), (8, (.own 1)), (9, (.nat l.length)), (10, (.nat (i + 1)))] [(1, .row (.bytes (a0.set i (a0.getD i 0 + 97 - 65))) false)] 2)) ((i + 1 ≤ 9223372036854775807) ∧ (W135).L K 3 (mkS 30 [(3, (.own 1)), (8, (.own 1)), (9, (.nat l.length)), (10, (.nat (i + 1)))] [(1, .row (.bytes a0) false)] 2))) (K (.val (.str a0)) none)) (by kernel_rfl) ?_
     refine cndI ?_ ?_ <;> intro h1 <;> simp -failIfUnchanged [-List.getD_eq_getElem?_getD] at h1
     · refine kxz3 ?_
       refine kxz3 ?_
       refine cndI ?_ ?_ <;> intro h2 <;> simp -failIfUnchanged [-List.getD_eq_getElem?_getD] at h2
       · refine kxz3 ?_
         refine kxz3 ?_
         refine kxz3 ?_
         rw [bat_low l i h1] at h2
         have e : (low (l.take i) ++ l.drop i).set i ((low (l.take i) ++ l.drop i).getD i 0 + 97 - 65) = low (l.take (i + 1)) ++ l.drop (i + 1) := by
          rw [← low_set l i h1, low_at l i h1, byt32]; unfold lowB; rw [if_pos (show 65 ≤ (l.getD i 0).toNat ∧ (l.getD i 0).toNat ≤ 90 from h2)]
         rw [e]
         exact ih _ (by omega) (i + 1) rfl (by omega)
       refine kxz3 ?_
       rw [bat_low l i h1] at h2
       rw [low_same l i h1 (by unfold lowB; rw [if_neg (fun h => by have := h2 h.1; have h3 : bat l i ≤ 90 := h.2; omega)])]
       exact ih _ (by omega) (i + 1) rfl (by omega)
     rw [low_all l i (by omega)]
     exact hk
   refine W135.entry rfl (X := (l.length ≤ 1099511627776) ∧ (W135).L K 3 (mkS 30 [(3, (.own 1)), (8, (.own 1)), (9, (.nat l.length)), (10, (.nat 0))] [(1, .row (.bytes l) false)] 2)) (by kernel_rfl) ?_
   refine kxz3 ?_
   exact L3 _ 0 rfl (by omega)
 cases e
end
end Go.Proofs.YtengepcafdnalaaGreatDoor
