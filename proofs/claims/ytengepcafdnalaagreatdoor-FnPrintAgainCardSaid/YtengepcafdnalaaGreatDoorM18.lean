/-
  Parts of the proof that the law FnPrintAgain holds for every input (texts Ks, Kx, Ky, Kz, La). Conditions: none.
-/
import Derived.Test.YtengepcafdnalaaGreatDoorM17
import Derived.Shelf.Strconv.AtoiAll
import Derived.Shelf.Strings.Repeat
import Derived.Lib.AtoiErrMem
namespace Go.Proofs.YtengepcafdnalaaGreatDoor
open _root_.Bool renaming and_eq_true → zh, or_eq_true → zw, false_ne_true → zE, not_eq_true' → zU
open _root_.List renaming foldl_cons → zR, take_of_length_le → zN, append_nil → zC, getD_eq_getElem?_getD → za, replicate → zG, take_add_one → zL, getElem?_eq_getElem → zi, length_drop → zj, length_take → zk, length_append → zd, length_replicate → zZ, nil_append → zI, append_assoc → zo
open _root_.Nat renaming le_refl → zq, strongRecOn → zl, lt_of_lt_of_le → zS, pow_le_pow_right → xu
open _root_.Option renaming toList_some → z7
open Go.Proofs.Tryz renaming prog → zg
open _root_.UInt8 renaming toNat_add → xb, ofNat → zx, toNat_lt → z8, toNat_or → zb
section
open Go Go.RowKit Go.Shelf
def lays172_ren : Go.Shelf.Ren := ⟨fun | 172 => 153 | 244 => 158 | 245 => 157 | 247 => 165 | 279 => 161 | 280 => 162 | 281 => 163 | 282 => 164 | 287 => 156 | 316 => 166 | 171 => 167 | 205 => 71 | 321 => 159 | 322 => 160 | 243 => 168 | 246 => 169 | 283 => 170 | 284 => 171 | 285 => 172 | 286 => 173 | 129 => 175 | 317 => 174 | 318 => 176 | 319 => 177 | 320 => 178 | 337 => 179 | 338 => 180 | n => n, fun | 9 => 9 | 3 => 3 | 75 => 71 | 76 => 141 | 4 => 4 | 5 => 5 | 167 => 191 | 37 => 37 | 0 => 0 | 85 => 196 | 2 => 2 | 168 => 193 | 53 => 182 | 175 => 183 | 46 => 88 | 210 => 199 | 127 => 149 | 145 => 147 | 143 => 145 | 21 => 21 | 171 => 201 | 173 => 204 | 212 => 207 | 51 => 185 | 20 => 20 | 213 => 208 | 232 => 211 | 233 => 212 | 80 => 63 | n => n, fun | 15 => 4 | 16 => 5 | 17 => 6 | 18 => 7 | 19 => 8 | n => n⟩
theorem QfW : Go.Proofs.LaysC.n172 zg lays172_ren := {
 mixed := by kernel_rfl,
 f129 := Tryz.func175.trans (congrArg some (by kernel_rfl)),
 f171 := Tryz.func167.trans (congrArg some (by kernel_rfl)),
 f172 := Tryz.func153.trans (congrArg some (by kernel_rfl)),
 f205 := Tryz.func71.trans (congrArg some (by kernel_rfl)),
 f243 := Tryz.func168.trans (congrArg some (by kernel_rfl)),
 f244 := Tryz.func158.trans (congrArg some (by kernel_rfl)),
 f245 := Tryz.func157.trans (congrArg some (by kernel_rfl)),
 f246 := Tryz.func169.trans (congrArg some (by kernel_rfl)),
 f247 := Tryz.func165.trans (congrArg some (by kernel_rfl)),
 f279 := Tryz.func161.trans (congrArg some (by kernel_rfl)),
 f280 := Tryz.func162.trans (congrArg some (by kernel_rfl)),
 f281 := Tryz.func163.trans (congrArg some (by kernel_rfl)),
 f282 := Tryz.func164.trans (congrArg some (by kernel_rfl)),
 f283 := Tryz.func170.trans (congrArg some (by kernel_rfl)),
 f284 := Tryz.func171.trans (congrArg some (by kernel_rfl)),
 f285 := Tryz.func172.trans (congrArg some (by kernel_rfl)),
 f286 := Tryz.func173.trans (congrArg some (by kernel_rfl)),
 f287 := Tryz.func156.trans (congrArg some (by kernel_rfl)),
 f316 := Tryz.func166.trans (congrArg some (by kernel_rfl)),
 f317 := Tryz.func174.trans (congrArg some (by kernel_rfl)),
 f318 := Tryz.func176.trans (congrArg some (by kernel_rfl)),
 f319 := Tryz.func177.trans (congrArg some (by kernel_rfl)),
 f320 := Tryz.func178.trans (congrArg some (by kernel_rfl)),
 f321 := Tryz.func159.trans (congrArg some (by kernel_rfl)),
 f322 := Tryz.func160.trans (congrArg some (by kernel_rfl)),
 f337 := Tryz.func179.trans (congrArg some (by kernel_rfl)),
 f338 := Tryz.func180.trans (congrArg some (by kernel_rfl)),
 t0 := Tryz.underlying0,
 a0 := Tryz.isAgg0,
 z0 := Tryz.sizeOf0,
 v0 := Tryz.zeroValue0,
 t2 := Tryz.underlying2,
 a2 := Tryz.isAgg2,
 z2 := Tryz.sizeOf2,
 v2 := Tryz.zeroValue2,
 t3 := Tryz.underlying3,
 a3 := Tryz.isAgg3,
 z3 := Tryz.sizeOf3,
 v3 := Tryz.zeroValue3,
 t4 := Tryz.underlying4,
 a4 := Tryz.isAgg4,
 z4 := Tryz.sizeOf4,
 v4 := Tryz.zeroValue4,
 t5 := Tryz.underlying5,
 a5 := Tryz.isAgg5,
 z5 := Tryz.sizeOf5,
 v5 := Tryz.zeroValue5,
 t9 := Tryz.underlying9,
 a9 := Tryz.isAgg9,
 z9 := Tryz.sizeOf9,
 v9 := Tryz.zeroValue9,
 t20 := Tryz.underlying20,
 a20 := Tryz.isAgg20,
 z20 := Tryz.sizeOf20,
 v20 := Tryz.zeroValue20,
 t21 := Tryz.underlying21,
 a21 := Tryz.isAgg21,
 z21 := Tryz.sizeOf21,
 v21 := Tryz.zeroValue21,
 t37 := Tryz.underlying37,
 a37 := Tryz.isAgg37,
 z37 := Tryz.sizeOf37,
 v37 := Tryz.zeroValue37,
 t46 := Tryz.underlying88,
 a46 := Tryz.isAgg88,
 z46 := Tryz.sizeOf88,
 v46 := Tryz.zeroValue88,
 t51 := Tryz.underlying185,
 a51 := Tryz.isAgg185,
 z51 := Tryz.sizeOf185,
 v51 := Tryz.zeroValue185,
 t53 := Tryz.underlying182,
 a53 := Tryz.isAgg182,
 z53 := Tryz.sizeOf182,
 v53 := Tryz.zeroValue182,
 t75 := Tryz.underlying71,
 a75 := Tryz.isAgg71,
 z75 := Tryz.sizeOf71,
 v75 := Tryz.zeroValue71,
 t76 := Tryz.underlying141,
 a76 := Tryz.isAgg141,
 z76 := Tryz.sizeOf141,
 v76 := Tryz.zeroValue141,
 t85 := Tryz.underlying196,
 a85 := Tryz.isAgg196,
 z85 := Tryz.sizeOf196,
 v85 := Tryz.zeroValue196,
 t127 := Tryz.underlying149,
 a127 := Tryz.isAgg149,
 z127 := Tryz.sizeOf149,
 v127 := Tryz.zeroValue149,
 t143 := Tryz.underlying145,
 a143 := Tryz.isAgg145,
 z143 := Tryz.sizeOf145,
 v143 := Tryz.zeroValue145,
 t145 := Tryz.underlying147,
 a145 := Tryz.isAgg147,
 z145 := Tryz.sizeOf147,
 v145 := Tryz.zeroValue147,
 t167 := Tryz.underlying191,
 a167 := Tryz.isAgg191,
 z167 := Tryz.sizeOf191,
 v167 := Tryz.zeroValue191,
 t168 := Tryz.underlying193,
 a168 := Tryz.isAgg193,
 z168 := Tryz.sizeOf193,
 v168 := Tryz.zeroValue193,
 t171 := Tryz.underlying201,
 a171 := Tryz.isAgg201,
 z171 := Tryz.sizeOf201,
 v171 := Tryz.zeroValue201,
 t173 := Tryz.underlying204,
 a173 := Tryz.isAgg204,
 z173 := Tryz.sizeOf204,
 v173 := Tryz.zeroValue204,
 t175 := Tryz.underlying183,
 a175 := Tryz.isAgg183,
 z175 := Tryz.sizeOf183,
 v175 := Tryz.zeroValue183,
 t210 := Tryz.underlying199,
 a210 := Tryz.isAgg199,
 z210 := Tryz.sizeOf199,
 v210 := Tryz.zeroValue199,
 t212 := Tryz.underlying207,
 a212 := Tryz.isAgg207,
 z212 := Tryz.sizeOf207,
 v212 := Tryz.zeroValue207,
 t213 := Tryz.underlying208,
 a213 := Tryz.isAgg208,
 z213 := Tryz.sizeOf208,
 t232 := Tryz.underlying211,
 a232 := Tryz.isAgg211,
 z232 := Tryz.sizeOf211,
 v232 := Tryz.zeroValue211,
 t233 := Tryz.underlying212,
 a233 := Tryz.isAgg212,
 z233 := Tryz.sizeOf212,
 v233 := Tryz.zeroValue212,
 g15 := by kernel_rfl,
 g16 := by kernel_rfl,
 g17 := by kernel_rfl,
 g18 := by kernel_rfl,
 g19 := by kernel_rfl,
 t80 := Tryz.underlying63,
 a80 := Tryz.isAgg63,
 z80 := Tryz.sizeOf63,
 v80 := Tryz.zeroValue63,
 i0 := by kernel_rfl,
 i2 := by kernel_rfl,
 i3 := by kernel_rfl,
 i4 := by kernel_rfl,
 i5 := by kernel_rfl,
 i9 := by kernel_rfl,
 i20 := by kernel_rfl,
 i21 := by kernel_rfl,
 i37 := by kernel_rfl,
 i46 := by kernel_rfl,
 i51 := by kernel_rfl,
 i53 := by kernel_rfl,
 i75 := by kernel_rfl,
 i76 := by kernel_rfl,
 i80 := by kernel_rfl,
 i85 := by kernel_rfl,
 i127 := by kernel_rfl,
 i143 := by kernel_rfl,
 i145 := by kernel_rfl,
 i167 := by kernel_rfl,
 i168 := by kernel_rfl,
 i171 := by kernel_rfl,
 i173 := by kernel_rfl,
 i175 := by kernel_rfl,
 i210 := by kernel_rfl,
 i212 := by kernel_rfl,
 i232 := by kernel_rfl,
 i233 := by kernel_rfl,
 m15 := by kernel_rfl,
 m16 := by kernel_rfl,
 m17 := by kernel_rfl,
 m18 := by kernel_rfl,
 m19 := by kernel_rfl,
 c0 := by kernel_rfl,
 c2 := by kernel_rfl,
 c3 := by kernel_rfl,
 c4 := by kernel_rfl,
 c5 := by kernel_rfl,
 c9 := by kernel_rfl,
 c20 := by kernel_rfl,
 c21 := by kernel_rfl,
 c37 := by kernel_rfl,
 c46 := by kernel_rfl,
 c51 := by kernel_rfl,
 c53 := by kernel_rfl,
 c75 := by kernel_rfl,
 c76 := by kernel_rfl,
 c80 := by kernel_rfl,
 c85 := by kernel_rfl,
 c127 := by kernel_rfl,
 c143 := by kernel_rfl,
 c145 := by kernel_rfl,
 c167 := by kernel_rfl,
 c168 := by kernel_rfl,
 c171 := by kernel_rfl,
 c173 := by kernel_rfl,
 c175 := by kernel_rfl,
 c210 := by kernel_rfl,
 c212 := by kernel_rfl,
 c213 := by kernel_rfl,
 c232 := by kernel_rfl,
 c233 := by kernel_rfl }
def lays105_ren : Go.Shelf.Ren := ⟨fun | 105 => 143 | 212 => 149 | 99 => 113 | 165 => 90 | 166 => 91 | 170 => 150 | 169 => 92 | 263 => 154 | 264 => 155 | 206 => 128 | 240 => 105 | 241 => 106 | 276 => 120 | 277 => 121 | n => n, fun | 9 => 9 | 3 => 3 | 4 => 4 | 20 => 20 | 0 => 0 | 46 => 88 | 109 => 179 | 5 => 5 | 72 => 139 | 76 => 141 | 51 => 185 | 146 => 186 | 53 => 182 | 148 => 188 | 70 => 137 | 37 => 37 | 75 => 71 | 127 => 149 | 164 => 161 | 80 => 63 | n => n, fun | n => n⟩
theorem Z2 : Go.Proofs.Lays.n105 zg lays105_ren := {
 mixed := by kernel_rfl,
 f99 := Tryz.func113.trans (congrArg some (by kernel_rfl)),
 f105 := Tryz.func143.trans (congrArg some (by kernel_rfl)),
 f165 := Tryz.func90.trans (congrArg some (by kernel_rfl)),
 f166 := Tryz.func91.trans (congrArg some (by kernel_rfl)),
 f169 := Tryz.func92.trans (congrArg some (by kernel_rfl)),
 f170 := Tryz.func150.trans (congrArg some (by kernel_rfl)),
 f206 := Tryz.func128.trans (congrArg some (by kernel_rfl)),
 f212 := Tryz.func149.trans (congrArg some (by kernel_rfl)),
 f240 := Tryz.func105.trans (congrArg some (by kernel_rfl)),
 f241 := Tryz.func106.trans (congrArg some (by kernel_rfl)),
 f263 := Tryz.func154.trans (congrArg some (by kernel_rfl)),
 f264 := Tryz.func155.trans (congrArg some (by kernel_rfl)),
 f276 := Tryz.func120.trans (congrArg some (by kernel_rfl)),
 f277 := Tryz.func121.trans (congrArg some (by kernel_rfl)),
 t0 := Tryz.underlying0,
 a0 := Tryz.isAgg0,
 z0 := Tryz.sizeOf0,
 v0 := Tryz.zeroValue0,
 t3 := Tryz.underlying3,
 a3 := Tryz.isAgg3,
 z3 := Tryz.sizeOf3,
 v3 := Tryz.zeroValue3,
 t4 := Tryz.underlying4,
 a4 := Tryz.isAgg4,
 z4 := Tryz.sizeOf4,
 v4 := Tryz.zeroValue4,
 t5 := Tryz.underlying5,
 a5 := Tryz.isAgg5,
 z5 := Tryz.sizeOf5,
 v5 := Tryz.zeroValue5,
 t9 := Tryz.underlying9,
 a9 := Tryz.isAgg9,
 z9 := Tryz.sizeOf9,
 v9 := Tryz.zeroValue9,
 t20 := Tryz.underlying20,
 a20 := Tryz.isAgg20,
 z20 := Tryz.sizeOf20,
 v20 := Tryz.zeroValue20,
 t37 := Tryz.underlying37,
 a37 := Tryz.isAgg37,
 z37 := Tryz.sizeOf37,
 v37 := Tryz.zeroValue37,
 t46 := Tryz.underlying88,
 a46 := Tryz.isAgg88,
 z46 := Tryz.sizeOf88,
 v46 := Tryz.zeroValue88,
 t51 := Tryz.underlying185,
 a51 := Tryz.isAgg185,
 z51 := Tryz.sizeOf185,
 v51 := Tryz.zeroValue185,
 t53 := Tryz.underlying182,
 a53 := Tryz.isAgg182,
 z53 := Tryz.sizeOf182,
 v53 := Tryz.zeroValue182,
 t70 := Tryz.underlying137,
 a70 := Tryz.isAgg137,
 z70 := Tryz.sizeOf137,
 v70 := Tryz.zeroValue137,
 t72 := Tryz.underlying139,
 a72 := Tryz.isAgg139,
 z72 := Tryz.sizeOf139,
 v72 := Tryz.zeroValue139,
 t75 := Tryz.underlying71,
 a75 := Tryz.isAgg71,
 z75 := Tryz.sizeOf71,
 v75 := Tryz.zeroValue71,
 t76 := Tryz.underlying141,
 a76 := Tryz.isAgg141,
 z76 := Tryz.sizeOf141,
 v76 := Tryz.zeroValue141,
 t109 := Tryz.underlying179,
 a109 := Tryz.isAgg179,
 z109 := Tryz.sizeOf179,
 v109 := Tryz.zeroValue179,
 t127 := Tryz.underlying149,
 a127 := Tryz.isAgg149,
 z127 := Tryz.sizeOf149,
 v127 := Tryz.zeroValue149,
 t146 := Tryz.underlying186,
 a146 := Tryz.isAgg186,
 z146 := Tryz.sizeOf186,
 v146 := Tryz.zeroValue186,
 t148 := Tryz.underlying188,
 a148 := Tryz.isAgg188,
 z148 := Tryz.sizeOf188,
 v148 := Tryz.zeroValue188,
 t164 := Tryz.underlying161,
 a164 := Tryz.isAgg161,
 z164 := Tryz.sizeOf161,
 v164 := Tryz.zeroValue161 }
theorem Qn5 : Builder.Extra zg lays105_ren := {
 sizeBuilder := by kernel_rfl,
 liesBuilder := by kernel_rfl,
 t5 := Z2.t5,
 a5 := Z2.a5,
 z5 := Z2.z5,
 v5 := Z2.v5,
 infoByte := by kernel_rfl,
 cellsByte := by kernel_rfl,
 sizeByte := by kernel_rfl,
 neB5 := by decide }
theorem Sat.lib {f : FuncId} {P : Spec} (h : ∀ (w : World) (ω : Wit) (svs : List SV) (args : Array Value) (b : Option SB) (K : Out -> Option SB -> Prop),
 (∀ g, QhV g = true -> ∃ t v, w.cell? ⟨g, 0, none⟩ = some (.iface t v)) -> args.size = svs.length -> (∀ (i : Nat) (s : SV) (v : Value), svs[i]? = some s -> args[i]? = some v -> Rel ω s v) -> P svs b K ->
 b = none /\ Calls zg f args w fun e w' => ∃ v s, e = .returned v /\ K (.val s) none /\ s.lt 0 = true /\ Rel ω s v /\ Below w.heap.size w w') : Sat f P := by
 intro g0 w M ω svs args b K hS hn hr hP
 obtain ⟨rfl, hc⟩ := h w ω svs args b K (fun g hg => by
  obtain ⟨t, v, T, hG⟩ := g0.err g hg
  obtain ⟨fr, hh⟩ := hS.gam g _ _ (hS.gl _ _ hG)
  exact ⟨t, v, by rw [ZD hh]; rfl⟩) hn hr hP
 refine hc.mono ?_
 rintro e w' ⟨v, s, he, hk, hl, hv, hb⟩
 refine ⟨v, .val s, none, he, hk, ω, loc none, ?_, (fun c e => by cases e), hl, hv⟩
 have := hS.grow (Wit.le.refl ω) hb.os hb.tape hb.output hb.size hb.block (fun b c T e => .inl e)
 rw [hS.wn] at this
 exact this
theorem Qg0 {ω : Wit} {a b : SV} {u v : Value} (h : Rel ω a u) (k : Rel ω b v) : Rel ω (.tup [a, b]) (.tuple #[u, v]) := by
 refine .tup _ _ rfl fun i s x h1 h2 => ?_
 match i with
 | 0 => simp at h1 h2; rw [<- h1, <- h2]; exact h
 | 1 => simp at h1 h2; rw [<- h1, <- h2]; exact k
 | i + 2 => simp at h1
theorem Qp0 (l : Bs) : ∀ n : Nat, n <= l.foldl (fun n c => 10 * n + (c.toNat - 48)) n := by
 induction l with
 | nil => intro n; exact zq _
 | cons c l ih => intro n; have := ih (10 * n + (c.toNat - 48)); simp only [zR]; omega
theorem QjY : ∀ (l : Bs) (acc : Nat), acc < 18446744073709551616 -> (∀ c ∈ l, Qw c.toNat = true) ->
 Lib.parseUint10 acc l = if l.foldl (fun n c => 10 * n + (c.toNat - 48)) acc < 18446744073709551616 then .ok (l.foldl (fun n c => 10 * n + (c.toNat - 48)) acc) else .range
 | [], acc, h, hd => by rw [Lib.parseUint10, List.foldl_nil, if_pos h]
 | c :: r, acc, h, hd => by
  have hc := hd c (by simp)
  simp only [Qw, zh, decide_eq_true_eq] at hc
  have hf := Qp0 r (10 * acc + (c.toNat - 48))
  rw [Lib.parseUint10, if_pos hc, zR]
  split
  rw [if_neg (by omega)]
  split
  rw [if_neg (by omega)]
  rw [show acc * 10 + (c.toNat - 48) = 10 * acc + (c.toNat - 48) from by omega]
  exact QjY r _ (by omega) fun x hx => hd x (by simp [hx])
theorem Qib {l : Bs} (h0 : 0 < l.length) (hd : ∀ c ∈ l, Qw c.toNat = true) : Lib.atoiAll l = if Yx l <= 9223372036854775807 then .ok (Yx l : Int) else .range := by
 match l, h0 with
 | c :: r, _ =>
  have hc := hd c (by simp)
  simp only [Qw, zh, decide_eq_true_eq] at hc
  have hp := QjY (c :: r) 0 (by omega) hd
  have e : (c :: r).foldl (fun n c => 10 * n + (c.toNat - 48)) 0 = Yx (c :: r) := rfl
  rw [e] at hp
  unfold Lib.atoiAll
  simp only
  rw [if_neg (by omega), Lib.parseMag, if_neg (by simp), hp]
  by_cases h1 : Yx (c :: r) < 18446744073709551616
  rw [if_pos h1]
  simp only
  by_cases h2 : Yx (c :: r) <= 9223372036854775807
  rw [if_neg (by omega), if_neg (by omega), if_pos h2, if_neg (by omega)]
  rw [if_pos (by omega), if_neg h2]
  rw [if_neg h1, if_neg (by omega)]
def c153 (svs : List SV) (b : Option SB) (K : Out -> Option SB -> Prop) : Prop := match svs, b with
 | [.str l], none => l.length <= 1000000 /\ 0 < l.length /\ (∀ c ∈ l, Qw c.toNat = true) /\
  cond (decide (Yx l <= 9223372036854775807)) (K (.val (.tup [.nat (Yx l), .nilif])) none) (∀ n : Int, K (.val (.tup [.int .i64 n, .ifx])) none)
 | _, _ => False
theorem Qtr : Has 153 := hsf Tryz.f153
theorem Qr0 : Sat 153 c153 := by
 refine Sat.lib fun w ω svs args b K hg hn hr hP => ?_
 unfold c153 at hP
 split at hP
 rename_i l
 obtain ⟨h1, h2, h3, h4⟩ := hP
 refine ⟨rfl, ?_⟩
 obtain ⟨xs⟩ := args
 match xs, hn with
 | [x], _ =>
  have hx := (hr 0 _ x rfl rfl).str_inv
  subst hx
  have hs : (⟨l.toArray⟩ : ByteArray).data.toList = l := rfl
  have hz : (⟨l.toArray⟩ : ByteArray).size = l.length := rfl
  have ha := Qib h2 h3
  by_cases hv : Yx l <= 9223372036854775807
  rw [if_pos hv] at ha
  rw [decide_eq_true hv] at h4
  have hA := Any.strconv_Atoi_ok QfW ⟨l.toArray⟩ (by rw [hz]; omega) _ (by rw [hs]; exact ha) w
  refine hA.mono ?_
  rintro e w' ⟨he, hw⟩
  refine ⟨_, _, he, h4, rfl, Qg0 (.nat _) .nilif, ?_⟩
  rcases hw with rfl | ⟨t, rfl⟩
  exact Below.refl _ _
  exact Lib.bytesWorld_below w _ t
  rw [if_neg hv] at ha
  rw [decide_eq_false hv] at h4
  obtain ⟨t, v, hc⟩ := hg 5 rfl
  have hA := Any.strconv_Atoi_range QfW ⟨l.toArray⟩ (by rw [hz]; omega) (by rw [hs]; exact ha) _ w hc (.inr ⟨t, v, rfl⟩)
  refine hA.mono ?_
  rintro e w' ⟨N, he, _, _, hb⟩
  exact ⟨_, _, he, h4 _, rfl, Qg0 (.int _ _) (.ifx _ _), hb⟩
 exact hP.elim
def c143 (svs : List SV) (b : Option SB) : QR := match svs, b with
 | [.str l, .nat c], none => some ([l.length * c <= 140737488355328 /\ c <= 9223372036854775807], .str (Lib.repeatL l c))
 | _, _ => none
theorem Qtw : Has 143 := hsf Tryz.f143
theorem Qr5 : Sat 143 (Qv c143) := by
 refine Sat.lib fun w ω svs args b K hg hn hr hP => ?_
 obtain ⟨ps, v, e, hp, hk⟩ := Qk hP
 unfold c143 at e
 split at e
 rename_i l c
 cases e
 refine ⟨rfl, ?_⟩
 obtain ⟨xs⟩ := args
 match xs, hn with
 | [x, y], _ =>
  have hx := (hr 0 _ x rfl rfl).str_inv
  have hy := (hr 1 _ y rfl rfl).nat_inv
  subst hx
  subst hy
  have hz : (⟨l.toArray⟩ : ByteArray).size = l.length := rfl
  have hA := Any.strings_Repeat Z2 Qn5 ⟨l.toArray⟩ c w hp.1.2 (by rw [hz]; exact hp.1.1)
  refine hA.mono ?_
  rintro e w' ⟨he, hb⟩
  exact ⟨_, _, he, hk, rfl, .str _, hb⟩
 cases e
end
section
open Go Go.RowKit
set_option maxRecDepth 20000
theorem QiY {l : Bs} {i : Nat} (h : low (l.take i) = l.take i) : low (l.take i) ++ l.drop i = l := by rw [h, List.take_append_drop]
theorem QfP (l : Bs) (i : Nat) (h : l.length <= i) : low (l.take i) ++ l.drop i = low l := by rw [zN h, List.drop_eq_nil_iff.2 h, zC]
theorem byt32 (c : UInt8) : c + 97 - 65 = c + 32 := by
 apply UInt8.toNat_inj.1
 rw [UInt8.toNat_sub, xb, xb]
 have h1 : (97 : UInt8).toNat = 97 := rfl
 have h2 : (65 : UInt8).toNat = 65 := rfl
 have h3 : (32 : UInt8).toNat = 32 := rfl
 omega
def c133 (svs : List SV) (b : Option SB) (K : Out -> Option SB -> Prop) : Prop := match svs, b with
 | [.ptr 0 0], some (.blk 94 [.str s, .nat i, .nat d, .bool a]) => s.length <= 1000000 /\ i <= s.length /\ Qy (Vx s i) (fun j => i < j /\ j <= s.length -> K (.val (.bool true)) (some (.blk 94 [.str s, .nat j, .nat d, .bool a]))) (K (.val (.bool false)) (some (.blk 94 [.str s, .nat i, .nat d, .bool a])))
 | _, _ => False
noncomputable def W133 : Wk := ⟨[(99, .fn c99)], Qp Tryz.f133, true, false, [.tmp 2], [4], [], []⟩
theorem QtB : Has 133 := hsf Tryz.f133
theorem Qhz {p q : Prop} (k : q) (h : p := by first | omega | (have := Vm s i h02; omega) | (simp; done) | (simp; omega) | (simp; have := Vm s i h02; omega)) : p /\ q := ⟨h, k⟩
theorem kxz1 {c0 p0 p1 p2 q : Prop} (k : q) (h : c0 -> p0 /\ p1 /\ p2 /\ True := by intro g0; (try simp at g0); exact ⟨(by first | omega | (have := Vm s i h02; omega) | (simp; done) | (simp; omega) | (simp; have := Vm s i h02; omega)), (by first | omega | (have := Vm s i h02; omega) | (simp; done) | (simp; omega) | (simp; have := Vm s i h02; omega)), (by first | omega | (have := Vm s i h02; omega) | (simp; done) | (simp; omega) | (simp; have := Vm s i h02; omega)), trivial⟩) : (c0 -> p0 /\ p1 /\ p2 /\ True) /\ q := ⟨h, k⟩
theorem Qbd {c0 p0 q : Prop} (k : q) (h : c0 -> p0 /\ True := by intro g0; (try simp at g0); exact ⟨(by first | omega | (have := Vm s i h02; omega) | (simp; done) | (simp; omega) | (simp; have := Vm s i h02; omega)), trivial⟩) : (c0 -> p0 /\ True) /\ q := ⟨h, k⟩
theorem Qsa : Sat 133 c133 := by
 have hD : Qe W133.D := (Qe.cons QeX Qeq Qe.nil)
 refine W133.sa hD Tryz.f133 fun svs b K hP => ?_
 unfold c133 at hP
 split at hP
 rename_i s i d a
 obtain ⟨h01, h02, hk⟩ := hP
 refine W133.en (have a1 := decide (i < s.length); have a0 := a1 = true -> ((a1 == true) = true) /\ True; a0 /\ a0 /\ a0 /\ a0 /\ a0 /\ a0 /\ (a1 = true -> ((a1 == true) = true) /\ ((a1 == true) = true) /\ (i < s.length) /\ True) /\ a0 /\ (a1 = true -> (a1 == true) = true) /\ cond (a1 && (decide (bat s i = 40))) ((i + 1 <= 9223372036854775807) /\ (s.length <= 1000000) /\ (i + 1 <= s.length) /\ K (.val (.bool true)) (some (.blk 94 [(.str s), (.nat (iWs s (i + 1))), (.nat d), (.bool a)]))) (K (.val (.bool false)) (some (.blk 94 [(.str s), (.nat i), (.nat d), (.bool a)])))) ?_
 refine Qbd (Qbd (Qbd (Qbd (Qbd (Qbd (kxz1 (Qbd (Qhz ?_))))))))
 refine Qc ?_ ?_ <;> intro h1 <;> try simp [-za] at h1
 refine Qhz (Qhz (Qhz ?_))
 have e : Vx s i = some (iWs s (i + 1)) := by unfold Vx; rw [if_pos h1]
 rw [e] at hk
 exact hk ⟨by have := VA s (i + 1); omega, Vm s (i + 1) (by omega)⟩
 have e : Vx s i = none := by unfold Vx; rw [if_neg (by intro q; exact h1 q.1 q.2)]
 rw [e] at hk
 exact hk
 exact hP.elim
def c134 (svs : List SV) (b : Option SB) (K : Out -> Option SB -> Prop) : Prop := match svs, b with
 | [.ptr 0 0], some (.blk 94 [.str s, .nat i, .nat d, .bool a]) => s.length <= 1000000 /\ i <= s.length /\ Qy (QV s i) (fun j => i < j /\ j <= s.length -> K (.val (.bool true)) (some (.blk 94 [.str s, .nat j, .nat d, .bool a]))) (K (.val (.bool false)) (some (.blk 94 [.str s, .nat i, .nat d, .bool a])))
 | _, _ => False
noncomputable def W134 : Wk := ⟨[(99, .fn c99)], Qp Tryz.f134, true, false, [.tmp 2], [4], [], []⟩
theorem QtA : Has 134 := hsf Tryz.f134
theorem Qr9 : Sat 134 c134 := by
 have hD : Qe W134.D := (Qe.cons QeX Qeq Qe.nil)
 refine W134.sa hD Tryz.f134 fun svs b K hP => ?_
 unfold c134 at hP
 split at hP
 rename_i s i d a
 obtain ⟨h01, h02, hk⟩ := hP
 refine W134.en (have a1 := decide (iWs s i < s.length); have a0 := a1 = true -> ((a1 == true) = true) /\ True; (s.length <= 1000000) /\ (i <= s.length) /\ a0 /\ a0 /\ a0 /\ a0 /\ a0 /\ a0 /\ (a1 = true -> ((a1 == true) = true) /\ ((a1 == true) = true) /\ (iWs s i < s.length) /\ True) /\ a0 /\ (a1 = true -> (a1 == true) = true) /\ cond (a1 && (decide (bat s (iWs s i) = 41))) ((iWs s i + 1 <= 9223372036854775807) /\ K (.val (.bool true)) (some (.blk 94 [(.str s), (.nat (iWs s i + 1)), (.nat d), (.bool a)]))) (K (.val (.bool false)) (some (.blk 94 [(.str s), (.nat i), (.nat d), (.bool a)])))) ?_
 refine Qhz (Qhz (Qbd (Qbd (Qbd (Qbd (Qbd (Qbd (kxz1 (Qbd (Qhz ?_))))))))))
 refine Qc ?_ ?_ <;> intro h1 <;> try simp [-za] at h1
 refine Qhz ?_
 have e : QV s i = some (iWs s i + 1) := by unfold QV; rw [if_pos h1]
 rw [e] at hk
 exact hk ⟨by have := VA s i; omega, by omega⟩
 have e : QV s i = none := by unfold QV; rw [if_neg (by intro q; exact h1 q.1 q.2)]
 rw [e] at hk
 exact hk
 exact hP.elim
def QlP (svs : List SV) (b : Option SB) : QR := match svs, b with
 | [.str l], none => some ([l.length <= 1000000000], .str (low l))
 | _, _ => none
noncomputable def Qck : Wk := ⟨[], Qp Tryz.f130, false, false, [.tmp 2], [9], [(3, 25)], []⟩
theorem Qf8 : Has 130 := hsf Tryz.f130
theorem Z3 {p q : Prop} (k : q) (h : p := by first | omega | (simp [low]; omega) | (simp; done) | (simp; omega)) : p /\ q := ⟨h, k⟩
theorem Qfp : Sat 130 (Qv QlP) := by
 have hD : Qe Qck.D := Qe.nil
 refine Qck.sa hD Tryz.f130 fun svs b K hP => ?_
 obtain ⟨ps, v, e, hp, hk⟩ := Qk hP
 unfold QlP at e
 split at e
 rename_i l
 cases e
 obtain ⟨h01, _⟩ := hp
 have L3b : ∀ (mm : Nat) (i : Nat), l.length - i = mm -> (i <= l.length /\ 0 < l.length) -> Qck.L K 3 (mkS 41 [(0, (.str l)), (3, (.own 1)), (4, (.nat i))] [(1, .row (.bytes (low (l.take i) ++ l.drop i)) true)] 2) := by
  intro mm
  induction mm using zl with
  | _ mm ih =>
   intro i hm hI
   refine Qck.aL hD (have a0 := low (l.take i) ++ l.drop i; cond (decide (i < l.length)) ((i < l.length) /\ cond ((decide (65 <= bat l i)) && (decide (bat l i <= 90))) ((0 < a0.length) /\ (i < l.length) /\ (i < a0.length) /\ (i < a0.length) /\ (i + 1 <= 9223372036854775807) /\ (Qck).L K 3 (mkS 41 [(0, (.str l)), (3, (.own 1)), (4, (.nat (i + 1)))] [(1, .row (.bytes (a0.set i (l.getD i 0 + 32))) true)] 2)) ((i + 1 <= 9223372036854775807) /\ (Qck).L K 3 (mkS 41 [(0, (.str l)), (3, (.own 1)), (4, (.nat (i + 1)))] [(1, .row (.bytes a0) true)] 2))) ((0 < a0.length) /\ K (.val (.str a0)) none)) ?_
   refine Qc ?_ ?_ <;> intro h1 <;> try simp [-za] at h1
   refine Z3 ?_
   refine Qc ?_ ?_ <;> intro h2 <;> try simp [-za] at h2
   refine Z3 (Z3 (Z3 (Z3 (Z3 ?_))))
   have e : (low (l.take i) ++ l.drop i).set i (l.getD i 0 + 32) = low (l.take (i + 1)) ++ l.drop (i + 1) := by
    rw [<- Qcy l i h1]; unfold UX; rw [if_pos (show 65 <= (l.getD i 0).toNat /\ (l.getD i 0).toNat <= 90 from h2)]
   rw [e]
   exact ih _ (by omega) (i + 1) rfl ⟨by omega, by omega⟩
   refine Z3 ?_
   rw [Qbc l i h1 (by unfold UX; rw [if_neg (fun h => by have := h2 h.1; have h3 : bat l i <= 90 := h.2; omega)])]
   exact ih _ (by omega) (i + 1) rfl ⟨by omega, by omega⟩
   refine Z3 ?_
   rw [QfP l i (by omega)]
   exact hk
 have L3 : ∀ (mm : Nat) (i : Nat), l.length - i = mm -> (i <= l.length /\ low (l.take i) = l.take i) -> Qck.L K 3 (mkS 41 [(0, (.str l)), (3, .nilsl), (4, (.nat i))] [] 1) := by
  intro mm
  induction mm using zl with
  | _ mm ih =>
   intro i hm hI
   obtain ⟨k1, k2⟩ := hI
   refine Qck.aL hD (cond (decide (i < l.length)) ((i < l.length) /\ cond ((decide (65 <= bat l i)) && (decide (bat l i <= 90))) ((l.length = l.length) /\ (l.length <= 1099511627776) /\ ((zG l.length (0 : UInt8)).length = l.length) /\ (i < l.length) /\ (i < l.length) /\ (i < l.length) /\ (i + 1 <= 9223372036854775807) /\ (Qck).L K 3 (mkS 41 [(0, (.str l)), (3, (.own 1)), (4, (.nat (i + 1)))] [(1, .row (.bytes (l.set i (l.getD i 0 + 32))) true)] 2)) ((i + 1 <= 9223372036854775807) /\ (Qck).L K 3 (mkS 41 [(0, (.str l)), (3, .nilsl), (4, (.nat (i + 1)))] [] 1))) (K (.val (.str l)) none)) ?_
   refine Qc ?_ ?_ <;> intro h1 <;> try simp [-za] at h1
   refine Z3 ?_
   refine Qc ?_ ?_ <;> intro h2 <;> try simp [-za] at h2
   refine Z3 (Z3 (Z3 (Z3 (Z3 (Z3 (Z3 ?_))))))
   have e : l.set i (l.getD i 0 + 32) = low (l.take (i + 1)) ++ l.drop (i + 1) := by
    rw [<- Qcy l i h1, QiY k2]; unfold UX; rw [if_pos (show 65 <= (l.getD i 0).toNat /\ (l.getD i 0).toNat <= 90 from h2)]
   rw [e]
   exact L3b _ (i + 1) rfl ⟨by omega, by omega⟩
   refine Z3 ?_
   have e := Qbc l i h1 (by unfold UX; rw [if_neg (fun h => by have := h2 h.1; have h3 : bat l i <= 90 := h.2; omega)])
   rw [QiY k2] at e
   exact ih _ (by omega) (i + 1) rfl ⟨by omega, List.append_cancel_right (bs := l.drop (i + 1)) (by rw [List.take_append_drop]; exact e.symm)⟩
   have e := QfP l i (by omega)
   rw [QiY k2] at e
   rw [<- e] at hk
   exact hk
 refine Qck.en ((Qck).L K 3 (mkS 41 [(0, (.str l)), (3, .nilsl), (4, (.nat 0))] [] 1)) ?_
 exact L3 _ 0 rfl ⟨by omega, by simp [low]⟩
 cases e
def c135 (svs : List SV) (b : Option SB) : QR := match svs, b with
 | [.str l], none => some ([l.length <= 1000000000], .str (low l))
 | _, _ => none
noncomputable def Qif : Wk := ⟨[], Qp Tryz.f135, false, false, [.tmp 2], [9], [(3, 1800)], []⟩
theorem Qtz : Has 135 := hsf Tryz.f135
theorem Qr8 : Sat 135 (Qv c135) := by
 have hD : Qe Qif.D := Qe.nil
 refine Qif.sa hD Tryz.f135 fun svs b K hP => ?_
 obtain ⟨ps, v, e, hp, hk⟩ := Qk hP
 unfold c135 at e
 split at e
 rename_i l
 cases e
 obtain ⟨h01, _⟩ := hp
 have L3 : ∀ (mm : Nat) (i : Nat), l.length - i = mm -> (i <= l.length) -> Qif.L K 3 (mkS 30 [(3, (.own 1)), (8, (.own 1)), (9, (.nat l.length)), (10, (.nat i))] [(1, .row (.bytes (low (l.take i) ++ l.drop i)) false)] 2) := by
  intro mm
  induction mm using zl with
  | _ mm ih =>
   intro i hm hI
   refine Qif.aL hD (have a0 := low (l.take i) ++ l.drop i; cond (decide (i < l.length)) ((i < a0.length) /\ (i < a0.length) /\ cond ((decide (65 <= bat a0 i)) && (decide (bat a0 i <= 90))) ((i < a0.length) /\ (i < a0.length) /\ (i + 1 <= 9223372036854775807) /\ (Qif).L K 3 (mkS 30 [(3, (.own 1)), (8, (.own 1)), (9, (.nat l.length)), (10, (.nat (i + 1)))] [(1, .row (.bytes (a0.set i (a0.getD i 0 + 97 - 65))) false)] 2)) ((i + 1 <= 9223372036854775807) /\ (Qif).L K 3 (mkS 30 [(3, (.own 1)), (8, (.own 1)), (9, (.nat l.length)), (10, (.nat (i + 1)))] [(1, .row (.bytes a0) false)] 2))) (K (.val (.str a0)) none)) ?_
   refine Qc ?_ ?_ <;> intro h1 <;> try simp [-za] at h1
   refine Z3 (Z3 ?_)
   refine Qc ?_ ?_ <;> intro h2 <;> try simp [-za] at h2
   refine Z3 (Z3 (Z3 ?_))
   rw [QcJ l i h1] at h2
   have e : (low (l.take i) ++ l.drop i).set i ((low (l.take i) ++ l.drop i).getD i 0 + 97 - 65) = low (l.take (i + 1)) ++ l.drop (i + 1) := by
    rw [<- Qcy l i h1, QiZ l i h1, byt32]; unfold UX; rw [if_pos (show 65 <= (l.getD i 0).toNat /\ (l.getD i 0).toNat <= 90 from h2)]
   rw [e]
   exact ih _ (by omega) (i + 1) rfl (by omega)
   refine Z3 ?_
   rw [QcJ l i h1] at h2
   rw [Qbc l i h1 (by unfold UX; rw [if_neg (fun h => by have := h2 h.1; have h3 : bat l i <= 90 := h.2; omega)])]
   exact ih _ (by omega) (i + 1) rfl (by omega)
   rw [QfP l i (by omega)]
   exact hk
 refine Qif.en ((l.length <= 1099511627776) /\ (Qif).L K 3 (mkS 30 [(3, (.own 1)), (8, (.own 1)), (9, (.nat l.length)), (10, (.nat 0))] [(1, .row (.bytes l) false)] 2)) ?_
 refine Z3 ?_
 exact L3 _ 0 rfl (by omega)
 cases e
end
section
open Go Go.RowKit
set_option maxRecDepth 20000
theorem QhJ (l : Bs) (i : Nat) (h : i < l.length) : VB (l.take (i + 1)) = 16 * VB (l.take i) + Yr (bat l i) := by
 rw [zL, zi h, z7, QhK]
 simp [bat, za, zi h]
theorem Qi9 (l : Bs) (hd : ∀ i, i < l.length -> Q3 (bat l i) = true) : ∀ i, i <= l.length -> VB (l.take i) < 16 ^ i
 | 0, _ => by simp [VB]
 | i + 1, h => by
  have h1 := Qi9 l hd i (by omega)
  have h2 := QhL (hd i (by omega))
  rw [QhJ l i (by omega), Nat.pow_succ]
  omega
theorem or32 : ∀ n : Nat, n < 256 -> (65 <= n /\ n <= 70 -> ((zx n) ||| 32).toNat = n + 32) /\ (97 <= n /\ n <= 102 -> ((zx n) ||| 32).toNat = n) := by decide
theorem or32c (c : UInt8) : (65 <= c.toNat /\ c.toNat <= 70 -> (c ||| 32).toNat = c.toNat + 32) /\ (97 <= c.toNat /\ c.toNat <= 102 -> (c ||| 32).toNat = c.toNat) := by
 have := or32 c.toNat (z8 c)
 simpa using this
theorem Qal {c : UInt8} (h : Qw c.toNat = true) : (c - 48).toNat = Yr c.toNat := by
 simp only [Qw, zh, decide_eq_true_eq] at h
 rw [UInt8.toNat_sub, Yr, if_pos h.2]
 have h2 : (48 : UInt8).toNat = 48 := rfl
 omega
theorem Qbm {c : UInt8} (h : Q3 c.toNat = true) (hn : ¬ Qw c.toNat = true) : 97 <= (c ||| 32).toNat /\ (c ||| 32).toNat <= 122 /\ ((c ||| 32) - 97 + 10).toNat = Yr c.toNat := by
 simp only [Q3, Qw, zw, zh, decide_eq_true_eq] at h hn
 have ho := or32c c
 have h2 : (97 : UInt8).toNat = 97 := rfl
 have h3 : (10 : UInt8).toNat = 10 := rfl
 rw [xb, UInt8.toNat_sub, Yr, if_neg (by omega)]
 by_cases h70 : c.toNat <= 70
 rw [ho.1 (by omega), if_pos h70]; omega
 rw [ho.2 (by omega), if_neg h70]; omega
def c160 (svs : List SV) (b : Option SB) : QR := match svs, b with
 | [.str _], none => some ([False], .bool false)
 | _, _ => none
theorem Qto : Has 160 := hsf Tryz.f160
theorem QrX : Sat 160 (Qv c160) := by
 intro g0 w M ω svs args b K _ _ _ hP
 exfalso
 obtain ⟨ps, v, e, hp, hk⟩ := Qk hP
 unfold c160 at e
 split at e
 cases e; exact hp.1
 cases e
theorem ku64 {K : Out -> Option SB -> Prop} {n m : Int} (hk : K (.val (.tup [.int .u64 n, .nilif])) none) (e : n = m) : K (.val (.tup [.int .u64 m, .nilif])) none := by rw [<- e]; exact hk
def c159 (svs : List SV) (b : Option SB) : QR := match svs, b with
 | [.byt c], none => some ([], .byt (c ||| 32))
 | _, _ => none
noncomputable def W159 : Wk := ⟨[], Qp Tryz.f159, false, false, [.tmp 2], [5], [], []⟩
theorem Qtp : Has 159 := hsf Tryz.f159
theorem QrY : Sat 159 (Qv c159) := by
 have hD : Qe W159.D := Qe.nil
 refine W159.sa hD Tryz.f159 fun svs b K hP => ?_
 obtain ⟨ps, v, e, hp, hk⟩ := Qk hP
 unfold c159 at e
 split at e
 rename_i c
 cases e
 skip
 refine W159.en (K (.val (.byt (c ||| 32))) none) ?_
 exact hk
 cases e
def c156 (svs : List SV) (b : Option SB) : QR := match svs, b with
 | [.str l, .nat 16, .nat 64], none => some ([0 < l.length /\ l.length <= 6, ∀ i, i < l.length -> Q3 (bat l i) = true], .tup [.int .u64 (VB l : Nat), .nilif])
 | _, _ => none
noncomputable def Qgw : Wk := ⟨[(159, .pure c159), (160, .pure c160)], Qp Tryz.f156, false, false, [.tmp 6, .tmp 7], [182, 71], [(36, 4436777100798802905238461234946)], []⟩
theorem Qtq : Has 156 := hsf Tryz.f156
theorem QfZ {p q : Prop} (k : q) (h : p := by first | omega | (simp; done) | (simp; omega) | (exact absurd g0 (by decide)) | assumption) : p /\ q := ⟨h, k⟩
theorem QrZ : Sat 156 (Qv c156) := by
 have hD : Qe Qgw.D := (Qe.cons Qtp QrY (Qe.cons Qto QrX Qe.nil))
 refine Qgw.sa hD Tryz.f156 fun svs b K hP => ?_
 obtain ⟨ps, v, e, hp, hk⟩ := Qk hP
 unfold c156 at e
 split at e
 rename_i l
 cases e
 obtain ⟨h01, h02, _⟩ := hp
 have hl := Qi9 l h02
 have L36 : ∀ (mm : Nat) (i : Nat) (mx n : Int), l.length - i = mm -> (i <= l.length /\ mx = 18446744073709551615 /\ n = (VB (l.take i) : Nat)) -> Qgw.L K 36 (mkS 172 [(1, (.nat 16)), (8, (.bool false)), (9, (.str l)), (10, (.int .u64 1152921504606846976)), (11, (.int .u64 mx)), (12, (.bool false)), (13, (.int .u64 n)), (99, (.own 1)), (100, (.nat l.length)), (101, (.nat i))] [(1, .row (.bytes l) false)] 2) := by
  intro mm
  induction mm using zl with
  | _ mm ih =>
   intro i mx n hm hI
   obtain ⟨k1, k2, k3⟩ := hI
   have p1 : i < l.length -> VB (l.take (i + 1)) = 16 * VB (l.take i) + Yr (bat l i) := QhJ l i
   have p2 : i < l.length -> VB (l.take (i + 1)) < 16 ^ 6 := fun h => zS (hl (i + 1) (by omega)) (xu (by omega) (by omega))
   have p3 : VB (l.take i) < 16 ^ 6 := zS (hl i k1) (xu (by omega) (by omega))
   have p4 : i < l.length -> Yr (bat l i) < 16 := fun h => QhL (h02 i h)
   simp only [show (16 : Nat) ^ 6 = 16777216 from rfl] at p2 p3
   refine Qgw.aL hD (have a0 := (n * (16 : Int)) % 18446744073709551616; have a1 := (a0 + (((((l.getD i 0 ||| 32) - 97) + 10).toNat : Nat) : Int)) % 18446744073709551616; have a2 := (a0 + (((l.getD i 0 - 48).toNat : Nat) : Int)) % 18446744073709551616; have a3 : Out := .val (.tup [(.int .u64 mx), .ifx]); have a4 : Out := .val (.tup [(.int .u64 0), .ifx]); have a5 := i + 1 <= 9223372036854775807; have a6 : SV := .int .u64 1152921504606846976; cond (decide (i < l.length)) ((i < l.length) /\ (i < l.length) /\ cond ((decide (bat l i = 95)) && false) (a5 /\ (Qgw).L K 36 (mkS 172 [(1, (.nat 16)), (8, (.bool false)), (9, (.str l)), (10, a6), (11, (.int .u64 mx)), (12, (.bool true)), (13, (.int .u64 n)), (99, (.own 1)), (100, (.nat l.length)), (101, (.nat (i + 1)))] [(1, .row (.bytes l) false)] 2)) (cond ((decide (48 <= bat l i)) && (decide (bat l i <= 57))) (cond (decide ((zx 16).toNat <= (l.getD i 0 - 48).toNat)) (K a4 none) (cond (decide ((1152921504606846976 : Int) <= n)) (K a3 none) ((16 <= 9223372036854775807) /\ cond ((decide (a2 < a0)) || (decide (mx < a2))) (K a3 none) (a5 /\ (Qgw).L K 36 (mkS 172 [(1, (.nat 16)), (8, (.bool false)), (9, (.str l)), (10, a6), (11, (.int .u64 mx)), (12, (.bool false)), (13, (.int .u64 a2)), (99, (.own 1)), (100, (.nat l.length)), (101, (.nat (i + 1)))] [(1, .row (.bytes l) false)] 2))))) (cond ((decide (97 <= (l.getD i 0 ||| 32).toNat)) && (decide ((l.getD i 0 ||| 32).toNat <= 122))) (cond (decide ((zx 16).toNat <= (((l.getD i 0 ||| 32) - 97) + 10).toNat)) (K a4 none) (cond (decide ((1152921504606846976 : Int) <= n)) (K a3 none) ((16 <= 9223372036854775807) /\ cond ((decide (a1 < a0)) || (decide (mx < a1))) (K a3 none) (a5 /\ (Qgw).L K 36 (mkS 172 [(1, (.nat 16)), (8, (.bool false)), (9, (.str l)), (10, a6), (11, (.int .u64 mx)), (12, (.bool false)), (13, (.int .u64 a1)), (99, (.own 1)), (100, (.nat l.length)), (101, (.nat (i + 1)))] [(1, .row (.bytes l) false)] 2))))) (K a4 none)))) ((false = true -> (False) /\ True) /\ K (.val (.tup [(.int .u64 n), .nilif])) none)) ?_
   refine Qc ?_ ?_ <;> intro h1 <;> try simp [-za, -zb] at h1
   refine QfZ (QfZ ?_)
   refine Qc (fun h2 => ?_) (fun h2 => ?_)
   try simp [-za, -zb] at h2
   try simp [-za, -zb] at h2
   refine Qc ?_ ?_ <;> intro h3 <;> try simp [-za, -zb] at h3
   refine Qc (fun h4 => ?_) (fun h4 => ?_)
   try simp [-za, -zb] at h4
   exfalso
   have q := p4 h1
   have q2 : (l.getD i 0 - 48).toNat = Yr (bat l i) := Qal (by unfold Qw; simp only [zh, decide_eq_true_eq]; exact h3)
   omega
   try simp [-za, -zb] at h4
   refine Qc ?_ ?_ <;> intro h5 <;> try simp [-za, -zb] at h5
   exfalso
   have q := p4 h1
   have q2 : (l.getD i 0 - 48).toNat = Yr (bat l i) := Qal (by unfold Qw; simp only [zh, decide_eq_true_eq]; exact h3)
   omega
   refine QfZ ?_
   refine Qc ?_ ?_ <;> intro h6 <;> try simp [-za, -zb] at h6
   exfalso
   have q := p4 h1
   have q2 : (l.getD i 0 - 48).toNat = Yr (bat l i) := Qal (by unfold Qw; simp only [zh, decide_eq_true_eq]; exact h3)
   omega
   refine QfZ ?_
   have q2 : (l.getD i 0 - 48).toNat = Yr (bat l i) := Qal (by unfold Qw; simp only [zh, decide_eq_true_eq]; exact h3)
   have q := p4 h1
   have q5 := p1 h1
   rw [q2]
   exact ih _ (by omega) (i + 1) mx _ rfl ⟨by omega, k2, by rw [q5, k3]; omega⟩
   refine Qc (fun h4 => ?_) (fun h4 => ?_)
   try simp [-za, -zb] at h4
   refine Qc ?_ ?_ <;> intro h5 <;> try simp [-za, -zb] at h5
   exfalso
   have q := p4 h1
   have q3 := Qbm (c := l.getD i 0) (h02 i h1) (by intro q; simp only [Qw, zh, decide_eq_true_eq] at q; have q4 : 48 <= bat l i /\ bat l i <= 57 := q; have := h3 q4.1; omega)
   have q2 : ((l.getD i 0 ||| 32) - 97 + 10).toNat = Yr (bat l i) := q3.2.2
   have q6 := xb ((l.getD i 0 ||| 32) - 97) 10
   have q7 : (10 : UInt8).toNat = 10 := rfl
   omega
   refine Qc (fun h6 => ?_) (fun h6 => ?_)
   try simp [-za, -zb] at h6
   exfalso
   have q := p4 h1
   have q3 := Qbm (c := l.getD i 0) (h02 i h1) (by intro q; simp only [Qw, zh, decide_eq_true_eq] at q; have q4 : 48 <= bat l i /\ bat l i <= 57 := q; have := h3 q4.1; omega)
   have q2 : ((l.getD i 0 ||| 32) - 97 + 10).toNat = Yr (bat l i) := q3.2.2
   have q6 := xb ((l.getD i 0 ||| 32) - 97) 10
   have q7 : (10 : UInt8).toNat = 10 := rfl
   omega
   try simp [-za, -zb] at h6
   refine QfZ ?_
   refine Qc ?_ ?_ <;> intro h7 <;> try simp [-za, -zb] at h7
   exfalso
   have q := p4 h1
   have q3 := Qbm (c := l.getD i 0) (h02 i h1) (by intro q; simp only [Qw, zh, decide_eq_true_eq] at q; have q4 : 48 <= bat l i /\ bat l i <= 57 := q; have := h3 q4.1; omega)
   have q2 : ((l.getD i 0 ||| 32) - 97 + 10).toNat = Yr (bat l i) := q3.2.2
   have q6 := xb ((l.getD i 0 ||| 32) - 97) 10
   have q7 : (10 : UInt8).toNat = 10 := rfl
   omega
   refine QfZ ?_
   have q3 := Qbm (c := l.getD i 0) (h02 i h1) (by intro q; simp only [Qw, zh, decide_eq_true_eq] at q; have q4 : 48 <= bat l i /\ bat l i <= 57 := q; have := h3 q4.1; omega)
   have q2 : ((l.getD i 0 ||| 32) - 97 + 10).toNat = Yr (bat l i) := q3.2.2
   have q6 := xb ((l.getD i 0 ||| 32) - 97) 10
   have q7 : (10 : UInt8).toNat = 10 := rfl
   have q := p4 h1
   have q5 := p1 h1
   rw [q2]
   exact ih _ (by omega) (i + 1) mx _ rfl ⟨by omega, k2, by rw [q5, k3]; omega⟩
   try simp [-za, -zb] at h4
   exfalso
   have q := p4 h1
   have q3 := Qbm (c := l.getD i 0) (h02 i h1) (by intro q; simp only [Qw, zh, decide_eq_true_eq] at q; have q4 : 48 <= bat l i /\ bat l i <= 57 := q; have := h3 q4.1; omega)
   have q2 : ((l.getD i 0 ||| 32) - 97 + 10).toNat = Yr (bat l i) := q3.2.2
   have q6 := xb ((l.getD i 0 ||| 32) - 97) 10
   have q7 : (10 : UInt8).toNat = 10 := rfl
   omega
   refine ⟨fun g0 => (by cases g0), ?_⟩
   exact ku64 hk (by rw [k3, zN (by omega)])
 refine Qgw.en (cond (decide (l = [])) (K (.val (.tup [(.int .u64 0), .ifx])) none) ((64 <= 9223372036854775807) /\ (0 <= (64 : Int) /\ (64 : Int) <= 64) /\ (l.length <= 1099511627776) /\ (Qgw).L K 36 (mkS 172 [(1, (.nat 16)), (8, (.bool false)), (9, (.str l)), (10, (.int .u64 1152921504606846976)), (11, (.int .u64 (((((1 : Int) * 2 ^ ((64 : Int)).toNat) % 18446744073709551616) - (1 : Int)) % 18446744073709551616))), (12, (.bool false)), (13, (.int .u64 0)), (99, (.own 1)), (100, (.nat l.length)), (101, (.nat 0))] [(1, .row (.bytes l) false)] 2))) ?_
 refine Qc ?_ ?_ <;> intro h1 <;> try simp [-za, -zb] at h1
 simp [h1] at h01
 refine QfZ (QfZ (QfZ ?_))
 exact L36 _ 0 _ 0 rfl ⟨by omega, by decide, by simp [VB]⟩
 cases e
def c152 (svs : List SV) (b : Option SB) : QR := match svs, b with
 | [.str l, .nat 16, .nat 64], none => some ([0 < l.length /\ l.length <= 6, ∀ i, i < l.length -> Q3 (bat l i) = true], .tup [.int .u64 (VB l : Nat), .nilif])
 | _, _ => none
noncomputable def W152 : Wk := ⟨[(156, .pure c156)], Qp Tryz.f152, false, false, [.tmp 6, .tmp 7], [182, 71], [], []⟩
theorem Qts : Has 152 := hsf Tryz.f152
theorem kyz1 {p q : Prop} (k : q) (h : p := by first | omega | assumption) : p /\ q := ⟨h, k⟩
theorem Qr1 : Sat 152 (Qv c152) := by
 have hD : Qe W152.D := (Qe.cons Qtq QrZ Qe.nil)
 refine W152.sa hD Tryz.f152 fun svs b K hP => ?_
 obtain ⟨ps, v, e, hp, hk⟩ := Qk hP
 unfold c152 at e
 split at e
 rename_i l
 cases e
 obtain ⟨h01, h02, _⟩ := hp
 refine W152.en ((0 < l.length /\ l.length <= 6) /\ (∀ i, i < l.length -> Q3 (bat l i) = true) /\ K (.val (.tup [(.int .u64 ((VB l : Nat) : Int)), .nilif])) none) ?_
 refine kyz1 (kyz1 ?_)
 exact hk
 cases e
end
section
open Go Go.RowKit
set_option maxRecDepth 20000
theorem Qj {α : Type} {o : Option α} {v : α} {f : α -> Prop} {g : Prop} (h : Qy o f g) (e : o = some v) : f v := by rw [e] at h; exact h
theorem Qb {α : Type} {o : Option α} {f : α -> Prop} {g : Prop} (h : Qy o f g) (e : o = none) : g := by rw [e] at h; exact h
theorem Zg {s : Bs} {a b : Nat} (h : b <= s.length) : ((s.take b).drop a).length = b - a := by simp; omega
theorem Qdy (s : Bs) : ∀ k i m, i <= m -> m < VN s k i -> Q3 (bat s m) = true
 | 0, i, m, h1, h2 => by rw [VN] at h2; omega
 | k + 1, i, m, h1, h2 => by
  rw [VN] at h2
  split at h2
  rename_i h
  by_cases e : m = i
  rw [e]; exact h.2
  exact Qdy s k (i + 1) m (by omega) h2
  omega
theorem Za {s : Bs} {i : Nat} {v : Bs} {j : Nat} (h : ZL s i = some (v, j)) : i < j /\ j <= s.length /\ v.length <= 4 * (j - i) := by
 have h1 := J0 h
 refine ⟨by omega, h1.2.1, ?_⟩
 unfold ZL at h
 split at h
 cases h
 split at h
 cases h
 split at h <;> (simp only [Option.some.injEq, Prod.mk.injEq] at h; rw [<- h.1])
 have := QoJ (VB ((s.take (VN s 6 (i + 1))).drop (i + 1))); omega
 simp only [List.length_singleton]; omega
theorem Qgh {s : Bs} {a e i : Nat} (h : i < ((s.take e).drop a).length) : bat ((s.take e).drop a) i = bat s (a + i) := by
 simp only [zj, zk] at h
 unfold bat
 simp only [za, List.getElem?_drop, List.getElem?_take]
 rw [if_pos (by omega)]
def c145 (svs : List SV) (b : Option SB) (K : Out -> Option SB -> Prop) : Prop := match svs, b with
 | [.ptr 0 0], some (.blk 94 [.str s, .nat i, .nat d, .bool a]) => s.length <= 1000000 /\ i <= s.length /\ Qy (ZL s i) (fun v => i < v.2 /\ v.2 <= s.length /\ v.1.length <= 4 * (v.2 - i) -> K (.val (.tup [.str v.1, .nilif])) (some (.blk 94 [.str s, .nat v.2, .nat d, .bool a]))) (∀ j, K (.val (.tup [.str [], .ifx])) (some (.blk 94 [.str s, .nat j, .nat d, .bool a])))
 | _, _ => False
noncomputable def Qjs : Wk := ⟨[(71, .pure c71), (151, .pure c151), (152, .pure c152)], Qp Tryz.f145, true, false, [.tmp 2, .tmp 3], [9, 71], [(10, 81)], []⟩
theorem QnP : Has 145 := hsf Tryz.f145
theorem kzz2 {c0 p0 p1 p2 q : Prop} (k : q) (h : c0 -> p0 /\ p1 /\ p2 /\ True := by intro g0; (try simp at g0); exact ⟨(by first | omega | (simp; done) | (rw [qc]; have := ql h1; omega) | exact qd h1 | (have := qv h1; omega) | (simp; omega) | (simp; assumption)), (by first | omega | (simp; done) | (rw [qc]; have := ql h1; omega) | exact qd h1 | (have := qv h1; omega) | (simp; omega) | (simp; assumption)), (by first | omega | (simp; done) | (rw [qc]; have := ql h1; omega) | exact qd h1 | (have := qv h1; omega) | (simp; omega) | (simp; assumption)), trivial⟩) : (c0 -> p0 /\ p1 /\ p2 /\ True) /\ q := ⟨h, k⟩
theorem QfY {c0 p0 q : Prop} (k : q) (h : c0 -> p0 /\ True := by intro g0; (try simp at g0); exact ⟨(by first | omega | (simp; done) | (rw [qc]; have := ql h1; omega) | exact qd h1 | (have := qv h1; omega) | (simp; omega) | (simp; assumption)), trivial⟩) : (c0 -> p0 /\ True) /\ q := ⟨h, k⟩
theorem Zr {p q : Prop} (k : q) (h : p := by first | omega | (simp; done) | (rw [qc]; have := ql h1; omega) | exact qd h1 | (have := qv h1; omega) | (simp; omega) | (simp; assumption)) : p /\ q := ⟨h, k⟩
theorem Qmw : Sat 145 c145 := by
 have hD : Qe Qjs.D := (Qe.cons Zo Zm (Qe.cons Qtt Qr2 (Qe.cons Qts Qr1 Qe.nil)))
 refine Qjs.sa hD Tryz.f145 fun svs b K hP => ?_
 unfold c145 at hP
 split at hP
 rename_i s i d a
 obtain ⟨h01, h02, hk⟩ := hP
 have L10 : ∀ (mm : Nat) (j : Nat), i + 7 - j = mm -> (i + 1 < s.length /\ bat s i = 92 /\ YN (bat s (i + 1)) = false /\ Q3 (bat s (i + 1)) = true /\ i + 1 <= j /\ j <= s.length /\ j <= i + 7 /\ VN s (i + 7 - j) j = VN s 6 (i + 1)) -> Qjs.L K 10 (mkS 160 [(0, (.ptr 0 0)), (4, (.nat (i + 1))), (6, (.nat j))] [(0, .blk 94 [(.str s), (.nat i), (.nat d), (.bool a)])] 1) := by
  intro mm
  induction mm using zl with
  | _ mm ih =>
   intro j hm hI
   obtain ⟨k1, k2, k3, k4, k5, k6, k7, k8⟩ := hI
   have qj : (j < i + 7 -> j < s.length -> Q3 (bat s j) = false) -> VN s 6 (i + 1) = j := fun h => by
    rw [<- k8]
    by_cases h7 : j < i + 7
    rw [show i + 7 - j = (i + 6 - j) + 1 from by omega, VN, if_neg (fun q => by rw [h h7 q.1] at q; cases q.2)]
    rw [show i + 7 - j = 0 from by omega, VN]
   have qi : (j < i + 7 -> j < s.length -> Q3 (bat s j) = false) -> ZL s i = some (YL (VB ((s.take j).drop (i + 1))), Vy s j) := fun h => by
    unfold ZL
    rw [if_neg (by simp only [not_or, Decidable.not_not]; exact ⟨by omega, k2⟩), if_neg (by rw [k3]; exact zE), if_pos k4, qj h]
   have ql : (j < i + 7 -> j < s.length -> Q3 (bat s j) = false) -> i + 1 < j := fun h => by
    have q : i + 1 + 1 <= VN s 6 (i + 1) := QeS s 5 (i + 1) k1 k4
    rw [qj h] at q; exact q
   have qc := Zg (a := i + 1) k6
   have qd : (j < i + 7 -> j < s.length -> Q3 (bat s j) = false) -> ∀ n, n < ((s.take j).drop (i + 1)).length -> Q3 (bat ((s.take j).drop (i + 1)) n) = true := fun h n hn => by
    rw [Qgh hn]
    exact Qdy s 6 (i + 1) _ (by omega) (by rw [qj h]; omega)
   have qv : (j < i + 7 -> j < s.length -> Q3 (bat s j) = false) -> VB ((s.take j).drop (i + 1)) < 16777216 := fun h => by
    have q := Qi9 _ (qd h) _ (zq _)
    rw [List.take_length] at q
    have q2 : ((s.take j).drop (i + 1)).length <= 6 := by rw [qc]; omega
    exact zS q (xu (n := 16) (by omega) q2)
   refine Qjs.aL hD (have a2 : Option SB := some (.blk 94 [(.str s), (.nat (j + 1)), (.nat d), (.bool a)]); have a3 := j + 1 <= 9223372036854775807; have a4 := (s.take j).drop (i + 1); have a0 := ((VB a4 : Nat) : Int); have a1 : Out := .val (.tup [(.str (YL a0)), .nilif]); have a5 : Option SB := some (.blk 94 [(.str s), (.nat j), (.nat d), (.bool a)]); have a6 := (decide (j < i + 7)) && (decide (j < s.length)); (i + 7 <= 9223372036854775807) /\ (a6 = true -> (j < s.length) /\ True) /\ cond (a6 && (Q3 (bat s j))) (a3 /\ (Qjs).L K 10 (mkS 160 [(0, (.ptr 0 0)), (4, (.nat (i + 1))), (6, (.nat (j + 1)))] [(0, .blk 94 [(.str s), (.nat i), (.nat d), (.bool a)])] 1)) ((i + 1 <= j /\ j <= s.length) /\ (0 < a4.length /\ a4.length <= 6) /\ (∀ n0, n0 < a4.length -> Q3 (bat a4 n0) = true) /\ cond (decide (j < s.length)) ((j < s.length) /\ cond (decide (bat s j = 13)) (a3 /\ ((decide (j + 1 < s.length)) = true -> (j + 1 < s.length) /\ True) /\ cond ((decide (j + 1 < s.length)) && (decide (bat s (j + 1) = 10))) ((j + 2 <= 9223372036854775807) /\ (0 <= a0 /\ a0 <= 2147483647) /\ K a1 (some (.blk 94 [(.str s), (.nat (j + 2)), (.nat d), (.bool a)]))) ((0 <= a0 /\ a0 <= 2147483647) /\ K a1 a2)) (cond (decide (bat s j = 32)) (a3 /\ (0 <= a0 /\ a0 <= 2147483647) /\ K a1 a2) (cond (decide (bat s j = 9)) (a3 /\ (0 <= a0 /\ a0 <= 2147483647) /\ K a1 a2) (cond (decide (bat s j = 10)) (a3 /\ (0 <= a0 /\ a0 <= 2147483647) /\ K a1 a2) (cond (decide (bat s j = 12)) (a3 /\ (0 <= a0 /\ a0 <= 2147483647) /\ K a1 a2) ((0 <= a0 /\ a0 <= 2147483647) /\ K a1 a5)))))) ((0 <= a0 /\ a0 <= 2147483647) /\ K a1 a5))) ?_
   refine Zr (QfY ?_)
   refine Qc ?_ ?_ <;> intro h1 <;> try simp [-za, -zb] at h1
   refine Zr ?_
   exact ih _ (by omega) (j + 1) rfl ⟨k1, k2, k3, k4, by omega, by omega, by omega, by rw [<- k8, show i + 7 - j = (i + 7 - (j + 1)) + 1 from by omega]; conv => rhs; rw [VN, if_pos ⟨h1.1.2, h1.2⟩]⟩
   refine Zr (Zr (Zr ?_))
   refine Qc ?_ ?_ <;> intro h2 <;> try simp [-za, -zb] at h2
   refine Zr ?_
   refine Qc ?_ ?_ <;> intro h3 <;> try simp [-za, -zb] at h3
   refine Zr (QfY ?_)
   refine Qc ?_ ?_ <;> intro h4 <;> try simp [-za, -zb] at h4
   refine Zr (Zr ?_)
   have e := qi h1
   rw [show Vy s j = j + 2 from by unfold Vy; rw [if_pos h2, if_pos h3, if_pos h4]] at e
   have q := Qj hk e (by have q3 := Za e; dsimp only; exact q3)
   dsimp only at q
   exact q
   refine Zr ?_
   have e := qi h1
   rw [show Vy s j = j + 1 from by unfold Vy; rw [if_pos h2, if_pos h3, if_neg (fun q => h4 q.1 q.2)]] at e
   have q := Qj hk e (by have q3 := Za e; dsimp only; exact q3)
   dsimp only at q
   exact q
   refine Qc (fun h4 => ?_) (fun h4 => ?_)
   try simp [-za, -zb] at h4
   refine Zr (Zr ?_)
   have e := qi h1
   rw [show Vy s j = j + 1 from by unfold Vy; rw [if_pos h2, if_neg h3, if_pos (by simp [VM, h4])]] at e
   have q := Qj hk e (by have q3 := Za e; dsimp only; exact q3)
   dsimp only at q
   exact q
   try simp [-za, -zb] at h4
   refine Qc ?_ ?_ <;> intro h5 <;> try simp [-za, -zb] at h5
   refine Zr (Zr ?_)
   have e := qi h1
   rw [show Vy s j = j + 1 from by unfold Vy; rw [if_pos h2, if_neg h3, if_pos (by simp [VM, h5])]] at e
   have q := Qj hk e (by have q3 := Za e; dsimp only; exact q3)
   dsimp only at q
   exact q
   refine Qc (fun h6 => ?_) (fun h6 => ?_)
   try simp [-za, -zb] at h6
   refine Zr (Zr ?_)
   have e := qi h1
   rw [show Vy s j = j + 1 from by unfold Vy; rw [if_pos h2, if_neg h3, if_pos (by simp [VM, h6])]] at e
   have q := Qj hk e (by have q3 := Za e; dsimp only; exact q3)
   dsimp only at q
   exact q
   try simp [-za, -zb] at h6
   refine Qc ?_ ?_ <;> intro h7 <;> try simp [-za, -zb] at h7
   refine Zr (Zr ?_)
   have e := qi h1
   rw [show Vy s j = j + 1 from by unfold Vy; rw [if_pos h2, if_neg h3, if_pos (by simp [VM, h7])]] at e
   have q := Qj hk e (by have q3 := Za e; dsimp only; exact q3)
   dsimp only at q
   exact q
   refine Zr ?_
   have e := qi h1
   rw [show Vy s j = j from by unfold Vy; rw [if_pos h2, if_neg h3, if_neg (by simp [VM]; omega)]] at e
   have q := Qj hk e (by have q3 := Za e; dsimp only; exact q3)
   dsimp only at q
   exact q
   refine Zr ?_
   have e := qi h1
   rw [show Vy s j = j from by unfold Vy; rw [if_neg (by omega)]] at e
   have q := Qj hk e (by have q3 := Za e; dsimp only; exact q3)
   dsimp only at q
   exact q
 refine Qjs.en (have a1 := decide (s.length < i + 2); have a0 := a1 = false -> ((a1 == false) = true) /\ True; have a2 := i + 2 <= 9223372036854775807; have a3 : Option SB := some (.blk 94 [(.str s), (.nat i), (.nat d), (.bool a)]); a2 /\ a0 /\ a0 /\ a0 /\ a0 /\ a0 /\ a0 /\ (a1 = false -> ((a1 == false) = true) /\ ((a1 == false) = true) /\ (i < s.length) /\ True) /\ a0 /\ (a1 = false -> (a1 == false) = true) /\ cond (a1 || (!(decide (bat s i = 92)))) (K (.val (.tup [(.str []), .ifx])) a3) ((i + 1 <= 9223372036854775807) /\ (i + 1 < s.length) /\ cond (((decide (bat s (i + 1) = 13)) || (decide (bat s (i + 1) = 10))) || (decide (bat s (i + 1) = 12))) (K (.val (.tup [(.str []), .ifx])) a3) (cond (Q3 (bat s (i + 1))) ((Qjs).L K 10 (mkS 160 [(0, (.ptr 0 0)), (4, (.nat (i + 1))), (6, (.nat (i + 1)))] [(0, .blk 94 [(.str s), (.nat i), (.nat d), (.bool a)])] 1)) (a2 /\ (i + 1 <= i + 2 /\ i + 2 <= s.length) /\ a2 /\ K (.val (.tup [(.str ((s.take (i + 2)).drop (i + 1))), .nilif])) (some (.blk 94 [(.str s), (.nat (i + 2)), (.nat d), (.bool a)])))))) ?_
 refine Zr (QfY (QfY (QfY (QfY (QfY (QfY (kzz2 (QfY (Zr ?_)))))))))
 refine Qc ?_ ?_ <;> intro h1 <;> try simp [-za, -zb] at h1
 exact Qb hk (by unfold ZL; rw [if_pos h1]) _
 refine Zr (Zr ?_)
 refine Qc ?_ ?_ <;> intro h2 <;> try simp [-za, -zb] at h2
 exact Qb hk (by unfold ZL; rw [if_neg (by omega), if_pos (by simp [YN]; omega)]) _
 refine Qc (fun h3 => ?_) (fun h3 => ?_)
 try simp [-za, -zb] at h3
 exact L10 _ (i + 1) rfl ⟨by omega, h1.2, by simp [YN]; omega, h3, by omega, by omega, by omega, by rw [show i + 7 - (i + 1) = 6 from by omega]⟩
 try simp [-za, -zb] at h3
 refine Zr (Zr (Zr ?_))
 have e : ZL s i = some ([s.getD (i + 1) 0], i + 2) := by
  unfold ZL
  rw [if_neg (by omega), if_neg (by simp [YN]; omega), if_neg (by rw [h3]; exact zE)]
 rw [cut1 (show i + 1 < s.length from by omega)]
 have q := Qj hk e (by have q3 := Za e; dsimp only; exact q3)
 dsimp only at q
 exact q
 exact hP.elim
structure Nm2 (s : Bs) (i j : Nat) (acc : Bs) : Prop where
 a : i <= j
 b : j <= s.length
 n : acc.length <= 4 * (j - i)
 e : Vl s j acc = Vl s i []
theorem Um {s : Bs} {i j : Nat} {acc : Bs} (h : Vl s i [] = some (acc, j)) (hn : acc ≠ []) : V1 s i = some (acc, j) := by
 unfold V1
 rw [h]
 cases acc with
 | nil => exact absurd rfl hn
 | cons => rfl
theorem QeR {s : Bs} {i j : Nat} (h : Vl s i [] = some ([], j)) : V1 s i = none := by unfold V1; rw [h]
theorem QlB {s : Bs} {i : Nat} (h : Vl s i [] = none) : V1 s i = none := by unfold V1; rw [h]
def c131 (svs : List SV) (b : Option SB) (K : Out -> Option SB -> Prop) : Prop := match svs, b with
 | [.ptr 0 0], some (.blk 94 [.str s, .nat i, .nat d, .bool a]) => s.length <= 1000000 /\ i <= s.length /\ Qy (V1 s i) (fun v => i < v.2 /\ v.2 <= s.length /\ v.1.length <= 4 * (v.2 - i) -> K (.val (.tup [.str v.1, .nilif])) (some (.blk 94 [.str s, .nat v.2, .nat d, .bool a]))) (∀ j, K (.val (.tup [.str [], .ifx])) (some (.blk 94 [.str s, .nat j, .nat d, .bool a])))
 | _, _ => False
noncomputable def QbR : Wk := ⟨[(71, .pure c71), (144, .pure c144), (145, .plain c145)], Qp Tryz.f131, true, false, [.tmp 2, .tmp 3], [9, 71], [(2, 21), (6, 85)], []⟩
theorem Qjc : Has 131 := hsf Tryz.f131
theorem Qi5 {p q : Prop} (k : q) (h : p := by first | omega | (simp; done) | (simp; omega) | (simp; assumption)) : p /\ q := ⟨h, k⟩
theorem kzz3 {c0 p0 q : Prop} (k : q) (h : c0 -> p0 /\ True := by intro g0; (try simp at g0); exact ⟨(by first | omega | (simp; done) | (simp; omega) | (simp; assumption)), trivial⟩) : (c0 -> p0 /\ True) /\ q := ⟨h, k⟩
theorem Qiy : Sat 131 c131 := by
 have hD : Qe QbR.D := (Qe.cons Zo Zm (Qe.cons Qtv Qr4 (Qe.cons QnP Qmw Qe.nil)))
 refine QbR.sa hD Tryz.f131 fun svs b K hP => ?_
 unfold c131 at hP
 split at hP
 rename_i s i d a
 obtain ⟨h01, h02, hk⟩ := hP
 have L6 : ∀ (mm : Nat) (b j st : Nat) (acc : Bs), s.length - j = mm -> (Nm2 s i st acc /\ st <= j /\ j <= s.length /\ (st < s.length /\ QG (bat s st) = true) /\ (∀ m, st <= m -> m < j -> QG (bat s m) = true) /\ ∀ b' j' acc', s.length - j' < s.length - st -> Nm2 s i j' acc' -> QbR.L K 2 (mkS 87 [(0, (.ptr 0 0)), (2, (.str acc')), (4, (.nat j'))] [(0, .blk 94 [(.str s), (.nat b'), (.nat d), (.bool a)])] 1)) -> QbR.L K 6 (mkS 87 [(0, (.ptr 0 0)), (2, (.str acc)), (4, (.nat j)), (6, (.nat st))] [(0, .blk 94 [(.str s), (.nat b), (.nat d), (.bool a)])] 1) := by
  intro mm
  induction mm using zl with
  | _ mm ih =>
   intro b j st acc hm hI
   obtain ⟨⟨k1, k2, k3, k4⟩, k5, k6, k7, k8, ih3⟩ := hI
   have kc := Zg (a := st) k6
   refine QbR.aL hD (((decide (j < s.length)) = true -> (j < s.length) /\ True) /\ cond ((decide (j < s.length)) && (QG (bat s j))) ((j + 1 <= 9223372036854775807) /\ (QbR).L K 6 (mkS 87 [(0, (.ptr 0 0)), (2, (.str acc)), (4, (.nat (j + 1))), (6, (.nat st))] [(0, .blk 94 [(.str s), (.nat b), (.nat d), (.bool a)])] 1)) ((st <= j /\ j <= s.length) /\ (acc.length + ((s.take j).drop st).length <= 2305843009213693952) /\ (QbR).L K 2 (mkS 87 [(0, (.ptr 0 0)), (2, (.str (acc ++ ((s.take j).drop st)))), (4, (.nat j))] [(0, .blk 94 [(.str s), (.nat b), (.nat d), (.bool a)])] 1))) ?_
   refine kzz3 ?_
   refine Qc ?_ ?_ <;> intro h1 <;> try simp [-za, -zb] at h1
   refine Qi5 ?_
   exact ih _ (by omega) b (j + 1) st acc rfl ⟨⟨k1, k2, k3, k4⟩, by omega, by omega, k7, fun m a c => by
    by_cases e : m = j
    rw [e]; exact h1.2
    exact k8 m a (by omega), ih3⟩
   refine Qi5 (Qi5 ?_)
   have hj : st < j := by
    rcases Nat.lt_or_ge st j with q | q
    exact q
    have e : j = st := by omega
    rw [e] at h1
    rw [h1 k7.1] at k7
    cases k7.2
   have e := Law.nameGo_run s st acc (j - st) (by omega) (fun m a c => k8 m a (by omega))
   rw [show st + (j - st) = j from by omega] at e
   exact ih3 b j (acc ++ (s.take j).drop st) (by omega) ⟨by omega, by omega, by rw [zd, kc]; omega, by rw [<- k4, e]⟩
 have L2 : ∀ (mm : Nat) (b j : Nat) (acc : Bs), s.length - j = mm -> (Nm2 s i j acc) -> QbR.L K 2 (mkS 87 [(0, (.ptr 0 0)), (2, (.str acc)), (4, (.nat j))] [(0, .blk 94 [(.str s), (.nat b), (.nat d), (.bool a)])] 1) := by
  intro mm
  induction mm using zl with
  | _ mm ih =>
   intro b j acc hm hI
   obtain ⟨k1, k2, k3, k4⟩ := hI
   refine QbR.aL hD (have a0 : Out := .val (.tup [(.str []), .ifx]); have a1 : Option SB := some (.blk 94 [(.str s), (.nat b), (.nat d), (.bool a)]); have a2 : Option SB := some (.blk 94 [(.str s), (.nat j), (.nat d), (.bool a)]); cond (decide (j < s.length)) ((j < s.length) /\ cond (QG (bat s j)) ((QbR).L K 6 (mkS 87 [(0, (.ptr 0 0)), (2, (.str acc)), (4, (.nat j)), (6, (.nat j))] [(0, .blk 94 [(.str s), (.nat b), (.nat d), (.bool a)])] 1)) (cond (decide (bat s j = 92)) ((s.length <= 1000000) /\ (j <= s.length) /\ Qy (ZL s j) (fun v1 => (j < v1.2 /\ v1.2 <= s.length /\ v1.1.length <= 4 * (v1.2 - j)) -> (acc.length + v1.1.length <= 2305843009213693952) /\ (QbR).L K 2 (mkS 87 [(0, (.ptr 0 0)), (2, (.str (acc ++ v1.1))), (4, (.nat v1.2))] [(0, .blk 94 [(.str s), (.nat v1.2), (.nat d), (.bool a)])] 1)) (∀ j2 : Nat, K a0 (some (.blk 94 [(.str s), (.nat j2), (.nat d), (.bool a)])))) (cond (decide (acc = [])) (K a0 a1) (K (.val (.tup [(.str acc), .nilif])) a2)))) (cond (decide (acc = [])) (K a0 a1) (K (.val (.tup [(.str acc), .nilif])) a2))) ?_
   refine Qc ?_ ?_ <;> intro h1 <;> try simp [-za, -zb] at h1
   refine Qi5 ?_
   refine Qc ?_ ?_ <;> intro h2 <;> try simp [-za, -zb] at h2
   exact L6 _ b j j acc rfl ⟨⟨k1, k2, k3, k4⟩, zq _, k2, ⟨h1, h2⟩, fun m a c => by omega, fun b' j' acc' hlt h' => ih _ (by omega) b' j' acc' rfl h'⟩
   refine Qc (fun h3 => ?_) (fun h3 => ?_)
   try simp [-za, -zb] at h3
   refine Qi5 (Qi5 ?_)
   refine QK (fun v1 h4 => ?_) (fun h4 => ?_)
   intro h5
   try simp [-za, -zb] at h5
   refine Qi5 ?_
   exact ih _ (by omega) v1.2 v1.2 (acc ++ v1.1) rfl ⟨by omega, by omega, by rw [zd]; omega, by rw [<- k4, Law.nameGo_esc h1 h3 (v := v1.1) (j := v1.2) h4]⟩
   intro j2
   exact Qb hk (QlB (by rw [<- k4]; exact Law.nameGo_none h1 h3 h4)) _
   try simp [-za, -zb] at h3
   refine Qc ?_ ?_ <;> intro h4 <;> try simp [-za, -zb] at h4
   have e := Law.nameGo_stop (s := s) (i := j) (acc := acc) (.inr ⟨h2, h3⟩)
   rw [k4, h4] at e
   exact Qb hk (QeR e) _
   have e := Law.nameGo_stop (s := s) (i := j) (acc := acc) (.inr ⟨h2, h3⟩)
   rw [k4] at e
   exact Qj hk (Um e h4) ⟨(Law.iName_lt (Um e h4)).1, by omega, by omega⟩
   refine Qc (fun h2 => ?_) (fun h2 => ?_)
   try simp [-za, -zb] at h2
   have e := Law.nameGo_stop (s := s) (i := j) (acc := acc) (.inl (by omega))
   rw [k4, h2] at e
   exact Qb hk (QeR e) _
   try simp [-za, -zb] at h2
   have e := Law.nameGo_stop (s := s) (i := j) (acc := acc) (.inl (by omega))
   rw [k4] at e
   exact Qj hk (Um e h2) ⟨(Law.iName_lt (Um e h2)).1, by omega, by omega⟩
 refine QbR.en ((QbR).L K 2 (mkS 87 [(0, (.ptr 0 0)), (2, (.str [])), (4, (.nat i))] [(0, .blk 94 [(.str s), (.nat i), (.nat d), (.bool a)])] 1)) ?_
 exact L2 _ i i [] rfl ⟨zq _, h02, by simp, rfl⟩
 exact hP.elim
theorem Qb1 {s : Bs} {i h : Nat} {r : Bs} {j : Nat} (e : Yg s i = h) (hl : h < s.length) (hc : QA (bat s h) = true \/ bat s h = 92) (hn : V1 s h = some (r, j)) : QM s i = some (zG (h - i) 45 ++ r, j) := by
 unfold QM
 rw [e, if_pos ⟨hl, hc⟩, hn]
theorem QaO {s : Bs} {i h : Nat} (e : Yg s i = h) (hn : ¬ (h < s.length /\ (QA (bat s h) = true \/ bat s h = 92)) \/ V1 s h = none) : QM s i = none := by
 unfold QM
 rw [e]
 split
 rename_i h1
 rw [hn.resolve_left (fun q => q h1)]
 rfl
theorem Qc5 (k : Nat) : Lib.repeatL [45] k = zG k 45 := by
 have := Lib.repeatL_replicate 45 1 k
 simpa using this
def c129 (svs : List SV) (b : Option SB) (K : Out -> Option SB -> Prop) : Prop := match svs, b with
 | [.ptr 0 0], some (.blk 94 [.str s, .nat i, .nat d, .bool a]) => s.length <= 1000000 /\ i <= s.length /\ Qy (QM s i) (fun v => i < v.2 /\ v.2 <= s.length /\ v.1.length <= 4 * (v.2 - i) -> K (.val (.tup [.str v.1, .nilif])) (some (.blk 94 [.str s, .nat v.2, .nat d, .bool a]))) (∀ j, K (.val (.tup [.str [], .ifx])) (some (.blk 94 [.str s, .nat j, .nat d, .bool a])))
 | _, _ => False
noncomputable def Qjt : Wk := ⟨[(71, .pure c71), (131, .plain c131), (142, .pure c142), (143, .pure c143)], Qp Tryz.f129, true, false, [.tmp 2, .tmp 3], [9, 71], [(2, 17)], []⟩
theorem Qf9 : Has 129 := hsf Tryz.f129
theorem Qhy {p q : Prop} (k : q) (h : p := by first | omega | (simp; done) | (simp; omega) | (simp; assumption) | (rw [Qc5, zZ]; omega)) : p /\ q := ⟨h, k⟩
theorem kzz6 {c0 p0 p1 p2 q : Prop} (k : q) (h : c0 -> p0 /\ p1 /\ p2 /\ True := by intro g0; (try simp at g0); exact ⟨(by first | omega | (simp; done) | (simp; omega) | (simp; assumption) | (rw [Qc5, zZ]; omega)), (by first | omega | (simp; done) | (simp; omega) | (simp; assumption) | (rw [Qc5, zZ]; omega)), (by first | omega | (simp; done) | (simp; omega) | (simp; assumption) | (rw [Qc5, zZ]; omega)), trivial⟩) : (c0 -> p0 /\ p1 /\ p2 /\ True) /\ q := ⟨h, k⟩
theorem Qi4 {c0 p0 q : Prop} (k : q) (h : c0 -> p0 /\ True := by intro g0; (try simp at g0); exact ⟨(by first | omega | (simp; done) | (simp; omega) | (simp; assumption) | (rw [Qc5, zZ]; omega)), trivial⟩) : (c0 -> p0 /\ True) /\ q := ⟨h, k⟩
theorem Qfq : Sat 129 c129 := by
 have hD : Qe Qjt.D := (Qe.cons Zo Zm (Qe.cons Qjc Qiy (Qe.cons Qtx Qr6 (Qe.cons Qtw Qr5 Qe.nil))))
 refine Qjt.sa hD Tryz.f129 fun svs b K hP => ?_
 unfold c129 at hP
 split at hP
 rename_i s i d a
 obtain ⟨h01, h02, hk⟩ := hP
 have L2 : ∀ (mm : Nat) (k : Nat), s.length - (i + k) = mm -> (i + k <= s.length /\ Yg s (i + k) = Yg s i) -> Qjt.L K 2 (mkS 80 [(0, (.ptr 0 0)), (4, (.nat k))] [(0, .blk 94 [(.str s), (.nat (i + k)), (.nat d), (.bool a)])] 1) := by
  intro mm
  induction mm using zl with
  | _ mm ih =>
   intro k hm hI
   obtain ⟨k1, k2⟩ := hI
   refine Qjt.aL hD (have a1 := decide (i + k < s.length); have a0 := a1 = true -> ((a1 == true) = true) /\ True; have a2 : Option SB := some (.blk 94 [(.str s), (.nat (i + k)), (.nat d), (.bool a)]); have a3 : Out := .val (.tup [(.str []), .ifx]); a0 /\ a0 /\ a0 /\ a0 /\ a0 /\ a0 /\ (a1 = true -> ((a1 == true) = true) /\ ((a1 == true) = true) /\ (i + k < s.length) /\ True) /\ a0 /\ (a1 = true -> (a1 == true) = true) /\ cond (a1 && (decide (bat s (i + k) = 45))) ((i + k + 1 <= 9223372036854775807) /\ (k + 1 <= 9223372036854775807) /\ (Qjt).L K 2 (mkS 80 [(0, (.ptr 0 0)), (4, (.nat (k + 1)))] [(0, .blk 94 [(.str s), (.nat (i + k + 1)), (.nat d), (.bool a)])] 1)) (cond (decide (s.length <= i + k)) (K a3 a2) ((i + k < s.length) /\ cond (!((QA (bat s (i + k))) || (decide (bat s (i + k) = 92)))) (K a3 a2) ((s.length <= 1000000) /\ (i + k <= s.length) /\ Qy (V1 s (i + k)) (fun v1 => (i + k < v1.2 /\ v1.2 <= s.length /\ v1.1.length <= 4 * (v1.2 - (i + k))) -> cond ((decide (0 < k)) || false) ((1 * k <= 140737488355328 /\ k <= 9223372036854775807) /\ ((Lib.repeatL [45] k).length + v1.1.length <= 2305843009213693952) /\ K (.val (.tup [(.str (Lib.repeatL [45] k ++ v1.1)), .nilif])) (some (.blk 94 [(.str s), (.nat v1.2), (.nat d), (.bool a)]))) (K (.val (.tup [(.str v1.1), .nilif])) (some (.blk 94 [(.str s), (.nat v1.2), (.nat d), (.bool a)])))) (∀ j2 : Nat, cond ((decide (0 < k)) && false) ((1 * k <= 140737488355328 /\ k <= 9223372036854775807) /\ ((Lib.repeatL [45] k).length + 0 <= 2305843009213693952) /\ K (.val (.tup [(.str (Lib.repeatL [45] k ++ [])), .ifx])) (some (.blk 94 [(.str s), (.nat j2), (.nat d), (.bool a)]))) (K a3 (some (.blk 94 [(.str s), (.nat j2), (.nat d), (.bool a)])))))))) ?_
   refine Qi4 (Qi4 (Qi4 (Qi4 (Qi4 (Qi4 (kzz6 (Qi4 (Qhy ?_))))))))
   refine Qc ?_ ?_ <;> intro h1 <;> try simp [-za, -zb] at h1
   refine Qhy (Qhy ?_)
   exact ih _ (by omega) (k + 1) rfl ⟨by omega, by show Yg s (i + k + 1) = Yg s i; rw [<- k2]; conv => rhs; rw [Yg, if_pos h1]⟩
   refine Qc (fun h2 => ?_) (fun h2 => ?_)
   try simp [-za, -zb] at h2
   have e : Yg s i = i + k := by rw [<- k2, Yg, if_neg (fun q => h1 q.1 q.2)]
   exact Qb hk (QaO e (.inl (by omega))) _
   try simp [-za, -zb] at h2
   refine Qhy ?_
   refine Qc ?_ ?_ <;> intro h3 <;> try simp [-za, -zb] at h3
   have e : Yg s i = i + k := by rw [<- k2, Yg, if_neg (fun q => h1 q.1 q.2)]
   exact Qb hk (QaO e (.inl (fun q => by rcases q.2 with q | q; rw [h3.1] at q; cases q; exact h3.2 q))) _
   refine Qhy (Qhy ?_)
   refine QK (fun v1 h4 => ?_) (fun h4 => ?_)
   intro h5
   try simp [-za, -zb] at h5
   refine Qc ?_ ?_ <;> intro h6 <;> try simp [-za, -zb] at h6
   refine Qhy (Qhy ?_)
   have e : Yg s i = i + k := by rw [<- k2, Yg, if_neg (fun q => h1 q.1 q.2)]
   have e2 := Qb1 (r := v1.1) (j := v1.2) e h2 (by cases q : QA (bat s (i + k)) with
    | true => exact .inl rfl
    | false => exact .inr (h3 q)) h4
   rw [<- Qc5, show i + k - i = k from by omega] at e2
   have q := Qj hk e2 ⟨by omega, by omega, by dsimp only; rw [zd, Qc5, zZ]; omega⟩
   exact q
   have e : Yg s i = i + k := by rw [<- k2, Yg, if_neg (fun q => h1 q.1 q.2)]
   have e2 := Qb1 (r := v1.1) (j := v1.2) e h2 (by cases q : QA (bat s (i + k)) with
    | true => exact .inl rfl
    | false => exact .inr (h3 q)) h4
   rw [show i + k - i = 0 from by omega, List.replicate_zero, zI] at e2
   have q := Qj hk e2 ⟨by omega, by omega, by dsimp only; omega⟩
   exact q
   intro j2
   refine Qc (fun h5 => ?_) (fun h5 => ?_)
   try simp [-za, -zb] at h5
   try simp [-za, -zb] at h5
   have e : Yg s i = i + k := by rw [<- k2, Yg, if_neg (fun q => h1 q.1 q.2)]
   exact Qb hk (QaO e (.inr h4)) _
 refine Qjt.en ((Qjt).L K 2 (mkS 80 [(0, (.ptr 0 0)), (4, (.nat 0))] [(0, .blk 94 [(.str s), (.nat i), (.nat d), (.bool a)])] 1)) ?_
 exact L2 _ 0 rfl ⟨h02, rfl⟩
 exact hP.elim
end
section
open Go Go.RowKit
set_option maxRecDepth 20000
structure St2 (s : Bs) (i j : Nat) (acc : Bs) : Prop where
 a : i < j
 b : j <= s.length
 n : acc.length <= 4 * (j - i)
 e : VI s (bat s i) j acc = Jk s i
theorem QkW {s : Bs} {q j : Nat} {acc : Bs} (h : s.length <= j) : VI s q j acc = none := by rw [VI, if_neg (by omega)]
theorem QoT {s : Bs} {q j : Nat} {acc : Bs} (h : j < s.length) (h1 : bat s j ≠ 92) (h2 : bat s j = q) : VI s q j acc = some (acc, j + 1) := by rw [VI, if_pos h, if_neg h1, if_pos h2]
theorem QcS {s : Bs} {q j : Nat} {acc : Bs} (h : j < s.length) (h1 : bat s j ≠ 92) (h2 : bat s j ≠ q) (h3 : YN (bat s j) = true) : VI s q j acc = none := by rw [VI, if_pos h, if_neg h1, if_neg h2, if_pos h3]
theorem Qmb {s : Bs} {q j : Nat} {acc : Bs} (h1 : bat s j = 92) (h2 : bat s (j + 1) = 13) (h3 : j + 2 < s.length /\ bat s (j + 2) = 10) : VI s q j acc = VI s q (j + 3) acc := by
 rw [VI, if_pos (by omega), if_pos h1, if_pos ⟨by omega, h2⟩, if_pos h3]
theorem QoS {s : Bs} {q j : Nat} {acc : Bs} (h0 : j + 1 < s.length) (h1 : bat s j = 92) (h2 : bat s (j + 1) = 13) (h3 : ¬ (j + 2 < s.length /\ bat s (j + 2) = 10)) : VI s q j acc = VI s q (j + 2) acc := by
 rw [VI, if_pos (by omega), if_pos h1, if_pos ⟨by omega, h2⟩, if_neg h3]
theorem QjB {s : Bs} {q j : Nat} {acc : Bs} (h0 : j + 1 < s.length) (h1 : bat s j = 92) (h2 : bat s (j + 1) = 10 \/ bat s (j + 1) = 12) : VI s q j acc = VI s q (j + 2) acc := by
 rw [VI, if_pos (by omega), if_pos h1, if_neg (by omega), if_pos ⟨h0, h2⟩]
theorem QgI {s : Bs} {q j : Nat} {acc : Bs} (h0 : j < s.length) (h1 : bat s j = 92) (h2 : ¬ (j + 1 < s.length /\ (bat s (j + 1) = 13 \/ bat s (j + 1) = 10 \/ bat s (j + 1) = 12))) {v : Bs} {k : Nat} (he : ZL s j = some (v, k)) : VI s q j acc = VI s q k (acc ++ v) := by
 rw [VI, if_pos h0, if_pos h1, if_neg (fun x => h2 ⟨x.1, .inl x.2⟩), if_neg (fun x => h2 ⟨x.1, .inr x.2⟩)]
 split
 rename_i x; rw [he] at x; cases x
 rename_i v' k' x; rw [he] at x; cases x; rfl
theorem QgJ {s : Bs} {q j : Nat} {acc : Bs} (h0 : j < s.length) (h1 : bat s j = 92) (h2 : ¬ (j + 1 < s.length /\ (bat s (j + 1) = 13 \/ bat s (j + 1) = 10 \/ bat s (j + 1) = 12))) (he : ZL s j = none) : VI s q j acc = none := by
 rw [VI, if_pos h0, if_pos h1, if_neg (fun x => h2 ⟨x.1, .inl x.2⟩), if_neg (fun x => h2 ⟨x.1, .inr x.2⟩)]
 split
 rfl
 rename_i v' k' x; rw [he] at x; cases x
def Qio (q c : Nat) : Bool := !(decide (c = q) || decide (c = 92) || YN c)
theorem strGo_run (s : Bs) (q i : Nat) (acc : Bs) : ∀ k, i + k <= s.length -> (∀ m, i <= m -> m < i + k -> Qio q (bat s m) = true) -> VI s q i acc = VI s q (i + k) (acc ++ (s.take (i + k)).drop i)
 | 0, h, hc => by simp
 | k + 1, h, hc => by
  have h5 := hc (i + k) (by omega) (by omega)
  simp only [Qio, zU, Bool.or_eq_false_iff, decide_eq_false_iff_not] at h5
  rw [strGo_run s q i acc k (by omega) (fun m h1 h2 => hc m h1 (by omega)), Law.strGo_chr (by omega) h5.1.2 h5.1.1 h5.2,
   Law.drop_take_succ s i k (by omega), zo]
  rfl
def c132 (svs : List SV) (b : Option SB) (K : Out -> Option SB -> Prop) : Prop := match svs, b with
 | [.ptr 0 0], some (.blk 94 [.str s, .nat i, .nat d, .bool a]) => s.length <= 1000000 /\ i <= s.length /\ Qy (Jk s i) (fun v => i < v.2 /\ v.2 <= s.length /\ v.1.length <= 4 * (v.2 - i) -> K (.val (.tup [.str v.1, .nilif])) (some (.blk 94 [.str s, .nat v.2, .nat d, .bool a]))) (∀ j, K (.val (.tup [.str [], .ifx])) (some (.blk 94 [.str s, .nat j, .nat d, .bool a])))
 | _, _ => False
noncomputable def Uv : Wk := ⟨[(71, .pure c71), (145, .plain c145)], Qp Tryz.f132, true, false, [.tmp 2, .tmp 3], [9, 71], [(6, 53), (9, 565)], []⟩
theorem QnQ : Has 132 := hsf Tryz.f132
theorem laz1 {c0 p0 q : Prop} (k : q) (h : c0 -> p0 /\ True := by intro g0; (try simp at g0); exact ⟨(by first | omega | (simp; done) | (simp; omega) | (simp; assumption)), trivial⟩) : (c0 -> p0 /\ True) /\ q := ⟨h, k⟩
theorem ZK {p q : Prop} (k : q) (h : p := by first | omega | (simp; done) | (simp; omega) | (simp; assumption)) : p /\ q := ⟨h, k⟩
theorem Qmx : Sat 132 c132 := by
 have hD : Qe Uv.D := (Qe.cons Zo Zm (Qe.cons QnP Qmw Qe.nil))
 refine Uv.sa hD Tryz.f132 fun svs b K hP => ?_
 unfold c132 at hP
 split at hP
 rename_i s i d a
 obtain ⟨h01, h02, hk⟩ := hP
 have L9 : ∀ (mm : Nat) (b j st : Nat) (acc : Bs), s.length - j = mm -> (St2 s i st acc /\ st <= j /\ j <= s.length /\ (st < s.length /\ Qio (bat s i) (bat s st) = true) /\ (∀ m, st <= m -> m < j -> Qio (bat s i) (bat s m) = true) /\ ∀ b' j' acc', s.length - j' < s.length - st -> St2 s i j' acc' -> Uv.L K 6 (mkS 176 [(0, (.ptr 0 0)), (2, (.str acc')), (4, (.nat j')), (5, (.byt (s.getD i 0)))] [(0, .blk 94 [(.str s), (.nat b'), (.nat d), (.bool a)])] 1)) -> Uv.L K 9 (mkS 176 [(0, (.ptr 0 0)), (2, (.str acc)), (4, (.nat j)), (5, (.byt (s.getD i 0))), (9, (.nat st))] [(0, .blk 94 [(.str s), (.nat b), (.nat d), (.bool a)])] 1) := by
  intro mm
  induction mm using zl with
  | _ mm ih =>
   intro b j st acc hm hI
   obtain ⟨⟨k1, k2, k3, k4⟩, k5, k6, k7, k8, ih3⟩ := hI
   have kc := Zg (a := st) k6
   refine Uv.aL hD (have a0 := mkS 176 [(0, (.ptr 0 0)), (2, (.str (acc ++ ((s.take j).drop st)))), (4, (.nat j)), (5, (.byt (s.getD i 0)))] [(0, .blk 94 [(.str s), (.nat b), (.nat d), (.bool a)])] 1; have a1 := acc.length + ((s.take j).drop st).length <= 2305843009213693952; cond (decide (j < s.length)) ((j < s.length) /\ cond (((((decide (bat s j = bat s i)) || (decide (bat s j = 92))) || (decide (bat s j = 13))) || (decide (bat s j = 10))) || (decide (bat s j = 12))) ((st <= j /\ j <= s.length) /\ a1 /\ (Uv).L K 6 a0) ((j + 1 <= 9223372036854775807) /\ (Uv).L K 9 (mkS 176 [(0, (.ptr 0 0)), (2, (.str acc)), (4, (.nat (j + 1))), (5, (.byt (s.getD i 0))), (9, (.nat st))] [(0, .blk 94 [(.str s), (.nat b), (.nat d), (.bool a)])] 1))) ((st <= j /\ j <= s.length) /\ a1 /\ (Uv).L K 6 a0)) ?_
   refine Qc ?_ ?_ <;> intro h1 <;> try simp [-za, -zb] at h1
   refine ZK ?_
   refine Qc ?_ ?_ <;> intro h2 <;> try simp [-za, -zb] at h2
   refine ZK (ZK ?_)
   have hj : st < j := by
    rcases Nat.lt_or_ge st j with q | q
    exact q
    have e : j = st := by omega
    rw [e] at h2
    have q2 := k7.2
    simp [Qio, YN] at q2
    omega
   have e := strGo_run s (bat s i) st acc (j - st) (by omega) (fun m a c => k8 m a (by omega))
   rw [show st + (j - st) = j from by omega] at e
   exact ih3 b j (acc ++ (s.take j).drop st) (by omega) ⟨by omega, by omega, by rw [zd, kc]; omega, by rw [<- k4, e]⟩
   refine ZK ?_
   exact ih _ (by omega) b (j + 1) st acc rfl ⟨⟨k1, k2, k3, k4⟩, by omega, by omega, k7, fun m a c => by
    by_cases e : m = j
    rw [e]; simp [Qio, YN]; omega
    exact k8 m a (by omega), ih3⟩
   refine ZK (ZK ?_)
   have e := strGo_run s (bat s i) st acc (j - st) (by omega) (fun m a c => k8 m a (by omega))
   rw [show st + (j - st) = j from by omega] at e
   exact ih3 b j (acc ++ (s.take j).drop st) (by omega) ⟨by omega, by omega, by rw [zd, kc]; omega, by rw [<- k4, e]⟩
 have L6 : ∀ (mm : Nat) (b j : Nat) (acc : Bs), s.length - j = mm -> (St2 s i j acc) -> Uv.L K 6 (mkS 176 [(0, (.ptr 0 0)), (2, (.str acc)), (4, (.nat j)), (5, (.byt (s.getD i 0)))] [(0, .blk 94 [(.str s), (.nat b), (.nat d), (.bool a)])] 1) := by
  intro mm
  induction mm using zl with
  | _ mm ih =>
   intro b j acc hm hI
   obtain ⟨k1, k2, k3, k4⟩ := hI
   refine Uv.aL hD (have a1 : Option SB := some (.blk 94 [(.str s), (.nat b), (.nat d), (.bool a)]); have a2 : Out := .val (.tup [(.str []), .ifx]); have a3 := j + 2 <= 9223372036854775807; have a4 := j + 1 <= 9223372036854775807; have a5 : Option SB := some (.blk 94 [(.str s), (.nat (j + 1)), (.nat d), (.bool a)]); have a6 := decide (j + 2 < s.length); have a7 : SV := .byt (s.getD i 0); have a0 := mkS 176 [(0, (.ptr 0 0)), (2, (.str acc)), (4, (.nat (j + 2))), (5, a7)] [(0, .blk 94 [(.str s), (.nat b), (.nat d), (.bool a)])] 1; cond (decide (j < s.length)) ((j < s.length) /\ cond (decide (bat s j = 92)) (a4 /\ cond (decide (j + 1 < s.length)) (a4 /\ (j + 1 < s.length) /\ cond (decide (bat s (j + 1) = 13)) (a3 /\ (a6 = true -> a3 /\ True) /\ (a6 = true -> (j + 2 < s.length) /\ True) /\ cond (a6 && (decide (bat s (j + 2) = 10))) ((j + 3 <= 9223372036854775807) /\ (Uv).L K 6 (mkS 176 [(0, (.ptr 0 0)), (2, (.str acc)), (4, (.nat (j + 3))), (5, a7)] [(0, .blk 94 [(.str s), (.nat b), (.nat d), (.bool a)])] 1)) (a3 /\ (Uv).L K 6 a0)) (cond (decide (bat s (j + 1) = 10)) (a3 /\ (Uv).L K 6 a0) (cond (decide (bat s (j + 1) = 12)) (a3 /\ (Uv).L K 6 a0) ((s.length <= 1000000) /\ (j <= s.length) /\ Qy (ZL s j) (fun v1 => (j < v1.2 /\ v1.2 <= s.length /\ v1.1.length <= 4 * (v1.2 - j)) -> (acc.length + v1.1.length <= 2305843009213693952) /\ (Uv).L K 6 (mkS 176 [(0, (.ptr 0 0)), (2, (.str (acc ++ v1.1))), (4, (.nat v1.2)), (5, a7)] [(0, .blk 94 [(.str s), (.nat v1.2), (.nat d), (.bool a)])] 1)) (∀ j2 : Nat, K a2 (some (.blk 94 [(.str s), (.nat j2), (.nat d), (.bool a)]))))))) ((s.length <= 1000000) /\ (j <= s.length) /\ Qy (ZL s j) (fun v3 => (j < v3.2 /\ v3.2 <= s.length /\ v3.1.length <= 4 * (v3.2 - j)) -> (acc.length + v3.1.length <= 2305843009213693952) /\ (Uv).L K 6 (mkS 176 [(0, (.ptr 0 0)), (2, (.str (acc ++ v3.1))), (4, (.nat v3.2)), (5, a7)] [(0, .blk 94 [(.str s), (.nat v3.2), (.nat d), (.bool a)])] 1)) (∀ j4 : Nat, K a2 (some (.blk 94 [(.str s), (.nat j4), (.nat d), (.bool a)]))))) (cond (decide (bat s j = bat s i)) (cond (decide (s.length <= j)) (K a2 a1) (a4 /\ K (.val (.tup [(.str acc), .nilif])) a5)) (cond (decide (bat s j = 13)) (K a2 a1) (cond (decide (bat s j = 10)) (K a2 a1) (cond (decide (bat s j = 12)) (K a2 a1) ((Uv).L K 9 (mkS 176 [(0, (.ptr 0 0)), (2, (.str acc)), (4, (.nat j)), (5, a7), (9, (.nat j))] [(0, .blk 94 [(.str s), (.nat b), (.nat d), (.bool a)])] 1))))))) (cond (decide (s.length <= j)) (K a2 a1) (a4 /\ K (.val (.tup [(.str acc), .nilif])) a5))) ?_
   refine Qc ?_ ?_ <;> intro h1 <;> try simp [-za, -zb] at h1
   refine ZK ?_
   refine Qc ?_ ?_ <;> intro h2 <;> try simp [-za, -zb] at h2
   refine ZK ?_
   refine Qc ?_ ?_ <;> intro h3 <;> try simp [-za, -zb] at h3
   refine ZK (ZK ?_)
   refine Qc ?_ ?_ <;> intro h4 <;> try simp [-za, -zb] at h4
   refine ZK (laz1 (laz1 ?_))
   refine Qc ?_ ?_ <;> intro h5 <;> try simp [-za, -zb] at h5
   refine ZK ?_
   exact ih _ (by omega) b (j + 3) acc rfl ⟨by omega, by omega, by omega, by rw [<- k4, Qmb h2 h4 h5]⟩
   refine ZK ?_
   exact ih _ (by omega) b (j + 2) acc rfl ⟨by omega, by omega, by omega, by rw [<- k4, QoS h3 h2 h4 (fun q => h5 q.1 q.2)]⟩
   refine Qc (fun h5 => ?_) (fun h5 => ?_)
   try simp [-za, -zb] at h5
   refine ZK ?_
   exact ih _ (by omega) b (j + 2) acc rfl ⟨by omega, by omega, by omega, by rw [<- k4, QjB h3 h2 (.inl h5)]⟩
   try simp [-za, -zb] at h5
   refine Qc ?_ ?_ <;> intro h6 <;> try simp [-za, -zb] at h6
   refine ZK ?_
   exact ih _ (by omega) b (j + 2) acc rfl ⟨by omega, by omega, by omega, by rw [<- k4, QjB h3 h2 (.inr h6)]⟩
   refine ZK (ZK ?_)
   refine QK (fun v1 h7 => ?_) (fun h7 => ?_)
   intro h8
   try simp [-za, -zb] at h8
   refine ZK ?_
   exact ih _ (by omega) v1.2 v1.2 (acc ++ v1.1) rfl ⟨by omega, by omega, by rw [zd]; omega, by rw [<- k4, QgI h1 h2 (by omega) (v := v1.1) (k := v1.2) h7]⟩
   intro j2
   exact Qb hk (by rw [<- k4]; exact QgJ h1 h2 (by omega) h7) _
   refine ZK (ZK ?_)
   refine QK (fun v3 h4 => ?_) (fun h4 => ?_)
   intro h5
   try simp [-za, -zb] at h5
   refine ZK ?_
   exact ih _ (by omega) v3.2 v3.2 (acc ++ v3.1) rfl ⟨by omega, by omega, by rw [zd]; omega, by rw [<- k4, QgI h1 h2 (by omega) (v := v3.1) (k := v3.2) h4]⟩
   intro j4
   exact Qb hk (by rw [<- k4]; exact QgJ h1 h2 (by omega) h4) _
   refine Qc (fun h3 => ?_) (fun h3 => ?_)
   try simp [-za, -zb] at h3
   refine Qc ?_ ?_ <;> intro h4 <;> try simp [-za, -zb] at h4
   exfalso
   omega
   refine ZK ?_
   have q := Qj hk (k4.symm.trans (QoT h1 h2 h3)) ⟨by dsimp only; omega, by dsimp only; omega, by dsimp only; omega⟩
   dsimp only at q
   exact q
   try simp [-za, -zb] at h3
   refine Qc ?_ ?_ <;> intro h4 <;> try simp [-za, -zb] at h4
   exact Qb hk (by rw [<- k4]; exact QcS h1 h2 h3 (by simp [YN]; omega)) _
   refine Qc (fun h5 => ?_) (fun h5 => ?_)
   try simp [-za, -zb] at h5
   exact Qb hk (by rw [<- k4]; exact QcS h1 h2 h3 (by simp [YN]; omega)) _
   try simp [-za, -zb] at h5
   refine Qc ?_ ?_ <;> intro h6 <;> try simp [-za, -zb] at h6
   exact Qb hk (by rw [<- k4]; exact QcS h1 h2 h3 (by simp [YN]; omega)) _
   exact L9 _ b j j acc rfl ⟨⟨k1, k2, k3, k4⟩, zq _, k2, ⟨h1, by simp [Qio, YN]; omega⟩, fun m a c => by omega, fun b' j' acc' hlt h' => ih _ (by omega) b' j' acc' rfl h'⟩
   refine Qc (fun h2 => ?_) (fun h2 => ?_)
   try simp [-za, -zb] at h2
   exact Qb hk (by rw [<- k4]; exact QkW h1) _
   try simp [-za, -zb] at h2
   refine ZK ?_
   exfalso
   omega
 refine Uv.en ((i + 2 <= 9223372036854775807) /\ cond (decide (s.length < i + 2)) (K (.val (.tup [(.str []), .ifx])) (some (.blk 94 [(.str s), (.nat i), (.nat d), (.bool a)]))) ((i < s.length) /\ (i + 1 <= 9223372036854775807) /\ (Uv).L K 6 (mkS 176 [(0, (.ptr 0 0)), (2, (.str [])), (4, (.nat (i + 1))), (5, (.byt (s.getD i 0)))] [(0, .blk 94 [(.str s), (.nat i), (.nat d), (.bool a)])] 1))) ?_
 refine ZK ?_
 refine Qc ?_ ?_ <;> intro h1 <;> try simp [-za, -zb] at h1
 exact Qb hk (by unfold Jk; rw [if_pos h1]) _
 refine ZK (ZK ?_)
 exact L6 _ i (i + 1) [] rfl ⟨by omega, by omega, by simp, by unfold Jk; rw [if_neg (by omega)]⟩
 exact hP.elim
def Yc (s : Bs) (i : Nat) : Option (Nat × Nat) :=
 if V9 s i = i then none
 else if Yx ((s.take (V9 s i)).drop i) <= 9223372036854775807 then some (Yx ((s.take (V9 s i)).drop i), V9 s i) else none
theorem Q5 (s : Bs) (i : Nat) : Qdw s i = (Yc s i).map fun p => ((p.1 : Int), p.2) := by
 unfold Qdw Yc
 split
 rfl
 split <;> rfl
theorem QlG {s : Bs} {i : Nat} (h : i < s.length /\ Qw (bat s i) = true) : V9 s i = V9 s (i + 1) := by
 conv => lhs; rw [V9, if_pos h]
theorem QbL {s : Bs} {i : Nat} (h : ¬ (i < s.length /\ Qw (bat s i) = true)) : V9 s i = i := by
 rw [V9, if_neg h]
theorem Qqb {s : Bs} {a e : Nat} {c : UInt8} (h : c ∈ (s.take e).drop a) : ∃ m, a <= m /\ m < e /\ c.toNat = bat s m := by
 obtain ⟨n, hn, rfl⟩ := List.getElem_of_mem h
 simp only [zj, zk] at hn
 refine ⟨a + n, by omega, by omega, ?_⟩
 have : bat s (a + n) = (s[a + n]).toNat := by
  unfold bat; rw [za, zi (by omega)]; rfl
 rw [this]
 simp
def c146 (svs : List SV) (b : Option SB) (K : Out -> Option SB -> Prop) : Prop := match svs, b with
 | [.ptr 0 0], some (.blk 94 [.str s, .nat i, .nat d, .bool a]) => s.length <= 1000000 /\ i <= s.length /\ Qy (Yc s i) (fun v => i < v.2 /\ v.2 <= s.length /\ v.1 <= 9223372036854775807 -> K (.val (.tup [.nat v.1, .nilif])) (some (.blk 94 [.str s, .nat v.2, .nat d, .bool a]))) (∀ j, K (.val (.tup [.nat 0, .ifx])) (some (.blk 94 [.str s, .nat j, .nat d, .bool a])))
 | _, _ => False
noncomputable def Qjr : Wk := ⟨[(71, .pure c71), (153, .plain c153)], Qp Tryz.f146, true, false, [.tmp 2, .tmp 3], [3, 71], [(3, 49)], []⟩
theorem Qtu : Has 146 := hsf Tryz.f146
theorem Qnq {p q : Prop} (k : q) (h : p := by first | omega | (simp; done) | (simp; omega) | (simp; assumption) | (rw [kc]; omega) | exact kd) : p /\ q := ⟨h, k⟩
theorem laz2 {c0 p0 q : Prop} (k : q) (h : c0 -> p0 /\ True := by intro g0; (try simp at g0); exact ⟨(by first | omega | (simp; done) | (simp; omega) | (simp; assumption) | (rw [kc]; omega) | exact kd), trivial⟩) : (c0 -> p0 /\ True) /\ q := ⟨h, k⟩
theorem Qr3 : Sat 146 c146 := by
 have hD : Qe Qjr.D := (Qe.cons Zo Zm (Qe.cons Qtr Qr0 Qe.nil))
 refine Qjr.sa hD Tryz.f146 fun svs b K hP => ?_
 unfold c146 at hP
 split at hP
 rename_i s i d a
 obtain ⟨h01, h02, hk⟩ := hP
 have L3 : ∀ (mm : Nat) (j : Nat), s.length - j = mm -> (i <= j /\ j <= s.length /\ V9 s j = V9 s i /\ ∀ m, i <= m -> m < j -> Qw (bat s m) = true) -> Qjr.L K 3 (mkS 63 [(0, (.ptr 0 0)), (4, (.nat j)), (5, (.nat i))] [(0, .blk 94 [(.str s), (.nat i), (.nat d), (.bool a)])] 1) := by
  intro mm
  induction mm using zl with
  | _ mm ih =>
   intro j hm hI
   obtain ⟨k1, k2, k3, k4⟩ := hI
   have kc := Zg (a := i) k2
   have kd : ∀ c ∈ (s.take j).drop i, Qw c.toNat = true := fun c hc => by
    obtain ⟨m, q1, q2, q3⟩ := Qqb hc
    rw [q3]; exact k4 m q1 q2
   refine Qjr.aL hD (have a0 := (s.take j).drop i; have a1 : Option SB := some (.blk 94 [(.str s), (.nat j), (.nat d), (.bool a)]); have a2 := (decide (j < s.length)) && (decide (48 <= bat s j)); ((decide (j < s.length)) = true -> (j < s.length) /\ True) /\ (a2 = true -> (j < s.length) /\ True) /\ cond (a2 && (decide (bat s j <= 57))) ((j + 1 <= 9223372036854775807) /\ (Qjr).L K 3 (mkS 63 [(0, (.ptr 0 0)), (4, (.nat (j + 1))), (5, (.nat i))] [(0, .blk 94 [(.str s), (.nat i), (.nat d), (.bool a)])] 1)) (cond (decide (j = i)) (K (.val (.tup [(.nat 0), .ifx])) (some (.blk 94 [(.str s), (.nat i), (.nat d), (.bool a)]))) ((i <= j /\ j <= s.length) /\ (a0.length <= 1000000) /\ (0 < a0.length) /\ (∀ c ∈ a0, Qw c.toNat = true) /\ cond (decide (Yx a0 <= 9223372036854775807)) (K (.val (.tup [(.nat (Yx a0)), .nilif])) a1) (∀ n1 : Int, K (.val (.tup [(.nat 0), .ifx])) a1)))) ?_
   refine laz2 (laz2 ?_)
   refine Qc ?_ ?_ <;> intro h1 <;> try simp [-za, -zb] at h1
   refine Qnq ?_
   exact ih _ (by omega) (j + 1) rfl ⟨by omega, by omega, by rw [<- k3, QlG (s := s) (i := j) ⟨h1.1.1, by simp [Qw]; omega⟩], fun m a c => by
    by_cases e : m = j
    rw [e]; simp [Qw]; omega
    exact k4 m a (by omega)⟩
   refine Qc (fun h2 => ?_) (fun h2 => ?_)
   try simp [-za, -zb] at h2
   have e : V9 s i = j := by rw [<- k3, QbL (fun q => by simp only [Qw, zh, decide_eq_true_eq] at q; have := h1 q.1 q.2.1; omega)]
   exact Qb hk (by unfold Yc; rw [e, if_pos h2]) _
   try simp [-za, -zb] at h2
   refine Qnq (Qnq (Qnq (Qnq ?_)))
   refine Qc ?_ ?_ <;> intro h3 <;> try simp [-za, -zb] at h3
   have e : V9 s i = j := by rw [<- k3, QbL (fun q => by simp only [Qw, zh, decide_eq_true_eq] at q; have := h1 q.1 q.2.1; omega)]
   have q := Qj hk (show Yc s i = some (Yx ((s.take j).drop i), j) from by unfold Yc; rw [e, if_neg h2, if_pos h3]) ⟨by dsimp only; omega, by dsimp only; omega, by dsimp only; omega⟩
   dsimp only at q
   exact q
   intro n1
   have e : V9 s i = j := by rw [<- k3, QbL (fun q => by simp only [Qw, zh, decide_eq_true_eq] at q; have := h1 q.1 q.2.1; omega)]
   exact Qb hk (by unfold Yc; rw [e, if_neg h2, if_neg (by omega)]) _
 refine Qjr.en ((Qjr).L K 3 (mkS 63 [(0, (.ptr 0 0)), (4, (.nat i)), (5, (.nat i))] [(0, .blk 94 [(.str s), (.nat i), (.nat d), (.bool a)])] 1)) ?_
 exact L3 _ i rfl ⟨zq _, h02, rfl, fun m a c => by omega⟩
 exact hP.elim
end
end Go.Proofs.YtengepcafdnalaaGreatDoor
