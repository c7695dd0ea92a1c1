/-
  Parts of the proof that the law FnParseExact holds for every input (texts Ke). Conditions: none.
-/
import Derived.Test.YtengepcafdnalaaGreatDoorM24
namespace Go.Proofs.YtengepcafdnalaaGreatDoor
section
open Go Go.RowKit
set_option maxRecDepth 20000
theorem skip_cr {s : Bs} {e : Nat} (h : hereB s [13, 10] e = true) : skipOne s e = e + 2 := by
 have q := (here2 s e 13 10 (by decide)).symm.trans h
 simp at q
 have := bat_lt q.2 (by decide)
 unfold skipOne
 rw [if_pos (by omega), if_pos q.1, if_pos ⟨by omega, q.2⟩]
theorem skip_ws {s : Bs} {e : Nat} (h : hereB s [13, 10] e = false) (hw : isWs (bat s e) = true) : skipOne s e = e + 1 := by
 have q := (here2 s e 13 10 (by decide)).symm.trans h
 simp at q
 have hl : e < s.length := by
  by_cases hl : e < s.length
  · exact hl
  rw [show bat s e = 0 from by unfold bat; simp [List.getD_eq_getElem?_getD, List.getElem?_eq_none (show s.length ≤ e from by omega)]] at hw
  cases hw
 unfold skipOne
 rw [if_pos hl]
 split
 · rename_i h1; rw [if_neg (fun h2 => q h1 h2.2)]
 first | rfl | rw [if_pos hw]
theorem skip_no {s : Bs} {e : Nat} (hw : isWs (bat s e) = false) : skipOne s e = e := by
 unfold skipOne
 split
 · rw [if_neg (by rintro h; rw [h] at hw; cases hw), if_neg (by rw [hw]; simp)]
 rfl
theorem point_le (s : Bs) (i : Nat) (h : i < s.length) : i + (point s i).2 ≤ s.length := by
 unfold point
 split
 · show i + 1 ≤ _; omega
 split
 · exact Nat.le_of_lt h
 rename_i h2
 split
 · exact Nat.le_of_lt h
 split
 · exact Nat.le_of_lt h
 show i + (pointM (bat s i)).2.1 ≤ _; omega
theorem escF_lt {s : Bs} {p : Nat} (h : escF s p = true) : p + 1 < s.length ∧ bat s p = 92 ∧ isNl (bat s (p + 1)) = false := by
 simpa [escF, and_assoc] using h
theorem sEsc_le {s : Bs} {t : RS} (h : escF s t.p = true) : (sEsc s t).2.p ≤ s.length := by
 have h0 := escF_lt h
 have h1 := point_le s (t.p + 1) h0.1
 have h2 := hexEnd_le s 6 (t.p + 1) (by omega)
 have h3 := skipOne_le s _ h2
 unfold sEsc
 repeat' split
 · exact h1
 · exact h3
 exact h3
theorem sRest_le (s : Bs) (t : RS) (acc : Bs) (h : t.p ≤ s.length + 1) : (sRest s t acc).2.p ≤ s.length + 1 := by
 fun_induction sRest s t acc with
 | case1 t acc h1 h2 ih => exact ih (by simp only [RS.go_p]; omega)
 | case2 t acc h1 h2 h3 ih => exact ih (Nat.le_succ_of_le (sEsc_le h3))
 | case3 => exact h
 | case4 => exact h
theorem sName_le (s : Bs) (t : RS) (h : t.p ≤ s.length + 1) : (sName s t).2.p ≤ s.length + 1 := by
 unfold sName
 split
 · exact sRest_le s _ _ h
 exact h
theorem sHash_le (s : Bs) (t : RS) (h : t.p ≤ s.length + 1) : (sHash s t).2.p ≤ s.length + 1 := by
 unfold sHash
 repeat' split
 all_goals first | exact sRest_le s _ _ h | exact h
theorem sStrGo_le (s : Bs) (q : Nat) (t : RS) (acc : Bs) (h : t.p ≤ s.length + 1) : (sStrGo s q t acc).2.p ≤ s.length + 1 := by
 fun_induction sStrGo s q t acc with
 | case1 => simp only [RS.go_p]; omega
 | case2 => exact h
 | case3 t acc h1 h2 h3 h4 ih => exact ih (by simp only [RS.go_p]; omega)
 | case4 t acc h1 h2 h3 h4 h5 ih => exact ih (Nat.le_succ_of_le (sEsc_le h5))
 | case5 t acc h1 h2 h3 h4 h5 ih => exact ih (by simp only [RS.go_p]; split <;> omega)
 | case6 => exact h
theorem sValue_le (s : Bs) (t : RS) (h : t.p < s.length ∨ t.p ≤ s.length + 1 ∧ isQ (bat s t.p) = false) : (sValue s t).2.p ≤ s.length + 1 := by
 unfold sValue
 split
 · rename_i hq
   rcases h with h | ⟨h, h'⟩
   · exact sStrGo_le s _ _ _ (by simp only [RS.go_p]; omega)
   rw [hq] at h'; cases h'
 exact sName_le s _ (by rcases h with h | ⟨h, _⟩ <;> simp only [RS.unI_p] <;> omega)
theorem cut_snoc (s : Bs) (i j : Nat) (h : i ≤ j) (hj : j < s.length) : (s.take (j + 1)).drop i = (s.take j).drop i ++ [s.getD j 0] := by
 rw [List.take_add_one, List.drop_append_of_le_length (by simp; omega)]
 simp [List.getD_eq_getElem?_getD, List.getElem?_eq_getElem hj]
theorem cut_nil (s : Bs) (i : Nat) : (s.take i).drop i = [] := by
 rw [List.drop_eq_nil_iff]; simp; omega
theorem cut1 {s : Bs} {i : Nat} (h : i < s.length) : (s.take (i + 1)).drop i = [s.getD i 0] := by
 rw [cut_snoc s i i (Nat.le_refl _) h, cut_nil]; rfl
theorem utf8_le (n : Int) : (utf8 n).length ≤ 4 := by
 unfold utf8 Utf8.encode
 simp only
 repeat' split
 all_goals simp
theorem point_n4 (s : Bs) (i : Nat) : (point s i).2 ≤ 4 := by
 have hm : ∀ b, (pointM b).2.1 ≤ 4 := by intro b; unfold pointM; repeat' split
                                         all_goals simp
 rw [point.eq_1]
 split
 · exact (by decide : 1 ≤ 4)
 split
 · exact Nat.zero_le _
 split
 · exact Nat.zero_le _
 split
 · exact Nat.zero_le _
 exact hm _
theorem sEsc_n4 (s : Bs) (t : RS) : (sEsc s t).1.length ≤ 4 := by
 unfold sEsc
 split
 · have := point_n4 s (t.p + 1)
   simp only [List.length_drop, List.length_take]; omega
 split
 · dsimp only; exact utf8_le _
 exact Nat.zero_le _
theorem sRest_ch {s : Bs} {t : RS} {acc : Bs} (h : t.p < s.length) (hb : t.bad = false) (hc : nmChar (bat s t.p) = true) : sRest s t acc = sRest s (t.go (t.p + 1)) (acc ++ [s.getD t.p 0]) := by
 conv => lhs; unfold sRest
 rw [if_pos ⟨h, hb⟩, if_pos hc]
theorem sRest_es {s : Bs} {t : RS} {acc : Bs} (h : t.p < s.length) (hb : t.bad = false) (hc : nmChar (bat s t.p) = false) (he : escF s t.p = true) : sRest s t acc = sRest s (sEsc s t).2 (acc ++ (sEsc s t).1) := by
 conv => lhs; unfold sRest
 rw [if_pos ⟨h, hb⟩, if_neg (by rw [hc]; simp), if_pos he]
theorem sRest_st {s : Bs} {t : RS} {acc : Bs} (h : t.p < s.length → t.bad = false → nmChar (bat s t.p) = false ∧ escF s t.p = false) : sRest s t acc = (acc, t) := by
 unfold sRest
 split
 · rename_i q
   rw [if_neg (by rw [(h q.1 q.2).1]; simp), if_neg (by rw [(h q.1 q.2).2]; simp)]
 rfl
theorem hexVal_snoc (l : Bs) (c : UInt8) : hexVal (l ++ [c]) = 16 * hexVal l + hexOf c.toNat := by simp [hexVal]
theorem hexOf_lt {c : Nat} (h : hexDig c = true) : hexOf c < 16 := by
 simp [hexDig] at h
 unfold hexOf
 repeat' split
 all_goals omega
theorem hexEnd_go {s : Bs} {k i : Nat} (h : i < s.length) (hd : hexDig (bat s i) = true) : hexEnd s (k + 1) i = hexEnd s k (i + 1) := by
 conv => lhs; unfold hexEnd
 rw [if_pos ⟨h, hd⟩]
theorem hexEnd_st {s : Bs} {k i : Nat} (h : hexDig (bat s i) = false) : hexEnd s k i = i := by
 cases k with
 | zero => rfl
 | succ k => unfold hexEnd; rw [if_neg (by rw [h]; simp)]
theorem bat_out {s : Bs} {i : Nat} (h : s.length ≤ i) : bat s i = 0 := by
 unfold bat
 simp [List.getD_eq_getElem?_getD, List.getElem?_eq_none h]
theorem hexDig_in {s : Bs} {i : Nat} (h : hexDig (bat s i) = true) : i < s.length := by
 by_cases hl : i < s.length
 · exact hl
 rw [bat_out (by omega)] at h; cases h
theorem hexEnd_z {s : Bs} {k i : Nat} (h : k = 0) : hexEnd s k i = i := by subst h; rfl
def c22 (svs : List SV) (b : Option SB) : QR := match svs, b with
 | [.str s], none => some ([s.length ≤ 1000000], .bool (readGo s 0))
 | _, _ => none
noncomputable def W22 : Wk := ⟨[(41, .pure c41)], bodyOf Tryz.f22, false, false, [.tmp 2], [4], [(2, 9)], []⟩
theorem has22 : Has 22 := Has.of (fn := Tryz.f22) (by kernel_rfl) (by kernel_rfl) (by kernel_rfl)
theorem kez0 {p q : Prop} (k : q) (h : p := by first | omega | (have := hpt (by omega); omega) | (simp; omega)) : p ∧ q := ⟨h, k⟩
theorem sat22 : Sat 22 (pureS c22) := by
 have hD : CxOk W22.D := (CxOk.cons has41 sat41 CxOk.nil)
 refine W22.sat hD (fn := Tryz.f22) (by kernel_rfl) (by kernel_rfl) (by kernel_rfl) (by decide) fun svs b K hP => ?_
 obtain ⟨ps, v, e, hp, hk⟩ := pureS_inv hP
 unfold c22 at e
 split at e
 · rename_i s
   cases e
   obtain ⟨h01, _⟩ := hp
   have L2 : ∀ (mm : Nat) (i : Nat), s.length - i = mm → i ≤ s.length ∧ readGo s i = readGo s 0 → W22.L K 2 (mkS 29 [(0, (.str s)), (3, (.nat i))] [] 1) := by
    intro mm
    induction mm using Nat.strongRecOn with
    | _ mm ih =>
     intro i hm hI
     have hpt := fun h => point_le s i h
     refine W22.atL hD (X := cond (decide (i < s.length)) ((s.length ≤ 1000000) ∧ (i < s.length) ∧ cond (((decide ((point s i).2 = 0)) || (decide ((point s i).1 = 0))) || (decide ((point s i).1 = 65279))) (K (.val (.bool false)) none) ((i + (point s i).2 ≤ 9223372036854775807) ∧ (W22).L K 2 (mkS 29 [(0, (.str s)), (3, (.nat (i + (point s i).2)))] [] 1))) (K (.val (.bool true)) none)) (by kernel_rfl) ?_
     refine cndI ?_ ?_ <;> intro h1 <;> simp -failIfUnchanged [-List.getD_eq_getElem?_getD] at h1
     · refine kez0 (kez0 ?_)
       refine cndI ?_ ?_ <;> intro h2 <;> simp -failIfUnchanged [-List.getD_eq_getElem?_getD] at h2
       · have e : readGo s i = false := by unfold readGo; rw [if_pos (by omega), dif_pos (by omega)]
         rw [← hI.2, e] at hk
         exact hk
       refine kez0 ?_
       have e : readGo s i = readGo s (i + (point s i).2) := by
        conv => lhs; unfold readGo
        rw [if_pos (by omega), dif_neg (by omega)]
       have := hpt (by omega)
       exact ih _ (by omega) _ rfl ⟨by omega, by rw [← e]; exact hI.2⟩
     have e : readGo s i = true := by unfold readGo; rw [if_neg (by omega)]
     rw [← hI.2, e] at hk
     exact hk
   refine W22.entry rfl (X := (W22).L K 2 (mkS 29 [(0, (.str s)), (3, (.nat 0))] [] 1)) (by kernel_rfl) ?_
   exact L2 _ _ rfl ⟨by omega, rfl⟩
 cases e
def c122 (svs : List SV) (b : Option SB) : FR := match svs, b with
 | [.ptr 0 0], some (.blk 46 [.str s, .nat p, .bool bad, .bool un, .bool ps]) => some ([s.length ≤ 1000000, p ≤ s.length + 1, escF s p = true], .val (.str (sEsc s ⟨p, bad, un⟩).1),
  some (.blk 46 [.str s, .nat (sEsc s ⟨p, bad, un⟩).2.p, .bool (sEsc s ⟨p, bad, un⟩).2.bad, .bool (sEsc s ⟨p, bad, un⟩).2.un, .bool ps]))
 | _, _ => none
noncomputable def W122 : Wk := ⟨[(41, .pure c41), (43, .plain c43), (66, .pure c66), (93, .pure c93), (137, .plain c137), (138, .pure c138)], bodyOf Tryz.f122, true, false, [.tmp 2], [9], [(3, 25)], []⟩
theorem has122 : Has 122 := Has.of (fn := Tryz.f122) (by kernel_rfl) (by kernel_rfl) (by kernel_rfl)
theorem kez2 {p q : Prop} (k : q) (h : p := by first | omega | (have := hexOf_lt ‹hexDig _ = true›; omega) | (unfold inI; omega) | (simp; omega) | (exfalso; simp_all; done) | assumption | (have := hpt (by omega); omega)) : p ∧ q := ⟨h, k⟩
theorem kez1 {c0 p0 p1 q : Prop} (k : q) (h : c0 → p0 ∧ p1 ∧ True := by intro g0; (try simp at g0); exact ⟨(by first | omega | (have := hexOf_lt ‹hexDig _ = true›; omega) | (unfold inI; omega) | (simp; omega) | (exfalso; simp_all; done) | assumption | (have := hpt (by omega); omega)), (by first | omega | (have := hexOf_lt ‹hexDig _ = true›; omega) | (unfold inI; omega) | (simp; omega) | (exfalso; simp_all; done) | assumption | (have := hpt (by omega); omega)), trivial⟩) : (c0 → p0 ∧ p1 ∧ True) ∧ q := ⟨h, k⟩
theorem sat122 : Sat 122 (fnS c122) := by
 have hD : CxOk W122.D := (CxOk.cons has41 sat41 (CxOk.cons has43 sat43 (CxOk.cons has66 sat66 (CxOk.cons has93 sat93 (CxOk.cons has137 sat137 (CxOk.cons has138 sat138 CxOk.nil))))))
 refine W122.sat hD (fn := Tryz.f122) (by kernel_rfl) (by kernel_rfl) (by kernel_rfl) (by decide) fun svs b K hP => ?_
 obtain ⟨ps, o, b', e, hp, hk⟩ := fnS_inv hP
 unfold c122 at e
 split at e
 · rename_i s p bad un ps
   cases e
   obtain ⟨h01, h02, h03, _⟩ := hp
   obtain ⟨h04, h05, h06⟩ := escF_lt h03
   have L3 : ∀ (mm : Nat) (k n : Nat), 6 - k = mm → k ≤ 6 ∧ p + 1 + k ≤ s.length ∧ hexEnd s (6 - k) (p + 1 + k) = hexEnd s 6 (p + 1) ∧ n = hexVal ((s.take (p + 1 + k)).drop (p + 1)) ∧ n < 16 ^ k → W122.L K 3 (mkS 114 [(0, (.ptr 0 0)), (3, (.nat n)), (4, (.nat k))] [(0, .blk 46 [(.str s), (.nat (p + 1 + k)), (.bool bad), (.bool un), (.bool ps)])] 1) := by
    intro mm
    induction mm using Nat.strongRecOn with
    | _ mm ih =>
     intro k n hm hI
     obtain ⟨k1, k2, k3, k4, k5⟩ := hI
     have hpt := fun h => point_le s (p + 1 + k) h
     have hdi := fun h => hexDig_in (s := s) (i := p + 1 + k) h
     have k6 : n < 16 ^ 6 := Nat.lt_of_lt_of_le k5 (Nat.pow_le_pow_right (by omega) k1)
     refine W122.atL hD (X := have a0 := (((decide (n = 0)) || (decide (n = 65279))) || (decide (1114111 < n))) || ((decide (55296 ≤ n)) && (decide (n < 57344))); have a1 := point s (p + 1 + k); have a2 : Out := .val (.str (utf8 ((n : Nat) : Int))); have a3 := s.length ≤ 1000000; have a4 := p + 1 + k + a1.2 ≤ 9223372036854775807; have a5 : Option SB := some (.blk 46 [(.str s), (.nat (p + 1 + k + a1.2)), (.bool bad), (.bool un), (.bool ps)]); have a6 := p + 1 + k ≤ s.length + 1; have a7 : Option SB := some (.blk 46 [(.str s), (.nat (p + 1 + k + 2)), (.bool bad), (.bool true), (.bool ps)]); have a8 : Option SB := some (.blk 46 [(.str s), (.nat (p + 1 + k + 1)), (.bool bad), (.bool true), (.bool ps)]); have a9 : Option SB := some (.blk 46 [(.str s), (.nat (p + 1 + k + 2)), (.bool bad), (.bool un), (.bool ps)]); have a10 : Option SB := some (.blk 46 [(.str s), (.nat (p + 1 + k + 1)), (.bool bad), (.bool un), (.bool ps)]); have a11 : Option SB := some (.blk 46 [(.str s), (.nat (p + 1 + k)), (.bool bad), (.bool true), (.bool ps)]); have a12 : Option SB := some (.blk 46 [(.str s), (.nat (p + 1 + k)), (.bool bad), (.bool un), (.bool ps)]); have a13 := p + 1 + k + 1 ≤ 9223372036854775807; have a14 := false = true → a3 ∧ (p + 1 + k + 2 ≤ s.length + 1) ∧ True; have a15 := p + 1 + k ≤ p + 1 + k + a1.2 ∧ p + 1 + k + a1.2 ≤ s.length; have a16 := n ≤ 2147483647; have a17 : Out := .val (.str ((s.take (p + 1 + k + a1.2)).drop (p + 1 + k))); have a18 := bat s (p + 1 + k); have a19 : Out := .val (.str []); have a20 := true = true → a3 ∧ a6 ∧ True; have a21 := hereB s [13, 10] (p + 1 + k); ((decide (k < 6)) = true → a3 ∧ a6 ∧ True) ∧ ((decide (k < 6)) = true → cond (hexDig a18) (cond (decide (0 ≤ hexOf a18)) ((16 * n ≤ 9223372036854775807) ∧ a3 ∧ a6 ∧ cond (hexDig a18) (((16 * n) + (hexOf a18) ≤ 9223372036854775807) ∧ a13 ∧ (k + 1 ≤ 9223372036854775807) ∧ (W122).L K 3 (mkS 114 [(0, (.ptr 0 0)), (3, (.nat ((16 * n) + (hexOf a18)))), (4, (.nat (k + 1)))] [(0, .blk 46 [(.str s), (.nat (p + 1 + k + 1)), (.bool bad), (.bool un), (.bool ps)])] 1)) ((inI (((16 * n : Nat) : Int) + (-1))) ∧ a13 ∧ (k + 1 ≤ 9223372036854775807) ∧ (W122).L K 3 (mkS 114 [(0, (.ptr 0 0)), (3, (.int .i64 (((16 * n : Nat) : Int) + (-1)))), (4, (.nat (k + 1)))] [(0, .blk 46 [(.str s), (.nat (p + 1 + k + 1)), (.bool bad), (.bool un), (.bool ps)])] 1))) (cond (decide (k = 0)) (a3 ∧ (p + 1 + k < s.length) ∧ a4 ∧ a15 ∧ a4 ∧ K a17 a5) (a3 ∧ a6 ∧ (2 ≤ 1000) ∧ cond a21 (a14 ∧ cond a0 (K a19 a7) (a16 ∧ K a2 a9)) (a20 ∧ cond (isWs a18) (a13 ∧ cond a0 (K a19 a8) (a16 ∧ K a2 a10)) (cond a0 (K a19 a11) (a16 ∧ K a2 a12)))))) (cond (decide (k = 0)) (a3 ∧ (p + 1 + k < s.length) ∧ a4 ∧ a15 ∧ a4 ∧ K a17 a5) (a3 ∧ a6 ∧ (2 ≤ 1000) ∧ cond a21 (a14 ∧ cond a0 (K a19 a7) (a16 ∧ K a2 a9)) (a20 ∧ cond (isWs a18) (a13 ∧ cond a0 (K a19 a8) (a16 ∧ K a2 a10)) (cond a0 (K a19 a11) (a16 ∧ K a2 a12)))))) ∧ ((decide (k < 6)) = false → cond (decide (k = 0)) (a3 ∧ (p + 1 + k < s.length) ∧ a4 ∧ a15 ∧ a4 ∧ K a17 a5) (a3 ∧ a6 ∧ (2 ≤ 1000) ∧ cond a21 (a14 ∧ cond a0 (K a19 a7) (a16 ∧ K a2 a9)) (a20 ∧ cond (isWs a18) (a13 ∧ cond a0 (K a19 a8) (a16 ∧ K a2 a10)) (cond a0 (K a19 a11) (a16 ∧ K a2 a12)))))) (by kernel_rfl) ?_
     refine kez1 ?_
     refine ⟨fun h1 => ?_, fun h1 => ?_⟩
     · simp -failIfUnchanged [-List.getD_eq_getElem?_getD] at h1
       refine cndI ?_ ?_ <;> intro h2 <;> simp -failIfUnchanged [-List.getD_eq_getElem?_getD] at h2
       · refine cndI (fun h3 => ?_) (fun h3 => ?_)
         · simp -failIfUnchanged [-List.getD_eq_getElem?_getD] at h3
           refine kez2 ?_
           refine kez2 (kez2 ?_)
           refine cndI ?_ ?_ <;> intro h4 <;> simp -failIfUnchanged [-List.getD_eq_getElem?_getD] at h4
           · refine kez2 ?_
             refine kez2 ?_
             refine kez2 ?_
             have q := hexOf_lt h2
             have q2 := hdi h2
             refine ih _ (by omega) (k + 1) _ rfl ⟨by omega, by omega, ?_, ?_, ?_⟩
             · rw [show 6 - (k + 1) = 5 - k from by omega, show p + 1 + (k + 1) = p + 1 + k + 1 from by omega, ← hexEnd_go (by omega) h2, show 5 - k + 1 = 6 - k from by omega]; exact k3
             · rw [show p + 1 + (k + 1) = p + 1 + k + 1 from by omega, cut_snoc s (p + 1) (p + 1 + k) (by omega) (by omega), hexVal_snoc, ← k4]; rfl
             rw [Nat.pow_succ]; omega
           refine kez2 ?_
           refine kez2 ?_
           refine kez2 ?_
           exfalso; simp_all
         simp -failIfUnchanged [-List.getD_eq_getElem?_getD] at h3
       refine cndI (fun h3 => ?_) (fun h3 => ?_)
       · simp -failIfUnchanged [-List.getD_eq_getElem?_getD] at h3
         refine kez2 (kez2 ?_)
         refine kez2 ?_
         refine kez2 ?_
         refine kez2 ?_
         have e1 : hexEnd s 6 (p + 1) = p + 1 + k := by rw [← k3]; first | exact hexEnd_st (by assumption) | exact hexEnd_z (by omega)
         unfold sEsc at hk
         simp only [e1, ← k4, RS.go, RS.unI] at hk
         first
          | (have hk0 : k = 0 := by omega
             subst hk0
             rw [if_pos (by omega)] at hk
             exact hk)
          | (rw [if_neg (by omega)] at hk
             first
              | rw [skip_cr (by assumption)] at hk
              | rw [skip_ws (by assumption) (by assumption)] at hk
              | rw [skip_no (by assumption)] at hk
             first
              | (rw [if_pos (by simp [cpOk]; omega)] at hk; dsimp only at hk; exact hk)
              | (rw [if_neg (by simp [cpOk]; omega)] at hk; simp only [Bool.or_true] at hk; exact hk))
       simp -failIfUnchanged [-List.getD_eq_getElem?_getD] at h3
       refine kez2 (kez2 (kez2 ?_))
       refine cndI ?_ ?_ <;> intro h4 <;> simp -failIfUnchanged [-List.getD_eq_getElem?_getD] at h4
       · refine ⟨fun g0 => (by cases g0), ?_⟩
         refine cndI ?_ ?_ <;> intro h5 <;> simp -failIfUnchanged [-List.getD_eq_getElem?_getD] at h5
         · have e1 : hexEnd s 6 (p + 1) = p + 1 + k := by rw [← k3]; first | exact hexEnd_st (by assumption) | exact hexEnd_z (by omega)
           unfold sEsc at hk
           simp only [e1, ← k4, RS.go, RS.unI] at hk
           first
            | (have hk0 : k = 0 := by omega
               subst hk0
               rw [if_pos (by omega)] at hk
               exact hk)
            | (rw [if_neg (by omega)] at hk
               first
                | rw [skip_cr (by assumption)] at hk
                | rw [skip_ws (by assumption) (by assumption)] at hk
                | rw [skip_no (by assumption)] at hk
               first
                | (rw [if_pos (by simp [cpOk]; omega)] at hk; dsimp only at hk; exact hk)
                | (rw [if_neg (by simp [cpOk]; omega)] at hk; simp only [Bool.or_true] at hk; exact hk))
         refine kez2 ?_
         have e1 : hexEnd s 6 (p + 1) = p + 1 + k := by rw [← k3]; first | exact hexEnd_st (by assumption) | exact hexEnd_z (by omega)
         unfold sEsc at hk
         simp only [e1, ← k4, RS.go, RS.unI] at hk
         first
          | (have hk0 : k = 0 := by omega
             subst hk0
             rw [if_pos (by omega)] at hk
             exact hk)
          | (rw [if_neg (by omega)] at hk
             first
              | rw [skip_cr (by assumption)] at hk
              | rw [skip_ws (by assumption) (by assumption)] at hk
              | rw [skip_no (by assumption)] at hk
             first
              | (rw [if_pos (by simp [cpOk]; omega)] at hk; dsimp only at hk; exact hk)
              | (rw [if_neg (by simp [cpOk]; omega)] at hk; simp only [Bool.or_true] at hk; exact hk))
       refine kez1 ?_
       refine cndI ?_ ?_ <;> intro h5 <;> simp -failIfUnchanged [-List.getD_eq_getElem?_getD] at h5
       · refine kez2 ?_
         refine cndI ?_ ?_ <;> intro h6 <;> simp -failIfUnchanged [-List.getD_eq_getElem?_getD] at h6
         · have e1 : hexEnd s 6 (p + 1) = p + 1 + k := by rw [← k3]; first | exact hexEnd_st (by assumption) | exact hexEnd_z (by omega)
           unfold sEsc at hk
           simp only [e1, ← k4, RS.go, RS.unI] at hk
           first
            | (have hk0 : k = 0 := by omega
               subst hk0
               rw [if_pos (by omega)] at hk
               exact hk)
            | (rw [if_neg (by omega)] at hk
               first
                | rw [skip_cr (by assumption)] at hk
                | rw [skip_ws (by assumption) (by assumption)] at hk
                | rw [skip_no (by assumption)] at hk
               first
                | (rw [if_pos (by simp [cpOk]; omega)] at hk; dsimp only at hk; exact hk)
                | (rw [if_neg (by simp [cpOk]; omega)] at hk; simp only [Bool.or_true] at hk; exact hk))
         refine kez2 ?_
         have e1 : hexEnd s 6 (p + 1) = p + 1 + k := by rw [← k3]; first | exact hexEnd_st (by assumption) | exact hexEnd_z (by omega)
         unfold sEsc at hk
         simp only [e1, ← k4, RS.go, RS.unI] at hk
         first
          | (have hk0 : k = 0 := by omega
             subst hk0
             rw [if_pos (by omega)] at hk
             exact hk)
          | (rw [if_neg (by omega)] at hk
             first
              | rw [skip_cr (by assumption)] at hk
              | rw [skip_ws (by assumption) (by assumption)] at hk
              | rw [skip_no (by assumption)] at hk
             first
              | (rw [if_pos (by simp [cpOk]; omega)] at hk; dsimp only at hk; exact hk)
              | (rw [if_neg (by simp [cpOk]; omega)] at hk; simp only [Bool.or_true] at hk; exact hk))
       refine cndI (fun h6 => ?_) (fun h6 => ?_)
       · simp -failIfUnchanged [-List.getD_eq_getElem?_getD] at h6
         have e1 : hexEnd s 6 (p + 1) = p + 1 + k := by rw [← k3]; first | exact hexEnd_st (by assumption) | exact hexEnd_z (by omega)
         unfold sEsc at hk
         simp only [e1, ← k4, RS.go, RS.unI] at hk
         first
          | (have hk0 : k = 0 := by omega
             subst hk0
             rw [if_pos (by omega)] at hk
             exact hk)
          | (rw [if_neg (by omega)] at hk
             first
              | rw [skip_cr (by assumption)] at hk
              | rw [skip_ws (by assumption) (by assumption)] at hk
              | rw [skip_no (by assumption)] at hk
             first
              | (rw [if_pos (by simp [cpOk]; omega)] at hk; dsimp only at hk; exact hk)
              | (rw [if_neg (by simp [cpOk]; omega)] at hk; simp only [Bool.or_true] at hk; exact hk))
       simp -failIfUnchanged [-List.getD_eq_getElem?_getD] at h6
       refine kez2 ?_
       have e1 : hexEnd s 6 (p + 1) = p + 1 + k := by rw [← k3]; first | exact hexEnd_st (by assumption) | exact hexEnd_z (by omega)
       unfold sEsc at hk
       simp only [e1, ← k4, RS.go, RS.unI] at hk
       first
        | (have hk0 : k = 0 := by omega
           subst hk0
           rw [if_pos (by omega)] at hk
           exact hk)
        | (rw [if_neg (by omega)] at hk
           first
            | rw [skip_cr (by assumption)] at hk
            | rw [skip_ws (by assumption) (by assumption)] at hk
            | rw [skip_no (by assumption)] at hk
           first
            | (rw [if_pos (by simp [cpOk]; omega)] at hk; dsimp only at hk; exact hk)
            | (rw [if_neg (by simp [cpOk]; omega)] at hk; simp only [Bool.or_true] at hk; exact hk))
     simp -failIfUnchanged [-List.getD_eq_getElem?_getD] at h1
     refine cndI ?_ ?_ <;> intro h2 <;> simp -failIfUnchanged [-List.getD_eq_getElem?_getD] at h2
     · refine kez2 (kez2 ?_)
       refine kez2 ?_
       refine kez2 ?_
       refine kez2 ?_
       have e1 : hexEnd s 6 (p + 1) = p + 1 + k := by rw [← k3]; first | exact hexEnd_st (by assumption) | exact hexEnd_z (by omega)
       unfold sEsc at hk
       simp only [e1, ← k4, RS.go, RS.unI] at hk
       first
        | (have hk0 : k = 0 := by omega
           subst hk0
           rw [if_pos (by omega)] at hk
           exact hk)
        | (rw [if_neg (by omega)] at hk
           first
            | rw [skip_cr (by assumption)] at hk
            | rw [skip_ws (by assumption) (by assumption)] at hk
            | rw [skip_no (by assumption)] at hk
           first
            | (rw [if_pos (by simp [cpOk]; omega)] at hk; dsimp only at hk; exact hk)
            | (rw [if_neg (by simp [cpOk]; omega)] at hk; simp only [Bool.or_true] at hk; exact hk))
     refine kez2 (kez2 (kez2 ?_))
     refine cndI ?_ ?_ <;> intro h3 <;> simp -failIfUnchanged [-List.getD_eq_getElem?_getD] at h3
     · refine ⟨fun g0 => (by cases g0), ?_⟩
       refine cndI ?_ ?_ <;> intro h4 <;> simp -failIfUnchanged [-List.getD_eq_getElem?_getD] at h4
       · have e1 : hexEnd s 6 (p + 1) = p + 1 + k := by rw [← k3]; first | exact hexEnd_st (by assumption) | exact hexEnd_z (by omega)
         unfold sEsc at hk
         simp only [e1, ← k4, RS.go, RS.unI] at hk
         first
          | (have hk0 : k = 0 := by omega
             subst hk0
             rw [if_pos (by omega)] at hk
             exact hk)
          | (rw [if_neg (by omega)] at hk
             first
              | rw [skip_cr (by assumption)] at hk
              | rw [skip_ws (by assumption) (by assumption)] at hk
              | rw [skip_no (by assumption)] at hk
             first
              | (rw [if_pos (by simp [cpOk]; omega)] at hk; dsimp only at hk; exact hk)
              | (rw [if_neg (by simp [cpOk]; omega)] at hk; simp only [Bool.or_true] at hk; exact hk))
       refine kez2 ?_
       have e1 : hexEnd s 6 (p + 1) = p + 1 + k := by rw [← k3]; first | exact hexEnd_st (by assumption) | exact hexEnd_z (by omega)
       unfold sEsc at hk
       simp only [e1, ← k4, RS.go, RS.unI] at hk
       first
        | (have hk0 : k = 0 := by omega
           subst hk0
           rw [if_pos (by omega)] at hk
           exact hk)
        | (rw [if_neg (by omega)] at hk
           first
            | rw [skip_cr (by assumption)] at hk
            | rw [skip_ws (by assumption) (by assumption)] at hk
            | rw [skip_no (by assumption)] at hk
           first
            | (rw [if_pos (by simp [cpOk]; omega)] at hk; dsimp only at hk; exact hk)
            | (rw [if_neg (by simp [cpOk]; omega)] at hk; simp only [Bool.or_true] at hk; exact hk))
     refine kez1 ?_
     refine cndI ?_ ?_ <;> intro h4 <;> simp -failIfUnchanged [-List.getD_eq_getElem?_getD] at h4
     · refine kez2 ?_
       refine cndI ?_ ?_ <;> intro h5 <;> simp -failIfUnchanged [-List.getD_eq_getElem?_getD] at h5
       · have e1 : hexEnd s 6 (p + 1) = p + 1 + k := by rw [← k3]; first | exact hexEnd_st (by assumption) | exact hexEnd_z (by omega)
         unfold sEsc at hk
         simp only [e1, ← k4, RS.go, RS.unI] at hk
         first
          | (have hk0 : k = 0 := by omega
             subst hk0
             rw [if_pos (by omega)] at hk
             exact hk)
          | (rw [if_neg (by omega)] at hk
             first
              | rw [skip_cr (by assumption)] at hk
              | rw [skip_ws (by assumption) (by assumption)] at hk
              | rw [skip_no (by assumption)] at hk
             first
              | (rw [if_pos (by simp [cpOk]; omega)] at hk; dsimp only at hk; exact hk)
              | (rw [if_neg (by simp [cpOk]; omega)] at hk; simp only [Bool.or_true] at hk; exact hk))
       refine kez2 ?_
       have e1 : hexEnd s 6 (p + 1) = p + 1 + k := by rw [← k3]; first | exact hexEnd_st (by assumption) | exact hexEnd_z (by omega)
       unfold sEsc at hk
       simp only [e1, ← k4, RS.go, RS.unI] at hk
       first
        | (have hk0 : k = 0 := by omega
           subst hk0
           rw [if_pos (by omega)] at hk
           exact hk)
        | (rw [if_neg (by omega)] at hk
           first
            | rw [skip_cr (by assumption)] at hk
            | rw [skip_ws (by assumption) (by assumption)] at hk
            | rw [skip_no (by assumption)] at hk
           first
            | (rw [if_pos (by simp [cpOk]; omega)] at hk; dsimp only at hk; exact hk)
            | (rw [if_neg (by simp [cpOk]; omega)] at hk; simp only [Bool.or_true] at hk; exact hk))
     refine cndI (fun h5 => ?_) (fun h5 => ?_)
     · simp -failIfUnchanged [-List.getD_eq_getElem?_getD] at h5
       have e1 : hexEnd s 6 (p + 1) = p + 1 + k := by rw [← k3]; first | exact hexEnd_st (by assumption) | exact hexEnd_z (by omega)
       unfold sEsc at hk
       simp only [e1, ← k4, RS.go, RS.unI] at hk
       first
        | (have hk0 : k = 0 := by omega
           subst hk0
           rw [if_pos (by omega)] at hk
           exact hk)
        | (rw [if_neg (by omega)] at hk
           first
            | rw [skip_cr (by assumption)] at hk
            | rw [skip_ws (by assumption) (by assumption)] at hk
            | rw [skip_no (by assumption)] at hk
           first
            | (rw [if_pos (by simp [cpOk]; omega)] at hk; dsimp only at hk; exact hk)
            | (rw [if_neg (by simp [cpOk]; omega)] at hk; simp only [Bool.or_true] at hk; exact hk))
     simp -failIfUnchanged [-List.getD_eq_getElem?_getD] at h5
     refine kez2 ?_
     have e1 : hexEnd s 6 (p + 1) = p + 1 + k := by rw [← k3]; first | exact hexEnd_st (by assumption) | exact hexEnd_z (by omega)
     unfold sEsc at hk
     simp only [e1, ← k4, RS.go, RS.unI] at hk
     first
      | (have hk0 : k = 0 := by omega
         subst hk0
         rw [if_pos (by omega)] at hk
         exact hk)
      | (rw [if_neg (by omega)] at hk
         first
          | rw [skip_cr (by assumption)] at hk
          | rw [skip_ws (by assumption) (by assumption)] at hk
          | rw [skip_no (by assumption)] at hk
         first
          | (rw [if_pos (by simp [cpOk]; omega)] at hk; dsimp only at hk; exact hk)
          | (rw [if_neg (by simp [cpOk]; omega)] at hk; simp only [Bool.or_true] at hk; exact hk))
   refine W122.entry rfl (X := (p + 1 ≤ 9223372036854775807) ∧ (W122).L K 3 (mkS 114 [(0, (.ptr 0 0)), (3, (.nat 0)), (4, (.nat 0))] [(0, .blk 46 [(.str s), (.nat (p + 1)), (.bool bad), (.bool un), (.bool ps)])] 1)) (by kernel_rfl) ?_
   refine kez2 ?_
   exact L3 _ 0 0 rfl ⟨by omega, by omega, rfl, by rw [Nat.add_zero, cut_nil]; rfl, by decide⟩
 cases e
def c108 (svs : List SV) (b : Option SB) : FR := match svs, b with
 | [.ptr 0 0], some (.blk 46 [.str s, .nat p, .bool bad, .bool un, .bool ps]) => some ([s.length ≤ 1000000, p ≤ s.length + 1], .val (.str (sRest s ⟨p, bad, un⟩ []).1),
  some (.blk 46 [.str s, .nat (sRest s ⟨p, bad, un⟩ []).2.p, .bool (sRest s ⟨p, bad, un⟩ []).2.bad, .bool (sRest s ⟨p, bad, un⟩ []).2.un, .bool ps]))
 | _, _ => none
noncomputable def W108 : Wk := ⟨[(66, .pure c66), (89, .pure c89), (107, .pure c107), (122, .fn c122)], bodyOf Tryz.f108, true, false, [.tmp 2], [9], [(2, 9)], []⟩
theorem has108 : Has 108 := Has.of (fn := Tryz.f108) (by kernel_rfl) (by kernel_rfl) (by kernel_rfl)
theorem kez4 {p q : Prop} (k : q) (h : p := by first | omega | (have := sEsc_n4 s t; omega) | (simp; omega) | assumption | (intro h; simp [h]) | (simp; done)) : p ∧ q := ⟨h, k⟩
theorem kez3 {c0 p0 q : Prop} (k : q) (h : c0 → p0 ∧ True := by intro g0; (try simp at g0); exact ⟨(by first | omega | (have := sEsc_n4 s t; omega) | (simp; omega) | assumption | (intro h; simp [h]) | (simp; done)), trivial⟩) : (c0 → p0 ∧ True) ∧ q := ⟨h, k⟩
theorem sat108 : Sat 108 (fnS c108) := by
 have hD : CxOk W108.D := (CxOk.cons has66 sat66 (CxOk.cons has89 sat89 (CxOk.cons has107 sat107 (CxOk.cons has122 sat122 CxOk.nil))))
 refine W108.sat hD (fn := Tryz.f108) (by kernel_rfl) (by kernel_rfl) (by kernel_rfl) (by decide) fun svs b K hP => ?_
 obtain ⟨ps, o, b', e, hp, hk⟩ := fnS_inv hP
 unfold c108 at e
 split at e
 · rename_i s p bad un ps
   cases e
   obtain ⟨h01, h02, _⟩ := hp
   have L2 : ∀ (mm : Nat) (t : RS) (acc : Bs), s.length - t.p = mm → t.p ≤ s.length + 1 ∧ acc.length ≤ t.p * 4 ∧ sRest s t acc = sRest s ⟨p, bad, un⟩ [] → W108.L K 2 (mkS 61 [(0, (.ptr 0 0)), (3, (.str acc))] [(0, .blk 46 [(.str s), (.nat t.p), (.bool t.bad), (.bool t.un), (.bool ps)])] 1) := by
    intro mm
    induction mm using Nat.strongRecOn with
    | _ mm ih =>
     intro t acc hm hI
     obtain ⟨k1, k2, k3⟩ := hI
     refine W108.atL hD (X := have a1 : Option SB := some (.blk 46 [(.str s), (.nat t.p), (.bool t.bad), (.bool t.un), (.bool ps)]); have a2 := decide (t.p < s.length); have a0 := a2 = true → ((a2 == true) = true) ∧ True; a0 ∧ a0 ∧ a0 ∧ a0 ∧ (a2 = true → (a2 == true) = true) ∧ cond (a2 && (!t.bad)) ((s.length ≤ 1000000) ∧ (t.p ≤ s.length + 1) ∧ cond (nmChar (bat s t.p)) ((t.p + 1 ≤ 9223372036854775807) ∧ (t.p ≤ t.p + 1 ∧ t.p + 1 ≤ s.length) ∧ (acc.length + ((s.take (t.p + 1)).drop t.p).length ≤ 2305843009213693952) ∧ (t.p + 1 ≤ 9223372036854775807) ∧ (W108).L K 2 (mkS 61 [(0, (.ptr 0 0)), (3, (.str (acc ++ ((s.take (t.p + 1)).drop t.p))))] [(0, .blk 46 [(.str s), (.nat (t.p + 1)), (.bool t.bad), (.bool t.un), (.bool ps)])] 1)) ((s.length ≤ 1000000) ∧ (t.p ≤ s.length + 1) ∧ cond (escF s t.p) ((s.length ≤ 1000000) ∧ (t.p ≤ s.length + 1) ∧ (escF s t.p = true) ∧ (acc.length + ((sEsc s t).1).length ≤ 2305843009213693952) ∧ (W108).L K 2 (mkS 61 [(0, (.ptr 0 0)), (3, (.str (acc ++ ((sEsc s t).1))))] [(0, .blk 46 [(.str s), (.nat ((sEsc s t).2.p)), (.bool ((sEsc s t).2.bad)), (.bool ((sEsc s t).2.un)), (.bool ps)])] 1)) (K (.val (.str acc)) a1))) (K (.val (.str acc)) a1)) (by kernel_rfl) ?_
     refine kez3 ?_
     refine kez3 ?_
     refine kez3 ?_
     refine kez3 ?_
     refine kez4 ?_
     refine cndI ?_ ?_ <;> intro h1 <;> simp -failIfUnchanged [-List.getD_eq_getElem?_getD] at h1
     · refine kez4 (kez4 ?_)
       refine cndI ?_ ?_ <;> intro h2 <;> simp -failIfUnchanged [-List.getD_eq_getElem?_getD] at h2
       · refine kez4 ?_
         refine kez4 ?_
         refine kez4 ?_
         refine kez4 ?_
         rw [cut1 h1.1]
         exact ih _ (by simp only [RS.go_p]; omega) (t.go (t.p + 1)) _ rfl ⟨by simp only [RS.go_p]; omega, by simp; omega, by rw [← sRest_ch h1.1 h1.2 h2]; exact k3⟩
       refine kez4 (kez4 ?_)
       refine cndI ?_ ?_ <;> intro h3 <;> simp -failIfUnchanged [-List.getD_eq_getElem?_getD] at h3
       · refine kez4 (kez4 (kez4 ?_))
         refine kez4 ?_
         have q1 := sEsc_p s t
         have q2 := sEsc_le h3
         have q3 := sEsc_n4 s t
         exact ih _ (by omega) (sEsc s t).2 _ rfl ⟨by omega, by simp; omega, by rw [← sRest_es h1.1 h1.2 h2 h3]; exact k3⟩
       rw [← k3, sRest_st (fun _ _ => ⟨h2, h3⟩)] at hk
       exact hk
     rw [← k3, sRest_st (fun a b => absurd b (by rw [h1 a]; simp))] at hk
     exact hk
   refine W108.entry rfl (X := (W108).L K 2 (mkS 61 [(0, (.ptr 0 0)), (3, (.str []))] [(0, .blk 46 [(.str s), (.nat p), (.bool bad), (.bool un), (.bool ps)])] 1)) (by kernel_rfl) ?_
   exact L2 _ ⟨p, bad, un⟩ [] rfl ⟨h02, by simp, rfl⟩
 cases e
end
end Go.Proofs.YtengepcafdnalaaGreatDoor
