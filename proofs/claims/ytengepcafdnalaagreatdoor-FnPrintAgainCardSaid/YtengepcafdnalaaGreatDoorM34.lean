/-
  Parts of the proof that the law FnPrintAgain holds for every input (texts Xh, Xi). Conditions: none.
-/
import Derived.Test.YtengepcafdnalaaGreatDoorM33
namespace Go.Proofs.YtengepcafdnalaaGreatDoor
open _root_.Bool renaming false_ne_true → zE, and_eq_true → zh, or_eq_true → zw, false_or → xo
open _root_.List renaming exists_cons_of_ne_nil → zB, mem_cons → zz, nil_append → zI, flatten_cons → xm, append_assoc → zo, append_nil → zC, any_eq_false → xr, singleton_append → zT, mem_singleton → zQ
open _root_.Nat renaming le_refl → zq
open _root_.UInt8 renaming ofNat → zx
section
set_option maxRecDepth 20000
def escL : Bs := [44, 33, 34, 35, 36, 37, 38, 39, 40, 41, 42, 43, 32, 45, 46, 47, 58, 59, 60, 61, 62, 63, 64, 91, 92, 93, 94, 96, 123, 124, 125, 126]
def QhU (c : UInt8) : Bs := if c ∈ escL then [92, c] else [c]
def YR : Bs -> Bs
 | [] => []
 | c :: s => QhU c ++ YR s
def Qbw (l t : Bool) : Bs := (if l = true then [108, 97, 115, 116, 45] else [102, 105, 114, 115, 116, 45]) ++ (if t = true then [111, 102, 45, 116, 121, 112, 101] else [99, 104, 105, 108, 100])
mutual
def pr : CSel -> Bs
 | .tag k => k
 | .cls v => 46 :: YR v
 | .idn v => 35 :: YR v
 | .attr k v o i => 91 :: (k ++ (o ++ ((if o = [] then v else 34 :: (v ++ [34])) ++ ((if i = true then [32, 105] else []) ++ [93]))))
 | .nth a b l t => if a = 0 /\ b = 1 then 58 :: Qbw l t else 58 :: (Way.YV l t ++ (40 :: (QC a b ++ [41])))
 | .only t => 58 :: (if t = true then [111, 110, 108, 121, 45, 111, 102, 45, 116, 121, 112, 101] else [111, 110, 108, 121, 45, 99, 104, 105, 108, 100])
 | .empty => 58 :: Qq.getD 0 []
 | .root => 58 :: Qq.getD 1 []
 | .input => 58 :: Qq.getD 2 []
 | .link => 58 :: Qq.getD 3 []
 | .enabled => 58 :: Qq.getD 4 []
 | .disabled => 58 :: Qq.getD 5 []
 | .checked => 58 :: Qq.getD 6 []
 | .lang v => 58 :: (YF ++ (40 :: (v ++ [41])))
 | .contains v o => 58 :: ((if o = true then [99, 111, 110, 116, 97, 105, 110, 115, 79, 119, 110] else [99, 111, 110, 116, 97, 105, 110, 115]) ++ (40 :: ((34 :: (v ++ [34])) ++ [41])))
 | .never v => v
 | .rel n l => 58 :: (n ++ (40 :: (Zn (prs l) ++ [41])))
 | .compound l pe => if l = [] /\ pe = [] then [42] else (prs l).flatten ++ (if pe = [] then [] else 58 :: 58 :: pe)
 | .combined f c s => pr f ++ ([32] ++ (YL c.toNat ++ ([32] ++ pr s)))
def prs : List CSel -> List Bs
 | [] => []
 | x :: l => pr x :: prs l
end
def prG (l : List CSel) : Bs := Zn (prs l)
theorem QfB (l : List CSel) : prs l = l.map pr := by
 induction l with
 | nil => rfl
 | cons x l ih => rw [prs, ih]; rfl
namespace Way
def Ui (k : Bs) : Prop := IdW k k /\ low k = k
def Qhm (v : Bs) : Prop := ∀ c ∈ v, 32 <= c.toNat /\ c.toNat ≠ 127
def QmF (v : Bs) : Prop := ∀ c ∈ v, c.toNat ≠ 34 /\ c.toNat ≠ 92 /\ YN c.toNat = false
def peF : CSel -> Bool
 | .compound _ pe => !decide (pe = [])
 | .combined _ _ s => peF s
 | _ => false
def ZW : CSel -> Prop
 | .cls v => v ≠ [] /\ Qhm v /\ Qw (hd v) = false
 | .idn v => v ≠ [] /\ Qhm v
 | .attr k v o i => Ui k /\ (o = [] /\ v = [] /\ i = false \/ o ∈ attrSigns /\ QmF v)
 | .nth a b _ _ => (-9999 <= a /\ a <= 9999) /\ (-9999 <= b /\ b <= 9999)
 | .lang v => Ui v
 | .contains v _ => QmF v /\ low v = v
 | .never _ => False
 | .tag _ => False
 | .rel _ _ => False
 | .compound _ _ => False
 | .combined _ _ _ => False
 | _ => True
def Gd : Nat -> Nat -> Nat -> CSel -> Prop
 | 0, _, _, _ => False
 | _ + 1, _, c, .tag k => c ≠ 0 /\ Ui k
 | m + 1, d, _, .rel n l => (n = Jv \/ n = Jw \/ n = nHasChild) /\ l ≠ [] /\ ∃ d', d = d' + 1 /\ ∀ y ∈ l, Gd m d' 2 y /\ peF y = false
 | m + 1, d, c, .compound l pe => c ≠ 0 /\ (pe = [] \/ pe ∈ elNames) /\ (l.length = 1 -> pe ≠ []) /\ (∀ y ∈ l.tail, Gd m d 0 y) /\ (∀ y, l.head? = some y -> Gd m d 0 y \/ ∃ k, y = .tag k /\ Ui k)
 | m + 1, d, c, .combined f o s => 2 <= c /\ (o = 32 \/ o = 62 \/ o = 43 \/ o = 126) /\ Gd m d 2 f /\ peF f = false /\ Gd m d 1 s
 | _ + 1, _, _, x => ZW x
theorem Qkw : ∀ c : UInt8, 32 <= c.toNat /\ c.toNat ≠ 127 -> (c ∈ escL -> Q3 c.toNat = false /\ YN c.toNat = false) /\ (c ∉ escL -> QG c.toNat = true /\ (Qw c.toNat = false -> QA c.toNat = true)) := by
 have h : ∀ n : Fin 256, 32 <= (zx n.val).toNat /\ (zx n.val).toNat ≠ 127 -> (zx n.val ∈ escL -> Q3 (zx n.val).toNat = false /\ YN (zx n.val).toNat = false) /\ (zx n.val ∉ escL -> QG (zx n.val).toNat = true /\ (Qw (zx n.val).toNat = false -> QA (zx n.val).toNat = true)) := by decide +kernel
 intro c
 have := h ⟨c.toNat, c.toNat_lt⟩
 simpa using this
theorem Qje : ∀ {v : Bs}, Qhm v -> NmW v (YR v)
 | [], _ => .nil
 | c :: v, h => by
  have ih := Qje (v := v) (fun x hx => h x (by simp [hx]))
  obtain ⟨q1, q2⟩ := Qkw c (h c (by simp))
  rw [YR]
  unfold QhU
  by_cases hc : c ∈ escL
  rw [if_pos hc]
  exact .esc (a := [c]) (.lit c (q1 hc).1 (q1 hc).2) ih
  rw [if_neg hc]
  exact .raw (q2 hc).1 ih
theorem QtS {v : Bs} (h : v ≠ []) : YR v ≠ [] := by
 obtain ⟨c, u, rfl⟩ := zB h
 rw [YR]; unfold QhU
 split <;> simp
theorem QtT {v : Bs} (h : Qhm v) (h0 : v ≠ []) (hd0 : Qw (hd v) = false) : IdW v (YR v) := by
 refine ⟨0, v, YR v, rfl, rfl, Qje h, ?_⟩
 obtain ⟨c, u, rfl⟩ := zB h0
 obtain ⟨q1, q2⟩ := Qkw c (h c (by simp))
 rw [YR]
 unfold QhU
 by_cases hc : c ∈ escL
 rw [if_pos hc]; exact .inr rfl
 rw [if_neg hc]; exact .inl ((q2 hc).2 hd0)
theorem Qsp {v : Bs} (h : QmF v) : StW 34 v v := by
 induction v with
 | nil => exact .nil
 | cons c v ih => exact .raw (h c (by simp)) (ih fun x hx => h x (by simp [hx]))
theorem Qcr {v : Bs} (h : QmF v) : Qef v (34 :: (v ++ [34])) := .inr ⟨34, v, .inr rfl, Qsp h, rfl⟩
theorem Qs0 {x : CSel} (h : ZW x) : Q6 0 x (pr x) := by
 have pl : ∀ m : Fin 7, ∀ y : CSel, (∀ G s j, Y9 G s (Qq.getD m.val []) j = some (some y, [], j)) -> Q6 0 y (58 :: Qq.getD m.val []) := fun m y hy => by
  have q := JA m
  exact Q6.plain q.1 (by rw [q.2]; exact hy)
 cases x <;> simp only [ZW] at h
 case cls v => rw [pr]; exact Q6.cls (QtT h.2.1 h.1 h.2.2)
 case idn v => rw [pr]; exact Q6.idn (Qje h.2) (QtS h.1)
 case attr k v o i =>
  obtain ⟨⟨h1, h2⟩, h3⟩ := h
  rw [pr]
  rcases h3 with ⟨rfl, rfl, rfl⟩ | ⟨ho, hv⟩
  have q := Q6.attr0 (g1 := []) (g2 := []) h1 .nil .nil
  rw [h2] at q
  simpa using q
  have ho' : o ≠ [] := fun q => by subst q; exact absurd ho (by decide)
  rw [if_neg ho']
  cases i
  have q := Q6.attr1 (g1 := []) (g2 := []) (g3 := []) (g4 := []) (g5 := []) (f := []) (ign := false) h1 .nil .nil ho .nil (Qcr hv) .nil (.inl ⟨rfl, rfl⟩) (.inl rfl) .nil
  rw [h2] at q
  simpa using q
  have q := Q6.attr1 (g1 := []) (g2 := []) (g3 := []) (g4 := [32]) (g5 := []) (f := [105]) (ign := true) h1 .nil .nil ho .nil (Qcr hv) UE (.inr ⟨rfl, .inl rfl⟩) (.inr (by simp)) .nil
  rw [h2] at q
  simpa using q
 case nth a b l t =>
  rw [pr]
  by_cases e : a = 0 /\ b = 1
  rw [if_pos e, e.1, e.2]
  cases l <;> cases t
  exact Q6.plain (x := .nth 0 1 false false) (v := [102, 105, 114, 115, 116, 45, 99, 104, 105, 108, 100]) (Vt (by decide)) (fun G s j => rfl)
  exact Q6.plain (x := .nth 0 1 false true) (v := [102, 105, 114, 115, 116, 45, 111, 102, 45, 116, 121, 112, 101]) (Vt (by decide)) (fun G s j => rfl)
  exact Q6.plain (x := .nth 0 1 true false) (v := [108, 97, 115, 116, 45, 99, 104, 105, 108, 100]) (Vt (by decide)) (fun G s j => rfl)
  exact Q6.plain (x := .nth 0 1 true true) (v := [108, 97, 115, 116, 45, 111, 102, 45, 116, 121, 112, 101]) (Vt (by decide)) (fun G s j => rfl)
  rw [if_neg e]
  have hn : ∀ l t : Bool, IdW (YV l t) (YV l t) /\ low (YV l t) = YV l t := by
   intro l t
   have : (((YV l t).all fun c => QG c.toNat) && QA (hd (YV l t))) = true /\ low (YV l t) = YV l t := by
    cases l <;> cases t <;> decide
   exact ⟨Vt this.1, this.2⟩
  have q := Q6.nth (g1 := []) (g2 := []) l t (hn l t).1 (hn l t).2 (Qe6 h.1 h.2) .nil .nil
  simpa using q
 case only t =>
  rw [pr]
  cases t
  exact Q6.plain (x := .only false) (v := [111, 110, 108, 121, 45, 99, 104, 105, 108, 100]) (Vt (by decide)) (fun G s j => rfl)
  exact Q6.plain (x := .only true) (v := [111, 110, 108, 121, 45, 111, 102, 45, 116, 121, 112, 101]) (Vt (by decide)) (fun G s j => rfl)
 case empty => rw [pr]; exact pl 0 _ fun G s j => rfl
 case root => rw [pr]; exact pl 1 _ fun G s j => rfl
 case input => rw [pr]; exact pl 2 _ fun G s j => rfl
 case link => rw [pr]; exact pl 3 _ fun G s j => rfl
 case enabled => rw [pr]; exact pl 4 _ fun G s j => rfl
 case disabled => rw [pr]; exact pl 5 _ fun G s j => rfl
 case checked => rw [pr]; exact pl 6 _ fun G s j => rfl
 case lang v =>
  have q := Q6.lang (g1 := []) (g2 := []) (Vt (t := YF) (by decide)) (by decide) h.1 .nil .nil
  rw [h.2] at q
  rw [pr]
  simpa using q
 case contains v o =>
  rw [pr]
  cases o
  have q := Q6.contains (g1 := []) (g2 := []) false (Vt (t := [99, 111, 110, 116, 97, 105, 110, 115]) (by decide)) (by decide) (Qcr h.1) .nil .nil
  rw [h.2] at q
  simpa using q
  have q := Q6.contains (g1 := []) (g2 := []) true (Vt (t := [99, 111, 110, 116, 97, 105, 110, 115, 79, 119, 110]) (by decide)) (by decide) (Qcr h.1) .nil .nil
  rw [h.2] at q
  simpa using q
theorem el_p' {pe : Bs} (h : pe ∈ elNames) : ElS pe (58 :: 58 :: pe) /\ pe ≠ [] := by
 have key : ∀ v : Bs, ((v.all fun c => QG c.toNat) && QA (hd v)) = true -> low v = v -> v ∈ elNames -> (∀ G s j, Y9 G s v j = some (none, v, j)) -> v ≠ [] -> ElS v (58 :: 58 :: v) /\ v ≠ [] := by
  intro v h1 h2 h3 h4 h5
  have q := ElS.two (Vt h1) (by rw [h2]; exact h3) (by rw [h2]; exact h4) (by rw [h2]; exact h5)
  rw [h2] at q
  exact ⟨q, h5⟩
 simp only [elNames, zz, List.not_mem_nil, or_false] at h
 rcases h with rfl | rfl | rfl | rfl | rfl | rfl | rfl | rfl | rfl | rfl | rfl <;> exact key _ (by decide) (by decide) (by decide) (fun G s j => rfl) (by decide)
theorem Qfn {d : Nat} {pe : Bs} (hp : pe = [] \/ pe ∈ elNames) : ∀ {l : List CSel}, (∀ y ∈ l, Q6 d y (pr y)) -> Yi d l pe ((prs l).flatten ++ (if pe = [] then [] else 58 :: 58 :: pe))
 | [], _ => by
  rw [prs, List.flatten_nil, zI]
  by_cases e : pe = []
  rw [if_pos e, e]; exact Yi.nil d
  rw [if_neg e]; exact Yi.el d (el_p' (hp.resolve_left e)).1
 | y :: l, h => by
  rw [prs, xm, zo]
  exact Yi.cons (h y (by simp)) (Qfn hp fun z hz => h z (by simp [hz]))
def Qd5 (l : List CSel) : Bool := l.any peF
theorem QnT {d : Nat} : ∀ {l : List CSel}, (∀ y ∈ l, Yq d y (peF y) (pr y)) -> Z7 d l (Qd5 l) ((prs l).flatMap fun u => [44, 32] ++ u)
 | [], _ => Z7.nil d
 | y :: l, h => by
  have q := Z7.cons (SlS.mk (g1 := [32]) (g2 := []) UE (h y (by simp)) .nil) (QnT (l := l) fun z hz => h z (by simp [hz]))
  rw [prs, List.flatMap_cons]
  unfold Qd5 at q ⊢
  rw [List.any_cons]
  simpa using q
theorem sl_p {d : Nat} {y : CSel} (h : Yq d y (peF y) (pr y)) : SlS d y (peF y) (pr y) := by
 have q := SlS.mk (g1 := []) (g2 := []) .nil h .nil
 rwa [zI, zC] at q
theorem QnU {d : Nat} {l : List CSel} (hl : l ≠ []) (h : ∀ y ∈ l, Yq d y (peF y) (pr y)) : QaW d l (Qd5 l) (prG l) /\ V6 (prG l) := by
 obtain ⟨y, u, rfl⟩ := zB hl
 have h0 := h y (by simp)
 refine ⟨QaW.mk (sl_p h0) (QnT (l := u) fun z hz => h z (by simp [hz])), ?_⟩
 unfold prG
 rw [prs, Zn]
 exact h0.1.stop
theorem Qda : ∀ (m d : Nat) (x : CSel), (Gd m d 0 x -> Q6 d x (pr x)) /\ (Gd m d 1 x -> Ya d x (peF x) (pr x)) /\ (Gd m d 2 x -> Yq d x (peF x) (pr x))
 | 0, d, x => by refine ⟨fun h => ?_, fun h => ?_, fun h => ?_⟩ <;> (simp only [Gd] at h)
 | m + 1, d, x => by
  have ih := Qda m
  have one : ∀ {c : Nat}, ZW x -> peF x = false -> Q6 d x (pr x) /\ Ya d x (peF x) (pr x) /\ Yq d x (peF x) (pr x) := by
   intro c h hp
   have h1 := (Qs0 h).mono (Nat.zero_le d)
   have q := Ya.bare (Yi.cons h1 (Yi.nil d)) (by simp [Jd h1.1])
   rw [zC] at q
   rw [hp]
   exact ⟨h1, q, Yq.one q⟩
  cases x
  case tag k =>
   have q : ∀ {c : Nat}, Gd (m + 1) d c (.tag k) -> c ≠ 0 /\ Ya d (.tag k) false (pr (.tag k)) := by
    intro c h
    simp only [Gd] at h
    have q := Ya.tag h.2.1 (Yi.nil d)
    rw [h.2.2, zC] at q
    exact ⟨h.1, q⟩
   exact ⟨fun h => absurd rfl (q h).1, fun h => (q h).2, fun h => Yq.one (q h).2⟩
  case rel n l =>
   have q : ∀ {c : Nat}, Gd (m + 1) d c (.rel n l) -> Q6 d (.rel n l) (pr (.rel n l)) := by
    intro c h
    simp only [Gd] at h
    obtain ⟨h1, h2, d', rfl, h3⟩ := h
    obtain ⟨g1, g2⟩ := QnU (d := d') h2 (fun y hy => (ih d' y).2.2 (h3 y hy).1)
    have hp : Qd5 l = false := by
     unfold Qd5
     rw [xr]
     intro y hy
     rw [(h3 y hy).2]; exact zE
    rw [hp] at g1
    have hnm : IdW n n /\ low n = n := by
     have : ((n.all fun c => QG c.toNat) && QA (hd n)) = true /\ low n = n := by
      rcases h1 with rfl | rfl | rfl <;> decide
     exact ⟨Vt this.1, this.2⟩
    have q := Q6.rel (g1 := []) hnm.1 hnm.2 h1 .nil g1 g2
    rw [pr]
    simpa [prG] using q
   have q2 : ∀ {c : Nat}, Gd (m + 1) d c (.rel n l) -> Ya d (.rel n l) false (pr (.rel n l)) := by
    intro c h
    have h1 := q h
    have q := Ya.bare (Yi.cons h1 (Yi.nil d)) (by simp [Jd h1.1])
    rw [zC] at q
    exact q
   exact ⟨fun h => q h, fun h => q2 h, fun h => Yq.one (q2 h)⟩
  case compound l pe =>
   have q : ∀ {c : Nat}, Gd (m + 1) d c (.compound l pe) -> c ≠ 0 /\ Ya d (.compound l pe) (peF (.compound l pe)) (pr (.compound l pe)) := by
    intro c h
    simp only [Gd] at h
    obtain ⟨h0, h1, h2, h3, h4⟩ := h
    refine ⟨h0, ?_⟩
    rw [pr]
    by_cases e : l = [] /\ pe = []
    rw [if_pos e, e.1, e.2]
    exact Ya.star (Yi.nil d)
    rw [if_neg e]
    have hs : Vp l pe = .compound l pe := by
     unfold Vp
     split
     exact absurd rfl (h2 rfl)
     rfl
    show Ya d (.compound l pe) (!decide (pe = [])) _
    rw [<- hs]
    match l, e, h2, h3, h4 with
    | [], e, h2, h3, h4 =>
     refine Ya.bare (Qfn h1 (fun y hy => by cases hy)) ?_
     rw [if_neg (fun q => e ⟨rfl, q⟩)]
     simp
    | y :: u, e, h2, h3, h4 =>
     have hu : ∀ z ∈ u, Q6 d z (pr z) := fun z hz => (ih d z).1 (h3 z hz)
     rcases h4 y rfl with h | ⟨k, rfl, hk⟩
     have hy := (ih d y).1 h
     refine Ya.bare (Qfn h1 (l := y :: u) (fun z hz => ?_)) ?_
     rcases zz.1 hz with e | e
     subst e; exact hy
     exact hu z e
     rw [prs, xm]
     simp [Jd hy.1]
     have q := Ya.tag hk.1 (Qfn h1 hu)
     rw [hk.2] at q
     rw [prs, xm, zo]
     exact q
   exact ⟨fun h => absurd rfl (q h).1, fun h => (q h).2, fun h => Yq.one (q h).2⟩
  case combined f o s =>
   refine ⟨fun h => ?_, fun h => ?_, fun h => ?_⟩
   simp only [Gd] at h; omega
   simp only [Gd] at h; omega
   simp only [Gd] at h
   obtain ⟨_, h1, h2, h3, h4⟩ := h
   have hA := (ih d f).2.2 h2
   have hB := (ih d s).2.1 h4
   rw [h3] at hA
   have hu : YL o.toNat = [o] := by rcases h1 with rfl | rfl | rfl | rfl <;> decide
   rw [pr, hu]
   show Yq d (.combined f o s) (peF s) _
   rcases h1 with rfl | rfl | rfl | rfl
   exact Yq.desc hA (g := [32, 32, 32]) (fun c hc => by simp at hc; rw [hc]; decide) (by simp) hB
   exact Yq.comb hA (g1 := [32]) (g2 := [32]) UE (c := 62) (by decide) UE hB
   exact Yq.comb hA (g1 := [32]) (g2 := [32]) UE (c := 43) (by decide) UE hB
   exact Yq.comb hA (g1 := [32]) (g2 := [32]) UE (c := 126) (by decide) UE hB
  all_goals
   refine ⟨fun h => ?_, fun h => ?_, fun h => ?_⟩ <;>
    (have h' := h; simp only [Gd] at h'; first | exact (one (c := 0) h' rfl).1 | exact (one (c := 0) h' rfl).2.1 | exact (one (c := 0) h' rfl).2.2)
theorem Qks : ∀ (m d c : Nat) (x : CSel), Gd m d c x -> ∀ (m' d' c' : Nat), m <= m' -> d <= d' -> c <= c' -> Gd m' d' c' x
 | 0, d, c, x, h, _, _, _, _, _, _ => by simp only [Gd] at h
 | m + 1, d, c, x, h, m', d', c', hm, hd, hc => by
  obtain ⟨m', rfl⟩ : ∃ k, m' = k + 1 := ⟨m' - 1, by omega⟩
  have ih := Qks m
  cases x
  case tag k => simp only [Gd] at h ⊢; exact ⟨fun q => h.1 (by omega), h.2⟩
  case rel n l =>
   simp only [Gd] at h ⊢
   obtain ⟨h1, h2, e, rfl, h3⟩ := h
   exact ⟨h1, h2, d' - 1, by omega, fun y hy => ⟨ih _ _ _ (h3 y hy).1 _ _ _ (by omega) (by omega) (zq _), (h3 y hy).2⟩⟩
  case compound l pe =>
   simp only [Gd] at h ⊢
   obtain ⟨h0, h1, h2, h3, h4⟩ := h
   exact ⟨fun q => h0 (by omega), h1, h2, fun y hy => ih _ _ _ (h3 y hy) _ _ _ (by omega) hd (zq _), fun y hy => (h4 y hy).imp (fun q => ih _ _ _ q _ _ _ (by omega) hd (zq _)) id⟩
  case combined f o s =>
   simp only [Gd] at h ⊢
   obtain ⟨h0, h1, h2, h3, h4⟩ := h
   exact ⟨by omega, h1, ih _ _ _ h2 _ _ _ (by omega) hd (zq _), h3, ih _ _ _ h4 _ _ _ (by omega) hd (zq _)⟩
  all_goals (simp only [Gd] at h ⊢; exact h)
theorem Gd.mono {m d c : Nat} {x : CSel} (h : Gd m d c x) {m' d' c' : Nat} (hm : m <= m') (hd : d <= d') (hc : c <= c') : Gd m' d' c' x := Qks m d c x h m' d' c' hm hd hc
theorem QiJ {m d : Nat} {l : List CSel} (hl : l ≠ []) (h : ∀ y ∈ l, Gd m d 2 y) (hd : d <= 1000) (acc : Bool) : Q2 (prG l) true acc = if Qd5 l = true /\ acc = false then none else some l :=
 Jh (QnU hl fun y hy => (Qda m d y).2.2 (h y hy)).1 hd acc
end Way
end
section
set_option maxRecDepth 20000
def JJ (s : Bs) : Bool := decide (Qr s = s) && decide (Qr (120 :: s) = 120 :: s)
def UH : Bs := [34, 39, 92, 10, 13, 12]
def Zi (s b : Bs) : Bool := s.any fun c => b.any fun e => decide (c = e)
def Qed (s : Bs) : Bool := s.any fun c => decide (c.toNat < 32) || decide (c.toNat = 127)
def Qch : Bs -> Bool
 | [] => false
 | c :: u => if c.toNat = 45 then Qch u else Qw c.toNat
def Y5 (x : SelD) : Bool :=
 if x.kind = 2 then JJ x.key
 else if x.kind = 15 then JJ x.val
 else if x.kind = 5 \/ x.kind = 16 \/ x.kind = 17 then (!decide (x.kind = 5) || JJ x.key) && !Zi x.val UH
 else if x.kind = 3 \/ x.kind = 4 then !Qed x.val && !(decide (x.kind = 3) && Qch x.val)
 else true
def Qlc (l : List SelD) : Bool := l.all Y5
namespace Way
theorem QfF {k : Bs} (hz : ∀ c ∈ k, c.toNat ≠ 0) (hn : k ≠ []) (h : JJ k = true) (hl : low k = k) : Ui k := by
 unfold JJ at h
 simp only [zh, decide_eq_true_eq] at h
 have q := Y6 hz hn
 rw [h.1] at q
 exact ⟨q, hl⟩
theorem QiF {v : Bs} (h : Zi v UH = false) : QmF v := by
 intro c hc
 unfold Zi at h
 rw [xr] at h
 have q := h c hc
 simp only [UH, List.any_cons, List.any_nil, Bool.or_false, zw, decide_eq_true_eq, not_or] at q
 have ne : ∀ n : Nat, n < 256 -> c ≠ zx n -> c.toNat ≠ n := fun n hn hc e => hc (by rw [<- e]; simp)
 refine ⟨ne 34 (by omega) q.1, ne 92 (by omega) q.2.2.1, ?_⟩
 have h1 := ne 10 (by omega) q.2.2.2.1
 have h2 := ne 13 (by omega) q.2.2.2.2.1
 have h3 := ne 12 (by omega) q.2.2.2.2.2
 simp [YN]
 omega
theorem Qhl {v : Bs} (h : Qed v = false) : Qhm v := by
 intro c hc
 unfold Qed at h
 rw [xr] at h
 have q := h c hc
 simp only [zw, decide_eq_true_eq, not_or] at q
 omega
theorem QtU {v : Bs} (h : Qch v = false) : Qw (hd v) = false := by
 cases v with
 | nil => decide
 | cons c u =>
  rw [Qch] at h
  show Qw c.toNat = false
  split at h
  rename_i e; rw [e]; decide
  exact h
theorem QpZ {x : CSel} {m d c : Nat} (h : ZW x) : Gd (m + 1) d c x := by
 cases x <;> simp only [ZW] at h <;> simp only [Gd, ZW] <;> exact h
theorem Qlx {x : SelD} (hf : Fld x) (hs : Ua x) (hp : Y5 x = true) (hk : Qo x.kind = true) (h1 : x.kind ≠ 1) (h2 : x.kind ≠ 2) (hr : ¬ (x.kind = 18 \/ x.kind = 19 \/ x.kind = 20)) : ZW (Qx x) := by
 simp only [Qo, zh, decide_eq_true_eq] at hk
 have hcases : x.kind = 3 \/ x.kind = 4 \/ x.kind = 5 \/ x.kind = 6 \/ x.kind = 7 \/ x.kind = 8 \/ x.kind = 9 \/ x.kind = 10 \/ x.kind = 11 \/ x.kind = 12 \/ x.kind = 13 \/ x.kind = 14 \/ x.kind = 15 \/ x.kind = 16 \/ x.kind = 17 := by omega
 unfold Y5 at hp
 rcases hcases with e | e | e | e | e | e | e | e | e | e | e | e | e | e | e
 simp [e] at hp
 simp only [Qx, e]
 exact ⟨hf.name (by omega), Qhl hp.1, QtU hp.2⟩
 simp [e] at hp
 simp only [Qx, e]
 exact ⟨hf.name (by omega), Qhl hp⟩
 simp [e] at hp
 have hkk := QfF hf.kz (hf.key (by omega)) hp.1 hf.low
 obtain ⟨o1, o2, o3, o4⟩ := hf.attr e
 have hl : Qx x = .attr x.key x.val (Vj.getD x.op.toNat []) (decide (x.flag = 1)) := by
  unfold Qx
  rw [if_neg (by omega), if_neg (by omega), if_neg (by omega), if_neg (by omega), if_pos e]
 rw [hl]
 refine ⟨hkk, ?_⟩
 by_cases ho : x.op = 1
 . have hv : x.val = [] := by
    rcases hf.val (by omega) with h | h
    exact h
    omega
   exact .inl ⟨by rw [ho]; rfl, hv, by rw [o4 ho]; rfl⟩
 right
 refine ⟨?_, QiF hp.2⟩
 obtain ⟨m, hm⟩ : ∃ m : Fin 9, x.op.toNat = m.val := ⟨⟨x.op.toNat, by omega⟩, rfl⟩
 have : ∀ m : Fin 9, 2 <= m.val -> Vj.getD m.val [] ∈ attrSigns := by decide
 rw [hm]; exact this m (by omega)
 . have hl : Qx x = .nth x.a x.b (decide (x.flag = 1 \/ x.flag = 3)) (decide (x.flag = 2 \/ x.flag = 3)) := by
    unfold Qx
    rw [if_neg (by omega), if_neg (by omega), if_neg (by omega), if_neg (by omega), if_neg (by omega), if_pos e]
   rw [hl]
   have := hf.rng
   exact ⟨⟨this.1, this.2.1⟩, this.2.2⟩
 simp [Qx, e, ZW]
 simp [Qx, e, ZW]
 simp [Qx, e, ZW]
 simp [Qx, e, ZW]
 simp [Qx, e, ZW]
 simp [Qx, e, ZW]
 simp [Qx, e, ZW]
 simp [Qx, e, ZW]
 simp [e] at hp
 simp only [Qx, e]
 exact QfF hf.vz (hf.name (by omega)) hp (hs (by omega))
 simp [e] at hp
 simp only [Qx, e]
 exact ⟨QiF hp, hs (by omega)⟩
 simp [e] at hp
 simp only [Qx, e]
 exact ⟨QiF hp, hs (by omega)⟩
theorem Qnl {x : SelD} : peF (Qx x) = (false : Bool) \/ Qx x = .compound [] [] := by
 unfold Qx
 iterate 16 refine Qnu (P := fun y => peF y = false \/ y = .compound [] []) (by first | exact .inl rfl | exact .inr rfl) ?_
 exact .inl rfl
structure GdT (m : Nat) (T : ST) : Prop where
 sim : Qo T.node.kind = true -> T.node.kind ≠ 1 -> T.node.kind ≠ 2 -> Gd m m 0 (c1 T)
 tag : T.node.kind = 2 -> ∃ k, c1 T = .tag k /\ Ui k
 seq : QI T.node.kind = true -> T.node.kind ≠ 22 -> Gd m m 1 (c1 T)
 sel : QI T.node.kind = true -> Gd m m 2 (c1 T)
 pe : QI T.node.kind = true -> peF (c1 T) = V8 T
 grp : T.node.kind = 23 -> cs T ≠ [] /\ (∀ y ∈ cs T, Gd m m 2 y) /\ Qd5 (cs T) = V8 T
theorem GdT.mono {m m' : Nat} {T : ST} (h : GdT m T) (hm : m <= m') : GdT m' T where
 sim := fun a b c => (h.sim a b c).mono hm hm (by omega)
 tag := h.tag
 seq := fun a b => (h.seq a b).mono hm hm (by omega)
 sel := fun a => (h.sel a).mono hm hm (by omega)
 pe := h.pe
 grp := fun a => ⟨(h.grp a).1, fun y hy => ((h.grp a).2.1 y hy).mono hm hm (by omega), (h.grp a).2.2⟩
theorem Qgi : ∀ {ks : List ST}, (∀ k ∈ ks, k.node.kind ≠ 23) -> ∀ y ∈ css ks, ∃ k ∈ ks, y = c1 k
 | [], _, y, hy => by simp [css] at hy
 | k :: ks, h, y, hy => by
  rw [css, VG (h k (by simp)), zT] at hy
  rcases zz.1 hy with e | e
  exact ⟨k, by simp, e⟩
  obtain ⟨k', h1, h2⟩ := Qgi (fun k hk => h k (by simp [hk])) y e
  exact ⟨k', by simp [h1], h2⟩
theorem Qg9 : ∀ {ks : List ST}, (∀ k ∈ ks, k.node.kind ≠ 23) -> (∀ k ∈ ks, peF (c1 k) = V8 k) -> Qd5 (css ks) = ZN ks
 | [], _, _ => by rw [css, Yn]; rfl
 | k :: ks, h, hp => by
  have ih := Qg9 (ks := ks) (fun k hk => h k (by simp [hk])) (fun k hk => hp k (by simp [hk]))
  unfold Qd5 at ih ⊢
  rw [css, VG (h k (by simp)), zT, List.any_cons, ih, hp k (by simp), Vw]
theorem Qn0 {m d c : Nat} {k : Bs} (h : Ui k) : Gd (m + 1) d (c + 1) (.tag k) := by
 simp only [Gd]; exact ⟨by omega, h⟩
theorem QgX : ∀ (m : Nat) (T : ST), ST.ht' T <= m -> VX T -> Ux T -> (∀ x ∈ T.flat, Y5 x = true) -> GdT m T
 | 0, .mk x ks, h, _, _, _ => by simp [ST.ht'] at h
 | m + 1, .mk x ks, h, hr, hsm, hpr => by
  rw [ST.ht'] at h
  have hht := QcB (ks := ks) (n := m) (by omega)
  have hr' := hr
  obtain ⟨hf, hz, hs, hk⟩ := hr'
  have hsm' := hsm
  obtain ⟨hsx, hsk⟩ := hsm'
  have F := fld hf
  have hpx : Y5 x = true := by
   have := hpr _ (by rw [ST.flat, QT]; exact List.mem_cons_self ..)
   exact this
  have hpk : ∀ k ∈ ks, ∀ x ∈ k.flat, Y5 x = true := by
   intro k hk' y hy
   refine hpr y ?_
   rw [ST.flat, QT]
   refine List.mem_cons_of_mem _ ?_
   clear hpr hht hsk hk hs hr hsm h
   induction ks with
   | nil => cases hk'
   | cons t ks ih =>
    rw [ST.flats]
    rcases zz.1 hk' with e | e
    subst e; exact List.mem_append_left _ hy
    exact List.mem_append_right _ (ih e)
  have hK : ∀ k ∈ ks, GdT m k := fun k hk' => QgX m k (hht k hk') (hk.mem k hk') (hsk.mem k hk') (hpk k hk')
  have tagc : x.kind = 2 -> c1 (.mk x ks) = .tag x.key := fun h2 => YU (by unfold VY Qx; rw [if_neg (by omega), if_neg (by omega), if_neg (by omega), if_neg (by omega), if_neg (by omega), if_pos h2])
  have tagp : x.kind = 2 -> Ui x.key := fun h2 => by
   unfold Y5 at hpx
   rw [if_pos h2] at hpx
   exact QfF F.kz (F.key (.inl h2)) hpx F.low
  have sim : Qo x.kind = true -> x.kind ≠ 1 -> x.kind ≠ 2 -> Gd (m + 1) (m + 1) 0 (c1 (.mk x ks)) /\ peF (c1 (.mk x ks)) = false := by
   intro h0 h1 h2
   have h0' := h0
   simp only [Qo, zh, decide_eq_true_eq] at h0'
   by_cases h18 : x.kind = 18 \/ x.kind = 19 \/ x.kind = 20
   have e : c1 (.mk x ks) = .rel (QU.getD (x.kind - 18).toNat []) (css ks) := YU (by unfold VY; rw [if_neg (by omega), if_neg (by omega), if_neg (by omega), if_pos h18])
   unfold Je at hs
   rw [if_neg (by omega), if_pos h18] at hs
   obtain ⟨⟨g, rfl, hg⟩, hps⟩ := hs
   have hpg : V8 g = false := by
    have : ZN [g] = false := hps
    rw [Vw, Yn, Bool.or_false] at this
    exact this
   have ec : css [g] = cs g := by rw [css, css, zC]
   obtain ⟨g1, g2, g3⟩ := (hK g (by simp)).grp hg
   rw [e, ec]
   have hnm : ∀ m : Fin 3, QU.getD m.val [] = Jv \/ QU.getD m.val [] = Jw \/ QU.getD m.val [] = nHasChild := by decide
   obtain ⟨j, hj⟩ : ∃ m : Fin 3, (x.kind - 18).toNat = m.val := ⟨⟨(x.kind - 18).toNat, by omega⟩, rfl⟩
   rw [hj]
   refine ⟨?_, rfl⟩
   simp only [Gd]
   refine ⟨hnm j, g1, m, rfl, fun y hy => ⟨g2 y hy, ?_⟩⟩
   rw [hpg] at g3
   unfold Qd5 at g3
   rw [xr] at g3
   simpa using g3 y hy
   have e : c1 (.mk x ks) = Qx x := YU (by unfold VY; rw [if_neg (by omega), if_neg (by omega), if_neg (by omega), if_neg h18])
   rw [e]
   refine ⟨QpZ (Qlx F hsx hpx h0 h1 h2 h18), ?_⟩
   rcases Qnl (x := x) with q | q
   exact q
   have := (Qic h0 h1).1
   rw [q] at this
   exact absurd this (by decide)
  have seq : QI x.kind = true -> x.kind ≠ 22 -> Gd (m + 1) (m + 1) 1 (c1 (.mk x ks)) /\ peF (c1 (.mk x ks)) = V8 (.mk x ks) := by
   intro h0 h22
   by_cases h21 : x.kind = 21
   have hc : c1 (.mk x ks) = Vp ((css ks).filter fun y => !Yw y) x.val := YU (by unfold VY; rw [if_neg (by omega), if_neg (by omega), if_pos h21])
   unfold Je at hs
   rw [if_neg (by omega), if_neg (by omega), if_pos h21] at hs
   have hv : x.val = [] \/ JC x.val = true := by
    rcases F.val (by omega) with h | h
    exact .inl h
    exact .inr h.2
   have hp : V8 (.mk x ks) = !decide (x.val = []) := by
    rw [ZB, QbH fun k hk' => Ub (hk.mem k hk') (hs.1 k hk')]
    simp [V7, h21]
   have hel : x.val = [] \/ x.val ∈ elNames := by
    rcases hv with h | h
    exact .inl h
    right
    simp only [JC, zw, decide_eq_true_eq] at h
    rcases h with ((h | h) | h) | h <;> rw [h] <;> decide
   have n23 : ∀ k ∈ ks, k.node.kind ≠ 23 := fun k hk' => by
    have := hs.1 k hk'
    simp only [Qo, zh, decide_eq_true_eq] at this; omega
   have part : ∀ (us : List ST), (∀ k ∈ us, k ∈ ks) -> (∀ k ∈ us, k.node.kind ≠ 2) -> ∀ y ∈ (css us).filter (fun y => !Yw y), Gd m m 0 y /\ peF y = false := by
    intro us hus h2 y hy
    obtain ⟨hy1, hy2⟩ := List.mem_filter.1 hy
    obtain ⟨k, hk', rfl⟩ := Qgi (fun k hk' => n23 k (hus k hk')) y hy1
    have hks := hs.1 k (hus k hk')
    have hk1 : k.node.kind ≠ 1 := fun q => by
     rw [(UM (hk.mem k (hus k hk')) hks).1 q] at hy2
     exact absurd hy2 (by decide)
    have q := hK k (hus k hk')
    refine ⟨q.sim hks hk1 (h2 k hk'), ?_⟩
    rw [q.pe (by simp [QI, hks]), Ub (hk.mem k (hus k hk')) hks]
   have fin : ∀ l : List CSel, (∀ y ∈ l.tail, Gd m m 0 y) -> (∀ y, l.head? = some y -> (Gd m m 0 y \/ ∃ k, y = .tag k /\ Ui k) /\ peF y = false) -> Gd (m + 1) (m + 1) 1 (Vp l x.val) /\ peF (Vp l x.val) = !decide (x.val = []) := by
    intro l h3 h4
    by_cases e : l.length = 1 /\ x.val = []
    obtain ⟨y, rfl⟩ := List.length_eq_one_iff.1 e.1
    rw [e.2]
    show Gd (m + 1) (m + 1) 1 y /\ peF y = _
    refine ⟨?_, (h4 y rfl).2⟩
    rcases (h4 y rfl).1 with q | ⟨k, rfl, q⟩
    exact q.mono (by omega) (by omega) (by omega)
    exact Qn0 q
    have hse : Vp l x.val = .compound l x.val := by
     unfold Vp
     split
     rename_i y hv; exact absurd ⟨rfl, hv⟩ e
     rfl
    rw [hse]
    refine ⟨?_, rfl⟩
    simp only [Gd]
    exact ⟨by omega, hel, fun q r => e ⟨q, r⟩, fun y hy => (h3 y hy).mono (zq _) (by omega) (zq _), fun y hy => (h4 y hy).1.imp (fun q => q.mono (zq _) (by omega) (zq _)) id⟩
   rw [hc, hp]
   by_cases h2 : ∀ k ∈ ks, k.node.kind ≠ 2
   have q := part ks (fun k h => h) h2
   exact fin _ (fun y hy => (q y (List.mem_of_mem_tail hy)).1) (fun y hy => have := q y (List.mem_of_mem_head? hy); ⟨.inl this.1, this.2⟩)
   obtain ⟨k0, rest, rfl, hk0⟩ : ∃ k0 rest, ks = k0 :: rest /\ k0.node.kind = 2 := by
    rcases ks with _ | ⟨k0, rest⟩
    exact absurd (fun k hk' => by cases hk') h2
    refine ⟨k0, rest, rfl, ?_⟩
    by_cases e : k0.node.kind = 2
    exact e
    refine absurd (fun k hk' => ?_) h2
    rcases zz.1 hk' with q | q
    subst q; exact e
    exact hs.2 k q
   obtain ⟨k, q1, q2⟩ := (hK k0 (by simp)).tag hk0
   have q := part rest (fun k h => by simp [h]) hs.2
   rw [css, VG (by omega), zT, q1, List.filter_cons_of_pos (by rfl)]
   exact fin _ (fun y hy => (q y hy).1) (fun y hy => by cases hy; exact ⟨.inr ⟨k, rfl, q2⟩, rfl⟩)
   have h0s : Qo x.kind = true := by simpa [QI, h21, h22] using h0
   rw [Ub hr h0s]
   by_cases h1 : x.kind = 1
   rw [(UM hr h0s).1 h1]
   refine ⟨?_, rfl⟩
   simp [Gd]
   by_cases h2 : x.kind = 2
   rw [tagc h2]
   exact ⟨Qn0 (tagp h2), rfl⟩
   have q := sim h0s h1 h2
   exact ⟨q.1.mono (zq _) (zq _) (by omega), q.2⟩
  have sel : QI x.kind = true -> Gd (m + 1) (m + 1) 2 (c1 (.mk x ks)) /\ peF (c1 (.mk x ks)) = V8 (.mk x ks) := by
   intro h0
   by_cases h22 : x.kind = 22
   unfold Je at hs
   rw [if_neg (by omega), if_neg (by omega), if_neg (by omega), if_pos h22] at hs
   obtain ⟨a, b, rfl, ha, hb, hb22, hpa⟩ := hs
   have ha23 : a.node.kind ≠ 23 := by simp [QI, Qo] at ha; omega
   have hb23 : b.node.kind ≠ 23 := by simp [QI, Qo] at hb; omega
   have e : c1 (.mk x [a, b]) = .combined (c1 a) (Qb6 x.op) (c1 b) := YU (by
    unfold VY
    rw [if_neg (by omega), if_pos h22, css, css, css, VG ha23, VG hb23]; rfl)
   have ep : V8 (.mk x [a, b]) = V8 b := by
    rw [ZB, QaK (by omega), Vw, Vw, Yn, show V8 a = false from hpa]; simp
   obtain ⟨o1, o2, _⟩ := F.comb h22
   have ho : x.op = 1 \/ x.op = 2 \/ x.op = 3 \/ x.op = 4 := by omega
   have hA := hK a (by simp)
   have hB := hK b (by simp)
   rw [e, ep]
   refine ⟨?_, hB.pe hb⟩
   simp only [Gd]
   exact ⟨by omega, by rcases ho with ho | ho | ho | ho <;> rw [ho] <;> decide, (hA.sel ha).mono (zq _) (by omega) (zq _), by rw [hA.pe ha]; exact hpa, (hB.seq hb hb22).mono (zq _) (by omega) (zq _)⟩
   have q := seq h0 h22
   exact ⟨q.1.mono (zq _) (zq _) (by omega), q.2⟩
  refine { sim := fun a b c => (sim a b c).1, tag := fun h2 => ⟨x.key, tagc h2, tagp h2⟩, seq := fun a b => (seq a b).1, sel := fun a => (sel a).1, pe := fun a => (sel a).2, grp := fun h23 => ?_ }
  have h23' : x.kind = 23 := h23
  unfold Je at hs
  rw [if_pos h23'] at hs
  obtain ⟨hs1, hs2⟩ := hs
  have n23 : ∀ k ∈ ks, k.node.kind ≠ 23 := fun k hk' => by
   have := hs1 k hk'
   simp [QI, Qo] at this; omega
  have ec : cs (.mk x ks) = css ks := by
   rw [cs]; unfold VY
   rw [if_pos h23']
  rw [ec]
  refine ⟨?_, fun y hy => ?_, ?_⟩
  obtain ⟨k0, rest, rfl⟩ := zB hs2
  rw [css, VG (n23 k0 (by simp))]
  simp
  obtain ⟨k, hk', rfl⟩ := Qgi n23 y hy
  exact ((hK k hk').sel (hs1 k hk')).mono (by omega) (by omega) (zq _)
  rw [Qg9 n23 fun k hk' => (hK k hk').pe (hs1 k hk'), ZB, QaK (by omega), xo]
theorem QqQ {T : ST} (hh : ST.ht' T <= 1000) (hr : VX T) (hsm : Ux T) (hp : ∀ x ∈ T.flat, Y5 x = true) (hk : T.node.kind = 23 \/ QI T.node.kind = true) : Q2 (prG (cs T)) true true = some (cs T) := by
 have q := QgX _ T (zq _) hr hsm hp
 have : cs T ≠ [] /\ ∀ y ∈ cs T, Gd (ST.ht' T) (ST.ht' T) 2 y := by
  rcases hk with hk | hk
  exact ⟨(q.grp hk).1, (q.grp hk).2.1⟩
  have n23 : T.node.kind ≠ 23 := by simp [QI, Qo] at hk; omega
  rw [VG n23]
  exact ⟨by simp, fun y hy => by rw [zQ.1 hy]; exact q.sel hk⟩
 rw [QiJ this.1 this.2 hh true, if_neg (by simp)]
end Way
end
end Go.Proofs.YtengepcafdnalaaGreatDoor
