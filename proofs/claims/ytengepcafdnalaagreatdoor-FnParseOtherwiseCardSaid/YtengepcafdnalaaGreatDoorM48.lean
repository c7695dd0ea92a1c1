/-
  Parts of the proof that the law FnParseOtherwise holds for every input (texts Of, Lx). Conditions: none.
-/
import Derived.Test.YtengepcafdnalaaGreatDoorM47
import Derived.Test.YtengepcafdnalaaGreatDoorCards
import Derived.Test.YtengepcafdnalaaGreatDoorTie
import Derived.ProofKit
import Derived.LaidMore
import Derived.OpenShut
import Derived.Stop.Joined
import Derived.JoinedOf
import Derived.MakeChecks
import Derived.ChangeMaps5
import Derived.SevenTiedAt
import Derived.Deep.Slices
import Derived.WideKeyArgs
import Derived.ChangeOld
namespace Go.Proofs.YtengepcafdnalaaGreatDoor
section
open Go Go.RowKit
set_option maxRecDepth 20000
theorem Qmr : ∀ {l : List SelD}, mbL l <= 500 -> pwL l <= 2000 * l.length + 20 * mbL l
 | [], _ => by simp [pwL]
 | x :: l, h => by
  rw [mbL] at h ⊢
  have ih := Qmr (l := l) (by omega)
  rw [pwL, List.length_cons]
  unfold pwN
  omega
theorem QoV {l : List SelD} (h : QaV l = true) (y : Bs) : ∃ T, Look l T /\ (l.length <= 60 /\ pwL l <= 200000) /\ Qgl (YP y l) l := by
 obtain ⟨T, q⟩ := Qkv h
 have hm : mbL l <= 500 := by
  unfold QaV at h
  split at h
  cases h
  simp only [Bool.and_eq_true, decide_eq_true_eq] at h
  exact h.2.1
 have hw := Qmr hm
 have hn := q.n
 have hl : (YP y l).length <= 1000000 := by
  unfold YP
  rw [if_neg (by omega)]
  have p1 := Vx y 0
  have p2 := q.wat.pen y (Qh y 0).2
  have p3 := Vx y (Qg y 2000 l 0 (Qh y 0).2).2
  simp only [List.length_append]
  omega
 refine ⟨T, q, by omega, q.same hl (Way.Qqz q.e ?_ q.r q.s q.k)⟩
 have := QfP T
 have := congrArg List.length q.e
 omega
def c5 (svs : List SV) (b : Option SB) : QR := match svs, b with
 | [.sl (.sels l), .sl (.bytes y)], none => some ([l.length <= 9223372036854775807, y.length <= 9223372036854775807], .bool true)
 | _, _ => none
noncomputable def W5 : Wk := ⟨[(14, .pure c14), (15, .pure c15), (18, .pure c18), (19, .pure c19)], Qm Tryz.f5, false, false, [.tmp 4], [4], [], []⟩
theorem QmI {p q : Prop} (k : q) (h : p := by first | omega | assumption | exact h1.1 | (obtain ⟨T, q1, q2, q3⟩ := QoV (y := y) h2.1; first | exact q2 | exact fun _ => q1.wat | exact q3)) : p /\ q := ⟨h, k⟩
theorem sat5 : Sat 5 (QC c5) := by
 have hD : Qe W5.D := (Qe.cons has14 sat14 (Qe.cons has15 sat15 (Qe.cons has18 sat18 (Qe.cons has19 sat19 Qe.nil))))
 refine W5.sa hD Tryz.f5 fun svs b K hP => ?_
 obtain ⟨ps, v, e, hp, hk⟩ := Qo hP
 unfold c5 at e
 split at e
 rename_i l y
 cases e
 obtain ⟨h01, h02, _⟩ := hp
 refine W5.en ((l.length <= 9223372036854775807) /\ cond ((!(Qbm l)) || (decide (2147483647 < y.length))) (K (.val (.bool true)) none) ((Qbm l = true) /\ cond ((!(QaV l)) || (decide (100 < y.length))) (K (.val (.bool true)) none) ((l.length <= 60 /\ pwL l <= 200000) /\ (l.length ≠ 0 -> WAt l 2000 0) /\ (Qgl (YP y l) l) /\ K (.val (.bool true)) none))) ?_
 refine QmI ?_
 refine Qd ?_ ?_ <;> intro h1 <;> simp -failIfUnchanged [-List.getD_eq_getElem?_getD, -UInt8.toNat_or] at h1
 exact hk
 refine QmI ?_
 refine Qd ?_ ?_ <;> intro h2 <;> simp -failIfUnchanged [-List.getD_eq_getElem?_getD, -UInt8.toNat_or] at h2
 exact hk
 refine QmI (QmI (QmI ?_))
 exact hk
 cases e
end
section
open Go Go.ChangeShapes Go.WideShapes Go.RowKit Go.Deep
set_option maxRecDepth 100000
theorem own : ownKnob Tryz.prog.godebug = Option.none := by kernel_rfl
theorem Qhf : laidOutB Tryz.prog = true := by kernel_rfl
theorem QjP {P : Program} {W : World} : ∀ {l : List (String × DataW Unit)} {ps : List MemPlace}, DataW.LaidVars P W l ps -> ∀ {n : String} {d : DataW Unit}, (n, d) ∈ l ->
 ∃ g t cs fuel p, P.globalNamed n = some g /\ (P.globals[g]?).map (·.type) = some t /\ W.var? P n = some cs /\ DataW.trod (fun _ => ()) P W 0 (fun _ => true) false fuel t cs.toList = some (d, p)
 | [], _, _, _, _, h => by cases h
 | (_, _) :: _, _, ⟨g, t, cs, f, p, _, h1, h2, h3, h4, h5, _⟩, _, _, h => by
  rcases List.mem_cons.1 h with e | e
  cases e; exact ⟨g, t, cs, f, p, h1, h2, h3, h4⟩
  exact QjP h5 e
theorem Qm5 {fuel : Nat} {W : World} {cs : List Value} {n : String} {x : DataW Unit} {p : List MemPlace}
 (h : DataW.trod (fun _ => ()) Tryz.prog W 0 (fun _ => true) false fuel 71 cs = some (.iface n x, p)) : ∃ u v, cs = [.iface u v] := by
 cases fuel with
 | zero => simp [DataW.trod] at h
 | succ f =>
  unfold DataW.trod at h
  rw [Tryz.underlying71] at h
  match cs, h with
  | [], h => simp at h
  | [v], h => cases v <;> simp at h <;> exact ⟨_, _, rfl⟩
  | _ :: _ :: _, h => simp at h
theorem Qpo {W : World} (h : laidMetH Tryz.prog Rows.fnParseWrittenRow.laid W) (g : Nat) (hg : Qhx g = true) : ∃ u v T fr, W.heap[g]? = some (.cells #[.iface u v] T fr) := by
 rw [MakeChecks.laidMetH_plain _ _ _ (by kernel_rfl)] at h
 obtain ⟨ps, h, _⟩ := h
 have one : ∀ (n : String) (a : String) (d : DataW Unit), (n, DataW.iface a d) ∈ Rows.fnParseWrittenRow.laid -> Tryz.prog.globalNamed n = some g -> (Tryz.prog.globals[g]?).map (·.type) = some 71 -> ∃ u v T fr, W.heap[g]? = some (.cells #[.iface u v] T fr) := by
  intro n a d hm hn ht
  obtain ⟨g', t, cs, fuel, p, h1, h2, h3, h4⟩ := QjP h hm
  obtain rfl := Option.some.inj (hn.symm.trans h1)
  obtain rfl := Option.some.inj (ht.symm.trans h2)
  obtain ⟨u, v, e⟩ := Qm5 h4
  simp only [World.var?, hn, Option.bind_some] at h3
  split at h3
  rename_i c T fr hh
  cases h3
  refine ⟨u, v, T, fr, ?_⟩
  rw [hh]
  obtain ⟨l⟩ := cs
  simp only at e
  rw [e]
  cases h3
 have hc : g = 0 \/ g = 1 \/ g = 2 \/ g = 4 \/ g = 5 := by
  simp [Qhx] at hg
  omega
 rcases hc with rfl | rfl | rfl | rfl | rfl
 exact one "given.example/pub-bosquet/pub/cascadia.errExpectedParenthesis" _ _ (List.mem_of_getElem? (i := 5) rfl) (by kernel_rfl) (by kernel_rfl)
 exact one "given.example/pub-bosquet/pub/cascadia.errExpectedClosingParenthesis" _ _ (List.mem_of_getElem? (i := 6) rfl) (by kernel_rfl) (by kernel_rfl)
 exact one "given.example/pub-bosquet/pub/cascadia.errUnmatchedParenthesis" _ _ (List.mem_of_getElem? (i := 7) rfl) (by kernel_rfl) (by kernel_rfl)
 exact one "strconv.ErrSyntax" _ _ (List.mem_of_getElem? (i := 4) rfl) (by kernel_rfl) (by kernel_rfl)
 exact one "strconv.ErrRange" _ _ (List.mem_of_getElem? (i := 3) rfl) (by kernel_rfl) (by kernel_rfl)
def Zo (W : World) (b : Nat) : Option (Array Value × TypeId) := match W.heap[b]? with
 | some (.cells c T _) => some (c, T)
 | _ => Option.none
theorem JF {W : World} {b : Nat} {c : Array Value} {T : TypeId} {fr : Nat × Nat} (h : W.heap[b]? = some (.cells c T fr)) : Zo W b = some (c, T) := by
 unfold Zo; rw [h]
theorem QdP {W : World} {b : Nat} {c : Array Value} {T : TypeId} (e : Zo W b = some (c, T)) : ∃ fr, W.heap[b]? = some (.cells c T fr) := by
 unfold Zo at e
 split at e
 rename_i h; cases e; exact ⟨_, h⟩
 cases e
theorem Sat.calls {f : FuncId} {P : Spec} (hf : Sat f P) {W : World} (he : ∀ g, Qhx g = true -> ∃ u v T fr, W.heap[g]? = some (.cells #[.iface u v] T fr)) {svs : List SV} {args : Array Value} (hn : args.size = svs.length)
 (hr : ∀ (ω : Wit), ω.Γ = Zo W -> ∀ (i : Nat) (s : SV) (v : Value), svs[i]? = some s -> args[i]? = some v -> Rel ω s v) {s : SV} (hk : P svs Option.none fun o _ => o = .val s) :
 Calls Tryz.prog f args W fun e W' => ∃ v, e = .returned v /\ (∃ ω, Rel ω s v) /\ Frame W (fun _ => False) W' := by
 let g0 : Glob := ⟨Zo W, fun g hg => by
  obtain ⟨u, v, T, fr, h⟩ := he g hg
  exact ⟨u, v, T, JF h⟩, []⟩
 have hS : Sim g0 W (fun _ => False) ⟨Zo W, fun _ => 0, fun _ => undef, 1⟩ (loc Option.none) a0 W := {
  env := fun i s e => by simp [loc, elk, lk2] at e
  heap := fun r b e => by simp [loc, hlk] at e
  sep := fun r r' b b' k e => by simp [loc, hlk] at e
  ng := fun r b k e => by simp [loc, hlk] at e
  mine := fun r b k e => by simp [loc, hlk] at e
  nx := fun r b e => by simp [loc, hlk] at e
  wn := rfl
  gam := fun b c T e => QdP e
  fr := Frame.refl W _
  df := rfl
  gl := fun b x e => e
  gn := fun b x e => .inl e
  pin := fun k hk => hk.elim
  n0 := Nat.zero_lt_one }
 refine (hf g0 W _ _ svs args Option.none _ hS hn (fun i s v e1 e2 => hr _ rfl i s v e1 e2) hk).mono ?_
 rintro e W' ⟨v, o, b', he, rfl, ω', S', h1, _, h3⟩
 exact ⟨v, he, ⟨ω', h3.2⟩, h1.fr⟩
theorem Frame.kept {W W' : World} (h : Frame W (fun _ => False) W') (may : MemPlace -> Prop) : W.keptBut W' may := by
 refine ⟨h.os, h.output, fun i hi => ?_⟩
 rw [h.block i hi (fun q => q)]
 exact (World.keptBut_refl W may).2.2 i hi
theorem Frame.sameAt {W W' : World} (h : Frame W (fun _ => False) W') {p : MemPlace} (hp : p.block < W.heap.size) : W.sameAt W' p := by
 cases p with
 | cell b o => exact World.cell?_of_block (w := W) (h.block b hp (fun q => q))
 | map b => exact h.block b hp (fun q => q)
section
variable {H : Type} {enc : TypeId × Value -> H}
theorem Qed {W W' : World} {sp sp' : Nat -> Bool} : ∀ {ns : List String} {gs : List (DataW H)} {q : List MemPlace}, DataW.TrodVars enc Tryz.prog W sp ns gs q ->
 (∀ n ∈ ns, ∃ g u v T fr, Tryz.prog.globalNamed n = some g /\ (Tryz.prog.globals[g]?).map (·.type) = some 71 /\ W.heap[g]? = some (.cells #[.iface u v] T fr) /\ W'.heap[g]? = W.heap[g]?) ->
 DataW.TrodVars enc Tryz.prog W' sp' ns gs q
 | [], [], _, h, _ => h
 | [], _ :: _, _, h, _ => h.elim
 | _ :: _, [], _, h, _ => h.elim
 | n :: ns, d :: gs, _, ⟨g, t, cs, fuel, p, q, h1, h2, h3, h4, h5, h6⟩, hall => by
  obtain ⟨g', u, v, T, fr, k1, k2, k3, k4⟩ := hall n (List.mem_cons_self ..)
  obtain rfl := Option.some.inj (k1.symm.trans h1)
  obtain rfl := Option.some.inj (k2.symm.trans h2)
  have e : cs = #[.iface u v] := by
   simp only [World.var?, h1, Option.bind_some, k3, Option.some.injEq] at h3
   exact h3.symm
  subst e
  refine ⟨g', 71, #[.iface u v], fuel, p, q, h1, h2, ?_, ?_, Qed h5 fun m hm => hall m (List.mem_cons_of_mem _ hm), h6⟩
  simp only [World.var?, h1, Option.bind_some, k4, k3]
  cases fuel with
  | zero => simp [DataW.trod] at h4
  | succ f =>
   unfold DataW.trod at h4 ⊢
   rw [Tryz.underlying71] at h4 ⊢
   simpa using h4
theorem QhV {W : World} {sp : Nat -> Bool} {a b c : String} {gs : List (DataW H)} {q : List MemPlace} (h : DataW.TrodVars enc Tryz.prog W sp [a, b, c] gs q) : ∃ x y z, gs = [x, y, z] := by
 match gs, h with
 | [], h => exact h.elim
 | [x], ⟨_, _, _, _, _, _, _, _, _, _, h, _⟩ => exact h.elim
 | [x, y], ⟨_, _, _, _, _, _, _, _, _, _, ⟨_, _, _, _, _, _, _, _, _, _, h, _⟩, _⟩ => exact h.elim
 | [x, y, z], _ => exact ⟨x, y, z, rfl⟩
 | x :: y :: z :: t :: l, ⟨_, _, _, _, _, _, _, _, _, _, ⟨_, _, _, _, _, _, _, _, _, _, ⟨_, _, _, _, _, _, _, _, _, _, h, _⟩, _⟩, _⟩ => exact h.elim
theorem QhW {W W' : World} {sp sp' : Nat -> Bool} {gs : List (DataW H)} {q : List MemPlace} (hc : ∀ g, Qhx g = true -> ∃ u v T fr, W.heap[g]? = some (.cells #[.iface u v] T fr)) (hf : Frame W (fun _ => False) W')
 (hV : DataW.TrodVars enc Tryz.prog W sp ["given.example/pub-bosquet/pub/cascadia.errExpectedParenthesis", "given.example/pub-bosquet/pub/cascadia.errExpectedClosingParenthesis", "given.example/pub-bosquet/pub/cascadia.errUnmatchedParenthesis"] gs q) :
 DataW.TrodVars enc Tryz.prog W' sp' ["given.example/pub-bosquet/pub/cascadia.errExpectedParenthesis", "given.example/pub-bosquet/pub/cascadia.errExpectedClosingParenthesis", "given.example/pub-bosquet/pub/cascadia.errUnmatchedParenthesis"] gs q := by
 refine Qed hV fun n hn => ?_
 have fin : ∀ g, Qhx g = true -> Tryz.prog.globalNamed n = some g -> (Tryz.prog.globals[g]?).map (·.type) = some 71 ->
  ∃ g u v T fr, Tryz.prog.globalNamed n = some g /\ (Tryz.prog.globals[g]?).map (·.type) = some 71 /\ W.heap[g]? = some (.cells #[.iface u v] T fr) /\ W'.heap[g]? = W.heap[g]? := by
  intro g hg k1 k2
  obtain ⟨u, v, T, fr, k3⟩ := hc g hg
  exact ⟨g, u, v, T, fr, k1, k2, k3, hf.block g (Array.getElem?_eq_some_iff.1 k3).1 (fun q => q)⟩
 simp only [List.mem_cons, List.not_mem_nil, or_false] at hn
 rcases hn with rfl | rfl | rfl
 exact fin 0 rfl (by kernel_rfl) (by kernel_rfl)
 exact fin 1 rfl (by kernel_rfl) (by kernel_rfl)
 exact fin 2 rfl (by kernel_rfl) (by kernel_rfl)
theorem JT {W : World} {sp : Nat -> Bool} {held : Bool} {n : Nat} {v : Value} {x : DataW H × List MemPlace} (h : DataW.trod enc Tryz.prog W 0 sp held n 3 [v] = some x) : ∃ k : Int, v = .int .i64 k := by
 obtain ⟨k, e, _⟩ := DataW.trod_int (k := .i64) (by kernel_rfl) h
 cases e; exact ⟨k, rfl⟩
theorem Qgz {W : World} {sp : Nat -> Bool} {held : Bool} {n : Nat} {v : Value} {x : DataW H × List MemPlace} (h : DataW.trod enc Tryz.prog W 0 sp held n 9 [v] = some x) : ∃ l : List UInt8, v = .string ⟨l.toArray⟩ := by
 obtain ⟨k, e, _⟩ := DataW.trod_string Tryz.underlying9 h
 cases e
 obtain ⟨⟨l⟩⟩ := k
 exact ⟨l, rfl⟩
def QpL (P : Program) : Option (List (Nat × Nat)) := match P.underlying 33 with
 | some (.struct fs) => some (fs.toList.map fun f => (f.offset, f.type))
 | _ => Option.none
theorem QkH : ∃ fs : Array Field, Tryz.prog.underlying 33 = some (.struct fs) /\ fs.toList.map (fun f => (f.offset, f.type)) = [(0, 3), (1, 3), (2, 9), (3, 9), (4, 3), (5, 3), (6, 3), (7, 3)] := by
 have h : QpL Tryz.prog = some [(0, 3), (1, 3), (2, 9), (3, 9), (4, 3), (5, 3), (6, 3), (7, 3)] := by kernel_rfl
 unfold QpL at h
 split at h
 rename_i fs hu
 exact ⟨fs, hu, Option.some.inj h⟩
 cases h
theorem Qip {W : World} {sp : Nat -> Bool} {held : Bool} {n : Nat} {cs : List Value} {x : DataW H × List MemPlace} (h : DataW.trod enc Tryz.prog W 0 sp held n 33 cs = some x) :
 ∃ y : SelD, ∀ (ω : Wit) (j : Nat) (s : SV) (v : Value), (Vl y)[j]? = some s -> cs[j]? = some v -> Rel ω s v := by
 obtain ⟨fs, hu, hfs⟩ := QkH
 obtain ⟨xs, m, _, _, hl, _, hf⟩ := DataW.trod_struct hu h
 have hl : cs.length = 8 := hl
 have one : ∀ (i o t : Nat), (fs.toList.map fun f => (f.offset, f.type))[i]? = some (o, t) -> Tryz.prog.cellsOf t = 1 -> ∃ y, DataW.trod enc Tryz.prog W 0 sp held m t ((cs.drop o).take 1) = some y := by
  intro i o t e hc
  rw [List.getElem?_map, Array.getElem?_toList] at e
  obtain ⟨f, e1, e2⟩ := Option.map_eq_some_iff.1 e
  cases e2
  have q := hf i f e1
  rw [hc] at q
  have : i < xs.length := by
   have h1 : i < fs.size := (Array.getElem?_eq_some_iff.1 e1).1
   omega
  exact ⟨_, q.trans (List.getElem?_eq_getElem this)⟩
 rw [hfs] at one
 have c3 : Tryz.prog.cellsOf 3 = 1 := by kernel_rfl
 have c9 : Tryz.prog.cellsOf 9 = 1 := by kernel_rfl
 match cs, hl with
 | [v0, v1, v2, v3, v4, v5, v6, v7], _ =>
  obtain ⟨_, y0⟩ := one 0 0 3 rfl c3
  obtain ⟨_, y1⟩ := one 1 1 3 rfl c3
  obtain ⟨_, y2⟩ := one 2 2 9 rfl c9
  obtain ⟨_, y3⟩ := one 3 3 9 rfl c9
  obtain ⟨_, y4⟩ := one 4 4 3 rfl c3
  obtain ⟨_, y5⟩ := one 5 5 3 rfl c3
  obtain ⟨_, y6⟩ := one 6 6 3 rfl c3
  obtain ⟨_, y7⟩ := one 7 7 3 rfl c3
  obtain ⟨k, rfl⟩ := JT y0
  obtain ⟨o, rfl⟩ := JT y1
  obtain ⟨ke, rfl⟩ := Qgz y2
  obtain ⟨va, rfl⟩ := Qgz y3
  obtain ⟨a, rfl⟩ := JT y4
  obtain ⟨b, rfl⟩ := JT y5
  obtain ⟨fl, rfl⟩ := JT y6
  obtain ⟨sz, rfl⟩ := JT y7
  refine ⟨⟨k, o, ke, va, a, b, fl, sz⟩, fun ω j s v e1 e2 => ?_⟩
  match j, e1, e2 with
  | 0, e1, e2 => cases e1; cases e2; exact .int _ _
  | 1, e1, e2 => cases e1; cases e2; exact .int _ _
  | 2, e1, e2 => cases e1; cases e2; exact .str _
  | 3, e1, e2 => cases e1; cases e2; exact .str _
  | 4, e1, e2 => cases e1; cases e2; exact .int _ _
  | 5, e1, e2 => cases e1; cases e2; exact .int _ _
  | 6, e1, e2 => cases e1; cases e2; exact .int _ _
  | 7, e1, e2 => cases e1; cases e2; exact .int _ _
  | j + 8, e1, e2 => cases e1
theorem QlY {W : World} {sp : Nat -> Bool} {held : Bool} {v : Value} {d : DataW H} {p : List MemPlace} {base : Nat} (hval : Value.okWide Tryz.prog W .any base 22 v) (h : DataW.Trod enc Tryz.prog W 0 sp held 22 v d p) :
 ∃ l : List SelD, l.length <= 9223372036854775807 /\ ∀ ω : Wit, ω.Γ = Zo W -> Rel ω (.sl (.sels l)) v := by
 obtain ⟨n, h⟩ := h
 have hc8 : Tryz.prog.cellsOf 33 = 8 := by kernel_rfl
 have hv : ∀ (a : Option Addr) (len cap : Nat), v.cells.toList = [.slice a len cap] -> v = .slice a len cap := by
  intro a len cap e
  obtain ⟨a', l', c', rfl⟩ := okWide_slice Tryz.underlying22 hval
  simpa [Value.cells] using e
 rcases open_slice (e := 33) Tryz.underlying22 h with ⟨e, _⟩ | ⟨a, len, cap, m, n', D, Pl, e, _, hl, hm, hmm, _, hi⟩
 obtain rfl := hv _ _ _ e
 exact ⟨[], by simp, fun ω _ => .slz _ _ _ rfl⟩
 obtain rfl := hv _ _ _ e
 rcases Nat.eq_zero_or_pos len with h0 | h0
 subst h0
 exact ⟨[], by simp, fun ω _ => .slz _ _ _ rfl⟩
 rw [hc8] at hi
 have hlm : len <= m := by rw [hmm]; split <;> omega
 have hY : ∀ i, i < len -> ∃ y : SelD, ∀ (ω : Wit) (j : Nat) (s : SV) (u : Value), (Vl y)[j]? = some s -> W.cell? (a.add (i * 8 + j)) = some u -> Rel ω s u := by
  intro i hil
  obtain ⟨cs', h1, h2⟩ := hi i (by omega)
  obtain ⟨y, hy⟩ := Qip h2
  obtain ⟨_, hcl, hat⟩ := World.cells?_some h1
  refine ⟨y, fun ω j s u e1 e2 => hy ω j s u e1 ?_⟩
  have hj : j < 8 := by
   have : j < (Vl y).length := (List.getElem?_eq_some_iff.1 e1).1
   exact this
  rw [<- hat j hj, add_add]
  exact e2
 obtain ⟨Y, hY⟩ := choose_lt (α := SelD) hY
 have hcell : ∀ i j, i < len -> j < 8 -> ∃ u, W.cell? (a.add (i * 8 + j)) = some u := by
  intro i j hil hj
  obtain ⟨cs', h1, h2⟩ := hi i (by omega)
  obtain ⟨_, hcl, hat⟩ := World.cells?_some h1
  have := hat j hj
  rw [add_add, List.getElem?_eq_getElem (by omega)] at this
  exact ⟨_, this⟩
 obtain ⟨b, o, spot⟩ := a
 have hspot : spot = Option.none := by
  obtain ⟨u, hu⟩ := hcell 0 0 h0 (by omega)
  have := World.cell?_spot hu
  simpa [Addr.add] using this
 subst hspot
 have hblk : ∃ c T fr, W.heap[b]? = some (.cells c T fr) := by
  obtain ⟨u, hu⟩ := hcell 0 0 h0 (by omega)
  simp only [Nat.zero_mul, Nat.add_zero, Addr.add, if_true, World.cell?] at hu
  split at hu
  rename_i c T fr hh; exact ⟨c, T, fr, hh⟩
  cases hu
 obtain ⟨c, T, fr, hb⟩ := hblk
 have hat : ∀ k, W.cell? ((⟨b, o, Option.none⟩ : Addr).add k) = c[o + k]? := by
  intro k
  rw [ZU]
  unfold World.cell?
  simp only [hb]
  rfl
 refine ⟨(List.range len).map Y, by simp only [List.length_map, List.length_range, maxLen] at hm ⊢; omega, fun ω hω => ?_⟩
 have hlen : (RV.sels ((List.range len).map Y)).len = len := by simp [RV.len]
 have q := Rel.sl (ω := ω) (.sels ((List.range len).map Y)) b o cap c T (by rw [hω]; exact JF hb) (by
  rw [hlen]
  show o + len * 8 <= c.size
  obtain ⟨u, hu⟩ := hcell (len - 1) 7 (by omega) (by omega)
  rw [hat] at hu
  have := (Array.getElem?_eq_some_iff.1 hu).1
  omega) (by rw [hlen]; exact hl) (by
  intro i j s u e0 e1 e2
  rw [hlen] at e0
  refine hY i e0 ω j s u ?_ (by rw [hat]; exact e2)
  rw [<- e1]
  show (Vl (Y i))[j]? = (Vl (((List.range len).map Y).getD i default))[j]?
  rw [List.getD_eq_getElem?_getD, List.getElem?_map, List.getElem?_range e0]
  rfl)
 rw [hlen] at q
 exact q
theorem Qlr {W : World} {sp : Nat -> Bool} {held : Bool} {n : Nat} {v : Value} {x : DataW H × List MemPlace} (h : DataW.trod enc Tryz.prog W 0 sp held n 5 [v] = some x) : ∃ c : UInt8, v = .int .u8 c.toNat := by
 obtain ⟨k, e, _, hw⟩ := DataW.trod_int (k := .u8) (by kernel_rfl) h
 cases e
 have hk : 0 <= k /\ k < 256 := by
  simp [Lit.wf, IntKind.min, IntKind.max, IntKind.signed, IntKind.bits] at hw
  omega
 refine ⟨UInt8.ofNat k.toNat, ?_⟩
 have : (UInt8.ofNat k.toNat).toNat = k.toNat := by simp; omega
 rw [this, Int.toNat_of_nonneg hk.1]
theorem Qlq {W : World} {sp : Nat -> Bool} {held : Bool} {v : Value} {d : DataW H} {p : List MemPlace} {base : Nat} (hval : Value.okWide Tryz.prog W .any base 37 v) (h : DataW.Trod enc Tryz.prog W 0 sp held 37 v d p) :
 ∃ l : List UInt8, l.length <= 9223372036854775807 /\ ∀ ω : Wit, ω.Γ = Zo W -> Rel ω (.sl (.bytes l)) v := by
 obtain ⟨n, h⟩ := h
 have hc1 : Tryz.prog.cellsOf 5 = 1 := by kernel_rfl
 have hv : ∀ (a : Option Addr) (len cap : Nat), v.cells.toList = [.slice a len cap] -> v = .slice a len cap := by
  intro a len cap e
  obtain ⟨a', l', c', rfl⟩ := okWide_slice Tryz.underlying37 hval
  simpa [Value.cells] using e
 rcases open_slice (e := 5) Tryz.underlying37 h with ⟨e, _⟩ | ⟨a, len, cap, m, n', D, Pl, e, _, hl, hm, hmm, _, hi⟩
 obtain rfl := hv _ _ _ e
 exact ⟨[], by simp, fun ω _ => .slz _ _ _ rfl⟩
 obtain rfl := hv _ _ _ e
 rcases Nat.eq_zero_or_pos len with h0 | h0
 subst h0
 exact ⟨[], by simp, fun ω _ => .slz _ _ _ rfl⟩
 rw [hc1] at hi
 have hlm : len <= m := by rw [hmm]; split <;> omega
 have hY : ∀ i, i < len -> ∃ y : UInt8, W.cell? (a.add i) = some (.int .u8 y.toNat) := by
  intro i hil
  obtain ⟨cs', h1, h2⟩ := hi i (by omega)
  obtain ⟨_, hcl, hat⟩ := World.cells?_some h1
  match cs', hcl, hat, h2 with
  | [u], _, hat, h2 =>
   obtain ⟨y, rfl⟩ := Qlr h2
   have := hat 0 (by omega)
   rw [add_add] at this
   exact ⟨y, by simpa using this⟩
 obtain ⟨Y, hY⟩ := choose_lt (α := UInt8) hY
 obtain ⟨b, o, spot⟩ := a
 have hspot : spot = Option.none := by
  have := World.cell?_spot (hY 0 h0)
  simpa [Addr.add] using this
 subst hspot
 have hblk : ∃ c T fr, W.heap[b]? = some (.cells c T fr) := by
  have hu := hY 0 h0
  simp only [Addr.add, if_true, World.cell?] at hu
  split at hu
  rename_i c T fr hh; exact ⟨c, T, fr, hh⟩
  cases hu
 obtain ⟨c, T, fr, hb⟩ := hblk
 have hat : ∀ k, W.cell? ((⟨b, o, Option.none⟩ : Addr).add k) = c[o + k]? := by
  intro k
  rw [ZU]
  unfold World.cell?
  simp only [hb]
  rfl
 refine ⟨(List.range len).map Y, by simp only [List.length_map, List.length_range, maxLen] at hm ⊢; omega, fun ω hω => ?_⟩
 have hlen : (RV.bytes ((List.range len).map Y)).len = len := by simp [RV.len]
 have q := Rel.sl (ω := ω) (.bytes ((List.range len).map Y)) b o cap c T (by rw [hω]; exact JF hb) (by
  rw [hlen]
  show o + len * 1 <= c.size
  have hu := hY (len - 1) (by omega)
  rw [hat] at hu
  have := (Array.getElem?_eq_some_iff.1 hu).1
  omega) (by rw [hlen]; exact hl) (by
  intro i j s u e0 e1 e2
  rw [hlen] at e0
  have hj : j = 0 := by
   have : j < [SV.byt (((List.range len).map Y).getD i 0)].length := (List.getElem?_eq_some_iff.1 e1).1
   simpa using this
  subst hj
  cases e1
  have hu := hY i e0
  rw [hat] at hu
  have e2' : c[o + i]? = some u := by simpa [RV.z] using e2
  rw [hu] at e2'
  cases e2'
  have hy : ((List.range len).map Y).getD i 0 = Y i := by
   rw [List.getD_eq_getElem?_getD, List.getElem?_map, List.getElem?_range e0]
   rfl
  rw [hy]
  exact .byt _)
 rw [hlen] at q
 exact q
theorem QhJ {W W' : World} {v : Value} {d : DataW H} {p : List MemPlace} (h : DataW.Trod enc Tryz.prog W 0 (fun _ => true) true 37 v d p) (hf : Frame W (fun _ => False) W') :
 DataW.Trod enc Tryz.prog W' 0 (fun b => decide (b < W.heap.size)) true 37 v d p := by
 have hlt : ∀ q ∈ p, q.block < W.heap.size := by
  obtain ⟨n, hn⟩ := h
  exact DataW.trod_lt n _ _ _ hn
 exact WideElems.Trod_stays Qhf (by kernel_rfl) (of_decide_eq_true (by kernel_rfl)) h (fun q hq => hf.sameAt (hlt q hq)) (fun q hq => by simpa using hlt q hq)
theorem Qh5 {W W' : World} {v : Value} {d : DataW H} {p : List MemPlace} (h : DataW.Trod enc Tryz.prog W 0 (fun _ => true) true 22 v d p) (hf : Frame W (fun _ => False) W') :
 DataW.Trod enc Tryz.prog W' 0 (fun b => decide (b < W.heap.size)) true 22 v d p := by
 have hlt : ∀ q ∈ p, q.block < W.heap.size := by
  obtain ⟨n, hn⟩ := h
  exact DataW.trod_lt n _ _ _ hn
 exact WideElems.Trod_stays Qhf (by kernel_rfl) (of_decide_eq_true (by kernel_rfl)) h (fun q hq => hf.sameAt (hlt q hq)) (fun q hq => by simpa using hlt q hq)
end
theorem QnF (os : Os) (args : Array Value) : laidMetH Tryz.prog Rows.fnParseWrittenRow.laid ((World.doorLaid Tryz.prog 124 os).forCall (fun _ _ => 0) ⟨#[], args, []⟩).memory := by
 rw [MakeChecks.laidMetH_plain _ _ _ (by kernel_rfl)]
 exact laidMet_of_run' 8 (by kernel_rfl) (by kernel_rfl)
end
end Go.Proofs.YtengepcafdnalaaGreatDoor
