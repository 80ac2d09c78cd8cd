/-
  THE SHELL OF A PROOF OF 'Rows.LawS4202BTakeSaid' ('example.com/labeld/labeld/internal/storage.LawS4202BTake'), WRITTEN BY PROGRAM (proof-skeleton.mjs, third state) off the guide's own print for that function. Not trusted: Lean checks it.
  The slice of structs is opened by hand ('IsItems').
-/
import Derived.Test.YbulkchzqRows
import Derived.Test.YbulkchzqLawB
import Derived.Deep.Slices
import Derived.WalkKit
import Derived.ProofKit
import Derived.OpenShut
import Derived.ShutString
import Derived.ChangeOld
import Derived.Below
namespace Go.Proofs.Ybulkchzq.lawS4202BTake
open Go.ChangeShapes Go.WideShapes Go.ChangeAt Go.RowKit
open Go.ChangeMaps (open_string shut_string)
set_option linter.unusedVariables false

theorem own : ownKnob Yba.prog.godebug = none := by kernel_rfl
theorem laidOut : laidOutB Yba.prog = true := by kernel_rfl

/-- WHAT THE WALK IS TOLD OF A SLICE OF INTEGERS THAT CAME IN: it is nil; or it leads to a row of 'cap' cells, the numbers 'zs' (the first 'len' are its elements, the rest its spare room), each fitting its kind. -/
def IsRow (k : IntKind) (w : World) (a : Option Addr) (len cap : Nat) (zs : List Int) : Prop :=
  (a = none ∧ len = 0 ∧ cap = 0 ∧ zs = []) ∨
  ∃ x, a = some x ∧ len ≤ cap ∧ cap ≤ maxLen ∧ zs.length = cap ∧ (∀ i, i < zs.length → w.cell? (x.add i) = some (.int k (zs.getD i 0))) ∧ ∀ n ∈ zs, (Lit.int k n).wf = true

/-- What the walk is told of the slice of items: their cells, three each. -/
def IsItems (w : World) (a : Option Addr) (len : Nat) (O Z D : Nat → Int) : Prop :=
  ∃ b off, ∀ i, i < len → a = some ⟨b, off, none⟩ ∧ w.cell? ⟨b, off + i * 3, none⟩ = some (.int .i32 (O i)) ∧ w.cell? ⟨b, off + i * 3 + 1, none⟩ = some (.int .i64 (Z i)) ∧ w.cell? ⟨b, off + i * 3 + 2, none⟩ = some (.int .u64 (D i)) ∧ b < w.heap.size ∧ -2147483648 ≤ O i ∧ O i ≤ 2147483647

theorem cells34 : Yba.prog.cellsOf 34 = 3 := by kernel_rfl
theorem cells21 : Yba.prog.cellsOf 21 = 1 := by kernel_rfl
theorem cells2 : Yba.prog.cellsOf 2 = 1 := by kernel_rfl
theorem cells23 : Yba.prog.cellsOf 23 = 1 := by kernel_rfl

theorem list3 {α : Type} (l : List α) (h : l.length = 3) : ∃ a b c, l = [a, b, c] := by
  match l, h with
  | [a, b, c], _ => exact ⟨a, b, c, rfl⟩

theorem item_cells {H : Type} {enc : TypeId × Value → H} {W : World} {n : Nat} {cs : List Value} {x : DataW H × List MemPlace} (h : DataW.trod enc Yba.prog W 0 (fun _ => true) true n 34 cs = some x) :
    ∃ o z d : Int, cs = [.int .i32 o, .int .i64 z, .int .u64 d] ∧ -2147483648 ≤ o ∧ o ≤ 2147483647 := by
  obtain ⟨xs, n', _, _, hlen, hxs, hf⟩ := DataW.trod_struct Yba.underlying34 h
  rw [cells34] at hlen
  obtain ⟨c0, c1, c2, rfl⟩ := list3 cs hlen
  obtain ⟨x0, x1, x2, rfl⟩ := list3 xs hxs
  have g0 : DataW.trod enc Yba.prog W 0 (fun _ => true) true n' 21 (([c0, c1, c2].drop 0).take (Yba.prog.cellsOf 21)) = some x0 := hf 0 _ rfl
  have g1 : DataW.trod enc Yba.prog W 0 (fun _ => true) true n' 2 (([c0, c1, c2].drop 1).take (Yba.prog.cellsOf 2)) = some x1 := hf 1 _ rfl
  have g2 : DataW.trod enc Yba.prog W 0 (fun _ => true) true n' 23 (([c0, c1, c2].drop 2).take (Yba.prog.cellsOf 23)) = some x2 := hf 2 _ rfl
  rw [cells21] at g0
  rw [cells2] at g1
  rw [cells23] at g2
  obtain ⟨o, e0, _, wo⟩ := DataW.trod_int Yba.underlying21 g0
  obtain ⟨z, e1, _, _⟩ := DataW.trod_int Yba.underlying2 g1
  obtain ⟨d, e2, _, _⟩ := DataW.trod_int Yba.underlying23 g2
  simp at e0 e1 e2
  subst e0 e1 e2
  exact ⟨o, z, d, rfl, bounds_i32 wo⟩

theorem items_open {H : Type} {enc : TypeId × Value → H} {W : World} {fuel : Nat} {a : Option Addr} {len cap : Nat} {x : DataW H × List MemPlace} (h : DataW.trod enc Yba.prog W 0 (fun _ => true) true fuel 24 [.slice a len cap] = some x) :
    ∃ O Z D, IsItems W a len O Z D := by
  rcases Deep.open_slice Yba.underlying24 h with ⟨hcs, _⟩ | ⟨ad, l, c, m, n, Df, Pl, hcs, _, hl, _, hm, _, hx⟩
  · simp at hcs
    obtain ⟨rfl, rfl, rfl⟩ := hcs
    exact ⟨fun _ => 0, fun _ => 0, fun _ => 0, 0, 0, fun i hi => by omega⟩
  simp at hcs
  obtain ⟨rfl, rfl, rfl⟩ := hcs
  simp only [if_true] at hm
  rw [cells34] at hx
  have key : ∀ i, i < len → ∃ ozd : Int × Int × Int, (∀ j, j < 3 → W.cell? ((ad.add (i * 3)).add j) = [Value.int .i32 ozd.1, .int .i64 ozd.2.1, .int .u64 ozd.2.2][j]?) ∧ -2147483648 ≤ ozd.1 ∧ ozd.1 ≤ 2147483647 := by
    intro i hi
    obtain ⟨cs', h1, h2⟩ := hx i (by omega)
    obtain ⟨o, z, d, rfl, b1, b2⟩ := item_cells h2
    exact ⟨(o, z, d), (World.cells?_some h1).2.2, b1, b2⟩
  obtain ⟨f, hf⟩ := Deep.choose_lt key
  by_cases h0 : len = 0
  · exact ⟨fun _ => 0, fun _ => 0, fun _ => 0, 0, 0, fun i hi => by omega⟩
  obtain ⟨b, off, spot⟩ := ad
  have c0 := (hf 0 (by omega)).1 0 (by omega)
  have hspot : spot = none := by simpa [Addr.add] using World.cell?_spot c0
  subst hspot
  have hb : b < W.heap.size := by
    have := World.block_lt_of_cell? W _ c0
    simpa [Addr.add] using this
  have hadd : ∀ n, (⟨b, off, none⟩ : Addr).add n = ⟨b, off + n, none⟩ := fun n => by unfold Addr.add; split <;> simp_all
  have hadd2 : ∀ o n, (⟨b, o, none⟩ : Addr).add n = ⟨b, o + n, none⟩ := fun o n => by unfold Addr.add; split <;> simp_all
  refine ⟨fun i => (f i).1, fun i => (f i).2.1, fun i => (f i).2.2, b, off, fun i hi => ?_⟩
  obtain ⟨hc, b1, b2⟩ := hf i hi
  have k0 := hc 0 (by omega)
  have k1 := hc 1 (by omega)
  have k2 := hc 2 (by omega)
  rw [hadd, hadd2] at k0 k1 k2
  exact ⟨rfl, k0, k1, k2, hb, b1, b2⟩

theorem start_open {w : World} {a : Option Addr} {len cap : Nat} {zs : List Int} (h : IsRow .i32 w a len cap zs) : ∃ b off, ∀ i, i < len → a = some ⟨b, off, none⟩ ∧ w.cell? ⟨b, off + i, none⟩ = some (.int .i32 (zs.getD i 0)) ∧ b < w.heap.size ∧ -2147483648 ≤ zs.getD i 0 ∧ zs.getD i 0 ≤ 2147483647 := by
  rcases h with ⟨_, rfl, _, _⟩ | ⟨x, rfl, hl, _, hz, hc, hw⟩
  · exact ⟨0, 0, fun i hi => by omega⟩
  · by_cases h0 : len = 0
    · exact ⟨0, 0, fun i hi => by omega⟩
    obtain ⟨b, off, rfl, hc'⟩ := ints_at hc (by omega)
    refine ⟨b, off, fun i hi => ⟨rfl, hc' i (by omega), World.block_lt_of_cell? w _ (hc' 0 (by omega)), bounds_i32 (hw _ ?_)⟩⟩
    rw [List.getD_eq_getElem?_getD, List.getElem?_eq_getElem (by omega)]
    exact List.getElem_mem _

set_option maxRecDepth 100000 in
set_option maxHeartbeats 400000 in
theorem long1 (w : World) (aS : Option Addr) (n cS : Nat) (e0 l0 : Int) (aI : Option Addr) (m cI : Nat) (f : Int) (h : 1024 < (n : Int)) :
    Calls Yba.prog 3 #[.slice aS n cS, .int .i64 e0, .int .u64 l0, .slice aI m cI, .int .u8 f] w fun e w' => e = .returned (.bool true) ∧ Below w.heap.size w w' := by
  go_enter Yba.func3, Yba.ntmps3
  go_wp2
  go_ret
  exact ⟨rfl, Below.refl _ _⟩

set_option maxRecDepth 100000 in
set_option maxHeartbeats 400000 in
theorem long2 (w : World) (aS : Option Addr) (n cS : Nat) (e0 l0 : Int) (aI : Option Addr) (m cI : Nat) (f : Int) (hn : ¬ 1024 < (n : Int)) (h : 1024 < (m : Int)) :
    Calls Yba.prog 3 #[.slice aS n cS, .int .i64 e0, .int .u64 l0, .slice aI m cI, .int .u8 f] w fun e w' => e = .returned (.bool true) ∧ Below w.heap.size w w' := by
  go_enter Yba.func3, Yba.ntmps3
  go_wp2
  go_ret
  exact ⟨rfl, Below.refl _ _⟩

/-! ### THE WALK -/
theorem walk (a0 : Option Addr) (len0 cap0 : Nat) (z0 : List Int) (a1 : Int) (a2 : Int) (a3 : Option Addr) (len3 cap3 : Nat) (O Z D : Nat → Int) (a4 : Int) (w : World) (w0 : IsRow .i32 w a0 len0 cap0 z0) (w3 : IsItems w a3 len3 O Z D) (w4 : (Lit.int .u8 a4).wf = true) :
    Calls Yba.prog 3 #[.slice a0 len0 cap0, .int .i64 a1, .int .u64 a2, .slice a3 len3 cap3, .int .u8 a4] w fun e w' => e = .returned (.bool true) ∧ Below w.heap.size w w' := by
  by_cases h1 : 1024 < (len0 : Int)
  · exact long1 w a0 len0 cap0 a1 a2 a3 len3 cap3 a4 h1
  by_cases h2 : 1024 < (len3 : Int)
  · exact long2 w a0 len0 cap0 a1 a2 a3 len3 cap3 a4 h1 h2
  obtain ⟨bS, oS, hs⟩ := start_open w0
  obtain ⟨bI, oI, hit⟩ := w3
  obtain ⟨f0, f1⟩ := bounds_u8 w4
  exact Take.law_any w a0 len0 cap0 bS oS (fun i => z0.getD i 0) a1 a2 a3 len3 cap3 bI oI a4 (by omega) (by omega) f0 f1 hs O Z D hit

/-! ### THE ROW's STEP: WRITTEN OUT: LEAVE IT -/
set_option maxRecDepth 100000 in
theorem lifted (os : Os) (started : os.Started) (H : Type) (enc : TypeId × Value → H) :
    ReturnsInHanded {} Yba.checked os 3 .any (Rows.lawS4202BTakeSpec.pre6 enc Yba.prog Yba.f3 Rows.lawS4202BTakeRow.domain false) (Rows.lawS4202BTakeSpec.post enc Yba.prog Yba.f3 false true false false) := by
  refine returnsInHanded_of_change (C := Yba.checked) own started (by kernel_rfl) Yba.func3
    (ChangeSpec.witness6 (enc := enc) (C := Yba.checked) false ⟨#[], #[.slice none 0 0, .int .i64 0, .int .u64 0, .slice none 0 0, .int .u8 0], []⟩ 8 (by kernel_rfl) (by kernel_rfl) (by kernel_rfl) (by kernel_rfl)) ?_
  intro W base args ds gs before hval0 hW hcnd _
  have hval : ∀ (j : Nat) t v, Yba.f3.params[j]? = some t → args[j]? = some v → Value.okWide Yba.prog W .any base t v := hval0
  have hW' := hW
  obtain ⟨p, q, hA0, hV, rfl, hfz, hnd⟩ := hW
  have hA : DataW.TrodAll enc Yba.prog W 0 (fun _ => true) true Yba.f3.params.toList args.toList ds p := hA0
  rw [Yba.params3] at hA hval
  obtain ⟨v0, vs0, d0, ds0, p0, q0, hargs, rfl, rfl, h0, r0⟩ := trodAll_cons hA
  obtain ⟨v1, vs1, d1, ds1, p1, q1, rfl, rfl, rfl, h1, r1⟩ := trodAll_cons r0
  obtain ⟨v2, vs2, d2, ds2, p2, q2, rfl, rfl, rfl, h2, r2⟩ := trodAll_cons r1
  obtain ⟨v3, vs3, d3, ds3, p3, q3, rfl, rfl, rfl, h3, r3⟩ := trodAll_cons r2
  obtain ⟨v4, vs4, d4, ds4, p4, q4, rfl, rfl, rfl, h4, r4⟩ := trodAll_cons r3
  obtain ⟨rfl, rfl, rfl⟩ := trodAll_nil r4
  obtain rfl : args = #[v0, v1, v2, v3, v4] := by cases args; simp_all
  obtain ⟨rfl, rfl⟩ := trodVars_none hV
  obtain ⟨a0, len0, cap0, rfl⟩ := okWide_slice Yba.underlying22 (hval 0 22 v0 rfl rfl)
  have k0 := h0
  have lt0 : ∀ x ∈ p0, x.block < W.heap.size := by obtain ⟨m, hm⟩ := k0; exact DataW.trod_lt m _ _ _ hm
  obtain ⟨z0, w0⟩ : ∃ zs, IsRow .i32 W a0 len0 cap0 zs := by
    obtain ⟨fuel, hf⟩ := h0
    rcases open_ints Yba.underlying22 Yba.underlying21 (by kernel_rfl) hf with ⟨hcs, _⟩ | ⟨x, l, c, zs, hcs, _, hl, hm, hz, _, hcell, hwz⟩
    · simp [Value.cells] at hcs
      obtain ⟨rfl, rfl, rfl⟩ := hcs
      exact ⟨[], .inl ⟨rfl, rfl, rfl, rfl⟩⟩
    · simp [Value.cells] at hcs
      obtain ⟨rfl, rfl, rfl⟩ := hcs
      exact ⟨zs, .inr ⟨_, rfl, hl, hm, by simpa using hz, hcell, hwz⟩⟩
  obtain ⟨a1, rfl, rfl, rfl, w1⟩ := open_int Yba.underlying2 (hval 1 2 v1 rfl rfl) h1
  obtain ⟨a2, rfl, rfl, rfl, w2⟩ := open_int Yba.underlying23 (hval 2 23 v2 rfl rfl) h2
  obtain ⟨a3, len3, cap3, rfl⟩ := okWide_slice Yba.underlying24 (hval 3 24 v3 rfl rfl)
  have k3 := h3
  have lt3 : ∀ x ∈ p3, x.block < W.heap.size := by obtain ⟨m, hm⟩ := k3; exact DataW.trod_lt m _ _ _ hm
  obtain ⟨O, Z, D, w3⟩ : ∃ O Z D, IsItems W a3 len3 O Z D := by
    obtain ⟨fuel, hf⟩ := h3
    exact items_open hf
  obtain ⟨a4, rfl, rfl, rfl, w4⟩ := open_int Yba.underlying5 (hval 4 5 v4 rfl rfl) h4
  clear hA0 hval0
  refine (walk a0 len0 cap0 z0 a1 a2 a3 len3 cap3 O Z D a4 W w0 w3 w4).mono fun e W' ⟨he, bel⟩ => ?_
  subst he
  exact ⟨_, rfl, _, _, _, [], _, [], hW', trodAll_mk1 (shut_bool Yba.underlying4 _), (trodAll_cons_mk (Below.trod laidOut (by kernel_rfl) (of_decide_eq_true (by kernel_rfl)) k0 bel lt0) (trodAll_cons_mk (shut_int Yba.underlying2 w1) (trodAll_cons_mk (shut_int Yba.underlying23 w2) (trodAll_cons_mk (Below.trod laidOut (by kernel_rfl) (of_decide_eq_true (by kernel_rfl)) k3 bel lt3) (trodAll_cons_mk (shut_int Yba.underlying5 w4) trodAll_mk0))))), rfl, bel.frame _, fun h => by cases h⟩

theorem over : Rows.lawS4202BTakeRow.holds Yba.pinned (OpenSpec.ofChange Rows.lawS4202BTakeSpec) :=
  OpenClaim.holds_of_wide 3 Yba.f3 rfl rfl rfl rfl rfl rfl rfl ⟨rfl, rfl, rfl, rfl, rfl⟩ rfl rfl rfl rfl rfl (by kernel_rfl) Yba.func3 (by kernel_rfl)
    (of_decide_eq_true (by kernel_rfl)) (by unfold Func.isWrapper; first | (rw [if_pos (by decide +kernel)]; kernel_rfl) | (rw [if_neg (by decide +kernel)]; exact ⟨rfl, rfl⟩))
    (fun os started H enc _ => lifted os started H enc)

/-- ████ THE STATEMENT ████ -/
theorem proved : Rows.LawS4202BTakeSaid := over
end Go.Proofs.Ybulkchzq.lawS4202BTake
