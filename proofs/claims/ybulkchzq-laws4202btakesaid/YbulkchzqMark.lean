import Derived.Test.YbulkchzqEach
import Derived.Deep.QuietTactic
import Derived.BigQuiet
import Derived.Deep.RegionLaw
import Derived.Deep.AppendLies
namespace Go.Proofs.Ybulkchzq.Take
open Go Go.RowKit Go.Proofs.Ybulkchzq.Mem

def mc (M : List (Int × Int)) : List Value := M.flatMap fun p => [.int .i64 p.1, .int .u64 p.2]

/-- The segment's cells. -/
def seg (e l : Int) (v : Value) : Array Value := #[.string ⟨#[112]⟩, .int .i64 1, .int .u64 2, .int .i64 e, .int .u64 l, v]

set_option maxRecDepth 100000 in
set_option maxHeartbeats 800000 in
theorem mark_no (w : World) (Bs : Nat) (g n cm : Nat) (e l o d lo : Int)
    (hS : Blk w Bs (seg e l (.slice (some ⟨g, 0, none⟩) (n + 1) cm)) 31) (hlo : w.cell? ⟨g, n * 2, none⟩ = some (.int .i64 lo)) (hgl : g < w.heap.size) (hn : n ≤ 4096) (hlt : wrap64 (o - lo) < 262144) :
    Calls Yba.prog 17 #[.pointer (some ⟨Bs, 0, none⟩), .agg #[.int .i64 o, .int .u64 d]] w fun e w' => e = .returned (.tuple #[]) ∧ ∃ m, w' = (w.alloc (.cells #[.int .i64 o, .int .u64 d] 28)).drewN m := by
  have c5 : w.cell? ⟨Bs, 5, none⟩ = some (.slice (some ⟨g, 0, none⟩) (n + 1) cm) := hS.cell 5
  have lS := hS.lt
  have n1 : (n : Int) < (n : Int) + 1 := by omega
  have n2 : (((n : Int) + 1) == 0) = false := by simp; omega
  have n3 : IntKind.i64.wrap (n : Int) = n := by rw [IntKind.wrap_i64]; omega
  have n4 : ¬ ((n : Int) < 0) := by omega
  go_enter Yba.func17, Yba.ntmps17
  go_wp2
  go_quiet (fail)
  go_wp2
  go_end0
  exact ⟨rfl, nq, rfl⟩

set_option maxRecDepth 100000 in
set_option maxHeartbeats 800000 in
theorem mark_yes0 (w : World) (B Bs : Nat) (am : Option Addr) (cm : Nat) (gx : Option Nat) (e l o d : Int)
    (hS : Blk w Bs (seg e l (.slice am 0 cm)) 31) (hB : B ≤ w.heap.size) (hBs : B ≤ Bs) (own : w.ownsRow B 28 2 (.slice am 0 cm) 0 [])
    (hx1 : some Bs ≠ gx) (hx2 : ∀ k, Value.ownBlock (.slice am 0 cm) = some k → some k ≠ gx) (hx3 : ∀ k, gx = some k → k < w.heap.size) :
    Calls Yba.prog 17 #[.pointer (some ⟨Bs, 0, none⟩), .agg #[.int .i64 o, .int .u64 d]] w fun en w' => en = .returned (.tuple #[]) ∧
      ∃ (g' cm' : Nat), Blk w' Bs (seg e l (.slice (some ⟨g', 0, none⟩) 1 cm')) 31 ∧ w'.ownsRow B 28 2 (.slice (some ⟨g', 0, none⟩) 1 cm') 1 ([] ++ [.int .i64 o, .int .u64 d]) ∧ Turn B gx [31, 28] w w' ∧ some g' ≠ gx := by
  obtain ⟨i0, hi, hz0, hz1, hz2⟩ := info_parts info28
  have c5 : w.cell? ⟨Bs, 5, none⟩ = some (.slice am 0 cm) := hS.cell 5
  have fr5 : w.frozen? ⟨Bs, 5, none⟩ = false := hS.free 5
  have lS := hS.lt
  have own2 : ((w.alloc (.cells #[.int .i64 o, .int .u64 d] 28)).alloc (.cells #[.int .i64 o, .int .u64 d] 28)).ownsRow B 28 2 (.slice am 0 cm) 0 [] := (own.alloc _).alloc _
  have hnews : ∀ j u, [Value.int .i64 o, .int .u64 d][j]? = some u → ((w.alloc (.cells #[.int .i64 o, .int .u64 d] 28)).alloc (.cells #[.int .i64 o, .int .u64 d] 28)).cell? ((⟨w.heap.size + 1, 0, none⟩ : Addr).add j) = some u := cell_two_at _ _ _ _ (by simp)
  have S2 : Blk ((w.alloc (.cells #[.int .i64 o, .int .u64 d] 28)).alloc (.cells #[.int .i64 o, .int .u64 d] 28)) Bs (seg e l (.slice am 0 cm)) 31 := (hS.alloc _).alloc _
  have fin : ∀ (gn cap : Nat) (w1 : World), w1.ownsRow B 28 2 (.slice (some ⟨gn, 0, none⟩) 1 cap) 1 ([] ++ [.int .i64 o, .int .u64 d]) → World.grownBy ((w.alloc (.cells #[.int .i64 o, .int .u64 d] 28)).alloc (.cells #[.int .i64 o, .int .u64 d] 28)) w1 (Value.slice am 0 cm).ownBlock →
      ((Value.slice am 0 cm).ownBlock = some gn ∨ gn = w.heap.size + 2) → ∃ (g' cm' : Nat), Blk (w1.setCell ⟨Bs, 5, none⟩ (.slice (some ⟨gn, 0, none⟩) 1 cap)) Bs (seg e l (.slice (some ⟨g', 0, none⟩) 1 cm')) 31 ∧ (w1.setCell ⟨Bs, 5, none⟩ (.slice (some ⟨gn, 0, none⟩) 1 cap)).ownsRow B 28 2 (.slice (some ⟨g', 0, none⟩) 1 cm') 1 ([] ++ [.int .i64 o, .int .u64 d]) ∧ Turn B gx [31, 28] w (w1.setCell ⟨Bs, 5, none⟩ (.slice (some ⟨gn, 0, none⟩) 1 cap)) ∧ some g' ≠ gx := by
    intro gn cap w1 h1 h2 h3
    have S3 := S2.grown h2 (own_ne own2 S2 (by decide))
    refine ⟨gn, cap, S3.setCell 5 _, own_setCell_ne h1 (p := ⟨Bs, 5, none⟩) S3 (by decide) _, ?_, ?_⟩
    · exact ((((Turn.refl B gx [31, 28] w).alloc _).alloc _).grown own2 (Nat.le_refl _) hx2 (by decide) h2).setCell (p := ⟨Bs, 5, none⟩) S3 hBs hx1 (by decide) _
    · rcases h3 with h3 | h3
      · exact hx2 gn h3
      · intro e1; have := hx3 gn e1.symm; omega
  have HF := hide fin
  clear fin
  go_enter Yba.func17, Yba.ntmps17
  go_wp2
  go_quiet (fail)
  go_wp2
  go_region_law ((refine step_append_lies _ (by rfl) (.tmp 33) (.tmp 35) 25 (by rfl) B 28 i0 (.agg #[.int .i64 0, .int .u64 0]) 2 16 Yba.underlying25 hi hz0 hz1 hz2 (by rfl) (by decide) (.slice am 0 cm) 0 ([]) (by rfl) (by exact own2) ⟨w.heap.size + 1, 0, none⟩ 1 1 [.int .i64 o, .int .u64 d] (by rfl) (by rfl) (by exact hnews) (by simp [Value.oneCell']) (by decide) (by unfold maxLen; omega) (by omega) (by simp; omega) (w.heap.size + 2) (by simp) ?_; intro gn cap w1 hown1 hgrow0 hat hlt; have hgrow : World.grownBy ((w.alloc (.cells #[.int .i64 o, .int .u64 d] 28)).alloc (.cells #[.int .i64 o, .int .u64 d] 28)) w1 (Value.slice am 0 cm).ownBlock := ⟨hgrow0.os, hgrow0.tape, hgrow0.output, hgrow0.size, hgrow0.block⟩; clear hgrow0; have c5' : w1.cell? ⟨Bs, 5, none⟩ = some (.slice am 0 cm) := (S2.grown hgrow (own_ne own2 S2 (by decide))).cell 5; have f5' : w1.frozen? ⟨Bs, 5, none⟩ = false := (S2.grown hgrow (own_ne own2 S2 (by decide))).free 5; have HH := hide ((unhide HF) _ _ _ hown1 hgrow hat); clear hown1 hgrow hat))
  all_goals
    go_wp2
    go_end0
    exact ⟨rfl, unhide HH⟩

set_option maxRecDepth 100000 in
set_option maxHeartbeats 800000 in
theorem mark_yes1 (w : World) (B Bs : Nat) (g n : Nat) (cm : Nat) (gx : Option Nat) (e l o d : Int)(lo : Int) (hn : n ≤ 4096) (hlo : w.cell? ⟨g, n * 2, none⟩ = some (.int .i64 lo)) (hgl : g < w.heap.size) (hge : 262144 ≤ wrap64 (o - lo)) (xs : List Value)
    (hS : Blk w Bs (seg e l (.slice (some ⟨g, 0, none⟩) (n + 1) cm)) 31) (hB : B ≤ w.heap.size) (hBs : B ≤ Bs) (own : w.ownsRow B 28 2 (.slice (some ⟨g, 0, none⟩) (n + 1) cm) (n + 1) xs)
    (hx1 : some Bs ≠ gx) (hx2 : ∀ k, Value.ownBlock (.slice (some ⟨g, 0, none⟩) (n + 1) cm) = some k → some k ≠ gx) (hx3 : ∀ k, gx = some k → k < w.heap.size) :
    Calls Yba.prog 17 #[.pointer (some ⟨Bs, 0, none⟩), .agg #[.int .i64 o, .int .u64 d]] w fun en w' => en = .returned (.tuple #[]) ∧
      ∃ (g' cm' : Nat), Blk w' Bs (seg e l (.slice (some ⟨g', 0, none⟩) (n + 1 + 1) cm')) 31 ∧ w'.ownsRow B 28 2 (.slice (some ⟨g', 0, none⟩) (n + 1 + 1) cm') (n + 1 + 1) (xs ++ [.int .i64 o, .int .u64 d]) ∧ Turn B gx [31, 28] w w' ∧ some g' ≠ gx := by
  obtain ⟨i0, hi, hz0, hz1, hz2⟩ := info_parts info28
  have c5 : w.cell? ⟨Bs, 5, none⟩ = some (.slice (some ⟨g, 0, none⟩) (n + 1) cm) := hS.cell 5
  have fr5 : w.frozen? ⟨Bs, 5, none⟩ = false := hS.free 5
  have lS := hS.lt
  have n1 : (n : Int) < (n : Int) + 1 := by omega
  have n2 : (((n : Int) + 1) == 0) = false := by simp; omega
  have n3 : IntKind.i64.wrap (n : Int) = n := by rw [IntKind.wrap_i64]; omega
  have n4 : ¬ ((n : Int) < 0) := by omega
  have own2 : ((w.alloc (.cells #[.int .i64 o, .int .u64 d] 28)).alloc (.cells #[.int .i64 o, .int .u64 d] 28)).ownsRow B 28 2 (.slice (some ⟨g, 0, none⟩) (n + 1) cm) (n + 1) xs := (own.alloc _).alloc _
  have hnews : ∀ j u, [Value.int .i64 o, .int .u64 d][j]? = some u → ((w.alloc (.cells #[.int .i64 o, .int .u64 d] 28)).alloc (.cells #[.int .i64 o, .int .u64 d] 28)).cell? ((⟨w.heap.size + 1, 0, none⟩ : Addr).add j) = some u := cell_two_at _ _ _ _ (by simp)
  have S2 : Blk ((w.alloc (.cells #[.int .i64 o, .int .u64 d] 28)).alloc (.cells #[.int .i64 o, .int .u64 d] 28)) Bs (seg e l (.slice (some ⟨g, 0, none⟩) (n + 1) cm)) 31 := (hS.alloc _).alloc _
  have fin : ∀ (gn cap : Nat) (w1 : World), w1.ownsRow B 28 2 (.slice (some ⟨gn, 0, none⟩) (n + 1 + 1) cap) (n + 1 + 1) (xs ++ [.int .i64 o, .int .u64 d]) → World.grownBy ((w.alloc (.cells #[.int .i64 o, .int .u64 d] 28)).alloc (.cells #[.int .i64 o, .int .u64 d] 28)) w1 (Value.slice (some ⟨g, 0, none⟩) (n + 1) cm).ownBlock →
      ((Value.slice (some ⟨g, 0, none⟩) (n + 1) cm).ownBlock = some gn ∨ gn = w.heap.size + 2) → ∃ (g' cm' : Nat), Blk (w1.setCell ⟨Bs, 5, none⟩ (.slice (some ⟨gn, 0, none⟩) (n + 1 + 1) cap)) Bs (seg e l (.slice (some ⟨g', 0, none⟩) (n + 1 + 1) cm')) 31 ∧ (w1.setCell ⟨Bs, 5, none⟩ (.slice (some ⟨gn, 0, none⟩) (n + 1 + 1) cap)).ownsRow B 28 2 (.slice (some ⟨g', 0, none⟩) (n + 1 + 1) cm') (n + 1 + 1) (xs ++ [.int .i64 o, .int .u64 d]) ∧ Turn B gx [31, 28] w (w1.setCell ⟨Bs, 5, none⟩ (.slice (some ⟨gn, 0, none⟩) (n + 1 + 1) cap)) ∧ some g' ≠ gx := by
    intro gn cap w1 h1 h2 h3
    have S3 := S2.grown h2 (own_ne own2 S2 (by decide))
    refine ⟨gn, cap, S3.setCell 5 _, own_setCell_ne h1 (p := ⟨Bs, 5, none⟩) S3 (by decide) _, ?_, ?_⟩
    · exact ((((Turn.refl B gx [31, 28] w).alloc _).alloc _).grown own2 (Nat.le_refl _) hx2 (by decide) h2).setCell (p := ⟨Bs, 5, none⟩) S3 hBs hx1 (by decide) _
    · rcases h3 with h3 | h3
      · exact hx2 gn h3
      · intro e1; have := hx3 gn e1.symm; omega
  have HF := hide fin
  clear fin
  go_enter Yba.func17, Yba.ntmps17
  go_wp2
  go_quiet (fail)
  go_wp2
  go_region_law ((refine step_append_lies _ (by rfl) (.tmp 33) (.tmp 35) 25 (by rfl) B 28 i0 (.agg #[.int .i64 0, .int .u64 0]) 2 16 Yba.underlying25 hi hz0 hz1 hz2 (by rfl) (by decide) (.slice (some ⟨g, 0, none⟩) (n + 1) cm) (n + 1) (xs) (by rfl) (by exact own2) ⟨w.heap.size + 1, 0, none⟩ 1 1 [.int .i64 o, .int .u64 d] (by rfl) (by rfl) (by exact hnews) (by simp [Value.oneCell']) (by decide) (by unfold maxLen; omega) (by omega) (by simp; omega) (w.heap.size + 2) (by simp) ?_; intro gn cap w1 hown1 hgrow0 hat hlt; have hgrow : World.grownBy ((w.alloc (.cells #[.int .i64 o, .int .u64 d] 28)).alloc (.cells #[.int .i64 o, .int .u64 d] 28)) w1 (Value.slice (some ⟨g, 0, none⟩) (n + 1) cm).ownBlock := ⟨hgrow0.os, hgrow0.tape, hgrow0.output, hgrow0.size, hgrow0.block⟩; clear hgrow0; have c5' : w1.cell? ⟨Bs, 5, none⟩ = some (.slice (some ⟨g, 0, none⟩) (n + 1) cm) := (S2.grown hgrow (own_ne own2 S2 (by decide))).cell 5; have f5' : w1.frozen? ⟨Bs, 5, none⟩ = false := (S2.grown hgrow (own_ne own2 S2 (by decide))).free 5; have HH := hide ((unhide HF) _ _ _ hown1 hgrow hat); clear hown1 hgrow hat))
  all_goals
    go_wp2
    go_end0
    exact ⟨rfl, unhide HH⟩

end Go.Proofs.Ybulkchzq.Take
