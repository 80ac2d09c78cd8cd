import Derived.Test.YbulkchzqChan
import Derived.Deep.RegionHeld3
namespace Go.Proofs.Ybulkchzq.Chan
open Go Go.RowKit Go.Proofs.Ybulkchzq.Mem

theorem info88 : (Yba.prog.info? 88).map (fun i => decide (i.size = 0)) = some false := by kernel_rfl
theorem info88' : ∃ j, Yba.prog.info? 88 = some j ∧ j.size ≠ 0 := by
  have h := info88
  cases e : Yba.prog.info? 88 with
  | none => rw [e] at h; simp at h
  | some j => rw [e] at h; simp at h; exact ⟨j, rfl, h⟩
theorem equal_other {w : World} {a b : Nat} {ca cb : Array Value} {ta tb : TypeId} (hne : a ≠ b) (ha : Blk w a ca ta) (hb : Blk w b cb tb) (d : Nat) :
    (Op.equalIn (d + 1) 50 (.pointer (some ⟨a, 0, none⟩)) (.pointer (some ⟨b, 0, none⟩))).run Yba.prog w = .ok false w := by
  obtain ⟨j, hj, hs⟩ := info88'
  have h : (⟨a, 0, none⟩ : Addr) ≠ ⟨b, 0, none⟩ := fun e => hne (congrArg Addr.block e)
  simp [Op.equalIn, run_underlying Yba.underlying50, sizeOf, typeInfo, hj, hs, run_sameAddr_other w h ha hb]
theorem eql_other {w : World} {a b : Nat} {ca cb : Array Value} {ta tb : TypeId} (hne : a ≠ b) (ha : Blk w a ca ta) (hb : Blk w b cb tb) :
    (binOp .eql 50 (.pointer (some ⟨a, 0, none⟩)) (.pointer (some ⟨b, 0, none⟩))).run Yba.prog w = .ok (.bool false) w := by
  simp only [binOp]
  simp [Op.equal, Op.maxDepth, equal_other hne ha hb 9999]
theorem equal_same (a : Option Addr) (w : World) (d : Nat) : (Op.equalIn (d + 1) 50 (.pointer a) (.pointer a)).run Yba.prog w = .ok true w := by
  obtain ⟨j, hj, _⟩ := info88'
  cases a with
  | none => simp [Op.equalIn, run_underlying Yba.underlying50]
  | some a => simp [Op.equalIn, run_underlying Yba.underlying50, sizeOf, typeInfo, hj, run_sameAddr_same]
theorem neq_same (a : Option Addr) (w : World) : (binOp .neq 50 (.pointer a) (.pointer a)).run Yba.prog w = .ok (.bool false) w := by
  simp only [binOp]
  simp [Op.equal, Op.maxDepth, equal_same a w 9999]
theorem eql_same (a : Option Addr) (w : World) : (binOp .eql 50 (.pointer a) (.pointer a)).run Yba.prog w = .ok (.bool true) w := by
  simp only [binOp]
  simp [Op.equal, Op.maxDepth, equal_same a w 9999]

/-- The channel stands at block C, its own progress at b, nothing older than the call has turned. -/
structure Ch (w0 w : World) (C g m1 m2 b : Nat) (f : Int) (u : Bool) (s : Value) : Prop where
  c : Blk w C (chan g m1 m2 0 (.pointer (some ⟨b, 0, none⟩)) u s) 68
  p : Blk w b (prog0 f) 88
  hC : w0.heap.size ≤ C
  bel : Below w0.heap.size w0 w
theorem Ch.turn {w0 w w' : World} {C g m1 m2 b : Nat} {f : Int} {u u' : Bool} {s s' : Value} (h : Ch w0 w C g m1 m2 b f u s) (hc : Blk w' C (chan g m1 m2 0 (.pointer (some ⟨b, 0, none⟩)) u' s') 68) (T : Turn w0.heap.size none [68] w w') : Ch w0 w' C g m1 m2 b f u' s' :=
  ⟨hc, T.blk h.p (by decide), h.hC, h.bel.trans (T.below h.bel.size)⟩
theorem Ch.drew {w0 w : World} {C g m1 m2 b : Nat} {f : Int} {u : Bool} {s : Value} (h : Ch w0 w C g m1 m2 b f u s) : Ch w0 w.drew C g m1 m2 b f u s := ⟨h.c, h.p, h.hC, h.bel.drew⟩
theorem Ch.of {w w' : World} {f : Int} (hc : Blk w' ((w.alloc (.cells (prog0 f) 88)).heap.size + 4) (chan (w.alloc (.cells (prog0 f) 88)).heap.size ((w.alloc (.cells (prog0 f) 88)).heap.size + 1) ((w.alloc (.cells (prog0 f) 88)).heap.size + 2) 0 (.pointer (some ⟨w.heap.size, 0, none⟩)) false (.pointer (some ⟨(w.alloc (.cells (prog0 f) 88)).heap.size + 3, 0, none⟩))) 68)
    (T : Turn (w.alloc (.cells (prog0 f) 88)).heap.size none [] (w.alloc (.cells (prog0 f) 88)) w') : ∃ C g m1 m2 sv, C = w.heap.size + 1 + 4 ∧ sv = w.heap.size + 1 + 3 ∧ Ch w w' C g m1 m2 w.heap.size f false (.pointer (some ⟨sv, 0, none⟩)) := by
  simp only [World.size_alloc] at hc
  exact ⟨_, _, _, _, _, rfl, rfl, hc, T.blk (Blk.new w _ _) (by decide), by omega, ((Below.refl _ w).alloc (Nat.le_refl _) _).trans ((T.below (Nat.le_refl _)).mono (by simp))⟩

set_option maxRecDepth 100000 in
set_option maxHeartbeats 1600000 in
theorem cycle_any (f : Int) (tw : Bool) (w : World) : Calls Yba.prog 5 #[.int .u64 f, .bool tw] w fun e w' => e = .returned (.bool true) ∧ Below w.heap.size w w' := by
  have hns := neq_same
  go_enter Yba.func5, Yba.ntmps5
  go_wp2_with (go_at_call 10; refine (new_any f _).mono ?_; rintro e w' ⟨rfl, rfl⟩)
  refine (made f w.heap.size _ (Blk.new w _ _)).mono ?_
  rintro e w1 ⟨rfl, hc, _, T⟩
  obtain ⟨C, g, m1, m2, sv, hC, _, h1⟩ := Ch.of hc T
  have e1 : (w.alloc (.cells (prog0 f) 88)).heap.size + 4 = C := by rw [hC]; simp
  rw [e1]
  clear hc T hC e1
  have H1 := hide h1
  clear h1
  go_wp2_with fail
  refine (unsaved_marked _ C w.heap.size g m1 m2 _ _ _ (unhide H1).c (unhide H1).hC).mono ?_
  rintro e w2 ⟨rfl, hc, T⟩
  have H2 := hide ((unhide H1).turn hc T)
  clear hc T H1
  go_wp2_with fail
  refine (unsaved_some _ C w.heap.size g m1 m2 w.heap.size f _ (unhide H2).c (unhide H2).p (unhide H2).hC).mono ?_
  rintro e w3 ⟨rfl, hc, hq, T⟩
  have hne : w2.heap.size ≠ w.heap.size := by have := (unhide H2).p.lt; omega
  have H3 := hide ((unhide H2).turn hc T)
  have HQ := hide hq
  have heq := eql_other hne hq (unhide H3).p
  have c11 : w3.cell? ⟨C, 11, none⟩ = some (.pointer (some ⟨w.heap.size, 0, none⟩)) := (unhide H3).c.cell 11
  clear hc T H2 hq
  generalize w2.heap.size = q at HQ heq hne ⊢
  clear w2
  have HN := hide hne
  go_wp2_with fail
  refine (saved_marked _ C w.heap.size g m1 m2 _ _ _ _ (unhide H3).c (unhide H3).hC).mono ?_
  rintro e w4 ⟨rfl, hc, T⟩
  have H4 := hide ((unhide H3).turn hc T)
  have HQ4 := hide (T.blk (unhide HQ) (by decide))
  clear hc T H3 HQ heq c11 hne
  cases tw with
  | true =>
    go_wp2_with fail
    refine (saved_marked _ C w.heap.size g m1 m2 _ _ _ _ (unhide H4).c (unhide H4).hC).mono ?_
    rintro e w5 ⟨rfl, hc, T⟩
    have H5 := hide ((unhide H4).turn hc T)
    have HQ5 := hide (T.blk (unhide HQ4) (by decide))
    clear hc T H4 HQ4
    go_wp2_with fail
    have c11' : w5.cell? ⟨C, 11, none⟩ = some (.pointer (some ⟨w.heap.size, 0, none⟩)) := (unhide H5).c.cell 11
    have c13' : w5.cell? ⟨C, 13, none⟩ = some (.pointer (some ⟨q, 0, none⟩)) := (unhide H5).c.cell 13
    have heq' := eql_other (w := w5.drew) (unhide HN) (unhide HQ5) (unhide H5).p
    go_region_held3 (fun w' => w'.cell? ⟨C, 11, none⟩ = some (.pointer (some ⟨w.heap.size, 0, none⟩)) ∧ w'.cell? ⟨C, 13, none⟩ = some (.pointer (some ⟨q, 0, none⟩)) ∧ (binOp .eql 50 (.pointer (some ⟨q, 0, none⟩)) (.pointer (some ⟨w.heap.size, 0, none⟩))).run Yba.prog w' = .ok (.bool false) w') (go_keep)
      ((go_at_call 15; refine (saved_read _ C w.heap.size g m1 m2 _ _ _ (by exact (unhide H5).c) (unhide H5).hC).mono ?_; rintro e w6 ⟨rfl, hc, T⟩; have H6 := hide ((unhide H5).drew.turn hc T); have HQ6 := hide (T.blk (b := q) (by exact unhide HQ5) (by decide)); have heq := eql_other (unhide HN) (unhide HQ6) (unhide H6).p; have c11 : w6.cell? ⟨C, 11, none⟩ = some (.pointer (some ⟨w.heap.size, 0, none⟩)) := (unhide H6).c.cell 11; have c13 : w6.cell? ⟨C, 13, none⟩ = some (.pointer (some ⟨q, 0, none⟩)) := (unhide H6).c.cell 13; clear hc T))
    go_wp2_with fail
    refine (unsaved_none _ C w.heap.size g m1 m2 _ _ (unhide H6).c (unhide H6).hC).mono ?_
    rintro e w7 ⟨rfl, hc, T⟩
    have H7 := hide ((unhide H6).turn hc T)
    clear hc T H6 c11 c13 heq HQ6
    go_wp2
    go_ret
    exact ⟨rfl, (unhide H7).bel⟩
  | false =>
    go_wp2_with fail
    have c11' : w4.cell? ⟨C, 11, none⟩ = some (.pointer (some ⟨w.heap.size, 0, none⟩)) := (unhide H4).c.cell 11
    have c13' : w4.cell? ⟨C, 13, none⟩ = some (.pointer (some ⟨q, 0, none⟩)) := (unhide H4).c.cell 13
    have heq' := eql_other (w := w4.drew) (unhide HN) (unhide HQ4) (unhide H4).p
    go_region_held3 (fun w' => w'.cell? ⟨C, 11, none⟩ = some (.pointer (some ⟨w.heap.size, 0, none⟩)) ∧ w'.cell? ⟨C, 13, none⟩ = some (.pointer (some ⟨q, 0, none⟩)) ∧ (binOp .eql 50 (.pointer (some ⟨q, 0, none⟩)) (.pointer (some ⟨w.heap.size, 0, none⟩))).run Yba.prog w' = .ok (.bool false) w') (go_keep)
      ((go_at_call 15; refine (saved_read _ C w.heap.size g m1 m2 _ _ _ (by exact (unhide H4).c) (unhide H4).hC).mono ?_; rintro e w6 ⟨rfl, hc, T⟩; have H6 := hide ((unhide H4).drew.turn hc T); have HQ6 := hide (T.blk (b := q) (by exact unhide HQ4) (by decide)); have heq := eql_other (unhide HN) (unhide HQ6) (unhide H6).p; have c11 : w6.cell? ⟨C, 11, none⟩ = some (.pointer (some ⟨w.heap.size, 0, none⟩)) := (unhide H6).c.cell 11; have c13 : w6.cell? ⟨C, 13, none⟩ = some (.pointer (some ⟨q, 0, none⟩)) := (unhide H6).c.cell 13; clear hc T))
    go_wp2_with fail
    refine (unsaved_none _ C w.heap.size g m1 m2 _ _ (unhide H6).c (unhide H6).hC).mono ?_
    rintro e w7 ⟨rfl, hc, T⟩
    have H7 := hide ((unhide H6).turn hc T)
    clear hc T H6 c11 c13 heq HQ6
    go_wp2
    go_ret
    exact ⟨rfl, (unhide H7).bel⟩
end Go.Proofs.Ybulkchzq.Chan
