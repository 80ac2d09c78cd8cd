import Derived.Test.YbulkchzqCycle
namespace Go.Proofs.Ybulkchzq.Chan
open Go Go.RowKit Go.Proofs.Ybulkchzq.Mem

theorem Ch.alloc {w0 w : World} {C g m1 m2 b : Nat} {f : Int} {u : Bool} {s : Value} (h : Ch w0 w C g m1 m2 b f u s) (o : Obj) : Ch w0 (w.alloc o) C g m1 m2 b f u s := ⟨h.c.alloc o, h.p.alloc o, h.hC, h.bel.alloc h.bel.size o⟩
/-- The lock taken and let go. -/
theorem Ch.locked {w0 w : World} {C g m1 m2 b : Nat} {f : Int} {u : Bool} {s : Value} (h : Ch w0 w C g m1 m2 b f u s) : Ch w0 ((w.setCell ⟨C, 2, none⟩ (.int .i32 1)).setCell ⟨C, 2, none⟩ (.int .i32 0)) C g m1 m2 b f u s ∧ Turn w0.heap.size none [68] w ((w.setCell ⟨C, 2, none⟩ (.int .i32 1)).setCell ⟨C, 2, none⟩ (.int .i32 0)) := by
  have k1 := h.c.setCell 2 (.int .i32 1)
  rw [chan_st] at k1
  have k3 := k1.setCell 2 (.int .i32 0)
  rw [chan_st] at k3
  have T := ((Turn.refl w0.heap.size none [68] w).setCell (p := ⟨C, 2, none⟩) h.c h.hC (fun h => by cases h) (by decide) (.int .i32 1)).setCell (p := ⟨C, 2, none⟩) k1 h.hC (fun h => by cases h) (by decide) (.int .i32 0)
  exact ⟨h.turn k3 T, T⟩
theorem Ch.held {w0 w : World} {C g m1 m2 b : Nat} {f : Int} {u : Bool} {s : Value} (h : Ch w0 w C g m1 m2 b f u s) : (w.setCell ⟨C, 2, none⟩ (.int .i32 1)).cell? ⟨C, 2, none⟩ = some (.int .i32 1) ∧ (w.setCell ⟨C, 2, none⟩ (.int .i32 1)).frozen? ⟨C, 2, none⟩ = false :=
  ⟨(h.c.setCell 2 (.int .i32 1)).cell 2, (h.c.setCell 2 (.int .i32 1)).free 2⟩

set_option maxRecDepth 100000 in
set_option maxHeartbeats 1600000 in
theorem sets_any (f f2 : Int) (nl un : Bool) (w : World) : Calls Yba.prog 4 #[.int .u64 f, .int .u64 f2, .bool nl, .bool un] w fun e w' => e = .returned (.bool true) ∧ Below w.heap.size w w' := by
  have hns := neq_same
  have hes := eql_same
  go_enter Yba.func4, Yba.ntmps4
  go_wp2_with (go_at_call 10; refine (new_any f _).mono ?_; rintro e w' ⟨rfl, rfl⟩)
  refine (made f w.heap.size _ (Blk.new w _ _)).mono ?_
  rintro e w1 ⟨rfl, hc, hs, T⟩
  obtain ⟨C, g, m1, m2, sv, hC, hsv, h1⟩ := Ch.of hc T
  have e1 : (w.alloc (.cells (prog0 f) 88)).heap.size + 4 = C := by rw [hC]; simp
  have e2 : (w.alloc (.cells (prog0 f) 88)).heap.size + 3 = sv := by rw [hsv]; simp
  rw [e1]
  rw [e2] at hs
  have H1 := hide h1
  have HS1 := hide hs
  clear hc T hC e1 e2 h1 hs hsv
  cases un with
  | true =>
    go_wp2_with fail
    refine (unsaved_marked _ C w.heap.size g m1 m2 _ _ _ (unhide H1).c (unhide H1).hC).mono ?_
    rintro e w2 ⟨rfl, hc, T⟩
    have H2 := hide ((unhide H1).turn hc T)
    have HS2 := hide (T.blk (unhide HS1) (by decide))
    have c11 : w2.cell? ⟨C, 11, none⟩ = some (.pointer (some ⟨w.heap.size, 0, none⟩)) := (unhide H2).c.cell 11
    have c13 : w2.cell? ⟨C, 13, none⟩ = some (.pointer (some ⟨sv, 0, none⟩)) := (unhide H2).c.cell 13
    clear hc T H1 HS1
    cases nl with
    | true =>
      go_wp2_with fail
      refine (saved_marked _ C w.heap.size g m1 m2 _ _ _ _ (unhide H2).c (unhide H2).hC).mono ?_
      rintro e w4 ⟨rfl, hc, T⟩
      have H4 := hide ((unhide H2).turn hc T)
      clear hc T H2 HS2 c11 c13
      go_wp2_with fail
      refine (Locks.try_free _ _ ((unhide H4).c.cell 2) ((unhide H4).c.free 2)).mono ?_
      rintro e w' ⟨rfl, rfl⟩
      go_wp2_with fail
      refine (Locks.unlock_held _ _ (unhide H4).held.1 (unhide H4).held.2).mono ?_
      rintro e w' ⟨rfl, rfl⟩
      have H5 := hide (unhide H4).locked.1
      clear H4
      go_wp2_with fail
      refine (saved_read _ C w.heap.size g m1 m2 _ _ _ (unhide H5).c (unhide H5).hC).mono ?_
      rintro e w6 ⟨rfl, hc, T⟩
      have H6 := hide ((unhide H5).turn hc T)
      have c11 : w6.cell? ⟨C, 11, none⟩ = some (.pointer (some ⟨w.heap.size, 0, none⟩)) := (unhide H6).c.cell 11
      have c12 : w6.cell? ⟨C, 12, none⟩ = some (.bool true) := (unhide H6).c.cell 12
      have c16 : w6.cell? ⟨C, 16, none⟩ = some (.bool false) := (unhide H6).c.cell 16
      clear hc T H5
      go_wp2
      go_ret
      exact ⟨rfl, (unhide H6).bel⟩
    | false =>
      go_wp2_with fail
      refine (new_any f2 _).mono ?_
      rintro e w' ⟨rfl, rfl⟩
      have H3 := hide ((unhide H2).alloc (.cells (prog0 f2) 88))
      have HQ3 := hide (Blk.new w2 (prog0 f2) 88)
      have HS3 := hide ((unhide HS2).alloc (.cells (prog0 f2) 88))
      have HN := hide (show sv ≠ w2.heap.size from by have := (unhide HS2).lt; omega)
      clear H2 HS2 c11 c13
      go_wp2_with fail
      refine (saved_marked _ C w.heap.size g m1 m2 _ _ _ _ (unhide H3).c (unhide H3).hC).mono ?_
      rintro e w4 ⟨rfl, hc, T⟩
      have H4 := hide ((unhide H3).turn hc T)
      have HQ4 := hide (T.blk (unhide HQ3) (by decide))
      have HS4 := hide (T.blk (unhide HS3) (by decide))
      clear hc T H3 HS3 HQ3
      generalize w2.heap.size = q at HQ4 HN H4 ⊢
      go_wp2_with fail
      refine (Locks.try_free _ _ ((unhide H4).c.cell 2) ((unhide H4).c.free 2)).mono ?_
      rintro e w' ⟨rfl, rfl⟩
      go_wp2_with fail
      refine (Locks.unlock_held _ _ (unhide H4).held.1 (unhide H4).held.2).mono ?_
      rintro e w' ⟨rfl, rfl⟩
      have H5 := hide (unhide H4).locked.1
      have HQ5 := hide ((unhide H4).locked.2.blk (unhide HQ4) (by decide))
      have HS5 := hide ((unhide H4).locked.2.blk (unhide HS4) (by decide))
      clear HQ4 HS4
      clear H4
      go_wp2_with fail
      refine (saved_read _ C w.heap.size g m1 m2 _ _ _ (unhide H5).c (unhide H5).hC).mono ?_
      rintro e w6 ⟨rfl, hc, T⟩
      have H6 := hide ((unhide H5).turn hc T)
      have heq := eql_other (unhide HN) (T.blk (unhide HS5) (by decide)) (T.blk (unhide HQ5) (by decide))
      clear HQ5 HS5 HN
      have c11 : w6.cell? ⟨C, 11, none⟩ = some (.pointer (some ⟨w.heap.size, 0, none⟩)) := (unhide H6).c.cell 11
      have c12 : w6.cell? ⟨C, 12, none⟩ = some (.bool true) := (unhide H6).c.cell 12
      have c16 : w6.cell? ⟨C, 16, none⟩ = some (.bool false) := (unhide H6).c.cell 16
      clear hc T H5
      go_wp2
      go_ret
      exact ⟨rfl, (unhide H6).bel⟩
  | false =>
    have c11 : w1.cell? ⟨C, 11, none⟩ = some (.pointer (some ⟨w.heap.size, 0, none⟩)) := (unhide H1).c.cell 11
    have c13 : w1.cell? ⟨C, 13, none⟩ = some (.pointer (some ⟨sv, 0, none⟩)) := (unhide H1).c.cell 13
    cases nl with
    | true =>
      go_wp2_with fail
      refine (saved_marked _ C w.heap.size g m1 m2 _ _ _ _ (unhide H1).c (unhide H1).hC).mono ?_
      rintro e w4 ⟨rfl, hc, T⟩
      have H4 := hide ((unhide H1).turn hc T)
      clear hc T H1 HS1 c11 c13
      go_wp2_with fail
      refine (Locks.try_free _ _ ((unhide H4).c.cell 2) ((unhide H4).c.free 2)).mono ?_
      rintro e w' ⟨rfl, rfl⟩
      go_wp2_with fail
      refine (Locks.unlock_held _ _ (unhide H4).held.1 (unhide H4).held.2).mono ?_
      rintro e w' ⟨rfl, rfl⟩
      have H5 := hide (unhide H4).locked.1
      clear H4
      go_wp2_with fail
      refine (saved_read _ C w.heap.size g m1 m2 _ _ _ (unhide H5).c (unhide H5).hC).mono ?_
      rintro e w6 ⟨rfl, hc, T⟩
      have H6 := hide ((unhide H5).turn hc T)
      have c11 : w6.cell? ⟨C, 11, none⟩ = some (.pointer (some ⟨w.heap.size, 0, none⟩)) := (unhide H6).c.cell 11
      have c12 : w6.cell? ⟨C, 12, none⟩ = some (.bool false) := (unhide H6).c.cell 12
      have c16 : w6.cell? ⟨C, 16, none⟩ = some (.bool false) := (unhide H6).c.cell 16
      clear hc T H5
      go_wp2
      go_ret
      exact ⟨rfl, (unhide H6).bel⟩
    | false =>
      go_wp2_with fail
      refine (new_any f2 _).mono ?_
      rintro e w' ⟨rfl, rfl⟩
      have H3 := hide ((unhide H1).alloc (.cells (prog0 f2) 88))
      have HQ3 := hide (Blk.new w1 (prog0 f2) 88)
      have HS3 := hide ((unhide HS1).alloc (.cells (prog0 f2) 88))
      have HN := hide (show sv ≠ w1.heap.size from by have := (unhide HS1).lt; omega)
      clear H1 HS1 c11 c13
      go_wp2_with fail
      refine (saved_marked _ C w.heap.size g m1 m2 _ _ _ _ (unhide H3).c (unhide H3).hC).mono ?_
      rintro e w4 ⟨rfl, hc, T⟩
      have H4 := hide ((unhide H3).turn hc T)
      have HQ4 := hide (T.blk (unhide HQ3) (by decide))
      have HS4 := hide (T.blk (unhide HS3) (by decide))
      clear hc T H3 HS3 HQ3
      generalize w1.heap.size = q at HQ4 HN H4 ⊢
      go_wp2_with fail
      refine (Locks.try_free _ _ ((unhide H4).c.cell 2) ((unhide H4).c.free 2)).mono ?_
      rintro e w' ⟨rfl, rfl⟩
      go_wp2_with fail
      refine (Locks.unlock_held _ _ (unhide H4).held.1 (unhide H4).held.2).mono ?_
      rintro e w' ⟨rfl, rfl⟩
      have H5 := hide (unhide H4).locked.1
      have HQ5 := hide ((unhide H4).locked.2.blk (unhide HQ4) (by decide))
      have HS5 := hide ((unhide H4).locked.2.blk (unhide HS4) (by decide))
      clear HQ4 HS4
      clear H4
      go_wp2_with fail
      refine (saved_read _ C w.heap.size g m1 m2 _ _ _ (unhide H5).c (unhide H5).hC).mono ?_
      rintro e w6 ⟨rfl, hc, T⟩
      have H6 := hide ((unhide H5).turn hc T)
      have heq := eql_other (unhide HN) (T.blk (unhide HS5) (by decide)) (T.blk (unhide HQ5) (by decide))
      clear HQ5 HS5 HN
      have c11 : w6.cell? ⟨C, 11, none⟩ = some (.pointer (some ⟨w.heap.size, 0, none⟩)) := (unhide H6).c.cell 11
      have c12 : w6.cell? ⟨C, 12, none⟩ = some (.bool false) := (unhide H6).c.cell 12
      have c16 : w6.cell? ⟨C, 16, none⟩ = some (.bool false) := (unhide H6).c.cell 16
      clear hc T H5
      go_wp2
      go_ret
      exact ⟨rfl, (unhide H6).bel⟩
end Go.Proofs.Ybulkchzq.Chan
