import Derived.Test.YbulkchzqLocks
import Derived.Deep.RegionHeld3
import Derived.Defers
import Derived.LaidEql
namespace Go.Proofs.Ybulkchzq.Chan
open Go Go.RowKit Go.Proofs.Ybulkchzq.Mem

theorem newAt (w : World) (cs : Array Value) (t : TypeId) {s : Nat} (hs : s = w.heap.size) : Blk (w.alloc (.cells cs t)) s cs t := by subst hs; exact Blk.new w cs t
theorem turn_drewN {B : Nat} {g : Option Nat} {ts : List TypeId} {a w : World} (h : Turn B g ts a w) (n : Nat) : Turn B g ts a (w.drewN n) := ⟨h.os, h.tape, h.output, h.size, h.block⟩

/-- A fresh progress. -/
def prog0 (f : Int) : Array Value := #[.int .u64 f, .slice none 0 0, .slice none 0 0]

theorem eq85 (w : World) : (binOp .eql 85 (.slice none 0 0) (.slice none 0 0)).run Yba.prog w = .ok (.bool true) w := by kernel_rfl
theorem eq86 (w : World) : (binOp .eql 86 (.slice none 0 0) (.slice none 0 0)).run Yba.prog w = .ok (.bool true) w := by kernel_rfl

set_option maxRecDepth 100000 in
theorem clone_nil (w : World) : Calls Yba.prog 22 #[.slice none 0 0] w fun e w' => e = .returned (.slice none 0 0) ∧ w' = w := by
  have h := eq85
  go_enter Yba.func22, Yba.ntmps22
  go_wp2
  go_ret
  exact ⟨rfl, rfl⟩
set_option maxRecDepth 100000 in
theorem clone_nil2 (w : World) : Calls Yba.prog 23 #[.slice none 0 0] w fun e w' => e = .returned (.slice none 0 0) ∧ w' = w := by
  have h := eq86
  go_enter Yba.func23, Yba.ntmps23
  go_wp2
  go_ret
  exact ⟨rfl, rfl⟩

set_option maxRecDepth 100000 in
theorem new_any (f : Int) (w : World) : Calls Yba.prog 10 #[.int .u64 f] w fun e w' => e = .returned (.pointer (some ⟨w.heap.size, 0, none⟩)) ∧ w' = w.alloc (.cells (prog0 f) 88) := by
  go_enter Yba.func10, Yba.ntmps10
  go_wp2
  go_ret
  exact ⟨rfl, rfl⟩

set_option maxRecDepth 100000 in
set_option maxHeartbeats 800000 in
theorem cloned (f : Int) (b : Nat) (w : World) (hb : Blk w b (prog0 f) 88) : Calls Yba.prog 18 #[.pointer (some ⟨b, 0, none⟩)] w fun e w' => e = .returned (.pointer (some ⟨w.heap.size, 0, none⟩)) ∧ ∃ n, w' = (w.alloc (.cells (prog0 f) 88)).drewN n := by
  have c0 : w.cell? ⟨b, 0, none⟩ = some (.int .u64 f) := hb.cell 0
  have c1 : w.cell? ⟨b, 1, none⟩ = some (.slice none 0 0) := hb.cell 1
  have c2 : w.cell? ⟨b, 2, none⟩ = some (.slice none 0 0) := hb.cell 2
  go_enter Yba.func18, Yba.ntmps18
  go_wp2
  go_region_held3 (fun w' => w'.cell? ⟨b, 0, none⟩ = some (.int .u64 f) ∧ w'.cell? ⟨b, 1, none⟩ = some (.slice none 0 0) ∧ w'.cell? ⟨b, 2, none⟩ = some (.slice none 0 0)) (go_keep) (first | (go_at_call 22; refine (clone_nil _).mono ?_; rintro e w' ⟨rfl, rfl⟩) | (go_at_call 23; refine (clone_nil2 _).mono ?_; rintro e w' ⟨rfl, rfl⟩))
  all_goals
    go_wp2
    go_ret
    exact ⟨rfl, 1, rfl⟩

/-- The channel's cells: the lock's word, the progress, the mark, the saved progress. -/
def chan (g m1 m2 : Nat) (st : Int) (p : Value) (u : Bool) (s : Value) : Array Value :=
  #[.string ⟨#[99]⟩, .pointer none, .int .i32 st, .int .u32 0, .pointer (some ⟨g, 0, none⟩), .map (some m1), .int .u64 0, .map (some m2), .slice none 0 0, .int .i64 0, .int .u64 0, p, .bool u, s, .slice none 0 0, .pointer none, .bool false]

set_option maxRecDepth 100000 in
set_option maxHeartbeats 800000 in
theorem made (f : Int) (b : Nat) (w : World) (hb : Blk w b (prog0 f) 88) : Calls Yba.prog 9 #[.pointer none, .string ⟨#[99]⟩, .pointer (some ⟨b, 0, none⟩)] w fun e w' => e = .returned (.pointer (some ⟨w.heap.size + 4, 0, none⟩)) ∧
    Blk w' (w.heap.size + 4) (chan w.heap.size (w.heap.size + 1) (w.heap.size + 2) 0 (.pointer (some ⟨b, 0, none⟩)) false (.pointer (some ⟨w.heap.size + 3, 0, none⟩))) 68 ∧ Blk w' (w.heap.size + 3) (prog0 f) 88 ∧ Turn w.heap.size none [] w w' := by
  have hmm := @run_makeMap Yba.prog
  have HB := hide hb
  clear hb
  go_enter Yba.func9, Yba.ntmps9
  go_wp2_with fail
  refine (cloned f b _ ((((unhide HB).alloc _).alloc _).alloc _)).mono ?_
  rintro e w1 ⟨rfl, n, rfl⟩
  go_wp2
  go_ret
  refine ⟨rfl, newAt _ _ _ (by simp), (newAt _ _ _ (by simp)).alloc _, ?_⟩
  exact turn_drewN ((((((Turn.refl _ _ _ _).alloc _).alloc _).alloc _).alloc _).alloc _) n

section
variable (w : World) (C B g m1 m2 : Nat) (p s v : Value) (u : Bool)
theorem chan_st (a b : Int) : (chan g m1 m2 a p u s).setIfInBounds 2 (.int .i32 b) = chan g m1 m2 b p u s := rfl
theorem chan_u (a : Int) (b : Bool) : (chan g m1 m2 a p u s).setIfInBounds 12 (.bool b) = chan g m1 m2 a p b s := rfl
theorem chan_s (a : Int) : (chan g m1 m2 a p u s).setIfInBounds 13 v = chan g m1 m2 a p u v := rfl
end

set_option maxRecDepth 100000 in
set_option maxHeartbeats 800000 in
theorem unsaved_marked (w : World) (C B g m1 m2 : Nat) (p s : Value) (u : Bool) (hc : Blk w C (chan g m1 m2 0 p u s) 68) (hB : B ≤ C) :
    Calls Yba.prog 11 #[.pointer (some ⟨C, 0, none⟩)] w fun e w' => e = .returned (.tuple #[]) ∧ Blk w' C (chan g m1 m2 0 p true s) 68 ∧ Turn B none [68] w w' := by
  have c2 : w.cell? ⟨C, 2, none⟩ = some (.int .i32 0) := hc.cell 2
  have f2 : w.frozen? ⟨C, 2, none⟩ = false := hc.free 2
  have c12 : w.cell? ⟨C, 12, none⟩ = some (.bool u) := hc.cell 12
  have f12 : w.frozen? ⟨C, 12, none⟩ = false := hc.free 12
  have k1 := hc.setCell 2 (.int .i32 1)
  rw [chan_st] at k1
  have k2 := k1.setCell 12 (.bool true)
  rw [chan_u] at k2
  have k3 := k2.setCell 2 (.int .i32 0)
  rw [chan_st] at k3
  have T := (((Turn.refl B none [68] w).setCell (p := ⟨C, 2, none⟩) hc hB (fun h => by cases h) (by decide) (.int .i32 1)).setCell (p := ⟨C, 12, none⟩) k1 hB (fun h => by cases h) (by decide) (.bool true)).setCell (p := ⟨C, 2, none⟩) k2 hB (fun h => by cases h) (by decide) (.int .i32 0)
  have HK1 := hide k1
  have HK2 := hide k2
  have HK3 := hide k3
  have HT := hide T
  clear hc k1 k2 k3 T
  go_enter Yba.func11, Yba.ntmps11
  go_wp2_with (go_at_call 19; refine (Locks.lock_free _ _ c2 f2).mono ?_; rintro e w' ⟨rfl, rfl⟩)
  refine (Locks.unlock_held _ _ ((unhide HK2).cell 2) ((unhide HK2).free 2)).mono ?_
  rintro e w' ⟨rfl, rfl⟩
  go_wp2
  go_end0
  exact ⟨rfl, unhide HK3, unhide HT⟩

set_option maxRecDepth 100000 in
set_option maxHeartbeats 800000 in
theorem saved_marked (w : World) (C B g m1 m2 : Nat) (p s : Value) (u : Bool) (ao : Option Addr) (hc : Blk w C (chan g m1 m2 0 p u s) 68) (hB : B ≤ C) :
    Calls Yba.prog 12 #[.pointer (some ⟨C, 0, none⟩), .pointer ao] w fun e w' => e = .returned (.tuple #[]) ∧ Blk w' C (chan g m1 m2 0 p u (.pointer ao)) 68 ∧ Turn B none [68] w w' := by
  have c2 : w.cell? ⟨C, 2, none⟩ = some (.int .i32 0) := hc.cell 2
  have f2 : w.frozen? ⟨C, 2, none⟩ = false := hc.free 2
  have c13 : w.cell? ⟨C, 13, none⟩ = some s := hc.cell 13
  have f13 : w.frozen? ⟨C, 13, none⟩ = false := hc.free 13
  have k1 := hc.setCell 2 (.int .i32 1)
  rw [chan_st] at k1
  have k2 := k1.setCell 13 (.pointer ao)
  rw [chan_s] at k2
  have k3 := k2.setCell 2 (.int .i32 0)
  rw [chan_st] at k3
  have T := (((Turn.refl B none [68] w).setCell (p := ⟨C, 2, none⟩) hc hB (fun h => by cases h) (by decide) (.int .i32 1)).setCell (p := ⟨C, 13, none⟩) k1 hB (fun h => by cases h) (by decide) (.pointer ao)).setCell (p := ⟨C, 2, none⟩) k2 hB (fun h => by cases h) (by decide) (.int .i32 0)
  have HK1 := hide k1
  have HK2 := hide k2
  have HK3 := hide k3
  have HT := hide T
  clear hc k1 k2 k3 T
  go_enter Yba.func12, Yba.ntmps12
  go_wp2_with (go_at_call 19; refine (Locks.lock_free _ _ c2 f2).mono ?_; rintro e w' ⟨rfl, rfl⟩)
  refine (Locks.unlock_held _ _ ((unhide HK2).cell 2) ((unhide HK2).free 2)).mono ?_
  rintro e w' ⟨rfl, rfl⟩
  go_wp2
  go_end0
  exact ⟨rfl, unhide HK3, unhide HT⟩

set_option maxRecDepth 100000 in
set_option maxHeartbeats 800000 in
theorem saved_read (w : World) (C B g m1 m2 : Nat) (p : Value) (u : Bool) (ao : Option Addr) (hc : Blk w C (chan g m1 m2 0 p u (.pointer ao)) 68) (hB : B ≤ C) :
    Calls Yba.prog 15 #[.pointer (some ⟨C, 0, none⟩)] w fun e w' => e = .returned (.pointer ao) ∧ Blk w' C (chan g m1 m2 0 p u (.pointer ao)) 68 ∧ Turn B none [68] w w' := by
  have c2 : w.cell? ⟨C, 2, none⟩ = some (.int .i32 0) := hc.cell 2
  have f2 : w.frozen? ⟨C, 2, none⟩ = false := hc.free 2
  have c13 : w.cell? ⟨C, 13, none⟩ = some (.pointer ao) := hc.cell 13
  have k1 := hc.setCell 2 (.int .i32 1)
  rw [chan_st] at k1
  have k3 := k1.setCell 2 (.int .i32 0)
  rw [chan_st] at k3
  have T := ((Turn.refl B none [68] w).setCell (p := ⟨C, 2, none⟩) hc hB (fun h => by cases h) (by decide) (.int .i32 1)).setCell (p := ⟨C, 2, none⟩) k1 hB (fun h => by cases h) (by decide) (.int .i32 0)
  have HK1 := hide k1
  have HK3 := hide k3
  have HT := hide T
  clear hc k1 k3 T
  go_enter_defers Yba.func15, Yba.ntmps15
  go_wp2_with (go_at_call 19; refine (Locks.lock_free _ _ c2 f2).mono ?_; rintro e w' ⟨rfl, rfl⟩)
  refine leaves_cons (f := 14) (args := #[.pointer (some ⟨C, 2, none⟩)]) (by simp) (by simp [go_sem]) ?_
  refine (Locks.unlock_deferred _ .returning _ ((unhide HK1).cell 2) ((unhide HK1).free 2)).mono ?_
  rintro e u' w'' ⟨rfl, rfl, rfl⟩
  exact ⟨_, results_tmp rfl _ _ _, rfl, unhide HK3, unhide HT⟩

set_option maxRecDepth 100000 in
set_option maxHeartbeats 800000 in
theorem unsaved_none (w : World) (C B g m1 m2 : Nat) (p s : Value) (hc : Blk w C (chan g m1 m2 0 p false s) 68) (hB : B ≤ C) :
    Calls Yba.prog 16 #[.pointer (some ⟨C, 0, none⟩)] w fun e w' => e = .returned (.pointer none) ∧ Blk w' C (chan g m1 m2 0 p false s) 68 ∧ Turn B none [68] w w' := by
  have c2 : w.cell? ⟨C, 2, none⟩ = some (.int .i32 0) := hc.cell 2
  have f2 : w.frozen? ⟨C, 2, none⟩ = false := hc.free 2
  have c12 : w.cell? ⟨C, 12, none⟩ = some (.bool false) := hc.cell 12
  have k1 := hc.setCell 2 (.int .i32 1)
  rw [chan_st] at k1
  have k3 := k1.setCell 2 (.int .i32 0)
  rw [chan_st] at k3
  have T := ((Turn.refl B none [68] w).setCell (p := ⟨C, 2, none⟩) hc hB (fun h => by cases h) (by decide) (.int .i32 1)).setCell (p := ⟨C, 2, none⟩) k1 hB (fun h => by cases h) (by decide) (.int .i32 0)
  have HK1 := hide k1
  have HK3 := hide k3
  have HT := hide T
  clear hc k1 k3 T
  go_enter_defers Yba.func16, Yba.ntmps16
  go_wp2_with (go_at_call 19; refine (Locks.lock_free _ _ c2 f2).mono ?_; rintro e w' ⟨rfl, rfl⟩)
  refine leaves_cons (f := 14) (args := #[.pointer (some ⟨C, 2, none⟩)]) (by simp) (by simp [go_sem]) ?_
  refine (Locks.unlock_deferred _ .returning _ ((unhide HK1).cell 2) ((unhide HK1).free 2)).mono ?_
  rintro e u' w'' ⟨rfl, rfl, rfl⟩
  exact ⟨_, results_tmp rfl _ _ _, rfl, unhide HK3, unhide HT⟩

set_option maxRecDepth 100000 in
set_option maxHeartbeats 800000 in
theorem unsaved_some (w : World) (C B g m1 m2 b : Nat) (f : Int) (s : Value) (hc : Blk w C (chan g m1 m2 0 (.pointer (some ⟨b, 0, none⟩)) true s) 68) (hb : Blk w b (prog0 f) 88) (hB : B ≤ C) :
    Calls Yba.prog 16 #[.pointer (some ⟨C, 0, none⟩)] w fun e w' => e = .returned (.pointer (some ⟨w.heap.size, 0, none⟩)) ∧ Blk w' C (chan g m1 m2 0 (.pointer (some ⟨b, 0, none⟩)) false s) 68 ∧ Blk w' w.heap.size (prog0 f) 88 ∧ Turn B none [68] w w' := by
  have c2 : w.cell? ⟨C, 2, none⟩ = some (.int .i32 0) := hc.cell 2
  have f2 : w.frozen? ⟨C, 2, none⟩ = false := hc.free 2
  have c11 : w.cell? ⟨C, 11, none⟩ = some (.pointer (some ⟨b, 0, none⟩)) := hc.cell 11
  have c12 : w.cell? ⟨C, 12, none⟩ = some (.bool true) := hc.cell 12
  have f12 : w.frozen? ⟨C, 12, none⟩ = false := hc.free 12
  have nb := hb.ne hc (by decide)
  have k1 := hc.setCell 2 (.int .i32 1)
  rw [chan_st] at k1
  have k2 := k1.setCell 12 (.bool false)
  rw [chan_u] at k2
  have T2 := ((Turn.refl B none [68] w).setCell (p := ⟨C, 2, none⟩) hc hB (fun h => by cases h) (by decide) (.int .i32 1)).setCell (p := ⟨C, 12, none⟩) k1 hB (fun h => by cases h) (by decide) (.bool false)
  have b2 := (hb.setCell_ne (a := ⟨C, 2, none⟩) nb (.int .i32 1)).setCell_ne (a := ⟨C, 12, none⟩) nb (.bool false)
  have HK2 := hide k2
  have HT2 := hide T2
  have HB2 := hide b2
  clear hc k1 k2 T2 b2 hb nb
  go_enter_defers Yba.func16, Yba.ntmps16
  go_wp2_with (go_at_call 19; refine (Locks.lock_free _ _ c2 f2).mono ?_; rintro e w' ⟨rfl, rfl⟩)
  refine (cloned f b _ (unhide HB2)).mono ?_
  rintro e w1 ⟨rfl, n, rfl⟩
  have k4 : Blk (((w.setCell ⟨C, 2, none⟩ (.int .i32 1)).setCell ⟨C, 12, none⟩ (.bool false)).alloc (.cells (prog0 f) 88)) C (chan g m1 m2 1 (.pointer (some ⟨b, 0, none⟩)) false s) 68 := (unhide HK2).alloc _
  have T4 := (unhide HT2).alloc (.cells (prog0 f) 88)
  have HK4 := hide k4
  have HT4 := hide T4
  clear k4 T4
  go_wp2
  refine leaves_cons (f := 14) (args := #[.pointer (some ⟨C, 2, none⟩)]) (by simp) (by simp [go_sem]) ?_
  refine (Locks.unlock_deferred _ .returning _ (by exact (unhide HK4).cell 2) (by exact (unhide HK4).free 2)).mono ?_
  rintro e u' w'' ⟨rfl, rfl, rfl⟩
  have k5 := (unhide HK4).setCell 2 (.int .i32 0)
  rw [chan_st] at k5
  have b5 : Blk (((w.setCell ⟨C, 2, none⟩ (.int .i32 1)).setCell ⟨C, 12, none⟩ (.bool false)).alloc (.cells (prog0 f) 88)) w.heap.size (prog0 f) 88 := newAt _ _ _ (by simp [World.setCell])
  have T5 := (unhide HT4).setCell (p := ⟨C, 2, none⟩) (unhide HK4) hB (fun h => by cases h) (by decide) (.int .i32 0)
  exact ⟨_, results_tmp rfl _ _ _, rfl, k5, b5.setCell_ne (a := ⟨C, 2, none⟩) (b5.ne (unhide HK4) (by decide)) _, ⟨T5.os, T5.tape, T5.output, T5.size, T5.block⟩⟩
end Go.Proofs.Ybulkchzq.Chan
