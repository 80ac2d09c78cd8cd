/- The numbers under which this dump holds sync.Mutex's functions and types (Derived/Conc/MuLib.lean), typed after the kit's StatsLocks.lean; and TryLock's contract. -/
import Derived.Test.YbulkchzqMem
import Derived.Conc.MuLone
import Derived.KernelRfl
namespace Go.Proofs.Ybulkchzq.Locks
open Go Go.RowKit
abbrev muLink : Go.Conc.Locks.MuLink := { lock := 19, unlock := 14, ilock := 24, iunlock := 21, lockSlow := 32, unlockSlow := 31, disable := 25, enable := 26, acquire := 28, relMerge := 29, cas32 := 27, add32 := 30, tMutex := 58, tIMutex := 56, tPMutex := 89, tPIMutex := 99, tPI32 := 101, tUP := 103, tNoCopy := 54, tU32 := 37 }
theorem muLib : Go.Conc.Locks.MuLib Yba.prog muLink :=
  ⟨Yba.func19, Yba.func14, Yba.func24, Yba.func21, Yba.func25, Yba.func26, Yba.func28, Yba.func29, Yba.func27, Yba.func30, Yba.underlying56, Yba.runUnderlying56, Yba.sizeOf56, Yba.isAgg56, Yba.zeroValue56, Yba.underlying58, Yba.runUnderlying58, Yba.sizeOf58, Yba.isAgg58, Yba.zeroValue58, Yba.underlying89, Yba.runUnderlying89, Yba.sizeOf89, Yba.isAgg89, Yba.zeroValue89, Yba.underlying99, Yba.runUnderlying99, Yba.sizeOf99, Yba.isAgg99, Yba.zeroValue99, Yba.underlying101, Yba.runUnderlying101, Yba.sizeOf101, Yba.isAgg101, Yba.zeroValue101, Yba.underlying103, Yba.runUnderlying103, Yba.sizeOf103, Yba.isAgg103, Yba.zeroValue103, Yba.underlying54, Yba.runUnderlying54, Yba.sizeOf54, Yba.isAgg54, Yba.zeroValue54, Yba.underlying21, Yba.runUnderlying21, Yba.sizeOf21, Yba.isAgg21, Yba.zeroValue21, (by kernel_rfl)⟩

theorem disable (w : World) : (callFunc 25 #[]).run Yba.prog w = .ok (.value (.tuple #[])) w := MuLone.disable muLib w
theorem enable (w : World) : (callFunc 26 #[]).run Yba.prog w = .ok (.value (.tuple #[])) w := MuLone.enable muLib w
theorem acquire (a : Addr) (w : World) : (callFunc 28 #[.pointer (some a)]).run Yba.prog w = .ok (.value (.tuple #[])) w := MuLone.acquire muLib a w

theorem lock_free (a : Addr) (w : World) (hc : w.cell? a = some (.int .i32 0)) (hz : w.frozen? a = false) :
    Calls Yba.prog 19 #[.pointer (some a)] w fun e w' => e = .returned (.tuple #[]) ∧ w' = w.setCell a (.int .i32 1) := MuLone.lock_free muLib a w hc hz
theorem unlock_held (a : Addr) (w : World) (hc : w.cell? a = some (.int .i32 1)) (hz : w.frozen? a = false) :
    Calls Yba.prog 14 #[.pointer (some a)] w fun e w' => e = .returned (.tuple #[]) ∧ w' = w.setCell a (.int .i32 0) := MuLone.unlock_held muLib a w hc hz
theorem unlock_deferred (a : Addr) (u : FrameMode) (w : World) (hc : w.cell? a = some (.int .i32 1)) (hz : w.frozen? a = false) :
    CallsD Yba.prog 14 #[.pointer (some a)] u w fun e u' w' => u' = u ∧ (e = .returned (.tuple #[]) ∧ w' = w.setCell a (.int .i32 0)) := MuLone.unlock_deferred muLib a u w hc hz

set_option maxRecDepth 100000 in
set_option maxHeartbeats 800000 in
theorem itry_free (a : Addr) (w : World) (hc : w.cell? a = some (.int .i32 0)) (hz : w.frozen? a = false) :
    Calls Yba.prog 20 #[.pointer (some a)] w fun e w' => e = .returned (.bool true) ∧ w' = w.setCell a (.int .i32 1) := by
  have hd := disable
  have he := enable
  have ha := acquire
  have hcas := run_call_cas_hit (P := Yba.prog) muLib.f_cas32 (by kernel_rfl) (by kernel_rfl) (by kernel_rfl) .i32 (by kernel_rfl) (y := 1) hc hz
  have hc' : (w.setCell a (.int .i32 1)).cell? a = some (.int .i32 1) := by simp [go_sem, hc]
  have hcv := run_convert_to_unsafe (P := Yba.prog) (src := 99) (dst := 103) muLib.underlying_tPIMutex muLib.underlying_tUP muLib.room_tIMutex hc'
  go_enter Yba.func20, Yba.ntmps20
  go_wp2
  go_ret
  exact ⟨rfl, rfl⟩

set_option maxRecDepth 100000 in
set_option maxHeartbeats 800000 in
theorem try_free (a : Addr) (w : World) (hc : w.cell? a = some (.int .i32 0)) (hz : w.frozen? a = false) :
    Calls Yba.prog 13 #[.pointer (some a)] w fun e w' => e = .returned (.bool true) ∧ w' = w.setCell a (.int .i32 1) := by
  go_enter Yba.func13, Yba.ntmps13
  go_wp2_with fail
  refine (itry_free a _ hc hz).mono ?_
  rintro e w' ⟨rfl, rfl⟩
  go_wp2
  go_ret
  exact ⟨rfl, rfl⟩

end Go.Proofs.Ybulkchzq.Locks
