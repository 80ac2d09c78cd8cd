import Derived.Test.YbulkciaeBuild
import Derived.LaidEql
import Derived.Deep.QuietTactic
import Derived.BigQuiet
namespace Go.Proofs.Ybulkciae.Ranges
open Go Go.RowKit Go.Proofs.Ybulkciae.Mem

theorem add0 (g n : Nat) : (⟨g, 0, none⟩ : Addr).add n = ⟨g, n, none⟩ := by unfold Addr.add; split <;> simp_all

/-- An element of a row of pointers. -/
theorem row_at {w : World} {B : Nat} {a : Option Addr} {n cap : Nat} {R : Nat → Nat} (o : w.ownsRow B 91 1 (.slice a n cap) n (ptrs R n)) (j : Nat) (hj : j < n) : ∃ b, a = some ⟨b, 0, none⟩ ∧ w.cell? ⟨b, j, none⟩ = some (.pointer (some ⟨R j, 0, none⟩)) := by
  rcases o.2 with ⟨h, h0⟩ | ⟨b, cap', cur, hv, _, hh, _⟩
  · omega
  · have h1 : a = some ⟨b, 0, none⟩ := by simp at hv; exact hv.1
    subst h1
    refine ⟨b, rfl, ?_⟩
    have := o.cells (g := b) rfl j (ptr (R j)) (by simp [ptrs, List.getElem?_range hj])
    rwa [add0] at this

theorem info96 : (Yba.prog.info? 96).isSome = true := by kernel_rfl
theorem neq_same (a : Addr) (w : World) : (binOp .neq 91 (.pointer (some a)) (.pointer (some a))).run Yba.prog w = .ok (.bool false) w := by
  obtain ⟨j, hj⟩ := Option.isSome_iff_exists.1 info96
  have h : ∀ d : Nat, (Op.equalIn (d + 1) 91 (.pointer (some a)) (.pointer (some a))).run Yba.prog w = .ok true w := fun d => by
    simp [Op.equalIn, run_underlying Yba.underlying91, sizeOf, typeInfo, hj, run_sameAddr_same]
  simp only [binOp]
  simp [Op.equal, Op.maxDepth, h 9999]
theorem eql_same (a : Addr) (w : World) : (binOp .eql 91 (.pointer (some a)) (.pointer (some a))).run Yba.prog w = .ok (.bool true) w := by
  obtain ⟨j, hj⟩ := Option.isSome_iff_exists.1 info96
  have h : ∀ d : Nat, (Op.equalIn (d + 1) 91 (.pointer (some a)) (.pointer (some a))).run Yba.prog w = .ok true w := fun d => by
    simp [Op.equalIn, run_underlying Yba.underlying91, sizeOf, typeInfo, hj, run_sameAddr_same]
  simp only [binOp]
  simp [Op.equal, Op.maxDepth, h 9999]

/-- What swept reads. -/
structure Reads (w : World) (Bs g n : Nat) (aG : Option Addr) (cG : Nat) (aW : Option Addr) (cW : Nat) (R : Nat → Nat) : Prop where
  c1 : w.cell? ⟨Bs, 1, none⟩ = some (.slice aG g cG)
  c2 : w.cell? ⟨Bs, 2, none⟩ = some (.slice aW n cW)
  rg : ∀ j, j < g → ∃ b, aG = some ⟨b, 0, none⟩ ∧ w.cell? ⟨b, j, none⟩ = some (.pointer (some ⟨R j, 0, none⟩))
  rw_ : ∀ j, j < n → ∃ b, aW = some ⟨b, 0, none⟩ ∧ w.cell? ⟨b, j, none⟩ = some (.pointer (some ⟨R (g + j), 0, none⟩))

theorem Bt.reads {w0 w : World} {Bs g n : Nat} {aG : Option Addr} {cG : Nat} {aW : Option Addr} {cW : Nat} {aA : Option Addr} {cA : Nat} {R T : Nat → Nat} (P : Bt w0 w Bs g g n aG cG aW cW aA cA R T) : Reads w Bs g n aG cG aW cW R :=
  ⟨P.th.S.cell 1, P.th.S.cell 2, fun j hj => row_at P.th.o1 j hj, fun j hj => row_at P.th.o2 j hj⟩

set_option maxRecDepth 100000 in
set_option maxHeartbeats 800000 in
theorem swept_g (w : World) (Bs g n at_ : Nat) (aG : Option Addr) (cG : Nat) (aW : Option Addr) (cW : Nat) (R : Nat → Nat) (r : Reads w Bs g n aG cG aW cW R) (h : at_ < g) :
    Calls Yba.prog 10 #[.pointer (some ⟨Bs, 0, none⟩), .int .i64 at_] w fun e w' => e = .returned (.pointer (some ⟨R at_, 0, none⟩)) ∧ ∃ m, w' = w.drewN m := by
  have c1 := r.c1
  obtain ⟨b, rfl, hb⟩ := r.rg at_ h
  clear r
  go_enter Yba.func10, Yba.ntmps10
  go_wp2
  go_ret
  exact ⟨rfl, 0, rfl⟩

set_option maxRecDepth 100000 in
set_option maxHeartbeats 800000 in
theorem swept_w (w : World) (Bs g n k : Nat) (aG : Option Addr) (cG : Nat) (aW : Option Addr) (cW : Nat) (R : Nat → Nat) (r : Reads w Bs g n aG cG aW cW R) (hn : n ≤ 301) (h : k < n) :
    Calls Yba.prog 10 #[.pointer (some ⟨Bs, 0, none⟩), .int .i64 ((g : Int) + k)] w fun e w' => e = .returned (.pointer (some ⟨R (g + k), 0, none⟩)) ∧ ∃ m, w' = w.drewN m := by
  have c1 := r.c1
  have c2 := r.c2
  obtain ⟨b, rfl, hb⟩ := r.rw_ k h
  clear r
  have n1 : ¬ ((g : Int) + k < g) := by omega
  have n2 : (g : Int) + k - g = k := by omega
  have n3 : (k : Int) < n := by omega
  have n4 : IntKind.i64.wrap (k : Int) = k := by rw [IntKind.wrap_i64]; omega
  have n5 : ¬ ((k : Int) < 0) := by omega
  go_enter Yba.func10, Yba.ntmps10
  go_wp2
  go_quiet (fail)
  go_wp2
  go_ret
  exact ⟨rfl, nq, rfl⟩
end Go.Proofs.Ybulkciae.Ranges
