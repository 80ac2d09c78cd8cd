import Derived.Test.YbulkciaeSwept
namespace Go.Proofs.Ybulkciae.Ranges
open Go Go.RowKit Go.Proofs.Ybulkciae.Mem

theorem Reads.drewN {w : World} {Bs g n : Nat} {aG : Option Addr} {cG : Nat} {aW : Option Addr} {cW : Nat} {R : Nat → Nat} (r : Reads w Bs g n aG cG aW cW R) (m : Nat) : Reads (w.drewN m) Bs g n aG cG aW cW R := ⟨r.c1, r.c2, r.rg, r.rw_⟩

theorem swept_any (w : World) (Bs g n t : Nat) (aG : Option Addr) (cG : Nat) (aW : Option Addr) (cW : Nat) (R : Nat → Nat) (r : Reads w Bs g n aG cG aW cW R) (hn : n ≤ 301) (h : t < g + n) :
    Calls Yba.prog 10 #[.pointer (some ⟨Bs, 0, none⟩), .int .i64 t] w fun e w' => e = .returned (.pointer (some ⟨R t, 0, none⟩)) ∧ ∃ m, w' = w.drewN m := by
  by_cases hg : t < g
  · exact swept_g w Bs g n t aG cG aW cW R r hg
  · obtain ⟨k, rfl⟩ : ∃ k, t = g + k := ⟨t - g, by omega⟩
    have e : ((g + k : Nat) : Int) = (g : Int) + k := by omega
    rw [e]
    exact swept_w w Bs g n k aG cG aW cW R r hn (by omega)

set_option maxRecDepth 100000 in
set_option maxHeartbeats 1600000 in
theorem number_any (a0 a1 : Int) (b0 : 0 ≤ a0 ∧ a0 ≤ 65535) (b1 : 0 ≤ a1 ∧ a1 ≤ 65535) (w : World) :
    Calls Yba.prog 5 #[.int .u16 a0, .int .u16 a1] w fun e w' => e = .returned (.bool true) ∧ Below w.heap.size w w' := by
  obtain ⟨g, hg⟩ : ∃ g : Nat, a0 % 300 = g := ⟨(a0 % 300).toNat, by omega⟩
  obtain ⟨n, hn⟩ : ∃ n : Nat, a1 % 300 = n := ⟨(a1 % 300).toNat, by omega⟩
  have hg3 : g ≤ 300 := by omega
  have hn3 : n ≤ 301 := by omega
  have hns := neq_same
  obtain ⟨b0a, b0b⟩ := b0
  obtain ⟨b1a, b1b⟩ := b1
  go_enter Yba.func5, Yba.ntmps5
  go_wp2_with fail
  refine (build_any g n hg3 hn3 _).mono ?_
  rintro e w1 ⟨aG, cG, aW, cW, aA, cA, R, T, rfl, P⟩
  have HP := hide P
  clear P
  go_wp2_with fail
  go_loopw [9] (fun v wr => ∃ t : Nat, t ≤ g + n ∧ v = .int .i64 t ∧ ∃ m, wr = w1.drewN m) (fun v _ => g + n - (intOf v).toNat)
  case atStart => exact ⟨0, Nat.zero_le _, rfl, 0, rfl⟩
  case round =>
    obtain ⟨t, ht, rfl, m, rfl⟩ := hrel
    by_cases hlt : t < g + n
    · obtain ⟨bA, rfl, hA⟩ := row_at (unhide HP).th.oA t hlt
      have c7 : w1.cell? ⟨R t, 7, none⟩ = some (.int .i32 t) := ((unhide HP).L t hlt).1.cell 7
      have l1 : (t : Int) < (g : Int) + n := by omega
      go_wp2_with fail
      refine (swept_any _ w.heap.size g n t aG cG aW cW R ((unhide HP).reads.drewN m) hn3 hlt).mono ?_
      rintro e w' ⟨rfl, m', rfl⟩
      go_wp2
      go_roundw
      case rel => exact ⟨t + 1, by omega, by go_num, _, rfl⟩
      case measure => simp [intOf]; omega
    · have et : g + n = t := by omega
      have hng : ¬ ((t : Int) < (g : Int) + n) := by omega
      have c1 : w1.cell? ⟨w.heap.size, 1, none⟩ = some (.slice aG g cG) := (unhide HP).th.S.cell 1
      have c2 : w1.cell? ⟨w.heap.size, 2, none⟩ = some (.slice aW n cW) := (unhide HP).th.S.cell 2
      clear hlt et hg hn b0a b0b b1a b1b
      go_wp2
      go_loopw [11] (fun v wr => ∃ i : Nat, i ≤ g ∧ v = .int .i64 i ∧ ∃ m, wr = w1.drewN m) (fun v _ => g - (intOf v).toNat)
      case atStart => exact ⟨0, Nat.zero_le _, rfl, m, rfl⟩
      case round =>
        obtain ⟨i, hi, rfl, m2, rfl⟩ := hrel
        by_cases hlt : i < g
        · obtain ⟨bA, rfl, hA⟩ := row_at (unhide HP).th.oA i (by omega)
          obtain ⟨bG, rfl, hG⟩ := row_at (unhide HP).th.o1 i hlt
          have l1 : (i : Int) < (g : Int) := by omega
          have l2 : (i : Int) < (g : Int) + n := by omega
          go_wp2
          go_quiet (fail)
          go_wp2
          go_roundw
          case rel => exact ⟨i + 1, by omega, by go_num, _, rfl⟩
          case measure => simp [intOf]; omega
        · have hng2 : ¬ ((i : Int) < (g : Int)) := by omega
          clear hlt
          go_wp2
          go_loopw [12] (fun v wr => ∃ k : Nat, k ≤ n ∧ v = .int .i64 k ∧ ∃ m, wr = w1.drewN m) (fun v _ => n - (intOf v).toNat)
          case atStart => exact ⟨0, Nat.zero_le _, rfl, m2, rfl⟩
          case round =>
            obtain ⟨k, hk, rfl, m3, rfl⟩ := hrel
            by_cases hlt : k < n
            · obtain ⟨bA, rfl, hA⟩ := row_at (unhide HP).th.oA (g + k) (by omega)
              obtain ⟨bW, rfl, hW⟩ := row_at (unhide HP).th.o2 k hlt
              have l1 : (k : Int) < (n : Int) := by omega
              have l2 : (g : Int) + k < (g : Int) + n := by omega
              have l3 : IntKind.i64.wrap ((g : Int) + k) = (g : Int) + k := by rw [IntKind.wrap_i64]; omega
              have l4 : ¬ ((g : Int) + k < 0) := by omega
              have l5 : ((g : Int) + k).toNat = g + k := by omega
              go_wp2
              go_quiet (fail)
              go_wp2
              go_roundw
              case rel => exact ⟨k + 1, by omega, by go_num, _, rfl⟩
              case measure => simp [intOf]; omega
            · have hng3 : ¬ ((k : Int) < (n : Int)) := by omega
              clear hlt
              go_wp2
              go_ret
              exact ⟨rfl, below_drewN (unhide HP).bel _⟩
end Go.Proofs.Ybulkciae.Ranges
