import Derived.Test.YbulkciaeNumber
namespace Go.Proofs.Ybulkciae.Ranges
open Go Go.RowKit Go.Proofs.Ybulkciae.Mem

/-- cmp.Compare at two uint64. -/
def cmp3 (x y : Int) : Int := if x < y then -1 else if y < x then 1 else 0

set_option maxRecDepth 100000 in
set_option maxHeartbeats 800000 in
theorem isnan_any (x : Int) (w : World) : Calls Yba.prog 19 #[.int .u64 x] w fun e w' => e = .returned (.bool false) ∧ w' = w := by
  go_enter Yba.func19, Yba.ntmps19
  go_wp2
  go_ret
  exact ⟨by simp, rfl⟩

set_option maxRecDepth 100000 in
set_option maxHeartbeats 800000 in
theorem compare_any (x y : Int) (w : World) : Calls Yba.prog 16 #[.int .u64 x, .int .u64 y] w fun e w' => e = .returned (.int .i64 (cmp3 x y)) ∧ w' = w := by
  rcases (show (x < y) ∨ (y < x) ∨ (x = y) from by omega) with h | h | h
  · have e : cmp3 x y = -1 := by unfold cmp3; rw [if_pos h]
    rw [e]; clear e
    go_enter Yba.func16, Yba.ntmps16
    go_wp2_with (go_at_call 19; refine (isnan_any _ _).mono ?_; rintro e w' ⟨rfl, rfl⟩)
    go_ret
    exact ⟨rfl, rfl⟩
  · have e : cmp3 x y = 1 := by unfold cmp3; rw [if_neg (by omega), if_pos h]
    rw [e]; clear e
    have h' : ¬ x < y := by omega
    go_enter Yba.func16, Yba.ntmps16
    go_wp2_with (go_at_call 19; refine (isnan_any _ _).mono ?_; rintro e w' ⟨rfl, rfl⟩)
    go_ret
    exact ⟨rfl, rfl⟩
  · have e : cmp3 x y = 0 := by unfold cmp3; rw [if_neg (by omega), if_neg (by omega)]
    rw [e]; clear e
    have h' : ¬ x < y := by omega
    have h'' : ¬ y < x := by omega
    clear h
    go_enter Yba.func16, Yba.ntmps16
    go_wp2_with (go_at_call 19; refine (isnan_any _ _).mono ?_; rintro e w' ⟨rfl, rfl⟩)
    go_ret
    exact ⟨rfl, rfl⟩

set_option maxRecDepth 100000 in
set_option maxHeartbeats 800000 in
theorem key_any (r t : Nat) (x y : Int) (w : World) (c0 : w.cell? ⟨r, 0, none⟩ = some (.pointer (some ⟨t, 0, none⟩))) (c15 : w.cell? ⟨t, 15, none⟩ = some (.int .u64 x)) :
    Calls Yba.prog 15 #[.pointer (some ⟨r, 0, none⟩), .int .u64 y] w fun e w' => e = .returned (.int .i64 (cmp3 x y)) ∧ w' = w := by
  go_enter Yba.func15, Yba.ntmps15
  go_wp2_with (go_at_call 16; refine (compare_any _ _ _).mono ?_; rintro e w' ⟨rfl, rfl⟩)
  go_ret
  exact ⟨rfl, rfl⟩
theorem cmp3_lt {x y : Int} (h : x < y) : cmp3 x y = -1 := by unfold cmp3; rw [if_pos h]
theorem cmp3_ge {x y : Int} (h : ¬ x < y) : 0 ≤ cmp3 x y := by unfold cmp3; rw [if_neg h]; split <;> omega

set_option maxRecDepth 100000 in
set_option maxHeartbeats 1600000 in
theorem search_any (w : World) (b n c k : Nat) (r t : Nat → Nat) (hn : n ≤ 301) (hk : k < n)
    (hc : ∀ x, x < n → w.cell? ⟨b, x, none⟩ = some (.pointer (some ⟨r x, 0, none⟩)) ∧ w.cell? ⟨r x, 0, none⟩ = some (.pointer (some ⟨t x, 0, none⟩)) ∧ w.cell? ⟨t x, 15, none⟩ = some (.int .u64 ((x : Int) + 1))) :
    Calls Yba.prog 14 #[.slice (some ⟨b, 0, none⟩) n c, .int .u64 ((k : Int) + 1), .func (Fn.func 15) #[] #[]] w fun e w' => e = .returned (.tuple #[.int .i64 k, .bool true]) ∧ w' = w := by
  have HC := hide hc
  clear hc
  go_enter Yba.func14, Yba.ntmps14
  go_wp2
  go_loop [9, 10] (fun v9 v10 => ∃ i j : Nat, i ≤ k ∧ k ≤ j ∧ j ≤ n ∧ v9 = .int .i64 i ∧ v10 = .int .i64 j) (fun v9 v10 => (intOf v10).toNat - (intOf v9).toNat)
  case atStart => exact ⟨0, n, Nat.zero_le _, by omega, Nat.le_refl _, rfl, rfl⟩
  case round =>
    obtain ⟨i, j, hik, hkj, hjn, rfl, rfl⟩ := hrel
    by_cases hij : i < j
    · obtain ⟨d0, d1, d2⟩ := unhide HC ((i + j) / 2) (by omega)
      have l1 : (i : Int) < (j : Int) := by omega
      by_cases hh : (i + j) / 2 < k
      · have hcm : cmp3 (((i + j) / 2 : Nat) + 1) ((k : Int) + 1) = -1 := cmp3_lt (by omega)
        go_wp2_with fail
        refine (key_any _ _ _ _ _ d1 d2).mono ?_
        rintro e w' ⟨rfl, rfl⟩
        rw [hcm]
        clear hcm d0 d1 d2
        go_wp2
        go_round
        case rel => exact ⟨(i + j) / 2 + 1, j, by omega, hkj, hjn, by go_num, rfl⟩
        case measure => simp [intOf]; omega
      · obtain ⟨cv, hcv⟩ : ∃ cv, cv = cmp3 (((i + j) / 2 : Nat) + 1) ((k : Int) + 1) := ⟨_, rfl⟩
        have hc0 : ¬ cv < 0 := by have := cmp3_ge (x := ((i + j) / 2 : Nat) + 1) (y := (k : Int) + 1) (by omega); omega
        go_wp2_with fail
        refine (key_any _ _ _ _ _ d1 d2).mono ?_
        rintro e w' ⟨rfl, rfl⟩
        rw [← hcv]
        clear hcv d0 d1 d2
        go_wp2
        go_round
        case rel => exact ⟨i, (i + j) / 2, hik, by omega, by omega, rfl, by go_num⟩
        case measure => simp [intOf]; omega
    · have e1 : k = i := by omega
      have e2 : k = j := by omega
      subst e1
      subst e2
      obtain ⟨d0, d1, d2⟩ := unhide HC k (by omega)
      have l1 : (k : Int) < (n : Int) := by omega
      clear hij
      go_wp2_with fail
      refine (key_any _ _ _ _ _ d1 d2).mono ?_
      rintro e w' ⟨rfl, rfl⟩
      have hcm : cmp3 ((k : Int) + 1) ((k : Int) + 1) = 0 := by unfold cmp3; rw [if_neg (by omega), if_neg (by omega)]
      rw [hcm]
      clear hcm
      go_wp2
      go_ret2
      exact ⟨rfl, rfl⟩
set_option maxRecDepth 100000 in
set_option maxHeartbeats 1600000 in
theorem queued_any (w : World) (Bs b n c k : Nat) (r t : Nat → Nat) (hn : n ≤ 301) (hk : k < n) (c2 : w.cell? ⟨Bs, 2, none⟩ = some (.slice (some ⟨b, 0, none⟩) n c))
    (hc : ∀ x, x < n → w.cell? ⟨b, x, none⟩ = some (.pointer (some ⟨r x, 0, none⟩)) ∧ w.cell? ⟨r x, 0, none⟩ = some (.pointer (some ⟨t x, 0, none⟩)) ∧ w.cell? ⟨t x, 15, none⟩ = some (.int .u64 ((x : Int) + 1))) :
    Calls Yba.prog 11 #[.pointer (some ⟨Bs, 0, none⟩), .pointer (some ⟨r k, 0, none⟩)] w fun e w' => e = .returned (.int .i64 k) ∧ ∃ m, w' = w.drewN m := by
  obtain ⟨_, d1, d2⟩ := hc k hk
  have HC := hide hc
  clear hc
  go_enter Yba.func11, Yba.ntmps11
  go_wp2
  go_quiet ((go_at_call 14; exact Calls.quiet_of_same (search_any _ b n c k r t hn hk (unhide HC))))
  go_wp2
  go_ret
  exact ⟨rfl, nq, rfl⟩

/-- The queue, as the search reads it. -/
theorem Bt.waits {w0 w : World} {Bs g n : Nat} {aG : Option Addr} {cG : Nat} {aW : Option Addr} {cW : Nat} {aA : Option Addr} {cA : Nat} {R T : Nat → Nat} (P : Bt w0 w Bs g g n aG cG aW cW aA cA R T) (k : Nat) (hk : k < n) :
    ∃ b, aW = some ⟨b, 0, none⟩ ∧ ∀ x, x < n → w.cell? ⟨b, x, none⟩ = some (.pointer (some ⟨R (g + x), 0, none⟩)) ∧ w.cell? ⟨R (g + x), 0, none⟩ = some (.pointer (some ⟨T (g + x), 0, none⟩)) ∧ w.cell? ⟨T (g + x), 15, none⟩ = some (.int .u64 ((x : Int) + 1)) := by
  obtain ⟨b, rfl, _⟩ := row_at P.th.o2 k hk
  refine ⟨b, rfl, fun x hx => ?_⟩
  obtain ⟨b', hb', h1⟩ := row_at P.th.o2 x hx
  have e : b' = b := by simp at hb'; exact hb'.symm
  subst e
  obtain ⟨l1, l2⟩ := P.L (g + x) (by omega)
  have h3 : w.cell? ⟨T (g + x), 15, none⟩ = some (.int .u64 (arr g (g + x))) := l2.cell 15
  rw [show arr g (g + x) = (x : Int) + 1 from by unfold arr; rw [if_neg (by omega)]; omega] at h3
  exact ⟨h1, l1.cell 0, h3⟩

set_option maxRecDepth 100000 in
set_option maxHeartbeats 1600000 in
theorem place_any (a0 a1 a2 : Int) (b0 : 0 ≤ a0 ∧ a0 ≤ 65535) (b1 : 0 ≤ a1 ∧ a1 ≤ 65535) (b2 : 0 ≤ a2 ∧ a2 ≤ 65535) (w : World) :
    Calls Yba.prog 6 #[.int .u16 a0, .int .u16 a1, .int .u16 a2] w fun e w' => e = .returned (.bool true) ∧ Below w.heap.size w w' := by
  obtain ⟨g, hg⟩ : ∃ g : Nat, a0 % 300 = g := ⟨(a0 % 300).toNat, by omega⟩
  obtain ⟨n, hn⟩ : ∃ n : Nat, a1 % 300 + 1 = n := ⟨(a1 % 300).toNat + 1, by omega⟩
  have hn0 : 0 < n := by omega
  obtain ⟨k, hk⟩ : ∃ k : Nat, a2 % (n : Int) = k := ⟨(a2 % (n : Int)).toNat, by have := Int.emod_nonneg a2 (show (n : Int) ≠ 0 by omega); omega⟩
  have hkn : k < n := by have := Int.emod_lt_of_pos a2 (show 0 < (n : Int) by omega); omega
  have hg3 : g ≤ 300 := by omega
  have hn3 : n ≤ 301 := by omega
  have hes := eql_same
  obtain ⟨b0a, b0b⟩ := b0
  obtain ⟨b1a, b1b⟩ := b1
  obtain ⟨b2a, b2b⟩ := b2
  go_enter Yba.func6, Yba.ntmps6
  go_wp2_with fail
  refine (build_any g n hg3 hn3 _).mono ?_
  rintro e w1 ⟨aG, cG, aW, cW, aA, cA, R, T, rfl, P⟩
  have HP := hide P
  clear P
  obtain ⟨b, hb, hcs⟩ := (unhide HP).waits k hkn
  subst hb
  have c6 : w1.cell? ⟨R (g + k), 6, none⟩ = some (.bool false) := by have := ((unhide HP).L (g + k) (by omega)).1.cell 6; rw [show kp g (g + k) = false from decide_eq_false (by omega)] at this; exact this
  have c2 : w1.cell? ⟨R (g + k), 2, none⟩ = some (.int .u8 6) := by have := ((unhide HP).L (g + k) (by omega)).1.cell 2; rw [show md g (g + k) = 6 from by unfold md; rw [if_neg (by omega)]] at this; exact this
  have s2 : w1.cell? ⟨w.heap.size, 2, none⟩ = some (.slice (some ⟨b, 0, none⟩) n cW) := (unhide HP).th.S.cell 2
  have dk := (hcs k hkn).1
  have HC := hide hcs
  have n1 : (g : Int) + k - g = k := by omega
  have n2 : (k : Int) < n := by omega
  clear hcs
  go_wp2_with fail
  clear hg hn hk b0a b0b b1a b1b b2a b2b
  refine (swept_w _ w.heap.size g n k aG cG _ cW R (unhide HP).reads hn3 hkn).mono ?_
  rintro e w' ⟨rfl, m, rfl⟩
  go_wp2_with fail
  refine (queued_any _ w.heap.size b n cW k (fun x => R (g + x)) (fun x => T (g + x)) hn3 hkn (by exact s2) (by exact unhide HC)).mono ?_
  rintro e w' ⟨rfl, m', rfl⟩
  go_wp2
  go_ret
  exact ⟨rfl, below_drewN (unhide HP).bel _⟩
end Go.Proofs.Ybulkciae.Ranges
