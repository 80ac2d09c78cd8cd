import Derived.Test.YbulkchzcTable
namespace Go.Proofs.Ybulkchzc.Table
open Go.RowKit

theorem grown_trans {a b c : World} (h : Grown a b) (k : Grown b c) : Grown a c :=
  ⟨World.keptBut_trans h.1 ⟨k.1.1, k.1.2.1, k.1.2.2⟩, fun x => (k.2.1 x).trans (h.2.1 x), Nat.le_trans h.2.2 k.2.2⟩

theorem ok012 {n : Int} (h : n = 0 ∨ n = 1 ∨ n = 2) : ((n == 0) || (n == 1) || (n == 2)) = true := by
  rcases h with h | h | h <;> subst h <;> rfl

set_option maxHeartbeats 400000 in
theorem law_short (a0 : Int) (a1 : Int) (a2 : ByteArray) (h : 4096 < (a2.size : Int)) (w : World) :
    Calls Yba.prog 3 #[.int .u8 a0, .int .u8 a1, .string a2] w fun e w' => e = .returned (.bool true) ∧ Grown w w' := by
  go_enter Yba.func3, Yba.ntmps3
  go_wp2
  go_ret
  exact ⟨rfl, Grown.refl _⟩

theorem ret_bool {b : Bool} (h : b = true) : Ending.returned (.bool b) = .returned (.bool true) := by rw [h]

set_option maxHeartbeats 1000000 in
theorem law_k0 (a0 : Int) (a1 : Int) (a2 : ByteArray) (_h : (a2.size : Int) ≤ 4096) (_b0 : 0 ≤ a0 ∧ a0 ≤ 255) (_b1 : 0 ≤ a1 ∧ a1 ≤ 255) (w : World) (hk : a1 % 5 = 0) :
    Calls Yba.prog 3 #[.int .u8 a0, .int .u8 a1, .string a2] w fun e w' => e = .returned (.bool true) ∧ Grown w w' := by
  go_enter Yba.func3, Yba.ntmps3
  go_wp2_with (go_at_call 4; go_in)
  all_goals
    refine (pass_any _ _).mono ?_
    rintro e w' ⟨rfl, rfl⟩
    go_wp2_with fail
    refine (want_any _ _).mono ?_
    rintro e w'' ⟨rfl, hg⟩
    have ht := fun l => Table.tab_cases l
    go_wp2
    all_goals
      go_ret
      exact ⟨by first | rfl | exact ret_bool (ok012 (ht _)), grown_trans ((Grown.refl _).alloc _ _) hg⟩

set_option maxHeartbeats 1000000 in
theorem law_k1 (a0 : Int) (a1 : Int) (a2 : ByteArray) (_h : (a2.size : Int) ≤ 4096) (_b0 : 0 ≤ a0 ∧ a0 ≤ 255) (_b1 : 0 ≤ a1 ∧ a1 ≤ 255) (w : World) (hk : a1 % 5 = 1) :
    Calls Yba.prog 3 #[.int .u8 a0, .int .u8 a1, .string a2] w fun e w' => e = .returned (.bool true) ∧ Grown w w' := by
  go_enter Yba.func3, Yba.ntmps3
  go_wp2_with (go_at_call 4; go_in)
  all_goals
    refine (pass_any _ _).mono ?_
    rintro e w' ⟨rfl, rfl⟩
    go_wp2_with fail
    refine (want_any _ _).mono ?_
    rintro e w'' ⟨rfl, hg⟩
    have ht := fun l => Table.tab_cases l
    go_wp2
    all_goals
      go_ret
      exact ⟨by first | rfl | exact ret_bool (ok012 (ht _)), grown_trans ((Grown.refl _).alloc _ _) hg⟩

set_option maxHeartbeats 1000000 in
theorem law_k2 (a0 : Int) (a1 : Int) (a2 : ByteArray) (_h : (a2.size : Int) ≤ 4096) (_b0 : 0 ≤ a0 ∧ a0 ≤ 255) (_b1 : 0 ≤ a1 ∧ a1 ≤ 255) (w : World) (hk : a1 % 5 = 2) :
    Calls Yba.prog 3 #[.int .u8 a0, .int .u8 a1, .string a2] w fun e w' => e = .returned (.bool true) ∧ Grown w w' := by
  go_enter Yba.func3, Yba.ntmps3
  go_wp2_with (go_at_call 4; go_in)
  all_goals
    refine (pass_any _ _).mono ?_
    rintro e w' ⟨rfl, rfl⟩
    go_wp2_with fail
    refine (want_any _ _).mono ?_
    rintro e w'' ⟨rfl, hg⟩
    have ht := fun l => Table.tab_cases l
    go_wp2
    all_goals
      go_ret
      exact ⟨by first | rfl | exact ret_bool (ok012 (ht _)), grown_trans ((Grown.refl _).alloc _ _) hg⟩

set_option maxHeartbeats 1000000 in
theorem law_k3 (a0 : Int) (a1 : Int) (a2 : ByteArray) (_h : (a2.size : Int) ≤ 4096) (_b0 : 0 ≤ a0 ∧ a0 ≤ 255) (_b1 : 0 ≤ a1 ∧ a1 ≤ 255) (w : World) (hk : a1 % 5 = 3) :
    Calls Yba.prog 3 #[.int .u8 a0, .int .u8 a1, .string a2] w fun e w' => e = .returned (.bool true) ∧ Grown w w' := by
  go_enter Yba.func3, Yba.ntmps3
  go_wp2_with (go_at_call 4; go_in)
  all_goals
    refine (pass_any _ _).mono ?_
    rintro e w' ⟨rfl, rfl⟩
    go_wp2_with fail
    refine (want_any _ _).mono ?_
    rintro e w'' ⟨rfl, hg⟩
    have ht := fun l => Table.tab_cases l
    go_wp2
    all_goals
      go_ret
      exact ⟨by first | rfl | exact ret_bool (ok012 (ht _)), grown_trans ((Grown.refl _).alloc _ _) hg⟩

set_option maxHeartbeats 1000000 in
theorem law_k4 (a0 : Int) (a1 : Int) (a2 : ByteArray) (_h : (a2.size : Int) ≤ 4096) (_b0 : 0 ≤ a0 ∧ a0 ≤ 255) (_b1 : 0 ≤ a1 ∧ a1 ≤ 255) (w : World) (hk : a1 % 5 = 4) :
    Calls Yba.prog 3 #[.int .u8 a0, .int .u8 a1, .string a2] w fun e w' => e = .returned (.bool true) ∧ Grown w w' := by
  go_enter Yba.func3, Yba.ntmps3
  go_wp2_with (go_at_call 4; go_in)
  all_goals
    refine (pass_any _ _).mono ?_
    rintro e w' ⟨rfl, rfl⟩
    go_wp2_with fail
    refine (want_any _ _).mono ?_
    rintro e w'' ⟨rfl, hg⟩
    have ht := fun l => Table.tab_cases l
    go_wp2
    all_goals
      go_ret
      exact ⟨by first | rfl | exact ret_bool (ok012 (ht _)), grown_trans ((Grown.refl _).alloc _ _) hg⟩

theorem law_any (a0 : Int) (a1 : Int) (a2 : ByteArray) (b0 : 0 ≤ a0 ∧ a0 ≤ 255) (b1 : 0 ≤ a1 ∧ a1 ≤ 255) (w : World) :
    Calls Yba.prog 3 #[.int .u8 a0, .int .u8 a1, .string a2] w fun e w' => e = .returned (.bool true) ∧ Grown w w' := by
  by_cases h : 4096 < (a2.size : Int)
  · exact law_short a0 a1 a2 h w
  have h' : (a2.size : Int) ≤ 4096 := by omega
  rcases (show a1 % 5 = 0 ∨ a1 % 5 = 1 ∨ a1 % 5 = 2 ∨ a1 % 5 = 3 ∨ a1 % 5 = 4 from by omega) with k | k | k | k | k
  · exact law_k0 a0 a1 a2 h' b0 b1 w k
  · exact law_k1 a0 a1 a2 h' b0 b1 w k
  · exact law_k2 a0 a1 a2 h' b0 b1 w k
  · exact law_k3 a0 a1 a2 h' b0 b1 w k
  · exact law_k4 a0 a1 a2 h' b0 b1 w k

end Go.Proofs.Ybulkchzc.Table
