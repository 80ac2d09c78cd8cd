/- LawS4203AForgetAll: the walk. -/
import Derived.Test.YbulkciaeForgetBuild
namespace Go.Proofs.Ybulkciae.Forget
open Go Go.RowKit Go.Proofs.Ybulkciae.Mem

/-- After k rounds: l is what is left, and it has all that the rounds to come forget. -/
structure At (b : Nat) (w0 w : World) (n off k : Nat) (l : List Nat) (rv : Option Nat) : Prop where
  fs : Fs b w0 w n n l l rv (left l rv)
  len : l.length = n - k
  todo : ∀ j, k ≤ j → j < n → (off + j) % n ∈ l
theorem At.start {b : Nat} {w0 w : World} {n off : Nat} {rv : Option Nat} {sp : Bool} (h : Fs b w0 w n n (List.range n) (List.range n) rv sp) (hs : sp = left (List.range n) rv) : At b w0 w n off 0 (List.range n) rv :=
  ⟨hs ▸ h, by simp, fun j _ hj => by simp only [List.mem_range]; exact Nat.mod_lt _ (by omega)⟩
theorem At.next {b : Nat} {w0 w w' : World} {n off k : Nat} {l : List Nat} {rv : Option Nat} (h : At b w0 w n off k l rv) (hk : k < n) (h' : Fs b w0 w' n n (l.erase ((off + k) % n)) (l.erase ((off + k) % n)) rv (left (l.erase ((off + k) % n)) rv)) : At b w0 w' n off (k + 1) (l.erase ((off + k) % n)) rv := by
  refine ⟨h', ?_, fun j hj hjn => ?_⟩
  · rw [List.length_erase_of_mem (h.todo k (Nat.le_refl _) hk), h.len]; omega
  · have ne : (off + j) % n ≠ (off + k) % n := by
      intro e
      have e2 := (Nat.sub_mod_eq_zero_of_mod_eq e)
      have e3 : off + j - (off + k) = j - k := by omega
      rw [e3, Nat.mod_eq_of_lt (by omega)] at e2
      omega
    exact (List.mem_erase_of_ne ne).2 (h.todo j (by omega) hjn)

theorem At.facts {b : Nat} {w0 w : World} {n off k : Nat} {l : List Nat} {rv : Option Nat} (h : At b w0 w n off k l rv) (i : Nat) (hi : i < n) :
    w.cell? ⟨b + 2, i, none⟩ = some (.pointer (some ⟨eAt b i, 0, none⟩)) ∧ w.cell? ⟨eAt b i, 2, none⟩ = some (.pointer (some ⟨cAt b i, 0, none⟩)) ∧ w.cell? ⟨cAt b i, 30, none⟩ = some (.bool (decide (i ∈ l))) ∧
    w.cell? ⟨b + 1, 26, none⟩ = some (.map (some b)) ∧ w.cell? ⟨b + 1, 27, none⟩ = some (rootV rv) ∧ w.cell? ⟨b + 1, 28, none⟩ = some (.bool (left l rv)) ∧ (Builtin.len_ #[56] 3 #[.map (some b)]).run Yba.prog w = .ok (.int .i64 (l.length : Int)) w :=
  ⟨h.fs.es.cell hi, (h.fs.ent i hi).cell 2, (h.fs.con i hi).cell 30, h.fs.mgr.cell 26, h.fs.mgr.cell 27, h.fs.mgr.cell 28, run_len h.fs.map⟩

set_option maxRecDepth 100000 in
set_option maxHeartbeats 1600000 in
theorem all_none_pos (n : Nat) (a3 : Int) (hn : n ≤ 255) (b3 : 0 ≤ a3 ∧ a3 ≤ 65535) (h0 : 0 < n) (f : Bool) (w : World) :
    Calls Yba.prog 4 #[.int .u8 n, .bool false, .bool f, .int .u16 a3] w fun e w' => e = .returned (.bool true) ∧ Below w.heap.size w w' := by
  obtain ⟨b3a, b3b⟩ := b3
  obtain ⟨off, ho⟩ : ∃ off : Nat, a3 % (n : Int) = off := ⟨(a3 % (n : Int)).toNat, by have := Int.emod_nonneg a3 (b := (n : Int)) (by omega); omega⟩
  have hoff : off < n := by have := Int.emod_lt_of_pos a3 (b := (n : Int)) (by omega); omega
  have hn1 : ((n : Int) == 0) = false := by simp; omega
  go_enter Yba.func4, Yba.ntmps4
  go_wp2_with fail
  refine (build_any n false hn _).mono ?_
  rintro e w1 ⟨rfl, P⟩
  have HA := hide (At.start (off := off) P (by simp [left, rootOf]))
  clear P
  unfold ptr
  go_wp2
  go_loopw [13, 16] (fun v13 v16 wr => ∃ k : Nat, k ≤ n ∧ v13 = .int .i64 ((n : Int) - k) ∧ v16 = .int .i64 k ∧ ∃ l, At w.heap.size w wr n off k l none) (fun _ v _ => n - (intOf v).toNat)
  case atStart => exact ⟨0, Nat.zero_le _, by simp, rfl, _, unhide HA⟩
  case round =>
    clear HA
    obtain ⟨k, hkn, rfl, rfl, l, P⟩ := hrel
    by_cases hlt : k < n
    · obtain ⟨i, hi⟩ : ∃ i : Nat, (off + k) % n = i := ⟨_, rfl⟩
      have hin : i < n := by rw [← hi]; exact Nat.mod_lt _ (by omega)
      have hiI : ((off : Int) + k) % (n : Int) = i := by rw [← hi]; simp
      have hmem : i ∈ l := hi ▸ P.todo k (Nat.le_refl _) hlt
      have cs : wr.cell? ⟨w.heap.size + 3, i, none⟩ = some (.pointer (some ⟨sAt w.heap.size i, 0, none⟩)) := P.fs.ss.cell hin
      have hn1 : ((n : Int) == 0) = false := by simp; omega
      have HP := hide P
      have HM := hide hmem
      have HI := hide hi
      clear P hmem hi
      go_wp2_with fail
      refine (forget_ent (unhide HP).fs (unhide HM)).mono ?_
      rintro e w2 ⟨rfl, F2⟩
      have P2 : At w.heap.size w w2 n off (k + 1) (l.erase i) none := by
        have := unhide HI
        subst this
        exact (unhide HP).next hlt F2
      obtain ⟨d1, d2, d3, d4, d5, d6, d7⟩ := P2.facts i hin
      have e3 : decide (i ∈ l.erase i) = false := by simp [(unhide HP).fs.nl.mem_erase_iff]
      rw [e3] at d3
      have e7 : ((l.erase i).length : Int) = (n : Int) - k - 1 := by rw [P2.len]; omega
      rw [e7] at d7
      have e6 : left (l.erase i) none = (decide (k + 1 < n) || false) := by
        have : decide (0 < (l.erase i).length) = decide (k + 1 < n) := by rw [P2.len]; apply decide_eq_decide.2; omega
        simp only [left, this]; simp
      rw [e6] at d6
      have HP2 := hide P2
      clear P2 F2 HP HM HI e3 e7 e6 cs hkn ho hn1
      by_cases hz : k + 1 < n
      · rw [decide_eq_true hz] at d6
        simp only [Bool.true_or] at d6
        have z1 : (0 : Int) < (n : Int) - k - 1 := by omega
        go_wp2
        go_roundw
        case rel => exact ⟨k + 1, by omega, by simp; omega, by go_num, _, unhide HP2⟩
        case measure => simp [intOf]; omega
      · rw [decide_eq_false hz] at d6
        simp only [Bool.false_or] at d6
        have z1 : ¬ (0 : Int) < (n : Int) - k - 1 := by omega
        go_wp2
        go_roundw
        case rel => exact ⟨k + 1, by omega, by simp; omega, by go_num, _, unhide HP2⟩
        case measure => simp [intOf]; omega
    · have e : n = k := by omega
      subst e
      have hl : l.length = 0 := by have := P.len; omega
      have d4 : wr.cell? ⟨w.heap.size + 1, 26, none⟩ = some (.map (some w.heap.size)) := P.fs.mgr.cell 26
      have d5 : wr.cell? ⟨w.heap.size + 1, 27, none⟩ = some (.pointer none) := P.fs.mgr.cell 27
      have d6 : wr.cell? ⟨w.heap.size + 1, 28, none⟩ = some (.bool (left l none)) := P.fs.mgr.cell 28
      have d7 := run_len P.fs.map
      have e6 : left l none = false := by simp [left, hl]
      rw [e6] at d6
      rw [hl] at d7
      have HB := hide P.fs.below
      clear P e6 hl
      go_wp2
      go_ret
      exact ⟨rfl, unhide HB⟩

set_option maxRecDepth 100000 in
set_option maxHeartbeats 1600000 in
theorem all_none_zero (a3 : Int) (b3 : 0 ≤ a3 ∧ a3 ≤ 65535) (f : Bool) (w : World) :
    Calls Yba.prog 4 #[.int .u8 0, .bool false, .bool f, .int .u16 a3] w fun e w' => e = .returned (.bool true) ∧ Below w.heap.size w w' := by
  obtain ⟨b3a, b3b⟩ := b3
  go_enter Yba.func4, Yba.ntmps4
  go_wp2_with fail
  refine (build_any 0 false (by omega) _).mono ?_
  rintro e w1 ⟨rfl, P⟩
  have HA := hide (At.start (off := 0) P (by simp [left, rootOf]))
  clear P
  unfold ptr
  go_wp2
  go_loopw [16] (fun v16 wr => v16 = .int .i64 0 ∧ ∃ l, At w.heap.size w wr 0 0 0 l none) (fun _ _ => 0)
  case atStart => exact ⟨rfl, _, unhide HA⟩
  case round =>
    clear HA
    obtain ⟨rfl, l, P⟩ := hrel
    · have hl : l.length = 0 := by have := P.len; omega
      have d4 : wr.cell? ⟨w.heap.size + 1, 26, none⟩ = some (.map (some w.heap.size)) := P.fs.mgr.cell 26
      have d5 : wr.cell? ⟨w.heap.size + 1, 27, none⟩ = some (.pointer none) := P.fs.mgr.cell 27
      have d6 : wr.cell? ⟨w.heap.size + 1, 28, none⟩ = some (.bool (left l none)) := P.fs.mgr.cell 28
      have d7 := run_len P.fs.map
      have e6 : left l none = false := by simp [left, hl]
      rw [e6] at d6
      rw [hl] at d7
      have HB := hide P.fs.below
      clear P e6 hl
      go_wp2
      go_ret
      exact ⟨rfl, unhide HB⟩

set_option maxRecDepth 100000 in
set_option maxHeartbeats 1600000 in
theorem all_first_pos (n : Nat) (a3 : Int) (hn : n ≤ 255) (b3 : 0 ≤ a3 ∧ a3 ≤ 65535) (h0 : 0 < n) (w : World) :
    Calls Yba.prog 4 #[.int .u8 n, .bool true, .bool true, .int .u16 a3] w fun e w' => e = .returned (.bool true) ∧ Below w.heap.size w w' := by
  obtain ⟨b3a, b3b⟩ := b3
  obtain ⟨off, ho⟩ : ∃ off : Nat, a3 % (n : Int) = off := ⟨(a3 % (n : Int)).toNat, by have := Int.emod_nonneg a3 (b := (n : Int)) (by omega); omega⟩
  have hoff : off < n := by have := Int.emod_lt_of_pos a3 (b := (n : Int)) (by omega); omega
  have hn1 : ((n : Int) == 0) = false := by simp; omega
  go_enter Yba.func4, Yba.ntmps4
  go_wp2_with fail
  refine (build_any n true hn _).mono ?_
  rintro e w1 ⟨rfl, P⟩
  have c27 : w1.cell? ⟨w.heap.size + 1, 27, none⟩ = some (.pointer (some ⟨w.heap.size + 4 + 3 * n, 0, none⟩)) := P.mgr.cell 27
  have HP := hide P
  clear P
  unfold ptr
  go_wp2_with fail
  refine (forget_root (r := w.heap.size + 4 + 3 * n) (unhide HP)).mono ?_
  rintro e w2 ⟨rfl, F2⟩
  have d5 : w2.cell? ⟨w.heap.size + 1, 27, none⟩ = some (.pointer none) := F2.mgr.cell 27
  have d6 : w2.cell? ⟨w.heap.size + 1, 28, none⟩ = some (.bool (left (List.range n) none)) := F2.mgr.cell 28
  have e6 : left (List.range n) none = true := by simp [left]; try omega
  rw [e6] at d6
  have HA := hide (At.start (off := off) F2 rfl)
  clear F2 HP c27 e6
  go_wp2
  go_loopw [13, 16] (fun v13 v16 wr => ∃ k : Nat, k ≤ n ∧ v13 = .int .i64 ((n : Int) - k) ∧ v16 = .int .i64 k ∧ ∃ l, At w.heap.size w wr n off k l none) (fun _ v _ => n - (intOf v).toNat)
  case atStart => exact ⟨0, Nat.zero_le _, by simp, rfl, _, unhide HA⟩
  case round =>
    clear HA
    obtain ⟨k, hkn, rfl, rfl, l, P⟩ := hrel
    by_cases hlt : k < n
    · obtain ⟨i, hi⟩ : ∃ i : Nat, (off + k) % n = i := ⟨_, rfl⟩
      have hin : i < n := by rw [← hi]; exact Nat.mod_lt _ (by omega)
      have hiI : ((off : Int) + k) % (n : Int) = i := by rw [← hi]; simp
      have hmem : i ∈ l := hi ▸ P.todo k (Nat.le_refl _) hlt
      have cs : wr.cell? ⟨w.heap.size + 3, i, none⟩ = some (.pointer (some ⟨sAt w.heap.size i, 0, none⟩)) := P.fs.ss.cell hin
      have hn1 : ((n : Int) == 0) = false := by simp; omega
      have HP := hide P
      have HM := hide hmem
      have HI := hide hi
      clear P hmem hi
      go_wp2_with fail
      refine (forget_ent (unhide HP).fs (unhide HM)).mono ?_
      rintro e w2 ⟨rfl, F2⟩
      have P2 : At w.heap.size w w2 n off (k + 1) (l.erase i) none := by
        have := unhide HI
        subst this
        exact (unhide HP).next hlt F2
      obtain ⟨d1, d2, d3, d4, d5, d6, d7⟩ := P2.facts i hin
      have e3 : decide (i ∈ l.erase i) = false := by simp [(unhide HP).fs.nl.mem_erase_iff]
      rw [e3] at d3
      have e7 : ((l.erase i).length : Int) = (n : Int) - k - 1 := by rw [P2.len]; omega
      rw [e7] at d7
      have e6 : left (l.erase i) none = (decide (k + 1 < n) || false) := by
        have : decide (0 < (l.erase i).length) = decide (k + 1 < n) := by rw [P2.len]; apply decide_eq_decide.2; omega
        simp only [left, this]; simp
      rw [e6] at d6
      have HP2 := hide P2
      clear P2 F2 HP HM HI e3 e7 e6 cs hkn ho hn1
      by_cases hz : k + 1 < n
      · rw [decide_eq_true hz] at d6
        simp only [Bool.true_or] at d6
        have z1 : (0 : Int) < (n : Int) - k - 1 := by omega
        go_wp2
        go_roundw
        case rel => exact ⟨k + 1, by omega, by simp; omega, by go_num, _, unhide HP2⟩
        case measure => simp [intOf]; omega
      · rw [decide_eq_false hz] at d6
        simp only [Bool.false_or] at d6
        have z1 : ¬ (0 : Int) < (n : Int) - k - 1 := by omega
        go_wp2
        go_roundw
        case rel => exact ⟨k + 1, by omega, by simp; omega, by go_num, _, unhide HP2⟩
        case measure => simp [intOf]; omega
    · have e : n = k := by omega
      subst e
      have hl : l.length = 0 := by have := P.len; omega
      have d4 : wr.cell? ⟨w.heap.size + 1, 26, none⟩ = some (.map (some w.heap.size)) := P.fs.mgr.cell 26
      have d5 : wr.cell? ⟨w.heap.size + 1, 27, none⟩ = some (.pointer none) := P.fs.mgr.cell 27
      have d6 : wr.cell? ⟨w.heap.size + 1, 28, none⟩ = some (.bool (left l none)) := P.fs.mgr.cell 28
      have d7 := run_len P.fs.map
      have e6 : left l none = false := by simp [left, hl]
      rw [e6] at d6
      rw [hl] at d7
      have HB := hide P.fs.below
      clear P e6 hl
      go_wp2
      go_ret
      exact ⟨rfl, unhide HB⟩

set_option maxRecDepth 100000 in
set_option maxHeartbeats 1600000 in
theorem all_first_zero (a3 : Int) (b3 : 0 ≤ a3 ∧ a3 ≤ 65535) (w : World) :
    Calls Yba.prog 4 #[.int .u8 0, .bool true, .bool true, .int .u16 a3] w fun e w' => e = .returned (.bool true) ∧ Below w.heap.size w w' := by
  obtain ⟨b3a, b3b⟩ := b3
  go_enter Yba.func4, Yba.ntmps4
  go_wp2_with fail
  refine (build_any 0 true (by omega) _).mono ?_
  rintro e w1 ⟨rfl, P⟩
  have c27 : w1.cell? ⟨w.heap.size + 1, 27, none⟩ = some (.pointer (some ⟨w.heap.size + 4 + 3 * 0, 0, none⟩)) := P.mgr.cell 27
  have HP := hide P
  clear P
  unfold ptr
  go_wp2_with fail
  refine (forget_root (r := w.heap.size + 4 + 3 * 0) (unhide HP)).mono ?_
  rintro e w2 ⟨rfl, F2⟩
  have d5 : w2.cell? ⟨w.heap.size + 1, 27, none⟩ = some (.pointer none) := F2.mgr.cell 27
  have d6 : w2.cell? ⟨w.heap.size + 1, 28, none⟩ = some (.bool (left (List.range 0) none)) := F2.mgr.cell 28
  have e6 : left (List.range 0) none = false := by simp [left]; try omega
  rw [e6] at d6
  have HA := hide (At.start (off := 0) F2 rfl)
  clear F2 HP c27 e6
  go_wp2
  go_loopw [16] (fun v16 wr => v16 = .int .i64 0 ∧ ∃ l, At w.heap.size w wr 0 0 0 l none) (fun _ _ => 0)
  case atStart => exact ⟨rfl, _, unhide HA⟩
  case round =>
    clear HA
    obtain ⟨rfl, l, P⟩ := hrel
    · have hl : l.length = 0 := by have := P.len; omega
      have d4 : wr.cell? ⟨w.heap.size + 1, 26, none⟩ = some (.map (some w.heap.size)) := P.fs.mgr.cell 26
      have d5 : wr.cell? ⟨w.heap.size + 1, 27, none⟩ = some (.pointer none) := P.fs.mgr.cell 27
      have d6 : wr.cell? ⟨w.heap.size + 1, 28, none⟩ = some (.bool (left l none)) := P.fs.mgr.cell 28
      have d7 := run_len P.fs.map
      have e6 : left l none = false := by simp [left, hl]
      rw [e6] at d6
      rw [hl] at d7
      have HB := hide P.fs.below
      clear P e6 hl
      go_wp2
      go_ret
      exact ⟨rfl, unhide HB⟩

set_option maxRecDepth 100000 in
set_option maxHeartbeats 1600000 in
theorem all_last_pos (n : Nat) (a3 : Int) (hn : n ≤ 255) (b3 : 0 ≤ a3 ∧ a3 ≤ 65535) (h0 : 0 < n) (w : World) :
    Calls Yba.prog 4 #[.int .u8 n, .bool true, .bool false, .int .u16 a3] w fun e w' => e = .returned (.bool true) ∧ Below w.heap.size w w' := by
  obtain ⟨b3a, b3b⟩ := b3
  obtain ⟨off, ho⟩ : ∃ off : Nat, a3 % (n : Int) = off := ⟨(a3 % (n : Int)).toNat, by have := Int.emod_nonneg a3 (b := (n : Int)) (by omega); omega⟩
  have hoff : off < n := by have := Int.emod_lt_of_pos a3 (b := (n : Int)) (by omega); omega
  have hn1 : ((n : Int) == 0) = false := by simp; omega
  go_enter Yba.func4, Yba.ntmps4
  go_wp2_with fail
  refine (build_any n true hn _).mono ?_
  rintro e w1 ⟨rfl, P⟩
  have HA := hide (At.start (off := off) P (by simp [left, rootOf]))
  clear P
  unfold ptr
  go_wp2
  go_loopw [13, 16] (fun v13 v16 wr => ∃ k : Nat, k ≤ n ∧ v13 = .int .i64 ((n : Int) - k) ∧ v16 = .int .i64 k ∧ ∃ l, At w.heap.size w wr n off k l (some (w.heap.size + 4 + 3 * n))) (fun _ v _ => n - (intOf v).toNat)
  case atStart => exact ⟨0, Nat.zero_le _, by simp, rfl, _, unhide HA⟩
  case round =>
    clear HA
    obtain ⟨k, hkn, rfl, rfl, l, P⟩ := hrel
    by_cases hlt : k < n
    · obtain ⟨i, hi⟩ : ∃ i : Nat, (off + k) % n = i := ⟨_, rfl⟩
      have hin : i < n := by rw [← hi]; exact Nat.mod_lt _ (by omega)
      have hiI : ((off : Int) + k) % (n : Int) = i := by rw [← hi]; simp
      have hmem : i ∈ l := hi ▸ P.todo k (Nat.le_refl _) hlt
      have cs : wr.cell? ⟨w.heap.size + 3, i, none⟩ = some (.pointer (some ⟨sAt w.heap.size i, 0, none⟩)) := P.fs.ss.cell hin
      have hn1 : ((n : Int) == 0) = false := by simp; omega
      have HP := hide P
      have HM := hide hmem
      have HI := hide hi
      clear P hmem hi
      go_wp2_with fail
      refine (forget_ent (unhide HP).fs (unhide HM)).mono ?_
      rintro e w2 ⟨rfl, F2⟩
      have P2 : At w.heap.size w w2 n off (k + 1) (l.erase i) (some (w.heap.size + 4 + 3 * n)) := by
        have := unhide HI
        subst this
        exact (unhide HP).next hlt F2
      obtain ⟨d1, d2, d3, d4, d5, d6, d7⟩ := P2.facts i hin
      have e3 : decide (i ∈ l.erase i) = false := by simp [(unhide HP).fs.nl.mem_erase_iff]
      rw [e3] at d3
      have e7 : ((l.erase i).length : Int) = (n : Int) - k - 1 := by rw [P2.len]; omega
      rw [e7] at d7
      have e6 : left (l.erase i) (some (w.heap.size + 4 + 3 * n)) = (decide (k + 1 < n) || true) := by
        have : decide (0 < (l.erase i).length) = decide (k + 1 < n) := by rw [P2.len]; apply decide_eq_decide.2; omega
        simp only [left, this]; simp
      rw [e6] at d6
      have HP2 := hide P2
      clear P2 F2 HP HM HI e3 e7 e6 cs hkn ho hn1
      by_cases hz : k + 1 < n
      · rw [decide_eq_true hz] at d6
        simp only [Bool.true_or] at d6
        have z1 : (0 : Int) < (n : Int) - k - 1 := by omega
        go_wp2
        go_roundw
        case rel => exact ⟨k + 1, by omega, by simp; omega, by go_num, _, unhide HP2⟩
        case measure => simp [intOf]; omega
      · rw [decide_eq_false hz] at d6
        simp only [Bool.false_or] at d6
        have z1 : ¬ (0 : Int) < (n : Int) - k - 1 := by omega
        go_wp2
        go_roundw
        case rel => exact ⟨k + 1, by omega, by simp; omega, by go_num, _, unhide HP2⟩
        case measure => simp [intOf]; omega
    · have e : n = k := by omega
      subst e
      have hl : l.length = 0 := by have := P.len; omega
      have d5 : wr.cell? ⟨w.heap.size + 1, 27, none⟩ = some (.pointer (some ⟨w.heap.size + 4 + 3 * n, 0, none⟩)) := P.fs.mgr.cell 27
      have HP := hide P
      clear P
      go_wp2_with fail
      refine (forget_root (unhide HP).fs).mono ?_
      rintro e w2 ⟨rfl, F2⟩
      have d4 : w2.cell? ⟨w.heap.size + 1, 26, none⟩ = some (.map (some w.heap.size)) := F2.mgr.cell 26
      have d5' : w2.cell? ⟨w.heap.size + 1, 27, none⟩ = some (.pointer none) := F2.mgr.cell 27
      have d6 : w2.cell? ⟨w.heap.size + 1, 28, none⟩ = some (.bool (left l none)) := F2.mgr.cell 28
      have d7 := run_len F2.map
      have e6 : left l none = false := by simp [left, hl]
      rw [e6] at d6
      rw [hl] at d7
      have HB := hide F2.below
      clear F2 e6 hl HP d5
      go_wp2
      go_ret
      exact ⟨rfl, unhide HB⟩

set_option maxRecDepth 100000 in
set_option maxHeartbeats 1600000 in
theorem all_last_zero (a3 : Int) (b3 : 0 ≤ a3 ∧ a3 ≤ 65535) (w : World) :
    Calls Yba.prog 4 #[.int .u8 0, .bool true, .bool false, .int .u16 a3] w fun e w' => e = .returned (.bool true) ∧ Below w.heap.size w w' := by
  obtain ⟨b3a, b3b⟩ := b3
  go_enter Yba.func4, Yba.ntmps4
  go_wp2_with fail
  refine (build_any 0 true (by omega) _).mono ?_
  rintro e w1 ⟨rfl, P⟩
  have HA := hide (At.start (off := 0) P (by simp [left, rootOf]))
  clear P
  unfold ptr
  go_wp2
  go_loopw [16] (fun v16 wr => v16 = .int .i64 0 ∧ ∃ l, At w.heap.size w wr 0 0 0 l (some (w.heap.size + 4 + 3 * 0))) (fun _ _ => 0)
  case atStart => exact ⟨rfl, _, unhide HA⟩
  case round =>
    clear HA
    obtain ⟨rfl, l, P⟩ := hrel
    · have hl : l.length = 0 := by have := P.len; omega
      have d5 : wr.cell? ⟨w.heap.size + 1, 27, none⟩ = some (.pointer (some ⟨w.heap.size + 4 + 3 * 0, 0, none⟩)) := P.fs.mgr.cell 27
      have HP := hide P
      clear P
      go_wp2_with fail
      refine (forget_root (unhide HP).fs).mono ?_
      rintro e w2 ⟨rfl, F2⟩
      have d4 : w2.cell? ⟨w.heap.size + 1, 26, none⟩ = some (.map (some w.heap.size)) := F2.mgr.cell 26
      have d5' : w2.cell? ⟨w.heap.size + 1, 27, none⟩ = some (.pointer none) := F2.mgr.cell 27
      have d6 : w2.cell? ⟨w.heap.size + 1, 28, none⟩ = some (.bool (left l none)) := F2.mgr.cell 28
      have d7 := run_len F2.map
      have e6 : left l none = false := by simp [left, hl]
      rw [e6] at d6
      rw [hl] at d7
      have HB := hide F2.below
      clear F2 e6 hl HP d5
      go_wp2
      go_ret
      exact ⟨rfl, unhide HB⟩

theorem all_any (a0 : Int) (r f : Bool) (a3 : Int) (b0 : 0 ≤ a0 ∧ a0 ≤ 255) (b3 : 0 ≤ a3 ∧ a3 ≤ 65535) (w : World) :
    Calls Yba.prog 4 #[.int .u8 a0, .bool r, .bool f, .int .u16 a3] w fun e w' => e = .returned (.bool true) ∧ Below w.heap.size w w' := by
  obtain ⟨n, rfl⟩ : ∃ n : Nat, a0 = n := ⟨a0.toNat, by omega⟩
  have hn : n ≤ 255 := by omega
  cases r with
  | false =>
    by_cases h0 : 0 < n
    · exact all_none_pos n a3 hn b3 h0 f w
    · obtain rfl : n = 0 := by omega
      exact all_none_zero a3 b3 f w
  | true =>
    cases f with
    | true =>
      by_cases h0 : 0 < n
      · exact all_first_pos n a3 hn b3 h0 w
      · obtain rfl : n = 0 := by omega
        exact all_first_zero a3 b3 w
    | false =>
      by_cases h0 : 0 < n
      · exact all_last_pos n a3 hn b3 h0 w
      · obtain rfl : n = 0 := by omega
        exact all_last_zero a3 b3 w
end Go.Proofs.Ybulkciae.Forget
