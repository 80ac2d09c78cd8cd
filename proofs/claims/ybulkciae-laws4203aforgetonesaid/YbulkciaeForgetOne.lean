/- LawS4203AForgetOne: the walk. -/
import Derived.Test.YbulkciaeForgetBuild
namespace Go.Proofs.Ybulkciae.Forget
open Go Go.RowKit Go.Proofs.Ybulkciae.Mem

theorem info105 : (Yba.prog.info? 105).isSome = true := by kernel_rfl
theorem neq_same57 (a : Addr) (w : World) : (binOp .neq 57 (.pointer (some a)) (.pointer (some a))).run Yba.prog w = .ok (.bool false) w := by
  obtain ⟨j, hj⟩ := Option.isSome_iff_exists.1 info105
  have h : ∀ d : Nat, (Op.equalIn (d + 1) 57 (.pointer (some a)) (.pointer (some a))).run Yba.prog w = .ok true w := fun d => by
    simp [Op.equalIn, run_underlying Yba.underlying57, sizeOf, typeInfo, hj, run_sameAddr_same]
  simp only [binOp]
  simp [Op.equal, Op.maxDepth, h 9999]

section
variable {b : Nat} {w0 w : World} {n K : Nat} {l m : List Nat} {rv : Option Nat} {sp : Bool}
theorem Fs.look (h : Fs b w0 w n K l m rv sp) {i : Nat} (hi : i ∈ l) : (Instr.lookup 56 (.map (some b)) (.pointer (some ⟨eAt b i, 0, none⟩)) true).run Yba.prog w = .ok (.tuple #[.pointer (some ⟨sAt b i, 0, none⟩), .bool true]) w :=
  h.map.look (h.ent i (h.sub i hi)) hi (h.others i)
theorem Fs.miss (h : Fs b w0 w n K l m rv sp) {i : Nat} (hK : i < K) (hi : i ∉ l) : (Instr.lookup 56 (.map (some b)) (.pointer (some ⟨eAt b i, 0, none⟩)) true).run Yba.prog w = .ok (.tuple #[.pointer none, .bool false]) w :=
  h.map.miss (h.ent i hK) (fun j hj => h.others i j hj (fun e => hi (e ▸ hj)))
theorem Fs.facts (h : Fs b w0 w n n l m rv sp) {i : Nat} (hi : i < n) :
    w.cell? ⟨b + 2, i, none⟩ = some (.pointer (some ⟨eAt b i, 0, none⟩)) ∧ w.cell? ⟨b + 3, i, none⟩ = some (.pointer (some ⟨sAt b i, 0, none⟩)) ∧ w.cell? ⟨eAt b i, 2, none⟩ = some (.pointer (some ⟨cAt b i, 0, none⟩)) ∧ w.cell? ⟨cAt b i, 30, none⟩ = some (.bool (decide (i ∈ m))) :=
  ⟨h.es.cell hi, h.ss.cell hi, (h.ent i hi).cell 2, (h.con i hi).cell 30⟩
theorem Fs.mfacts (h : Fs b w0 w n K l m rv sp) :
    w.cell? ⟨b + 1, 15, none⟩ = some (.slice none 0 0) ∧ w.cell? ⟨b + 1, 26, none⟩ = some (.map (some b)) ∧ w.cell? ⟨b + 1, 27, none⟩ = some (rootV rv) ∧ w.cell? ⟨b + 1, 28, none⟩ = some (.bool sp) ∧ (Builtin.len_ #[56] 3 #[.map (some b)]).run Yba.prog w = .ok (.int .i64 (l.length : Int)) w :=
  ⟨h.mgr.cell 15, h.mgr.cell 26, h.mgr.cell 27, h.mgr.cell 28, run_len h.map⟩
end

set_option maxRecDepth 100000 in
set_option maxHeartbeats 1600000 in
theorem one_root_in (n t : Nat) (a2 : Int) (hn : n ≤ 255) (b2 : 0 ≤ a2 ∧ a2 ≤ 65535) (ht : a2 % ((n : Int) + 1) = t) (htn : t < n) (w : World) :
    Calls Yba.prog 3 #[.int .u8 n, .bool true, .int .u16 a2] w fun e w' => e = .returned (.bool true) ∧ Below w.heap.size w w' := by
  obtain ⟨b2a, b2b⟩ := b2
  have hns := neq_same57
  have hn1 : ((n : Int) + 1 == 0) = false := by simp; omega
  have htI : (t : Int) < n := by omega
  go_enter Yba.func3, Yba.ntmps3
  go_wp2_with fail
  refine (build_any n true (by omega) _).mono ?_
  rintro e w1 ⟨rfl, P⟩
  have c27 : w1.cell? ⟨w.heap.size + 1, 27, none⟩ = some (.pointer (some ⟨w.heap.size + 4 + 3 * n, 0, none⟩)) := P.mgr.cell 27
  have cs : w1.cell? ⟨w.heap.size + 3, t, none⟩ = some (.pointer (some ⟨sAt w.heap.size t, 0, none⟩)) := P.ss.cell htn
  have HP := hide P
  clear P
  unfold ptr
  go_wp2_with fail
  refine (forget_ent (rv := (some (w.heap.size + 4 + 3 * n))) (unhide HP) (List.mem_range.2 htn)).mono ?_
  rintro e w2 ⟨rfl, F2⟩
  have hlen : ((((List.range n).erase t)).length : Int) = (n : Int) - 1 := by rw [List.length_erase_of_mem (List.mem_range.2 htn)]; simp; omega
  obtain ⟨m1, m2, m3, m4, m5⟩ := F2.mfacts
  rw [hlen] at m5
  simp only [rootV, ptr] at m3
  have H2 := hide F2
  have HL := hide hlen
  clear F2 HP hlen
  go_wp2
  go_loopw [16] (fun v wr => ∃ i : Nat, i ≤ n ∧ v = .int .i64 i ∧ Fs w.heap.size w wr n n ((List.range n).erase t) ((List.range n).erase t) (some (w.heap.size + 4 + 3 * n)) (left ((List.range n).erase t) (some (w.heap.size + 4 + 3 * n)))) (fun v _ => n - (intOf v).toNat)
  case atStart => exact ⟨0, Nat.zero_le _, rfl, unhide H2⟩
  case round =>
    clear H2 m1 m2 m3 m4 m5
    obtain ⟨i, hin, rfl, F⟩ := hrel
    by_cases hlt : i < n
    · obtain ⟨d1, d2, d3, d4⟩ := F.facts hlt
      have c26 : wr.cell? ⟨w.heap.size + 1, 26, none⟩ = some (.map (some w.heap.size)) := F.mgr.cell 26
      have w1' : IntKind.i64.wrap (i : Int) = i := by rw [IntKind.wrap_i64]; omega
      have w2' : (i : Int) < (n : Int) := by omega
      have w3' : ¬ (i : Int) < 0 := by omega
      by_cases hit : i = t
      · have hm : i ∉ ((List.range n).erase t) := by rw [hit]; simp [List.nodup_range.mem_erase_iff]
        subst hit
        have lk := fun q => (F.drewN q).miss hlt hm
        rw [decide_eq_false hm] at d4
        have HF := hide F
        clear F hm
        go_wp2
        go_quiet (fail)
        go_wp2
        go_roundw
        case rel => exact ⟨i + 1, by omega, by go_num, (unhide HF).drewN _⟩
        case measure => simp [intOf]; omega
      · have hitI : ((i : Int) == (t : Int)) = false := by simp; omega
        have hm : i ∈ ((List.range n).erase t) := (List.nodup_range.mem_erase_iff).2 ⟨hit, List.mem_range.2 hlt⟩
        have lk := fun q => (F.drewN q).look hm
        rw [decide_eq_true hm] at d4
        have HF := hide F
        clear F hm
        go_wp2
        go_quiet (fail)
        go_wp2
        go_roundw
        case rel => exact ⟨i + 1, by omega, by go_num, (unhide HF).drewN _⟩
        case measure => simp [intOf]; omega
    · have e : n = i := by omega
      obtain ⟨m1, m2, m3, m4, _⟩ := F.mfacts
      have m5 := fun q => (F.drewN q).mfacts.2.2.2.2
      rw [unhide HL] at m5
      simp only [rootV, ptr] at m3
      have e4 : left ((List.range n).erase t) (some (w.heap.size + 4 + 3 * n)) = true := by simp [left]
      rw [e4] at m4
      have HF := hide F
      clear F e4 e
      go_wp2
      go_quiet (fail)
      go_wp2
      go_ret
      exact ⟨rfl, ((unhide HF).drewN _).below⟩

set_option maxRecDepth 100000 in
set_option maxHeartbeats 1600000 in
theorem one_none_in (n t : Nat) (a2 : Int) (hn : n ≤ 255) (b2 : 0 ≤ a2 ∧ a2 ≤ 65535) (ht : a2 % (n : Int) = t) (htn : t < n) (w : World) :
    Calls Yba.prog 3 #[.int .u8 n, .bool false, .int .u16 a2] w fun e w' => e = .returned (.bool true) ∧ Below w.heap.size w w' := by
  obtain ⟨b2a, b2b⟩ := b2
  have hns := neq_same57
  have hn1 : ((n : Int) == 0) = false := by simp; omega
  have htI : (t : Int) < n := by omega
  go_enter Yba.func3, Yba.ntmps3
  go_wp2_with fail
  refine (build_any n false (by omega) _).mono ?_
  rintro e w1 ⟨rfl, P⟩
  have c27 : w1.cell? ⟨w.heap.size + 1, 27, none⟩ = some (.pointer none) := P.mgr.cell 27
  have cs : w1.cell? ⟨w.heap.size + 3, t, none⟩ = some (.pointer (some ⟨sAt w.heap.size t, 0, none⟩)) := P.ss.cell htn
  have HP := hide P
  clear P
  unfold ptr
  go_wp2_with fail
  refine (forget_ent (rv := none) (unhide HP) (List.mem_range.2 htn)).mono ?_
  rintro e w2 ⟨rfl, F2⟩
  have hlen : ((((List.range n).erase t)).length : Int) = (n : Int) - 1 := by rw [List.length_erase_of_mem (List.mem_range.2 htn)]; simp; omega
  obtain ⟨m1, m2, m3, m4, m5⟩ := F2.mfacts
  rw [hlen] at m5
  simp only [rootV] at m3
  have H2 := hide F2
  have HL := hide hlen
  clear F2 HP hlen
  go_wp2
  go_loopw [16] (fun v wr => ∃ i : Nat, i ≤ n ∧ v = .int .i64 i ∧ Fs w.heap.size w wr n n ((List.range n).erase t) ((List.range n).erase t) none (left ((List.range n).erase t) none)) (fun v _ => n - (intOf v).toNat)
  case atStart => exact ⟨0, Nat.zero_le _, rfl, unhide H2⟩
  case round =>
    clear H2 m1 m2 m3 m4 m5
    obtain ⟨i, hin, rfl, F⟩ := hrel
    by_cases hlt : i < n
    · obtain ⟨d1, d2, d3, d4⟩ := F.facts hlt
      have c26 : wr.cell? ⟨w.heap.size + 1, 26, none⟩ = some (.map (some w.heap.size)) := F.mgr.cell 26
      have w1' : IntKind.i64.wrap (i : Int) = i := by rw [IntKind.wrap_i64]; omega
      have w2' : (i : Int) < (n : Int) := by omega
      have w3' : ¬ (i : Int) < 0 := by omega
      by_cases hit : i = t
      · have hm : i ∉ ((List.range n).erase t) := by rw [hit]; simp [List.nodup_range.mem_erase_iff]
        subst hit
        have lk := fun q => (F.drewN q).miss hlt hm
        rw [decide_eq_false hm] at d4
        have HF := hide F
        clear F hm
        go_wp2
        go_quiet (fail)
        go_wp2
        go_roundw
        case rel => exact ⟨i + 1, by omega, by go_num, (unhide HF).drewN _⟩
        case measure => simp [intOf]; omega
      · have hitI : ((i : Int) == (t : Int)) = false := by simp; omega
        have hm : i ∈ ((List.range n).erase t) := (List.nodup_range.mem_erase_iff).2 ⟨hit, List.mem_range.2 hlt⟩
        have lk := fun q => (F.drewN q).look hm
        rw [decide_eq_true hm] at d4
        have HF := hide F
        clear F hm
        go_wp2
        go_quiet (fail)
        go_wp2
        go_roundw
        case rel => exact ⟨i + 1, by omega, by go_num, (unhide HF).drewN _⟩
        case measure => simp [intOf]; omega
    · have e : n = i := by omega
      obtain ⟨m1, m2, m3, m4, _⟩ := F.mfacts
      have m5 := fun q => (F.drewN q).mfacts.2.2.2.2
      have e4 : left ((List.range n).erase t) none = decide ((0 : Int) < (n : Int) - 1) := by simp only [left, Option.isSome_none, Bool.false_or]; apply decide_eq_decide.2; have := unhide HL; omega
      rw [unhide HL] at m5
      simp only [rootV] at m3
      rw [e4] at m4
      have HF := hide F
      clear F e4 e
      by_cases hz : (0 : Int) < (n : Int) - 1
      · rw [decide_eq_true hz] at m4
        go_wp2
        go_quiet (fail)
        go_wp2
        go_ret
        exact ⟨congrArg (fun x => Ending.returned (.bool x)) (by simp; omega : (decide (1 < (n : Int))) = true), ((unhide HF).drewN _).below⟩
      · rw [decide_eq_false hz] at m4
        go_wp2
        go_quiet (fail)
        go_wp2
        go_ret
        exact ⟨congrArg (fun x => Ending.returned (.bool x)) (by simp; omega : (!decide (1 < (n : Int))) = true), ((unhide HF).drewN _).below⟩

set_option maxRecDepth 100000 in
set_option maxHeartbeats 1600000 in
theorem one_root_out (n : Nat) (a2 : Int) (hn : n ≤ 255) (b2 : 0 ≤ a2 ∧ a2 ≤ 65535) (ht : a2 % ((n : Int) + 1) = n) (w : World) :
    Calls Yba.prog 3 #[.int .u8 n, .bool true, .int .u16 a2] w fun e w' => e = .returned (.bool true) ∧ Below w.heap.size w w' := by
  obtain ⟨b2a, b2b⟩ := b2
  have hns := neq_same57
  have hn1 : ((n : Int) + 1 == 0) = false := by simp; omega
  go_enter Yba.func3, Yba.ntmps3
  go_wp2_with fail
  refine (build_any n true (by omega) _).mono ?_
  rintro e w1 ⟨rfl, P⟩
  have c27 : w1.cell? ⟨w.heap.size + 1, 27, none⟩ = some (.pointer (some ⟨w.heap.size + 4 + 3 * n, 0, none⟩)) := P.mgr.cell 27
  have HP := hide P
  clear P
  unfold ptr
  go_wp2_with fail
  refine (forget_root (r := w.heap.size + 4 + 3 * n) (unhide HP)).mono ?_
  rintro e w2 ⟨rfl, F2⟩
  have hlen : (((List.range n)).length : Int) = (n : Int) := by simp
  obtain ⟨m1, m2, m3, m4, m5⟩ := F2.mfacts
  rw [hlen] at m5
  simp only [rootV] at m3
  have H2 := hide F2
  have HL := hide hlen
  clear F2 HP hlen
  go_wp2
  go_loopw [16] (fun v wr => ∃ i : Nat, i ≤ n ∧ v = .int .i64 i ∧ Fs w.heap.size w wr n n (List.range n) (List.range n) none (left (List.range n) none)) (fun v _ => n - (intOf v).toNat)
  case atStart => exact ⟨0, Nat.zero_le _, rfl, unhide H2⟩
  case round =>
    clear H2 m1 m2 m3 m4 m5
    obtain ⟨i, hin, rfl, F⟩ := hrel
    by_cases hlt : i < n
    · obtain ⟨d1, d2, d3, d4⟩ := F.facts hlt
      have c26 : wr.cell? ⟨w.heap.size + 1, 26, none⟩ = some (.map (some w.heap.size)) := F.mgr.cell 26
      have w1' : IntKind.i64.wrap (i : Int) = i := by rw [IntKind.wrap_i64]; omega
      have w2' : (i : Int) < (n : Int) := by omega
      have w3' : ¬ (i : Int) < 0 := by omega
      have hitI : ((i : Int) == (n : Int)) = false := by simp; omega
      have hm : i ∈ (List.range n) := List.mem_range.2 hlt
      have lk := fun q => (F.drewN q).look hm
      rw [decide_eq_true hm] at d4
      have HF := hide F
      clear F hm
      go_wp2
      go_quiet (fail)
      go_wp2
      go_roundw
      case rel => exact ⟨i + 1, by omega, by go_num, (unhide HF).drewN _⟩
      case measure => simp [intOf]; omega
    · have e : n = i := by omega
      obtain ⟨m1, m2, m3, m4, _⟩ := F.mfacts
      have m5 := fun q => (F.drewN q).mfacts.2.2.2.2
      have e4 : left (List.range n) none = decide ((0 : Int) < (n : Int)) := by simp only [left, Option.isSome_none, Bool.false_or]; apply decide_eq_decide.2; have := unhide HL; omega
      rw [unhide HL] at m5
      simp only [rootV] at m3
      rw [e4] at m4
      have HF := hide F
      clear F e4 e
      by_cases hz : (0 : Int) < (n : Int)
      · rw [decide_eq_true hz] at m4
        go_wp2
        go_quiet (fail)
        go_wp2
        go_ret
        exact ⟨congrArg (fun x => Ending.returned (.bool x)) (by simp; omega : (decide (0 < n)) = true), ((unhide HF).drewN _).below⟩
      · rw [decide_eq_false hz] at m4
        go_wp2
        go_quiet (fail)
        go_wp2
        go_ret
        exact ⟨congrArg (fun x => Ending.returned (.bool x)) (by simp; omega : (!decide (0 < n)) = true), ((unhide HF).drewN _).below⟩

set_option maxRecDepth 100000 in
set_option maxHeartbeats 1600000 in
theorem one_zero (a2 : Int) (b2 : 0 ≤ a2 ∧ a2 ≤ 65535) (w : World) :
    Calls Yba.prog 3 #[.int .u8 0, .bool false, .int .u16 a2] w fun e w' => e = .returned (.bool true) ∧ Below w.heap.size w w' := by
  obtain ⟨b2a, b2b⟩ := b2
  have hns := neq_same57
  go_enter Yba.func3, Yba.ntmps3
  go_wp2_with fail
  refine (build_any 0 true (by omega) _).mono ?_
  rintro e w1 ⟨rfl, P⟩
  have c27 : w1.cell? ⟨w.heap.size + 1, 27, none⟩ = some (.pointer (some ⟨w.heap.size + 4 + 3 * 0, 0, none⟩)) := P.mgr.cell 27
  have HP := hide P
  clear P
  unfold ptr
  go_wp2_with fail
  refine (forget_root (r := w.heap.size + 4 + 3 * 0) (unhide HP)).mono ?_
  rintro e w2 ⟨rfl, F2⟩
  have hlen : (((List.range 0)).length : Int) = (0 : Int) := by simp
  obtain ⟨m1, m2, m3, m4, m5⟩ := F2.mfacts
  rw [hlen] at m5
  simp only [rootV] at m3
  have H2 := hide F2
  have HL := hide hlen
  clear F2 HP hlen
  go_wp2
  go_loopw [16] (fun v wr => ∃ i : Nat, i ≤ 0 ∧ v = .int .i64 i ∧ Fs w.heap.size w wr 0 0 (List.range 0) (List.range 0) none (left (List.range 0) none)) (fun v _ => 0 - (intOf v).toNat)
  case atStart => exact ⟨0, Nat.zero_le _, rfl, unhide H2⟩
  case round =>
    clear H2 m1 m2 m3 m4 m5
    obtain ⟨i, hin, rfl, F⟩ := hrel
    by_cases hlt : i < 0
    · obtain ⟨d1, d2, d3, d4⟩ := F.facts hlt
      have c26 : wr.cell? ⟨w.heap.size + 1, 26, none⟩ = some (.map (some w.heap.size)) := F.mgr.cell 26
      have w1' : IntKind.i64.wrap (i : Int) = i := by rw [IntKind.wrap_i64]; omega
      have w2' : (i : Int) < (0 : Int) := by omega
      have w3' : ¬ (i : Int) < 0 := by omega
      exact absurd hlt (by omega)
    · have e : 0 = i := by omega
      obtain ⟨m1, m2, m3, m4, _⟩ := F.mfacts
      have m5 := fun q => (F.drewN q).mfacts.2.2.2.2
      have e4 : left (List.range 0) none = false := by simp [left]
      rw [unhide HL] at m5
      simp only [rootV] at m3
      rw [e4] at m4
      have HF := hide F
      clear F e4 e
      go_wp2
      go_quiet (fail)
      go_wp2
      go_ret
      exact ⟨rfl, ((unhide HF).drewN _).below⟩

theorem one_any (a0 : Int) (r : Bool) (a2 : Int) (b0 : 0 ≤ a0 ∧ a0 ≤ 255) (b2 : 0 ≤ a2 ∧ a2 ≤ 65535) (w : World) :
    Calls Yba.prog 3 #[.int .u8 a0, .bool r, .int .u16 a2] w fun e w' => e = .returned (.bool true) ∧ Below w.heap.size w w' := by
  obtain ⟨n, rfl⟩ : ∃ n : Nat, a0 = n := ⟨a0.toNat, by omega⟩
  have hn : n ≤ 255 := by omega
  cases r with
  | true =>
    obtain ⟨t, ht⟩ : ∃ t : Nat, a2 % ((n : Int) + 1) = t := ⟨(a2 % ((n : Int) + 1)).toNat, by have := Int.emod_nonneg a2 (b := (n : Int) + 1) (by omega); omega⟩
    have h1 := Int.emod_lt_of_pos a2 (b := (n : Int) + 1) (by omega)
    by_cases htn : t < n
    · exact one_root_in n t a2 hn b2 ht htn w
    · obtain rfl : t = n := by omega
      exact one_root_out t a2 hn b2 ht w
  | false =>
    by_cases h0 : 0 < n
    · obtain ⟨t, ht⟩ : ∃ t : Nat, a2 % (n : Int) = t := ⟨(a2 % (n : Int)).toNat, by have := Int.emod_nonneg a2 (b := (n : Int)) (by omega); omega⟩
      have h1 := Int.emod_lt_of_pos a2 (b := (n : Int)) (by omega)
      exact one_none_in n t a2 hn b2 ht (by omega) w
    · obtain rfl : n = 0 := by omega
      exact one_zero a2 b2 w
end Go.Proofs.Ybulkciae.Forget
