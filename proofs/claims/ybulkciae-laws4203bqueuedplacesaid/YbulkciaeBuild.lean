import Derived.Test.YbulkciaeBuildA
namespace Go.Proofs.Ybulkciae.Ranges
open Go Go.RowKit Go.Proofs.Ybulkciae.Mem

set_option maxRecDepth 100000 in
set_option maxHeartbeats 1600000 in
theorem build_any (g n : Nat) (hg : g ≤ 300) (hn : n ≤ 301) (w : World) :
    Calls Yba.prog 9 #[.int .i64 g, .int .i64 n] w fun e w' => ∃ aG cG aW cW aA cA R T, e = .returned (.tuple #[.pointer (some ⟨w.heap.size, 0, none⟩), .slice aA (g + n) cA]) ∧ Bt w w' w.heap.size g g n aG cG aW cW aA cA R T := by
  obtain ⟨i0, hi, hz0, hz1, hz2⟩ := info_parts info91
  go_enter Yba.func9, Yba.ntmps9
  go_wp2_with (at_make; refine wpList_make_own _ rfl (.const (.int .i64 0)) (.tmp 16) 47 rfl w.heap.size 91 i0 _ 1 Yba.underlying47 hi hz0 hz1 _ _ _ (g + n) rfl rfl (by omega) (by rw [hz2]; omega) (by unfold maxLen; omega) (by simp) ?_)
  intro wa ownA hga
  have P0 : Bt w wa w.heap.size g 0 0 none 0 none 0 (some ⟨w.heap.size + 1, 0, none⟩) (g + n) (fun _ => 0) (fun _ => 0) := by
    refine ⟨⟨Nat.le_refl _, by have := hga.size; simp at this; omega, (Blk.new w _ _).grown hga (by simp), World.ownsRow_nil _ _ _ _, World.ownsRow_nil _ _ _ _, ownA, Apart.nil _ _ _, Apart.nil _ _ _, Apart.nil _ _ _⟩, fun j hj => by omega, ((Below.refl _ w).alloc (Nat.le_refl _) _).grown hga (by simp) (fun _ h => by cases h)⟩
  have HP := hide P0
  clear ownA hga P0
  go_wp2_with fail
  go_loopw [7, 8] (fun v7 v8 wr => ∃ i : Nat, i ≤ g ∧ v8 = .int .i64 i ∧ ∃ aG cG aA cA R T, v7 = .slice aA i cA ∧ Bt w wr w.heap.size g i 0 aG cG none 0 aA cA R T) (fun _ v _ => g - (intOf v).toNat)
  case atStart => exact ⟨0, Nat.zero_le _, rfl, none, 0, _, _, _, _, rfl, unhide HP⟩
  case round =>
    clear HP
    obtain ⟨i, hig, rfl, aG, cG, aA, cA, R, T, rfl, P⟩ := hrel
    by_cases hlt : i < g
    · have c1 : wr.cell? ⟨w.heap.size, 1, none⟩ = some (.slice aG i cG) := P.th.S.cell 1
      have lS := P.th.S.lt
      have hw := P.th.hw
      have h0 := ((P.th.alloc (.cells (tx ((i : Int) + 1)) 120)).alloc (.cells (rl wr.heap.size w.heap.size 3 true i) 96)).alloc (.cells #[ptr (wr.heap.size + 1)] 91)
      have HP := hide P
      have H0 := hide h0
      clear P h0
      go_wp2_with (at_builtin; refine wpList_append_sh _ rfl (.tmp 37) (.tmp 39) 47 rfl w.heap.size 91 i0 _ 1 8 Yba.underlying47 hi hz0 hz1 hz2 rfl (by decide) _ _ _ (ptrs R i) rfl (by exact (unhide H0).o1) ⟨wr.heap.size + 1 + 1, 0, none⟩ 1 1 [ptr (wr.heap.size + 1)] rfl rfl (cell_one_at ((wr.alloc _).alloc _) _ _ (by simp)) (by simp [ptr, Value.oneCell']) (by unfold maxLen; omega) (by omega) (by simp; omega) ?_)
      intro aG' cG' w1 own1 hg1 loc1
      obtain ⟨h1, T1⟩ := (unhide HP).granted own1 hg1 loc1
      have d1 : w1.cell? ⟨w.heap.size, 1, none⟩ = some (.slice aG i cG) := h1.S.cell 1
      have fr1 : w1.frozen? ⟨w.heap.size, 1, none⟩ = false := h1.S.free 1
      have hw1 := h1.hw
      have h3 := (h1.put (by decide) 1 (.slice aG' (i + 1) cG')).1.alloc (.cells #[ptr (wr.heap.size + 1)] 91)
      have H1 := hide h1
      have HT1 := hide T1
      have H3 := hide h3
      clear h1 T1 h3 own1 hg1 loc1 H0 c1
      go_wp2_with (at_builtin; refine wpList_append_sh _ rfl (.tmp 43) (.tmp 45) 47 rfl w.heap.size 91 i0 _ 1 8 Yba.underlying47 hi hz0 hz1 hz2 rfl (by decide) _ _ _ (ptrs R i) rfl (by exact (unhide H3).oA) ⟨w1.heap.size, 0, none⟩ 1 1 [ptr (wr.heap.size + 1)] rfl rfl (cell_one_at (w1.setCell _ _) _ _ (by simp [World.setCell])) (by simp [ptr, Value.oneCell']) (by unfold maxLen; omega) (by omega) (by simp [World.setCell]; omega) ?_)
      intro aA' cA' w2 own2 hg2 loc2
      have P2 := (unhide HP).granted2 hlt (unhide H1) (unhide HT1) own2 hg2 loc2
      have HP2 := hide P2
      clear P2 own2 hg2 loc2 H1 HT1 H3 HP d1 fr1
      go_wp2
      go_roundw
      case rel => exact ⟨i + 1, by omega, by go_num, aG', cG', aA', cA', _, _, rfl, unhide HP2⟩
      case measure => simp [intOf]; omega
    · have eig : g = i := by omega
      subst eig
      have HP := hide P
      clear P hlt hig
      go_wp2
      go_loopw [7, 10] (fun v7 v10 wr => ∃ k : Nat, k ≤ n ∧ v10 = .int .i64 k ∧ ∃ aW cW aA cA R T, v7 = .slice aA (g + k) cA ∧ Bt w wr w.heap.size g g k aG cG aW cW aA cA R T) (fun _ v _ => n - (intOf v).toNat)
      case atStart => exact ⟨0, Nat.zero_le _, rfl, none, 0, aA, cA, R, T, rfl, unhide HP⟩
      case round =>
        clear HP
        obtain ⟨k, hkn, rfl, aW, cW, aA, cA, R, T, rfl, P⟩ := hrel
        by_cases hlt : k < n
        · have c2 : wr.cell? ⟨w.heap.size, 2, none⟩ = some (.slice aW k cW) := P.th.S.cell 2
          have lS := P.th.S.lt
          have hw := P.th.hw
          have h0 := ((P.th.alloc (.cells (tx ((k : Int) + 1)) 120)).alloc (.cells (rl wr.heap.size w.heap.size 6 false ((g : Int) + k)) 96)).alloc (.cells #[ptr (wr.heap.size + 1)] 91)
          have HP := hide P
          have H0 := hide h0
          clear P h0
          go_wp2_with (at_builtin; refine wpList_append_sh _ rfl (.tmp 68) (.tmp 70) 47 rfl w.heap.size 91 i0 _ 1 8 Yba.underlying47 hi hz0 hz1 hz2 rfl (by decide) _ _ _ (ptrs (fun j => R (g + j)) k) rfl (by exact (unhide H0).o2) ⟨wr.heap.size + 1 + 1, 0, none⟩ 1 1 [ptr (wr.heap.size + 1)] rfl rfl (cell_one_at ((wr.alloc _).alloc _) _ _ (by simp)) (by simp [ptr, Value.oneCell']) (by unfold maxLen; omega) (by omega) (by simp; omega) ?_)
          intro aW' cW' w1 own1 hg1 loc1
          obtain ⟨h1, T1⟩ := (unhide HP).queued own1 hg1 loc1
          have d1 : w1.cell? ⟨w.heap.size, 2, none⟩ = some (.slice aW k cW) := h1.S.cell 2
          have fr1 : w1.frozen? ⟨w.heap.size, 2, none⟩ = false := h1.S.free 2
          have hw1 := h1.hw
          have h3 := (h1.put (by decide) 2 (.slice aW' (k + 1) cW')).1.alloc (.cells #[ptr (wr.heap.size + 1)] 91)
          have H1 := hide h1
          have HT1 := hide T1
          have H3 := hide h3
          clear h1 T1 h3 own1 hg1 loc1 H0 c2
          go_wp2_with (at_builtin; refine wpList_append_sh _ rfl (.tmp 74) (.tmp 76) 47 rfl w.heap.size 91 i0 _ 1 8 Yba.underlying47 hi hz0 hz1 hz2 rfl (by decide) _ _ _ (ptrs R (g + k)) rfl (by exact (unhide H3).oA) ⟨w1.heap.size, 0, none⟩ 1 1 [ptr (wr.heap.size + 1)] rfl rfl (cell_one_at (w1.setCell _ _) _ _ (by simp [World.setCell])) (by simp [ptr, Value.oneCell']) (by unfold maxLen; omega) (by omega) (by simp [World.setCell]; omega) ?_)
          intro aA' cA' w2 own2 hg2 loc2
          have P2 := (unhide HP).queued2 (unhide H1) (unhide HT1) own2 hg2 loc2
          have HP2 := hide P2
          clear P2 own2 hg2 loc2 H1 HT1 H3 HP d1 fr1
          go_wp2
          go_roundw
          case rel => exact ⟨k + 1, by omega, by go_num, aW', cW', aA', cA', _, _, rfl, unhide HP2⟩
          case measure => simp [intOf]; omega
        · have ekn : n = k := by omega
          subst ekn
          have HP := hide P
          clear P
          go_wp2
          go_ret2
          exact ⟨aG, cG, aW, cW, aA, cA, R, T, rfl, unhide HP⟩

end Go.Proofs.Ybulkciae.Ranges
