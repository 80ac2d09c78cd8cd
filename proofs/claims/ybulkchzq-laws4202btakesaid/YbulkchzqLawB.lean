import Derived.Test.YbulkchzqLawA
namespace Go.Proofs.Ybulkchzq.Take
open Go Go.RowKit Go.Proofs.Ybulkchzq.Mem

set_option maxRecDepth 100000 in
set_option maxHeartbeats 1600000 in
theorem law_any (w : World) (aS : Option Addr) (n cS bS oS : Nat) (S : Nat → Int) (e0 l0 : Int) (aI : Option Addr) (m cI bI oI : Nat) (f : Int)
    (hn : n ≤ 1024) (hm : m ≤ 1024) (hf0 : 0 ≤ f) (hf1 : f ≤ 255)
    (hs : ∀ i, i < n → aS = some ⟨bS, oS, none⟩ ∧ w.cell? ⟨bS, oS + i, none⟩ = some (.int .i32 (S i)) ∧ bS < w.heap.size ∧ -2147483648 ≤ S i ∧ S i ≤ 2147483647)
    (O Z D : Nat → Int) (hit : ∀ i, i < m → aI = some ⟨bI, oI, none⟩ ∧ w.cell? ⟨bI, oI + i * 3, none⟩ = some (.int .i32 (O i)) ∧ w.cell? ⟨bI, oI + i * 3 + 1, none⟩ = some (.int .i64 (Z i)) ∧ w.cell? ⟨bI, oI + i * 3 + 2, none⟩ = some (.int .u64 (D i)) ∧ bI < w.heap.size ∧ -2147483648 ≤ O i ∧ O i ≤ 2147483647) :
    Calls Yba.prog 3 #[.slice aS n cS, .int .i64 e0, .int .u64 l0, .slice aI m cI, .int .u8 f] w fun e w' => e = .returned (.bool true) ∧ Below w.heap.size w w' := by
  obtain ⟨i0, hi, hz0, hz1, hz2⟩ := info_parts info28
  have hn' : ¬ (1024 < (n : Int)) := by omega
  have hm' : ¬ (1024 < (m : Int)) := by omega
  have HSt := hide hs
  have HIt := hide hit
  clear hs hit
  obtain ⟨j0, hj, hy0, hy1, hy2⟩ := info_parts info39
  go_enter Yba.func3, Yba.ntmps3
  go_wp2
  go_loopw [11, 12, 43] (fun v1 v2 i wr => ∃ k : Nat, k ≤ n ∧ i = .int .i64 k ∧ ∃ a1 c1 a2 c2, v1 = .slice a1 k c1 ∧ v2 = .slice a2 k c2 ∧ wr.ownsRow w.heap.size 28 2 (.slice a1 k c1) k (mc (startM S k)) ∧ wr.ownsRow w.heap.size 28 2 (.slice a2 k c2) k (mc (startM S k)) ∧ Apart (.slice a1 k c1) (.slice a2 k c2) ∧ Below w.heap.size w wr) (fun _ _ i _ => n - (intOf i).toNat)
  case atStart => exact ⟨0, Nat.zero_le _, rfl, none, 0, none, 0, rfl, rfl, World.ownsRow_nil _ _ _ _, World.ownsRow_nil _ _ _ _, fun q hq => by simp [Value.ownBlock] at hq, Below.refl _ _⟩
  case round =>
    obtain ⟨k, hk, rfl, a1, c1, a2, c2, rfl, rfl, own1, own2, hap, hbel⟩ := hrel
    by_cases hlt : k < n
    · obtain ⟨hA, hc, hb, hl1, hl2⟩ := unhide HSt k hlt
      subst hA
      have hc' : wr.cell? ⟨bS, oS + k, none⟩ = some (.int .i32 (S k)) := (hbel.cell (by exact hb)).trans hc
      clear hc
      have hwz := hbel.size
      have HAP := hide hap
      clear hap
      go_wp2_with (at_builtin; refine wpList_append_sh _ rfl (.tmp 48) (.tmp 55) 25 rfl w.heap.size 28 i0 _ 2 16 Yba.underlying25 hi hz0 hz1 hz2 rfl (by decide) _ _ _ _ rfl (own1.alloc _) ⟨wr.heap.size, 0, none⟩ 1 1 [.int .i64 (S k * 65536), .int .u64 k] rfl rfl (cell_two_at wr _ _ _ rfl) (two_oneCell _ _ _ _) (by unfold maxLen; omega) (by omega) (by simp; omega) ?_)
      intro a1' c1' w1 own1' hg1 loc1
      have ap1 := apart_mid (unhide HAP) own2 loc1
      have own2a := (own2.alloc (.cells #[.int .i64 (S k * 65536), .int .u64 k] 28)).kept hg1 (apart_kept (unhide HAP))
      have hbel1 : Below w.heap.size w w1 := (hbel.alloc hwz _).grown hg1 (by simp; omega) (fun q hq => (own1.lt q hq).1)
      have hwz1 := hbel1.size
      have HAP1 := hide ap1
      have HG1 := hide hbel1
      clear ap1 HAP hg1 loc1 own1 own2 hbel1 hbel hc'
      go_wp2_with (at_builtin; refine wpList_append_sh _ rfl (.tmp 57) (.tmp 64) 25 rfl w.heap.size 28 i0 _ 2 16 Yba.underlying25 hi hz0 hz1 hz2 rfl (by decide) _ _ _ _ rfl (own2a.alloc _) ⟨w1.heap.size, 0, none⟩ 1 1 [.int .i64 (S k * 65536), .int .u64 k] rfl rfl (cell_two_at w1 _ _ _ rfl) (two_oneCell _ _ _ _) (by unfold maxLen; omega) (by omega) (by simp; omega) ?_)
      intro a2' c2' w2 own2' hg2 loc2
      have ap2 := hide (apart_end (unhide HAP1) own1' loc2)
      have own1b := (own1'.alloc (.cells #[.int .i64 (S k * 65536), .int .u64 k] 28)).kept hg2 (apart_kept' (unhide HAP1))
      have hbel2 := hide (((unhide HG1).alloc hwz1 (.cells #[.int .i64 (S k * 65536), .int .u64 k] 28)).grown hg2 (by simp; omega) (fun q hq => (own2a.lt q hq).1))
      clear HAP1 HG1 hg2 loc2 own2a own1'
      go_wp2
      go_roundw
      case rel => exact ⟨k + 1, by omega, by go_num, a1', c1', a2', c2', rfl, rfl, by rw [startM_succ, mc_append]; exact own1b, by rw [startM_succ, mc_append]; exact own2', unhide ap2, unhide hbel2⟩
      case measure => simp [intOf]; omega
    · have ek : k = n := by omega
      subst ek
      have hwz := hbel.size
      have Tx : ∀ q : Nat, q < w.heap.size → q < wr.heap.size := by intro q hq; omega
      have HB0 := hide hbel
      have HO1 := hide own1
      have HO2 := hide own2
      have HAP := hide hap
      clear hbel own1 own2 hap Tx
      go_wp2_with (at_make; refine wpList_make_full _ rfl (.tmp 74) (.tmp 74) 32 rfl w.heap.size 39 j0 _ 12 Yba.underlying32 hj hy0 hy1 _ _ _ _ m rfl rfl rfl rfl (by rw [hy2]; omega) (by unfold maxLen; omega) (by simp; omega) ?_)
      intro wb ownB hgb
      obtain ⟨cur, P0⟩ := Pre.made (unhide HB0) (unhide HO1) (unhide HO2) (unhide HAP) ownB hgb
      have HP0 := hide P0
      clear HB0 HO1 HO2 HAP ownB hgb P0
      go_wp2_with fail
      clear hwz hlt hk
      generalize wr.heap.size = Bs at HP0 ⊢
      clear wr
      go_loopw [17] (fun v wy => ∃ i : Nat, i ≤ m ∧ v = .int .i64 i ∧ ∃ cur, Pre w wy Bs (Bs + 1) k m S e0 l0 a1 c1 a2 c2 cur ∧ ∀ j, j < i → ∀ t, t < 12 → cur[j * 12 + t]? = (msg (D j) (O j * 65536) (Z j))[t]?) (fun v _ => m - (intOf v).toNat)
      case atStart => exact ⟨0, Nat.zero_le _, rfl, cur, unhide HP0, fun j hj => by omega⟩
      case round =>
        clear HP0 cur
        obtain ⟨i, hi2, rfl, cur, P, hcur⟩ := hrel
        by_cases hlt2 : i < m
        · obtain ⟨hA, d0, d1, d2, hb, hl1, hl2⟩ := unhide HIt i hlt2
          subst hA
          have x0 : wr.cell? ⟨bI, oI + i * 3, none⟩ = some (.int .i32 (O i)) := (P.bel.cell (by exact hb)).trans d0
          have x1 : wr.cell? ⟨bI, oI + i * 3 + 1, none⟩ = some (.int .i64 (Z i)) := (P.bel.cell (by exact hb)).trans d1
          have x2 : wr.cell? ⟨bI, oI + i * 3 + 2, none⟩ = some (.int .u64 (D i)) := (P.bel.cell (by exact hb)).trans d2
          clear d0 d1 d2
          obtain ⟨q0, r0⟩ : ∃ v, wr.cell? ⟨Bs + 1, i * 12, none⟩ = some v := P.room i hlt2 0 (by decide)
          have f0 : wr.frozen? ⟨Bs + 1, i * 12, none⟩ = false := P.bat.free _
          obtain ⟨q1, r1⟩ := P.room i hlt2 1 (by decide)
          have f1 : wr.frozen? ⟨Bs + 1, i * 12 + 1, none⟩ = false := P.bat.free _
          obtain ⟨q2, r2⟩ := P.room i hlt2 2 (by decide)
          have f2 : wr.frozen? ⟨Bs + 1, i * 12 + 2, none⟩ = false := P.bat.free _
          obtain ⟨q3, r3⟩ := P.room i hlt2 3 (by decide)
          have f3 : wr.frozen? ⟨Bs + 1, i * 12 + 3, none⟩ = false := P.bat.free _
          obtain ⟨q4, r4⟩ := P.room i hlt2 4 (by decide)
          have f4 : wr.frozen? ⟨Bs + 1, i * 12 + 4, none⟩ = false := P.bat.free _
          obtain ⟨q5, r5⟩ := P.room i hlt2 5 (by decide)
          have f5 : wr.frozen? ⟨Bs + 1, i * 12 + 5, none⟩ = false := P.bat.free _
          obtain ⟨q6, r6⟩ := P.room i hlt2 6 (by decide)
          have f6 : wr.frozen? ⟨Bs + 1, i * 12 + 6, none⟩ = false := P.bat.free _
          obtain ⟨q7, r7⟩ := P.room i hlt2 7 (by decide)
          have f7 : wr.frozen? ⟨Bs + 1, i * 12 + 7, none⟩ = false := P.bat.free _
          obtain ⟨q8, r8⟩ := P.room i hlt2 8 (by decide)
          have f8 : wr.frozen? ⟨Bs + 1, i * 12 + 8, none⟩ = false := P.bat.free _
          obtain ⟨q9, r9⟩ := P.room i hlt2 9 (by decide)
          have f9 : wr.frozen? ⟨Bs + 1, i * 12 + 9, none⟩ = false := P.bat.free _
          obtain ⟨q10, r10⟩ := P.room i hlt2 10 (by decide)
          have f10 : wr.frozen? ⟨Bs + 1, i * 12 + 10, none⟩ = false := P.bat.free _
          obtain ⟨q11, r11⟩ := P.room i hlt2 11 (by decide)
          have f11 : wr.frozen? ⟨Bs + 1, i * 12 + 11, none⟩ = false := P.bat.free _
          have ne1 : ¬ bI = Bs + 1 := by have := P.sz; omega
          have ne2 : ¬ Bs + 1 = bI := by have := P.sz; omega
          have HP := hide P
          have HC := hide hcur
          clear P hcur
          go_wp2
          go_region_held3 (fun w' => w'.cell? ⟨bI, oI + i * 3, none⟩ = some (.int .i32 (O i)) ∧ w'.cell? ⟨bI, oI + i * 3 + 1, none⟩ = some (.int .i64 (Z i)) ∧ w'.cell? ⟨bI, oI + i * 3 + 2, none⟩ = some (.int .u64 (D i))) (go_keep) (fail)
          all_goals go_wp2
          go_roundw
          case rel => exact ⟨i + 1, by omega, by go_num, put12 cur i (D i) (O i * 65536) (Z i), (((((((((((((unhide HP).put (i * 12) (.int .u64 (D i))).put (i * 12 + 1) (.int .u64 0)).put (i * 12 + 2) (.int .i64 0)).put (i * 12 + 3) (.int .i64 0)).put (i * 12 + 4) (.slice none 0 0)).put (i * 12 + 5) (.slice none 0 0)).put (i * 12 + 6) (.int .i64 (O i * 65536))).put (i * 12 + 7) (.int .i64 (Z i))).put (i * 12 + 8) (.int .u8 0)).put (i * 12 + 9) (.int .u32 0)).put (i * 12 + 10) (.bool false)).put (i * 12 + 11) (.bool false)).drew, put12_all (unhide HP).cs hlt2 (unhide HC)⟩
          case measure => simp [intOf]; omega
        · have ei : i = m := by omega
          subst ei
          have HP := hide P
          have HC := hide hcur
          clear P hcur hlt2 hi2
          go_wp2_with fail
          obtain ⟨K, hK⟩ : ∃ K : Nat, f % ((i : Int) + 1) = K := ⟨(f % ((i : Int) + 1)).toNat, by have := Int.emod_nonneg f (show ((i : Int) + 1) ≠ 0 by omega); omega⟩
          have hKi : K ≤ i := by have := Int.emod_lt_of_pos f (show 0 < ((i : Int) + 1) by omega); omega
          have hKn : ¬ i < K := by omega
          go_wp2_with (first | (go_at_call 6; go_in))
          clear hK hf0 hf1
          have hne := run_neq_err_same
          by_cases hKlt : K < i
          · refine (take_any (env w.heap.size Bs wr.heap.size i K (Value.ownBlock (.slice a2 k c2)) D (fun j => O j * 65536) Z (startM S k) e0 l0) _ hm hKi (by rw [startM_length]; exact hn) none 0 none 0 a1 c1 (St.init (unhide HP) (unhide HC))).mono ?_
            rintro en w1 ⟨hA, hB⟩
            obtain ⟨rfl, ai, ci, ao, co, am, cm, s⟩ := hA hKlt
            obtain ⟨c, hc⟩ : ∃ c, c = K + 1 := ⟨_, rfl⟩
            rw [← hc] at s
            have hc1 : (c : Int) ≤ (K : Int) + 1 := by omega
            have hc2 : (K : Int) + 1 ≤ (c : Int) := by omega
            have hci : c ≤ i := by omega
            have hcb : ((c : Int) != (K : Int) + 1) = false := by simp; omega
            obtain ⟨Mf, ef, lf, R, A⟩ := Aft.of (unhide HP) s
            clear hA hB s HP HC hc
            generalize wr.heap.size = q at A ⊢
            clear wr
            obtain ⟨f1, f2, f3, f4, f5, f6, f7, f8, f9, f10, f11, f12, f13⟩ := A.V.facts
            have HA := hide A
            have HR := hide R
            clear A R f2 f4 f6 f9 f10 f11 f12 f13
            go_wp2
            go_loopw [26] (fun v wr => ∃ j : Nat, j ≤ c ∧ v = .int .i64 j ∧ ∃ nq, wr = w1.drewN nq) (fun v _ => c - (intOf v).toNat)
            case atStart => exact ⟨0, Nat.zero_le _, rfl, 0, rfl⟩
            case round =>
              obtain ⟨j, hj, rfl, nq, rfl⟩ := hrel
              by_cases hjc : j < c
              · obtain ⟨gi, go, rfl, rfl, r1, r2⟩ := (unhide HA).row j hjc
                obtain ⟨hA2, d0, d1, d2, hb, hl1, hl2⟩ := unhide HIt j (by omega)
                subst hA2
                have x0 : w1.cell? ⟨bI, oI + j * 3, none⟩ = some (.int .i32 (O j)) := ((unhide HA).bel.cell (by exact hb)).trans d0
                have x2 : w1.cell? ⟨bI, oI + j * 3 + 2, none⟩ = some (.int .u64 (D j)) := ((unhide HA).bel.cell (by exact hb)).trans d2
                have b1 : (j : Int) < (c : Int) := by omega
                have b2 : (j : Int) < (i : Int) := by omega
                clear d0 d1 d2
                go_wp2
                go_quiet (fail)
                go_wp2
                go_roundw
                case rel => exact ⟨j + 1, by omega, by go_num, _, rfl⟩
                case measure => simp [intOf]; omega
              · have ejc : c = j := by omega
                subst ejc
                clear hjc hj
                go_wp2
                go_loopw [12, 28, 29, 30] (fun v12 v28 v29 v30 wr => ∃ t : Nat, t ≤ K ∧ v30 = .int .i64 t ∧ v28 = .int .i64 (ef t) ∧ v29 = .int .u64 (lf t) ∧ ∃ L a3 c3, L = (Mf t).length ∧ v12 = .slice a3 L c3 ∧ Aft w wr Bs q c K ai ci ao co am cm (Mf K) (ef K) (lf K) D (fun j => O j * 65536) (.slice a3 L c3) (Mf t)) (fun _ _ _ v _ => K - (intOf v).toNat)
                case atStart =>
                  exact ⟨0, Nat.zero_le _, rfl, by rw [(unhide HR).e0], by rw [(unhide HR).l0], k, a2, c2, by rw [(unhide HR).m0, startM_length], rfl, by rw [(unhide HR).m0]; exact (unhide HA).drewN _⟩
                case round =>
                  clear HA f1 f3 f5 f7 f8
                  obtain ⟨t, ht, rfl, rfl, rfl, L, a3, c3, hL, rfl, A⟩ := hrel
                  have hLle : L ≤ 4096 := by have := (unhide HR).le t; omega
                  by_cases htK : t < K
                  · obtain ⟨hA2, d0, d1, d2, hb, hl1, hl2⟩ := unhide HIt t (by omega)
                    subst hA2
                    have x0 : wr.cell? ⟨bI, oI + t * 3, none⟩ = some (.int .i32 (O t)) := (A.bel.cell (by exact hb)).trans d0
                    have x1 : wr.cell? ⟨bI, oI + t * 3 + 1, none⟩ = some (.int .i64 (Z t)) := (A.bel.cell (by exact hb)).trans d1
                    have x2 : wr.cell? ⟨bI, oI + t * 3 + 2, none⟩ = some (.int .u64 (D t)) := (A.bel.cell (by exact hb)).trans d2
                    have b2 : (t : Int) < (i : Int) := by omega
                    have hwz := A.bel.size
                    cases L with
                    | zero =>
                      have hnil : Mf t = [] := List.eq_nil_of_length_eq_zero hL.symm
                      have hnx : Mf (t + 1) = Mf t ++ [(O t * 65536, D t)] := by rw [(unhide HR).ms]; unfold nextM; rw [if_pos (Or.inl hnil)]
                      have HA := hide A
                      have HL := hide hL
                      have HN := hide hnx
                      clear A hL hnil hnx
                      go_wp2_with (at_builtin; refine wpList_append_sh _ rfl (.tmp 208) (.tmp 216) 25 rfl w.heap.size 28 i0 _ 2 16 Yba.underlying25 hi hz0 hz1 hz2 rfl (by decide) _ _ _ (mc (Mf t)) rfl (by have := (unhide HA).own2.alloc (.cells #[.int .i64 (O t * 65536), .int .u64 (D t)] 28); rw [← unhide HL] at this; exact this) ⟨wr.heap.size, 0, none⟩ 1 1 [.int .i64 (O t * 65536), .int .u64 (D t)] rfl rfl (cell_two_at wr _ _ _ rfl) (two_oneCell _ _ _ _) (by unfold maxLen; omega) (by omega) (by simp; omega) ?_)
                      intro a3' c3' w2 own3 hg3 loc3
                      have A2 := (unhide HA).app2 hg3 (by rw [← unhide HL]; exact own3) loc3
                      have y1 : w2.cell? ⟨bI, oI + t * 3 + 1, none⟩ = some (.int .i64 (Z t)) := (A2.bel.cell (by exact hb)).trans d1
                      have y2 : w2.cell? ⟨bI, oI + t * 3 + 2, none⟩ = some (.int .u64 (D t)) := (A2.bel.cell (by exact hb)).trans d2
                      have HA2 := hide A2
                      clear A2 own3 hg3 loc3 HA x0 x1 x2 d0 d1 d2
                      go_wp2
                      go_roundw
                      case rel => exact ⟨t + 1, by omega, by go_num, by rw [(unhide HR).es], by rw [(unhide HR).ls], 1, a3', c3', by rw [unhide HN, List.length_append, ← unhide HL]; rfl, rfl, by rw [unhide HN]; exact unhide HA2⟩
                      case measure => simp [intOf]; omega
                    | succ L =>
                      obtain ⟨g2, rfl, hlast⟩ := A.last rfl hL.symm
                      have hcons : Mf t ≠ [] := by intro e; rw [e] at hL; simp at hL
                      obtain ⟨lo, hlo⟩ : ∃ lo, lo = lastOff (Mf t) := ⟨_, rfl⟩
                      rw [← hlo] at hlast
                      have hL0 : (((L : Int) + 1) == 0) = false := by simp; omega
                      by_cases hge : 262144 ≤ wrap64 (O t * 65536 - lo)
                      · have hnx : Mf (t + 1) = Mf t ++ [(O t * 65536, D t)] := by rw [(unhide HR).ms]; unfold nextM; rw [if_pos (Or.inr (by rw [← hlo]; exact hge))]
                        have HA := hide A
                        have HL := hide hL
                        have HN := hide hnx
                        clear A hL hcons hnx hlo
                        go_wp2_with (at_builtin; refine wpList_append_sh _ rfl (.tmp 208) (.tmp 216) 25 rfl w.heap.size 28 i0 _ 2 16 Yba.underlying25 hi hz0 hz1 hz2 rfl (by decide) _ _ _ (mc (Mf t)) rfl (by have := (unhide HA).own2.alloc (.cells #[.int .i64 (O t * 65536), .int .u64 (D t)] 28); rw [← unhide HL] at this; exact this) ⟨wr.heap.size, 0, none⟩ 1 1 [.int .i64 (O t * 65536), .int .u64 (D t)] rfl rfl (cell_two_at wr _ _ _ rfl) (two_oneCell _ _ _ _) (by unfold maxLen; omega) (by omega) (by simp; omega) ?_)
                        intro a3' c3' w2 own3 hg3 loc3
                        have A2 := (unhide HA).app2 hg3 (by rw [← unhide HL]; exact own3) loc3
                        have y1 : w2.cell? ⟨bI, oI + t * 3 + 1, none⟩ = some (.int .i64 (Z t)) := (A2.bel.cell (by exact hb)).trans d1
                        have y2 : w2.cell? ⟨bI, oI + t * 3 + 2, none⟩ = some (.int .u64 (D t)) := (A2.bel.cell (by exact hb)).trans d2
                        have HA2 := hide A2
                        clear A2 own3 hg3 loc3 HA x0 x1 x2 d0 d1 d2 hlast
                        go_wp2
                        go_roundw
                        case rel => exact ⟨t + 1, by omega, by go_num, by rw [(unhide HR).es], by rw [(unhide HR).ls], L + 1 + 1, a3', c3', by rw [unhide HN, List.length_append, ← unhide HL]; rfl, rfl, by rw [unhide HN]; exact unhide HA2⟩
                        case measure => simp [intOf]; omega
                      · have hnx : Mf (t + 1) = Mf t := by rw [(unhide HR).ms]; unfold nextM; rw [if_neg (by rintro (e | e); exact hcons e; exact hge (by rw [hlo]; exact e))]
                        have hlt3 : wrap64 (O t * 65536 - lo) < 262144 := by omega
                        have HA := hide A
                        have HL := hide hL
                        have HN := hide hnx
                        clear A hL hcons hnx hlo hge d0 d1 d2
                        go_wp2
                        go_roundw
                        case rel => exact ⟨t + 1, by omega, by go_num, by rw [(unhide HR).es], by rw [(unhide HR).ls], L + 1, _, c3, by rw [unhide HN]; exact unhide HL, rfl, by rw [unhide HN]; exact unhide HA⟩
                        case measure => simp [intOf]; omega
                  · have etK : t = K := by omega
                    subst etK
                    have s0 : wr.cell? ⟨Bs, 0, none⟩ = some (.string ⟨#[112]⟩) := A.sg.cell 0
                    have s1 : wr.cell? ⟨Bs, 1, none⟩ = some (.int .i64 1) := A.sg.cell 1
                    have s2 : wr.cell? ⟨Bs, 2, none⟩ = some (.int .u64 2) := A.sg.cell 2
                    have s3 : wr.cell? ⟨Bs, 3, none⟩ = some (.int .i64 (ef t)) := A.sg.cell 3
                    have s4 : wr.cell? ⟨Bs, 4, none⟩ = some (.int .u64 (lf t)) := A.sg.cell 4
                    have s5 : wr.cell? ⟨Bs, 5, none⟩ = some (.slice am (Mf t).length cm) := A.sg.cell 5
                    rw [← hL] at s5
                    have HA := hide A
                    have HL := hide hL
                    clear A hL
                    go_wp2
                    go_loopw [32] (fun v wx => ∃ p : Nat, p ≤ L ∧ v = .int .i64 p ∧ ∃ nq, wx = wr.drewN nq) (fun v _ => L - (intOf v).toNat)
                    case atStart => exact ⟨0, Nat.zero_le _, rfl, 0, rfl⟩
                    case round =>
                      obtain ⟨p, hp, rfl, nq2, rfl⟩ := hrel
                      by_cases hpL : p < L
                      · obtain ⟨g1, g3, x, y, rfl, rfl, r1, r2, r3, r4⟩ := (unhide HA).cells (by rw [← unhide HL]) p (by rw [← unhide HL]; exact hpL)
                        have b1 : (p : Int) < (L : Int) := by omega
                        clear s0 s1 s2 s3 s4
                        go_wp2
                        go_quiet (fail)
                        go_wp2
                        go_roundw
                        case rel => exact ⟨p + 1, by omega, by go_num, _, rfl⟩
                        case measure => simp [intOf]; omega
                      · go_wp2
                        go_ret
                        exact ⟨rfl, below_drewN (unhide HA).bel _⟩
          · refine (take_any (env w.heap.size Bs wr.heap.size i K (Value.ownBlock (.slice a2 k c2)) D (fun j => O j * 65536) Z (startM S k) e0 l0) _ hm hKi (by rw [startM_length]; exact hn) none 0 none 0 a1 c1 (St.init (unhide HP) (unhide HC))).mono ?_
            rintro en w1 ⟨hA, hB⟩
            obtain ⟨rfl, ai, ci, ao, co, am, cm, s0⟩ := hB (by show K = i; omega)
            obtain ⟨c, hc⟩ : ∃ c, c = i := ⟨_, rfl⟩
            have s := s0.cast (c' := c) (j' := K) hc.symm (by show i = K; omega)
            clear s0
            have hc1 : (c : Int) ≤ (i : Int) := by omega
            have hc2 : (i : Int) ≤ (c : Int) := by omega
            have hci : c ≤ i := by omega
            have hcn : ¬ c < i := by omega
            have hcb : ((c : Int) != (i : Int)) = false := by simp; omega
            obtain ⟨Mf, ef, lf, R, A⟩ := Aft.of (unhide HP) s
            clear hA hB s HP HC hc
            generalize wr.heap.size = q at A ⊢
            clear wr
            obtain ⟨f1, f2, f3, f4, f5, f6, f7, f8, f9, f10, f11, f12, f13⟩ := A.V.facts
            have HA := hide A
            have HR := hide R
            clear A R f2 f4 f6 f9 f10 f11 f12 f13
            go_wp2
            go_loopw [26] (fun v wr => ∃ j : Nat, j ≤ c ∧ v = .int .i64 j ∧ ∃ nq, wr = w1.drewN nq) (fun v _ => c - (intOf v).toNat)
            case atStart => exact ⟨0, Nat.zero_le _, rfl, 0, rfl⟩
            case round =>
              obtain ⟨j, hj, rfl, nq, rfl⟩ := hrel
              by_cases hjc : j < c
              · obtain ⟨gi, go, rfl, rfl, r1, r2⟩ := (unhide HA).row j hjc
                obtain ⟨hA2, d0, d1, d2, hb, hl1, hl2⟩ := unhide HIt j (by omega)
                subst hA2
                have x0 : w1.cell? ⟨bI, oI + j * 3, none⟩ = some (.int .i32 (O j)) := ((unhide HA).bel.cell (by exact hb)).trans d0
                have x2 : w1.cell? ⟨bI, oI + j * 3 + 2, none⟩ = some (.int .u64 (D j)) := ((unhide HA).bel.cell (by exact hb)).trans d2
                have b1 : (j : Int) < (c : Int) := by omega
                have b2 : (j : Int) < (i : Int) := by omega
                clear d0 d1 d2
                go_wp2
                go_quiet (fail)
                go_wp2
                go_roundw
                case rel => exact ⟨j + 1, by omega, by go_num, _, rfl⟩
                case measure => simp [intOf]; omega
              · have ejc : c = j := by omega
                subst ejc
                clear hjc hj
                go_wp2
                go_loopw [12, 28, 29, 30] (fun v12 v28 v29 v30 wr => ∃ t : Nat, t ≤ K ∧ v30 = .int .i64 t ∧ v28 = .int .i64 (ef t) ∧ v29 = .int .u64 (lf t) ∧ ∃ L a3 c3, L = (Mf t).length ∧ v12 = .slice a3 L c3 ∧ Aft w wr Bs q c K ai ci ao co am cm (Mf K) (ef K) (lf K) D (fun j => O j * 65536) (.slice a3 L c3) (Mf t)) (fun _ _ _ v _ => K - (intOf v).toNat)
                case atStart =>
                  exact ⟨0, Nat.zero_le _, rfl, by rw [(unhide HR).e0], by rw [(unhide HR).l0], k, a2, c2, by rw [(unhide HR).m0, startM_length], rfl, by rw [(unhide HR).m0]; exact (unhide HA).drewN _⟩
                case round =>
                  clear HA f1 f3 f5 f7 f8
                  obtain ⟨t, ht, rfl, rfl, rfl, L, a3, c3, hL, rfl, A⟩ := hrel
                  have hLle : L ≤ 4096 := by have := (unhide HR).le t; omega
                  by_cases htK : t < K
                  · obtain ⟨hA2, d0, d1, d2, hb, hl1, hl2⟩ := unhide HIt t (by omega)
                    subst hA2
                    have x0 : wr.cell? ⟨bI, oI + t * 3, none⟩ = some (.int .i32 (O t)) := (A.bel.cell (by exact hb)).trans d0
                    have x1 : wr.cell? ⟨bI, oI + t * 3 + 1, none⟩ = some (.int .i64 (Z t)) := (A.bel.cell (by exact hb)).trans d1
                    have x2 : wr.cell? ⟨bI, oI + t * 3 + 2, none⟩ = some (.int .u64 (D t)) := (A.bel.cell (by exact hb)).trans d2
                    have b2 : (t : Int) < (i : Int) := by omega
                    have hwz := A.bel.size
                    cases L with
                    | zero =>
                      have hnil : Mf t = [] := List.eq_nil_of_length_eq_zero hL.symm
                      have hnx : Mf (t + 1) = Mf t ++ [(O t * 65536, D t)] := by rw [(unhide HR).ms]; unfold nextM; rw [if_pos (Or.inl hnil)]
                      have HA := hide A
                      have HL := hide hL
                      have HN := hide hnx
                      clear A hL hnil hnx
                      go_wp2_with (at_builtin; refine wpList_append_sh _ rfl (.tmp 208) (.tmp 216) 25 rfl w.heap.size 28 i0 _ 2 16 Yba.underlying25 hi hz0 hz1 hz2 rfl (by decide) _ _ _ (mc (Mf t)) rfl (by have := (unhide HA).own2.alloc (.cells #[.int .i64 (O t * 65536), .int .u64 (D t)] 28); rw [← unhide HL] at this; exact this) ⟨wr.heap.size, 0, none⟩ 1 1 [.int .i64 (O t * 65536), .int .u64 (D t)] rfl rfl (cell_two_at wr _ _ _ rfl) (two_oneCell _ _ _ _) (by unfold maxLen; omega) (by omega) (by simp; omega) ?_)
                      intro a3' c3' w2 own3 hg3 loc3
                      have A2 := (unhide HA).app2 hg3 (by rw [← unhide HL]; exact own3) loc3
                      have y1 : w2.cell? ⟨bI, oI + t * 3 + 1, none⟩ = some (.int .i64 (Z t)) := (A2.bel.cell (by exact hb)).trans d1
                      have y2 : w2.cell? ⟨bI, oI + t * 3 + 2, none⟩ = some (.int .u64 (D t)) := (A2.bel.cell (by exact hb)).trans d2
                      have HA2 := hide A2
                      clear A2 own3 hg3 loc3 HA x0 x1 x2 d0 d1 d2
                      go_wp2
                      go_roundw
                      case rel => exact ⟨t + 1, by omega, by go_num, by rw [(unhide HR).es], by rw [(unhide HR).ls], 1, a3', c3', by rw [unhide HN, List.length_append, ← unhide HL]; rfl, rfl, by rw [unhide HN]; exact unhide HA2⟩
                      case measure => simp [intOf]; omega
                    | succ L =>
                      obtain ⟨g2, rfl, hlast⟩ := A.last rfl hL.symm
                      have hcons : Mf t ≠ [] := by intro e; rw [e] at hL; simp at hL
                      obtain ⟨lo, hlo⟩ : ∃ lo, lo = lastOff (Mf t) := ⟨_, rfl⟩
                      rw [← hlo] at hlast
                      have hL0 : (((L : Int) + 1) == 0) = false := by simp; omega
                      by_cases hge : 262144 ≤ wrap64 (O t * 65536 - lo)
                      · have hnx : Mf (t + 1) = Mf t ++ [(O t * 65536, D t)] := by rw [(unhide HR).ms]; unfold nextM; rw [if_pos (Or.inr (by rw [← hlo]; exact hge))]
                        have HA := hide A
                        have HL := hide hL
                        have HN := hide hnx
                        clear A hL hcons hnx hlo
                        go_wp2_with (at_builtin; refine wpList_append_sh _ rfl (.tmp 208) (.tmp 216) 25 rfl w.heap.size 28 i0 _ 2 16 Yba.underlying25 hi hz0 hz1 hz2 rfl (by decide) _ _ _ (mc (Mf t)) rfl (by have := (unhide HA).own2.alloc (.cells #[.int .i64 (O t * 65536), .int .u64 (D t)] 28); rw [← unhide HL] at this; exact this) ⟨wr.heap.size, 0, none⟩ 1 1 [.int .i64 (O t * 65536), .int .u64 (D t)] rfl rfl (cell_two_at wr _ _ _ rfl) (two_oneCell _ _ _ _) (by unfold maxLen; omega) (by omega) (by simp; omega) ?_)
                        intro a3' c3' w2 own3 hg3 loc3
                        have A2 := (unhide HA).app2 hg3 (by rw [← unhide HL]; exact own3) loc3
                        have y1 : w2.cell? ⟨bI, oI + t * 3 + 1, none⟩ = some (.int .i64 (Z t)) := (A2.bel.cell (by exact hb)).trans d1
                        have y2 : w2.cell? ⟨bI, oI + t * 3 + 2, none⟩ = some (.int .u64 (D t)) := (A2.bel.cell (by exact hb)).trans d2
                        have HA2 := hide A2
                        clear A2 own3 hg3 loc3 HA x0 x1 x2 d0 d1 d2 hlast
                        go_wp2
                        go_roundw
                        case rel => exact ⟨t + 1, by omega, by go_num, by rw [(unhide HR).es], by rw [(unhide HR).ls], L + 1 + 1, a3', c3', by rw [unhide HN, List.length_append, ← unhide HL]; rfl, rfl, by rw [unhide HN]; exact unhide HA2⟩
                        case measure => simp [intOf]; omega
                      · have hnx : Mf (t + 1) = Mf t := by rw [(unhide HR).ms]; unfold nextM; rw [if_neg (by rintro (e | e); exact hcons e; exact hge (by rw [hlo]; exact e))]
                        have hlt3 : wrap64 (O t * 65536 - lo) < 262144 := by omega
                        have HA := hide A
                        have HL := hide hL
                        have HN := hide hnx
                        clear A hL hcons hnx hlo hge d0 d1 d2
                        go_wp2
                        go_roundw
                        case rel => exact ⟨t + 1, by omega, by go_num, by rw [(unhide HR).es], by rw [(unhide HR).ls], L + 1, _, c3, by rw [unhide HN]; exact unhide HL, rfl, by rw [unhide HN]; exact unhide HA⟩
                        case measure => simp [intOf]; omega
                  · have etK : t = K := by omega
                    subst etK
                    have s0 : wr.cell? ⟨Bs, 0, none⟩ = some (.string ⟨#[112]⟩) := A.sg.cell 0
                    have s1 : wr.cell? ⟨Bs, 1, none⟩ = some (.int .i64 1) := A.sg.cell 1
                    have s2 : wr.cell? ⟨Bs, 2, none⟩ = some (.int .u64 2) := A.sg.cell 2
                    have s3 : wr.cell? ⟨Bs, 3, none⟩ = some (.int .i64 (ef t)) := A.sg.cell 3
                    have s4 : wr.cell? ⟨Bs, 4, none⟩ = some (.int .u64 (lf t)) := A.sg.cell 4
                    have s5 : wr.cell? ⟨Bs, 5, none⟩ = some (.slice am (Mf t).length cm) := A.sg.cell 5
                    rw [← hL] at s5
                    have HA := hide A
                    have HL := hide hL
                    clear A hL
                    go_wp2
                    go_loopw [32] (fun v wx => ∃ p : Nat, p ≤ L ∧ v = .int .i64 p ∧ ∃ nq, wx = wr.drewN nq) (fun v _ => L - (intOf v).toNat)
                    case atStart => exact ⟨0, Nat.zero_le _, rfl, 0, rfl⟩
                    case round =>
                      obtain ⟨p, hp, rfl, nq2, rfl⟩ := hrel
                      by_cases hpL : p < L
                      · obtain ⟨g1, g3, x, y, rfl, rfl, r1, r2, r3, r4⟩ := (unhide HA).cells (by rw [← unhide HL]) p (by rw [← unhide HL]; exact hpL)
                        have b1 : (p : Int) < (L : Int) := by omega
                        clear s0 s1 s2 s3 s4
                        go_wp2
                        go_quiet (fail)
                        go_wp2
                        go_roundw
                        case rel => exact ⟨p + 1, by omega, by go_num, _, rfl⟩
                        case measure => simp [intOf]; omega
                      · go_wp2
                        go_ret
                        exact ⟨rfl, below_drewN (unhide HA).bel _⟩

end Go.Proofs.Ybulkchzq.Take
