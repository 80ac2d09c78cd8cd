import Derived.Test.YbulkchzqTake
namespace Go.Proofs.Ybulkchzq.Take
open Go Go.RowKit Go.Proofs.Ybulkchzq.Mem

/-- The blocks and the numbers of one run of the law. -/
structure Env where
  B : Nat
  Bs : Nat
  Bb : Nat
  Ci : Nat
  Co : Nat
  Cc : Nat
  Ck : Nat
  Cs : Nat
  gx : Option Nat
  Ce : Nat
  m : Nat
  k : Nat
  D : Nat → Int
  O : Nat → Int
  Z : Nat → Int
  M0 : List (Int × Int)
  e0 : Int
  l0 : Int

def marksAt (E : Env) : Nat → List (Int × Int)
  | 0 => E.M0
  | j + 1 => nextM (marksAt E j) (E.O j) (E.D j)
def endAt (E : Env) : Nat → Int
  | 0 => E.e0
  | j + 1 => wrap64 (E.O j + E.Z j)
def lastAt (E : Env) : Nat → Int
  | 0 => E.l0
  | j + 1 => E.D j
def idsAt (D : Nat → Int) (j : Nat) : List Value := (List.range j).map fun i => .int .u64 (D i)
def offsAt (O : Nat → Int) (j : Nat) : List Value := (List.range j).map fun i => .int .i64 (O i)
theorem idsAt_succ (D : Nat → Int) (j : Nat) : idsAt D (j + 1) = idsAt D j ++ [.int .u64 (D j)] := by simp [idsAt, List.range_succ]
theorem offsAt_succ (D : Nat → Int) (j : Nat) : offsAt D (j + 1) = offsAt D j ++ [.int .i64 (D j)] := by simp [offsAt, List.range_succ]
theorem nextM_le (M : List (Int × Int)) (o d : Int) : (nextM M o d).length ≤ M.length + 1 := by
  unfold nextM; split <;> simp
theorem marksAt_le (E : Env) (j : Nat) : (marksAt E j).length ≤ E.M0.length + j := by
  induction j with
  | zero => simp [marksAt]
  | succ j ih => have := nextM_le (marksAt E j) (E.O j) (E.D j); simp only [marksAt]; omega

def TS : List TypeId := [43, 44, 3, 23, 2, 31, 28]

/-- The state: c calls made, j messages taken. -/
structure St (E : Env) (w0 w : World) (c j : Nat) (ai : Option Addr) (ci : Nat) (ao : Option Addr) (co : Nat) (am : Option Addr) (cm : Nat) : Prop where
  V : Vars w E.B E.Ci E.Co E.Cc E.Ck E.Cs (.slice ai c ci) (.slice ao c co) c E.k (.iface 74 (.pointer (some ⟨E.Ce, 0, none⟩)))
  ownI : w.ownsRow E.B 23 1 (.slice ai c ci) c (idsAt E.D c)
  ownO : w.ownsRow E.B 2 1 (.slice ao c co) c (offsAt E.O c)
  S : Blk w E.Bs (seg (endAt E j) (lastAt E j) (.slice am (marksAt E j).length cm)) 31
  ownM : w.ownsRow E.B 28 2 (.slice am (marksAt E j).length cm) (marksAt E j).length (mc (marksAt E j))
  bat : ∃ cur : Array Value, Blk w E.Bb cur 39 ∧ ∀ i, i < E.m → ∀ t, t < 12 → cur[i * 12 + t]? = (msg (E.D i) (E.O i) (E.Z i))[t]?
  T : Turn E.B E.gx TS w0 w
  bs : E.B ≤ E.Bs
  x1 : some E.Bs ≠ E.gx
  x2 : ∀ q, Value.ownBlock (.slice am (marksAt E j).length cm) = some q → some q ≠ E.gx
  x3 : ∀ q, E.gx = some q → ∃ cs, Blk w q cs 28

theorem St.batch {E : Env} {w0 w : World} {c j : Nat} {ai : Option Addr} {ci : Nat} {ao : Option Addr} {co : Nat} {am : Option Addr} {cm : Nat} (s : St E w0 w c j ai ci ao co am cm) (i : Nat) (hi : i < E.m) :
    w.cell? ⟨E.Bb, i * 12, none⟩ = some (.int .u64 (E.D i)) ∧ w.cell? ⟨E.Bb, i * 12 + 1, none⟩ = some (.int .u64 0) ∧ w.cell? ⟨E.Bb, i * 12 + 2, none⟩ = some (.int .i64 0) ∧ w.cell? ⟨E.Bb, i * 12 + 3, none⟩ = some (.int .i64 0) ∧
    w.cell? ⟨E.Bb, i * 12 + 4, none⟩ = some (.slice none 0 0) ∧ w.cell? ⟨E.Bb, i * 12 + 5, none⟩ = some (.slice none 0 0) ∧ w.cell? ⟨E.Bb, i * 12 + 6, none⟩ = some (.int .i64 (E.O i)) ∧ w.cell? ⟨E.Bb, i * 12 + 7, none⟩ = some (.int .i64 (E.Z i)) ∧
    w.cell? ⟨E.Bb, i * 12 + 8, none⟩ = some (.int .u8 0) ∧ w.cell? ⟨E.Bb, i * 12 + 9, none⟩ = some (.int .u32 0) ∧ w.cell? ⟨E.Bb, i * 12 + 10, none⟩ = some (.bool false) ∧ w.cell? ⟨E.Bb, i * 12 + 11, none⟩ = some (.bool false) := by
  obtain ⟨cur, hb, hc⟩ := s.bat
  have h := fun t ht => (hb.cell (i * 12 + t)).trans (hc i hi t ht)
  exact ⟨h 0 (by decide), h 1 (by decide), h 2 (by decide), h 3 (by decide), h 4 (by decide), h 5 (by decide), h 6 (by decide), h 7 (by decide), h 8 (by decide), h 9 (by decide), h 10 (by decide), h 11 (by decide)⟩

section
variable {E : Env} {w0 w w1 w2 : World} {c j : Nat} {ai ai' : Option Addr} {ci ci' : Nat} {ao ao' : Option Addr} {co co' : Nat} {am am' : Option Addr} {cm cm' : Nat}
theorem St.drewN (s : St E w0 w c j ai ci ao co am cm) (n : Nat) : St E w0 (w.drewN n) c j ai ci ao co am cm :=
  ⟨⟨s.V.sz, s.V.bi, s.V.bo, s.V.bc, s.V.hI, s.V.hO, s.V.hC, s.V.hK, s.V.hS, s.V.ck⟩, s.ownI, s.ownO, s.S, s.ownM, s.bat, ⟨s.T.os, s.T.tape, s.T.output, s.T.size, s.T.block⟩, s.bs, s.x1, s.x2, s.x3⟩

/-- Behind one call of the closure. -/
theorem St.called (s : St E w0 w j j ai ci ao co am cm) {d o z : Int} (V1 : Vars w1 E.B E.Ci E.Co E.Cc E.Ck E.Cs (.slice ai' (j + 1) ci') (.slice ao' (j + 1) co') ((j : Int) + 1) E.k (.iface 74 (.pointer (some ⟨E.Ce, 0, none⟩))))
    (o1 : w1.ownsRow E.B 23 1 (.slice ai' (j + 1) ci') (j + 1) (idsAt E.D j ++ [.int .u64 (E.D j)])) (o2 : w1.ownsRow E.B 2 1 (.slice ao' (j + 1) co') (j + 1) (offsAt E.O j ++ [.int .i64 (E.O j)]))
    (T1 : Turn E.B none [43, 44, 3, 23, 2] (w.alloc (.cells (msg d o z) 39)) w1) : St E w0 w1 (j + 1) j ai' ci' ao' co' am cm ∧ Blk w1 w.heap.size (msg d o z) 39 := by
  have e : ((j + 1 : Nat) : Int) = (j : Int) + 1 := by omega
  have T1' : Turn E.B E.gx [43, 44, 3, 23, 2] (w.alloc (.cells (msg d o z) 39)) w1 := T1.hold fun q hq => by
    obtain ⟨cs, h⟩ := s.x3 q hq
    exact ⟨cs, 28, h.alloc _, by decide⟩
  have T2 : Turn E.B E.gx TS w0 w1 := (s.T.alloc _).trans (T1'.mono (by decide))
  obtain ⟨cur, hb, hc⟩ := s.bat
  refine ⟨⟨by rw [e]; exact V1, by rw [idsAt_succ]; exact o1, by rw [offsAt_succ]; exact o2, T1.blk (s.S.alloc _) (by decide), T1.owns (s.ownM.alloc _) (by decide), ⟨cur, T1.blk (hb.alloc _) (by decide), hc⟩, T2, s.bs, s.x1, s.x2, fun q hq => ?_⟩, T1.blk (Blk.new w _ _) (by decide)⟩
  obtain ⟨cs, h⟩ := s.x3 q hq
  exact ⟨cs, T1.blk (h.alloc _) (by decide)⟩

/-- Behind markLocked: the segment's marks are the next ones, its end and last id not yet. -/
structure Mid (E : Env) (w0 w : World) (j : Nat) (ai : Option Addr) (ci : Nat) (ao : Option Addr) (co : Nat) (am : Option Addr) (cm : Nat) (e l : Int) : Prop where
  V : Vars w E.B E.Ci E.Co E.Cc E.Ck E.Cs (.slice ai (j + 1) ci) (.slice ao (j + 1) co) ((j + 1 : Nat) : Int) E.k (.iface 74 (.pointer (some ⟨E.Ce, 0, none⟩)))
  ownI : w.ownsRow E.B 23 1 (.slice ai (j + 1) ci) (j + 1) (idsAt E.D (j + 1))
  ownO : w.ownsRow E.B 2 1 (.slice ao (j + 1) co) (j + 1) (offsAt E.O (j + 1))
  S : Blk w E.Bs (seg e l (.slice am (marksAt E (j + 1)).length cm)) 31
  ownM : w.ownsRow E.B 28 2 (.slice am (marksAt E (j + 1)).length cm) (marksAt E (j + 1)).length (mc (marksAt E (j + 1)))
  bat : ∃ cur : Array Value, Blk w E.Bb cur 39 ∧ ∀ i, i < E.m → ∀ t, t < 12 → cur[i * 12 + t]? = (msg (E.D i) (E.O i) (E.Z i))[t]?
  T : Turn E.B E.gx TS w0 w
  bs : E.B ≤ E.Bs
  x1 : some E.Bs ≠ E.gx
  x2 : ∀ q, Value.ownBlock (.slice am (marksAt E (j + 1)).length cm) = some q → some q ≠ E.gx
  x3 : ∀ q, E.gx = some q → ∃ cs, Blk w q cs 28

theorem St.marked (s : St E w0 w1 (j + 1) j ai ci ao co am cm) (S2 : Blk w2 E.Bs (seg (endAt E j) (lastAt E j) (.slice am' (nextM (marksAt E j) (E.O j) (E.D j)).length cm')) 31)
    (o2 : w2.ownsRow E.B 28 2 (.slice am' (nextM (marksAt E j) (E.O j) (E.D j)).length cm') (nextM (marksAt E j) (E.O j) (E.D j)).length (mc (nextM (marksAt E j) (E.O j) (E.D j))))
    (T2 : Turn E.B E.gx [31, 28] w1 w2) (x2 : ∀ k, Value.ownBlock (.slice am' (nextM (marksAt E j) (E.O j) (E.D j)).length cm') = some k → some k ≠ E.gx) :
    Mid E w0 w2 j ai ci ao co am' cm' (endAt E j) (lastAt E j) := by
  have V := s.V
  obtain ⟨cur, hb, hc⟩ := s.bat
  refine ⟨⟨Nat.le_trans V.sz T2.size, V.bi, V.bo, V.bc, T2.blk V.hI (by decide), T2.blk V.hO (by decide), T2.blk V.hC (by decide), T2.blk V.hK (by decide), T2.blk V.hS (by decide), V.ck⟩, T2.owns s.ownI (by decide), T2.owns s.ownO (by decide), S2, o2, ⟨cur, T2.blk hb (by decide), hc⟩, s.T.trans (T2.mono (by decide)), s.bs, s.x1, x2, fun q hq => ?_⟩
  obtain ⟨cs, h⟩ := s.x3 q hq
  have T2' := T2
  rw [hq] at T2'
  exact ⟨cs, T2'.kept h⟩

/-- A store into the segment's end or last id. -/
theorem Mid.put {e l : Int} (s : Mid E w0 w j ai ci ao co am cm e l) (o : Nat) (v : Value) {e' l' : Int} (hs : (seg e l (.slice am (marksAt E (j + 1)).length cm)).setIfInBounds o v = seg e' l' (.slice am (marksAt E (j + 1)).length cm)) :
    Mid E w0 (w.setCell ⟨E.Bs, o, none⟩ v) j ai ci ao co am cm e' l' := by
  have V := s.V
  obtain ⟨cur, hb, hc⟩ := s.bat
  have n1 := fun {b : Nat} {cs : Array Value} {t : TypeId} (h : Blk w b cs t) (ht : t ≠ 31) => h.setCell_ne (a := ⟨E.Bs, o, none⟩) (h.ne s.S ht) v
  refine ⟨⟨by simpa [World.setCell] using V.sz, V.bi, V.bo, V.bc, n1 V.hI (by decide), n1 V.hO (by decide), n1 V.hC (by decide), n1 V.hK (by decide), n1 V.hS (by decide), V.ck⟩, own_setCell_ne s.ownI (p := ⟨E.Bs, o, none⟩) s.S (by decide) v, own_setCell_ne s.ownO (p := ⟨E.Bs, o, none⟩) s.S (by decide) v, hs ▸ s.S.setCell o v, own_setCell_ne s.ownM (p := ⟨E.Bs, o, none⟩) s.S (by decide) v, ⟨cur, n1 hb (by decide), hc⟩, s.T.setCell (p := ⟨E.Bs, o, none⟩) s.S s.bs s.x1 (by decide) v, s.bs, s.x1, s.x2, fun q hq => ?_⟩
  obtain ⟨cs, h⟩ := s.x3 q hq
  exact ⟨cs, n1 h (by decide)⟩

theorem Mid.done (s : Mid E w0 w j ai ci ao co am cm (endAt E (j + 1)) (lastAt E (j + 1))) : St E w0 w (j + 1) (j + 1) ai ci ao co am cm :=
  ⟨s.V, s.ownI, s.ownO, s.S, s.ownM, s.bat, s.T, s.bs, s.x1, s.x2, s.x3⟩
theorem Mid.both1 (s : Mid E w0 w j ai ci ao co am cm (endAt E j) (lastAt E j)) : St E w0 ((w.setCell ⟨E.Bs, 3, none⟩ (.int .i64 (wrap64 (E.O j + E.Z j)))).setCell ⟨E.Bs, 4, none⟩ (.int .u64 (E.D j))) (j + 1) (j + 1) ai ci ao co am cm :=
  ((s.put 3 (.int .i64 (wrap64 (E.O j + E.Z j))) (e' := endAt E (j + 1)) (l' := lastAt E j) rfl).put 4 (.int .u64 (E.D j)) (e' := endAt E (j + 1)) (l' := lastAt E (j + 1)) rfl).done
theorem Mid.both2 (s : Mid E w0 w j ai ci ao co am cm (endAt E j) (lastAt E j)) : St E w0 ((w.setCell ⟨E.Bs, 4, none⟩ (.int .u64 (E.D j))).setCell ⟨E.Bs, 3, none⟩ (.int .i64 (wrap64 (E.O j + E.Z j)))) (j + 1) (j + 1) ai ci ao co am cm :=
  ((s.put 4 (.int .u64 (E.D j)) (e' := endAt E j) (l' := lastAt E (j + 1)) rfl).put 3 (.int .i64 (wrap64 (E.O j + E.Z j))) (e' := endAt E (j + 1)) (l' := lastAt E (j + 1)) rfl).done
end

set_option maxRecDepth 100000 in
set_option maxHeartbeats 1600000 in
theorem take_any (E : Env) (w : World) (hm : E.m ≤ 1024) (hk : E.k ≤ E.m) (h0 : E.M0.length ≤ 1024) (ai : Option Addr) (ci : Nat) (ao : Option Addr) (co : Nat) (am : Option Addr) (cm : Nat) (s0 : St E w w 0 0 ai ci ao co am cm) :
    Calls Yba.prog 8 #[.pointer (some ⟨E.Bs, 0, none⟩), .slice (some ⟨E.Bb, 0, none⟩) E.m E.m, .func (Fn.func 7) #[] #[.pointer (some ⟨E.Ci, 0, none⟩), .pointer (some ⟨E.Co, 0, none⟩), .pointer (some ⟨E.Cc, 0, none⟩), .pointer (some ⟨E.Ck, 0, none⟩), .pointer (some ⟨E.Cs, 0, none⟩)]] w fun en w' =>
      (E.k < E.m → en = .returned (.iface 74 (.pointer (some ⟨E.Ce, 0, none⟩))) ∧ ∃ ai ci ao co am cm, St E w w' (E.k + 1) E.k ai ci ao co am cm) ∧ (E.k = E.m → en = .returned .nilIface ∧ ∃ ai ci ao co am cm, St E w w' E.m E.m ai ci ao co am cm) := by
  go_enter Yba.func8, Yba.ntmps8
  go_wp2
  go_loopw [12] (fun i wr => ∃ j : Nat, j ≤ E.k ∧ i = .int .i64 j ∧ ∃ ai ci ao co am cm, St E w wr j j ai ci ao co am cm) (fun i _ => E.m - (intOf i).toNat)
  case atStart => exact ⟨0, Nat.zero_le _, rfl, ai, ci, ao, co, am, cm, s0⟩
  case round =>
    clear s0 ai ci ao co am cm
    obtain ⟨j, hj, rfl, ai, ci, ao, co, am, cm, s⟩ := hrel
    by_cases hlt : j < E.m
    · by_cases hjk : j < E.k
      · obtain ⟨b0, b1, b2, b3, b4, b5, b6, b7, b8, b9, b10, b11⟩ := s.batch j hlt
        have HS := hide s
        clear s
        go_wp2_with fail
        refine (each_miss _ E.B E.Ci E.Co E.Cc E.Ck E.Cs ai ao ci co (.iface 74 (.pointer (some ⟨E.Ce, 0, none⟩))) j E.k (E.D j) (E.O j) (E.Z j) j (idsAt E.D j) (offsAt E.O j) ((unhide HS).V.alloc _) ((unhide HS).ownI.alloc _) ((unhide HS).ownO.alloc _) (by omega) (by omega) (by omega) (by omega)).mono ?_
        rintro en w1 ⟨rfl, ai', ci', ao', co', V1, o1, o2, T1⟩
        obtain ⟨s1, m1⟩ := (unhide HS).called V1 o1 o2 T1
        have c0 : w1.cell? ⟨wr.heap.size, 0, none⟩ = some (.int .u64 (E.D j)) := m1.cell 0
        have c6 : w1.cell? ⟨wr.heap.size, 6, none⟩ = some (.int .i64 (E.O j)) := m1.cell 6
        have HS1 := hide s1
        have HM1 := hide m1
        clear V1 o1 o2 T1 s1 m1 b0 b1 b2 b3 b4 b5 b6 b7 b8 b9 b10 b11
        go_wp2_with fail
        refine (mark_any _ E.B E.Bs am cm E.gx (endAt E j) (lastAt E j) (E.O j) (E.D j) (marksAt E j) (unhide HS1).S (unhide HS1).V.sz (unhide HS1).bs (unhide HS1).ownM (unhide HS1).x1 (unhide HS1).x2 (fun q hq => by obtain ⟨cs, h⟩ := (unhide HS1).x3 q hq; exact h.lt) (by have := marksAt_le E j; omega)).mono ?_
        rintro en w2 ⟨rfl, am', cm', S2, om2, T2, x2⟩
        have s2 := (unhide HS1).marked S2 om2 T2 x2
        have m2 := T2.blk (unhide HM1) (by decide)
        have c0 : w2.cell? ⟨wr.heap.size, 0, none⟩ = some (.int .u64 (E.D j)) := m2.cell 0
        have c6 : w2.cell? ⟨wr.heap.size, 6, none⟩ = some (.int .i64 (E.O j)) := m2.cell 6
        have c7 : w2.cell? ⟨wr.heap.size, 7, none⟩ = some (.int .i64 (E.Z j)) := m2.cell 7
        have d3 : w2.cell? ⟨E.Bs, 3, none⟩ = some (.int .i64 (endAt E j)) := s2.S.cell 3
        have d4 : w2.cell? ⟨E.Bs, 4, none⟩ = some (.int .u64 (lastAt E j)) := s2.S.cell 4
        have g3 : w2.frozen? ⟨E.Bs, 3, none⟩ = false := s2.S.free 3
        have g4 : w2.frozen? ⟨E.Bs, 4, none⟩ = false := s2.S.free 4
        have ne : ¬ wr.heap.size = E.Bs := m2.ne s2.S (by decide)
        have ne' : ¬ E.Bs = wr.heap.size := s2.S.ne m2 (by decide)
        have HS2 := hide s2
        clear S2 om2 T2 x2 s2 m2 HS1 HM1 HS
        go_wp2
        go_region_held3 (fun w' => w'.cell? ⟨wr.heap.size, 0, none⟩ = some (.int .u64 (E.D j)) ∧ w'.cell? ⟨wr.heap.size, 6, none⟩ = some (.int .i64 (E.O j)) ∧ w'.cell? ⟨wr.heap.size, 7, none⟩ = some (.int .i64 (E.Z j))) (go_keep) (fail)
        all_goals go_wp2
        go_roundw
        case rel => exact ⟨j + 1, by omega, by go_num, ai', ci', ao', co', am', cm', (unhide HS2).both1.drewN 1⟩
        case measure => simp [intOf]; omega
      · obtain ⟨b0, b1, b2, b3, b4, b5, b6, b7, b8, b9, b10, b11⟩ := s.batch j hlt
        have HS := hide s
        clear s
        go_wp2_with fail
        refine (each_hit _ E.B E.Ci E.Co E.Cc E.Ck E.Cs ai ao ci co (.iface 74 (.pointer (some ⟨E.Ce, 0, none⟩))) j E.k (E.D j) (E.O j) (E.Z j) j (idsAt E.D j) (offsAt E.O j) ((unhide HS).V.alloc _) ((unhide HS).ownI.alloc _) ((unhide HS).ownO.alloc _) (by omega) (by omega) (by omega) (by omega) (by omega)).mono ?_
        rintro en w1 ⟨rfl, ai', ci', ao', co', V1, o1, o2, T1⟩
        obtain ⟨s1, _⟩ := (unhide HS).called V1 o1 o2 T1
        have HS1 := hide s1
        clear V1 o1 o2 T1 s1 b0 b1 b2 b3 b4 b5 b6 b7 b8 b9 b10 b11
        go_wp2
        go_ret
        have ej : j = E.k := by omega
        exact ⟨fun _ => ⟨rfl, ai', ci', ao', co', am, cm, ej ▸ unhide HS1⟩, fun h => by omega⟩
    · have HS := hide s
      clear s
      go_wp2
      go_ret
      have ej : j = E.m := by omega
      exact ⟨fun h => by omega, fun _ => ⟨rfl, ai, ci, ao, co, am, cm, ej ▸ unhide HS⟩⟩
end Go.Proofs.Ybulkchzq.Take
