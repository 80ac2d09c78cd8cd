/- zzs4203abuild: what it makes. -/
import Derived.Test.YbulkciaeForget
import Derived.Maps.Own
import Derived.OwnWalk
import Derived.Carry
namespace Go.Proofs.Ybulkciae.Forget
open Go Go.RowKit Go.Proofs.Ybulkciae.Mem

theorem info63 : (Yba.prog.info? 63).map (fun i => (i.zero, i.size, i.bytes)) = some (some (.pointer none), 1, 8) := by kernel_rfl
theorem info57 : (Yba.prog.info? 57).map (fun i => (i.zero, i.size, i.bytes)) = some (some (.pointer none), 1, 8) := by kernel_rfl
theorem make24 (n : Nat) (hn : n ≤ 255) : ∃ cs : Array Value, cs.size = n ∧ ∀ w, (Instr.makeSlice 24 (.int .i64 n) (.int .i64 n)).run Yba.prog w = .ok (.slice (some ⟨w.heap.size, 0, none⟩) n n) (w.alloc (.cells cs 63)) := by
  obtain ⟨i0, hi, hz0, hz1, hz2⟩ := info_parts info63
  refine ⟨madeCells (Value.cells (.pointer none)) (n * i0.size), by rw [size_madeCells, hz1]; omega, fun w => ?_⟩
  have := run_make (P := Yba.prog) w 24 63 i0 _ Yba.underlying24 hi hz0 .i64 .i64 n n (by omega) (Int.le_refl _) (by rw [hz2]; omega) (by omega)
  simpa using this
theorem make25 (n : Nat) (hn : n ≤ 255) : ∃ cs : Array Value, cs.size = n ∧ ∀ w, (Instr.makeSlice 25 (.int .i64 n) (.int .i64 n)).run Yba.prog w = .ok (.slice (some ⟨w.heap.size, 0, none⟩) n n) (w.alloc (.cells cs 57)) := by
  obtain ⟨i0, hi, hz0, hz1, hz2⟩ := info_parts info57
  refine ⟨madeCells (Value.cells (.pointer none)) (n * i0.size), by rw [size_madeCells, hz1]; omega, fun w => ?_⟩
  have := run_make (P := Yba.prog) w 25 57 i0 _ Yba.underlying25 hi hz0 .i64 .i64 n n (by omega) (Int.le_refl _) (by rw [hz2]; omega) (by omega)
  simpa using this

section
variable (w : World) {ops : Array Oper} {rest : List Oper} {o : Oper} {a : Act} {Q : Exit → Act → World → Prop}
theorem wpList_make_at (hg : o.guard = none) (l c : Operand) (t : TypeId) (hop : o.op = Op.makeSlice t l c) {vl vc v : Value} {wz : World} (h1 : a.eval l = vl) (h2 : a.eval c = vc)
    (hrun : (Instr.makeSlice t vl vc).run Yba.prog w = .ok v wz) (hK : wpList Yba.prog ops Q rest (a.put o.dst v) wz) : wpList Yba.prog ops Q (o :: rest) a w := by
  refine wpList_plain hg fun K' hK' => ?_
  unfold Oper.wp
  simp [execOp, hop, h1, h2, hrun, Result.andThen]
  exact hK' _ _ hK
theorem wpList_mapUpdate_at (hg : o.guard = none) (m x v : Operand) (hop : o.op = Op.mapUpdate 56 m x v) {vm vx vv : Value} {wz : World} (h1 : a.eval m = vm) (h2 : a.eval x = vx) (h3 : a.eval v = vv)
    (hrun : (Instr.mapUpdate 56 vm vx vv).run Yba.prog w = .ok () wz) (hK : wpList Yba.prog ops Q rest (a.put o.dst undef) wz) : wpList Yba.prog ops Q (o :: rest) a w := by
  refine wpList_plain hg fun K' hK' => ?_
  unfold Oper.wp
  simp [execOp, hop, h1, h2, h3, hrun, Result.andThen]
  exact hK' _ _ hK
end
/-- A pointer into a cell that stands. -/
theorem wpList_store_ptr (w : World) {ops : Array Oper} {rest : List Oper} {o : Oper} {a : Act} {Q : Exit → Act → World → Prop} (hg : o.guard = none) (ty : TypeId) (x y : Operand) (ho : o.op = .store ty x y)
    (b k : Nat) (p : Option Addr) (hx : a.eval x = .pointer (some ⟨b, k, none⟩)) (hy : a.eval y = .pointer p) {old : Value} (hc : w.cell? ⟨b, k, none⟩ = some old) (hf : w.frozen? ⟨b, k, none⟩ = false) (hi : (Yba.prog.info? ty).map (·.size) = some 1)
    (h : wpList Yba.prog ops Q rest (a.put o.dst undef) (w.setCell ⟨b, k, none⟩ (.pointer p))) : wpList Yba.prog ops Q (o :: rest) a w := by
  refine wpList_plain hg fun K' hK' => ?_
  unfold Oper.wp execOp
  cases hq : Yba.prog.info? ty with
  | none => simp [hq] at hi
  | some i =>
    have hs : i.size = 1 := by simpa [hq] using hi
    have hr : (storeVar ty ⟨b, k, none⟩ (.pointer p)).run Yba.prog w = .ok () (w.setCell ⟨b, k, none⟩ (.pointer p)) := by
      have e0 : (⟨b, k, none⟩ : Addr).add 0 = ⟨b, k, none⟩ := by unfold Addr.add; split <;> simp_all
      simp [storeVar, sizeOf, typeInfo, hq, hs, Value.cells, storeCells, run_store_pointer, stored, e0, hc, hf]
    simp only [ho, hx, hy, Instr.storeAt, Instr.sureAddr, Sem.run_bind, Sem.run_pure, Result.andThen_ok, hr]
    exact hK' _ _ h
theorem PRow.any {w : World} {g n K : Nat} {f : Nat → Nat} {t : TypeId} (h : PRow w g n K f t) {i : Nat} (hi : i < n) : (∃ v, w.cell? ⟨g, i, none⟩ = some v) ∧ w.frozen? ⟨g, i, none⟩ = false ∧ g < w.heap.size := by
  obtain ⟨cs, h1, h2, h3⟩ := h
  exact ⟨⟨cs[i]'(by omega), (h1.cell i).trans (by simp [h2, hi])⟩, h1.free i, h1.lt⟩

theorem keeps {w : World} {b k : Nat} {v : Value} (hb : b < w.heap.size) (hc : w.cell? ⟨b, k, none⟩ = some v) (hf : w.frozen? ⟨b, k, none⟩ = false) :
    (∀ o1 o2 o3, (((w.alloc o1).alloc o2).alloc o3).cell? ⟨b, k, none⟩ = some v) ∧ (∀ o1 o2 o3, (((w.alloc o1).alloc o2).alloc o3).frozen? ⟨b, k, none⟩ = false) := by
  have e : ∀ o1 o2 o3, (((w.alloc o1).alloc o2).alloc o3).heap[b]? = w.heap[b]? := fun o1 o2 o3 => by
    rw [Below.heap_alloc _ _ _ (by simp; omega), Below.heap_alloc _ _ _ (by simp; omega), Below.heap_alloc _ _ _ hb]
  exact ⟨fun o1 o2 o3 => (World.cell?_of_block (e o1 o2 o3)).trans hc, fun o1 o2 o3 => (World.frozen?_of_block (e o1 o2 o3)).trans hf⟩
theorem cell_far {w : World} (p : Addr) (v : Value) {q : Addr} (h : q.block ≠ p.block) : (w.setCell p v).cell? q = w.cell? q := World.cell?_of_block (Below.heap_setCell w p v q.block h)
theorem frozen_far {w : World} (p : Addr) (v : Value) {q : Addr} (h : q.block ≠ p.block) : (w.setCell p v).frozen? q = w.frozen? q := World.frozen?_of_block (Below.heap_setCell w p v q.block h)

/-- What the build stands at before the first round. -/
theorem Fs.start (w : World) (n : Nat) (cs cs' : Array Value) (h1 : cs.size = n) (h2 : cs'.size = n) :
    Fs w.heap.size w ((((w.alloc (.map #[] 0)).alloc (.cells (mg w.heap.size (.pointer none) false) 60)).alloc (.cells cs 63)).alloc (.cells cs' 57)) n 0 (List.range 0) (List.range 0) none false := by
  refine ⟨⟨#[], 0, ?_, by simp⟩, ?_, ⟨cs, ?_, h1, fun i hi => by omega⟩, ⟨cs', ?_, h2, fun i hi => by omega⟩, fun i hi => by omega, fun i hi => by omega, fun i hi => by omega, fun r hr => (by cases hr), List.nodup_range, List.nodup_range, fun i hi => by simp at hi, by omega, ?_⟩
  · rw [Below.heap_alloc _ _ _ (by simp; omega), Below.heap_alloc _ _ _ (by simp; omega), Below.heap_alloc _ _ _ (by simp)]
    exact heap_alloc_new w _
  · refine Blk.alloc (Blk.alloc ?_ _) _
    have := Blk.new (w.alloc (.map #[] 0)) (mg w.heap.size (.pointer none) false) 60
    have e : (w.alloc (.map #[] 0)).heap.size = w.heap.size + 1 := by simp
    rw [e] at this
    exact this
  · refine Blk.alloc ?_ _
    have := Blk.new ((w.alloc (.map #[] 0)).alloc (.cells (mg w.heap.size (.pointer none) false) 60)) cs 63
    simpa using this
  · have := Blk.new (((w.alloc (.map #[] 0)).alloc (.cells (mg w.heap.size (.pointer none) false) 60)).alloc (.cells cs 63)) cs' 57
    simpa using this
  · exact ((((Below.refl _ w).alloc (Nat.le_refl _) _).alloc (by simp) _).alloc (by simp; omega) _).alloc (by simp; omega) _

/-- The round, by the addresses that the walk meets. -/
theorem Fs.round' {b : Nat} {w0 w : World} {n K : Nat} {sp : Bool} (h : Fs b w0 w n K (List.range K) (List.range K) none sp) (hK : K < n) (hw : w.heap.size = cAt b K) :
    (∃ wz, (Instr.mapUpdate 56 (.map (some b)) (ptr (w.heap.size + 1)) (ptr (w.heap.size + 1 + 1))).run Yba.prog (((((w.alloc (.cells (Forget.con true) 74)).alloc (.cells (Forget.ent w.heap.size) 86)).alloc (.cells (Forget.spc (ptr (w.heap.size + 1))) 105)).setCell ⟨b + 2, K, none⟩ (ptr (w.heap.size + 1))).setCell ⟨b + 3, K, none⟩ (ptr (w.heap.size + 1 + 1))) = .ok () wz ∧
      Fs b w0 wz n (K + 1) (List.range (K + 1)) (List.range (K + 1)) none sp ∧ wz.heap.size = cAt b (K + 1)) := by
  have e1 : w.heap.size + 1 = eAt b K := by rw [hw]; simp only [cAt, eAt]; omega
  have e2 : w.heap.size + 1 + 1 = sAt b K := by rw [hw]; simp only [cAt, sAt]; omega
  rw [e2, e1, hw]
  exact h.round hK hw

/-- The root space. -/
theorem Fs.give_root {b : Nat} {w0 w : World} {n : Nat} {l m : List Nat} {sp : Bool} (h : Fs b w0 w n n l m none sp) (hw : w.heap.size = cAt b n) :
    Fs b w0 ((w.alloc (.cells (Forget.spc (.pointer none)) 105)).setCell ⟨b + 1, 27, none⟩ (ptr w.heap.size)) n n l m (some (b + 4 + 3 * n)) sp := by
  have hbw : b ≤ w.heap.size := by rw [hw]; simp only [cAt]; omega
  have h1 : Fs b w0 (w.alloc (.cells (Forget.spc (.pointer none)) 105)) n n l m none sp :=
    ⟨h.map.alloc _, h.mgr.alloc _, h.es.alloc _, h.ss.alloc _, fun j hj => (h.con j hj).alloc _, fun j hj => (h.ent j hj).alloc _, fun j hj => (h.spc j hj).alloc _, fun r hr => (by cases hr), h.nl, h.nm, h.sub, h.le, h.below.alloc hbw _⟩
  have hr : Blk (w.alloc (.cells (Forget.spc (.pointer none)) 105)) (b + 4 + 3 * n) (Forget.spc (.pointer none)) 105 := by
    have := Blk.new w (Forget.spc (.pointer none)) 105
    rw [hw] at this; exact this
  rw [hw]
  have hb := h1.mgr
  refine ⟨h1.map.setCell (a := ⟨b + 1, 27, none⟩) hb _, hb.setCell 27 _, h1.es.setCell_ne (a := ⟨b + 1, 27, none⟩) hb (by decide) _, h1.ss.setCell_ne (a := ⟨b + 1, 27, none⟩) hb (by decide) _,
    fun j hj => (h1.con j hj).setCell_ne (a := ⟨b + 1, 27, none⟩) (Blk.ne (h1.con j hj) hb (by decide)) _, fun j hj => (h1.ent j hj).setCell_ne (a := ⟨b + 1, 27, none⟩) (Blk.ne (h1.ent j hj) hb (by decide)) _, fun j hj => (h1.spc j hj).setCell_ne (a := ⟨b + 1, 27, none⟩) (Blk.ne (h1.spc j hj) hb (by decide)) _, fun r e => ?_, h1.nl, h1.nm, h1.sub, h1.le, h1.below.setCell (by simp only; omega) _⟩
  cases e
  exact ⟨hr.setCell_ne (a := ⟨b + 1, 27, none⟩) (Blk.ne hr hb (by decide)) _, rfl⟩

def rootOf (b n : Nat) (r : Bool) : Option Nat := if r then some (b + 4 + 3 * n) else none

set_option maxRecDepth 100000 in
set_option maxHeartbeats 1600000 in
theorem build_any (n : Nat) (r : Bool) (hn : n ≤ 255) (w : World) :
    Calls Yba.prog 7 #[.int .i64 n, .bool r] w fun e w' => e = .returned (.tuple #[ptr (w.heap.size + 1), .slice (some ⟨w.heap.size + 2, 0, none⟩) n n, .slice (some ⟨w.heap.size + 3, 0, none⟩) n n]) ∧
      Fs w.heap.size w w' n n (List.range n) (List.range n) (rootOf w.heap.size n r) (r || decide (0 < n)) := by
  obtain ⟨cs, hcs, mk1⟩ := make24 n hn
  obtain ⟨cs', hcs', mk2⟩ := make25 n hn
  have hmm := @run_makeMap Yba.prog
  have P0 := Fs.start w n cs cs' hcs hcs'
  have HP := hide P0
  clear P0
  go_enter Yba.func7, Yba.ntmps7
  go_wp2_with (first | (at_make; refine wpList_make_at _ rfl (.tmp 16) (.tmp 16) 24 rfl rfl rfl (mk1 _) ?_) | (at_make; refine wpList_make_at _ rfl (.tmp 18) (.tmp 18) 25 rfl rfl rfl (mk2 _) ?_))
  go_loopw [10] (fun v10 wr => ∃ K : Nat, K ≤ n ∧ v10 = .int .i64 K ∧ Fs w.heap.size w wr n K (List.range K) (List.range K) none false ∧ wr.heap.size = cAt w.heap.size K) (fun v _ => n - (intOf v).toNat)
  case atStart => exact ⟨0, Nat.zero_le _, rfl, unhide HP, by simp [cAt]⟩
  case round =>
    clear HP mk1 mk2 hmm hcs hcs' cs cs'
    obtain ⟨K, hKn, rfl, P, hw⟩ := hrel
    by_cases hlt : K < n
    · obtain ⟨⟨v1, a1⟩, a2, a3⟩ := P.es.any hlt
      obtain ⟨⟨v2, b1⟩, b2, b3⟩ := P.ss.any hlt
      have lm := P.mgr.lt
      obtain ⟨A1, A2⟩ : (∀ o1 o2 o3, (((wr.alloc o1).alloc o2).alloc o3).cell? ⟨w.heap.size + 1 + 1, K, none⟩ = some v1) ∧ (∀ o1 o2 o3, (((wr.alloc o1).alloc o2).alloc o3).frozen? ⟨w.heap.size + 1 + 1, K, none⟩ = false) := keeps a3 a1 a2
      obtain ⟨B1, B2⟩ : (∀ o1 o2 o3, (((wr.alloc o1).alloc o2).alloc o3).cell? ⟨w.heap.size + 1 + 1 + 1, K, none⟩ = some v2) ∧ (∀ o1 o2 o3, (((wr.alloc o1).alloc o2).alloc o3).frozen? ⟨w.heap.size + 1 + 1 + 1, K, none⟩ = false) := keeps b3 b1 b2
      obtain ⟨C1, _⟩ : (∀ o1 o2 o3, (((wr.alloc o1).alloc o2).alloc o3).cell? ⟨w.heap.size + 1, 26, none⟩ = some (.map (some w.heap.size))) ∧ (∀ o1 o2 o3, (((wr.alloc o1).alloc o2).alloc o3).frozen? ⟨w.heap.size + 1, 26, none⟩ = false) := keeps lm (P.mgr.cell 26) (P.mgr.free 26)
      obtain ⟨wz, hrun, P1, hwz⟩ := P.round' hlt hw
      have HR := hide hrun
      have HP := hide P1
      have HW := hide hwz
      have HA1 := hide A1
      have HA2 := hide A2
      have HB1 : Hid (∀ o1 o2 o3 v, ((((wr.alloc o1).alloc o2).alloc o3).setCell ⟨w.heap.size + 1 + 1, K, none⟩ v).cell? ⟨w.heap.size + 1 + 1 + 1, K, none⟩ = some v2) := fun o1 o2 o3 v => (cell_far _ _ (by simp)).trans (B1 o1 o2 o3)
      have HB2 : Hid (∀ o1 o2 o3 v, ((((wr.alloc o1).alloc o2).alloc o3).setCell ⟨w.heap.size + 1 + 1, K, none⟩ v).frozen? ⟨w.heap.size + 1 + 1 + 1, K, none⟩ = false) := fun o1 o2 o3 v => (frozen_far _ _ (by simp)).trans (B2 o1 o2 o3)
      have HC1 : ∀ o1 o2 o3 v v', (((((wr.alloc o1).alloc o2).alloc o3).setCell ⟨w.heap.size + 1 + 1, K, none⟩ v).setCell ⟨w.heap.size + 1 + 1 + 1, K, none⟩ v').cell? ⟨w.heap.size + 1, 26, none⟩ = some (.map (some w.heap.size)) := fun o1 o2 o3 v v' => (cell_far _ _ (by simp)).trans ((cell_far _ _ (by simp)).trans (C1 o1 o2 o3))
      clear hrun P1 hwz P hw hKn A1 A2 B1 B2 C1 a1 a2 b1 b2 a3 b3 lm
      go_wp2_with (first
        | (refine wpList_store_ptr _ (by rfl) 63 (.tmp 35) (.tmp 34) (by rfl) (w.heap.size + 1 + 1) K (some ⟨wr.heap.size + 1, 0, none⟩) (by rfl) (by rfl) (by exact unhide HA1 _ _ _) (by exact unhide HA2 _ _ _) (by kernel_rfl) ?_)
        | (refine wpList_store_ptr _ (by rfl) 57 (.tmp 39) (.tmp 38) (by rfl) (w.heap.size + 1 + 1 + 1) K (some ⟨wr.heap.size + 1 + 1, 0, none⟩) (by rfl) (by rfl) (by exact unhide HB1 _ _ _ _) (by exact unhide HB2 _ _ _ _) (by kernel_rfl) ?_)
        | (at_mapUpdate; refine wpList_mapUpdate_at _ rfl (.tmp 43) (.tmp 44) (.tmp 45) rfl rfl rfl rfl (by exact unhide HR) ?_))
      go_roundw
      case rel => exact ⟨K + 1, by omega, by go_num, unhide HP, unhide HW⟩
      case measure => simp [intOf]; omega
    · have e : n = K := by omega
      subst e
      have c27 : wr.cell? ⟨w.heap.size + 1, 27, none⟩ = some (.pointer none) := P.mgr.cell 27
      have f27 : wr.frozen? ⟨w.heap.size + 1, 27, none⟩ = false := P.mgr.free 27
      have c28 : wr.cell? ⟨w.heap.size + 1, 28, none⟩ = some (.bool false) := P.mgr.cell 28
      have f28 : wr.frozen? ⟨w.heap.size + 1, 28, none⟩ = false := P.mgr.free 28
      have lm := P.mgr.lt
      cases r with
      | true =>
        have P1 := (P.give_root hw).put_spaced true
        rw [World.setCell_alloc_past _ _ _ _ lm, World.setCell_alloc_past _ _ _ _ (by simpa [World.setCell] using lm)] at P1
        have HP := hide P1
        clear P1 P hw hKn
        go_wp2
        go_ret3
        exact ⟨rfl, unhide HP⟩
      | false =>
        have P1 := P.put_spaced (decide (0 < n))
        have HP := hide P1
        clear P1 P hw hKn
        by_cases h0 : 0 < n
        · go_wp2
          go_ret3
          have := unhide HP
          rw [decide_eq_true h0] at this
          exact ⟨rfl, by simpa [rootOf, h0] using this⟩
        · go_wp2
          go_ret3
          have := unhide HP
          rw [decide_eq_false h0] at this
          exact ⟨rfl, by simpa [rootOf, h0] using this⟩
end Go.Proofs.Ybulkciae.Forget
