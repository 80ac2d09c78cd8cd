/- forgetSpace: what it does to the manager, the map and the marks. -/
import Derived.Test.YbulkciaeState
import Derived.Deep.QuietTactic
import Derived.BigQuiet
import Derived.Deep.RegionLaw
import Derived.Deep.RegionHeld3
namespace Go.Proofs.Ybulkciae.Forget
open Go Go.RowKit Go.Proofs.Ybulkciae.Mem

theorem clearKeys_nil (v : Value) (w : World) : Calls Yba.prog 17 #[.pointer none, v] w fun e w' => e = .returned (.tuple #[]) ∧ w' = w := by
  go_enter Yba.func17, Yba.ntmps17
  go_wp2
  refine bodyPost_ret (results_none rfl _ _ _) rfl ?_
  exact ⟨rfl, rfl⟩
theorem clear_nil (b : Nat) (v : Value) (w : World) (hb : b < w.heap.size) (hc : w.cell? ⟨b, 3, none⟩ = some (.pointer none)) (hf : w.frozen? ⟨b, 3, none⟩ = false) :
    Calls Yba.prog 12 #[.pointer (some ⟨b, 3, none⟩), v] w fun e w' => e = .returned (.tuple #[]) ∧ w' = w.setCell ⟨b, 3, none⟩ (.pointer none) := by
  go_enter Yba.func12, Yba.ntmps12
  go_wp2_with fail
  refine (clearKeys_nil _ _).mono ?_
  rintro e w' ⟨rfl, rfl⟩
  go_wp2
  go_end0
  exact ⟨rfl, rfl⟩

/-- delete(m, k), the key there, at a step of a region that draws. -/
theorem step_delete_ptr (w : World) {ops : Array Oper} {o : Oper} {a : Act} {K : Act → World → Prop} {Q : Exit → Act → World → Prop} {X : Prop} (hgd : o.guard = none) (m x : Operand)
    (ho : o.op = .call { callee := .builtin .delete, args := #[m, x], argTypes := #[56, 63] }) {Bm : Nat} {l : List Nat} {E S : Nat → Nat} {n : Nat}
    (hm : a.eval m = .map (some Bm)) (hx : a.eval x = ptr (E n)) (h : MapAt w Bm l E S) {ck : Array Value} {tk : TypeId} (hk : Blk w (E n) ck tk) (hn : n ∈ l) (hb : ∀ i ∈ l, i ≠ n → E i ≠ E n ∧ ∃ cs t, Blk w (E i) cs t)
    (hK : ∀ w', MapAt w' Bm (l.erase n) E S → w.grownBy w' (some Bm) → K (a.put o.dst (.tuple #[])) w') :
    if Region.wanted o (yielded ops a.tmps) = true then Oper.wp Yba.prog o a w K Q else X := by
  have hw : Region.wanted o (yielded ops a.tmps) = true := by simp [Region.wanted, hgd]
  rw [if_pos hw]
  obtain ⟨w', hrun, r1, r2⟩ := h.drop hk hn hb o.type
  unfold Oper.wp
  simp [execOp, ho, resolve, invoke, builtin, hm, hx, hrun, Result.andThen]
  exact hK w' r1 r2

theorem run_len {w : World} {Bm : Nat} {l : List Nat} {E S : Nat → Nat} (h : MapAt w Bm l E S) : (Builtin.len_ #[56] 3 #[.map (some Bm)]).run Yba.prog w = .ok (.int .i64 (l.length : Int)) w := by
  obtain ⟨es, clock, hm, hl⟩ := h.len
  rw [← hl]
  simp [Builtin.len_, run_underlying Yba.underlying56, getObj, Sem.run, hm, goInt]
/-- Whether a space is left. -/
def left (l : List Nat) (rv : Option Nat) : Bool := rv.isSome || decide (0 < l.length)

section
variable {b : Nat} {w0 w : World} {n K : Nat} {l : List Nat} {rv : Option Nat} {sp : Bool}
set_option maxRecDepth 100000 in
set_option maxHeartbeats 1600000 in
theorem forget_root {r : Nat} (h : Fs b w0 w n K l l (some r) sp) : Calls Yba.prog 8 #[ptr (b + 1), ptr r] w fun e w' => e = .returned (.tuple #[]) ∧ Fs b w0 w' n K l l none (left l none) := by
  obtain ⟨hR, er⟩ := h.root r rfl
  have c3 : w.cell? ⟨r, 3, none⟩ = some (.pointer none) := hR.cell 3
  have f3 : w.frozen? ⟨r, 3, none⟩ = false := hR.free 3
  have c0 : w.cell? ⟨r, 0, none⟩ = some (.pointer none) := hR.cell 0
  have c26 : w.cell? ⟨b + 1, 26, none⟩ = some (.map (some b)) := h.mgr.cell 26
  have c28 : w.cell? ⟨b + 1, 28, none⟩ = some (.bool sp) := h.mgr.cell 28
  have c27 : w.cell? ⟨b + 1, 27, none⟩ = some (ptr r) := h.mgr.cell 27
  have f27 : w.frozen? ⟨b + 1, 27, none⟩ = false := h.mgr.free 27
  have f28 : w.frozen? ⟨b + 1, 28, none⟩ = false := h.mgr.free 28
  have lr := hR.lt
  have lm := h.mgr.lt
  have h2 := (h.put_root rfl).drop_root
  have hlen : (Builtin.len_ #[56] 3 #[.map (some b)]).run Yba.prog (((w.setCell ⟨r, 3, none⟩ (.pointer none)).setCell ⟨b + 1, 27, none⟩ (.pointer none)).drew) = .ok (.int .i64 (l.length : Int)) (((w.setCell ⟨r, 3, none⟩ (.pointer none)).setCell ⟨b + 1, 27, none⟩ (.pointer none)).drew) := run_len (h2.drewN 1).map
  have fin : ∀ x, x = left l none → Fs b w0 ((((w.setCell ⟨r, 3, none⟩ (.pointer none)).setCell ⟨b + 1, 27, none⟩ (.pointer none)).drew).setCell ⟨b + 1, 28, none⟩ (.bool x)) n K l l none (left l none) := by
    rintro x rfl
    exact (h2.drewN 1).put_spaced _
  have hx : left l none = decide (0 < l.length) := by simp [left]
  have H2 := hide fin
  have HX := hide hx
  clear fin h2 hR h er hx
  unfold ptr
  go_enter Yba.func8, Yba.ntmps8
  go_wp2
  go_region_held3 (fun _ => True) (trivial) ((go_at_call 12; refine (clear_nil _ _ _ (by exact lr) (by exact c3) (by exact f3)).mono ?_; rintro e w' ⟨rfl, rfl⟩))
  generalize l.length = q at *
  by_cases hl : 0 < q
  · go_wp2
    go_end0
    refine ⟨rfl, unhide H2 _ ?_⟩
    have := unhide HX
    simp [this]; omega
  · go_wp2
    go_end0
    refine ⟨rfl, unhide H2 _ ?_⟩
    have := unhide HX
    simp [this]; omega

theorem facts1 {w1 : World} {i : Nat} (h2 : Fs b w0 w1 n K (l.erase i) l rv sp) (hiK : i < K) :
    w1.cell? ⟨sAt b i, 0, none⟩ = some (.pointer (some ⟨eAt b i, 0, none⟩)) ∧ w1.cell? ⟨eAt b i, 2, none⟩ = some (.pointer (some ⟨cAt b i, 0, none⟩)) ∧ w1.cell? ⟨cAt b i, 30, none⟩ = some (.bool (decide (i ∈ l))) ∧ w1.frozen? ⟨cAt b i, 30, none⟩ = false ∧
    w1.cell? ⟨b + 1, 26, none⟩ = some (.map (some b)) ∧ w1.cell? ⟨b + 1, 27, none⟩ = some (rootV rv) ∧ w1.cell? ⟨b + 1, 28, none⟩ = some (.bool sp) ∧ w1.frozen? ⟨b + 1, 28, none⟩ = false ∧
    sAt b i < w1.heap.size ∧ eAt b i < w1.heap.size ∧ cAt b i < w1.heap.size ∧ b + 1 < w1.heap.size :=
  ⟨(h2.spc i hiK).cell 0, (h2.ent i hiK).cell 2, (h2.con i hiK).cell 30, (h2.con i hiK).free 30, h2.mgr.cell 26, h2.mgr.cell 27, h2.mgr.cell 28, h2.mgr.free 28, (h2.spc i hiK).lt, (h2.ent i hiK).lt, (h2.con i hiK).lt, h2.mgr.lt⟩
theorem facts2 {w1 : World} {i : Nat} (h2 : Fs b w0 w1 n K (l.erase i) l rv sp) (hiK : i < K) :
    (Builtin.len_ #[56] 3 #[.map (some b)]).run Yba.prog (w1.setCell ⟨cAt b i, 30, none⟩ (.bool false)).drew = .ok (.int .i64 ((l.erase i).length : Int)) (w1.setCell ⟨cAt b i, 30, none⟩ (.bool false)).drew ∧
    (Builtin.len_ #[56] 3 #[.map (some b)]).run Yba.prog (w1.setCell ⟨cAt b i, 30, none⟩ (.bool false)) = .ok (.int .i64 ((l.erase i).length : Int)) (w1.setCell ⟨cAt b i, 30, none⟩ (.bool false)) ∧
    Hid (∀ x, x = left (l.erase i) rv → ∀ q, Fs b w0 (((w1.setCell ⟨cAt b i, 30, none⟩ (.bool false)).drewN q).setCell ⟨b + 1, 28, none⟩ (.bool x)) n K (l.erase i) (l.erase i) rv (left (l.erase i) rv)) := by
  have h3 := h2.unmark hiK
  refine ⟨run_len (h3.drewN 1).map, run_len h3.map, ?_⟩
  rintro x rfl q
  exact (h3.drewN q).put_spaced _

set_option maxRecDepth 100000 in
set_option maxHeartbeats 1600000 in
theorem forget_some {i : Nat} {r : Nat} (h : Fs b w0 w n K l l (some r) sp) (hi : i ∈ l) : Calls Yba.prog 8 #[ptr (b + 1), ptr (sAt b i)] w fun e w' => e = .returned (.tuple #[]) ∧ Fs b w0 w' n K (l.erase i) (l.erase i) (some r) (left (l.erase i) (some r)) := by
  have hiK := h.sub i hi
  have hS := h.spc i hiK
  have c3 : w.cell? ⟨sAt b i, 3, none⟩ = some (.pointer none) := hS.cell 3
  have f3 : w.frozen? ⟨sAt b i, 3, none⟩ = false := hS.free 3
  have c0 : w.cell? ⟨sAt b i, 0, none⟩ = some (.pointer (some ⟨eAt b i, 0, none⟩)) := hS.cell 0
  have c26 : w.cell? ⟨b + 1, 26, none⟩ = some (.map (some b)) := h.mgr.cell 26
  have ls := hS.lt
  have lm := h.mgr.lt
  have h1 := h.put_spc hiK
  have H1 := hide h1
  have hE := h1.ent i hiK
  have HE := hide hE
  have ho := h1.others i
  have HO := hide ho
  have HiK := hide hiK
  have Hi := hide hi
  clear hS h h1 hE ho hiK hi
  unfold ptr
  go_enter Yba.func8, Yba.ntmps8
  go_wp2
  go_region_held3 (fun _ => True) (trivial) ((go_at_call 12; refine (clear_nil _ _ _ (by exact ls) (by exact c3) (by exact f3)).mono ?_; rintro e w' ⟨rfl, rfl⟩))
  go_wp2
  go_region_law ((refine step_delete_ptr _ (by rfl) (.tmp 23) (.tmp 27) (by rfl) (Bm := b) (l := l) (E := eAt b) (S := sAt b) (n := i) (by rfl) (by rfl) (by exact (unhide H1).map) (by exact unhide HE) (unhide Hi) (by exact unhide HO) ?_; intro w1 hm1 hg0; have hg1 : (w.setCell ⟨sAt b i, 3, none⟩ (.pointer none)).grownBy w1 (some b) := ⟨hg0.os, hg0.tape, hg0.output, hg0.size, hg0.block⟩; have h2 := (unhide H1).turn_drop hg1 hm1; clear hm1 hg0 hg1 c3 f3 c0 c26 ls lm H1 HE HO; obtain ⟨g1, g2, g3, g4, g5, g6, g7, g8, l1, l2, l3, l4⟩ := facts1 h2 (unhide HiK); obtain ⟨hlen1, hlen2, HF⟩ := facts2 h2 (unhide HiK); simp only [rootV, ptr] at g6; clear h2))
  all_goals
    go_wp2
    go_end0
    refine ⟨rfl, ?_⟩
    exact unhide HF _ (by simp [left]) 0

set_option maxRecDepth 100000 in
set_option maxHeartbeats 1600000 in
theorem forget_none1 {i : Nat} (h : Fs b w0 w n K l l none sp) (hi : i ∈ l) (hl : 0 < (l.erase i).length) : Calls Yba.prog 8 #[ptr (b + 1), ptr (sAt b i)] w fun e w' => e = .returned (.tuple #[]) ∧ Fs b w0 w' n K (l.erase i) (l.erase i) none (left (l.erase i) none) := by
  have hiK := h.sub i hi
  have hS := h.spc i hiK
  have c3 : w.cell? ⟨sAt b i, 3, none⟩ = some (.pointer none) := hS.cell 3
  have f3 : w.frozen? ⟨sAt b i, 3, none⟩ = false := hS.free 3
  have c0 : w.cell? ⟨sAt b i, 0, none⟩ = some (.pointer (some ⟨eAt b i, 0, none⟩)) := hS.cell 0
  have c26 : w.cell? ⟨b + 1, 26, none⟩ = some (.map (some b)) := h.mgr.cell 26
  have ls := hS.lt
  have lm := h.mgr.lt
  have h1 := h.put_spc hiK
  have H1 := hide h1
  have hE := h1.ent i hiK
  have HE := hide hE
  have ho := h1.others i
  have HO := hide ho
  have HiK := hide hiK
  have Hi := hide hi
  clear hS h h1 hE ho hiK hi
  unfold ptr
  go_enter Yba.func8, Yba.ntmps8
  go_wp2
  go_region_held3 (fun _ => True) (trivial) ((go_at_call 12; refine (clear_nil _ _ _ (by exact ls) (by exact c3) (by exact f3)).mono ?_; rintro e w' ⟨rfl, rfl⟩))
  go_wp2
  go_region_law ((refine step_delete_ptr _ (by rfl) (.tmp 23) (.tmp 27) (by rfl) (Bm := b) (l := l) (E := eAt b) (S := sAt b) (n := i) (by rfl) (by rfl) (by exact (unhide H1).map) (by exact unhide HE) (unhide Hi) (by exact unhide HO) ?_; intro w1 hm1 hg0; have hg1 : (w.setCell ⟨sAt b i, 3, none⟩ (.pointer none)).grownBy w1 (some b) := ⟨hg0.os, hg0.tape, hg0.output, hg0.size, hg0.block⟩; have h2 := (unhide H1).turn_drop hg1 hm1; clear hm1 hg0 hg1 c3 f3 c0 c26 ls lm H1 HE HO; obtain ⟨g1, g2, g3, g4, g5, g6, g7, g8, l1, l2, l3, l4⟩ := facts1 h2 (unhide HiK); obtain ⟨hlen1, hlen2, HF⟩ := facts2 h2 (unhide HiK); simp only [rootV] at g6; clear h2))
  all_goals
    go_wp2
    go_end0
    refine ⟨rfl, ?_⟩
    exact unhide HF _ (by simp only [left]; simp; omega) 0

set_option maxRecDepth 100000 in
set_option maxHeartbeats 1600000 in
theorem forget_none0 {i : Nat} (h : Fs b w0 w n K l l none sp) (hi : i ∈ l) (hl : ¬ 0 < (l.erase i).length) : Calls Yba.prog 8 #[ptr (b + 1), ptr (sAt b i)] w fun e w' => e = .returned (.tuple #[]) ∧ Fs b w0 w' n K (l.erase i) (l.erase i) none (left (l.erase i) none) := by
  have hiK := h.sub i hi
  have hS := h.spc i hiK
  have c3 : w.cell? ⟨sAt b i, 3, none⟩ = some (.pointer none) := hS.cell 3
  have f3 : w.frozen? ⟨sAt b i, 3, none⟩ = false := hS.free 3
  have c0 : w.cell? ⟨sAt b i, 0, none⟩ = some (.pointer (some ⟨eAt b i, 0, none⟩)) := hS.cell 0
  have c26 : w.cell? ⟨b + 1, 26, none⟩ = some (.map (some b)) := h.mgr.cell 26
  have ls := hS.lt
  have lm := h.mgr.lt
  have h1 := h.put_spc hiK
  have H1 := hide h1
  have hE := h1.ent i hiK
  have HE := hide hE
  have ho := h1.others i
  have HO := hide ho
  have HiK := hide hiK
  have Hi := hide hi
  clear hS h h1 hE ho hiK hi
  unfold ptr
  go_enter Yba.func8, Yba.ntmps8
  go_wp2
  go_region_held3 (fun _ => True) (trivial) ((go_at_call 12; refine (clear_nil _ _ _ (by exact ls) (by exact c3) (by exact f3)).mono ?_; rintro e w' ⟨rfl, rfl⟩))
  go_wp2
  go_region_law ((refine step_delete_ptr _ (by rfl) (.tmp 23) (.tmp 27) (by rfl) (Bm := b) (l := l) (E := eAt b) (S := sAt b) (n := i) (by rfl) (by rfl) (by exact (unhide H1).map) (by exact unhide HE) (unhide Hi) (by exact unhide HO) ?_; intro w1 hm1 hg0; have hg1 : (w.setCell ⟨sAt b i, 3, none⟩ (.pointer none)).grownBy w1 (some b) := ⟨hg0.os, hg0.tape, hg0.output, hg0.size, hg0.block⟩; have h2 := (unhide H1).turn_drop hg1 hm1; clear hm1 hg0 hg1 c3 f3 c0 c26 ls lm H1 HE HO; obtain ⟨g1, g2, g3, g4, g5, g6, g7, g8, l1, l2, l3, l4⟩ := facts1 h2 (unhide HiK); obtain ⟨hlen1, hlen2, HF⟩ := facts2 h2 (unhide HiK); simp only [rootV] at g6; clear h2))
  all_goals
    go_wp2
    go_end0
    refine ⟨rfl, ?_⟩
    exact unhide HF _ (by simp only [left]; rw [decide_eq_false hl]; rfl) 0
theorem forget_ent {i : Nat} (h : Fs b w0 w n K l l rv sp) (hi : i ∈ l) : Calls Yba.prog 8 #[ptr (b + 1), ptr (sAt b i)] w fun e w' => e = .returned (.tuple #[]) ∧ Fs b w0 w' n K (l.erase i) (l.erase i) rv (left (l.erase i) rv) := by
  cases rv with
  | some r => exact forget_some h hi
  | none =>
    by_cases hl : 0 < (l.erase i).length
    · exact forget_none1 h hi hl
    · exact forget_none0 h hi hl
end
end Go.Proofs.Ybulkciae.Forget
