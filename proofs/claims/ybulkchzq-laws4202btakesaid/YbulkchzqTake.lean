import Derived.Test.YbulkchzqMark
import Derived.Deep.RegionHeld3
namespace Go.Proofs.Ybulkchzq.Take
open Go Go.RowKit Go.Proofs.Ybulkchzq.Mem

def lastOff (M : List (Int × Int)) : Int := (M.getLast?.map (·.1)).getD 0
/-- What markLocked makes of the marks. -/
def nextM (M : List (Int × Int)) (o d : Int) : List (Int × Int) := if M = [] ∨ 262144 ≤ wrap64 (o - lastOff M) then M ++ [(o, d)] else M

theorem mc_append (M : List (Int × Int)) (o d : Int) : mc (M ++ [(o, d)]) = mc M ++ [.int .i64 o, .int .u64 d] := by simp [mc]
theorem mc_length (M : List (Int × Int)) : (mc M).length = M.length * 2 := by
  induction M with
  | nil => rfl
  | cons p M ih => simp [mc] at ih ⊢; omega
theorem mc_get (M : List (Int × Int)) (i : Nat) (h : i < M.length) : (mc M)[i * 2]? = some (.int .i64 (M[i]).1) ∧ (mc M)[i * 2 + 1]? = some (.int .u64 (M[i]).2) := by
  induction M generalizing i with
  | nil => simp at h
  | cons p M ih =>
    cases i with
    | zero => simp [mc]
    | succ i =>
      have h' : i < M.length := by simpa using h
      have := ih i h'
      have e1 : (i + 1) * 2 = i * 2 + 1 + 1 := by omega
      simp only [mc, List.flatMap_cons, List.cons_append, List.nil_append, e1, List.getElem?_cons_succ, List.getElem_cons_succ]
      exact this

theorem mark_any (w : World) (B Bs : Nat) (am : Option Addr) (cm : Nat) (gx : Option Nat) (e l o d : Int) (M : List (Int × Int))
    (hS : Blk w Bs (seg e l (.slice am M.length cm)) 31) (hB : B ≤ w.heap.size) (hBs : B ≤ Bs) (own : w.ownsRow B 28 2 (.slice am M.length cm) M.length (mc M))
    (hx1 : some Bs ≠ gx) (hx2 : ∀ k, Value.ownBlock (.slice am M.length cm) = some k → some k ≠ gx) (hx3 : ∀ k, gx = some k → k < w.heap.size) (hn : M.length ≤ 4096) :
    Calls Yba.prog 17 #[.pointer (some ⟨Bs, 0, none⟩), .agg #[.int .i64 o, .int .u64 d]] w fun en w' => en = .returned (.tuple #[]) ∧
      ∃ (am' : Option Addr) (cm' : Nat), Blk w' Bs (seg e l (.slice am' (nextM M o d).length cm')) 31 ∧ w'.ownsRow B 28 2 (.slice am' (nextM M o d).length cm') (nextM M o d).length (mc (nextM M o d)) ∧ Turn B gx [31, 28] w w' ∧
        (∀ k, Value.ownBlock (.slice am' (nextM M o d).length cm') = some k → some k ≠ gx) := by
  rcases List.eq_nil_or_concat M with rfl | ⟨M0, p, rfl⟩
  · refine (mark_yes0 w B Bs am cm gx e l o d hS hB hBs own hx1 hx2 hx3).mono ?_
    rintro en w' ⟨rfl, g', cm', h1, h2, h3, h4⟩
    have en : nextM [] o d = [(o, d)] := by simp [nextM]
    rw [en]
    exact ⟨rfl, _, _, h1, h2, h3, fun k hk => by simp [Value.ownBlock] at hk; subst hk; exact h4⟩
  · obtain ⟨lo, ld⟩ := p
    simp only [List.concat_eq_append] at *
    have hlen : (M0 ++ [(lo, ld)]).length = M0.length + 1 := by simp
    rw [hlen] at hS own hx2 hn
    have hne : M0 ++ [(lo, ld)] ≠ [] := by simp
    have hlast : lastOff (M0 ++ [(lo, ld)]) = lo := by simp [lastOff]
    obtain ⟨g, cap, hv, hbg, hgl⟩ := own.form (by omega)
    have hcm : am = some ⟨g, 0, none⟩ ∧ cm = cap := by simpa using hv
    obtain ⟨rfl, rfl⟩ := hcm
    have hlo : w.cell? ⟨g, M0.length * 2, none⟩ = some (.int .i64 lo) := by
      have := own.cells (g := g) rfl (M0.length * 2) (.int .i64 lo) (by
        have := (mc_get (M0 ++ [(lo, ld)]) M0.length (by simp)).1
        simpa using this)
      have hadd : (⟨g, 0, none⟩ : Addr).add (M0.length * 2) = ⟨g, M0.length * 2, none⟩ := by unfold Addr.add; split <;> simp_all
      rwa [hadd] at this
    by_cases hge : 262144 ≤ wrap64 (o - lo)
    · refine (mark_yes1 w B Bs g M0.length cm gx e l o d lo (by omega) hlo hgl hge (mc (M0 ++ [(lo, ld)])) hS hB hBs own hx1 hx2 hx3).mono ?_
      rintro en w' ⟨rfl, g', cm', h1, h2, h3, h4⟩
      have en : nextM (M0 ++ [(lo, ld)]) o d = M0 ++ [(lo, ld)] ++ [(o, d)] := by simp only [nextM, hlast]; rw [if_pos (Or.inr hge)]
      have el : (M0 ++ [(lo, ld)] ++ [(o, d)]).length = M0.length + 1 + 1 := by simp
      rw [en, el, mc_append]
      exact ⟨rfl, _, _, h1, h2, h3, fun k hk => by simp [Value.ownBlock] at hk; subst hk; exact h4⟩
    · refine (mark_no w Bs g M0.length cm e l o d lo hS hlo hgl (by omega) (by omega)).mono ?_
      rintro en w' ⟨rfl, m, rfl⟩
      have en : nextM (M0 ++ [(lo, ld)]) o d = M0 ++ [(lo, ld)] := by simp only [nextM, hlast]; rw [if_neg (by rintro (h | h); exact hne h; exact hge h)]
      rw [en, hlen]
      have T : Turn B gx [31, 28] w ((w.alloc (.cells #[.int .i64 o, .int .u64 d] 28)).drewN m) := by
        have := ((Turn.refl B gx [31, 28] w).alloc (.cells #[.int .i64 o, .int .u64 d] 28))
        exact ⟨this.os, this.tape, this.output, this.size, this.block⟩
      exact ⟨rfl, _, _, hS.alloc _, own.alloc _, T, hx2⟩

end Go.Proofs.Ybulkchzq.Take
