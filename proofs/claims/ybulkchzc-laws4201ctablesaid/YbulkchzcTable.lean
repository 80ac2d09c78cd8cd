import Derived.Test.YbulkchzcRows
import Derived.WalkKit
import Derived.WalkSpells
import Derived.WalkLawsBesides
namespace Go.Proofs.Ybulkchzc.Table
open Go.RowKit

/-- The plain table. -/
def tab (l : List UInt8) : Int :=
  if l = [42, 73, 110, 99, 108, 117, 100, 101] then 1 else if l = [35, 73, 110, 99, 108, 117, 100, 101] then 1
  else if l = [42, 77, 97, 99, 114, 111, 115] then 2 else if l = [42, 66, 108, 111, 99, 107, 77, 97, 99, 114, 111] then 2
  else if l = [42, 73, 110, 115, 101, 114, 116, 66, 108, 111, 99, 107] then 2 else 0

/-- What the five tests answer at one text, both ways round. -/
def Tests (l : List UInt8) (b0 b1 b2 b3 b4 : Bool) (n : Int) : Prop :=
  (l == [42, 73, 110, 99, 108, 117, 100, 101]) = b0 ∧ (l == [35, 73, 110, 99, 108, 117, 100, 101]) = b1 ∧ (l == [42, 77, 97, 99, 114, 111, 115]) = b2 ∧ (l == [42, 66, 108, 111, 99, 107, 77, 97, 99, 114, 111]) = b3 ∧ (l == [42, 73, 110, 115, 101, 114, 116, 66, 108, 111, 99, 107]) = b4 ∧
  ([42, 73, 110, 99, 108, 117, 100, 101] == l) = b0 ∧ ([35, 73, 110, 99, 108, 117, 100, 101] == l) = b1 ∧ ([42, 77, 97, 99, 114, 111, 115] == l) = b2 ∧ ([42, 66, 108, 111, 99, 107, 77, 97, 99, 114, 111] == l) = b3 ∧ ([42, 73, 110, 115, 101, 114, 116, 66, 108, 111, 99, 107] == l) = b4 ∧
  Hid (tab l = n)

theorem beq_false {a b : List UInt8} (h : ¬ a = b) : (a == b) = false := by simpa using h
theorem beq_false' {a b : List UInt8} (h : ¬ a = b) : (b == a) = false := by simpa using fun e => h e.symm

theorem cls (l : List UInt8) : Tests l true false false false false 1 ∨ Tests l false true false false false 1 ∨ Tests l false false true false false 2 ∨ Tests l false false false true false 2 ∨ Tests l false false false false true 2 ∨ Tests l false false false false false 0 := by
  by_cases h0 : l = [42, 73, 110, 99, 108, 117, 100, 101]
  · subst h0; exact Or.inl ⟨rfl, rfl, rfl, rfl, rfl, rfl, rfl, rfl, rfl, rfl, rfl⟩
  by_cases h1 : l = [35, 73, 110, 99, 108, 117, 100, 101]
  · subst h1; exact Or.inr (Or.inl ⟨rfl, rfl, rfl, rfl, rfl, rfl, rfl, rfl, rfl, rfl, rfl⟩)
  by_cases h2 : l = [42, 77, 97, 99, 114, 111, 115]
  · subst h2; exact Or.inr (Or.inr (Or.inl ⟨rfl, rfl, rfl, rfl, rfl, rfl, rfl, rfl, rfl, rfl, rfl⟩))
  by_cases h3 : l = [42, 66, 108, 111, 99, 107, 77, 97, 99, 114, 111]
  · subst h3; exact Or.inr (Or.inr (Or.inr (Or.inl ⟨rfl, rfl, rfl, rfl, rfl, rfl, rfl, rfl, rfl, rfl, rfl⟩)))
  by_cases h4 : l = [42, 73, 110, 115, 101, 114, 116, 66, 108, 111, 99, 107]
  · subst h4; exact Or.inr (Or.inr (Or.inr (Or.inr (Or.inl ⟨rfl, rfl, rfl, rfl, rfl, rfl, rfl, rfl, rfl, rfl, rfl⟩))))
  refine Or.inr (Or.inr (Or.inr (Or.inr (Or.inr ⟨beq_false h0, beq_false h1, beq_false h2, beq_false h3, beq_false h4, beq_false' h0, beq_false' h1, beq_false' h2, beq_false' h3, beq_false' h4, ?_⟩))))
  show tab l = 0
  unfold tab
  rw [if_neg h0, if_neg h1, if_neg h2, if_neg h3, if_neg h4]

theorem tab_cases (l : List UInt8) : tab l = 0 ∨ tab l = 1 ∨ tab l = 2 := by
  rcases cls l with h | h | h | h | h | h <;> (have := h.2.2.2.2.2.2.2.2.2.2.out; omega)

theorem ret_int {k : IntKind} {a b : Int} (h : b = a) : Ending.returned (.int k a) = .returned (.int k b) := by rw [h]

set_option maxHeartbeats 400000 in
theorem pass_any (s : ByteArray) (w : World) :
    Calls Yba.prog 5 #[.string s] w fun e w' => e = .returned (.int .u8 (tab s.toList)) ∧ w' = w := by
  rcases cls s.toList with ⟨h0, h1, h2, h3, h4, g0, g1, g2, g3, g4, H⟩ | ⟨h0, h1, h2, h3, h4, g0, g1, g2, g3, g4, H⟩ | ⟨h0, h1, h2, h3, h4, g0, g1, g2, g3, g4, H⟩ | ⟨h0, h1, h2, h3, h4, g0, g1, g2, g3, g4, H⟩ | ⟨h0, h1, h2, h3, h4, g0, g1, g2, g3, g4, H⟩ | ⟨h0, h1, h2, h3, h4, g0, g1, g2, g3, g4, H⟩
  all_goals
    clear g0 g1 g2 g3 g4
    go_enter Yba.func5, Yba.ntmps5
    go_wp2
    go_ret
    exact ⟨ret_int H.out, rfl⟩

set_option maxHeartbeats 1000000 in
theorem want_any (s : ByteArray) (w : World) :
    Calls Yba.prog 6 #[.string s] w fun e w' => e = .returned (.int .u8 (tab s.toList)) ∧ Grown w w' := by
  rcases cls s.toList with ⟨h0, h1, h2, h3, h4, g0, g1, g2, g3, g4, H⟩ | ⟨h0, h1, h2, h3, h4, g0, g1, g2, g3, g4, H⟩ | ⟨h0, h1, h2, h3, h4, g0, g1, g2, g3, g4, H⟩ | ⟨h0, h1, h2, h3, h4, g0, g1, g2, g3, g4, H⟩ | ⟨h0, h1, h2, h3, h4, g0, g1, g2, g3, g4, H⟩ | ⟨h0, h1, h2, h3, h4, g0, g1, g2, g3, g4, H⟩
  all_goals
    clear h0 h1 h2 h3 h4
    go_enter Yba.func6, Yba.ntmps6
    go_wp2
    refine wp_loop_rounds 6 ?_
    rw [rounds_succ]; go_wp2
    iterate 5 (try (rw [rounds_succ]; go_wp2))
    go_ret
    exact ⟨ret_int H.out, by repeat (first | exact Grown.refl _ | apply Grown.drew | apply Grown.alloc)⟩

end Go.Proofs.Ybulkchzc.Table
