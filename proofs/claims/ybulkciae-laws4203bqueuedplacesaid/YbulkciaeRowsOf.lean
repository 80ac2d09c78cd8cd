/- Rows of pointers that lie apart: what an append to one of three does. Plain facts on worlds. -/
import Derived.Test.YbulkciaeMem
namespace Go.Proofs.Ybulkciae.Ranges
open Go Go.RowKit Go.Proofs.Ybulkciae.Mem

def Apart (v v' : Value) : Prop := ∀ q, v.ownBlock = some q → v'.ownBlock ≠ some q
theorem Apart.symm {v v' : Value} (h : Apart v v') : Apart v' v := fun q hq e => h q e hq
theorem Apart.kept {v v' : Value} (h : Apart v v') : v.ownBlock = none ∨ v.ownBlock ≠ v'.ownBlock := by
  cases e : v.ownBlock with
  | none => exact Or.inl rfl
  | some q => exact Or.inr fun e1 => h q e e1.symm
theorem Apart.nil (v : Value) (n c : Nat) : Apart (.slice none n c) v := fun q hq => by simp [Value.ownBlock] at hq
/-- The row v has moved within its own block or to a block that is new: it still lies apart from v2. -/
theorem Apart.moved {w : World} {B : Nat} {v v' v2 : Value} {e : TypeId} {size n H : Nat} {xs : List Value} (h : Apart v v2) (o2 : w.ownsRow B e size v2 n xs) (loc : v'.ownBlock = v.ownBlock ∨ v'.ownBlock = some H) (hH : w.heap.size ≤ H) : Apart v' v2 := by
  intro q hq hq2
  have h2 := (o2.lt q hq2).2
  rcases loc with l | l
  · exact h q (l ▸ hq) hq2
  · rw [hq] at l; simp at l; omega

/-- Three rows of pointers and the block of the struct that two of them lie in. -/
structure Three (B Bs : Nat) (t : TypeId) (w : World) (cells : Array Value) (v1 v2 vA : Value) (n1 n2 nA : Nat) (x1 x2 xA : List Value) : Prop where
  hB : B ≤ Bs
  hw : B ≤ w.heap.size
  S : Blk w Bs cells t
  o1 : w.ownsRow B 91 1 v1 n1 x1
  o2 : w.ownsRow B 91 1 v2 n2 x2
  oA : w.ownsRow B 91 1 vA nA xA
  a12 : Apart v1 v2
  a1A : Apart v1 vA
  a2A : Apart v2 vA

section
variable {B Bs : Nat} {t : TypeId} {w w1 w2 : World} {cells : Array Value} {v1 v2 vA v1' vA' : Value} {n1 n2 nA : Nat} {x1 x2 xA : List Value} {p : Value}
theorem Three.alloc (h : Three B Bs t w cells v1 v2 vA n1 n2 nA x1 x2 xA) (o : Obj) : Three B Bs t (w.alloc o) cells v1 v2 vA n1 n2 nA x1 x2 xA :=
  ⟨h.hB, by have := h.hw; simp; omega, h.S.alloc o, h.o1.alloc o, h.o2.alloc o, h.oA.alloc o, h.a12, h.a1A, h.a2A⟩
theorem Three.swap (h : Three B Bs t w cells v1 v2 vA n1 n2 nA x1 x2 xA) : Three B Bs t w cells v2 v1 vA n2 n1 nA x2 x1 xA :=
  ⟨h.hB, h.hw, h.S, h.o2, h.o1, h.oA, h.a12.symm, h.a2A, h.a1A⟩
/-- The append to the first row. -/
theorem Three.app1 (h : Three B Bs t w cells v1 v2 vA n1 n2 nA x1 x2 xA) (ht : t ≠ 91) (hg : w.grownBy w1 v1.ownBlock) (own : w1.ownsRow B 91 1 v1' (n1 + 1) (x1 ++ [p])) (loc : v1'.ownBlock = v1.ownBlock ∨ v1'.ownBlock = some w.heap.size) :
    Three B Bs t w1 cells v1' v2 vA (n1 + 1) n2 nA (x1 ++ [p]) x2 xA ∧ Turn B none [91, t] w w1 :=
  ⟨⟨h.hB, Nat.le_trans h.hw hg.size, h.S.grown hg (own_ne h.o1 h.S ht), own, h.o2.kept hg h.a12.symm.kept, h.oA.kept hg h.a1A.symm.kept, h.a12.moved h.o2 loc (Nat.le_refl _), h.a1A.moved h.oA loc (Nat.le_refl _), h.a2A⟩,
   (Turn.refl B none [91, t] w).grown h.o1 (Nat.le_refl _) (fun _ _ e => by cases e) (by simp) hg⟩
/-- The append to the third row. -/
theorem Three.appA (h : Three B Bs t w cells v1 v2 vA n1 n2 nA x1 x2 xA) (ht : t ≠ 91) (hg : w.grownBy w1 vA.ownBlock) (own : w1.ownsRow B 91 1 vA' (nA + 1) (xA ++ [p])) (loc : vA'.ownBlock = vA.ownBlock ∨ vA'.ownBlock = some w.heap.size) :
    Three B Bs t w1 cells v1 v2 vA' n1 n2 (nA + 1) x1 x2 (xA ++ [p]) ∧ Turn B none [91, t] w w1 :=
  ⟨⟨h.hB, Nat.le_trans h.hw hg.size, h.S.grown hg (own_ne h.oA h.S ht), h.o1.kept hg h.a1A.kept, h.o2.kept hg h.a2A.kept, own, h.a12, (h.a1A.symm.moved h.o1 loc (Nat.le_refl _)).symm, (h.a2A.symm.moved h.o2 loc (Nat.le_refl _)).symm⟩,
   (Turn.refl B none [91, t] w).grown h.oA (Nat.le_refl _) (fun _ _ e => by cases e) (by simp) hg⟩
/-- A store into the struct. -/
theorem Three.put (h : Three B Bs t w cells v1 v2 vA n1 n2 nA x1 x2 xA) (ht : t ≠ 91) (c : Nat) (v : Value) :
    Three B Bs t (w.setCell ⟨Bs, c, none⟩ v) (cells.setIfInBounds c v) v1 v2 vA n1 n2 nA x1 x2 xA ∧ Turn B none [91, t] w (w.setCell ⟨Bs, c, none⟩ v) :=
  ⟨⟨h.hB, by simpa [World.setCell] using h.hw, h.S.setCell c v, own_setCell_ne h.o1 (p := ⟨Bs, c, none⟩) h.S ht v, own_setCell_ne h.o2 (p := ⟨Bs, c, none⟩) h.S ht v, own_setCell_ne h.oA (p := ⟨Bs, c, none⟩) h.S ht v, h.a12, h.a1A, h.a2A⟩,
   (Turn.refl B none [91, t] w).setCell (p := ⟨Bs, c, none⟩) h.S h.hB (fun e => by cases e) (by simp) v⟩
end
end Go.Proofs.Ybulkciae.Ranges
