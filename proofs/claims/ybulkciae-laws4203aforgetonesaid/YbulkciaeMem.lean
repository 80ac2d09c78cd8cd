/- Memory of the call's own, told by blocks: 'Blk', and what turns between two worlds: 'Turn'. Plain facts on worlds; nothing of the program. -/
import Derived.Test.YbulkciaeRows
import Derived.WalkKit
import Derived.WalkSpells
import Derived.WalkLawsBesides
import Derived.Maps.AppendAt
namespace Go.Proofs.Ybulkciae.Mem
open Go Go.RowKit

theorem hide {p : Prop} (h : p) : Hid p := h
theorem unhide {p : Prop} (h : Hid p) : p := h

/-- Block b is a row of cells cs of element type t, none of it frozen. -/
def Blk (w : World) (b : Nat) (cs : Array Value) (t : TypeId) : Prop := w.heap[b]? = some (.cells cs t (0, 0))

theorem Blk.lt {w : World} {b : Nat} {cs : Array Value} {t : TypeId} (h : Blk w b cs t) : b < w.heap.size := (Array.getElem?_eq_some_iff.1 h).1
theorem Blk.cell {w : World} {b : Nat} {cs : Array Value} {t : TypeId} (h : Blk w b cs t) (o : Nat) : w.cell? ⟨b, o, none⟩ = cs[o]? := by
  have h' : w.heap[b]? = some (.cells cs t (0, 0)) := h
  simp [World.cell?, h']
theorem Blk.free {w : World} {b : Nat} {cs : Array Value} {t : TypeId} (h : Blk w b cs t) (o : Nat) : w.frozen? ⟨b, o, none⟩ = false := by
  have h' : w.heap[b]? = some (.cells cs t (0, 0)) := h
  simp [World.frozen?, h']
theorem Blk.ne {w : World} {b b' : Nat} {cs cs' : Array Value} {t t' : TypeId} (h : Blk w b cs t) (h' : Blk w b' cs' t') (ht : t ≠ t') : b ≠ b' := by
  intro e; subst e
  have e1 : w.heap[b]? = some (.cells cs t (0, 0)) := h
  have e2 : w.heap[b]? = some (.cells cs' t' (0, 0)) := h'
  rw [e1] at e2; simp at e2; exact ht e2.2
theorem Blk.alloc {w : World} {b : Nat} {cs : Array Value} {t : TypeId} (h : Blk w b cs t) (o : Obj) : Blk (w.alloc o) b cs t :=
  (Below.heap_alloc w o b h.lt).trans h
theorem Blk.new (w : World) (cs : Array Value) (t : TypeId) : Blk (w.alloc (.cells cs t)) w.heap.size cs t := heap_alloc_new w _
theorem Blk.drew {w : World} {b : Nat} {cs : Array Value} {t : TypeId} (h : Blk w b cs t) : Blk w.drew b cs t := h
theorem Blk.setCell_ne {w : World} {b : Nat} {cs : Array Value} {t : TypeId} (h : Blk w b cs t) {a : Addr} (hb : b ≠ a.block) (v : Value) : Blk (w.setCell a v) b cs t :=
  (Below.heap_setCell w a v b hb).trans h
theorem Blk.setCell {w : World} {b : Nat} {cs : Array Value} {t : TypeId} (h : Blk w b cs t) (o : Nat) (v : Value) : Blk (w.setCell ⟨b, o, none⟩ v) b (cs.setIfInBounds o v) t := by
  have h' : w.heap[b]? = some (.cells cs t (0, 0)) := h
  unfold Blk
  simp [World.setCell, Array.getElem?_modify, h']
theorem Blk.grown {w w' : World} {b : Nat} {cs : Array Value} {t : TypeId} {row : Option Nat} (h : Blk w b cs t) (hg : w.grownBy w' row) (hne : some b ≠ row) : Blk w' b cs t :=
  (hg.block b h.lt hne).trans h

theorem own_blk {w : World} {base : Nat} {e : TypeId} {size : Nat} {v : Value} {n : Nat} {xs : List Value} (h : w.ownsRow base e size v n xs) {g : Nat} (hg : v.ownBlock = some g) : ∃ cur, Blk w g cur e := by
  rcases h.2 with ⟨rfl, _⟩ | ⟨g', cap, cur, rfl, _, hh, _⟩
  · simp [Value.ownBlock] at hg
  · simp [Value.ownBlock] at hg; subst hg; exact ⟨cur, hh⟩
theorem own_ne {w : World} {base : Nat} {e : TypeId} {size : Nat} {v : Value} {n : Nat} {xs : List Value} (h : w.ownsRow base e size v n xs) {b : Nat} {cs : Array Value} {t : TypeId} (hb : Blk w b cs t) (ht : t ≠ e) : some b ≠ v.ownBlock := by
  intro e1
  obtain ⟨cur, hc⟩ := own_blk h e1.symm
  exact Blk.ne hb hc ht rfl

/-- What has turned between w and w': new blocks; of the old ones only such as lie from B on, are not block g, and are rows of an element type among ts. -/
structure Turn (B : Nat) (g : Option Nat) (ts : List TypeId) (w w' : World) : Prop where
  os : w'.os = w.os
  tape : w'.tape = w.tape
  output : w'.output = w.output
  size : w.heap.size ≤ w'.heap.size
  block : ∀ b, b < w.heap.size → (b < B ∨ some b = g ∨ ∃ cs t, Blk w b cs t ∧ t ∉ ts) → w'.heap[b]? = w.heap[b]?

section
variable {B : Nat} {g : Option Nat} {ts : List TypeId} {a w w' : World}
theorem Turn.refl (B : Nat) (g : Option Nat) (ts : List TypeId) (w : World) : Turn B g ts w w := ⟨rfl, rfl, rfl, Nat.le_refl _, fun _ _ _ => rfl⟩
theorem Turn.trans (h : Turn B g ts a w) (k : Turn B g ts w w') : Turn B g ts a w' := by
  refine ⟨k.os.trans h.os, k.tape.trans h.tape, k.output.trans h.output, Nat.le_trans h.size k.size, fun b hb hc => ?_⟩
  have e := h.block b hb hc
  refine (k.block b (Nat.lt_of_lt_of_le hb h.size) ?_).trans e
  rcases hc with hc | hc | ⟨cs, t, hc, ht⟩
  · exact Or.inl hc
  · exact Or.inr (Or.inl hc)
  · exact Or.inr (Or.inr ⟨cs, t, e.trans hc, ht⟩)
theorem Turn.mono (h : Turn B g ts a w) {ts' : List TypeId} (hs : ∀ t, t ∈ ts → t ∈ ts') : Turn B g ts' a w :=
  ⟨h.os, h.tape, h.output, h.size, fun b hb hc => h.block b hb (by
    rcases hc with hc | hc | ⟨cs, t, hc, ht⟩
    · exact Or.inl hc
    · exact Or.inr (Or.inl hc)
    · exact Or.inr (Or.inr ⟨cs, t, hc, fun hm => ht (hs t hm)⟩))⟩
theorem Turn.base (h : Turn B g ts a w) {B' : Nat} (hB : B' ≤ B) : Turn B' g ts a w :=
  ⟨h.os, h.tape, h.output, h.size, fun b hb hc => h.block b hb (by
    rcases hc with hc | hc
    · exact Or.inl (by omega)
    · exact Or.inr hc)⟩
theorem Turn.forget (h : Turn B g ts a w) : Turn B none ts a w :=
  ⟨h.os, h.tape, h.output, h.size, fun b hb hc => h.block b hb (by
    rcases hc with hc | hc | hc
    · exact Or.inl hc
    · cases hc
    · exact Or.inr (Or.inr hc))⟩
theorem Turn.hold (h : Turn B none ts a w) (hg : ∀ q, g = some q → ∃ cs t, Blk a q cs t ∧ t ∉ ts) : Turn B g ts a w :=
  ⟨h.os, h.tape, h.output, h.size, fun b hb hc => h.block b hb (by
    rcases hc with hc | hc | hc
    · exact Or.inl hc
    · exact Or.inr (Or.inr (hg b hc.symm))
    · exact Or.inr (Or.inr hc))⟩
theorem Turn.drew (h : Turn B g ts a w) : Turn B g ts a w.drew := ⟨h.os, h.tape, h.output, h.size, h.block⟩
theorem Turn.alloc (h : Turn B g ts a w) (o : Obj) : Turn B g ts a (w.alloc o) :=
  h.trans ⟨rfl, rfl, rfl, by simp, fun k hk _ => Below.heap_alloc _ _ _ hk⟩
theorem Turn.setCell (h : Turn B g ts a w) {p : Addr} {cs : Array Value} {t : TypeId} (hb : Blk w p.block cs t) (hB : B ≤ p.block) (hg : some p.block ≠ g) (ht : t ∈ ts) (v : Value) : Turn B g ts a (w.setCell p v) := by
  refine h.trans ⟨rfl, rfl, rfl, by simp [World.setCell], fun k hk hc => Below.heap_setCell _ _ _ _ ?_⟩
  intro e; subst e
  rcases hc with hc | hc | ⟨cs', t', hc, ht'⟩
  · omega
  · exact hg hc
  · exact Blk.ne hb hc (fun e => ht' (e ▸ ht)) rfl
theorem Turn.grown (h : Turn B g ts a w) {base : Nat} {e : TypeId} {size : Nat} {v : Value} {n : Nat} {xs : List Value} (ho : w.ownsRow base e size v n xs) (hB : B ≤ base) (hg : ∀ k, v.ownBlock = some k → some k ≠ g) (ht : e ∈ ts) (hgr : w.grownBy w' v.ownBlock) : Turn B g ts a w' := by
  refine h.trans ⟨hgr.os, hgr.tape, hgr.output, hgr.size, fun k hk hc => hgr.block k hk ?_⟩
  intro e1
  rcases hc with hc | hc | ⟨cs', t', hc, ht'⟩
  · have := (ho.lt k e1.symm).1; omega
  · exact hg k e1.symm hc
  · exact own_ne ho hc (fun e2 => ht' (e2 ▸ ht)) e1
theorem Turn.below (h : Turn B g ts a w) (hB : B ≤ a.heap.size) : Below B a w :=
  ⟨h.os, h.tape, h.output, h.size, fun k hk => h.block k (by omega) (Or.inl hk)⟩
theorem Turn.blk (h : Turn B g ts a w) {b : Nat} {cs : Array Value} {t : TypeId} (hb : Blk a b cs t) (ht : t ∉ ts) : Blk w b cs t :=
  (h.block b hb.lt (Or.inr (Or.inr ⟨cs, t, hb, ht⟩))).trans hb
theorem Turn.kept {b : Nat} (h : Turn B (some b) ts a w) {cs : Array Value} {t : TypeId} (hb : Blk a b cs t) : Blk w b cs t :=
  (h.block b hb.lt (Or.inr (Or.inl rfl))).trans hb
theorem Turn.owns (h : Turn B g ts a w) {base : Nat} {e : TypeId} {size : Nat} {v : Value} {n : Nat} {xs : List Value} (ho : a.ownsRow base e size v n xs) (ht : e ∉ ts) : w.ownsRow base e size v n xs := by
  refine ⟨ho.1, ?_⟩
  rcases ho.2 with hn | ⟨g', cap, cur, rfl, hb, hh, r⟩
  · exact Or.inl hn
  · exact Or.inr ⟨g', cap, cur, rfl, hb, h.blk hh ht, r⟩
theorem Turn.owns_kept {v : Value} (h : Turn B v.ownBlock ts a w) {base : Nat} {e : TypeId} {size : Nat} {n : Nat} {xs : List Value} (ho : a.ownsRow base e size v n xs) : w.ownsRow base e size v n xs := by
  refine ⟨ho.1, ?_⟩
  rcases ho.2 with hn | ⟨g', cap, cur, rfl, hb, hh, r⟩
  · exact Or.inl hn
  · exact Or.inr ⟨g', cap, cur, rfl, hb, h.kept hh, r⟩
end

theorem own_setCell_ne {w : World} {base : Nat} {e : TypeId} {size : Nat} {v : Value} {n : Nat} {xs : List Value} (ho : w.ownsRow base e size v n xs) {p : Addr} {cs : Array Value} {t : TypeId} (hb : Blk w p.block cs t) (ht : t ≠ e) (u : Value) : (w.setCell p u).ownsRow base e size v n xs := by
  refine ⟨ho.1, ?_⟩
  rcases ho.2 with hn | ⟨g', cap, cur, rfl, hb', hh, r⟩
  · exact Or.inl hn
  · exact Or.inr ⟨g', cap, cur, rfl, hb', Blk.setCell_ne hh (fun e1 => Blk.ne hb hh ht e1.symm) u, r⟩

theorem own_shape {w : World} {base : Nat} {e : TypeId} {size : Nat} {v : Value} {n : Nat} {xs : List Value} (ho : w.ownsRow base e size v n xs) : ∃ ao cap, v = .slice ao n cap := by
  rcases ho.2 with ⟨rfl, rfl⟩ | ⟨g', cap, cur, rfl, _⟩
  · exact ⟨_, _, rfl⟩
  · exact ⟨_, _, rfl⟩

/-- 'append' onto a slice of the call's own, the new value's shape written out. -/
theorem wpList_append_sh {P : Program} (w : World) {ops : Array Oper} {rest : List Oper} {o : Oper} {a : Act} {Q : Exit → Act → World → Prop} (hgd : o.guard = none) (s x : Operand) (t : TypeId)
    (ho : o.op = .call { callee := .builtin .append, args := #[s, x], argTypes := #[t, t] })
    (base : Nat) (e : TypeId) (i : TypeInfo) (z : Value) (size bytes : Nat) (ht : P.underlying t = some (.slice e)) (hi : P.info? e = some i) (hz : i.zero = some z)
    (hsize : i.size = size) (hby : i.bytes = bytes) (hzs : z.cells.size = size) (hsz : 0 < size)
    (ao : Option Addr) (n cap : Nat) (xs : List Value) (hs : a.eval s = .slice ao n cap) (hown : w.ownsRow base e size (.slice ao n cap) n xs)
    (ad : Addr) (m c : Nat) (news : List Value) (hx : a.eval x = .slice (some ad) m c) (hl : news.length = m * size) (hnews : ∀ j u, news[j]? = some u → w.cell? (ad.add j) = some u) (h1 : ∀ u ∈ news, u.oneCell' = true)
    (h63 : n + m ≤ maxLen) (hbytes : (n + m) * bytes ≤ 140737488355328) (hbase : base ≤ w.heap.size)
    (h : ∀ (ao' : Option Addr) (cap' : Nat) (w' : World), w'.ownsRow base e size (.slice ao' (n + m) cap') (n + m) (xs ++ news) → w.grownBy w' (Value.ownBlock (.slice ao n cap)) →
      (Value.ownBlock (.slice ao' (n + m) cap') = Value.ownBlock (.slice ao n cap) ∨ Value.ownBlock (.slice ao' (n + m) cap') = some w.heap.size) → wpList P ops Q rest (a.put o.dst (.slice ao' (n + m) cap')) w') :
    wpList P ops Q (o :: rest) a w := by
  refine wpList_append_own_at w hgd s x t ho base e i z size bytes ht hi hz hsize hby hzs hsz (.slice ao n cap) n xs hs hown ad m c news hx hl hnews h1 h63 hbytes hbase ?_
  intro v' w' h2 h3 _ h5
  obtain ⟨ao', cap', rfl⟩ := own_shape h2
  exact h ao' cap' w' h2 h3 h5

theorem own_own_ne {w : World} {base base' : Nat} {e e' : TypeId} {size size' : Nat} {v v' : Value} {n n' : Nat} {xs xs' : List Value} (h : w.ownsRow base e size v n xs) (h' : w.ownsRow base' e' size' v' n' xs') (hne : e ≠ e') : v.ownBlock = none ∨ v.ownBlock ≠ v'.ownBlock := by
  cases hv : v.ownBlock with
  | none => exact Or.inl rfl
  | some b =>
    obtain ⟨cur, hb⟩ := own_blk h hv
    exact Or.inr (own_ne h' hb hne)

theorem cell_one_at (w : World) (x : Value) (t : TypeId) {s : Nat} (hs : s = w.heap.size) : ∀ j u, [x][j]? = some u → (w.alloc (.cells #[x] t)).cell? ((⟨s, 0, none⟩ : Addr).add j) = some u := by
  subst hs; exact cell_one_new w x t

theorem cell_two_new' (w : World) (x y : Value) (t : TypeId) : ∀ j u, [x, y][j]? = some u → (w.alloc (.cells #[x, y] t)).cell? ((⟨w.heap.size, 0, none⟩ : Addr).add j) = some u := by
  intro j u hj
  have h := Blk.new w #[x, y] t
  match j, hj with
  | 0, hj => simp at hj; subst hj; exact (h.cell 0).trans rfl
  | 1, hj => simp at hj; subst hj; exact (h.cell 1).trans rfl
theorem cell_two_at (w : World) (x y : Value) (t : TypeId) {s : Nat} (hs : s = w.heap.size) : ∀ j u, [x, y][j]? = some u → (w.alloc (.cells #[x, y] t)).cell? ((⟨s, 0, none⟩ : Addr).add j) = some u := by
  subst hs; exact cell_two_new' w x y t

end Go.Proofs.Ybulkciae.Mem
