import Derived.Test.YbulkciaeRowsOf
namespace Go.Proofs.Ybulkciae.Ranges
open Go Go.RowKit Go.Proofs.Ybulkciae.Mem

theorem info91 : (Yba.prog.info? 91).map (fun i => (i.zero, i.size, i.bytes)) = some (some (.pointer none), 1, 8) := by kernel_rfl

/-- A space with its two lists. -/
def sp (G W : Value) : Array Value := #[.pointer none, G, W, .pointer none, .pointer none, .pointer none, .pointer none, .pointer none, .pointer none, .pointer none, .pointer none, .int .u64 0, .pointer none, .pointer none, .pointer none, .pointer none, .pointer none, .pointer none, .pointer none, .int .u64 0, .int .i64 0, .pointer none]
/-- A transaction that arrived as number k. -/
def tx (k : Int) : Array Value := #[.pointer none, .int .u64 0, .int .u64 0, .int .u8 0, .int .u32 0, .pointer none, .int .u8 0, .int .i64 0, .int .i64 0, .pointer none, .pointer none, .pointer none, .int .u32 0, .pointer none, .int .u64 0, .int .u64 k, .chan none, .pointer none, .int .u32 0, .int .u32 0]
/-- A range lock. -/
def rl (t s : Nat) (mode : Int) (kept : Bool) (reads : Int) : Array Value := #[.pointer (some ⟨t, 0, none⟩), .pointer (some ⟨s, 0, none⟩), .int .u8 mode, .string ⟨#[]⟩, .string ⟨#[]⟩, .bool false, .bool kept, .int .i32 reads, .int .u64 0, .pointer none, .pointer none, .string ⟨#[]⟩, .string ⟨#[]⟩, .bool false, .int .u64 0, .int .u64 0]
def ptr (b : Nat) : Value := .pointer (some ⟨b, 0, none⟩)
def ptrs (R : Nat → Nat) (n : Nat) : List Value := (List.range n).map fun j => ptr (R j)
theorem ptrs_succ (R : Nat → Nat) (n : Nat) : ptrs R (n + 1) = ptrs R n ++ [ptr (R n)] := by simp [ptrs, List.range_succ]
theorem ptrs_congr {R R' : Nat → Nat} {n : Nat} (h : ∀ j, j < n → R' j = R j) : ptrs R' n = ptrs R n := by
  unfold ptrs
  apply List.map_congr_left
  intro j hj
  rw [h j (by simpa using hj)]
def md (g j : Nat) : Int := if j < g then 3 else 6
def kp (g j : Nat) : Bool := decide (j < g)
def arr (g j : Nat) : Int := if j < g then (j : Int) + 1 else (j : Int) - g + 1

/-- The locks that have been made. -/
def Locks (w : World) (Bs g n : Nat) (R T : Nat → Nat) : Prop := ∀ j, j < n → Blk w (R j) (rl (T j) Bs (md g j) (kp g j) j) 96 ∧ Blk w (T j) (tx (arr g j)) 120

def upd (R : Nat → Nat) (n b : Nat) : Nat → Nat := fun x => if x = n then b else R x
theorem upd_old (R : Nat → Nat) (n b j : Nat) (h : j < n) : upd R n b j = R j := by unfold upd; rw [if_neg (by omega)]
theorem upd_new (R : Nat → Nat) (n b : Nat) : upd R n b n = b := by unfold upd; rw [if_pos rfl]

/-- One lock more. -/
theorem Locks.more {w w2 : World} {B Bs g n : Nat} {R T : Nat → Nat} (h : Locks w Bs g n R T) {c : Array Value} {l : Array Value} (hc : c = tx (arr g n)) (hl : l = rl w.heap.size Bs (md g n) (kp g n) n)
    (T2 : Turn B none [91, 105] ((w.alloc (.cells c 120)).alloc (.cells l 96)) w2) : Locks w2 Bs g (n + 1) (upd R n (w.heap.size + 1)) (upd T n w.heap.size) := by
  subst hc hl
  intro j hj
  by_cases e : j < n
  · rw [upd_old _ _ _ _ e, upd_old _ _ _ _ e]
    obtain ⟨h1, h2⟩ := h j e
    exact ⟨T2.blk ((h1.alloc _).alloc _) (by decide), T2.blk ((h2.alloc _).alloc _) (by decide)⟩
  · have : j = n := by omega
    subst this
    rw [upd_new, upd_new]
    refine ⟨T2.blk ?_ (by decide), T2.blk ((Blk.new w _ _).alloc _) (by decide)⟩
    have := Blk.new (w.alloc (.cells (tx (arr g j)) 120)) (rl w.heap.size Bs (md g j) (kp g j) j) 96
    simpa using this

/-- What has been built: the granted i, the queued k, and all of them. -/
structure Bt (w0 w : World) (Bs g i k : Nat) (aG : Option Addr) (cG : Nat) (aW : Option Addr) (cW : Nat) (aA : Option Addr) (cA : Nat) (R T : Nat → Nat) : Prop where
  th : Three w0.heap.size Bs 105 w (sp (.slice aG i cG) (.slice aW k cW)) (.slice aG i cG) (.slice aW k cW) (.slice aA (i + k) cA) i k (i + k) (ptrs R i) (ptrs (fun j => R (g + j)) k) (ptrs R (i + k))
  L : Locks w Bs g (i + k) R T
  bel : Below w0.heap.size w0 w

theorem ptrs_upd (R : Nat → Nat) (n b : Nat) : ptrs (upd R n b) (n + 1) = ptrs R n ++ [ptr b] := by
  rw [ptrs_succ, upd_new, ptrs_congr (fun j hj => upd_old R n b j hj)]

section
variable {w0 wr w1 w2 : World} {Bs g i k : Nat} {aG aG' : Option Addr} {cG cG' : Nat} {aW aW' : Option Addr} {cW cW' : Nat} {aA aA' : Option Addr} {cA cA' : Nat} {R T : Nat → Nat}
/-- A granted lock is made and laid in the granted list .. -/
theorem Bt.granted (P : Bt w0 wr Bs g i 0 aG cG none 0 aA cA R T) (own1 : w1.ownsRow w0.heap.size 91 1 (.slice aG' (i + 1) cG') (i + 1) (ptrs R i ++ [ptr (wr.heap.size + 1)]))
    (hg1 : (((wr.alloc (.cells (tx ((i : Int) + 1)) 120)).alloc (.cells (rl wr.heap.size Bs 3 true i) 96)).alloc (.cells #[ptr (wr.heap.size + 1)] 91)).grownBy w1 (Value.slice aG i cG).ownBlock)
    (loc1 : (Value.slice aG' (i + 1) cG').ownBlock = (Value.slice aG i cG).ownBlock ∨ (Value.slice aG' (i + 1) cG').ownBlock = some (wr.heap.size + 1 + 1 + 1)) :
    Three w0.heap.size Bs 105 w1 (sp (.slice aG i cG) (.slice none 0 0)) (.slice aG' (i + 1) cG') (.slice none 0 0) (.slice aA i cA) (i + 1) 0 i (ptrs R i ++ [ptr (wr.heap.size + 1)]) [] (ptrs R i) ∧
    Turn w0.heap.size none [91, 105] ((wr.alloc (.cells (tx ((i : Int) + 1)) 120)).alloc (.cells (rl wr.heap.size Bs 3 true i) 96)) w1 := by
  have h0 := ((P.th.alloc (.cells (tx ((i : Int) + 1)) 120)).alloc (.cells (rl wr.heap.size Bs 3 true i) 96)).alloc (.cells #[ptr (wr.heap.size + 1)] 91)
  obtain ⟨h1, T1⟩ := h0.app1 (by decide) hg1 own1 (by simpa using loc1)
  exact ⟨h1, ((Turn.refl _ none [91, 105] _).alloc _).trans T1⟩
/-- .. and in the list of all. -/
theorem Bt.granted2 (P : Bt w0 wr Bs g i 0 aG cG none 0 aA cA R T) (hi : i < g)
    (h1 : Three w0.heap.size Bs 105 w1 (sp (.slice aG i cG) (.slice none 0 0)) (.slice aG' (i + 1) cG') (.slice none 0 0) (.slice aA i cA) (i + 1) 0 i (ptrs R i ++ [ptr (wr.heap.size + 1)]) [] (ptrs R i))
    (T1 : Turn w0.heap.size none [91, 105] ((wr.alloc (.cells (tx ((i : Int) + 1)) 120)).alloc (.cells (rl wr.heap.size Bs 3 true i) 96)) w1)
    (own2 : w2.ownsRow w0.heap.size 91 1 (.slice aA' (i + 1) cA') (i + 1) (ptrs R i ++ [ptr (wr.heap.size + 1)]))
    (hg2 : ((w1.setCell ⟨Bs, 1, none⟩ (.slice aG' (i + 1) cG')).alloc (.cells #[ptr (wr.heap.size + 1)] 91)).grownBy w2 (Value.slice aA i cA).ownBlock)
    (loc2 : (Value.slice aA' (i + 1) cA').ownBlock = (Value.slice aA i cA).ownBlock ∨ (Value.slice aA' (i + 1) cA').ownBlock = some (w1.heap.size + 1)) :
    Bt w0 w2 Bs g (i + 1) 0 aG' cG' none 0 aA' cA' (upd R i (wr.heap.size + 1)) (upd T i wr.heap.size) := by
  obtain ⟨h2, T2⟩ := h1.put (by decide) 1 (.slice aG' (i + 1) cG')
  have h3 := h2.alloc (.cells #[ptr (wr.heap.size + 1)] 91)
  obtain ⟨h4, T4⟩ := h3.appA (by decide) hg2 own2 (by simpa [World.setCell] using loc2)
  have T := ((T1.trans T2).alloc (.cells #[ptr (wr.heap.size + 1)] 91)).trans T4
  have hb := P.bel.size
  refine ⟨?_, P.L.more (by unfold arr; rw [if_pos (by omega)]; rfl) (by unfold md kp; rw [if_pos (by omega), decide_eq_true (by omega)]; rfl) T, (((P.bel.alloc hb _).alloc (by simp; omega) _).trans (T.below (by simp; omega)))⟩
  have e := ptrs_upd R i (wr.heap.size + 1)
  show Three _ _ _ _ _ _ _ _ _ _ _ (ptrs (upd R i (wr.heap.size + 1)) (i + 1)) [] (ptrs (upd R i (wr.heap.size + 1)) (i + 1))
  rw [e]
  exact h4
/-- A queued lock. -/
theorem Bt.queued (P : Bt w0 wr Bs g g k aG cG aW cW aA cA R T) (own1 : w1.ownsRow w0.heap.size 91 1 (.slice aW' (k + 1) cW') (k + 1) (ptrs (fun j => R (g + j)) k ++ [ptr (wr.heap.size + 1)]))
    (hg1 : (((wr.alloc (.cells (tx ((k : Int) + 1)) 120)).alloc (.cells (rl wr.heap.size Bs 6 false ((g : Int) + k)) 96)).alloc (.cells #[ptr (wr.heap.size + 1)] 91)).grownBy w1 (Value.slice aW k cW).ownBlock)
    (loc1 : (Value.slice aW' (k + 1) cW').ownBlock = (Value.slice aW k cW).ownBlock ∨ (Value.slice aW' (k + 1) cW').ownBlock = some (wr.heap.size + 1 + 1 + 1)) :
    Three w0.heap.size Bs 105 w1 (sp (.slice aG g cG) (.slice aW k cW)) (.slice aG g cG) (.slice aW' (k + 1) cW') (.slice aA (g + k) cA) g (k + 1) (g + k) (ptrs R g) (ptrs (fun j => R (g + j)) k ++ [ptr (wr.heap.size + 1)]) (ptrs R (g + k)) ∧
    Turn w0.heap.size none [91, 105] ((wr.alloc (.cells (tx ((k : Int) + 1)) 120)).alloc (.cells (rl wr.heap.size Bs 6 false ((g : Int) + k)) 96)) w1 := by
  have h0 := ((P.th.swap.alloc (.cells (tx ((k : Int) + 1)) 120)).alloc (.cells (rl wr.heap.size Bs 6 false ((g : Int) + k)) 96)).alloc (.cells #[ptr (wr.heap.size + 1)] 91)
  obtain ⟨h1, T1⟩ := h0.app1 (by decide) hg1 own1 (by simpa using loc1)
  exact ⟨h1.swap, ((Turn.refl _ none [91, 105] _).alloc _).trans T1⟩
theorem Bt.queued2 (P : Bt w0 wr Bs g g k aG cG aW cW aA cA R T)
    (h1 : Three w0.heap.size Bs 105 w1 (sp (.slice aG g cG) (.slice aW k cW)) (.slice aG g cG) (.slice aW' (k + 1) cW') (.slice aA (g + k) cA) g (k + 1) (g + k) (ptrs R g) (ptrs (fun j => R (g + j)) k ++ [ptr (wr.heap.size + 1)]) (ptrs R (g + k)))
    (T1 : Turn w0.heap.size none [91, 105] ((wr.alloc (.cells (tx ((k : Int) + 1)) 120)).alloc (.cells (rl wr.heap.size Bs 6 false ((g : Int) + k)) 96)) w1)
    (own2 : w2.ownsRow w0.heap.size 91 1 (.slice aA' (g + k + 1) cA') (g + k + 1) (ptrs R (g + k) ++ [ptr (wr.heap.size + 1)]))
    (hg2 : ((w1.setCell ⟨Bs, 2, none⟩ (.slice aW' (k + 1) cW')).alloc (.cells #[ptr (wr.heap.size + 1)] 91)).grownBy w2 (Value.slice aA (g + k) cA).ownBlock)
    (loc2 : (Value.slice aA' (g + k + 1) cA').ownBlock = (Value.slice aA (g + k) cA).ownBlock ∨ (Value.slice aA' (g + k + 1) cA').ownBlock = some (w1.heap.size + 1)) :
    Bt w0 w2 Bs g g (k + 1) aG cG aW' cW' aA' cA' (upd R (g + k) (wr.heap.size + 1)) (upd T (g + k) wr.heap.size) := by
  obtain ⟨h2, T2⟩ := h1.put (by decide) 2 (.slice aW' (k + 1) cW')
  have h3 := h2.alloc (.cells #[ptr (wr.heap.size + 1)] 91)
  obtain ⟨h4, T4⟩ := h3.appA (by decide) hg2 own2 (by simpa [World.setCell] using loc2)
  have T := ((T1.trans T2).alloc (.cells #[ptr (wr.heap.size + 1)] 91)).trans T4
  have hb := P.bel.size
  have ea : arr g (g + k) = (k : Int) + 1 := by unfold arr; rw [if_neg (by omega)]; omega
  have em : md g (g + k) = 6 := by unfold md; rw [if_neg (by omega)]
  have ek : kp g (g + k) = false := decide_eq_false (by omega)
  refine ⟨?_, P.L.more (by rw [ea]) (by rw [em, ek]; rfl) T, (((P.bel.alloc hb _).alloc (by simp; omega) _).trans (T.below (by simp; omega)))⟩
  have e := ptrs_upd R (g + k) (wr.heap.size + 1)
  have e1 : ptrs (upd R (g + k) (wr.heap.size + 1)) g = ptrs R g := ptrs_congr fun j hj => upd_old _ _ _ _ (by omega)
  have e2 : ptrs (fun j => upd R (g + k) (wr.heap.size + 1) (g + j)) (k + 1) = ptrs (fun j => R (g + j)) k ++ [ptr (wr.heap.size + 1)] := by
    rw [ptrs_succ, upd_new, ptrs_congr (R := fun j => R (g + j)) (fun j hj => upd_old _ _ _ _ (by omega))]
  show Three _ _ _ _ _ _ _ _ _ _ (g + k + 1) (ptrs (upd R (g + k) (wr.heap.size + 1)) g) (ptrs (fun j => upd R (g + k) (wr.heap.size + 1) (g + j)) (k + 1)) (ptrs (upd R (g + k) (wr.heap.size + 1)) (g + k + 1))
  rw [e, e1, e2]
  exact h4
end

end Go.Proofs.Ybulkciae.Ranges
