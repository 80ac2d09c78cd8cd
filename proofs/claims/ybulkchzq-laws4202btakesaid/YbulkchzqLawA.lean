import Derived.Test.YbulkchzqTake2
import Derived.LaidEql
import Derived.Laws.StructEq
namespace Go.Proofs.Ybulkchzq.Take
open Go Go.RowKit Go.Proofs.Ybulkchzq.Mem

theorem info39 : (Yba.prog.info? 39).map (fun i => (i.zero, i.size, i.bytes)) = some (some (.agg (msg 0 0 0)), 12, 112) := by kernel_rfl

/-- The marks that the law starts from. -/
def startM (S : Nat → Int) (k : Nat) : List (Int × Int) := (List.range k).map fun i => (S i * 65536, (i : Int))
theorem startM_succ (S : Nat → Int) (k : Nat) : startM S (k + 1) = startM S k ++ [(S k * 65536, (k : Int))] := by simp [startM, List.range_succ]
theorem startM_length (S : Nat → Int) (k : Nat) : (startM S k).length = k := by simp [startM]

def Apart (v v' : Value) : Prop := ∀ q, v.ownBlock = some q → v'.ownBlock ≠ some q

theorem apart_mid {wr : World} {B : Nat} {v1 v2 v1' : Value} {k : Nat} {xs : List Value} (hap : Apart v1 v2) (own2 : wr.ownsRow B 28 2 v2 k xs)
    (loc1 : v1'.ownBlock = v1.ownBlock ∨ v1'.ownBlock = some (wr.heap.size + 1)) : Apart v1' v2 := by
  intro q hq hq2
  have h2 := (own2.lt q hq2).2
  rcases loc1 with h | h
  · exact hap q (h ▸ hq) hq2
  · rw [hq] at h; simp at h; omega
theorem apart_end {w1 : World} {B : Nat} {v1' v2 v2' : Value} {k1 : Nat} {ys : List Value} (hap : Apart v1' v2) (own1' : w1.ownsRow B 28 2 v1' k1 ys)
    (loc2 : v2'.ownBlock = v2.ownBlock ∨ v2'.ownBlock = some (w1.heap.size + 1)) : Apart v1' v2' := by
  intro q hq hq2
  have h1 := (own1'.lt q hq).2
  rcases loc2 with h | h
  · exact hap q hq (h ▸ hq2)
  · rw [hq2] at h; simp at h; omega
theorem apart_kept {v1 v2 : Value} (hap : Apart v1 v2) : v2.ownBlock = none ∨ v2.ownBlock ≠ v1.ownBlock := by
  cases h : v2.ownBlock with
  | none => exact Or.inl rfl
  | some q => exact Or.inr fun e => hap q e.symm h
theorem apart_kept' {v1 v2 : Value} (hap : Apart v1 v2) : v1.ownBlock = none ∨ v1.ownBlock ≠ v2.ownBlock := by
  cases h : v1.ownBlock with
  | none => exact Or.inl rfl
  | some q => exact Or.inr fun e => hap q h e.symm
theorem two_oneCell (a b : Int) (j k : IntKind) : ∀ u ∈ [Value.int j a, .int k b], u.oneCell' = true := by
  intro u hu; simp at hu; rcases hu with rfl | rfl <;> rfl

theorem some_ne (v : Value) : v.ownBlock = none ∨ v.ownBlock ≠ none := by cases v.ownBlock <;> simp

/-- The world while the batch is filled. -/
structure Pre (w wx : World) (Bs Bb k m : Nat) (S : Nat → Int) (e0 l0 : Int) (a1 : Option Addr) (c1 : Nat) (a2 : Option Addr) (c2 : Nat) (cur : Array Value) : Prop where
  sz : w.heap.size ≤ Bs
  bB : Bs < Bb
  sg : Blk wx Bs (seg e0 l0 (.slice a1 k c1)) 31
  o1 : wx.ownsRow w.heap.size 28 2 (.slice a1 k c1) k (mc (startM S k))
  o2 : wx.ownsRow w.heap.size 28 2 (.slice a2 k c2) k (mc (startM S k))
  ap : Apart (.slice a1 k c1) (.slice a2 k c2)
  bel : Below w.heap.size w wx
  bat : Blk wx Bb cur 39
  cs : cur.size = m * 12

theorem Pre.made {w wr wb : World} {k m : Nat} {S : Nat → Int} {e0 l0 : Int} {a1 : Option Addr} {c1 : Nat} {a2 : Option Addr} {c2 : Nat} {xs : List Value} (hbel : Below w.heap.size w wr)
    (own1 : wr.ownsRow w.heap.size 28 2 (.slice a1 k c1) k (mc (startM S k))) (own2 : wr.ownsRow w.heap.size 28 2 (.slice a2 k c2) k (mc (startM S k))) (hap : Apart (.slice a1 k c1) (.slice a2 k c2))
    (ownB : wb.ownsRow w.heap.size 39 12 (.slice (some ⟨wr.heap.size + 1, 0, none⟩) m m) m xs) (hgb : (wr.alloc (.cells (seg e0 l0 (.slice a1 k c1)) 31)).grownBy wb none) : ∃ cur, Pre w wb wr.heap.size (wr.heap.size + 1) k m S e0 l0 a1 c1 a2 c2 cur := by
  rcases ownB.2 with ⟨h, _⟩ | ⟨g, cap, cur, hv, hbg, hh, _, _, hcs, _⟩
  · simp at h
  · have h1 : g = wr.heap.size + 1 ∧ cap = m := by simp at hv; exact ⟨hv.1.symm, hv.2.symm⟩
    obtain ⟨rfl, rfl⟩ := h1
    refine ⟨cur, hbel.size, by omega, (Blk.new wr _ _).grown hgb (by simp), (own1.alloc _).kept hgb (some_ne _), (own2.alloc _).kept hgb (some_ne _), hap, (hbel.alloc hbel.size _).grown hgb ?_ (fun k h => by cases h), hh, hcs⟩
    have := hbel.size; simp; omega

theorem Pre.room {w wx : World} {Bs Bb k m : Nat} {S : Nat → Int} {e0 l0 : Int} {a1 : Option Addr} {c1 : Nat} {a2 : Option Addr} {c2 : Nat} {cur : Array Value} (P : Pre w wx Bs Bb k m S e0 l0 a1 c1 a2 c2 cur) (i : Nat) (hi : i < m) (t : Nat) (ht : t < 12) :
    ∃ v, wx.cell? ⟨Bb, i * 12 + t, none⟩ = some v := by
  have h : i * 12 + t < cur.size := by rw [P.cs]; omega
  exact ⟨cur[i * 12 + t], (P.bat.cell _).trans (by simp [h])⟩

theorem Pre.put {w wx : World} {Bs Bb k m : Nat} {S : Nat → Int} {e0 l0 : Int} {a1 : Option Addr} {c1 : Nat} {a2 : Option Addr} {c2 : Nat} {cur : Array Value} (P : Pre w wx Bs Bb k m S e0 l0 a1 c1 a2 c2 cur) (o : Nat) (v : Value) :
    Pre w (wx.setCell ⟨Bb, o, none⟩ v) Bs Bb k m S e0 l0 a1 c1 a2 c2 (cur.setIfInBounds o v) :=
  ⟨P.sz, P.bB, P.sg.setCell_ne (P.sg.ne P.bat (by decide)) v, own_setCell_ne P.o1 (p := ⟨Bb, o, none⟩) P.bat (by decide) v, own_setCell_ne P.o2 (p := ⟨Bb, o, none⟩) P.bat (by decide) v, P.ap, P.bel.setCell (by have := P.sz; have := P.bB; show _ ≤ Bb; omega) v, P.bat.setCell o v, by simpa using P.cs⟩
theorem Pre.drew {w wx : World} {Bs Bb k m : Nat} {S : Nat → Int} {e0 l0 : Int} {a1 : Option Addr} {c1 : Nat} {a2 : Option Addr} {c2 : Nat} {cur : Array Value} (P : Pre w wx Bs Bb k m S e0 l0 a1 c1 a2 c2 cur) :
    Pre w wx.drew Bs Bb k m S e0 l0 a1 c1 a2 c2 cur :=
  ⟨P.sz, P.bB, P.sg, P.o1, P.o2, P.ap, P.bel.drew, P.bat, P.cs⟩

def put12 (cur : Array Value) (i : Nat) (d o z : Int) : Array Value := ((((((((((((cur.setIfInBounds (i * 12) (Value.int .u64 d)).setIfInBounds (i * 12 + 1) (.int .u64 0)).setIfInBounds (i * 12 + 2) (.int .i64 0)).setIfInBounds (i * 12 + 3) (.int .i64 0)).setIfInBounds (i * 12 + 4) (.slice none 0 0)).setIfInBounds (i * 12 + 5) (.slice none 0 0)).setIfInBounds (i * 12 + 6) (.int .i64 o)).setIfInBounds (i * 12 + 7) (.int .i64 z)).setIfInBounds (i * 12 + 8) (.int .u8 0)).setIfInBounds (i * 12 + 9) (.int .u32 0)).setIfInBounds (i * 12 + 10) (.bool false)).setIfInBounds (i * 12 + 11) (.bool false))
theorem put12_old (cur : Array Value) (i : Nat) (d o z : Int) (p : Nat) (hp : p < i * 12) : (put12 cur i d o z)[p]? = cur[p]? := by
  unfold put12
  simp only [Array.getElem?_setIfInBounds]
  repeat rw [if_neg (by omega)]
theorem put12_new (cur : Array Value) (i : Nat) (d o z : Int) (hs : i * 12 + 12 ≤ cur.size) (t : Nat) (ht : t < 12) : (put12 cur i d o z)[i * 12 + t]? = (msg d o z)[t]? := by
  unfold put12
  rcases (show t = 0 ∨ t = 1 ∨ t = 2 ∨ t = 3 ∨ t = 4 ∨ t = 5 ∨ t = 6 ∨ t = 7 ∨ t = 8 ∨ t = 9 ∨ t = 10 ∨ t = 11 from by omega) with rfl | rfl | rfl | rfl | rfl | rfl | rfl | rfl | rfl | rfl | rfl | rfl
  · have h : i * 12 + 0 < cur.size := by omega
    simp [Array.getElem?_setIfInBounds, msg] at h ⊢; exact h
  · have h : i * 12 + 1 < cur.size := by omega
    simp [msg, h]
  · have h : i * 12 + 2 < cur.size := by omega
    simp [msg, h]
  · have h : i * 12 + 3 < cur.size := by omega
    simp [msg, h]
  · have h : i * 12 + 4 < cur.size := by omega
    simp [msg, h]
  · have h : i * 12 + 5 < cur.size := by omega
    simp [msg, h]
  · have h : i * 12 + 6 < cur.size := by omega
    simp [msg, h]
  · have h : i * 12 + 7 < cur.size := by omega
    simp [msg, h]
  · have h : i * 12 + 8 < cur.size := by omega
    simp [msg, h]
  · have h : i * 12 + 9 < cur.size := by omega
    simp [msg, h]
  · have h : i * 12 + 10 < cur.size := by omega
    simp [msg, h]
  · have h : i * 12 + 11 < cur.size := by omega
    simp [msg, h]
theorem put12_all {cur : Array Value} {i m : Nat} {D O Z : Nat → Int} (hs : cur.size = m * 12) (hi : i < m) (h : ∀ j, j < i → ∀ t, t < 12 → cur[j * 12 + t]? = (msg (D j) (O j * 65536) (Z j))[t]?) :
    ∀ j, j < i + 1 → ∀ t, t < 12 → (put12 cur i (D i) (O i * 65536) (Z i))[j * 12 + t]? = (msg (D j) (O j * 65536) (Z j))[t]? := by
  intro j hj t ht
  by_cases e : j < i
  · rw [put12_old _ _ _ _ _ _ (by omega)]; exact h j e t ht
  · have : j = i := by omega
    subst this
    exact put12_new _ _ _ _ _ (by omega) t ht

/-- The numbers of the law's run, from the first block of the closure's variables on. -/
abbrev env (B Bs q m K : Nat) (gx : Option Nat) (D O Z : Nat → Int) (M0 : List (Int × Int)) (e0 l0 : Int) : Env :=
  { B := B, Bs := Bs, Bb := Bs + 1, Ci := q + 1 + 1 + 1, Co := q + 1 + 1 + 1 + 1, Cc := q + 1 + 1 + 1 + 1 + 1, Ck := q, Cs := q + 1 + 1, gx := gx, Ce := q + 1, m := m, k := K, D := D, O := O, Z := Z, M0 := M0, e0 := e0, l0 := l0 }

/-- The world ahead of take: six blocks more. -/
abbrev wt (wr : World) (K : Int) : World :=
  (((((wr.alloc (.cells #[.int .i64 K] 3)).alloc (.cells #[.string ⟨#[122, 122, 32, 115, 52, 50, 48, 50, 98]⟩] 76)).alloc (.cells #[.iface 74 (.pointer (some ⟨wr.heap.size + 1, 0, none⟩))] 41)).alloc (.cells #[.slice none 0 0] 43)).alloc (.cells #[.slice none 0 0] 44)).alloc (.cells #[.int .i64 0] 3)

theorem Blk.newAt (w : World) (cs : Array Value) (t : TypeId) {s : Nat} (hs : s = w.heap.size) : Blk (w.alloc (.cells cs t)) s cs t := by subst hs; exact Blk.new w cs t

theorem run_neq_err_same (a : Addr) (w : World) : (binOp .neq 41 (.iface 74 (.pointer (some a))) (.iface 74 (.pointer (some a)))).run Yba.prog w = .ok (.bool false) w := by
  obtain ⟨i, hi, hc⟩ : ∃ i, Yba.prog.info? 74 = some i ∧ i.comparable = true := by
    have h : (Yba.prog.info? 74).map (·.comparable) = some true := by kernel_rfl
    cases e : Yba.prog.info? 74 with
    | none => rw [e] at h; simp at h
    | some i => rw [e] at h; simp at h; exact ⟨i, rfl, h⟩
  obtain ⟨j, hj⟩ : ∃ j, Yba.prog.info? 76 = some j := by
    have h : (Yba.prog.info? 76).isSome = true := by kernel_rfl
    exact Option.isSome_iff_exists.1 h
  simp only [binOp]
  simp [Op.equal, Op.maxDepth, run_equalIn_iface_ptr_same w 9998 a Yba.underlying41 Yba.underlying74 hi hc hj]

/-- The world behind take, in plain words. -/
structure Aft (w wx : World) (Bs q c : Nat) (K : Int) (ai : Option Addr) (ci : Nat) (ao : Option Addr) (co : Nat) (am : Option Addr) (cm : Nat) (M : List (Int × Int)) (en la : Int) (D O : Nat → Int) (v2 : Value) (M2 : List (Int × Int)) : Prop where
  V : Vars wx w.heap.size (q + 1 + 1 + 1) (q + 1 + 1 + 1 + 1) (q + 1 + 1 + 1 + 1 + 1) q (q + 1 + 1) (.slice ai c ci) (.slice ao c co) c K (.iface 74 (.pointer (some ⟨q + 1, 0, none⟩)))
  ownI : wx.ownsRow w.heap.size 23 1 (.slice ai c ci) c (idsAt D c)
  ownO : wx.ownsRow w.heap.size 2 1 (.slice ao c co) c (offsAt O c)
  sg : Blk wx Bs (seg en la (.slice am M.length cm)) 31
  ownM : wx.ownsRow w.heap.size 28 2 (.slice am M.length cm) M.length (mc M)
  own2 : wx.ownsRow w.heap.size 28 2 v2 M2.length (mc M2)
  ap : Apart (.slice am M.length cm) v2
  bel : Below w.heap.size w wx

theorem add0 (g n : Nat) : (⟨g, 0, none⟩ : Addr).add n = ⟨g, n, none⟩ := by unfold Addr.add; split <;> simp_all

theorem Aft.row {w wx : World} {Bs q c : Nat} {K : Int} {ai : Option Addr} {ci : Nat} {ao : Option Addr} {co : Nat} {am : Option Addr} {cm : Nat} {M : List (Int × Int)} {en la : Int} {D O : Nat → Int} {v2 : Value} {M2 : List (Int × Int)}
    (A : Aft w wx Bs q c K ai ci ao co am cm M en la D O v2 M2) (j : Nat) (hj : j < c) : ∃ gi go, ai = some ⟨gi, 0, none⟩ ∧ ao = some ⟨go, 0, none⟩ ∧ wx.cell? ⟨gi, j, none⟩ = some (.int .u64 (D j)) ∧ wx.cell? ⟨go, j, none⟩ = some (.int .i64 (O j)) := by
  obtain ⟨gi, cap, hv, _, _⟩ := A.ownI.form (by omega)
  obtain ⟨go, cap', hv', _, _⟩ := A.ownO.form (by omega)
  have h1 : ai = some ⟨gi, 0, none⟩ := by simp at hv; exact hv.1
  have h2 : ao = some ⟨go, 0, none⟩ := by simp at hv'; exact hv'.1
  subst h1 h2
  refine ⟨gi, go, rfl, rfl, ?_, ?_⟩
  · have := A.ownI.cells (g := gi) rfl j (.int .u64 (D j)) (by simp [idsAt, List.getElem?_range hj])
    rwa [add0] at this
  · have := A.ownO.cells (g := go) rfl j (.int .i64 (O j)) (by simp [offsAt, List.getElem?_range hj])
    rwa [add0] at this

theorem St.cast {E : Env} {w0 w : World} {c j c' j' : Nat} {ai : Option Addr} {ci : Nat} {ao : Option Addr} {co : Nat} {am : Option Addr} {cm : Nat} (s : St E w0 w c j ai ci ao co am cm) (h1 : c = c') (h2 : j = j') : St E w0 w c' j' ai ci ao co am cm := by
  subst h1 h2; exact s

/-- What the marks, the end and the last id are behind t messages. -/
structure Rec (S : Nat → Int) (k : Nat) (e0 l0 : Int) (O Z D : Nat → Int) (Mf : Nat → List (Int × Int)) (ef lf : Nat → Int) : Prop where
  m0 : Mf 0 = startM S k
  ms : ∀ t, Mf (t + 1) = nextM (Mf t) (O t * 65536) (D t)
  e0 : ef 0 = e0
  es : ∀ t, ef (t + 1) = wrap64 (O t * 65536 + Z t)
  l0 : lf 0 = l0
  ls : ∀ t, lf (t + 1) = D t
  le : ∀ t, (Mf t).length ≤ k + t

theorem Aft.of {w wr w1 : World} {Bs k m K c : Nat} {S D O Z : Nat → Int} {e0 l0 : Int} {a1 : Option Addr} {c1 : Nat} {a2 : Option Addr} {c2 : Nat} {cur : Array Value} (P : Pre w wr Bs (Bs + 1) k m S e0 l0 a1 c1 a2 c2 cur)
    {ai : Option Addr} {ci : Nat} {ao : Option Addr} {co : Nat} {am : Option Addr} {cm : Nat}
    (s : St (env w.heap.size Bs wr.heap.size m K (Value.ownBlock (.slice a2 k c2)) D (fun j => O j * 65536) Z (startM S k) e0 l0) (wt wr K) w1 c K ai ci ao co am cm) :
    ∃ (Mf : Nat → List (Int × Int)) (ef lf : Nat → Int), Rec S k e0 l0 O Z D Mf ef lf ∧ Aft w w1 Bs wr.heap.size c K ai ci ao co am cm (Mf K) (ef K) (lf K) D (fun j => O j * 65536) (.slice a2 k c2) (startM S k) := by
  refine ⟨marksAt (env w.heap.size Bs wr.heap.size m K (Value.ownBlock (.slice a2 k c2)) D (fun j => O j * 65536) Z (startM S k) e0 l0), endAt (env w.heap.size Bs wr.heap.size m K (Value.ownBlock (.slice a2 k c2)) D (fun j => O j * 65536) Z (startM S k) e0 l0), lastAt (env w.heap.size Bs wr.heap.size m K (Value.ownBlock (.slice a2 k c2)) D (fun j => O j * 65536) Z (startM S k) e0 l0),
    ⟨rfl, fun _ => rfl, rfl, fun _ => rfl, rfl, fun _ => rfl, fun t => by have := marksAt_le (env w.heap.size Bs wr.heap.size m K (Value.ownBlock (.slice a2 k c2)) D (fun j => O j * 65536) Z (startM S k) e0 l0) t; rw [startM_length] at this; exact this⟩, ?_⟩
  have o2 : (wt wr K).ownsRow w.heap.size 28 2 (.slice a2 k c2) k (mc (startM S k)) := (((((P.o2.alloc _).alloc _).alloc _).alloc _).alloc _).alloc _
  have hsz := P.bel.size
  have b1 : Below w.heap.size w (wt wr K) := (((((P.bel.alloc hsz _).alloc (by simp; omega) _).alloc (by simp; omega) _).alloc (by simp; omega) _).alloc (by simp; omega) _).alloc (by simp; omega) _
  refine ⟨s.V, s.ownI, s.ownO, s.S, s.ownM, ?_, ?_, b1.trans (s.T.below (by show w.heap.size ≤ (wt wr K).heap.size; simp; omega))⟩
  · rw [startM_length]; exact Turn.owns_kept s.T o2
  · intro q hq e; exact s.x2 q hq e.symm

section
variable {w wx wy : World} {Bs q c : Nat} {K : Int} {ai : Option Addr} {ci : Nat} {ao : Option Addr} {co : Nat} {am : Option Addr} {cm : Nat} {M : List (Int × Int)} {en la : Int} {D O : Nat → Int} {v2 v2' : Value} {M2 : List (Int × Int)}
theorem Aft.drewN (A : Aft w wx Bs q c K ai ci ao co am cm M en la D O v2 M2) (n : Nat) : Aft w (wx.drewN n) Bs q c K ai ci ao co am cm M en la D O v2 M2 :=
  ⟨⟨A.V.sz, A.V.bi, A.V.bo, A.V.bc, A.V.hI, A.V.hO, A.V.hC, A.V.hK, A.V.hS, A.V.ck⟩, A.ownI, A.ownO, A.sg, A.ownM, A.own2, A.ap, below_drewN A.bel n⟩
theorem Aft.app2 (A : Aft w wx Bs q c K ai ci ao co am cm M en la D O v2 M2) {o d : Int} (hg : (wx.alloc (.cells #[.int .i64 o, .int .u64 d] 28)).grownBy wy v2.ownBlock)
    (own : wy.ownsRow w.heap.size 28 2 v2' (M2.length + 1) (mc M2 ++ [.int .i64 o, .int .u64 d])) (loc : v2'.ownBlock = v2.ownBlock ∨ v2'.ownBlock = some (wx.heap.size + 1)) :
    Aft w wy Bs q c K ai ci ao co am cm M en la D O v2' (M2 ++ [(o, d)]) := by
  have o2 := A.own2.alloc (.cells #[.int .i64 o, .int .u64 d] 28)
  have hsz := A.bel.size
  refine ⟨(A.V.alloc _).grown hg o2 rfl (by decide) (by decide) (by decide) (by decide), (A.ownI.alloc _).kept hg (own_own_ne (A.ownI.alloc _) o2 (by decide)), (A.ownO.alloc _).kept hg (own_own_ne (A.ownO.alloc _) o2 (by decide)), (A.sg.alloc _).grown hg (own_ne o2 (A.sg.alloc _) (by decide)), (A.ownM.alloc _).kept hg (apart_kept' A.ap), ?_, ?_, (A.bel.alloc hsz _).grown hg (by simp; omega) (fun x hx => (o2.lt x hx).1)⟩
  · rw [mc_append]; simpa using own
  · intro x hx hx2
    rcases loc with h | h
    · exact A.ap x hx (h ▸ hx2)
    · rw [hx2] at h; simp at h; have := (A.ownM.lt x hx).2; omega
/-- The two rows of marks, cell by cell. -/
theorem Aft.cells (A : Aft w wx Bs q c K ai ci ao co am cm M en la D O v2 M) {a2 : Option Addr} {c2 : Nat} (hv : v2 = .slice a2 M.length c2) (t : Nat) (ht : t < M.length) : ∃ (g1 g2 : Nat) (x y : Int), am = some ⟨g1, 0, none⟩ ∧ a2 = some ⟨g2, 0, none⟩ ∧
    wx.cell? ⟨g1, t * 2, none⟩ = some (.int .i64 x) ∧ wx.cell? ⟨g1, t * 2 + 1, none⟩ = some (.int .u64 y) ∧ wx.cell? ⟨g2, t * 2, none⟩ = some (.int .i64 x) ∧ wx.cell? ⟨g2, t * 2 + 1, none⟩ = some (.int .u64 y) := by
  subst hv
  obtain ⟨g1, cap, hv, _, _⟩ := A.ownM.form (by omega)
  obtain ⟨g2, cap', hv', _, _⟩ := A.own2.form (by omega)
  have h1 : am = some ⟨g1, 0, none⟩ := by simp at hv; exact hv.1
  have h2 : a2 = some ⟨g2, 0, none⟩ := by simp at hv'; exact hv'.1
  subst h1 h2
  obtain ⟨e1, e2⟩ := mc_get M t ht
  have x1 := A.ownM.cells (g := g1) rfl _ _ e1
  have x2 := A.ownM.cells (g := g1) rfl _ _ e2
  have x3 := A.own2.cells (g := g2) rfl _ _ e1
  have x4 := A.own2.cells (g := g2) rfl _ _ e2
  rw [add0] at x1 x2 x3 x4
  exact ⟨g1, g2, _, _, rfl, rfl, x1, x2, x3, x4⟩
/-- The last mark's offset. -/
theorem Aft.last (A : Aft w wx Bs q c K ai ci ao co am cm M en la D O v2 M2) {a2 : Option Addr} {c2 n : Nat} (hv : v2 = .slice a2 (n + 1) c2) (hn : M2.length = n + 1) : ∃ g2, a2 = some ⟨g2, 0, none⟩ ∧ wx.cell? ⟨g2, n * 2, none⟩ = some (.int .i64 (lastOff M2)) := by
  subst hv
  have o2 := A.own2
  rw [hn] at o2
  obtain ⟨g2, cap', hv', _, _⟩ := o2.form (by omega)
  have h2 : a2 = some ⟨g2, 0, none⟩ := by simp at hv'; exact hv'.1
  subst h2
  obtain ⟨e1, _⟩ := mc_get M2 n (by omega)
  have x3 := o2.cells (g := g2) rfl _ _ e1
  rw [add0] at x3
  have : lastOff M2 = (M2[n]'(by omega)).1 := by
    have e : M2[M2.length - 1]? = some (M2[n]'(by omega)) := by
      have h : M2.length - 1 = n := by omega
      rw [h]; exact List.getElem?_eq_getElem _
    unfold lastOff
    rw [List.getLast?_eq_getElem?, e]
    rfl
  exact ⟨g2, rfl, by rw [this]; exact x3⟩
end

theorem St.init {w wr : World} {Bs k m K : Nat} {S D O Z : Nat → Int} {e0 l0 : Int} {a1 : Option Addr} {c1 : Nat} {a2 : Option Addr} {c2 : Nat} {cur : Array Value} (P : Pre w wr Bs (Bs + 1) k m S e0 l0 a1 c1 a2 c2 cur)
    (hcur : ∀ j, j < m → ∀ t, t < 12 → cur[j * 12 + t]? = (msg (D j) (O j * 65536) (Z j))[t]?) :
    St (env w.heap.size Bs wr.heap.size m K (Value.ownBlock (.slice a2 k c2)) D (fun j => O j * 65536) Z (startM S k) e0 l0) (wt wr K) (wt wr K) 0 0 none 0 none 0 a1 c1 := by
  have hl := startM_length S k
  have hsz := P.bel.size
  have al := fun {b : Nat} {cs : Array Value} {t : TypeId} (h : Blk wr b cs t) => (((((h.alloc (.cells #[.int .i64 K] 3)).alloc (.cells #[.string ⟨#[122, 122, 32, 115, 52, 50, 48, 50, 98]⟩] 76)).alloc (.cells #[.iface 74 (.pointer (some ⟨wr.heap.size + 1, 0, none⟩))] 41)).alloc (.cells #[.slice none 0 0] 43)).alloc (.cells #[.slice none 0 0] 44)).alloc (.cells #[.int .i64 0] 3)
  have V : Vars (wt wr K) w.heap.size (wr.heap.size + 1 + 1 + 1) (wr.heap.size + 1 + 1 + 1 + 1) (wr.heap.size + 1 + 1 + 1 + 1 + 1) wr.heap.size (wr.heap.size + 1 + 1) (.slice none 0 0) (.slice none 0 0) ((0 : Nat) : Int) K (.iface 74 (.pointer (some ⟨wr.heap.size + 1, 0, none⟩))) := by
    refine ⟨by simp; omega, by omega, by omega, by omega, ?_, ?_, ?_, ?_, ?_, by omega⟩
    · exact ((Blk.newAt _ _ _ (by simp)).alloc _).alloc _
    · exact (Blk.newAt _ _ _ (by simp)).alloc _
    · exact Blk.newAt _ _ _ (by simp)
    · exact (((((Blk.newAt _ _ _ (by simp)).alloc _).alloc _).alloc _).alloc _).alloc _
    · exact (((Blk.newAt _ _ _ (by simp)).alloc _).alloc _).alloc _
  refine ⟨V, World.ownsRow_nil _ _ _ _, World.ownsRow_nil _ _ _ _, ?_, ?_, ⟨cur, al P.bat, hcur⟩, Turn.refl _ _ _ _, P.sz, ?_, ?_, ?_⟩
  · show Blk _ Bs (seg e0 l0 (.slice a1 (startM S k).length c1)) 31
    rw [hl]; exact al P.sg
  · show World.ownsRow _ w.heap.size 28 2 (.slice a1 (startM S k).length c1) (startM S k).length (mc (startM S k))
    rw [hl]; exact (((((P.o1.alloc _).alloc _).alloc _).alloc _).alloc _).alloc _
  · exact own_ne P.o2 P.sg (by decide)
  · show ∀ q, Value.ownBlock (.slice a1 (startM S k).length c1) = some q → some q ≠ Value.ownBlock (.slice a2 k c2)
    rw [hl]
    intro q hq e
    exact P.ap q hq e.symm
  · intro q hq
    obtain ⟨cs, h⟩ := own_blk P.o2 hq
    exact ⟨cs, al h⟩

end Go.Proofs.Ybulkchzq.Take
