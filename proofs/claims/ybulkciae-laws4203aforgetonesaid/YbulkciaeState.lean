/- The manager, its map of spaces, the entries, their contentions and spaces, the two rows: told by blocks, and what each step does to them. -/
import Derived.Test.YbulkciaeMap
namespace Go.Proofs.Ybulkciae.Forget
open Go Go.RowKit Go.Proofs.Ybulkciae.Mem

/-- The manager's cells. -/
def mg (bm : Nat) (rv : Value) (sp : Bool) : Array Value := #[.int .i32 0, .int .u32 0, .int .u64 0, .slice none 0 0, .int .i64 0, .int .u64 0, .int .u64 0, .int .u64 0, .int .u64 0, .int .u64 0, .slice none 0 0, .slice none 0 0, .slice none 0 0, .slice none 0 0, .slice none 0 0, .slice none 0 0, .slice none 0 0, .int .u8 0, .int .u64 0, .int .u64 0, .int .u32 0, .int .u64 0, .slice none 0 0, .slice none 0 0, .int .i64 0, .int .u64 0, .map (some bm), rv, .bool sp, .slice none 0 0, .slice none 0 0]
/-- An entry's. -/
def ent (c : Nat) : Array Value := #[.pointer none, .string { data := #[] }, ptr c, .int .u32 0, .int .u32 0, .pointer none, .pointer none, .pointer none, .int .u8 0, .int .u8 0, .bool false, .int .u8 0, .int .i32 0, .int .i64 0, .pointer none, .pointer none, .pointer none, .pointer none]
/-- A contention's. -/
def con (b : Bool) : Array Value := #[.pointer none, .int .u8 0, .pointer none, .int .u8 0, .int .i64 0, .int .i64 0, .int .i64 0, .int .i64 0, .int .i64 0, .int .i64 0, .int .i64 0, .int .i64 0, .int .i64 0, .int .i64 0, .int .i64 0, .int .i64 0, .int .i64 0, .int .i64 0, .int .i64 0, .slice none 0 0, .int .u64 0, .int .u8 0, .int .u8 0, .int .u8 0, .int .u8 0, .int .u8 0, .int .u8 0, .int .u8 0, .int .u8 0, .bool false, .bool b, .bool false, .int .u32 0, .map none]
/-- A space's. -/
def spc (v : Value) : Array Value := #[v, .slice none 0 0, .slice none 0 0, .pointer none, .pointer none, .pointer none, .pointer none, .pointer none, .pointer none, .pointer none, .pointer none, .int .u64 0, .pointer none, .pointer none, .pointer none, .pointer none, .pointer none, .pointer none, .pointer none, .int .u64 0, .int .i64 0, .pointer none]

def cAt (b i : Nat) : Nat := b + 4 + 3 * i
def eAt (b i : Nat) : Nat := b + 5 + 3 * i
def sAt (b i : Nat) : Nat := b + 6 + 3 * i
def rootV : Option Nat → Value
  | none => .pointer none
  | some r => ptr r

/-- A row of n cells; the first K point to f 0, f 1, .. -/
def PRow (w : World) (g n K : Nat) (f : Nat → Nat) (t : TypeId) : Prop := ∃ cs : Array Value, Blk w g cs t ∧ cs.size = n ∧ ∀ i, i < K → cs[i]? = some (ptr (f i))
section
variable {w w' : World} {g n K : Nat} {f : Nat → Nat} {t : TypeId}
theorem PRow.alloc (h : PRow w g n K f t) (o : Obj) : PRow (w.alloc o) g n K f t := by
  obtain ⟨cs, h1, h2, h3⟩ := h
  exact ⟨cs, h1.alloc o, h2, h3⟩
theorem PRow.setCell_ne (h : PRow w g n K f t) {a : Addr} {cs : Array Value} {t' : TypeId} (hb : Blk w a.block cs t') (ht : t ≠ t') (v : Value) : PRow (w.setCell a v) g n K f t := by
  obtain ⟨cs, h1, h2, h3⟩ := h
  exact ⟨cs, h1.setCell_ne (Blk.ne h1 hb ht) v, h2, h3⟩
theorem PRow.put (h : PRow w g n K f t) (hK : K < n) : PRow (w.setCell ⟨g, K, none⟩ (ptr (f K))) g n (K + 1) f t := by
  obtain ⟨cs, h1, h2, h3⟩ := h
  refine ⟨_, h1.setCell K _, by simp [h2], fun i hi => ?_⟩
  rw [Array.getElem?_setIfInBounds]
  by_cases e : K = i
  · subst e; simp [h2, hK]
  · rw [if_neg e]; exact h3 i (by omega)
theorem PRow.grown (h : PRow w g n K f t) {row : Option Nat} (hg : w.grownBy w' row) (hne : some g ≠ row) : PRow w' g n K f t := by
  obtain ⟨cs, h1, h2, h3⟩ := h
  exact ⟨cs, h1.grown hg hne, h2, h3⟩
theorem PRow.cell (h : PRow w g n K f t) {i : Nat} (hi : i < K) : w.cell? ⟨g, i, none⟩ = some (ptr (f i)) := by
  obtain ⟨cs, h1, h2, h3⟩ := h
  exact (h1.cell i).trans (h3 i hi)
theorem PRow.blk (h : PRow w g n K f t) : ∃ cs, Blk w g cs t := by
  obtain ⟨cs, h1, h2, h3⟩ := h
  exact ⟨cs, h1⟩
end

/-- All that stands, b being the heap's size at the call: l are the spaces in the map, m the marked resources, K the resources made. -/
structure Fs (b : Nat) (w0 w : World) (n K : Nat) (l m : List Nat) (rv : Option Nat) (sp : Bool) : Prop where
  map : MapAt w b l (eAt b) (sAt b)
  mgr : Blk w (b + 1) (mg b (rootV rv) sp) 60
  es : PRow w (b + 2) n K (eAt b) 63
  ss : PRow w (b + 3) n K (sAt b) 57
  con : ∀ i, i < K → Blk w (cAt b i) (con (decide (i ∈ m))) 74
  ent : ∀ i, i < K → Blk w (eAt b i) (ent (cAt b i)) 86
  spc : ∀ i, i < K → Blk w (sAt b i) (spc (ptr (eAt b i))) 105
  root : ∀ r, rv = some r → Blk w r (Forget.spc (.pointer none)) 105 ∧ r = b + 4 + 3 * n
  nl : l.Nodup
  nm : m.Nodup
  sub : ∀ i ∈ l, i < K
  le : K ≤ n
  below : Below b w0 w

section
variable {b : Nat} {w0 w w' : World} {n K : Nat} {l m : List Nat} {rv : Option Nat} {sp : Bool}
theorem Fs.others (h : Fs b w0 w n K l m rv sp) (i : Nat) : ∀ j ∈ l, j ≠ i → eAt b j ≠ eAt b i ∧ ∃ cs t, Blk w (eAt b j) cs t := fun j hj hne =>
  ⟨by simp only [eAt]; omega, _, _, h.ent j (h.sub j hj)⟩
/-- A cell store into a space: its index's root is nil as it was. -/
theorem Fs.put_spc (h : Fs b w0 w n K l m rv sp) {i : Nat} (hi : i < K) : Fs b w0 (w.setCell ⟨sAt b i, 3, none⟩ (.pointer none)) n K l m rv sp := by
  have hb := h.spc i hi
  refine ⟨h.map.setCell (a := ⟨sAt b i, 3, none⟩) hb _, h.mgr.setCell_ne (a := ⟨sAt b i, 3, none⟩) (Blk.ne h.mgr hb (by decide)) _, h.es.setCell_ne (a := ⟨sAt b i, 3, none⟩) hb (by decide) _, h.ss.setCell_ne (a := ⟨sAt b i, 3, none⟩) hb (by decide) _,
    fun j hj => (h.con j hj).setCell_ne (a := ⟨sAt b i, 3, none⟩) (Blk.ne (h.con j hj) hb (by decide)) _, fun j hj => (h.ent j hj).setCell_ne (a := ⟨sAt b i, 3, none⟩) (Blk.ne (h.ent j hj) hb (by decide)) _, fun j hj => ?_, fun r hr => ⟨?_, (h.root r hr).2⟩, h.nl, h.nm, h.sub, h.le, h.below.setCell (by simp only [sAt]; omega) _⟩
  · by_cases e : j = i
    · subst e; exact hb.setCell 3 _
    · exact (h.spc j hj).setCell_ne (a := ⟨sAt b i, 3, none⟩) (by simp only [sAt]; omega) _
  · have h1 := h.root r hr
    have := h.le
    exact h1.1.setCell_ne (a := ⟨sAt b i, 3, none⟩) (by have := h1.2; simp only [sAt]; omega) _
theorem Fs.put_root (h : Fs b w0 w n K l m rv sp) {r : Nat} (hr : rv = some r) : Fs b w0 (w.setCell ⟨r, 3, none⟩ (.pointer none)) n K l m rv sp := by
  obtain ⟨hb, er⟩ := h.root r hr
  refine ⟨h.map.setCell (a := ⟨r, 3, none⟩) hb _, h.mgr.setCell_ne (a := ⟨r, 3, none⟩) (Blk.ne h.mgr hb (by decide)) _, h.es.setCell_ne (a := ⟨r, 3, none⟩) hb (by decide) _, h.ss.setCell_ne (a := ⟨r, 3, none⟩) hb (by decide) _,
    fun j hj => (h.con j hj).setCell_ne (a := ⟨r, 3, none⟩) (Blk.ne (h.con j hj) hb (by decide)) _, fun j hj => (h.ent j hj).setCell_ne (a := ⟨r, 3, none⟩) (Blk.ne (h.ent j hj) hb (by decide)) _, fun j hj => ?_, fun r' hr' => ?_, h.nl, h.nm, h.sub, h.le, h.below.setCell (by simp only; omega) _⟩
  · have := h.le
    exact (h.spc j hj).setCell_ne (a := ⟨r, 3, none⟩) (by simp only [sAt]; omega) _
  · rw [hr] at hr'; cases hr'
    exact ⟨hb.setCell 3 _, er⟩
/-- A store into the manager. -/
theorem Fs.mgr_put (h : Fs b w0 w n K l m rv sp) (o : Nat) (v : Value) {rv' : Option Nat} {sp' : Bool} (hv : (mg b (rootV rv) sp).setIfInBounds o v = mg b (rootV rv') sp') (hrv : ∀ r, rv' = some r → rv = some r) : Fs b w0 (w.setCell ⟨b + 1, o, none⟩ v) n K l m rv' sp' := by
  have hb := h.mgr
  refine ⟨h.map.setCell (a := ⟨b + 1, o, none⟩) hb _, hv ▸ hb.setCell o v, h.es.setCell_ne (a := ⟨b + 1, o, none⟩) hb (by decide) _, h.ss.setCell_ne (a := ⟨b + 1, o, none⟩) hb (by decide) _,
    fun j hj => (h.con j hj).setCell_ne (a := ⟨b + 1, o, none⟩) (Blk.ne (h.con j hj) hb (by decide)) _, fun j hj => (h.ent j hj).setCell_ne (a := ⟨b + 1, o, none⟩) (Blk.ne (h.ent j hj) hb (by decide)) _, fun j hj => (h.spc j hj).setCell_ne (a := ⟨b + 1, o, none⟩) (Blk.ne (h.spc j hj) hb (by decide)) _, fun r hr => ⟨?_, (h.root r (hrv r hr)).2⟩, h.nl, h.nm, h.sub, h.le, h.below.setCell (by simp only; omega) _⟩
  exact (h.root r (hrv r hr)).1.setCell_ne (a := ⟨b + 1, o, none⟩) (Blk.ne (h.root r (hrv r hr)).1 hb (by decide)) _
theorem Fs.put_spaced (h : Fs b w0 w n K l m rv sp) (x : Bool) : Fs b w0 (w.setCell ⟨b + 1, 28, none⟩ (.bool x)) n K l m rv x := h.mgr_put 28 _ rfl (fun _ e => e)
theorem Fs.drop_root (h : Fs b w0 w n K l m rv sp) : Fs b w0 (w.setCell ⟨b + 1, 27, none⟩ (.pointer none)) n K l m none sp := h.mgr_put 27 _ rfl (fun _ e => by cases e)
/-- The mark of resource i goes. -/
theorem Fs.unmark (h : Fs b w0 w n K l m rv sp) {i : Nat} (hi : i < K) : Fs b w0 (w.setCell ⟨cAt b i, 30, none⟩ (.bool false)) n K l (m.erase i) rv sp := by
  have hb := h.con i hi
  refine ⟨h.map.setCell (a := ⟨cAt b i, 30, none⟩) hb _, h.mgr.setCell_ne (a := ⟨cAt b i, 30, none⟩) (Blk.ne h.mgr hb (by decide)) _, h.es.setCell_ne (a := ⟨cAt b i, 30, none⟩) hb (by decide) _, h.ss.setCell_ne (a := ⟨cAt b i, 30, none⟩) hb (by decide) _,
    fun j hj => ?_, fun j hj => (h.ent j hj).setCell_ne (a := ⟨cAt b i, 30, none⟩) (Blk.ne (h.ent j hj) hb (by decide)) _, fun j hj => (h.spc j hj).setCell_ne (a := ⟨cAt b i, 30, none⟩) (Blk.ne (h.spc j hj) hb (by decide)) _, fun r hr => ⟨?_, (h.root r hr).2⟩, h.nl, h.nm.erase i, h.sub, h.le, h.below.setCell (by simp only [cAt]; omega) _⟩
  · by_cases e : j = i
    · subst e
      have e2 : decide (j ∈ m.erase j) = false := by simp [h.nm.mem_erase_iff]
      rw [e2]; exact hb.setCell 30 _
    · have e2 : decide (j ∈ m.erase i) = decide (j ∈ m) := by simp [h.nm.mem_erase_iff, e]
      rw [e2]; exact (h.con j hj).setCell_ne (a := ⟨cAt b i, 30, none⟩) (by simp only [cAt]; omega) _
  · exact (h.root r hr).1.setCell_ne (a := ⟨cAt b i, 30, none⟩) (Blk.ne (h.root r hr).1 hb (by decide)) _
/-- The map turns. -/
theorem Fs.turn_map (h : Fs b w0 w n K l m rv sp) (hg : w.grownBy w' (some b)) {l' : List Nat} (hm : MapAt w' b l' (eAt b) (sAt b)) (hl : l'.Nodup) (hs : ∀ i ∈ l', i < K) : Fs b w0 w' n K l' m rv sp := by
  have ne : ∀ {k : Nat}, k ≠ b → some k ≠ some b := fun h e => h (by simpa using e)
  refine ⟨hm, h.mgr.grown hg (ne (by omega)), h.es.grown hg (ne (by omega)), h.ss.grown hg (ne (by omega)), fun j hj => (h.con j hj).grown hg (ne (by simp only [cAt]; omega)), fun j hj => (h.ent j hj).grown hg (ne (by simp only [eAt]; omega)), fun j hj => (h.spc j hj).grown hg (ne (by simp only [sAt]; omega)),
    fun r hr => ⟨(h.root r hr).1.grown hg (ne (by have := (h.root r hr).2; omega)), (h.root r hr).2⟩, hl, h.nm, hs, h.le, h.below.grown hg (by have := h.map.lt; omega) (fun k e => by simp at e; omega)⟩
theorem Fs.turn_drop (h : Fs b w0 w n K l m rv sp) {i : Nat} (hg : w.grownBy w' (some b)) (hm : MapAt w' b (l.erase i) (eAt b) (sAt b)) : Fs b w0 w' n K (l.erase i) m rv sp :=
  h.turn_map hg hm (h.nl.erase i) (fun j hj => h.sub j (List.mem_of_mem_erase hj))
theorem Fs.drewN (h : Fs b w0 w n K l m rv sp) (q : Nat) : Fs b w0 (w.drewN q) n K l m rv sp :=
  ⟨h.map, h.mgr, h.es, h.ss, h.con, h.ent, h.spc, h.root, h.nl, h.nm, h.sub, h.le, ⟨h.below.os, h.below.tape, h.below.output, h.below.size, h.below.block⟩⟩
/-- One resource more. -/
theorem Fs.round (h : Fs b w0 w n K (List.range K) (List.range K) none sp) (hK : K < n) (hw : w.heap.size = cAt b K) :
    (∃ wz, (Instr.mapUpdate 56 (.map (some b)) (ptr (eAt b K)) (ptr (sAt b K))).run Yba.prog (((((w.alloc (.cells (Forget.con true) 74)).alloc (.cells (Forget.ent (cAt b K)) 86)).alloc (.cells (Forget.spc (ptr (eAt b K))) 105)).setCell ⟨b + 2, K, none⟩ (ptr (eAt b K))).setCell ⟨b + 3, K, none⟩ (ptr (sAt b K))) = .ok () wz ∧
      Fs b w0 wz n (K + 1) (List.range (K + 1)) (List.range (K + 1)) none sp ∧ wz.heap.size = cAt b (K + 1)) := by
  have hc : Blk (w.alloc (.cells (Forget.con true) 74)) (cAt b K) (Forget.con true) 74 := hw ▸ Blk.new w _ _
  have he : Blk ((w.alloc (.cells (Forget.con true) 74)).alloc (.cells (Forget.ent (cAt b K)) 86)) (eAt b K) (Forget.ent (cAt b K)) 86 := by
    have := Blk.new (w.alloc (.cells (Forget.con true) 74)) (Forget.ent (cAt b K)) 86
    have e : (w.alloc (.cells (Forget.con true) 74)).heap.size = eAt b K := by simp [hw, cAt, eAt]; omega
    rwa [e] at this
  have hs : Blk (((w.alloc (.cells (Forget.con true) 74)).alloc (.cells (Forget.ent (cAt b K)) 86)).alloc (.cells (Forget.spc (ptr (eAt b K))) 105)) (sAt b K) (Forget.spc (ptr (eAt b K))) 105 := by
    have := Blk.new ((w.alloc (.cells (Forget.con true) 74)).alloc (.cells (Forget.ent (cAt b K)) 86)) (Forget.spc (ptr (eAt b K))) 105
    have e : ((w.alloc (.cells (Forget.con true) 74)).alloc (.cells (Forget.ent (cAt b K)) 86)).heap.size = sAt b K := by simp [hw, cAt, sAt]; omega
    rwa [e] at this
  have hsz : (((w.alloc (.cells (Forget.con true) 74)).alloc (.cells (Forget.ent (cAt b K)) 86)).alloc (.cells (Forget.spc (ptr (eAt b K))) 105)).heap.size = cAt b (K + 1) := by simp [hw, cAt]; omega
  have hbw : b ≤ w.heap.size := by rw [hw]; simp only [cAt]; omega
  have W3 : Fs b w0 (((w.alloc (.cells (Forget.con true) 74)).alloc (.cells (Forget.ent (cAt b K)) 86)).alloc (.cells (Forget.spc (ptr (eAt b K))) 105)) n K (List.range K) (List.range K) none sp :=
    ⟨((h.map.alloc _).alloc _).alloc _, ((h.mgr.alloc _).alloc _).alloc _, ((h.es.alloc _).alloc _).alloc _, ((h.ss.alloc _).alloc _).alloc _, fun j hj => (((h.con j hj).alloc _).alloc _).alloc _, fun j hj => (((h.ent j hj).alloc _).alloc _).alloc _, fun j hj => (((h.spc j hj).alloc _).alloc _).alloc _, fun r hr => (by cases hr), h.nl, h.nm, h.sub, h.le, ((h.below.alloc hbw _).alloc (by simp; omega) _).alloc (by simp; omega) _⟩
  have hc3 := (hc.alloc (.cells (Forget.ent (cAt b K)) 86)).alloc (.cells (Forget.spc (ptr (eAt b K))) 105)
  have he3 := he.alloc (.cells (Forget.spc (ptr (eAt b K))) 105)
  generalize (((w.alloc (.cells (Forget.con true) 74)).alloc (.cells (Forget.ent (cAt b K)) 86)).alloc (.cells (Forget.spc (ptr (eAt b K))) 105)) = w3 at *
  clear hc he h
  obtain ⟨c1, hE⟩ := W3.es.blk
  have hES := W3.ss.setCell_ne (a := ⟨b + 2, K, none⟩) hE (by decide) (ptr (eAt b K))
  obtain ⟨c2, hS⟩ := hES.blk
  -- a block of another type stays through both stores
  have keep : ∀ {k : Nat} {cs : Array Value} {t : TypeId}, Blk w3 k cs t → t ≠ 63 → t ≠ 57 → Blk ((w3.setCell ⟨b + 2, K, none⟩ (ptr (eAt b K))).setCell ⟨b + 3, K, none⟩ (ptr (sAt b K))) k cs t := fun hk h1 h2 => by
    have k1 := hk.setCell_ne (a := ⟨b + 2, K, none⟩) (Blk.ne hk hE h1) (ptr (eAt b K))
    exact k1.setCell_ne (a := ⟨b + 3, K, none⟩) (Blk.ne k1 hS h2) _
  have hm5 := (W3.map.setCell (a := ⟨b + 2, K, none⟩) hE (ptr (eAt b K))).setCell (a := ⟨b + 3, K, none⟩) hS (ptr (sAt b K))
  obtain ⟨wz, hrun, hmz, hg, hz⟩ := hm5.update (n := K) (keep he3 (by decide) (by decide)) (fun i hi => ⟨by have := List.mem_range.1 hi; simp only [eAt]; omega, _, _, keep (W3.ent i (List.mem_range.1 hi)) (by decide) (by decide)⟩)
  refine ⟨wz, hrun, ?_, by rw [hz]; simpa [World.setCell] using hsz⟩
  have ne : ∀ {k : Nat}, k ≠ b → some k ≠ some b := fun h e => h (by simpa using e)
  rw [← List.range_succ] at hmz
  have hes5 := ((W3.es.put hK).setCell_ne (a := ⟨b + 3, K, none⟩) hS (by decide) (ptr (sAt b K))).grown hg (ne (by omega))
  have hss5 := (hES.put hK).grown hg (ne (by omega))
  refine ⟨hmz, (keep W3.mgr (by decide) (by decide)).grown hg (ne (by omega)), hes5, hss5, fun j hj => ?_, fun j hj => ?_, fun j hj => ?_, fun r hr => (by cases hr), List.nodup_range, List.nodup_range, fun i hi => List.mem_range.1 hi, by omega, ?_⟩
  · refine Blk.grown ?_ hg (ne (by simp only [cAt]; omega))
    have e : decide (j ∈ List.range (K + 1)) = true := by simpa using hj
    rw [e]
    by_cases h : j = K
    · subst h; exact keep hc3 (by decide) (by decide)
    · have h1 := W3.con j (by omega)
      have e2 : decide (j ∈ List.range K) = true := by simp; omega
      rw [e2] at h1
      exact keep h1 (by decide) (by decide)
  · refine Blk.grown ?_ hg (ne (by simp only [eAt]; omega))
    by_cases h : j = K
    · subst h; exact keep he3 (by decide) (by decide)
    · exact keep (W3.ent j (by omega)) (by decide) (by decide)
  · refine Blk.grown ?_ hg (ne (by simp only [sAt]; omega))
    by_cases h : j = K
    · subst h; exact keep hs (by decide) (by decide)
    · exact keep (W3.spc j (by omega)) (by decide) (by decide)
  · exact ((W3.below.setCell (p := ⟨b + 2, K, none⟩) (by simp only; omega) _).setCell (p := ⟨b + 3, K, none⟩) (by simp only; omega) _).grown hg (by simp [World.setCell]; simp only [cAt] at hsz; omega) (fun k e => by simp at e; omega)
end
end Go.Proofs.Ybulkciae.Forget
