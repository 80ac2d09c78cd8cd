/- A map keyed by pointers (map[*entry]*space) that the call makes: what a store, a look-up, a delete and len do. -/
import Derived.Test.YbulkciaeMem
import Derived.LaidEql
import Derived.MapKept
import Derived.WideLaws
namespace Go.Proofs.Ybulkciae.Forget
open Go Go.RowKit Go.Proofs.Ybulkciae.Mem

def ptr (b : Nat) : Value := .pointer (some ⟨b, 0, none⟩)

theorem info86 : ∃ j, Yba.prog.info? 86 = some j ∧ j.size ≠ 0 := by
  have h : (Yba.prog.info? 86).map (fun i => decide (i.size = 0)) = some false := by kernel_rfl
  cases e : Yba.prog.info? 86 with
  | none => rw [e] at h; simp at h
  | some j => rw [e] at h; simp at h; exact ⟨j, rfl, h⟩
theorem key_other {w : World} {a b : Nat} {ca cb : Array Value} {ta tb : TypeId} (hne : a ≠ b) (ha : Blk w a ca ta) (hb : Blk w b cb tb) : (Op.equal 63 (ptr a) (ptr b)).run Yba.prog w = .ok false w := by
  obtain ⟨j, hj, hs⟩ := info86
  have h : (⟨a, 0, none⟩ : Addr) ≠ ⟨b, 0, none⟩ := fun e => hne (congrArg Addr.block e)
  have h' : ∀ d : Nat, (Op.equalIn (d + 1) 63 (ptr a) (ptr b)).run Yba.prog w = .ok false w := fun d => by
    simp [ptr, Op.equalIn, run_underlying Yba.underlying63, sizeOf, typeInfo, hj, hs, run_sameAddr_other w h ha hb]
  exact h' 9999
theorem key_same (a : Nat) (w : World) : (Op.equal 63 (ptr a) (ptr a)).run Yba.prog w = .ok true w := by
  obtain ⟨j, hj, _⟩ := info86
  have h' : ∀ d : Nat, (Op.equalIn (d + 1) 63 (ptr a) (ptr a)).run Yba.prog w = .ok true w := fun d => by
    simp [ptr, Op.equalIn, run_underlying Yba.underlying63, sizeOf, typeInfo, hj, run_sameAddr_same]
  exact h' 9999

/-- A key that none of the entries bears. -/
def Absent (w : World) (kb : Nat) (es : List MapEntry) : Prop := ∀ e ∈ es, ∃ b cs t, e.key = ptr b ∧ b ≠ kb ∧ Blk w b cs t

theorem find_none {w : World} {kb : Nat} {ck : Array Value} {tk : TypeId} (hk : Blk w kb ck tk) (es : List MapEntry) (n : Nat) (h : Absent w kb es) : (Instr.findAsking 63 (ptr kb) es n).run Yba.prog w = .ok none w := by
  induction es generalizing n with
  | nil => simp [Instr.findAsking]
  | cons e es ih =>
    obtain ⟨b, cs, t, hb, hne, hB⟩ := h e (by simp)
    have := ih (n + 1) (fun x hx => h x (by simp [hx]))
    simp [Instr.findAsking, hb, key_other (Ne.symm hne) hk hB, this]
theorem find_some {w : World} {kb : Nat} {ck : Array Value} {tk : TypeId} (hk : Blk w kb ck tk) (pre : List MapEntry) (e : MapEntry) (post : List MapEntry) (n : Nat) (h : Absent w kb pre) (he : e.key = ptr kb) :
    (Instr.findAsking 63 (ptr kb) (pre ++ e :: post) n).run Yba.prog w = .ok (some (n + pre.length, e.val)) w := by
  induction pre generalizing n with
  | nil => simp [Instr.findAsking, he, key_same]
  | cons x pre ih =>
    obtain ⟨b, cs, t, hb, hne, hB⟩ := h x (by simp)
    have := ih (n + 1) (fun y hy => h y (by simp [hy]))
    simp only [List.cons_append]
    simp [Instr.findAsking, hb, key_other (Ne.symm hne) hk hB, this]
    omega

theorem findKey_of {w : World} {kb : Nat} {es : List MapEntry} {r : Option (Nat × Value)} (h : (Instr.findAsking 63 (ptr kb) es 0).run Yba.prog w = .ok r w) : (Instr.findKey 63 (ptr kb) es).run Yba.prog w = .ok r w := by
  cases es with
  | nil =>
    simp [Instr.findAsking] at h
    subst h
    simp [Instr.findKey, run_underlying Yba.underlying63, Instr.findNow]
  | cons e es =>
    have hn : Instr.findNow (.pointer 86) (ptr kb) (e :: es) 0 = none := by simp [Instr.findNow, Instr.sameNow]
    simp [Instr.findKey, run_underlying Yba.underlying63, hn, h]
theorem checkKey_ok (w : World) (e : Bool) (b : Nat) : (Instr.checkKey e 10000 63 (ptr b)).run Yba.prog w = .ok () w := by
  have h : ∀ d : Nat, (Instr.checkKey e (d + 1) 63 (ptr b)).run Yba.prog w = .ok () w := fun d => by
    simp [Instr.checkKey, run_underlying Yba.underlying63, ptr]
  exact h 9999

/-- The world with another object in a map's block. -/
def setObj' (w : World) (r : Nat) (o : Obj) : World := { w with heap := w.heap.setIfInBounds r o }

/-- Block Bm is a map whose entries are, in the order l, E i at S i. -/
def MapAt (w : World) (Bm : Nat) (l : List Nat) (E S : Nat → Nat) : Prop :=
  ∃ (es : Array MapEntry) (clock : Nat), w.heap[Bm]? = some (.map es clock) ∧ es.toList.map (fun e => (e.key, e.val)) = l.map (fun i => (ptr (E i), ptr (S i)))

section
variable {w : World} {Bm : Nat} {l : List Nat} {E S : Nat → Nat}
theorem MapAt.lt (h : MapAt w Bm l E S) : Bm < w.heap.size := by
  obtain ⟨es, clock, hb, _⟩ := h
  exact (Array.getElem?_eq_some_iff.1 hb).1
theorem MapAt.ne (h : MapAt w Bm l E S) {b : Nat} {cs : Array Value} {t : TypeId} (hb : Blk w b cs t) : b ≠ Bm := by
  obtain ⟨es, clock, hm, _⟩ := h
  intro e; subst e
  have e2 : w.heap[b]? = some (.cells cs t (0, 0)) := hb
  rw [hm] at e2; cases e2
theorem MapAt.of {w' : World} (h : MapAt w Bm l E S) (e : w'.heap[Bm]? = w.heap[Bm]?) : MapAt w' Bm l E S := by
  obtain ⟨es, clock, hm, hl⟩ := h
  exact ⟨es, clock, e.trans hm, hl⟩
theorem MapAt.alloc (h : MapAt w Bm l E S) (o : Obj) : MapAt (w.alloc o) Bm l E S := h.of (Below.heap_alloc w o Bm h.lt)
theorem MapAt.setCell (h : MapAt w Bm l E S) {a : Addr} {cs : Array Value} {t : TypeId} (hb : Blk w a.block cs t) (v : Value) : MapAt (w.setCell a v) Bm l E S := h.of (Below.heap_setCell w a v Bm (fun e => h.ne hb e.symm))
/-- The entries' keys, one by one. -/
theorem keys_of {es : List MapEntry} (h : es.map (fun e => (e.key, e.val)) = l.map (fun i => (ptr (E i), ptr (S i)))) : ∀ e ∈ es, ∃ i ∈ l, e.key = ptr (E i) ∧ e.val = ptr (S i) := by
  intro e he
  have : (e.key, e.val) ∈ l.map (fun i => (ptr (E i), ptr (S i))) := h ▸ List.mem_map.2 ⟨e, he, rfl⟩
  obtain ⟨i, hi, hx⟩ := List.mem_map.1 this
  simp only [Prod.mk.injEq] at hx
  exact ⟨i, hi, hx.1.symm, hx.2.symm⟩
theorem absent_of {kb : Nat} {es : List MapEntry} (h : es.map (fun e => (e.key, e.val)) = l.map (fun i => (ptr (E i), ptr (S i)))) (hb : ∀ i ∈ l, E i ≠ kb ∧ ∃ cs t, Blk w (E i) cs t) : Absent w kb es := by
  intro e he
  obtain ⟨i, hi, hk, _⟩ := keys_of h e he
  obtain ⟨hne, cs, t, hB⟩ := hb i hi
  exact ⟨E i, cs, t, hk, hne, hB⟩

/-- m[k] = v, the key not there. -/
theorem MapAt.update (h : MapAt w Bm l E S) {n : Nat} {ck : Array Value} {tk : TypeId} (hk : Blk w (E n) ck tk) (hb : ∀ i ∈ l, E i ≠ E n ∧ ∃ cs t, Blk w (E i) cs t) :
    ∃ w', (Instr.mapUpdate 56 (.map (some Bm)) (ptr (E n)) (ptr (S n))).run Yba.prog w = .ok () w' ∧ MapAt w' Bm (l ++ [n]) E S ∧ w.grownBy w' (some Bm) ∧ w'.heap.size = w.heap.size := by
  obtain ⟨es, clock, hm, hl⟩ := h
  have hf := findKey_of (find_none hk es.toList 0 (absent_of hl hb))
  have hlt : Bm < w.heap.size := (Array.getElem?_eq_some_iff.1 hm).1
  refine ⟨setObj' w Bm (.map (es.push { key := ptr (E n), val := ptr (S n), born := clock }) (clock + 1)), ?_, ⟨es.push { key := ptr (E n), val := ptr (S n), born := clock }, clock + 1, by simp [setObj', hlt], ?_⟩, ⟨rfl, rfl, rfl, by simp [setObj'], fun k _ hk => ?_⟩, by simp [setObj']⟩
  · simp [Instr.mapUpdate, run_underlying Yba.underlying56, checkKey_ok, hf, getObj, setObj, Sem.run, hm, setObj']
  · simp [hl]
  · simp only [setObj', Array.getElem?_setIfInBounds]
    rw [if_neg (fun e => hk (by rw [e]))]
theorem split_at {es : List MapEntry} {n : Nat} (hl : es.map (fun e => (e.key, e.val)) = l.map (fun i => (ptr (E i), ptr (S i)))) (hn : n ∈ l) :
    ∃ l1 l2 pre e post, l = l1 ++ n :: l2 ∧ n ∉ l1 ∧ es = pre ++ e :: post ∧ pre.map (fun e => (e.key, e.val)) = l1.map (fun i => (ptr (E i), ptr (S i))) ∧ e.key = ptr (E n) ∧ e.val = ptr (S n) ∧ post.map (fun e => (e.key, e.val)) = l2.map (fun i => (ptr (E i), ptr (S i))) := by
  obtain ⟨l1, l2, rfl, hn1⟩ := List.eq_append_cons_of_mem hn
  rw [List.map_append, List.map_cons] at hl
  obtain ⟨pre, rest, rfl, h1, h2⟩ := List.map_eq_append_iff.1 hl
  obtain ⟨e, post, rfl, h3, h4⟩ := List.map_eq_cons_iff.1 h2
  simp only [Prod.mk.injEq] at h3
  exact ⟨l1, l2, pre, e, post, rfl, hn1, rfl, h1, h3.1, h3.2, h4⟩
/-- v, ok := m[k], the key there .. -/
theorem MapAt.look (h : MapAt w Bm l E S) {n : Nat} {ck : Array Value} {tk : TypeId} (hk : Blk w (E n) ck tk) (hn : n ∈ l) (hb : ∀ i ∈ l, i ≠ n → E i ≠ E n ∧ ∃ cs t, Blk w (E i) cs t) :
    (Instr.lookup 56 (.map (some Bm)) (ptr (E n)) true).run Yba.prog w = .ok (.tuple #[ptr (S n), .bool true]) w := by
  obtain ⟨es, clock, hm, hl⟩ := h
  obtain ⟨l1, l2, pre, e, post, rfl, hn1, hes, h1, h2, h3, h4⟩ := split_at hl hn
  have hf := findKey_of (find_some hk pre e post 0 (absent_of h1 (fun i hi => hb i (by simp [hi]) (fun e => hn1 (e ▸ hi)))) h2)
  rw [← hes] at hf
  simp [Instr.lookup, run_underlying Yba.underlying56, checkKey_ok, hf, getObj, Sem.run, hm, h3]
/-- delete(m, k), the key there. -/
theorem MapAt.drop (h : MapAt w Bm l E S) {n : Nat} {ck : Array Value} {tk : TypeId} (hk : Blk w (E n) ck tk) (hn : n ∈ l) (hb : ∀ i ∈ l, i ≠ n → E i ≠ E n ∧ ∃ cs t, Blk w (E i) cs t) (ty : TypeId) :
    ∃ w', (Builtin.delete_ #[56, 63] ty #[.map (some Bm), ptr (E n)]).run Yba.prog w = .ok (.tuple #[]) w' ∧ MapAt w' Bm (l.erase n) E S ∧ w.grownBy w' (some Bm) := by
  obtain ⟨es, clock, hm, hl⟩ := h
  obtain ⟨l1, l2, pre, e, post, rfl, hn1, hes, h1, h2, h3, h4⟩ := split_at hl hn
  have hf := findKey_of (find_some hk pre e post 0 (absent_of h1 (fun i hi => hb i (by simp [hi]) (fun e => hn1 (e ▸ hi)))) h2)
  rw [← hes] at hf
  have hlt : Bm < w.heap.size := (Array.getElem?_eq_some_iff.1 hm).1
  refine ⟨setObj' w Bm (.map (es.eraseIdxIfInBounds pre.length) clock), ?_, ⟨es.eraseIdxIfInBounds pre.length, clock, by simp [setObj', hlt], ?_⟩, ⟨rfl, rfl, rfl, by simp [setObj'], fun k _ hk => ?_⟩⟩
  · simp [Builtin.delete_, run_underlying Yba.underlying56, checkKey_ok, hf, getObj, setObj, Sem.run, hm, setObj']
  · have e1 : (es.eraseIdxIfInBounds pre.length).toList = pre ++ post := by
      have : pre.length < es.size := by rw [← Array.length_toList, hes]; simp
      simp [Array.eraseIdxIfInBounds, this, hes]
      rw [List.eraseIdx_append_of_length_le (Nat.le_refl _)]; simp
    have e2 : (l1 ++ n :: l2).erase n = l1 ++ l2 := by rw [List.erase_append_right _ hn1]; simp
    rw [e1, e2, List.map_append, List.map_append, h1, h4]
  · simp only [setObj', Array.getElem?_setIfInBounds]
    rw [if_neg (fun e => hk (by rw [e]))]
theorem MapAt.len (h : MapAt w Bm l E S) : ∃ es clock, w.heap[Bm]? = some (.map es clock) ∧ es.size = l.length := by
  obtain ⟨es, clock, hm, hl⟩ := h
  exact ⟨es, clock, hm, by have := congrArg List.length hl; simpa using this⟩
/-- .. and not there. -/
theorem MapAt.miss (h : MapAt w Bm l E S) {n : Nat} {ck : Array Value} {tk : TypeId} (hk : Blk w (E n) ck tk) (hb : ∀ i ∈ l, E i ≠ E n ∧ ∃ cs t, Blk w (E i) cs t) :
    (Instr.lookup 56 (.map (some Bm)) (ptr (E n)) true).run Yba.prog w = .ok (.tuple #[.pointer none, .bool false]) w := by
  obtain ⟨es, clock, hm, hl⟩ := h
  have hf := findKey_of (find_none hk es.toList 0 (absent_of hl hb))
  simp [Instr.lookup, run_underlying Yba.underlying56, checkKey_ok, hf, getObj, Sem.run, hm, Yba.zeroValue57]
end
end Go.Proofs.Ybulkciae.Forget
