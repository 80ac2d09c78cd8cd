import Derived.Test.YbulkchzqMem
namespace Go.Proofs.Ybulkchzq.Take
open Go Go.RowKit Go.Proofs.Ybulkchzq.Mem

theorem info23 : (Yba.prog.info? 23).map (fun i => (i.zero, i.size, i.bytes)) = some (some (.int .u64 0), 1, 8) := by kernel_rfl
theorem info2 : (Yba.prog.info? 2).map (fun i => (i.zero, i.size, i.bytes)) = some (some (.int .i64 0), 1, 8) := by kernel_rfl
theorem info28 : (Yba.prog.info? 28).map (fun i => (i.zero, i.size, i.bytes)) = some (some (.agg #[.int .i64 0, .int .u64 0]), 2, 16) := by kernel_rfl

/-- The message that the law lays for one item. -/
def msg (d o z : Int) : Array Value := #[.int .u64 d, .int .u64 0, .int .i64 0, .int .i64 0, .slice none 0 0, .slice none 0 0, .int .i64 o, .int .i64 z, .int .u8 0, .int .u32 0, .bool false, .bool false]

/-- The five variables that the closure captured. -/
structure Vars (w : World) (B Ci Co Cc Ck Cs : Nat) (vi vo : Value) (c k : Int) (sv : Value) : Prop where
  sz : B ≤ w.heap.size
  bi : B ≤ Ci
  bo : B ≤ Co
  bc : B ≤ Cc
  hI : Blk w Ci #[vi] 43
  hO : Blk w Co #[vo] 44
  hC : Blk w Cc #[.int .i64 c] 3
  hK : Blk w Ck #[.int .i64 k] 3
  hS : Blk w Cs #[sv] 41
  ck : Cc ≠ Ck

section
variable {w w' : World} {B Ci Co Cc Ck Cs : Nat} {vi vo sv : Value} {c k : Int}
theorem Vars.alloc (V : Vars w B Ci Co Cc Ck Cs vi vo c k sv) (o : Obj) : Vars (w.alloc o) B Ci Co Cc Ck Cs vi vo c k sv :=
  ⟨by have := V.sz; simp; omega, V.bi, V.bo, V.bc, V.hI.alloc o, V.hO.alloc o, V.hC.alloc o, V.hK.alloc o, V.hS.alloc o, V.ck⟩
theorem Vars.grown (V : Vars w B Ci Co Cc Ck Cs vi vo c k sv) {row : Option Nat} (hg : w.grownBy w' row) {base : Nat} {e : TypeId} {size : Nat} {v : Value} {n : Nat} {xs : List Value} (ho : w.ownsRow base e size v n xs) (hr : row = v.ownBlock)
    (h1 : 43 ≠ e) (h2 : 44 ≠ e) (h3 : 3 ≠ e) (h4 : 41 ≠ e) : Vars w' B Ci Co Cc Ck Cs vi vo c k sv := by
  subst hr
  exact ⟨Nat.le_trans V.sz hg.size, V.bi, V.bo, V.bc, V.hI.grown hg (own_ne ho V.hI h1), V.hO.grown hg (own_ne ho V.hO h2), V.hC.grown hg (own_ne ho V.hC h3), V.hK.grown hg (own_ne ho V.hK h3), V.hS.grown hg (own_ne ho V.hS h4), V.ck⟩
theorem Vars.setI (V : Vars w B Ci Co Cc Ck Cs vi vo c k sv) (v : Value) : Vars (w.setCell ⟨Ci, 0, none⟩ v) B Ci Co Cc Ck Cs v vo c k sv :=
  ⟨by simpa [World.setCell] using V.sz, V.bi, V.bo, V.bc, V.hI.setCell 0 v, V.hO.setCell_ne (V.hO.ne V.hI (by decide)) v, V.hC.setCell_ne (V.hC.ne V.hI (by decide)) v, V.hK.setCell_ne (V.hK.ne V.hI (by decide)) v, V.hS.setCell_ne (V.hS.ne V.hI (by decide)) v, V.ck⟩
theorem Vars.setO (V : Vars w B Ci Co Cc Ck Cs vi vo c k sv) (v : Value) : Vars (w.setCell ⟨Co, 0, none⟩ v) B Ci Co Cc Ck Cs vi v c k sv :=
  ⟨by simpa [World.setCell] using V.sz, V.bi, V.bo, V.bc, V.hI.setCell_ne (V.hI.ne V.hO (by decide)) v, V.hO.setCell 0 v, V.hC.setCell_ne (V.hC.ne V.hO (by decide)) v, V.hK.setCell_ne (V.hK.ne V.hO (by decide)) v, V.hS.setCell_ne (V.hS.ne V.hO (by decide)) v, V.ck⟩
theorem Vars.setC (V : Vars w B Ci Co Cc Ck Cs vi vo c k sv) (x : Int) : Vars (w.setCell ⟨Cc, 0, none⟩ (.int .i64 x)) B Ci Co Cc Ck Cs vi vo x k sv :=
  ⟨by simpa [World.setCell] using V.sz, V.bi, V.bo, V.bc, V.hI.setCell_ne (V.hI.ne V.hC (by decide)) _, V.hO.setCell_ne (V.hO.ne V.hC (by decide)) _, V.hC.setCell 0 _, V.hK.setCell_ne (fun e => V.ck e.symm) _, V.hS.setCell_ne (V.hS.ne V.hC (by decide)) _, V.ck⟩
/-- What the walk wants to see. -/
theorem Vars.facts (V : Vars w B Ci Co Cc Ck Cs vi vo c k sv) : w.cell? ⟨Ci, 0, none⟩ = some vi ∧ w.frozen? ⟨Ci, 0, none⟩ = false ∧ w.cell? ⟨Co, 0, none⟩ = some vo ∧ w.frozen? ⟨Co, 0, none⟩ = false ∧
    w.cell? ⟨Cc, 0, none⟩ = some (.int .i64 c) ∧ w.frozen? ⟨Cc, 0, none⟩ = false ∧ w.cell? ⟨Ck, 0, none⟩ = some (.int .i64 k) ∧ w.cell? ⟨Cs, 0, none⟩ = some sv ∧ Ci < w.heap.size ∧ Co < w.heap.size ∧ Cc < w.heap.size ∧ Ck < w.heap.size ∧ Cs < w.heap.size :=
  ⟨V.hI.cell 0, V.hI.free 0, V.hO.cell 0, V.hO.free 0, V.hC.cell 0, V.hC.free 0, V.hK.cell 0, V.hS.cell 0, V.hI.lt, V.hO.lt, V.hC.lt, V.hK.lt, V.hS.lt⟩
theorem Vars.nes (V : Vars w B Ci Co Cc Ck Cs vi vo c k sv) : ¬ Ci = Co ∧ ¬ Co = Ci ∧ ¬ Ci = Cc ∧ ¬ Cc = Ci ∧ ¬ Ci = Ck ∧ ¬ Ck = Ci ∧ ¬ Ci = Cs ∧ ¬ Cs = Ci ∧ ¬ Co = Cc ∧ ¬ Cc = Co ∧ ¬ Co = Ck ∧ ¬ Ck = Co ∧ ¬ Co = Cs ∧ ¬ Cs = Co ∧ ¬ Cc = Ck ∧ ¬ Ck = Cc ∧ ¬ Cc = Cs ∧ ¬ Cs = Cc :=
  ⟨V.hI.ne V.hO (by decide), V.hO.ne V.hI (by decide), V.hI.ne V.hC (by decide), V.hC.ne V.hI (by decide), V.hI.ne V.hK (by decide), V.hK.ne V.hI (by decide), V.hI.ne V.hS (by decide), V.hS.ne V.hI (by decide),
   V.hO.ne V.hC (by decide), V.hC.ne V.hO (by decide), V.hO.ne V.hK (by decide), V.hK.ne V.hO (by decide), V.hO.ne V.hS (by decide), V.hS.ne V.hO (by decide), V.ck, fun e => V.ck e.symm, V.hC.ne V.hS (by decide), V.hS.ne V.hC (by decide)⟩
end

set_option maxRecDepth 100000 in
set_option maxHeartbeats 800000 in
theorem each_miss (w : World) (B Ci Co Cc Ck Cs : Nat) (ai ao : Option Addr) (ci co : Nat) (sv : Value) (c k d o z : Int) (n : Nat) (xi xo : List Value)
    (V : Vars w B Ci Co Cc Ck Cs (.slice ai n ci) (.slice ao n co) c k sv)
    (ownI : w.ownsRow B 23 1 (.slice ai n ci) n xi) (ownO : w.ownsRow B 2 1 (.slice ao n co) n xo) (hn : n ≤ 1024) (hc0 : 0 ≤ c) (hc1 : c ≤ 1024) (hck : c < k) :
    Calls Yba.prog 7 #[.agg #[.int .u64 d, .int .u64 0, .int .i64 0, .int .i64 0, .slice none 0 0, .slice none 0 0, .int .i64 o, .int .i64 z, .int .u8 0, .int .u32 0, .bool false, .bool false], .pointer (some ⟨Ci, 0, none⟩), .pointer (some ⟨Co, 0, none⟩), .pointer (some ⟨Cc, 0, none⟩), .pointer (some ⟨Ck, 0, none⟩), .pointer (some ⟨Cs, 0, none⟩)] w fun e w' => e = .returned .nilIface ∧
      ∃ (ai' : Option Addr) (ci' : Nat) (ao' : Option Addr) (co' : Nat), Vars w' B Ci Co Cc Ck Cs (.slice ai' (n + 1) ci') (.slice ao' (n + 1) co') (c + 1) k sv ∧ w'.ownsRow B 23 1 (.slice ai' (n + 1) ci') (n + 1) (xi ++ [.int .u64 d]) ∧ w'.ownsRow B 2 1 (.slice ao' (n + 1) co') (n + 1) (xo ++ [.int .i64 o]) ∧ Turn B none [43, 44, 3, 23, 2] w w' := by
  obtain ⟨i0, hi, hz0, hz1, hz2⟩ := info_parts info23
  obtain ⟨j0, hj, hy0, hy1, hy2⟩ := info_parts info2
  obtain ⟨n1, n2, n3, n4, n5, n6, n7, n8, n9, n10, n11, n12, n13, n14, n15, n16, n17, n18⟩ := V.nes
  obtain ⟨f1, f2, f3, f4, f5, f6, f7, f8, f9, f10, f11, f12, f13⟩ := V.facts
  have hB := V.sz
  go_enter Yba.func7, Yba.ntmps7
  go_wp2_with (at_builtin; refine wpList_append_sh _ rfl (.tmp 8) (.tmp 11) 43 rfl B 23 i0 (.int .u64 0) 1 8 Yba.underlying43 hi hz0 hz1 hz2 rfl (by decide) _ _ _ _ rfl ((ownI.alloc _).alloc _) ⟨w.heap.size + 1, 0, none⟩ 1 1 [.int .u64 d] rfl rfl ?c1 (ints_oneCell .u64 [d]) (by unfold maxLen; omega) (by omega) (by simp; omega) ?_)
  case c1 => exact cell_one_at (w.alloc _) _ _ (by simp)
  intro ai' ci' w1 own1 hg1 _
  have oI2 : ((w.alloc (.cells (msg d o z) 39)).alloc (.cells #[.int .u64 d] 23)).ownsRow B 23 1 (.slice ai n ci) n xi := (ownI.alloc _).alloc _
  have V1 := ((V.alloc _).alloc _).grown hg1 oI2 rfl (by decide) (by decide) (by decide) (by decide)
  have T1 : Turn B none [43, 44, 3, 23, 2] w w1 := (((Turn.refl B none [43, 44, 3, 23, 2] w).alloc _).alloc _).grown oI2 (Nat.le_refl _) (fun _ _ h => by cases h) (by decide) hg1
  have Bm : Blk w1 w.heap.size (msg d o z) 39 := (((Blk.new w (msg d o z) 39).alloc _).grown hg1 (own_ne oI2 ((Blk.new w (msg d o z) 39).alloc _) (by decide)))
  have own2 : w1.ownsRow B 2 1 (.slice ao n co) n xo := ((ownO.alloc _).alloc _).kept hg1 (own_own_ne ((ownO.alloc _).alloc _) oI2 (by decide))
  have m6 : w1.cell? ⟨w.heap.size, 6, none⟩ = some (.int .i64 o) := Bm.cell 6
  obtain ⟨g1, g2, g3, g4, g5, g6, g7, g8, g9, g10, g11, g12, g13⟩ := V1.facts
  have ns := Bm.lt
  have ne1 : ¬ w.heap.size = Ci := by omega
  clear hg1 f1 f2 f3 f4 f5 f6 f7 f8 oI2
  have o2 : ((w1.setCell ⟨Ci, 0, none⟩ (.slice ai' (n + 1) ci')).alloc (.cells #[.int .i64 o] 2)).ownsRow B 2 1 (.slice ao n co) n xo := (own_setCell_ne own2 V1.hI (by decide) _).alloc _
  have V2 := (V1.setI (.slice ai' (n + 1) ci')).alloc (.cells #[.int .i64 o] 2)
  have oi2 : ((w1.setCell ⟨Ci, 0, none⟩ (.slice ai' (n + 1) ci')).alloc (.cells #[.int .i64 o] 2)).ownsRow B 23 1 (.slice ai' (n + 1) ci') (n + 1) (xi ++ [.int .u64 d]) := (own_setCell_ne own1 V1.hI (by decide) _).alloc _
  have T2 := (T1.setCell (p := ⟨Ci, 0, none⟩) V1.hI V1.bi (fun h => by cases h) (by decide) (.slice ai' (n + 1) ci')).alloc (.cells #[.int .i64 o] 2)
  have sz2 := V2.sz
  go_wp2_with (at_builtin; refine wpList_append_sh _ rfl (.tmp 13) (.tmp 16) 44 rfl B 2 j0 (.int .i64 0) 1 8 Yba.underlying44 hj hy0 hy1 hy2 rfl (by decide) _ _ _ _ rfl o2 ⟨w1.heap.size, 0, none⟩ 1 1 [.int .i64 o] rfl rfl ?c2 (ints_oneCell .i64 [o]) (by unfold maxLen; omega) (by omega) sz2 ?_)
  case c2 => exact cell_one_at (w1.setCell _ _) _ _ (by simp [World.setCell])
  intro ao' co' w2 own3 hg2 _
  have V3 := V2.grown hg2 o2 rfl (by decide) (by decide) (by decide) (by decide)
  have T3 := T2.grown o2 (Nat.le_refl _) (fun _ _ h => by cases h) (by decide) hg2
  have own4 := oi2.kept hg2 (own_own_ne oi2 o2 (by decide))
  obtain ⟨k1, k2, k3, k4, k5, k6, k7, k8, k9, k10, k11, k12, k13⟩ := V3.facts
  have V4 := V3.setO (.slice ao' (n + 1) co')
  have T4 := T3.setCell (p := ⟨Co, 0, none⟩) V3.hO V3.bo (fun h => by cases h) (by decide) (.slice ao' (n + 1) co')
  have own5 := own_setCell_ne own3 (p := ⟨Co, 0, none⟩) V3.hO (by decide) (.slice ao' (n + 1) co')
  have own6 := own_setCell_ne own4 (p := ⟨Co, 0, none⟩) V3.hO (by decide) (.slice ao' (n + 1) co')
  have V5 := V4.setC (c + 1)
  have T5 := T4.setCell (p := ⟨Cc, 0, none⟩) V4.hC V4.bc (fun h => by cases h) (by decide) (.int .i64 (c + 1))
  have own7 := own_setCell_ne own5 (p := ⟨Cc, 0, none⟩) V4.hC (by decide) (.int .i64 (c + 1))
  have own8 := own_setCell_ne own6 (p := ⟨Cc, 0, none⟩) V4.hC (by decide) (.int .i64 (c + 1))
  have HF : Hid (∃ (ai' : Option Addr) (ci' : Nat) (ao' : Option Addr) (co' : Nat), Vars _ B Ci Co Cc Ck Cs (.slice ai' (n + 1) ci') (.slice ao' (n + 1) co') (c + 1) k sv ∧ World.ownsRow _ B 23 1 (.slice ai' (n + 1) ci') (n + 1) (xi ++ [.int .u64 d]) ∧ World.ownsRow _ B 2 1 (.slice ao' (n + 1) co') (n + 1) (xo ++ [.int .i64 o]) ∧ Turn B none [43, 44, 3, 23, 2] w _) := ⟨ai', ci', ao', co', V5, own8, own7, T5⟩
  clear hg2 g1 g2 g3 g4 g5 g6 g7 g8 o2 oi2 V2 V3 V4 V5 T1 T2 T3 T4 T5 own1 own2 own3 own4 own5 own6 own7 own8 V1 m6 Bm ownI ownO V
  go_wp2
  go_ret
  exact ⟨rfl, HF.out⟩
set_option maxRecDepth 100000 in
set_option maxHeartbeats 800000 in
theorem each_hit (w : World) (B Ci Co Cc Ck Cs : Nat) (ai ao : Option Addr) (ci co : Nat) (sv : Value) (c k d o z : Int) (n : Nat) (xi xo : List Value)
    (V : Vars w B Ci Co Cc Ck Cs (.slice ai n ci) (.slice ao n co) c k sv)
    (ownI : w.ownsRow B 23 1 (.slice ai n ci) n xi) (ownO : w.ownsRow B 2 1 (.slice ao n co) n xo) (hn : n ≤ 1024) (hc0 : 0 ≤ c) (hc1 : c ≤ 1024) (hck : c ≤ k) (hkc : k ≤ c) :
    Calls Yba.prog 7 #[.agg #[.int .u64 d, .int .u64 0, .int .i64 0, .int .i64 0, .slice none 0 0, .slice none 0 0, .int .i64 o, .int .i64 z, .int .u8 0, .int .u32 0, .bool false, .bool false], .pointer (some ⟨Ci, 0, none⟩), .pointer (some ⟨Co, 0, none⟩), .pointer (some ⟨Cc, 0, none⟩), .pointer (some ⟨Ck, 0, none⟩), .pointer (some ⟨Cs, 0, none⟩)] w fun e w' => e = .returned sv ∧
      ∃ (ai' : Option Addr) (ci' : Nat) (ao' : Option Addr) (co' : Nat), Vars w' B Ci Co Cc Ck Cs (.slice ai' (n + 1) ci') (.slice ao' (n + 1) co') (c + 1) k sv ∧ w'.ownsRow B 23 1 (.slice ai' (n + 1) ci') (n + 1) (xi ++ [.int .u64 d]) ∧ w'.ownsRow B 2 1 (.slice ao' (n + 1) co') (n + 1) (xo ++ [.int .i64 o]) ∧ Turn B none [43, 44, 3, 23, 2] w w' := by
  obtain ⟨i0, hi, hz0, hz1, hz2⟩ := info_parts info23
  obtain ⟨j0, hj, hy0, hy1, hy2⟩ := info_parts info2
  obtain ⟨n1, n2, n3, n4, n5, n6, n7, n8, n9, n10, n11, n12, n13, n14, n15, n16, n17, n18⟩ := V.nes
  obtain ⟨f1, f2, f3, f4, f5, f6, f7, f8, f9, f10, f11, f12, f13⟩ := V.facts
  have hB := V.sz
  go_enter Yba.func7, Yba.ntmps7
  go_wp2_with (at_builtin; refine wpList_append_sh _ rfl (.tmp 8) (.tmp 11) 43 rfl B 23 i0 (.int .u64 0) 1 8 Yba.underlying43 hi hz0 hz1 hz2 rfl (by decide) _ _ _ _ rfl ((ownI.alloc _).alloc _) ⟨w.heap.size + 1, 0, none⟩ 1 1 [.int .u64 d] rfl rfl ?c1 (ints_oneCell .u64 [d]) (by unfold maxLen; omega) (by omega) (by simp; omega) ?_)
  case c1 => exact cell_one_at (w.alloc _) _ _ (by simp)
  intro ai' ci' w1 own1 hg1 _
  have oI2 : ((w.alloc (.cells (msg d o z) 39)).alloc (.cells #[.int .u64 d] 23)).ownsRow B 23 1 (.slice ai n ci) n xi := (ownI.alloc _).alloc _
  have V1 := ((V.alloc _).alloc _).grown hg1 oI2 rfl (by decide) (by decide) (by decide) (by decide)
  have T1 : Turn B none [43, 44, 3, 23, 2] w w1 := (((Turn.refl B none [43, 44, 3, 23, 2] w).alloc _).alloc _).grown oI2 (Nat.le_refl _) (fun _ _ h => by cases h) (by decide) hg1
  have Bm : Blk w1 w.heap.size (msg d o z) 39 := (((Blk.new w (msg d o z) 39).alloc _).grown hg1 (own_ne oI2 ((Blk.new w (msg d o z) 39).alloc _) (by decide)))
  have own2 : w1.ownsRow B 2 1 (.slice ao n co) n xo := ((ownO.alloc _).alloc _).kept hg1 (own_own_ne ((ownO.alloc _).alloc _) oI2 (by decide))
  have m6 : w1.cell? ⟨w.heap.size, 6, none⟩ = some (.int .i64 o) := Bm.cell 6
  obtain ⟨g1, g2, g3, g4, g5, g6, g7, g8, g9, g10, g11, g12, g13⟩ := V1.facts
  have ns := Bm.lt
  have ne1 : ¬ w.heap.size = Ci := by omega
  clear hg1 f1 f2 f3 f4 f5 f6 f7 f8 oI2
  have o2 : ((w1.setCell ⟨Ci, 0, none⟩ (.slice ai' (n + 1) ci')).alloc (.cells #[.int .i64 o] 2)).ownsRow B 2 1 (.slice ao n co) n xo := (own_setCell_ne own2 V1.hI (by decide) _).alloc _
  have V2 := (V1.setI (.slice ai' (n + 1) ci')).alloc (.cells #[.int .i64 o] 2)
  have oi2 : ((w1.setCell ⟨Ci, 0, none⟩ (.slice ai' (n + 1) ci')).alloc (.cells #[.int .i64 o] 2)).ownsRow B 23 1 (.slice ai' (n + 1) ci') (n + 1) (xi ++ [.int .u64 d]) := (own_setCell_ne own1 V1.hI (by decide) _).alloc _
  have T2 := (T1.setCell (p := ⟨Ci, 0, none⟩) V1.hI V1.bi (fun h => by cases h) (by decide) (.slice ai' (n + 1) ci')).alloc (.cells #[.int .i64 o] 2)
  have sz2 := V2.sz
  go_wp2_with (at_builtin; refine wpList_append_sh _ rfl (.tmp 13) (.tmp 16) 44 rfl B 2 j0 (.int .i64 0) 1 8 Yba.underlying44 hj hy0 hy1 hy2 rfl (by decide) _ _ _ _ rfl o2 ⟨w1.heap.size, 0, none⟩ 1 1 [.int .i64 o] rfl rfl ?c2 (ints_oneCell .i64 [o]) (by unfold maxLen; omega) (by omega) sz2 ?_)
  case c2 => exact cell_one_at (w1.setCell _ _) _ _ (by simp [World.setCell])
  intro ao' co' w2 own3 hg2 _
  have V3 := V2.grown hg2 o2 rfl (by decide) (by decide) (by decide) (by decide)
  have T3 := T2.grown o2 (Nat.le_refl _) (fun _ _ h => by cases h) (by decide) hg2
  have own4 := oi2.kept hg2 (own_own_ne oi2 o2 (by decide))
  obtain ⟨k1, k2, k3, k4, k5, k6, k7, k8, k9, k10, k11, k12, k13⟩ := V3.facts
  have V4 := V3.setO (.slice ao' (n + 1) co')
  have T4 := T3.setCell (p := ⟨Co, 0, none⟩) V3.hO V3.bo (fun h => by cases h) (by decide) (.slice ao' (n + 1) co')
  have own5 := own_setCell_ne own3 (p := ⟨Co, 0, none⟩) V3.hO (by decide) (.slice ao' (n + 1) co')
  have own6 := own_setCell_ne own4 (p := ⟨Co, 0, none⟩) V3.hO (by decide) (.slice ao' (n + 1) co')
  have V5 := V4.setC (c + 1)
  have T5 := T4.setCell (p := ⟨Cc, 0, none⟩) V4.hC V4.bc (fun h => by cases h) (by decide) (.int .i64 (c + 1))
  have own7 := own_setCell_ne own5 (p := ⟨Cc, 0, none⟩) V4.hC (by decide) (.int .i64 (c + 1))
  have own8 := own_setCell_ne own6 (p := ⟨Cc, 0, none⟩) V4.hC (by decide) (.int .i64 (c + 1))
  have HF : Hid (∃ (ai' : Option Addr) (ci' : Nat) (ao' : Option Addr) (co' : Nat), Vars _ B Ci Co Cc Ck Cs (.slice ai' (n + 1) ci') (.slice ao' (n + 1) co') (c + 1) k sv ∧ World.ownsRow _ B 23 1 (.slice ai' (n + 1) ci') (n + 1) (xi ++ [.int .u64 d]) ∧ World.ownsRow _ B 2 1 (.slice ao' (n + 1) co') (n + 1) (xo ++ [.int .i64 o]) ∧ Turn B none [43, 44, 3, 23, 2] w _) := ⟨ai', ci', ao', co', V5, own8, own7, T5⟩
  clear hg2 g1 g2 g3 g4 g5 g6 g7 g8 o2 oi2 V2 V3 V4 V5 T1 T2 T3 T4 T5 own1 own2 own3 own4 own5 own6 own7 own8 V1 m6 Bm ownI ownO V
  go_wp2
  go_ret
  exact ⟨rfl, HF.out⟩
end Go.Proofs.Ybulkchzq.Take
