import Derived.Test.Qxb6000365aModsLists
import Derived.Test.Qxb6000365aModsDeep
import Derived.Test.Qxb6000365aModsFields
import Derived.Test.Qxb6000365aModsBytes
import Derived.Deep.DeepMust
import Derived.Deep.RegionWith
namespace Go.Proofs.Qxb6000365aMods.fnDependenciesDeepCopyIsFaithful
open Go.RowKit
theorem hid {p : Prop} (h : p) : Hid p := h


theorem src_heap {w w' : World} {ao : Option Addr} {ss : List ByteArray} (h : Src w ao ss) (e : w'.heap = w.heap) : Src w' ao ss := by
  refine ⟨h.nil, fun hne => ?_⟩
  obtain ⟨b, o, h1, h2, h3⟩ := h.row hne
  exact ⟨b, o, h1, by rw [e]; exact h2, fun j hj => (World.cell?_of_block (w := w) (by rw [e])).trans (h3 j hj)⟩

theorem round_facts {wf wr : World} {bg bk bw k : Nat} (h : Seven wf bg bk bw) (e : wr.heap = wf.heap) (hk : k < 7) : ∃ (u x y : Option Addr) (ss : List ByteArray),
    wr.cell? ⟨bg, k, none⟩ = some (.slice u ss.length ss.length) ∧ wr.cell? ⟨bk, k, none⟩ = some (.slice x ss.length ss.length) ∧ wr.cell? ⟨bw, k, none⟩ = some (.slice y ss.length ss.length) ∧
    Hid (∀ wx : World, wx.heap = wr.heap → Calls Trym.prog 15 #[.slice u ss.length ss.length, .slice y ss.length ss.length] wx fun e w' => e = .returned (.bool true) ∧ ∃ m, w' = wx.drewN m) ∧
    Hid (∀ wx : World, wx.heap = wr.heap → Calls Trym.prog 15 #[.slice x ss.length ss.length, .slice y ss.length ss.length] wx fun e w' => e = .returned (.bool true) ∧ ∃ m, w' = wx.drewN m) := by
  obtain ⟨u, x, y, ss, cu, cx, cy, su, sx, sy, iu, ix, hl⟩ := h k hk
  refine ⟨u, x, y, ss, ?_, ?_, ?_, ?_, ?_⟩
  · exact (World.cell?_of_block (w := wf) (by rw [e])).trans cu
  · exact (World.cell?_of_block (w := wf) (by rw [e])).trans cx
  · exact (World.cell?_of_block (w := wf) (by rw [e])).trans cy
  · intro wx ex
    exact same_any u y ss.length ss.length ss wx (src_heap su (ex.trans e)) (src_heap sy (ex.trans e)) iu hl
  · intro wx ex
    exact same_any x y ss.length ss.length ss wx (src_heap sx (ex.trans e)) (src_heap sy (ex.trans e)) ix hl

theorem drewN_cell (w : World) (n : Nat) (a : Addr) : (w.drewN n).cell? a = w.cell? a := rfl
theorem drewN_same {w wf wr : World} (h : wr.heap = wf.heap ∧ Below w.heap.size w wr) (n : Nat) : (wr.drewN n).heap = wf.heap ∧ Below w.heap.size w (wr.drewN n) := ⟨h.1, h.2.os, h.2.tape, h.2.output, h.2.size, h.2.block⟩

theorem two_boxes (w : World) (o p : Obj) : ((w.alloc o).alloc p).heap[w.heap.size]? = some o ∧ ((w.alloc o).alloc p).heap[w.heap.size + 1]? = some p ∧ w.heap.size + 1 < ((w.alloc o).alloc p).heap.size := by
  refine ⟨?_, ?_, by simp⟩
  · rw [Below.heap_alloc _ _ _ (by simp)]; exact heap_alloc_new w o
  · have := heap_alloc_new (w.alloc o) p
    simpa using this

theorem boxes_below {w w' : World} {k : Nat} {o p : Obj} (h : w.heap[k]? = some o ∧ w.heap[k + 1]? = some p ∧ k + 1 < w.heap.size) (hb : Below w.heap.size w w') : w'.heap[k]? = some o ∧ w'.heap[k + 1]? = some p ∧ k + 1 < w'.heap.size := by
  have := hb.size
  refine ⟨?_, ?_, by omega⟩
  · rw [hb.block k (by omega)]; exact h.1
  · rw [hb.block (k + 1) (by omega)]; exact h.2.1

theorem boxes_alloc {w : World} {k : Nat} {o p : Obj} (h : w.heap[k]? = some o ∧ w.heap[k + 1]? = some p ∧ k + 1 < w.heap.size) (q : Obj) : (w.alloc q).heap[k]? = some o ∧ (w.alloc q).heap[k + 1]? = some p ∧ k + 1 < (w.alloc q).heap.size ∧ k + 1 < w.heap.size := by
  have h1 := boxes_below h ((Below.refl _ _).alloc (Nat.le_refl _) q)
  exact ⟨h1.1, h1.2.1, h1.2.2, h.2.2⟩


theorem below_all {w wd wf1 wf2 : World} {o : Obj} (h : Below w.heap.size w wd) (h1 : Below wd.heap.size wd wf1) (h2 : Below (wf1.alloc o).heap.size (wf1.alloc o) wf2) (p : Obj) : Below w.heap.size w (wf2.alloc p) := by
  have z1 := h.trans (h1.mono h.size)
  have z2 := z1.alloc z1.size o
  have z3 := z2.trans (h2.mono z2.size)
  exact z3.alloc z3.size p

theorem seven_of {wd wf1 wf2 : World} {k0 : Nat} {u0 x0 y0 u1 x1 y1 u2 x2 y2 u3 x3 y3 u4 x4 y4 u5 x5 y5 u6 x6 y6 : Option Addr} {s0 s1 s2 s3 s4 s5 s6 : List ByteArray} (hbw : wd.heap[k0]? = some (.cells #[.slice y0 s0.length s0.length, .slice y1 s1.length s1.length, .slice y2 s2.length s2.length, .slice y3 s3.length s3.length, .slice y4 s4.length s4.length, .slice y5 s5.length s5.length, .slice y6 s6.length s6.length] 26)) (hsz : k0 + 1 < wd.heap.size)
    (pu0 : VRow wd u0 s0) (px0 : VRow wd x0 s0) (py0 : VRow wd y0 s0) (iu0 : u0 = none ↔ x0 = none) (iy0 : y0 = none ↔ x0 = none) (t0 : 65536 ≥ s0.length)
    (pu1 : VRow wd u1 s1) (px1 : VRow wd x1 s1) (py1 : VRow wd y1 s1) (iu1 : u1 = none ↔ x1 = none) (iy1 : y1 = none ↔ x1 = none) (t1 : 65536 ≥ s1.length)
    (pu2 : VRow wd u2 s2) (px2 : VRow wd x2 s2) (py2 : VRow wd y2 s2) (iu2 : u2 = none ↔ x2 = none) (iy2 : y2 = none ↔ x2 = none) (t2 : 65536 ≥ s2.length)
    (pu3 : VRow wd u3 s3) (px3 : VRow wd x3 s3) (py3 : VRow wd y3 s3) (iu3 : u3 = none ↔ x3 = none) (iy3 : y3 = none ↔ x3 = none) (t3 : 65536 ≥ s3.length)
    (pu4 : VRow wd u4 s4) (px4 : VRow wd x4 s4) (py4 : VRow wd y4 s4) (iu4 : u4 = none ↔ x4 = none) (iy4 : y4 = none ↔ x4 = none) (t4 : 65536 ≥ s4.length)
    (pu5 : VRow wd u5 s5) (px5 : VRow wd x5 s5) (py5 : VRow wd y5 s5) (iu5 : u5 = none ↔ x5 = none) (iy5 : y5 = none ↔ x5 = none) (t5 : 65536 ≥ s5.length)
    (pu6 : VRow wd u6 s6) (px6 : VRow wd x6 s6) (py6 : VRow wd y6 s6) (iu6 : u6 = none ↔ x6 = none) (iy6 : y6 = none ↔ x6 = none) (t6 : 65536 ≥ s6.length)
    (h1 : Below wd.heap.size wd wf1) (h2 : Below (wf1.alloc (.cells #[.slice u0 s0.length s0.length, .slice u1 s1.length s1.length, .slice u2 s2.length s2.length, .slice u3 s3.length s3.length, .slice u4 s4.length s4.length, .slice u5 s5.length s5.length, .slice u6 s6.length s6.length] 26)).heap.size (wf1.alloc (.cells #[.slice u0 s0.length s0.length, .slice u1 s1.length s1.length, .slice u2 s2.length s2.length, .slice u3 s3.length s3.length, .slice u4 s4.length s4.length, .slice u5 s5.length s5.length, .slice u6 s6.length s6.length] 26)) wf2) : Seven (wf2.alloc (.cells #[.slice x0 s0.length s0.length, .slice x1 s1.length s1.length, .slice x2 s2.length s2.length, .slice x3 s3.length s3.length, .slice x4 s4.length s4.length, .slice x5 s5.length s5.length, .slice x6 s6.length s6.length] 26)) wf1.heap.size wf2.heap.size k0 := by
  have hs1 := h1.size
  have hs2 := h2.size
  simp at hs2
  have z1 : Below wd.heap.size wd (wf1.alloc (.cells #[.slice u0 s0.length s0.length, .slice u1 s1.length s1.length, .slice u2 s2.length s2.length, .slice u3 s3.length s3.length, .slice u4 s4.length s4.length, .slice u5 s5.length s5.length, .slice u6 s6.length s6.length] 26)) := h1.alloc hs1 _
  have z2 : Below wd.heap.size wd wf2 := z1.trans (h2.mono (by simp; omega))
  have z3 : Below wd.heap.size wd (wf2.alloc (.cells #[.slice x0 s0.length s0.length, .slice x1 s1.length s1.length, .slice x2 s2.length s2.length, .slice x3 s3.length s3.length, .slice x4 s4.length s4.length, .slice x5 s5.length s5.length, .slice x6 s6.length s6.length] 26)) := z2.alloc (by omega) _
  have bw : (wf2.alloc (.cells #[.slice x0 s0.length s0.length, .slice x1 s1.length s1.length, .slice x2 s2.length s2.length, .slice x3 s3.length s3.length, .slice x4 s4.length s4.length, .slice x5 s5.length s5.length, .slice x6 s6.length s6.length] 26)).heap[k0]? = some (.cells #[.slice y0 s0.length s0.length, .slice y1 s1.length s1.length, .slice y2 s2.length s2.length, .slice y3 s3.length s3.length, .slice y4 s4.length s4.length, .slice y5 s5.length s5.length, .slice y6 s6.length s6.length] 26) := by rw [z3.block k0 (by omega)]; exact hbw
  have bg : (wf2.alloc (.cells #[.slice x0 s0.length s0.length, .slice x1 s1.length s1.length, .slice x2 s2.length s2.length, .slice x3 s3.length s3.length, .slice x4 s4.length s4.length, .slice x5 s5.length s5.length, .slice x6 s6.length s6.length] 26)).heap[wf1.heap.size]? = some (.cells #[.slice u0 s0.length s0.length, .slice u1 s1.length s1.length, .slice u2 s2.length s2.length, .slice u3 s3.length s3.length, .slice u4 s4.length s4.length, .slice u5 s5.length s5.length, .slice u6 s6.length s6.length] 26) := by
    rw [Below.heap_alloc _ _ _ (by omega), h2.block _ (by simp)]; exact heap_alloc_new _ _
  have bk : (wf2.alloc (.cells #[.slice x0 s0.length s0.length, .slice x1 s1.length s1.length, .slice x2 s2.length s2.length, .slice x3 s3.length s3.length, .slice x4 s4.length s4.length, .slice x5 s5.length s5.length, .slice x6 s6.length s6.length] 26)).heap[wf2.heap.size]? = some (.cells #[.slice x0 s0.length s0.length, .slice x1 s1.length s1.length, .slice x2 s2.length s2.length, .slice x3 s3.length s3.length, .slice x4 s4.length s4.length, .slice x5 s5.length s5.length, .slice x6 s6.length s6.length] 26) := heap_alloc_new _ _
  intro k hk
  rcases (show k = 0 ∨ k = 1 ∨ k = 2 ∨ k = 3 ∨ k = 4 ∨ k = 5 ∨ k = 6 by omega) with rfl | rfl | rfl | rfl | rfl | rfl | rfl
  · exact ⟨u0, x0, y0, s0, (cell_of_row _ _ 0 _ 26 (0, 0) bg).trans rfl, (cell_of_row _ _ 0 _ 26 (0, 0) bk).trans rfl, (cell_of_row _ _ 0 _ 26 (0, 0) bw).trans rfl, (pu0.below z3).src, (px0.below z3).src, (py0.below z3).src, iu0.trans iy0.symm, iy0.symm, t0⟩
  · exact ⟨u1, x1, y1, s1, (cell_of_row _ _ 1 _ 26 (0, 0) bg).trans rfl, (cell_of_row _ _ 1 _ 26 (0, 0) bk).trans rfl, (cell_of_row _ _ 1 _ 26 (0, 0) bw).trans rfl, (pu1.below z3).src, (px1.below z3).src, (py1.below z3).src, iu1.trans iy1.symm, iy1.symm, t1⟩
  · exact ⟨u2, x2, y2, s2, (cell_of_row _ _ 2 _ 26 (0, 0) bg).trans rfl, (cell_of_row _ _ 2 _ 26 (0, 0) bk).trans rfl, (cell_of_row _ _ 2 _ 26 (0, 0) bw).trans rfl, (pu2.below z3).src, (px2.below z3).src, (py2.below z3).src, iu2.trans iy2.symm, iy2.symm, t2⟩
  · exact ⟨u3, x3, y3, s3, (cell_of_row _ _ 3 _ 26 (0, 0) bg).trans rfl, (cell_of_row _ _ 3 _ 26 (0, 0) bk).trans rfl, (cell_of_row _ _ 3 _ 26 (0, 0) bw).trans rfl, (pu3.below z3).src, (px3.below z3).src, (py3.below z3).src, iu3.trans iy3.symm, iy3.symm, t3⟩
  · exact ⟨u4, x4, y4, s4, (cell_of_row _ _ 4 _ 26 (0, 0) bg).trans rfl, (cell_of_row _ _ 4 _ 26 (0, 0) bk).trans rfl, (cell_of_row _ _ 4 _ 26 (0, 0) bw).trans rfl, (pu4.below z3).src, (px4.below z3).src, (py4.below z3).src, iu4.trans iy4.symm, iy4.symm, t4⟩
  · exact ⟨u5, x5, y5, s5, (cell_of_row _ _ 5 _ 26 (0, 0) bg).trans rfl, (cell_of_row _ _ 5 _ 26 (0, 0) bk).trans rfl, (cell_of_row _ _ 5 _ 26 (0, 0) bw).trans rfl, (pu5.below z3).src, (px5.below z3).src, (py5.below z3).src, iu5.trans iy5.symm, iy5.symm, t5⟩
  · exact ⟨u6, x6, y6, s6, (cell_of_row _ _ 6 _ 26 (0, 0) bg).trans rfl, (cell_of_row _ _ 6 _ 26 (0, 0) bk).trans rfl, (cell_of_row _ _ 6 _ 26 (0, 0) bw).trans rfl, (pu6.below z3).src, (px6.below z3).src, (py6.below z3).src, iu6.trans iy6.symm, iy6.symm, t6⟩
set_option maxHeartbeats 4000000 in
set_option maxRecDepth 100000 in
theorem walk (a0 a1 a2 a3 a4 a5 a6 a7 : Option Addr) (c0 c1 c2 c3 c4 c5 c6 c7 : Nat) (s0 s1 s2 s3 s4 s5 s6 s7 : List ByteArray) (w : World) (h0 : Src w a0 s0) (l0 : s0.length ≤ maxLen) (h1 : Src w a1 s1) (l1 : s1.length ≤ maxLen) (h2 : Src w a2 s2) (l2 : s2.length ≤ maxLen) (h3 : Src w a3 s3) (l3 : s3.length ≤ maxLen) (h4 : Src w a4 s4) (l4 : s4.length ≤ maxLen) (h5 : Src w a5 s5) (l5 : s5.length ≤ maxLen) (h6 : Src w a6 s6) (l6 : s6.length ≤ maxLen) (h7 : Src w a7 s7) (l7 : s7.length ≤ maxLen) :
    Calls Trym.prog 6 #[.slice a0 s0.length c0, .slice a1 s1.length c1, .slice a2 s2.length c2, .slice a3 s3.length c3, .slice a4 s4.length c4, .slice a5 s5.length c5, .slice a6 s6.length c6, .slice a7 s7.length c7] w fun e w' => e = .returned (.bool true) ∧ Below w.heap.size w w' := by
  have HBY := hid (bytes33_any a0 a1 a2 a3 a4 a5 a6 a7 c0 c1 c2 c3 c4 c5 c6 c7 s0 s1 s2 s3 s4 s5 s6 s7 w h0 l0 h1 l1 h2 l2 h3 l3 h4 l4 h5 l5 h6 l6 h7 l7)
  have HDB := hid (depBytes_any a0 a1 a2 a3 a4 a5 a6 a7 c0 c1 c2 c3 c4 c5 c6 c7 s0 s1 s2 s3 s4 s5 s6 s7 w h0 h1 h2 h3 h4 h5 h6 h7 l0 l1 l2 l3 l4 l5 l6 l7)
  have S0 : Hid (Src w a0 s0) := h0
  have S1 : Hid (Src w a1 s1) := h1
  have S2 : Hid (Src w a2 s2) := h2
  have S3 : Hid (Src w a3 s3) := h3
  have S4 : Hid (Src w a4 s4) := h4
  have S5 : Hid (Src w a5 s5) := h5
  have S6 : Hid (Src w a6 s6) := h6
  have S7 : Hid (Src w a7 s7) := h7
  unfold maxLen at l0 l1 l2 l3 l4 l5 l6 l7
  clear h0 h1 h2 h3 h4 h5 h6 h7
  go_enter Trym.func6, Trym.ntmps6
  go_wp2_with fail
  refine HBY.out.mono ?_
  rintro e w' ⟨b, rfl, rfl⟩
  cases b
  · go_wp2
    go_ret
    exact ⟨rfl, Below.refl _ _⟩
  rcases Nat.lt_or_ge 65536 s0.length with t0 | t0
  · go_wp2_with fail
    go_ret
    exact ⟨rfl, Below.refl _ _⟩
  rcases Nat.lt_or_ge 65536 s1.length with t1 | t1
  · go_wp2_with fail
    go_ret
    exact ⟨rfl, Below.refl _ _⟩
  rcases Nat.lt_or_ge 65536 s2.length with t2 | t2
  · go_wp2_with fail
    go_ret
    exact ⟨rfl, Below.refl _ _⟩
  rcases Nat.lt_or_ge 65536 s3.length with t3 | t3
  · go_wp2_with fail
    go_ret
    exact ⟨rfl, Below.refl _ _⟩
  rcases Nat.lt_or_ge 65536 s4.length with t4 | t4
  · go_wp2_with fail
    go_ret
    exact ⟨rfl, Below.refl _ _⟩
  rcases Nat.lt_or_ge 65536 s5.length with t5 | t5
  · go_wp2_with fail
    go_ret
    exact ⟨rfl, Below.refl _ _⟩
  rcases Nat.lt_or_ge 65536 s6.length with t6 | t6
  · go_wp2_with fail
    go_ret
    exact ⟨rfl, Below.refl _ _⟩
  rcases Nat.lt_or_ge 65536 s7.length with t7 | t7
  · go_wp2_with fail
    go_ret
    exact ⟨rfl, Below.refl _ _⟩
  go_wp2_with fail
  refine HDB.out.mono ?_
  rintro e w' ⟨z, rfl, hz, rfl⟩
  clear HBY HDB hz
  rcases Int.lt_or_le 1048576 z with tz | tz
  · go_wp2_with fail
    go_ret
    exact ⟨rfl, Below.refl _ _⟩
  have HB0 : Hid (Bag w [] w) := Bag.start w
  go_wp2_with fail
  refine (bag_clone HB0.out a0 c0 s0 (S0.out.below HB0.out.bel) t0).mono ?_
  rintro e wa1 ⟨x0, rfl, hx, hB, hbel⟩
  have HB1 := hid hB
  have IX0 : Hid (x0 = none ↔ a0 = none) := hx
  clear hx hB hbel HB0
  go_wp2_with fail
  refine (bag_clone HB1.out a1 c1 s1 (S1.out.below HB1.out.bel) t1).mono ?_
  rintro e wa2 ⟨x1, rfl, hx, hB, hbel⟩
  have HB2 := hid hB
  have IX1 : Hid (x1 = none ↔ a1 = none) := hx
  clear hx hB hbel HB1
  go_wp2_with fail
  refine (bag_clone HB2.out a2 c2 s2 (S2.out.below HB2.out.bel) t2).mono ?_
  rintro e wa3 ⟨x2, rfl, hx, hB, hbel⟩
  have HB3 := hid hB
  have IX2 : Hid (x2 = none ↔ a2 = none) := hx
  clear hx hB hbel HB2
  go_wp2_with fail
  refine (bag_clone HB3.out a3 c3 s3 (S3.out.below HB3.out.bel) t3).mono ?_
  rintro e wa4 ⟨x3, rfl, hx, hB, hbel⟩
  have HB4 := hid hB
  have IX3 : Hid (x3 = none ↔ a3 = none) := hx
  clear hx hB hbel HB3
  go_wp2_with fail
  refine (bag_clone HB4.out a4 c4 s4 (S4.out.below HB4.out.bel) t4).mono ?_
  rintro e wa5 ⟨x4, rfl, hx, hB, hbel⟩
  have HB5 := hid hB
  have IX4 : Hid (x4 = none ↔ a4 = none) := hx
  clear hx hB hbel HB4
  go_wp2_with fail
  refine (bag_clone HB5.out a5 c5 s5 (S5.out.below HB5.out.bel) t5).mono ?_
  rintro e wa6 ⟨x5, rfl, hx, hB, hbel⟩
  have HB6 := hid hB
  have IX5 : Hid (x5 = none ↔ a5 = none) := hx
  clear hx hB hbel HB5
  go_wp2_with fail
  refine (bag_clone HB6.out a6 c6 s6 (S6.out.below HB6.out.bel) t6).mono ?_
  rintro e wa7 ⟨x6, rfl, hx, hB, hbel⟩
  have HB7 := hid hB
  have IX6 : Hid (x6 = none ↔ a6 = none) := hx
  clear hx hB hbel HB6
  go_wp2_with fail
  refine (bag_clone HB7.out a7 c7 s7 (S7.out.below HB7.out.bel) t7).mono ?_
  rintro e wa8 ⟨x7, rfl, hx, hB, hbel⟩
  have HB8 := hid hB
  have IX7 : Hid (x7 = none ↔ a7 = none) := hx
  clear hx hB hbel HB7
  go_wp2_with fail
  refine (bag_clone HB8.out x0 s0.length s0 (HB8.out.row ⟨x0, s0⟩ (by simp)).src t0).mono ?_
  rintro e wa9 ⟨y0, rfl, hx, hB, hbel⟩
  have HB9 := hid hB
  have IY0 : Hid (y0 = none ↔ x0 = none) := hx
  clear hx hB hbel HB8
  go_wp2_with fail
  refine (bag_clone HB9.out x1 s1.length s1 (HB9.out.row ⟨x1, s1⟩ (by simp)).src t1).mono ?_
  rintro e wa10 ⟨y1, rfl, hx, hB, hbel⟩
  have HB10 := hid hB
  have IY1 : Hid (y1 = none ↔ x1 = none) := hx
  clear hx hB hbel HB9
  go_wp2_with fail
  refine (bag_clone HB10.out x2 s2.length s2 (HB10.out.row ⟨x2, s2⟩ (by simp)).src t2).mono ?_
  rintro e wa11 ⟨y2, rfl, hx, hB, hbel⟩
  have HB11 := hid hB
  have IY2 : Hid (y2 = none ↔ x2 = none) := hx
  clear hx hB hbel HB10
  go_wp2_with fail
  refine (bag_clone HB11.out x3 s3.length s3 (HB11.out.row ⟨x3, s3⟩ (by simp)).src t3).mono ?_
  rintro e wa12 ⟨y3, rfl, hx, hB, hbel⟩
  have HB12 := hid hB
  have IY3 : Hid (y3 = none ↔ x3 = none) := hx
  clear hx hB hbel HB11
  go_wp2_with fail
  refine (bag_clone HB12.out x4 s4.length s4 (HB12.out.row ⟨x4, s4⟩ (by simp)).src t4).mono ?_
  rintro e wa13 ⟨y4, rfl, hx, hB, hbel⟩
  have HB13 := hid hB
  have IY4 : Hid (y4 = none ↔ x4 = none) := hx
  clear hx hB hbel HB12
  go_wp2_with fail
  refine (bag_clone HB13.out x5 s5.length s5 (HB13.out.row ⟨x5, s5⟩ (by simp)).src t5).mono ?_
  rintro e wa14 ⟨y5, rfl, hx, hB, hbel⟩
  have HB14 := hid hB
  have IY5 : Hid (y5 = none ↔ x5 = none) := hx
  clear hx hB hbel HB13
  go_wp2_with fail
  refine (bag_clone HB14.out x6 s6.length s6 (HB14.out.row ⟨x6, s6⟩ (by simp)).src t6).mono ?_
  rintro e wa15 ⟨y6, rfl, hx, hB, hbel⟩
  have HB15 := hid hB
  have IY6 : Hid (y6 = none ↔ x6 = none) := hx
  clear hx hB hbel HB14
  go_wp2_with fail
  have HC15 : Hid (((wa15.alloc (.cells #[.slice y0 s0.length s0.length, .slice y1 s1.length s1.length, .slice y2 s2.length s2.length, .slice y3 s3.length s3.length, .slice y4 s4.length s4.length, .slice y5 s5.length s5.length, .slice y6 s6.length s6.length] 26)).alloc (.cells #[.slice x0 s0.length s0.length, .slice x1 s1.length s1.length, .slice x2 s2.length s2.length, .slice x3 s3.length s3.length, .slice x4 s4.length s4.length, .slice x5 s5.length s5.length, .slice x6 s6.length s6.length] 28)).heap[wa15.heap.size]? = some (.cells #[.slice y0 s0.length s0.length, .slice y1 s1.length s1.length, .slice y2 s2.length s2.length, .slice y3 s3.length s3.length, .slice y4 s4.length s4.length, .slice y5 s5.length s5.length, .slice y6 s6.length s6.length] 26) ∧ ((wa15.alloc (.cells #[.slice y0 s0.length s0.length, .slice y1 s1.length s1.length, .slice y2 s2.length s2.length, .slice y3 s3.length s3.length, .slice y4 s4.length s4.length, .slice y5 s5.length s5.length, .slice y6 s6.length s6.length] 26)).alloc (.cells #[.slice x0 s0.length s0.length, .slice x1 s1.length s1.length, .slice x2 s2.length s2.length, .slice x3 s3.length s3.length, .slice x4 s4.length s4.length, .slice x5 s5.length s5.length, .slice x6 s6.length s6.length] 28)).heap[wa15.heap.size + 1]? = some (.cells #[.slice x0 s0.length s0.length, .slice x1 s1.length s1.length, .slice x2 s2.length s2.length, .slice x3 s3.length s3.length, .slice x4 s4.length s4.length, .slice x5 s5.length s5.length, .slice x6 s6.length s6.length] 28) ∧ wa15.heap.size + 1 < ((wa15.alloc (.cells #[.slice y0 s0.length s0.length, .slice y1 s1.length s1.length, .slice y2 s2.length s2.length, .slice y3 s3.length s3.length, .slice y4 s4.length s4.length, .slice y5 s5.length s5.length, .slice y6 s6.length s6.length] 26)).alloc (.cells #[.slice x0 s0.length s0.length, .slice x1 s1.length s1.length, .slice x2 s2.length s2.length, .slice x3 s3.length s3.length, .slice x4 s4.length s4.length, .slice x5 s5.length s5.length, .slice x6 s6.length s6.length] 28)).heap.size) :=
    two_boxes wa15 _ _
  have HB16 := hid ((HB15.out.alloc (.cells #[.slice y0 s0.length s0.length, .slice y1 s1.length s1.length, .slice y2 s2.length s2.length, .slice y3 s3.length s3.length, .slice y4 s4.length s4.length, .slice y5 s5.length s5.length, .slice y6 s6.length s6.length] 26)).alloc (.cells #[.slice x0 s0.length s0.length, .slice x1 s1.length s1.length, .slice x2 s2.length s2.length, .slice x3 s3.length s3.length, .slice x4 s4.length s4.length, .slice x5 s5.length s5.length, .slice x6 s6.length s6.length] 28))
  clear HB15
  refine (bag_clone HB16.out x7 s7.length s7 (HB16.out.row ⟨x7, s7⟩ (by simp)).src t7).mono ?_
  rintro e wa17 ⟨z0, rfl, hx, hB, hbel⟩
  have HB17 := hid hB
  have HC17 := hid (boxes_below HC15.out hbel)
  clear hx hB hbel HB16 HC15
  go_wp2_with fail
  refine (bag_clone HB17.out x7 s7.length s7 (HB17.out.row ⟨x7, s7⟩ (by simp)).src t7).mono ?_
  rintro e wa18 ⟨z1, rfl, hx, hB, hbel⟩
  have HB18 := hid hB
  have HC18 := hid (boxes_below HC17.out hbel)
  clear hx hB hbel HB17 HC17
  go_wp2_with fail
  refine (bag_clone HB18.out x7 s7.length s7 (HB18.out.row ⟨x7, s7⟩ (by simp)).src t7).mono ?_
  rintro e wa19 ⟨z2, rfl, hx, hB, hbel⟩
  have HB19 := hid hB
  have HC19 := hid (boxes_below HC18.out hbel)
  clear hx hB hbel HB18 HC18
  go_wp2_with fail
  refine (bag_clone HB19.out x7 s7.length s7 (HB19.out.row ⟨x7, s7⟩ (by simp)).src t7).mono ?_
  rintro e wa20 ⟨z3, rfl, hx, hB, hbel⟩
  have HB20 := hid hB
  have HC20 := hid (boxes_below HC19.out hbel)
  clear hx hB hbel HB19 HC19
  go_wp2_with fail
  refine (bag_clone HB20.out x7 s7.length s7 (HB20.out.row ⟨x7, s7⟩ (by simp)).src t7).mono ?_
  rintro e wa21 ⟨z4, rfl, hx, hB, hbel⟩
  have HB21 := hid hB
  have HC21 := hid (boxes_below HC20.out hbel)
  clear hx hB hbel HB20 HC20
  go_wp2_with fail
  refine (bag_clone HB21.out x7 s7.length s7 (HB21.out.row ⟨x7, s7⟩ (by simp)).src t7).mono ?_
  rintro e wa22 ⟨z5, rfl, hx, hB, hbel⟩
  have HB22 := hid hB
  have HC22 := hid (boxes_below HC21.out hbel)
  clear hx hB hbel HB21 HC21
  go_wp2_with fail
  refine (bag_clone HB22.out x7 s7.length s7 (HB22.out.row ⟨x7, s7⟩ (by simp)).src t7).mono ?_
  rintro e wa23 ⟨z6, rfl, hx, hB, hbel⟩
  have HB23 := hid hB
  have HC23 := hid (boxes_below HC22.out hbel)
  clear hx hB hbel HB22 HC22
  go_wp2_with fail
  have HB24 := hid (HB23.out.alloc (.cells #[.slice z0 s7.length s7.length, .slice z1 s7.length s7.length, .slice z2 s7.length s7.length, .slice z3 s7.length s7.length, .slice z4 s7.length s7.length, .slice z5 s7.length s7.length, .slice z6 s7.length s7.length] 28))
  have HC24 := hid (boxes_alloc HC23.out (.cells #[.slice z0 s7.length s7.length, .slice z1 s7.length s7.length, .slice z2 s7.length s7.length, .slice z3 s7.length s7.length, .slice z4 s7.length s7.length, .slice z5 s7.length s7.length, .slice z6 s7.length s7.length] 28))
  have hw23 := hid (HB23.out.bel.size)
  clear HB23 HC23
  refine (deep_any (wa15.heap.size + 1) wa23.heap.size _ (.slice z0 s7.length s7.length) (.slice z1 s7.length s7.length) (.slice z2 s7.length s7.length) (.slice z3 s7.length s7.length) (.slice z4 s7.length s7.length) (.slice z5 s7.length s7.length) (.slice z6 s7.length s7.length) x0 x1 x2 x3 x4 x5 x6 s0 s1 s2 s3 s4 s5 s6 (by have := HC24.out.2.2.2; omega) HC24.out.2.1 (heap_alloc_new _ _) (HB24.out.row ⟨x0, s0⟩ (by simp)) (HB24.out.row ⟨x1, s1⟩ (by simp)) (HB24.out.row ⟨x2, s2⟩ (by simp)) (HB24.out.row ⟨x3, s3⟩ (by simp)) (HB24.out.row ⟨x4, s4⟩ (by simp)) (HB24.out.row ⟨x5, s5⟩ (by simp)) (HB24.out.row ⟨x6, s6⟩ (by simp)) t0 t1 t2 t3 t4 t5 t6).mono ?_
  rintro e wd ⟨rfl, u0, u1, u2, u3, u4, u5, u6, hDc, iu0, iu1, iu2, iu3, iu4, iu5, iu6⟩
  have hbo : wd.heap[wa23.heap.size]? = some (.cells #[.slice u0 s0.length s0.length, .slice u1 s1.length s1.length, .slice u2 s2.length s2.length, .slice u3 s3.length s3.length, .slice u4 s4.length s4.length, .slice u5 s5.length s5.length, .slice u6 s6.length s6.length] 28) := hDc.box
  have hbw : wd.heap[wa15.heap.size]? = some (.cells #[.slice y0 s0.length s0.length, .slice y1 s1.length s1.length, .slice y2 s2.length s2.length, .slice y3 s3.length s3.length, .slice y4 s4.length s4.length, .slice y5 s5.length s5.length, .slice y6 s6.length s6.length] 26) := by
    rw [hDc.old _ (by have := HC24.out.2.2.1; omega) (by have := HC24.out.2.2.2; omega)]; exact HC24.out.1
  have hbi : wd.heap[wa15.heap.size + 1]? = some (.cells #[.slice x0 s0.length s0.length, .slice x1 s1.length s1.length, .slice x2 s2.length s2.length, .slice x3 s3.length s3.length, .slice x4 s4.length s4.length, .slice x5 s5.length s5.length, .slice x6 s6.length s6.length] 28) := by
    rw [hDc.old _ (by have := HC24.out.2.2.1; omega) (by have := HC24.out.2.2.2; omega)]; exact HC24.out.2.1
  have hsz : wa15.heap.size + 1 < wd.heap.size := Nat.lt_of_lt_of_le HC24.out.2.2.1 hDc.size
  have hbel : Below w.heap.size w wd := hDc.below HB24.out.bel hw23.out
  have HF := hid (And.intro hbel (And.intro hbw (And.intro hbi (And.intro hsz hDc))))
  have VX0 := hid (hDc.keep (heap_alloc_new _ _) (HB24.out.row ⟨x0, s0⟩ (by simp)))
  have VY0 := hid (hDc.keep (heap_alloc_new _ _) (HB24.out.row ⟨y0, s0⟩ (by simp)))
  have VU0 := hid (hDc.row ⟨u0, s0⟩ (by simp))
  have IU0 := hid iu0
  have VX1 := hid (hDc.keep (heap_alloc_new _ _) (HB24.out.row ⟨x1, s1⟩ (by simp)))
  have VY1 := hid (hDc.keep (heap_alloc_new _ _) (HB24.out.row ⟨y1, s1⟩ (by simp)))
  have VU1 := hid (hDc.row ⟨u1, s1⟩ (by simp))
  have IU1 := hid iu1
  have VX2 := hid (hDc.keep (heap_alloc_new _ _) (HB24.out.row ⟨x2, s2⟩ (by simp)))
  have VY2 := hid (hDc.keep (heap_alloc_new _ _) (HB24.out.row ⟨y2, s2⟩ (by simp)))
  have VU2 := hid (hDc.row ⟨u2, s2⟩ (by simp))
  have IU2 := hid iu2
  have VX3 := hid (hDc.keep (heap_alloc_new _ _) (HB24.out.row ⟨x3, s3⟩ (by simp)))
  have VY3 := hid (hDc.keep (heap_alloc_new _ _) (HB24.out.row ⟨y3, s3⟩ (by simp)))
  have VU3 := hid (hDc.row ⟨u3, s3⟩ (by simp))
  have IU3 := hid iu3
  have VX4 := hid (hDc.keep (heap_alloc_new _ _) (HB24.out.row ⟨x4, s4⟩ (by simp)))
  have VY4 := hid (hDc.keep (heap_alloc_new _ _) (HB24.out.row ⟨y4, s4⟩ (by simp)))
  have VU4 := hid (hDc.row ⟨u4, s4⟩ (by simp))
  have IU4 := hid iu4
  have VX5 := hid (hDc.keep (heap_alloc_new _ _) (HB24.out.row ⟨x5, s5⟩ (by simp)))
  have VY5 := hid (hDc.keep (heap_alloc_new _ _) (HB24.out.row ⟨y5, s5⟩ (by simp)))
  have VU5 := hid (hDc.row ⟨u5, s5⟩ (by simp))
  have IU5 := hid iu5
  have VX6 := hid (hDc.keep (heap_alloc_new _ _) (HB24.out.row ⟨x6, s6⟩ (by simp)))
  have VY6 := hid (hDc.keep (heap_alloc_new _ _) (HB24.out.row ⟨y6, s6⟩ (by simp)))
  have VU6 := hid (hDc.row ⟨u6, s6⟩ (by simp))
  have IU6 := hid iu6
  have HBO := hid hbo
  clear hbo hbw hbi hsz hbel hDc HB24 HC24 iu0 iu1 iu2 iu3 iu4 iu5 iu6
  go_wp2_with fail
  refine (fields_any wa23.heap.size u0 u1 u2 u3 u4 u5 u6 s0.length s1.length s2.length s3.length s4.length s5.length s6.length s0.length s1.length s2.length s3.length s4.length s5.length s6.length wd (Array.getElem?_eq_some_iff.1 HBO.out).1 ((cell_of_row wd wa23.heap.size 0 _ 28 (0, 0) HBO.out).trans rfl) ((cell_of_row wd wa23.heap.size 1 _ 28 (0, 0) HBO.out).trans rfl) ((cell_of_row wd wa23.heap.size 2 _ 28 (0, 0) HBO.out).trans rfl) ((cell_of_row wd wa23.heap.size 3 _ 28 (0, 0) HBO.out).trans rfl) ((cell_of_row wd wa23.heap.size 4 _ 28 (0, 0) HBO.out).trans rfl) ((cell_of_row wd wa23.heap.size 5 _ 28 (0, 0) HBO.out).trans rfl) ((cell_of_row wd wa23.heap.size 6 _ 28 (0, 0) HBO.out).trans rfl)).mono ?_
  rintro e wf1 ⟨rfl, hb1⟩
  have HB1 := hid hb1
  have HBI : Hid ((wf1.alloc (.cells #[.slice u0 s0.length s0.length, .slice u1 s1.length s1.length, .slice u2 s2.length s2.length, .slice u3 s3.length s3.length, .slice u4 s4.length s4.length, .slice u5 s5.length s5.length, .slice u6 s6.length s6.length] 26)).heap[wa15.heap.size + 1]? = some (.cells #[.slice x0 s0.length s0.length, .slice x1 s1.length s1.length, .slice x2 s2.length s2.length, .slice x3 s3.length s3.length, .slice x4 s4.length s4.length, .slice x5 s5.length s5.length, .slice x6 s6.length s6.length] 28)) := by
    show _ = _
    rw [Below.heap_alloc _ _ _ (by have := HB1.out.size; have := HF.out.2.2.2.1; omega), HB1.out.block _ HF.out.2.2.2.1]
    exact HF.out.2.2.1
  clear hb1
  go_wp2_with fail
  refine (fields_any (wa15.heap.size + 1) x0 x1 x2 x3 x4 x5 x6 s0.length s1.length s2.length s3.length s4.length s5.length s6.length s0.length s1.length s2.length s3.length s4.length s5.length s6.length _ (Array.getElem?_eq_some_iff.1 HBI.out).1 ((cell_of_row _ (wa15.heap.size + 1) 0 _ 28 (0, 0) HBI.out).trans rfl) ((cell_of_row _ (wa15.heap.size + 1) 1 _ 28 (0, 0) HBI.out).trans rfl) ((cell_of_row _ (wa15.heap.size + 1) 2 _ 28 (0, 0) HBI.out).trans rfl) ((cell_of_row _ (wa15.heap.size + 1) 3 _ 28 (0, 0) HBI.out).trans rfl) ((cell_of_row _ (wa15.heap.size + 1) 4 _ 28 (0, 0) HBI.out).trans rfl) ((cell_of_row _ (wa15.heap.size + 1) 5 _ 28 (0, 0) HBI.out).trans rfl) ((cell_of_row _ (wa15.heap.size + 1) 6 _ 28 (0, 0) HBI.out).trans rfl)).mono ?_
  rintro e wf2 ⟨rfl, hb2⟩
  have HS := hid (seven_of HF.out.2.1 HF.out.2.2.2.1 VU0.out VX0.out VY0.out IU0.out IY0.out t0 VU1.out VX1.out VY1.out IU1.out IY1.out t1 VU2.out VX2.out VY2.out IU2.out IY2.out t2 VU3.out VX3.out VY3.out IU3.out IY3.out t3 VU4.out VX4.out VY4.out IU4.out IY4.out t4 VU5.out VX5.out VY5.out IU5.out IY5.out t5 VU6.out VX6.out VY6.out IU6.out IY6.out t6 HB1.out hb2)
  have HW := hid (below_all HF.out.1 HB1.out hb2 (.cells #[.slice x0 s0.length s0.length, .slice x1 s1.length s1.length, .slice x2 s2.length s2.length, .slice x3 s3.length s3.length, .slice x4 s4.length s4.length, .slice x5 s5.length s5.length, .slice x6 s6.length s6.length] 26))
  clear hb2 HB1 HBI HBO HF VX0 VY0 VU0 IU0 IY0 IX0 S0 VX1 VY1 VU1 IU1 IY1 IX1 S1 VX2 VY2 VU2 IU2 IY2 IX2 S2 VX3 VY3 VU3 IU3 IY3 IX3 S3 VX4 VY4 VU4 IU4 IY4 IX4 S4 VX5 VY5 VU5 IU5 IY5 IX5 S5 VX6 VY6 VU6 IU6 IY6 IX6 S6
  go_wp2_with fail
  generalize wf2.alloc (.cells #[.slice x0 s0.length s0.length, .slice x1 s1.length s1.length, .slice x2 s2.length s2.length, .slice x3 s3.length s3.length, .slice x4 s4.length s4.length, .slice x5 s5.length s5.length, .slice x6 s6.length s6.length] 26) = wf at HS HW ⊢
  go_loopw [22] (fun i wr => ∃ k : Nat, k ≤ 7 ∧ i = .int .i64 k ∧ Hid (wr.heap = wf.heap ∧ Below w.heap.size w wr)) (fun i _ => 7 - (intOf i).toNat)
  case atStart => exact ⟨0, by omega, rfl, rfl, HW.out⟩
  case round =>
    obtain ⟨k, hk, rfl, HC⟩ := hrel
    by_cases hlt : k < 7
    · obtain ⟨u, x, y, ss, cu, cx, cy, R1, R2⟩ := round_facts HS.out HC.out.1 hlt
      have hltI : (k : Int) < 7 := by omega
      clear HS
      go_wp2
      go_quiet ((go_at_call_of 15 (Value.slice u ss.length ss.length); refine Calls.quiet_of (R1.out _ ?_); rfl))
      go_wp2
      have HC2 := hid (drewN_same HC.out nq)
      have cx2 := (drewN_cell wr nq _).trans cx
      have cy2 := (drewN_cell wr nq _).trans cy
      have R3 := hid (fun (wx : World) (e : wx.heap = (wr.drewN nq).heap) => R2.out wx e)
      clear cu cx cy R1 R2 HC
      generalize wr.drewN nq = wr2 at HC2 cx2 cy2 R3 ⊢
      go_quiet ((go_at_call_of 15 (Value.slice x ss.length ss.length); refine Calls.quiet_of (R3.out _ ?_); rfl))
      go_wp2
      go_roundw
      case rel => exact ⟨k + 1, by omega, by go_num, HC2.out.1, ⟨HC2.out.2.os, HC2.out.2.tape, HC2.out.2.output, HC2.out.2.size, HC2.out.2.block⟩⟩
      case measure => simp [intOf]; omega
    · go_wp2
      go_ret
      exact ⟨rfl, HC.out.2⟩
end Go.Proofs.Qxb6000365aMods.fnDependenciesDeepCopyIsFaithful
