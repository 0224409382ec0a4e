import Derived.Test.Qxb6000365aModsLoops
import Derived.Test.Qxb6000365aModsDeep
import Derived.Test.Qxb6000365aModsBytesI
import Derived.Deep.DeepMust
import Derived.Deep.RegionWith
namespace Go.Proofs.Qxb6000365aMods.fnDependenciesDeepCopyIsIndependent
open Go.RowKit
theorem hid {p : Prop} (h : p) : Hid p := h

theorem sameW_below {w wb wr : World} (h : SameW wb wr) (hb : Below w.heap.size w wb) : Below w.heap.size w wr :=
  ⟨h.2.1.trans hb.os, h.2.2.1.trans hb.tape, h.2.2.2.trans hb.output, by rw [h.1]; exact hb.size, fun k hk => by rw [h.1]; exact hb.block k hk⟩

set_option maxHeartbeats 4000000 in
set_option maxRecDepth 100000 in
theorem walk (a0 a1 a2 a3 a4 a5 a6 : Option Addr) (c0 c1 c2 c3 c4 c5 c6 : Nat) (s0 s1 s2 s3 s4 s5 s6 : List ByteArray) (w : World) (h0 : Src w a0 s0) (l0 : s0.length ≤ maxLen) (h1 : Src w a1 s1) (l1 : s1.length ≤ maxLen) (h2 : Src w a2 s2) (l2 : s2.length ≤ maxLen) (h3 : Src w a3 s3) (l3 : s3.length ≤ maxLen) (h4 : Src w a4 s4) (l4 : s4.length ≤ maxLen) (h5 : Src w a5 s5) (l5 : s5.length ≤ maxLen) (h6 : Src w a6 s6) (l6 : s6.length ≤ maxLen) :
    Calls Trym.prog 3 #[.slice a0 s0.length c0, .slice a1 s1.length c1, .slice a2 s2.length c2, .slice a3 s3.length c3, .slice a4 s4.length c4, .slice a5 s5.length c5, .slice a6 s6.length c6] w fun e w' => e = .returned (.bool true) ∧ Below w.heap.size w w' := by
  have HBY := hid (bytes9_any a0 a1 a2 a3 a4 a5 a6 c0 c1 c2 c3 c4 c5 c6 s0 s1 s2 s3 s4 s5 s6 w h0 l0 h1 l1 h2 l2 h3 l3 h4 l4 h5 l5 h6 l6)
  have hdb : Calls Trym.prog 10 #[.slice a0 s0.length c0, .slice a1 s1.length c1, .slice a2 s2.length c2, .slice a3 s3.length c3, .slice a4 s4.length c4, .slice a5 s5.length c5, .slice a6 s6.length c6, .slice none 0 0] w (DepLeft [s0, s1, s2, s3, s4, s5, s6, []] w) := depBytes_any a0 a1 a2 a3 a4 a5 a6 none c0 c1 c2 c3 c4 c5 c6 0 s0 s1 s2 s3 s4 s5 s6 [] w h0 h1 h2 h3 h4 h5 h6 ⟨fun _ => rfl, fun h => absurd rfl h⟩ l0 l1 l2 l3 l4 l5 l6 (Nat.zero_le _)
  have HDB := hid hdb
  clear hdb
  have S0 : Hid (Src w a0 s0) := h0
  have S1 : Hid (Src w a1 s1) := h1
  have S2 : Hid (Src w a2 s2) := h2
  have S3 : Hid (Src w a3 s3) := h3
  have S4 : Hid (Src w a4 s4) := h4
  have S5 : Hid (Src w a5 s5) := h5
  have S6 : Hid (Src w a6 s6) := h6
  unfold maxLen at l0 l1 l2 l3 l4 l5 l6
  clear h0 h1 h2 h3 h4 h5 h6
  go_enter Trym.func3, Trym.ntmps3
  go_wp2_with fail
  refine HBY.out.mono ?_
  rintro e w' ⟨b, rfl, rfl⟩
  cases b
  · go_wp2
    go_ret
    exact ⟨rfl, Below.refl _ _⟩
  rcases Nat.lt_or_ge 65536 s0.length with t0 | t0
  · go_wp2_with fail
    go_ret
    exact ⟨rfl, Below.refl _ _⟩
  rcases Nat.lt_or_ge 65536 s1.length with t1 | t1
  · go_wp2_with fail
    go_ret
    exact ⟨rfl, Below.refl _ _⟩
  rcases Nat.lt_or_ge 65536 s2.length with t2 | t2
  · go_wp2_with fail
    go_ret
    exact ⟨rfl, Below.refl _ _⟩
  rcases Nat.lt_or_ge 65536 s3.length with t3 | t3
  · go_wp2_with fail
    go_ret
    exact ⟨rfl, Below.refl _ _⟩
  rcases Nat.lt_or_ge 65536 s4.length with t4 | t4
  · go_wp2_with fail
    go_ret
    exact ⟨rfl, Below.refl _ _⟩
  rcases Nat.lt_or_ge 65536 s5.length with t5 | t5
  · go_wp2_with fail
    go_ret
    exact ⟨rfl, Below.refl _ _⟩
  rcases Nat.lt_or_ge 65536 s6.length with t6 | t6
  · go_wp2_with fail
    go_ret
    exact ⟨rfl, Below.refl _ _⟩
  go_wp2_with fail
  refine HDB.out.mono ?_
  rintro e w' ⟨z, rfl, hz, rfl⟩
  clear HBY HDB
  rcases Int.lt_or_le 1048576 z with tz | tz
  · go_wp2_with fail
    go_ret
    exact ⟨rfl, Below.refl _ _⟩
  have HZ := hid (hz tz)
  clear hz
  have HB0 : Hid (Bag w [] w) := Bag.start w
  go_wp2_with fail
  refine (bag_clone HB0.out a0 c0 s0 (S0.out.below HB0.out.bel) t0).mono ?_
  rintro e wa1 ⟨x0, rfl, hx, hB, hbel⟩
  have HB1 := hid hB
  have IX0 : Hid (x0 = none ↔ a0 = none) := hx
  clear hx hB hbel HB0
  go_wp2_with fail
  refine (bag_clone HB1.out a1 c1 s1 (S1.out.below HB1.out.bel) t1).mono ?_
  rintro e wa2 ⟨x1, rfl, hx, hB, hbel⟩
  have HB2 := hid hB
  have IX1 : Hid (x1 = none ↔ a1 = none) := hx
  clear hx hB hbel HB1
  go_wp2_with fail
  refine (bag_clone HB2.out a2 c2 s2 (S2.out.below HB2.out.bel) t2).mono ?_
  rintro e wa3 ⟨x2, rfl, hx, hB, hbel⟩
  have HB3 := hid hB
  have IX2 : Hid (x2 = none ↔ a2 = none) := hx
  clear hx hB hbel HB2
  go_wp2_with fail
  refine (bag_clone HB3.out a3 c3 s3 (S3.out.below HB3.out.bel) t3).mono ?_
  rintro e wa4 ⟨x3, rfl, hx, hB, hbel⟩
  have HB4 := hid hB
  have IX3 : Hid (x3 = none ↔ a3 = none) := hx
  clear hx hB hbel HB3
  go_wp2_with fail
  refine (bag_clone HB4.out a4 c4 s4 (S4.out.below HB4.out.bel) t4).mono ?_
  rintro e wa5 ⟨x4, rfl, hx, hB, hbel⟩
  have HB5 := hid hB
  have IX4 : Hid (x4 = none ↔ a4 = none) := hx
  clear hx hB hbel HB4
  go_wp2_with fail
  refine (bag_clone HB5.out a5 c5 s5 (S5.out.below HB5.out.bel) t5).mono ?_
  rintro e wa6 ⟨x5, rfl, hx, hB, hbel⟩
  have HB6 := hid hB
  have IX5 : Hid (x5 = none ↔ a5 = none) := hx
  clear hx hB hbel HB5
  go_wp2_with fail
  refine (bag_clone HB6.out a6 c6 s6 (S6.out.below HB6.out.bel) t6).mono ?_
  rintro e wa7 ⟨x6, rfl, hx, hB, hbel⟩
  have HB7 := hid hB
  have IX6 : Hid (x6 = none ↔ a6 = none) := hx
  clear hx hB hbel HB6
  go_wp2_with fail
  refine (bag_clone HB7.out x0 s0.length s0 (HB7.out.row ⟨x0, s0⟩ (by simp)).src t0).mono ?_
  rintro e wa8 ⟨y0, rfl, hx, hB, hbel⟩
  have HB8 := hid hB
  have IY0 : Hid (y0 = none ↔ x0 = none) := hx
  clear hx hB hbel HB7
  go_wp2_with fail
  refine (bag_clone HB8.out x1 s1.length s1 (HB8.out.row ⟨x1, s1⟩ (by simp)).src t1).mono ?_
  rintro e wa9 ⟨y1, rfl, hx, hB, hbel⟩
  have HB9 := hid hB
  have IY1 : Hid (y1 = none ↔ x1 = none) := hx
  clear hx hB hbel HB8
  go_wp2_with fail
  refine (bag_clone HB9.out x2 s2.length s2 (HB9.out.row ⟨x2, s2⟩ (by simp)).src t2).mono ?_
  rintro e wa10 ⟨y2, rfl, hx, hB, hbel⟩
  have HB10 := hid hB
  have IY2 : Hid (y2 = none ↔ x2 = none) := hx
  clear hx hB hbel HB9
  go_wp2_with fail
  refine (bag_clone HB10.out x3 s3.length s3 (HB10.out.row ⟨x3, s3⟩ (by simp)).src t3).mono ?_
  rintro e wa11 ⟨y3, rfl, hx, hB, hbel⟩
  have HB11 := hid hB
  have IY3 : Hid (y3 = none ↔ x3 = none) := hx
  clear hx hB hbel HB10
  go_wp2_with fail
  refine (bag_clone HB11.out x4 s4.length s4 (HB11.out.row ⟨x4, s4⟩ (by simp)).src t4).mono ?_
  rintro e wa12 ⟨y4, rfl, hx, hB, hbel⟩
  have HB12 := hid hB
  have IY4 : Hid (y4 = none ↔ x4 = none) := hx
  clear hx hB hbel HB11
  go_wp2_with fail
  refine (bag_clone HB12.out x5 s5.length s5 (HB12.out.row ⟨x5, s5⟩ (by simp)).src t5).mono ?_
  rintro e wa13 ⟨y5, rfl, hx, hB, hbel⟩
  have HB13 := hid hB
  have IY5 : Hid (y5 = none ↔ x5 = none) := hx
  clear hx hB hbel HB12
  go_wp2_with fail
  refine (bag_clone HB13.out x6 s6.length s6 (HB13.out.row ⟨x6, s6⟩ (by simp)).src t6).mono ?_
  rintro e wa14 ⟨y6, rfl, hx, hB, hbel⟩
  have HB14 := hid hB
  have IY6 : Hid (y6 = none ↔ x6 = none) := hx
  clear hx hB hbel HB13
  go_wp2_with fail
  have HC := hid (three_boxes wa14 (.cells #[.slice y0 s0.length s0.length, .slice y1 s1.length s1.length, .slice y2 s2.length s2.length, .slice y3 s3.length s3.length, .slice y4 s4.length s4.length, .slice y5 s5.length s5.length, .slice y6 s6.length s6.length] 26) (.cells #[.slice x0 s0.length s0.length, .slice x1 s1.length s1.length, .slice x2 s2.length s2.length, .slice x3 s3.length s3.length, .slice x4 s4.length s4.length, .slice x5 s5.length s5.length, .slice x6 s6.length s6.length] 28) (.cells #[.slice none 0 0, .slice none 0 0, .slice none 0 0, .slice none 0 0, .slice none 0 0, .slice none 0 0, .slice none 0 0] 28))
  have HB := hid (((HB14.out.alloc (.cells #[.slice y0 s0.length s0.length, .slice y1 s1.length s1.length, .slice y2 s2.length s2.length, .slice y3 s3.length s3.length, .slice y4 s4.length s4.length, .slice y5 s5.length s5.length, .slice y6 s6.length s6.length] 26)).alloc (.cells #[.slice x0 s0.length s0.length, .slice x1 s1.length s1.length, .slice x2 s2.length s2.length, .slice x3 s3.length s3.length, .slice x4 s4.length s4.length, .slice x5 s5.length s5.length, .slice x6 s6.length s6.length] 28)).alloc (.cells #[.slice none 0 0, .slice none 0 0, .slice none 0 0, .slice none 0 0, .slice none 0 0, .slice none 0 0, .slice none 0 0] 28))
  have hw14 := hid (HB14.out.bel.size)
  clear HB14
  refine (deep_any (wa14.heap.size + 1) (wa14.heap.size + 1 + 1) _ (.slice none 0 0) (.slice none 0 0) (.slice none 0 0) (.slice none 0 0) (.slice none 0 0) (.slice none 0 0) (.slice none 0 0) x0 x1 x2 x3 x4 x5 x6 s0 s1 s2 s3 s4 s5 s6 (by omega) HC.out.2.1 HC.out.2.2.1 (HB.out.row ⟨x0, s0⟩ (by simp)) (HB.out.row ⟨x1, s1⟩ (by simp)) (HB.out.row ⟨x2, s2⟩ (by simp)) (HB.out.row ⟨x3, s3⟩ (by simp)) (HB.out.row ⟨x4, s4⟩ (by simp)) (HB.out.row ⟨x5, s5⟩ (by simp)) (HB.out.row ⟨x6, s6⟩ (by simp)) t0 t1 t2 t3 t4 t5 t6).mono ?_
  rintro e wd ⟨rfl, u0, u1, u2, u3, u4, u5, u6, hDc, iu0, iu1, iu2, iu3, iu4, iu5, iu6⟩
  obtain ⟨Us, hUs⟩ : ∃ Us : List Lst, Us = [⟨u0, s0⟩, ⟨u1, s1⟩, ⟨u2, s2⟩, ⟨u3, s3⟩, ⟨u4, s4⟩, ⟨u5, s5⟩, ⟨u6, s6⟩] := ⟨_, rfl⟩
  obtain ⟨Xs, hXs⟩ : ∃ Xs : List Lst, Xs = [⟨x0, s0⟩, ⟨x1, s1⟩, ⟨x2, s2⟩, ⟨x3, s3⟩, ⟨x4, s4⟩, ⟨x5, s5⟩, ⟨x6, s6⟩] := ⟨_, rfl⟩
  obtain ⟨Ys, hYs⟩ : ∃ Ys : List Lst, Ys = [⟨y0, s0⟩, ⟨y1, s1⟩, ⟨y2, s2⟩, ⟨y3, s3⟩, ⟨y4, s4⟩, ⟨y5, s5⟩, ⟨y6, s6⟩] := ⟨_, rfl⟩
  have HCtx : Hid (Ctx w Us Xs Ys) := by
    subst hUs hXs hYs
    exact ⟨ap_of (Xr := [⟨x6, s6⟩, ⟨x5, s5⟩, ⟨x4, s4⟩, ⟨x3, s3⟩, ⟨x2, s2⟩, ⟨x1, s1⟩, ⟨x0, s0⟩]) (Yr := [⟨y6, s6⟩, ⟨y5, s5⟩, ⟨y4, s4⟩, ⟨y3, s3⟩, ⟨y2, s2⟩, ⟨y1, s1⟩, ⟨y0, s0⟩]) hDc HB.out rfl rfl rfl (all7 rfl rfl rfl rfl rfl rfl rfl) (all7 rfl rfl rfl rfl rfl rfl rfl), all7 rfl rfl rfl rfl rfl rfl rfl, all7 rfl rfl rfl rfl rfl rfl rfl, all7 t0 t1 t2 t3 t4 t5 t6,
      all7 (HZ.out s0 (by simp)) (HZ.out s1 (by simp)) (HZ.out s2 (by simp)) (HZ.out s3 (by simp)) (HZ.out s4 (by simp)) (HZ.out s5 (by simp)) (HZ.out s6 (by simp)), all7 IY0.out.symm IY1.out.symm IY2.out.symm IY3.out.symm IY4.out.symm IY5.out.symm IY6.out.symm, rfl, rfl, rfl⟩
  have hsz3 := HC.out.2.2.2
  have hbo : wd.heap[wa14.heap.size + 1 + 1]? = some (.cells #[.slice u0 s0.length s0.length, .slice u1 s1.length s1.length, .slice u2 s2.length s2.length, .slice u3 s3.length s3.length, .slice u4 s4.length s4.length, .slice u5 s5.length s5.length, .slice u6 s6.length s6.length] 28) := hDc.box
  have hbw : wd.heap[wa14.heap.size]? = some (boxOf Ys 26) := by
    rw [hDc.old _ (by omega) (by omega), HC.out.1, hYs]; rfl
  have hbi : wd.heap[wa14.heap.size + 1]? = some (boxOf Xs 28) := by
    rw [hDc.old _ (by omega) (by omega), HC.out.2.1, hXs]; rfl
  have hbel : Below w.heap.size w wd := hDc.below HB.out.bel (by have := hw14.out; omega)
  have ru : ∀ j, j < 7 → VRow wd (nth Us j).ao (nth Us j).ss := by
    subst hUs
    exact all7 (hDc.row ⟨u0, s0⟩ (by simp)) (hDc.row ⟨u1, s1⟩ (by simp)) (hDc.row ⟨u2, s2⟩ (by simp)) (hDc.row ⟨u3, s3⟩ (by simp)) (hDc.row ⟨u4, s4⟩ (by simp)) (hDc.row ⟨u5, s5⟩ (by simp)) (hDc.row ⟨u6, s6⟩ (by simp))
  have rx : ∀ j, j < 7 → VRow wd (nth Xs j).ao (nth Xs j).ss := by
    subst hXs
    exact all7 (hDc.keep HC.out.2.2.1 (HB.out.row ⟨x0, s0⟩ (by simp))) (hDc.keep HC.out.2.2.1 (HB.out.row ⟨x1, s1⟩ (by simp))) (hDc.keep HC.out.2.2.1 (HB.out.row ⟨x2, s2⟩ (by simp))) (hDc.keep HC.out.2.2.1 (HB.out.row ⟨x3, s3⟩ (by simp))) (hDc.keep HC.out.2.2.1 (HB.out.row ⟨x4, s4⟩ (by simp))) (hDc.keep HC.out.2.2.1 (HB.out.row ⟨x5, s5⟩ (by simp))) (hDc.keep HC.out.2.2.1 (HB.out.row ⟨x6, s6⟩ (by simp)))
  have ry : ∀ j, j < 7 → VRow wd (nth Ys j).ao (nth Ys j).ss := by
    subst hYs
    exact all7 (hDc.keep HC.out.2.2.1 (HB.out.row ⟨y0, s0⟩ (by simp))) (hDc.keep HC.out.2.2.1 (HB.out.row ⟨y1, s1⟩ (by simp))) (hDc.keep HC.out.2.2.1 (HB.out.row ⟨y2, s2⟩ (by simp))) (hDc.keep HC.out.2.2.1 (HB.out.row ⟨y3, s3⟩ (by simp))) (hDc.keep HC.out.2.2.1 (HB.out.row ⟨y4, s4⟩ (by simp))) (hDc.keep HC.out.2.2.1 (HB.out.row ⟨y5, s5⟩ (by simp))) (hDc.keep HC.out.2.2.1 (HB.out.row ⟨y6, s6⟩ (by simp)))
  have HR := hid (And.intro hbel (And.intro hbw (And.intro hbi (And.intro ru (And.intro rx ry)))))
  have HBO := hid hbo
  have hN : wa14.heap.size + 2 < wd.heap.size := by have := hDc.size; omega
  have HUs := hid hUs
  have HXs := hid hXs
  clear hbo hbw hbi hbel ru rx ry hDc HB HC hsz3 hw14 HZ hUs hXs hYs iu0 IX0 IY0 S0 iu1 IX1 IY1 S1 iu2 IX2 IY2 S2 iu3 IX3 IY3 S3 iu4 IX4 IY4 S4 iu5 IX5 IY5 S5 iu6 IX6 IY6 S6
  go_wp2_with fail
  refine (fields_any (wa14.heap.size + 1 + 1) u0 u1 u2 u3 u4 u5 u6 s0.length s1.length s2.length s3.length s4.length s5.length s6.length s0.length s1.length s2.length s3.length s4.length s5.length s6.length wd (by omega) ((cell_of_row wd (wa14.heap.size + 1 + 1) 0 _ 28 (0, 0) HBO.out).trans rfl) ((cell_of_row wd (wa14.heap.size + 1 + 1) 1 _ 28 (0, 0) HBO.out).trans rfl) ((cell_of_row wd (wa14.heap.size + 1 + 1) 2 _ 28 (0, 0) HBO.out).trans rfl) ((cell_of_row wd (wa14.heap.size + 1 + 1) 3 _ 28 (0, 0) HBO.out).trans rfl) ((cell_of_row wd (wa14.heap.size + 1 + 1) 4 _ 28 (0, 0) HBO.out).trans rfl) ((cell_of_row wd (wa14.heap.size + 1 + 1) 5 _ 28 (0, 0) HBO.out).trans rfl) ((cell_of_row wd (wa14.heap.size + 1 + 1) 6 _ 28 (0, 0) HBO.out).trans rfl)).mono ?_
  rintro e wf1 ⟨rfl, hb1⟩
  have hbg0 := hb1.alloc hb1.size (.cells #[.slice u0 s0.length s0.length, .slice u1 s1.length s1.length, .slice u2 s2.length s2.length, .slice u3 s3.length s3.length, .slice u4 s4.length s4.length, .slice u5 s5.length s5.length, .slice u6 s6.length s6.length] 26)
  have hf1 : wa14.heap.size + 2 < wf1.heap.size := by have := hb1.size; omega
  have HG0 := hid (gs_start hbg0 HR.out.2.2.2.1 HR.out.2.2.2.2.1 HR.out.2.2.2.2.2 ⟨#[35]⟩)
  have HW0 := hid (HR.out.1.trans (hbg0.mono HR.out.1.size))
  have HBW := hid ((hbg0.block (wa14.heap.size) (by omega)).trans HR.out.2.1)
  have HBI := hid ((hbg0.block (wa14.heap.size + 1) (by omega)).trans HR.out.2.2.1)
  have HBG : Hid ((wf1.alloc (.cells #[.slice u0 s0.length s0.length, .slice u1 s1.length s1.length, .slice u2 s2.length s2.length, .slice u3 s3.length s3.length, .slice u4 s4.length s4.length, .slice u5 s5.length s5.length, .slice u6 s6.length s6.length] 26)).heap[wf1.heap.size]? = some (boxOf Us 26)) := by
    show _ = _
    rw [HUs.out]; exact heap_alloc_new _ _
  clear hb1 hbg0 HR HBO HUs
  go_wp2_with fail
  generalize wf1.alloc (.cells #[.slice u0 s0.length s0.length, .slice u1 s1.length s1.length, .slice u2 s2.length s2.length, .slice u3 s3.length s3.length, .slice u4 s4.length s4.length, .slice u5 s5.length s5.length, .slice u6 s6.length s6.length] 26) = wg at HG0 HW0 HBW HBI HBG ⊢
  generalize wf1.heap.size = bg at hf1 HBG ⊢
  go_loopw [19] (fun i wr => ∃ k : Nat, k ≤ 7 ∧ i = .int .i64 k ∧ Hid (Gs wg Us Xs Ys (done ⟨#[35]⟩ Us k) (fun j => (nth Xs j).ss) wr)) (fun i _ => 7 - (intOf i).toNat)
  case atStart => exact ⟨0, by omega, rfl, HG0⟩
  case round =>
  obtain ⟨k, hk, rfl, HG⟩ := hrel
  rcases Nat.lt_or_ge k 7 with hlt | hge
  · obtain ⟨u, ss, cu, R1⟩ := loop1 HCtx.out (by decide) hlt HG.out HG0.out HBG.out (by decide)
    have hltI : (k : Int) < 7 := by omega
    go_wp2_with fail
    refine R1.out.mono ?_
    rintro e w1 ⟨rfl, hG1⟩
    have HG1 := hid hG1
    clear hG1
    go_wp2
    go_roundw
    case rel => exact ⟨k + 1, by omega, by go_num, HG1⟩
    case measure => simp [intOf]; omega
  have e7 : k = 7 := by omega
  rw [e7] at HG
  clear e7
  obtain ⟨w1, rfl⟩ : ∃ w1 : World, w1 = wr := ⟨_, rfl⟩
  have hbi1 : w1.heap[wa14.heap.size + 1]? = some (.cells #[.slice x0 s0.length s0.length, .slice x1 s1.length s1.length, .slice x2 s2.length s2.length, .slice x3 s3.length s3.length, .slice x4 s4.length s4.length, .slice x5 s5.length s5.length, .slice x6 s6.length s6.length] 28) := by rw [gs_box HG.out HG0.out HBI.out (by decide), HXs.out]; rfl
  have HBI1 := hid hbi1
  clear hbi1
  go_wp2_with fail
  refine (fields_any (wa14.heap.size + 1) x0 x1 x2 x3 x4 x5 x6 s0.length s1.length s2.length s3.length s4.length s5.length s6.length s0.length s1.length s2.length s3.length s4.length s5.length s6.length w1 (Array.getElem?_eq_some_iff.1 HBI1.out).1 ((cell_of_row w1 (wa14.heap.size + 1) 0 _ 28 (0, 0) HBI1.out).trans rfl) ((cell_of_row w1 (wa14.heap.size + 1) 1 _ 28 (0, 0) HBI1.out).trans rfl) ((cell_of_row w1 (wa14.heap.size + 1) 2 _ 28 (0, 0) HBI1.out).trans rfl) ((cell_of_row w1 (wa14.heap.size + 1) 3 _ 28 (0, 0) HBI1.out).trans rfl) ((cell_of_row w1 (wa14.heap.size + 1) 4 _ 28 (0, 0) HBI1.out).trans rfl) ((cell_of_row w1 (wa14.heap.size + 1) 5 _ 28 (0, 0) HBI1.out).trans rfl) ((cell_of_row w1 (wa14.heap.size + 1) 6 _ 28 (0, 0) HBI1.out).trans rfl)).mono ?_
  rintro e wf2 ⟨rfl, hb2⟩
  have hbg0 := hb2.alloc hb2.size (.cells #[.slice x0 s0.length s0.length, .slice x1 s1.length s1.length, .slice x2 s2.length s2.length, .slice x3 s3.length s3.length, .slice x4 s4.length s4.length, .slice x5 s5.length s5.length, .slice x6 s6.length s6.length] 26)
  have HW1 := hid (HG.out.below HCtx.out.ap HW0.out)
  have HW2 := hid (HW1.out.trans (hbg0.mono HW1.out.size))
  have HG2 := hid (HG.out.rebase hbg0)
  have hbg1 := gs_box HG.out HG0.out HBG.out (by decide)
  have hbw1 := gs_box HG.out HG0.out HBW.out (by decide)
  have HBG2 := hid ((hbg0.block bg (Array.getElem?_eq_some_iff.1 hbg1).1).trans hbg1)
  have HBW2 := hid ((hbg0.block (wa14.heap.size) (Array.getElem?_eq_some_iff.1 hbw1).1).trans hbw1)
  have HBK2 : Hid ((wf2.alloc (.cells #[.slice x0 s0.length s0.length, .slice x1 s1.length s1.length, .slice x2 s2.length s2.length, .slice x3 s3.length s3.length, .slice x4 s4.length s4.length, .slice x5 s5.length s5.length, .slice x6 s6.length s6.length] 26)).heap[wf2.heap.size]? = some (boxOf Xs 26)) := by
    show _ = _
    rw [HXs.out]; exact heap_alloc_new _ _
  clear hb2 hbg0 hbg1 hbw1 HG HG0 HBG HBW HBI HBI1 HW0 HW1 HXs
  go_wp2_with fail
  generalize wf2.alloc (.cells #[.slice x0 s0.length s0.length, .slice x1 s1.length s1.length, .slice x2 s2.length s2.length, .slice x3 s3.length s3.length, .slice x4 s4.length s4.length, .slice x5 s5.length s5.length, .slice x6 s6.length s6.length] 26) = wb at HG2 HW2 HBW2 HBG2 HBK2 ⊢
  generalize wf2.heap.size = bk at HBK2 ⊢
  go_loopw [21] (fun i wr => ∃ k : Nat, k ≤ 7 ∧ i = .int .i64 k ∧ Hid (SameW wb wr)) (fun i _ => 7 - (intOf i).toNat)
  case atStart => exact ⟨0, by omega, rfl, SameW.refl _⟩
  case round =>
  obtain ⟨k, hk, rfl, HS⟩ := hrel
  rcases Nat.lt_or_ge k 7 with hlt | hge2
  · obtain ⟨x, y, ss, cx, cy, R1⟩ := loop2 HCtx.out hlt HG2.out HS.out HBK2.out HBW2.out
    have hltI : (k : Int) < 7 := by omega
    go_wp2
    go_quiet ((go_at_call_of 15 (Value.slice x ss.length ss.length); refine Calls.quiet_of (R1.out _ ?_); rfl))
    go_wp2
    go_roundw
    case rel => exact ⟨k + 1, by omega, by go_num, HS.out.drewN _⟩
    case measure => simp [intOf]; omega
  obtain ⟨w2, rfl⟩ : ∃ w2 : World, w2 = wr := ⟨_, rfl⟩
  have HG3 : Hid (Gs wb Us Xs Ys (done ⟨#[35]⟩ Us 7) (done ⟨#[37]⟩ Xs 0) w2) := by
    show Gs _ _ _ _ _ _ _
    rw [done_zero]; exact HG2.out.heap HS.out.1 HS.out.2.1 HS.out.2.2.1 HS.out.2.2.2
  clear HS
  go_wp2
  go_loopw [22] (fun i wr => ∃ k : Nat, k ≤ 7 ∧ i = .int .i64 k ∧ Hid (Gs wb Us Xs Ys (done ⟨#[35]⟩ Us 7) (done ⟨#[37]⟩ Xs k) wr)) (fun i _ => 7 - (intOf i).toNat)
  case atStart => exact ⟨0, by omega, rfl, HG3⟩
  case round =>
  clear HG3
  obtain ⟨k, hk3, rfl, HG3⟩ := hrel
  rcases Nat.lt_or_ge k 7 with hlt | hge3
  · obtain ⟨u, ss, cu, R1⟩ := loop3 HCtx.out (by decide) hlt HG3.out HG2.out HBK2.out (by decide)
    have hltI : (k : Int) < 7 := by omega
    go_wp2_with fail
    refine R1.out.mono ?_
    rintro e w4 ⟨rfl, hG1⟩
    have HG1 := hid hG1
    clear hG1
    go_wp2
    go_roundw
    case rel => exact ⟨k + 1, by omega, by go_num, HG1⟩
    case measure => simp [intOf]; omega
  have e7 : k = 7 := by omega
  rw [e7] at HG3
  clear e7
  obtain ⟨w3, rfl⟩ : ∃ w3 : World, w3 = wr := ⟨_, rfl⟩
  have HG4 := hid (HG3.out.rebase (Below.refl _ _))
  have HBG4 := hid (gs_box HG3.out HG2.out HBG2.out (by decide))
  have HBW4 := hid (gs_box HG3.out HG2.out HBW2.out (by decide))
  have HW4 := hid (HG3.out.below HCtx.out.ap HW2.out)
  clear HG3 HG2 HBG2 HBW2 HBK2 HW2
  go_wp2
  go_loopw [23] (fun i wr => ∃ k : Nat, k ≤ 7 ∧ i = .int .i64 k ∧ Hid (SameW w3 wr)) (fun i _ => 7 - (intOf i).toNat)
  case atStart => exact ⟨0, by omega, rfl, SameW.refl _⟩
  case round =>
  obtain ⟨k, hk4, rfl, HS⟩ := hrel
  rcases Nat.lt_or_ge k 7 with hlt | hge4
  · obtain ⟨u, y, ss, cu, cy, R1⟩ := loop4 HCtx.out (by decide) hlt HG4.out HS.out HBG4.out HBW4.out
    have hltI : (k : Int) < 7 := by omega
    go_wp2
    go_quiet ((go_at_call_of 16 (Value.slice u ss.length ss.length); refine Calls.quiet_of (R1.out _ ?_); rfl))
    go_wp2
    go_roundw
    case rel => exact ⟨k + 1, by omega, by go_num, HS.out.drewN _⟩
    case measure => simp [intOf]; omega
  go_wp2
  go_ret
  exact ⟨rfl, sameW_below HS.out HW4.out⟩
end Go.Proofs.Qxb6000365aMods.fnDependenciesDeepCopyIsIndependent
