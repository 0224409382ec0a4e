import Derived.Test.Qxb6000365aModsSmall
import Derived.Test.Qxb6000365aModsCopy
import Derived.Deep.CutBlock
import Derived.Deep.CutRange
import Derived.Deep.RegionLaw
import Derived.Deep.DeepMust
namespace Go.Proofs.Qxb6000365aMods
open Go.RowKit

theorem grown_cell {w w' : World} (h : w.grownBy w' none) {b : Nat} (j : Nat) (hb : b < w.heap.size) : w'.cell? ⟨b, j, none⟩ = w.cell? ⟨b, j, none⟩ := World.cell?_of_block (w := w) (h.block b hb (by simp))
theorem grown_frozen {w w' : World} (h : w.grownBy w' none) {b : Nat} (j : Nat) (hb : b < w.heap.size) : w'.frozen? ⟨b, j, none⟩ = w.frozen? ⟨b, j, none⟩ := World.frozen?_of_block (w := w) (h.block b hb (by simp))

/-- What DeepCopyInto leaves. -/
def DeepLeft (W : World) (bo : Nat) (a0 a1 a2 a3 a4 a5 a6 : Option Addr) (s0 s1 s2 s3 s4 s5 s6 : List ByteArray) (e : Ending) (w' : World) : Prop :=
  e = .returned (.tuple #[]) ∧ ∃ x0 x1 x2 x3 x4 x5 x6, Dc W bo [] [⟨x0, s0⟩, ⟨x1, s1⟩, ⟨x2, s2⟩, ⟨x3, s3⟩, ⟨x4, s4⟩, ⟨x5, s5⟩, ⟨x6, s6⟩] w' ∧
    (x0 = none ↔ a0 = none) ∧ (x1 = none ↔ a1 = none) ∧ (x2 = none ↔ a2 = none) ∧ (x3 = none ↔ a3 = none) ∧ (x4 = none ↔ a4 = none) ∧ (x5 = none ↔ a5 = none) ∧ (x6 = none ↔ a6 = none)

set_option maxHeartbeats 4000000 in
set_option maxRecDepth 100000 in
theorem deep_any (bi bo : Nat) (W : World) (o0 o1 o2 o3 o4 o5 o6 : Value) (a0 a1 a2 a3 a4 a5 a6 : Option Addr) (s0 s1 s2 s3 s4 s5 s6 : List ByteArray) (hne : bi ≠ bo)
    (hi : W.heap[bi]? = some (.cells #[.slice a0 s0.length s0.length, .slice a1 s1.length s1.length, .slice a2 s2.length s2.length, .slice a3 s3.length s3.length, .slice a4 s4.length s4.length, .slice a5 s5.length s5.length, .slice a6 s6.length s6.length] 28 (0, 0)))
    (ho : W.heap[bo]? = some (.cells #[o0, o1, o2, o3, o4, o5, o6] 28 (0, 0)))
    (v0 : VRow W a0 s0) (v1 : VRow W a1 s1) (v2 : VRow W a2 s2) (v3 : VRow W a3 s3) (v4 : VRow W a4 s4) (v5 : VRow W a5 s5) (v6 : VRow W a6 s6)
    (l0 : s0.length ≤ 65536) (l1 : s1.length ≤ 65536) (l2 : s2.length ≤ 65536) (l3 : s3.length ≤ 65536) (l4 : s4.length ≤ 65536) (l5 : s5.length ≤ 65536) (l6 : s6.length ≤ 65536) :
    Calls Trym.prog 12 #[.pointer (some ⟨bi, 0, none⟩), .pointer (some ⟨bo, 0, none⟩)] W (DeepLeft W bo a0 a1 a2 a3 a4 a5 a6 s0 s1 s2 s3 s4 s5 s6) := by
  obtain ⟨i0, hif, hz0, hz1, hz2⟩ := info_parts Trym.info9
  have hnil := fun (w : World) (a : Option Addr) (n c : Nat) => run_neq_slice_nil_any (P := Trym.prog) w 22 9 a n c 0 0 Trym.underlying22
  have hbi : bi < W.heap.size := (Array.getElem?_eq_some_iff.1 hi).1
  have ci := fun j => cell_of_row W bi j _ 28 (0, 0) hi
  have co := fun j => cell_of_row W bo j _ 28 (0, 0) ho
  have fo := fun j => frozen_of_row W bo j _ 28 ho
  have i0c := ci 0
  have i1c := ci 1
  have i2c := ci 2
  have i3c := ci 3
  have i4c := ci 4
  have i5c := ci 5
  have i6c := ci 6
  have b0c := co 0
  have b1c := co 1
  have b2c := co 2
  have b3c := co 3
  have b4c := co 4
  have b5c := co 5
  have b6c := co 6
  have f0c := fo 0
  have f1c := fo 1
  have f2c := fo 2
  have f3c := fo 3
  have f4c := fo 4
  have f5c := fo 5
  have f6c := fo 6
  simp only [List.getElem?_toArray, List.getElem?_cons_zero, List.getElem?_cons_succ] at i0c i1c i2c i3c i4c i5c i6c b0c b1c b2c b3c b4c b5c b6c
  clear ci co fo
  have HD := Dc.start (v0 := .slice a0 s0.length s0.length) (v1 := .slice a1 s1.length s1.length) (v2 := .slice a2 s2.length s2.length) (v3 := .slice a3 s3.length s3.length) (v4 := .slice a4 s4.length s4.length) (v5 := .slice a5 s5.length s5.length) (v6 := .slice a6 s6.length s6.length) ho
  have hsz9 : (Trym.prog.info? 9).map (·.size) = some 1 := by rw [hif]; simp [hz1]
  have hbo9 : ∀ ss : List ByteArray, W.heap[bo]? ≠ some (.cells (strs ss).toArray 9 (0, 0)) := by intro ss; rw [ho]; simp
  have H0 : Hid (VRow W a0 s0) := v0
  have H1 : Hid (VRow W a1 s1) := v1
  have H2 : Hid (VRow W a2 s2) := v2
  have H3 : Hid (VRow W a3 s3) := v3
  have H4 : Hid (VRow W a4 s4) := v4
  have H5 : Hid (VRow W a5 s5) := v5
  have H6 : Hid (VRow W a6 s6) := v6
  have HB9 : Hid _ := hbo9
  clear hi ho v0 v1 v2 v3 v4 v5 v6 hbo9
  go_enter Trym.func12, Trym.ntmps12
  go_upto_region 1 with fail
  generalize (((((((W.setCell ⟨bo, 0, none⟩ (.slice a0 s0.length s0.length)).setCell ⟨bo, 1, none⟩ (.slice a1 s1.length s1.length)).setCell ⟨bo, 2, none⟩ (.slice a2 s2.length s2.length)).setCell ⟨bo, 3, none⟩ (.slice a3 s3.length s3.length)).setCell ⟨bo, 4, none⟩ (.slice a4 s4.length s4.length)).setCell ⟨bo, 5, none⟩ (.slice a5 s5.length s5.length)).setCell ⟨bo, 6, none⟩ (.slice a6 s6.length s6.length)) = wc at HD ⊢
  clear b0c b1c b2c b3c b4c b5c b6c f0c f1c f2c f3c f4c f5c f6c
  have cj : wc.cell? ⟨bi, 0, none⟩ = some (.slice a0 s0.length s0.length) := (HD.oldCell 0 hbi hne).trans i0c
  go_cut [27] from 18 to 26 (fun sT w => sT = .bool a0.isSome ∧ Dc W bo [.slice a0 s0.length s0.length, .slice a1 s1.length s1.length, .slice a2 s2.length s2.length, .slice a3 s3.length s3.length, .slice a4 s4.length s4.length, .slice a5 s5.length s5.length, .slice a6 s6.length s6.length] [] w)
  case first =>
    go_wp2
    go_meet
    case rel => exact ⟨by simp, HD⟩
  case rest =>
  clear HD cj
  obtain ⟨rfl, HD⟩ := hcut
  go_upto_if 27 with fail
  go_cut [] from 18 to 47 (fun w => ∃ x, (x = none ↔ a0 = none) ∧ Dc W bo [.slice a1 s1.length s1.length, .slice a2 s2.length s2.length, .slice a3 s3.length s3.length, .slice a4 s4.length s4.length, .slice a5 s5.length s5.length, .slice a6 s6.length s6.length] [⟨x, s0⟩] w)
  case first =>
    have cj : wc.cell? ⟨bi, 0, none⟩ = some (.slice a0 s0.length s0.length) := (HD.oldCell 0 hbi hne).trans i0c
    have dj : ∃ v, wc.cell? ⟨bo, 0, none⟩ = some v := ⟨_, HD.cell 0⟩
    have fj : wc.frozen? ⟨bo, 0, none⟩ = false := HD.frozen 0
    rcases H0.out with ⟨ha, hs⟩ | ⟨g, ha, hg⟩
    · subst ha hs
      go_wp2
      go_meet
      case rel => exact ⟨none, by simp, HD.stepNil (us := [])⟩
    · subst ha
      go_wp2
      go_quiet (fail)
      go_wp2_with (at_make; go_must (refine wpList_make_full _ rfl _ _ 22 rfl wc.heap.size 9 i0 (.string ByteArray.empty) 1 Trym.underlying22 hif hz0 hz1 .i64 .i64 _ _ s0.length rfl rfl rfl rfl (by rw [hz2]; omega) (by unfold maxLen; omega) (Nat.le_refl _) ?_); intro w1 ho1 hg1; obtain ⟨vj, dj0⟩ := dj; have dk := (grown_cell hg1 (b := bo) 0 (Nat.lt_of_lt_of_le HD.bolt HD.size)).trans dj0; have fk := (grown_frozen hg1 (b := bo) 0 (Nat.lt_of_lt_of_le HD.bolt HD.size)).trans fj)
      have X := ready_of (us := []) HD hg1 ho1 hg (by rw [hg]; exact HB9.out s0) hbi hne i0c
      have HX : Hid (_ ∧ _) := ⟨HD, hg1⟩
      clear HD ho1 hg1 dk fk fj hg cj
      generalize hw2 : w1.setCell ⟨bo, 0, none⟩ (.slice (some ⟨wc.heap.size, 0, none⟩) s0.length s0.length) = w2 at X ⊢
      have c1 : w2.cell? ⟨bo, 0, none⟩ = some (.slice (some ⟨wc.heap.size, 0, none⟩) s0.length s0.length) := X.dst
      have c2 : w2.cell? ⟨bi, 0, none⟩ = some (.slice (some ⟨g, 0, none⟩) s0.length s0.length) := X.src
      have hrow : Hid _ := X.row
      have hfrom : Hid _ := X.from_
      have HW2 : Hid _ := hw2
      clear X hw2
      go_wp2_with fail
      go_region_law (refine step_copy_splice rfl (.tmp 43) (.tmp 46) 22 22 rfl 9 Trym.underlying22 hsz9 (some ⟨wc.heap.size, 0, none⟩) (some ⟨g, 0, none⟩) s0.length s0.length s0.length s0.length (by simp [Act.eval]) (by simp [Act.eval]) wc.heap.size 0 (List.replicate s0.length (.string ByteArray.empty)) 9 hrow.out (strs s0) (by rw [strs_len]; exact (Nat.min_self _).symm) (fun _ => ⟨rfl, _, rfl, hfrom.out⟩) (by rw [strs_len, List.length_replicate]; omega) (strs_one s0) wc.heap.size w2 (Below.refl _ _).drew (Nat.le_refl _) ?_; intro w3 hr3 hb3)
      all_goals go_wp2
      all_goals go_meet
      all_goals (have hr4 := hr3.out; rw [splice_whole _ _ (by rw [strs_len, List.length_replicate])] at hr4; have hb4 := hb3; rw [← HW2.out] at hb4; exact ⟨some ⟨wc.heap.size, 0, none⟩, by simp, (Dc.drewN HX.out.1 nq).stepRow (us := []) rfl HX.out.2 hb4 hr4⟩)
  case rest =>
  clear HD
  obtain ⟨x0, hx0, HD⟩ := hcut
  have HI0 : Hid (x0 = none ↔ a0 = none) := hx0
  clear hx0
  go_upto_region 5 with fail
  have cj : wc.cell? ⟨bi, 1, none⟩ = some (.slice a1 s1.length s1.length) := (HD.oldCell 1 hbi hne).trans i1c
  go_cut [52] from 48 to 51 (fun sT w => sT = .bool a1.isSome ∧ Dc W bo [.slice a1 s1.length s1.length, .slice a2 s2.length s2.length, .slice a3 s3.length s3.length, .slice a4 s4.length s4.length, .slice a5 s5.length s5.length, .slice a6 s6.length s6.length] [⟨x0, s0⟩] w)
  case first =>
    go_wp2
    go_meet
    case rel => exact ⟨by simp, HD⟩
  case rest =>
  clear HD cj
  obtain ⟨rfl, HD⟩ := hcut
  go_upto_if 52 with fail
  go_cut [] from 48 to 72 (fun w => ∃ x, (x = none ↔ a1 = none) ∧ Dc W bo [.slice a2 s2.length s2.length, .slice a3 s3.length s3.length, .slice a4 s4.length s4.length, .slice a5 s5.length s5.length, .slice a6 s6.length s6.length] [⟨x0, s0⟩, ⟨x, s1⟩] w)
  case first =>
    have cj : wc.cell? ⟨bi, 1, none⟩ = some (.slice a1 s1.length s1.length) := (HD.oldCell 1 hbi hne).trans i1c
    have dj : ∃ v, wc.cell? ⟨bo, 1, none⟩ = some v := ⟨_, HD.cell 1⟩
    have fj : wc.frozen? ⟨bo, 1, none⟩ = false := HD.frozen 1
    rcases H1.out with ⟨ha, hs⟩ | ⟨g, ha, hg⟩
    · subst ha hs
      go_wp2
      go_meet
      case rel => exact ⟨none, by simp, HD.stepNil (us := [⟨x0, s0⟩])⟩
    · subst ha
      go_wp2
      go_quiet (fail)
      go_wp2_with (at_make; go_must (refine wpList_make_full _ rfl _ _ 22 rfl wc.heap.size 9 i0 (.string ByteArray.empty) 1 Trym.underlying22 hif hz0 hz1 .i64 .i64 _ _ s1.length rfl rfl rfl rfl (by rw [hz2]; omega) (by unfold maxLen; omega) (Nat.le_refl _) ?_); intro w1 ho1 hg1; obtain ⟨vj, dj0⟩ := dj; have dk := (grown_cell hg1 (b := bo) 1 (Nat.lt_of_lt_of_le HD.bolt HD.size)).trans dj0; have fk := (grown_frozen hg1 (b := bo) 1 (Nat.lt_of_lt_of_le HD.bolt HD.size)).trans fj)
      have X := ready_of (us := [⟨x0, s0⟩]) HD hg1 ho1 hg (by rw [hg]; exact HB9.out s1) hbi hne i1c
      have HX : Hid (_ ∧ _) := ⟨HD, hg1⟩
      clear HD ho1 hg1 dk fk fj hg cj
      generalize hw2 : w1.setCell ⟨bo, 1, none⟩ (.slice (some ⟨wc.heap.size, 0, none⟩) s1.length s1.length) = w2 at X ⊢
      have c1 : w2.cell? ⟨bo, 1, none⟩ = some (.slice (some ⟨wc.heap.size, 0, none⟩) s1.length s1.length) := X.dst
      have c2 : w2.cell? ⟨bi, 1, none⟩ = some (.slice (some ⟨g, 0, none⟩) s1.length s1.length) := X.src
      have hrow : Hid _ := X.row
      have hfrom : Hid _ := X.from_
      have HW2 : Hid _ := hw2
      clear X hw2
      go_wp2_with fail
      go_region_law (refine step_copy_splice rfl (.tmp 68) (.tmp 71) 22 22 rfl 9 Trym.underlying22 hsz9 (some ⟨wc.heap.size, 0, none⟩) (some ⟨g, 0, none⟩) s1.length s1.length s1.length s1.length (by simp [Act.eval]) (by simp [Act.eval]) wc.heap.size 0 (List.replicate s1.length (.string ByteArray.empty)) 9 hrow.out (strs s1) (by rw [strs_len]; exact (Nat.min_self _).symm) (fun _ => ⟨rfl, _, rfl, hfrom.out⟩) (by rw [strs_len, List.length_replicate]; omega) (strs_one s1) wc.heap.size w2 (Below.refl _ _).drew (Nat.le_refl _) ?_; intro w3 hr3 hb3)
      all_goals go_wp2
      all_goals go_meet
      all_goals (have hr4 := hr3.out; rw [splice_whole _ _ (by rw [strs_len, List.length_replicate])] at hr4; have hb4 := hb3; rw [← HW2.out] at hb4; exact ⟨some ⟨wc.heap.size, 0, none⟩, by simp, (Dc.drewN HX.out.1 nq).stepRow (us := [⟨x0, s0⟩]) rfl HX.out.2 hb4 hr4⟩)
  case rest =>
  clear HD
  obtain ⟨x1, hx1, HD⟩ := hcut
  have HI1 : Hid (x1 = none ↔ a1 = none) := hx1
  clear hx1
  go_upto_region 9 with fail
  have cj : wc.cell? ⟨bi, 2, none⟩ = some (.slice a2 s2.length s2.length) := (HD.oldCell 2 hbi hne).trans i2c
  go_cut [77] from 73 to 76 (fun sT w => sT = .bool a2.isSome ∧ Dc W bo [.slice a2 s2.length s2.length, .slice a3 s3.length s3.length, .slice a4 s4.length s4.length, .slice a5 s5.length s5.length, .slice a6 s6.length s6.length] [⟨x0, s0⟩, ⟨x1, s1⟩] w)
  case first =>
    go_wp2
    go_meet
    case rel => exact ⟨by simp, HD⟩
  case rest =>
  clear HD cj
  obtain ⟨rfl, HD⟩ := hcut
  go_upto_if 77 with fail
  go_cut [] from 73 to 97 (fun w => ∃ x, (x = none ↔ a2 = none) ∧ Dc W bo [.slice a3 s3.length s3.length, .slice a4 s4.length s4.length, .slice a5 s5.length s5.length, .slice a6 s6.length s6.length] [⟨x0, s0⟩, ⟨x1, s1⟩, ⟨x, s2⟩] w)
  case first =>
    have cj : wc.cell? ⟨bi, 2, none⟩ = some (.slice a2 s2.length s2.length) := (HD.oldCell 2 hbi hne).trans i2c
    have dj : ∃ v, wc.cell? ⟨bo, 2, none⟩ = some v := ⟨_, HD.cell 2⟩
    have fj : wc.frozen? ⟨bo, 2, none⟩ = false := HD.frozen 2
    rcases H2.out with ⟨ha, hs⟩ | ⟨g, ha, hg⟩
    · subst ha hs
      go_wp2
      go_meet
      case rel => exact ⟨none, by simp, HD.stepNil (us := [⟨x0, s0⟩, ⟨x1, s1⟩])⟩
    · subst ha
      go_wp2
      go_quiet (fail)
      go_wp2_with (at_make; go_must (refine wpList_make_full _ rfl _ _ 22 rfl wc.heap.size 9 i0 (.string ByteArray.empty) 1 Trym.underlying22 hif hz0 hz1 .i64 .i64 _ _ s2.length rfl rfl rfl rfl (by rw [hz2]; omega) (by unfold maxLen; omega) (Nat.le_refl _) ?_); intro w1 ho1 hg1; obtain ⟨vj, dj0⟩ := dj; have dk := (grown_cell hg1 (b := bo) 2 (Nat.lt_of_lt_of_le HD.bolt HD.size)).trans dj0; have fk := (grown_frozen hg1 (b := bo) 2 (Nat.lt_of_lt_of_le HD.bolt HD.size)).trans fj)
      have X := ready_of (us := [⟨x0, s0⟩, ⟨x1, s1⟩]) HD hg1 ho1 hg (by rw [hg]; exact HB9.out s2) hbi hne i2c
      have HX : Hid (_ ∧ _) := ⟨HD, hg1⟩
      clear HD ho1 hg1 dk fk fj hg cj
      generalize hw2 : w1.setCell ⟨bo, 2, none⟩ (.slice (some ⟨wc.heap.size, 0, none⟩) s2.length s2.length) = w2 at X ⊢
      have c1 : w2.cell? ⟨bo, 2, none⟩ = some (.slice (some ⟨wc.heap.size, 0, none⟩) s2.length s2.length) := X.dst
      have c2 : w2.cell? ⟨bi, 2, none⟩ = some (.slice (some ⟨g, 0, none⟩) s2.length s2.length) := X.src
      have hrow : Hid _ := X.row
      have hfrom : Hid _ := X.from_
      have HW2 : Hid _ := hw2
      clear X hw2
      go_wp2_with fail
      go_region_law (refine step_copy_splice rfl (.tmp 93) (.tmp 96) 22 22 rfl 9 Trym.underlying22 hsz9 (some ⟨wc.heap.size, 0, none⟩) (some ⟨g, 0, none⟩) s2.length s2.length s2.length s2.length (by simp [Act.eval]) (by simp [Act.eval]) wc.heap.size 0 (List.replicate s2.length (.string ByteArray.empty)) 9 hrow.out (strs s2) (by rw [strs_len]; exact (Nat.min_self _).symm) (fun _ => ⟨rfl, _, rfl, hfrom.out⟩) (by rw [strs_len, List.length_replicate]; omega) (strs_one s2) wc.heap.size w2 (Below.refl _ _).drew (Nat.le_refl _) ?_; intro w3 hr3 hb3)
      all_goals go_wp2
      all_goals go_meet
      all_goals (have hr4 := hr3.out; rw [splice_whole _ _ (by rw [strs_len, List.length_replicate])] at hr4; have hb4 := hb3; rw [← HW2.out] at hb4; exact ⟨some ⟨wc.heap.size, 0, none⟩, by simp, (Dc.drewN HX.out.1 nq).stepRow (us := [⟨x0, s0⟩, ⟨x1, s1⟩]) rfl HX.out.2 hb4 hr4⟩)
  case rest =>
  clear HD
  obtain ⟨x2, hx2, HD⟩ := hcut
  have HI2 : Hid (x2 = none ↔ a2 = none) := hx2
  clear hx2
  go_upto_region 13 with fail
  have cj : wc.cell? ⟨bi, 3, none⟩ = some (.slice a3 s3.length s3.length) := (HD.oldCell 3 hbi hne).trans i3c
  go_cut [102] from 98 to 101 (fun sT w => sT = .bool a3.isSome ∧ Dc W bo [.slice a3 s3.length s3.length, .slice a4 s4.length s4.length, .slice a5 s5.length s5.length, .slice a6 s6.length s6.length] [⟨x0, s0⟩, ⟨x1, s1⟩, ⟨x2, s2⟩] w)
  case first =>
    go_wp2
    go_meet
    case rel => exact ⟨by simp, HD⟩
  case rest =>
  clear HD cj
  obtain ⟨rfl, HD⟩ := hcut
  go_upto_if 102 with fail
  go_cut [] from 98 to 122 (fun w => ∃ x, (x = none ↔ a3 = none) ∧ Dc W bo [.slice a4 s4.length s4.length, .slice a5 s5.length s5.length, .slice a6 s6.length s6.length] [⟨x0, s0⟩, ⟨x1, s1⟩, ⟨x2, s2⟩, ⟨x, s3⟩] w)
  case first =>
    have cj : wc.cell? ⟨bi, 3, none⟩ = some (.slice a3 s3.length s3.length) := (HD.oldCell 3 hbi hne).trans i3c
    have dj : ∃ v, wc.cell? ⟨bo, 3, none⟩ = some v := ⟨_, HD.cell 3⟩
    have fj : wc.frozen? ⟨bo, 3, none⟩ = false := HD.frozen 3
    rcases H3.out with ⟨ha, hs⟩ | ⟨g, ha, hg⟩
    · subst ha hs
      go_wp2
      go_meet
      case rel => exact ⟨none, by simp, HD.stepNil (us := [⟨x0, s0⟩, ⟨x1, s1⟩, ⟨x2, s2⟩])⟩
    · subst ha
      go_wp2
      go_quiet (fail)
      go_wp2_with (at_make; go_must (refine wpList_make_full _ rfl _ _ 22 rfl wc.heap.size 9 i0 (.string ByteArray.empty) 1 Trym.underlying22 hif hz0 hz1 .i64 .i64 _ _ s3.length rfl rfl rfl rfl (by rw [hz2]; omega) (by unfold maxLen; omega) (Nat.le_refl _) ?_); intro w1 ho1 hg1; obtain ⟨vj, dj0⟩ := dj; have dk := (grown_cell hg1 (b := bo) 3 (Nat.lt_of_lt_of_le HD.bolt HD.size)).trans dj0; have fk := (grown_frozen hg1 (b := bo) 3 (Nat.lt_of_lt_of_le HD.bolt HD.size)).trans fj)
      have X := ready_of (us := [⟨x0, s0⟩, ⟨x1, s1⟩, ⟨x2, s2⟩]) HD hg1 ho1 hg (by rw [hg]; exact HB9.out s3) hbi hne i3c
      have HX : Hid (_ ∧ _) := ⟨HD, hg1⟩
      clear HD ho1 hg1 dk fk fj hg cj
      generalize hw2 : w1.setCell ⟨bo, 3, none⟩ (.slice (some ⟨wc.heap.size, 0, none⟩) s3.length s3.length) = w2 at X ⊢
      have c1 : w2.cell? ⟨bo, 3, none⟩ = some (.slice (some ⟨wc.heap.size, 0, none⟩) s3.length s3.length) := X.dst
      have c2 : w2.cell? ⟨bi, 3, none⟩ = some (.slice (some ⟨g, 0, none⟩) s3.length s3.length) := X.src
      have hrow : Hid _ := X.row
      have hfrom : Hid _ := X.from_
      have HW2 : Hid _ := hw2
      clear X hw2
      go_wp2_with fail
      go_region_law (refine step_copy_splice rfl (.tmp 118) (.tmp 121) 22 22 rfl 9 Trym.underlying22 hsz9 (some ⟨wc.heap.size, 0, none⟩) (some ⟨g, 0, none⟩) s3.length s3.length s3.length s3.length (by simp [Act.eval]) (by simp [Act.eval]) wc.heap.size 0 (List.replicate s3.length (.string ByteArray.empty)) 9 hrow.out (strs s3) (by rw [strs_len]; exact (Nat.min_self _).symm) (fun _ => ⟨rfl, _, rfl, hfrom.out⟩) (by rw [strs_len, List.length_replicate]; omega) (strs_one s3) wc.heap.size w2 (Below.refl _ _).drew (Nat.le_refl _) ?_; intro w3 hr3 hb3)
      all_goals go_wp2
      all_goals go_meet
      all_goals (have hr4 := hr3.out; rw [splice_whole _ _ (by rw [strs_len, List.length_replicate])] at hr4; have hb4 := hb3; rw [← HW2.out] at hb4; exact ⟨some ⟨wc.heap.size, 0, none⟩, by simp, (Dc.drewN HX.out.1 nq).stepRow (us := [⟨x0, s0⟩, ⟨x1, s1⟩, ⟨x2, s2⟩]) rfl HX.out.2 hb4 hr4⟩)
  case rest =>
  clear HD
  obtain ⟨x3, hx3, HD⟩ := hcut
  have HI3 : Hid (x3 = none ↔ a3 = none) := hx3
  clear hx3
  go_upto_region 17 with fail
  have cj : wc.cell? ⟨bi, 4, none⟩ = some (.slice a4 s4.length s4.length) := (HD.oldCell 4 hbi hne).trans i4c
  go_cut [127] from 123 to 126 (fun sT w => sT = .bool a4.isSome ∧ Dc W bo [.slice a4 s4.length s4.length, .slice a5 s5.length s5.length, .slice a6 s6.length s6.length] [⟨x0, s0⟩, ⟨x1, s1⟩, ⟨x2, s2⟩, ⟨x3, s3⟩] w)
  case first =>
    go_wp2
    go_meet
    case rel => exact ⟨by simp, HD⟩
  case rest =>
  clear HD cj
  obtain ⟨rfl, HD⟩ := hcut
  go_upto_if 127 with fail
  go_cut [] from 123 to 147 (fun w => ∃ x, (x = none ↔ a4 = none) ∧ Dc W bo [.slice a5 s5.length s5.length, .slice a6 s6.length s6.length] [⟨x0, s0⟩, ⟨x1, s1⟩, ⟨x2, s2⟩, ⟨x3, s3⟩, ⟨x, s4⟩] w)
  case first =>
    have cj : wc.cell? ⟨bi, 4, none⟩ = some (.slice a4 s4.length s4.length) := (HD.oldCell 4 hbi hne).trans i4c
    have dj : ∃ v, wc.cell? ⟨bo, 4, none⟩ = some v := ⟨_, HD.cell 4⟩
    have fj : wc.frozen? ⟨bo, 4, none⟩ = false := HD.frozen 4
    rcases H4.out with ⟨ha, hs⟩ | ⟨g, ha, hg⟩
    · subst ha hs
      go_wp2
      go_meet
      case rel => exact ⟨none, by simp, HD.stepNil (us := [⟨x0, s0⟩, ⟨x1, s1⟩, ⟨x2, s2⟩, ⟨x3, s3⟩])⟩
    · subst ha
      go_wp2
      go_quiet (fail)
      go_wp2_with (at_make; go_must (refine wpList_make_full _ rfl _ _ 22 rfl wc.heap.size 9 i0 (.string ByteArray.empty) 1 Trym.underlying22 hif hz0 hz1 .i64 .i64 _ _ s4.length rfl rfl rfl rfl (by rw [hz2]; omega) (by unfold maxLen; omega) (Nat.le_refl _) ?_); intro w1 ho1 hg1; obtain ⟨vj, dj0⟩ := dj; have dk := (grown_cell hg1 (b := bo) 4 (Nat.lt_of_lt_of_le HD.bolt HD.size)).trans dj0; have fk := (grown_frozen hg1 (b := bo) 4 (Nat.lt_of_lt_of_le HD.bolt HD.size)).trans fj)
      have X := ready_of (us := [⟨x0, s0⟩, ⟨x1, s1⟩, ⟨x2, s2⟩, ⟨x3, s3⟩]) HD hg1 ho1 hg (by rw [hg]; exact HB9.out s4) hbi hne i4c
      have HX : Hid (_ ∧ _) := ⟨HD, hg1⟩
      clear HD ho1 hg1 dk fk fj hg cj
      generalize hw2 : w1.setCell ⟨bo, 4, none⟩ (.slice (some ⟨wc.heap.size, 0, none⟩) s4.length s4.length) = w2 at X ⊢
      have c1 : w2.cell? ⟨bo, 4, none⟩ = some (.slice (some ⟨wc.heap.size, 0, none⟩) s4.length s4.length) := X.dst
      have c2 : w2.cell? ⟨bi, 4, none⟩ = some (.slice (some ⟨g, 0, none⟩) s4.length s4.length) := X.src
      have hrow : Hid _ := X.row
      have hfrom : Hid _ := X.from_
      have HW2 : Hid _ := hw2
      clear X hw2
      go_wp2_with fail
      go_region_law (refine step_copy_splice rfl (.tmp 143) (.tmp 146) 22 22 rfl 9 Trym.underlying22 hsz9 (some ⟨wc.heap.size, 0, none⟩) (some ⟨g, 0, none⟩) s4.length s4.length s4.length s4.length (by simp [Act.eval]) (by simp [Act.eval]) wc.heap.size 0 (List.replicate s4.length (.string ByteArray.empty)) 9 hrow.out (strs s4) (by rw [strs_len]; exact (Nat.min_self _).symm) (fun _ => ⟨rfl, _, rfl, hfrom.out⟩) (by rw [strs_len, List.length_replicate]; omega) (strs_one s4) wc.heap.size w2 (Below.refl _ _).drew (Nat.le_refl _) ?_; intro w3 hr3 hb3)
      all_goals go_wp2
      all_goals go_meet
      all_goals (have hr4 := hr3.out; rw [splice_whole _ _ (by rw [strs_len, List.length_replicate])] at hr4; have hb4 := hb3; rw [← HW2.out] at hb4; exact ⟨some ⟨wc.heap.size, 0, none⟩, by simp, (Dc.drewN HX.out.1 nq).stepRow (us := [⟨x0, s0⟩, ⟨x1, s1⟩, ⟨x2, s2⟩, ⟨x3, s3⟩]) rfl HX.out.2 hb4 hr4⟩)
  case rest =>
  clear HD
  obtain ⟨x4, hx4, HD⟩ := hcut
  have HI4 : Hid (x4 = none ↔ a4 = none) := hx4
  clear hx4
  go_upto_region 21 with fail
  have cj : wc.cell? ⟨bi, 5, none⟩ = some (.slice a5 s5.length s5.length) := (HD.oldCell 5 hbi hne).trans i5c
  go_cut [152] from 148 to 151 (fun sT w => sT = .bool a5.isSome ∧ Dc W bo [.slice a5 s5.length s5.length, .slice a6 s6.length s6.length] [⟨x0, s0⟩, ⟨x1, s1⟩, ⟨x2, s2⟩, ⟨x3, s3⟩, ⟨x4, s4⟩] w)
  case first =>
    go_wp2
    go_meet
    case rel => exact ⟨by simp, HD⟩
  case rest =>
  clear HD cj
  obtain ⟨rfl, HD⟩ := hcut
  go_upto_if 152 with fail
  go_cut [] from 148 to 172 (fun w => ∃ x, (x = none ↔ a5 = none) ∧ Dc W bo [.slice a6 s6.length s6.length] [⟨x0, s0⟩, ⟨x1, s1⟩, ⟨x2, s2⟩, ⟨x3, s3⟩, ⟨x4, s4⟩, ⟨x, s5⟩] w)
  case first =>
    have cj : wc.cell? ⟨bi, 5, none⟩ = some (.slice a5 s5.length s5.length) := (HD.oldCell 5 hbi hne).trans i5c
    have dj : ∃ v, wc.cell? ⟨bo, 5, none⟩ = some v := ⟨_, HD.cell 5⟩
    have fj : wc.frozen? ⟨bo, 5, none⟩ = false := HD.frozen 5
    rcases H5.out with ⟨ha, hs⟩ | ⟨g, ha, hg⟩
    · subst ha hs
      go_wp2
      go_meet
      case rel => exact ⟨none, by simp, HD.stepNil (us := [⟨x0, s0⟩, ⟨x1, s1⟩, ⟨x2, s2⟩, ⟨x3, s3⟩, ⟨x4, s4⟩])⟩
    · subst ha
      go_wp2
      go_quiet (fail)
      go_wp2_with (at_make; go_must (refine wpList_make_full _ rfl _ _ 22 rfl wc.heap.size 9 i0 (.string ByteArray.empty) 1 Trym.underlying22 hif hz0 hz1 .i64 .i64 _ _ s5.length rfl rfl rfl rfl (by rw [hz2]; omega) (by unfold maxLen; omega) (Nat.le_refl _) ?_); intro w1 ho1 hg1; obtain ⟨vj, dj0⟩ := dj; have dk := (grown_cell hg1 (b := bo) 5 (Nat.lt_of_lt_of_le HD.bolt HD.size)).trans dj0; have fk := (grown_frozen hg1 (b := bo) 5 (Nat.lt_of_lt_of_le HD.bolt HD.size)).trans fj)
      have X := ready_of (us := [⟨x0, s0⟩, ⟨x1, s1⟩, ⟨x2, s2⟩, ⟨x3, s3⟩, ⟨x4, s4⟩]) HD hg1 ho1 hg (by rw [hg]; exact HB9.out s5) hbi hne i5c
      have HX : Hid (_ ∧ _) := ⟨HD, hg1⟩
      clear HD ho1 hg1 dk fk fj hg cj
      generalize hw2 : w1.setCell ⟨bo, 5, none⟩ (.slice (some ⟨wc.heap.size, 0, none⟩) s5.length s5.length) = w2 at X ⊢
      have c1 : w2.cell? ⟨bo, 5, none⟩ = some (.slice (some ⟨wc.heap.size, 0, none⟩) s5.length s5.length) := X.dst
      have c2 : w2.cell? ⟨bi, 5, none⟩ = some (.slice (some ⟨g, 0, none⟩) s5.length s5.length) := X.src
      have hrow : Hid _ := X.row
      have hfrom : Hid _ := X.from_
      have HW2 : Hid _ := hw2
      clear X hw2
      go_wp2_with fail
      go_region_law (refine step_copy_splice rfl (.tmp 168) (.tmp 171) 22 22 rfl 9 Trym.underlying22 hsz9 (some ⟨wc.heap.size, 0, none⟩) (some ⟨g, 0, none⟩) s5.length s5.length s5.length s5.length (by simp [Act.eval]) (by simp [Act.eval]) wc.heap.size 0 (List.replicate s5.length (.string ByteArray.empty)) 9 hrow.out (strs s5) (by rw [strs_len]; exact (Nat.min_self _).symm) (fun _ => ⟨rfl, _, rfl, hfrom.out⟩) (by rw [strs_len, List.length_replicate]; omega) (strs_one s5) wc.heap.size w2 (Below.refl _ _).drew (Nat.le_refl _) ?_; intro w3 hr3 hb3)
      all_goals go_wp2
      all_goals go_meet
      all_goals (have hr4 := hr3.out; rw [splice_whole _ _ (by rw [strs_len, List.length_replicate])] at hr4; have hb4 := hb3; rw [← HW2.out] at hb4; exact ⟨some ⟨wc.heap.size, 0, none⟩, by simp, (Dc.drewN HX.out.1 nq).stepRow (us := [⟨x0, s0⟩, ⟨x1, s1⟩, ⟨x2, s2⟩, ⟨x3, s3⟩, ⟨x4, s4⟩]) rfl HX.out.2 hb4 hr4⟩)
  case rest =>
  clear HD
  obtain ⟨x5, hx5, HD⟩ := hcut
  have HI5 : Hid (x5 = none ↔ a5 = none) := hx5
  clear hx5
  go_upto_region 25 with fail
  have cj : wc.cell? ⟨bi, 6, none⟩ = some (.slice a6 s6.length s6.length) := (HD.oldCell 6 hbi hne).trans i6c
  go_cut [177] from 173 to 176 (fun sT w => sT = .bool a6.isSome ∧ Dc W bo [.slice a6 s6.length s6.length] [⟨x0, s0⟩, ⟨x1, s1⟩, ⟨x2, s2⟩, ⟨x3, s3⟩, ⟨x4, s4⟩, ⟨x5, s5⟩] w)
  case first =>
    go_wp2
    go_meet
    case rel => exact ⟨by simp, HD⟩
  case rest =>
  clear HD cj
  obtain ⟨rfl, HD⟩ := hcut
  go_upto_if 177 with fail
  have cj : wc.cell? ⟨bi, 6, none⟩ = some (.slice a6 s6.length s6.length) := (HD.oldCell 6 hbi hne).trans i6c
  have dj : ∃ v, wc.cell? ⟨bo, 6, none⟩ = some v := ⟨_, HD.cell 6⟩
  have fj : wc.frozen? ⟨bo, 6, none⟩ = false := HD.frozen 6
  rcases H6.out with ⟨ha, hs⟩ | ⟨g, ha, hg⟩
  · subst ha hs
    go_wp2
    go_end0
    exact ⟨rfl, x0, x1, x2, x3, x4, x5, none, HD.stepNil (us := [⟨x0, s0⟩, ⟨x1, s1⟩, ⟨x2, s2⟩, ⟨x3, s3⟩, ⟨x4, s4⟩, ⟨x5, s5⟩]), HI0.out, HI1.out, HI2.out, HI3.out, HI4.out, HI5.out, by simp⟩
  · subst ha
    go_wp2
    go_quiet (fail)
    go_wp2_with (at_make; go_must (refine wpList_make_full _ rfl _ _ 22 rfl wc.heap.size 9 i0 (.string ByteArray.empty) 1 Trym.underlying22 hif hz0 hz1 .i64 .i64 _ _ s6.length rfl rfl rfl rfl (by rw [hz2]; omega) (by unfold maxLen; omega) (Nat.le_refl _) ?_); intro w1 ho1 hg1; obtain ⟨vj, dj0⟩ := dj; have dk := (grown_cell hg1 (b := bo) 6 (Nat.lt_of_lt_of_le HD.bolt HD.size)).trans dj0; have fk := (grown_frozen hg1 (b := bo) 6 (Nat.lt_of_lt_of_le HD.bolt HD.size)).trans fj)
    have X := ready_of (us := [⟨x0, s0⟩, ⟨x1, s1⟩, ⟨x2, s2⟩, ⟨x3, s3⟩, ⟨x4, s4⟩, ⟨x5, s5⟩]) HD hg1 ho1 hg (by rw [hg]; exact HB9.out s6) hbi hne i6c
    have HX : Hid (_ ∧ _) := ⟨HD, hg1⟩
    clear HD ho1 hg1 dk fk fj hg cj
    generalize hw2 : w1.setCell ⟨bo, 6, none⟩ (.slice (some ⟨wc.heap.size, 0, none⟩) s6.length s6.length) = w2 at X ⊢
    have c1 : w2.cell? ⟨bo, 6, none⟩ = some (.slice (some ⟨wc.heap.size, 0, none⟩) s6.length s6.length) := X.dst
    have c2 : w2.cell? ⟨bi, 6, none⟩ = some (.slice (some ⟨g, 0, none⟩) s6.length s6.length) := X.src
    have hrow : Hid _ := X.row
    have hfrom : Hid _ := X.from_
    have HW2 : Hid _ := hw2
    clear X hw2
    go_wp2_with fail
    go_region_law (refine step_copy_splice rfl (.tmp 193) (.tmp 196) 22 22 rfl 9 Trym.underlying22 hsz9 (some ⟨wc.heap.size, 0, none⟩) (some ⟨g, 0, none⟩) s6.length s6.length s6.length s6.length (by simp [Act.eval]) (by simp [Act.eval]) wc.heap.size 0 (List.replicate s6.length (.string ByteArray.empty)) 9 hrow.out (strs s6) (by rw [strs_len]; exact (Nat.min_self _).symm) (fun _ => ⟨rfl, _, rfl, hfrom.out⟩) (by rw [strs_len, List.length_replicate]; omega) (strs_one s6) wc.heap.size w2 (Below.refl _ _).drew (Nat.le_refl _) ?_; intro w3 hr3 hb3)
    all_goals go_wp2
    all_goals go_end0
    all_goals (have hr4 := hr3.out; rw [splice_whole _ _ (by rw [strs_len, List.length_replicate])] at hr4; have hb4 := hb3; rw [← HW2.out] at hb4; exact ⟨rfl, x0, x1, x2, x3, x4, x5, some ⟨wc.heap.size, 0, none⟩, (Dc.drewN HX.out.1 nq).stepRow (us := [⟨x0, s0⟩, ⟨x1, s1⟩, ⟨x2, s2⟩, ⟨x3, s3⟩, ⟨x4, s4⟩, ⟨x5, s5⟩]) rfl HX.out.2 hb4 hr4, HI0.out, HI1.out, HI2.out, HI3.out, HI4.out, HI5.out, by simp⟩)
end Go.Proofs.Qxb6000365aMods
