/- WHAT EACH OF THE FOUR LOOPS OF THE LAW OF INDEPENDENCE WANTS, OUTSIDE THE WALK. -/
import Derived.Test.Qxb6000365aModsApart
namespace Go.Proofs.Qxb6000365aMods
open Go.RowKit

structure Ctx (w : World) (Us Xs Ys : List Lst) : Prop where
  ap : Ap w Us Xs Ys
  ux : ∀ j, j < 7 → (nth Us j).ss = (nth Xs j).ss
  yx : ∀ j, j < 7 → (nth Ys j).ss = (nth Xs j).ss
  len : ∀ j, j < 7 → (nth Xs j).ss.length ≤ 65536
  small : ∀ j, j < 7 → ∀ s ∈ (nth Xs j).ss, s.size ≤ 1048576
  nils : ∀ j, j < 7 → ((nth Xs j).ao = none ↔ (nth Ys j).ao = none)
  lu : Us.length = 7
  lx : Xs.length = 7
  ly : Ys.length = 7

def boxOf (L : List Lst) (t : TypeId) : Obj := .cells (L.map Lst.val).toArray t (0, 0)

theorem box_cell {w : World} {b t : Nat} {L : List Lst} (h : w.heap[b]? = some (boxOf L t)) {k : Nat} (hk : k < L.length) : w.cell? ⟨b, k, none⟩ = some (.slice (nth L k).ao (nth L k).ss.length (nth L k).ss.length) := by
  rw [cell_of_row w b k _ t (0, 0) h]
  have e : nth L k = L[k] := by unfold nth; rw [List.getD_eq_getElem?_getD, List.getElem?_eq_getElem hk]; rfl
  rw [e]
  simp [Lst.val, hk]

theorem gs_box {wb wr : World} {Us Xs Ys : List Lst} {fu fx gu gx : Nat → List ByteArray} (h : Gs wb Us Xs Ys fu fx wr) (h0 : Gs wb Us Xs Ys gu gx wb) {b t : Nat} {L : List Lst} (hb : wb.heap[b]? = some (boxOf L t)) (ht : t ≠ 9) : wr.heap[b]? = some (boxOf L t) :=
  h.box hb (fun j hj => not_box (h0.ru j hj) hb ht) (fun j hj => not_box (h0.rx j hj) hb ht)

theorem loop1 {w wb wr : World} {Us Xs Ys : List Lst} {fx gu gx : Nat → List ByteArray} {p : ByteArray} (c : Ctx w Us Xs Ys) (hp : p.size ≤ 16) {k : Nat} (hk : k < 7) (h : Gs wb Us Xs Ys (done p Us k) fx wr) (h0 : Gs wb Us Xs Ys gu gx wb)
    {bg t : Nat} (hb : wb.heap[bg]? = some (boxOf Us t)) (ht : t ≠ 9) :
    ∃ (u : Option Addr) (ss : List ByteArray), wr.cell? ⟨bg, k, none⟩ = some (.slice u ss.length ss.length) ∧
      Hid (Calls Trym.prog 14 #[.slice u ss.length ss.length, .string p] wr fun e w' => e = .returned (.tuple #[]) ∧ Gs wb Us Xs Ys (done p Us (k + 1)) fx w') := by
  refine ⟨(nth Us k).ao, (nth Us k).ss, box_cell (gs_box h h0 hb ht) (by rw [c.lu]; exact hk), ?_⟩
  have hv := h.ru k hk
  rw [done_now] at hv
  refine (prefix_any _ p _ wr hv (by rw [c.ux k hk]; exact c.len k hk) hp (by rw [c.ux k hk]; exact c.small k hk)).mono ?_
  intro e w' hl
  have hl2 : PrefLeft wr (nth Us k).ao p (done p Us k k) e w' := by rw [done_now]; exact hl
  exact ⟨hl.1, h.stepU c.ap hk hl2 (done_next p Us k) (fun j hj => done_other p Us k j hj)⟩

theorem loop3 {w wb wr : World} {Us Xs Ys : List Lst} {fu gu gx : Nat → List ByteArray} {p : ByteArray} (c : Ctx w Us Xs Ys) (hp : p.size ≤ 16) {k : Nat} (hk : k < 7) (h : Gs wb Us Xs Ys fu (done p Xs k) wr) (h0 : Gs wb Us Xs Ys gu gx wb)
    {bg t : Nat} (hb : wb.heap[bg]? = some (boxOf Xs t)) (ht : t ≠ 9) :
    ∃ (u : Option Addr) (ss : List ByteArray), wr.cell? ⟨bg, k, none⟩ = some (.slice u ss.length ss.length) ∧
      Hid (Calls Trym.prog 14 #[.slice u ss.length ss.length, .string p] wr fun e w' => e = .returned (.tuple #[]) ∧ Gs wb Us Xs Ys fu (done p Xs (k + 1)) w') := by
  refine ⟨(nth Xs k).ao, (nth Xs k).ss, box_cell (gs_box h h0 hb ht) (by rw [c.lx]; exact hk), ?_⟩
  have hv := h.rx k hk
  rw [done_now] at hv
  refine (prefix_any _ p _ wr hv (c.len k hk) hp (c.small k hk)).mono ?_
  intro e w' hl
  have hl2 : PrefLeft wr (nth Xs k).ao p (done p Xs k k) e w' := by rw [done_now]; exact hl
  exact ⟨hl.1, h.stepX c.ap hk hl2 (done_next p Xs k) (fun j hj => done_other p Xs k j hj)⟩

/-- The world is the same but for draws. -/
def SameW (wb wr : World) : Prop := wr.heap = wb.heap ∧ wr.os = wb.os ∧ wr.tape = wb.tape ∧ wr.output = wb.output
theorem SameW.drewN {wb wr : World} (h : SameW wb wr) (n : Nat) : SameW wb (wr.drewN n) := h
theorem SameW.refl (w : World) : SameW w w := ⟨rfl, rfl, rfl, rfl⟩

theorem src_heap {w w' : World} {ao : Option Addr} {ss : List ByteArray} (h : Src w ao ss) (e : w'.heap = w.heap) : Src w' ao ss := by
  refine ⟨h.nil, fun hne => ?_⟩
  obtain ⟨b, o, h1, h2, h3⟩ := h.row hne
  exact ⟨b, o, h1, by rw [e]; exact h2, fun j hj => (World.cell?_of_block (w := w) (by rw [e])).trans (h3 j hj)⟩

theorem heap_cell {w w' : World} (e : w'.heap = w.heap) (a : Addr) : w'.cell? a = w.cell? a := World.cell?_of_block (w := w) (by rw [e])

theorem loop2 {w wb wr : World} {Us Xs Ys : List Lst} {fu : Nat → List ByteArray} (c : Ctx w Us Xs Ys) {k : Nat} (hk : k < 7) (h : Gs wb Us Xs Ys fu (fun j => (nth Xs j).ss) wb) (e : SameW wb wr)
    {bk bw t : Nat} (hbk : wb.heap[bk]? = some (boxOf Xs t)) (hbw : wb.heap[bw]? = some (boxOf Ys t)) :
    ∃ (x y : Option Addr) (ss : List ByteArray), wr.cell? ⟨bk, k, none⟩ = some (.slice x ss.length ss.length) ∧ wr.cell? ⟨bw, k, none⟩ = some (.slice y ss.length ss.length) ∧
      Hid (∀ wx : World, wx.heap = wr.heap → Calls Trym.prog 15 #[.slice x ss.length ss.length, .slice y ss.length ss.length] wx fun e w' => e = .returned (.bool true) ∧ ∃ m, w' = wx.drewN m) := by
  have hy := h.ry k hk
  have cy := box_cell hbw (k := k) (by rw [c.ly]; exact hk)
  rw [c.yx k hk] at hy cy
  refine ⟨(nth Xs k).ao, (nth Ys k).ao, (nth Xs k).ss, ?_, ?_, ?_⟩
  · rw [heap_cell e.1]; exact box_cell hbk (by rw [c.lx]; exact hk)
  · rw [heap_cell e.1]; exact cy
  · intro wx ex
    exact same_any _ _ _ _ _ wx (src_heap (h.rx k hk).src (ex.trans e.1)) (src_heap hy.src (ex.trans e.1)) (c.nils k hk) (c.len k hk)

theorem loop4 {w wb wr : World} {Us Xs Ys : List Lst} {fx : Nat → List ByteArray} {p : ByteArray} (c : Ctx w Us Xs Ys) (hp : p.size ≤ 16) {k : Nat} (hk : k < 7) (h : Gs wb Us Xs Ys (done p Us 7) fx wb) (e : SameW wb wr)
    {bg bw t : Nat} (hbg : wb.heap[bg]? = some (boxOf Us t)) (hbw : wb.heap[bw]? = some (boxOf Ys t)) :
    ∃ (u y : Option Addr) (ss : List ByteArray), wr.cell? ⟨bg, k, none⟩ = some (.slice u ss.length ss.length) ∧ wr.cell? ⟨bw, k, none⟩ = some (.slice y ss.length ss.length) ∧
      Hid (∀ wx : World, wx.heap = wr.heap → Calls Trym.prog 16 #[.slice u ss.length ss.length, .slice y ss.length ss.length, .string p] wx fun e w' => e = .returned (.bool true) ∧ ∃ m, w' = wx.drewN m) := by
  have hy := h.ry k hk
  have cy := box_cell hbw (k := k) (by rw [c.ly]; exact hk)
  rw [c.yx k hk] at hy cy
  have hu := h.ru k hk
  have ed : done p Us 7 k = pre p (nth Xs k).ss := by rw [done, if_pos hk, c.ux k hk]
  rw [ed] at hu
  have cu := box_cell hbg (k := k) (by rw [c.lu]; exact hk)
  rw [c.ux k hk] at cu
  refine ⟨(nth Us k).ao, (nth Ys k).ao, (nth Xs k).ss, ?_, ?_, ?_⟩
  · rw [heap_cell e.1]; exact cu
  · rw [heap_cell e.1]; exact cy
  · intro wx ex
    exact allPref_any _ _ _ _ p _ wx (src_heap hu.src (ex.trans e.1)) (src_heap hy.src (ex.trans e.1)) (c.len k hk) hp (c.small k hk)

theorem ap_of {w W wd : World} {bo : Nat} {rest : List Value} {Us Xs Ys Xr Yr : List Lst} (hDc : Dc W bo rest Us wd) (hB : Bag w (Yr ++ Xr) W) (lu : Us.length = 7) (lx : Xr.length = 7) (ly : Yr.length = 7)
    (ex : ∀ j, j < 7 → nth Xs j = nth Xr (6 - j)) (ey : ∀ j, j < 7 → nth Ys j = nth Yr (6 - j)) : Ap w Us Xs Ys := by
  obtain ⟨_, hX, hYX⟩ := List.pairwise_append.1 hB.apart
  have mx : ∀ j, j < 7 → nth Xs j ∈ Xr := fun j hj => by rw [ex j hj]; exact nth_mem (by omega)
  have my : ∀ j, j < 7 → nth Ys j ∈ Yr := fun j hj => by rw [ey j hj]; exact nth_mem (by omega)
  have mu : ∀ j, j < 7 → nth Us j ∈ Us := fun j hj => nth_mem (by omega)
  have hs := hB.bel.size
  have off : ∀ p ∈ Us, ∀ q ∈ Yr ++ Xr, Off p.ao q.ao := by
    intro p hp q hq g hg hqg
    have h1 := hDc.fresh p hp g hg
    have h2 := ((hB.row q hq).lt hqg).1
    omega
  refine ⟨fun i j hi hj hne => pairwise_nth hDc.apart (by omega) (by omega) hne, fun i j hi hj hne => ?_, fun i j hi hj => ?_, fun i j hi hj => ?_, fun i j hi hj => ?_, fun i hi g hg => ?_, fun i hi g hg => ?_⟩
  · rw [ex i hi, ex j hj]; exact pairwise_nth hX (by omega) (by omega) (by omega)
  · exact off _ (mu i hi) _ (List.mem_append_right _ (mx j hj))
  · exact off _ (mu i hi) _ (List.mem_append_left _ (my j hj))
  · exact Off.symm (hYX _ (my j hj) _ (mx i hi))
  · have := hDc.fresh _ (mu i hi) g hg; omega
  · exact hB.fresh _ (List.mem_append_right _ (mx i hi)) g hg

theorem three_boxes (w : World) (o p q : Obj) : (((w.alloc o).alloc p).alloc q).heap[w.heap.size]? = some o ∧ (((w.alloc o).alloc p).alloc q).heap[w.heap.size + 1]? = some p ∧ (((w.alloc o).alloc p).alloc q).heap[w.heap.size + 1 + 1]? = some q ∧ (((w.alloc o).alloc p).alloc q).heap.size = w.heap.size + 3 := by
  refine ⟨?_, ?_, ?_, by simp⟩
  · rw [Below.heap_alloc _ _ _ (by simp; omega), Below.heap_alloc _ _ _ (by simp)]; exact heap_alloc_new w o
  · rw [Below.heap_alloc _ _ _ (by simp)]
    have := heap_alloc_new (w.alloc o) p
    simpa using this
  · have := heap_alloc_new ((w.alloc o).alloc p) q
    simpa using this

theorem gs_start {wd wg : World} {Us Xs Ys : List Lst} (hb : Below wd.heap.size wd wg) (hu : ∀ j, j < 7 → VRow wd (nth Us j).ao (nth Us j).ss) (hx : ∀ j, j < 7 → VRow wd (nth Xs j).ao (nth Xs j).ss) (hy : ∀ j, j < 7 → VRow wd (nth Ys j).ao (nth Ys j).ss) (p : ByteArray) :
    Gs wg Us Xs Ys (done p Us 0) (fun j => (nth Xs j).ss) wg := by
  rw [done_zero]
  exact Gs.start (fun j hj => (hu j hj).below hb) (fun j hj => (hx j hj).below hb) (fun j hj => (hy j hj).below hb)
end Go.Proofs.Qxb6000365aMods
