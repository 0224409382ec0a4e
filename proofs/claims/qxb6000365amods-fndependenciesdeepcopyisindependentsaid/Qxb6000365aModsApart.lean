/- THREE FAMILIES OF SEVEN LISTS THAT LIE APART, two of which are written row by row: plain. -/
import Derived.Test.Qxb6000365aModsLists
import Derived.Test.Qxb6000365aModsPrefix
namespace Go.Proofs.Qxb6000365aMods
open Go.RowKit

def nth (L : List Lst) (j : Nat) : Lst := L.getD j ⟨none, []⟩

def Off (a b : Option Addr) : Prop := ∀ g, a = some ⟨g, 0, none⟩ → b ≠ some ⟨g, 0, none⟩

theorem Off.symm {a b : Option Addr} (h : Off a b) : Off b a := fun g hb ha => h g ha hb

structure Ap (w0 : World) (Us Xs Ys : List Lst) : Prop where
  uu : ∀ i j, i < 7 → j < 7 → i ≠ j → Off (nth Us i).ao (nth Us j).ao
  xx : ∀ i j, i < 7 → j < 7 → i ≠ j → Off (nth Xs i).ao (nth Xs j).ao
  ux : ∀ i j, i < 7 → j < 7 → Off (nth Us i).ao (nth Xs j).ao
  uy : ∀ i j, i < 7 → j < 7 → Off (nth Us i).ao (nth Ys j).ao
  xy : ∀ i j, i < 7 → j < 7 → Off (nth Xs i).ao (nth Ys j).ao
  fu : ∀ i, i < 7 → ∀ g, (nth Us i).ao = some ⟨g, 0, none⟩ → w0.heap.size ≤ g
  fx : ∀ i, i < 7 → ∀ g, (nth Xs i).ao = some ⟨g, 0, none⟩ → w0.heap.size ≤ g

/-- Where the writes stand: the lists of Us hold fu, those of Xs fx; Ys is as it was; all else is as in wb. -/
structure Gs (wb : World) (Us Xs Ys : List Lst) (fu fx : Nat → List ByteArray) (wr : World) : Prop where
  ru : ∀ j, j < 7 → VRow wr (nth Us j).ao (fu j)
  rx : ∀ j, j < 7 → VRow wr (nth Xs j).ao (fx j)
  ry : ∀ j, j < 7 → VRow wr (nth Ys j).ao (nth Ys j).ss
  rest : ∀ b, (∀ j, j < 7 → (nth Us j).ao ≠ some ⟨b, 0, none⟩ ∧ (nth Xs j).ao ≠ some ⟨b, 0, none⟩) → wr.heap[b]? = wb.heap[b]?
  size : wr.heap.size = wb.heap.size
  os : wr.os = wb.os
  tape : wr.tape = wb.tape
  output : wr.output = wb.output

theorem vrow_kept {w w' : World} {a b : Option Addr} {ss : List ByteArray} (h : VRow w a ss) (hoff : Off a b) (hk : ∀ k, b ≠ some ⟨k, 0, none⟩ → w'.heap[k]? = w.heap[k]?) : VRow w' a ss := by
  rcases h with h | ⟨g, hg, hh⟩
  · exact Or.inl h
  · exact Or.inr ⟨g, hg, by rw [hk g (hoff g hg)]; exact hh⟩

theorem Gs.stepU {w0 wb wr w' : World} {Us Xs Ys : List Lst} {fu fx fu' : Nat → List ByteArray} (h : Gs wb Us Xs Ys fu fx wr) (ap : Ap w0 Us Xs Ys) {k : Nat} (hk : k < 7) {p : ByteArray} {e : Ending} (hp : PrefLeft wr (nth Us k).ao p (fu k) e w')
    (h1 : fu' k = pre p (fu k)) (h2 : ∀ j, j ≠ k → fu' j = fu j) : Gs wb Us Xs Ys fu' fx w' := by
  obtain ⟨_, hv, hr, hs, ho, ht, hu⟩ := hp
  refine ⟨fun j hj => ?_, fun j hj => ?_, fun j hj => ?_, fun b hb => ?_, hs.trans h.size, ho.trans h.os, ht.trans h.tape, hu.trans h.output⟩
  · by_cases e : j = k
    · subst e; rw [h1]; exact hv
    · rw [h2 j e]; exact vrow_kept (h.ru j hj) (ap.uu j k hj hk e) hr
  · exact vrow_kept (h.rx j hj) (ap.ux k j hk hj).symm hr
  · exact vrow_kept (h.ry j hj) (ap.uy k j hk hj).symm hr
  · rw [hr b (hb k hk).1]; exact h.rest b hb

theorem Gs.stepX {w0 wb wr w' : World} {Us Xs Ys : List Lst} {fu fx fx' : Nat → List ByteArray} (h : Gs wb Us Xs Ys fu fx wr) (ap : Ap w0 Us Xs Ys) {k : Nat} (hk : k < 7) {p : ByteArray} {e : Ending} (hp : PrefLeft wr (nth Xs k).ao p (fx k) e w')
    (h1 : fx' k = pre p (fx k)) (h2 : ∀ j, j ≠ k → fx' j = fx j) : Gs wb Us Xs Ys fu fx' w' := by
  obtain ⟨_, hv, hr, hs, ho, ht, hu⟩ := hp
  refine ⟨fun j hj => ?_, fun j hj => ?_, fun j hj => ?_, fun b hb => ?_, hs.trans h.size, ho.trans h.os, ht.trans h.tape, hu.trans h.output⟩
  · exact vrow_kept (h.ru j hj) (ap.ux j k hj hk) hr
  · by_cases e : j = k
    · subst e; rw [h1]; exact hv
    · rw [h2 j e]; exact vrow_kept (h.rx j hj) (ap.xx j k hj hk e) hr
  · exact vrow_kept (h.ry j hj) (ap.xy k j hk hj).symm hr
  · rw [hr b (hb k hk).2]; exact h.rest b hb

theorem Gs.below {w0 wb wr : World} {Us Xs Ys : List Lst} {fu fx : Nat → List ByteArray} (h : Gs wb Us Xs Ys fu fx wr) (ap : Ap w0 Us Xs Ys) (hb : Below w0.heap.size w0 wb) : Below w0.heap.size w0 wr := by
  refine ⟨h.os.trans hb.os, h.tape.trans hb.tape, h.output.trans hb.output, by rw [h.size]; exact hb.size, fun k hk => ?_⟩
  rw [h.rest k (fun j hj => ⟨fun e => ?_, fun e => ?_⟩)]
  · exact hb.block k hk
  · have := ap.fu j hj k e; omega
  · have := ap.fx j hj k e; omega

/-- A box (a row of slices, not of strings) is as it was. -/
theorem Gs.box {wb wr : World} {Us Xs Ys : List Lst} {fu fx : Nat → List ByteArray} (h : Gs wb Us Xs Ys fu fx wr) {b : Nat} {cs : Array Value} {t : TypeId} (hb : wb.heap[b]? = some (.cells cs t (0, 0)))
    (hbU : ∀ j, j < 7 → (nth Us j).ao ≠ some ⟨b, 0, none⟩) (hbX : ∀ j, j < 7 → (nth Xs j).ao ≠ some ⟨b, 0, none⟩) : wr.heap[b]? = some (.cells cs t (0, 0)) := by
  rw [h.rest b (fun j hj => ⟨hbU j hj, hbX j hj⟩)]; exact hb

theorem not_box {w : World} {a : Option Addr} {ss : List ByteArray} {b : Nat} {cs : Array Value} {t : TypeId} (hv : VRow w a ss) (hb : w.heap[b]? = some (.cells cs t (0, 0))) (ht : t ≠ 9) : a ≠ some ⟨b, 0, none⟩ := by
  intro e
  rcases hv with ⟨h0, _⟩ | ⟨g, hg, hh⟩
  · rw [h0] at e; cases e
  · rw [hg] at e
    injection e with e
    injection e with e
    subst e
    rw [hh] at hb
    injection hb with hb
    injection hb with h1 h2 h3
    exact ht h2.symm

theorem Gs.start {w : World} {Us Xs Ys : List Lst} (hu : ∀ j, j < 7 → VRow w (nth Us j).ao (nth Us j).ss) (hx : ∀ j, j < 7 → VRow w (nth Xs j).ao (nth Xs j).ss) (hy : ∀ j, j < 7 → VRow w (nth Ys j).ao (nth Ys j).ss) :
    Gs w Us Xs Ys (fun j => (nth Us j).ss) (fun j => (nth Xs j).ss) w := ⟨hu, hx, hy, fun _ _ => rfl, rfl, rfl, rfl, rfl⟩

/-- The same heap, the same state; another base. -/
theorem Gs.heap {wb wr w' : World} {Us Xs Ys : List Lst} {fu fx : Nat → List ByteArray} (h : Gs wb Us Xs Ys fu fx wr) (e : w'.heap = wr.heap) (ho : w'.os = wr.os) (ht : w'.tape = wr.tape) (hu : w'.output = wr.output) : Gs wb Us Xs Ys fu fx w' := by
  have hv : ∀ {a : Option Addr} {ss : List ByteArray}, VRow wr a ss → VRow w' a ss := by
    intro a ss h
    rcases h with h | ⟨g, hg, hh⟩
    · exact Or.inl h
    · exact Or.inr ⟨g, hg, by rw [e]; exact hh⟩
  exact ⟨fun j hj => hv (h.ru j hj), fun j hj => hv (h.rx j hj), fun j hj => hv (h.ry j hj), fun b hb => by rw [e]; exact h.rest b hb, by rw [e]; exact h.size, ho.trans h.os, ht.trans h.tape, hu.trans h.output⟩

theorem Gs.rebase {wb wr w' : World} {Us Xs Ys : List Lst} {fu fx : Nat → List ByteArray} (h : Gs wb Us Xs Ys fu fx wr) (hb : Below wr.heap.size wr w') : Gs w' Us Xs Ys fu fx w' :=
  ⟨fun j hj => (h.ru j hj).below hb, fun j hj => (h.rx j hj).below hb, fun j hj => (h.ry j hj).below hb, fun _ _ => rfl, rfl, rfl, rfl, rfl⟩

theorem all7 {P : Nat → Prop} (h0 : P 0) (h1 : P 1) (h2 : P 2) (h3 : P 3) (h4 : P 4) (h5 : P 5) (h6 : P 6) : ∀ j, j < 7 → P j := by
  intro j hj
  rcases (show j = 0 ∨ j = 1 ∨ j = 2 ∨ j = 3 ∨ j = 4 ∨ j = 5 ∨ j = 6 by omega) with rfl | rfl | rfl | rfl | rfl | rfl | rfl
  · exact h0
  · exact h1
  · exact h2
  · exact h3
  · exact h4
  · exact h5
  · exact h6

theorem nth_mem {L : List Lst} {j : Nat} (hj : j < L.length) : nth L j ∈ L := by
  unfold nth
  rw [List.getD_eq_getElem?_getD, List.getElem?_eq_getElem hj]
  exact List.getElem_mem hj

theorem pairwise_nth {L : List Lst} (h : L.Pairwise Apart) {i j : Nat} (hi : i < L.length) (hj : j < L.length) (hne : i ≠ j) : Off (nth L i).ao (nth L j).ao := by
  have e : ∀ k (hk : k < L.length), nth L k = L[k] := fun k hk => by unfold nth; rw [List.getD_eq_getElem?_getD, List.getElem?_eq_getElem hk]; rfl
  rw [e i hi, e j hj]
  rw [List.pairwise_iff_getElem] at h
  rcases Nat.lt_or_gt_of_ne hne with hlt | hlt
  · exact h i j hi hj hlt
  · exact Off.symm (h j i hj hi hlt)

/-- k lists are prefixed. -/
def done (p : ByteArray) (L : List Lst) (k : Nat) (j : Nat) : List ByteArray := if j < k then pre p (nth L j).ss else (nth L j).ss

theorem done_now (p : ByteArray) (L : List Lst) (k : Nat) : done p L k k = (nth L k).ss := by simp [done]
theorem done_next (p : ByteArray) (L : List Lst) (k : Nat) : done p L (k + 1) k = pre p (done p L k k) := by simp [done]
theorem done_other (p : ByteArray) (L : List Lst) (k j : Nat) (h : j ≠ k) : done p L (k + 1) j = done p L k j := by
  unfold done
  by_cases h1 : j < k
  · rw [if_pos h1, if_pos (by omega)]
  · rw [if_neg h1, if_neg (by omega)]
theorem done_zero (p : ByteArray) (L : List Lst) : done p L 0 = fun j => (nth L j).ss := by funext j; simp [done]
end Go.Proofs.Qxb6000365aMods
