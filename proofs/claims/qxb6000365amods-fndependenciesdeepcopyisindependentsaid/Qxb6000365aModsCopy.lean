/- THE STATE OF A DEEP COPY, FIELD BY FIELD, PLAIN. -/
import Derived.Test.Qxb6000365aModsBag
import Derived.Laws.CopyOwn
import Derived.Deep.Draws
namespace Go.Proofs.Qxb6000365aMods
open Go.RowKit

/-- A list: where it lies, what it holds. -/
structure Lst where
  ao : Option Addr
  ss : List ByteArray
def Lst.val (p : Lst) : Value := .slice p.ao p.ss.length p.ss.length

def Apart (p q : Lst) : Prop := ∀ g, p.ao = some ⟨g, 0, none⟩ → q.ao ≠ some ⟨g, 0, none⟩

/-- 'us': the fields that have been copied; 'rest': what the other fields hold. -/
structure Dc (W : World) (bo : Nat) (rest : List Value) (us : List Lst) (w : World) : Prop where
  box : w.heap[bo]? = some (.cells (us.map Lst.val ++ rest).toArray 28 (0, 0))
  old : ∀ k, k < W.heap.size → k ≠ bo → w.heap[k]? = W.heap[k]?
  os : w.os = W.os
  tape : w.tape = W.tape
  output : w.output = W.output
  size : W.heap.size ≤ w.heap.size
  bolt : bo < W.heap.size
  row : ∀ p ∈ us, VRow w p.ao p.ss
  fresh : ∀ p ∈ us, ∀ g, p.ao = some ⟨g, 0, none⟩ → W.heap.size ≤ g
  apart : us.Pairwise Apart

theorem Dc.drewN {W : World} {bo : Nat} {rest : List Value} {us : List Lst} {w : World} (h : Dc W bo rest us w) (q : Nat) : Dc W bo rest us (w.drewN q) :=
  ⟨h.box, h.old, h.os, h.tape, h.output, h.size, h.bolt, h.row, h.fresh, h.apart⟩

theorem Dc.cell {W : World} {bo : Nat} {rest : List Value} {us : List Lst} {w : World} (h : Dc W bo rest us w) (j : Nat) : w.cell? ⟨bo, j, none⟩ = (us.map Lst.val ++ rest)[j]? := by
  rw [cell_of_row w bo j _ 28 (0, 0) h.box]; simp

theorem Dc.frozen {W : World} {bo : Nat} {rest : List Value} {us : List Lst} {w : World} (h : Dc W bo rest us w) (j : Nat) : w.frozen? ⟨bo, j, none⟩ = false := frozen_of_row w bo j _ 28 h.box

theorem Dc.oldCell {W : World} {bo : Nat} {rest : List Value} {us : List Lst} {w : World} (h : Dc W bo rest us w) {b : Nat} (j : Nat) (hb : b < W.heap.size) (hne : b ≠ bo) : w.cell? ⟨b, j, none⟩ = W.cell? ⟨b, j, none⟩ :=
  World.cell?_of_block (w := W) (h.old b hb hne)

/-- A field that is nil stays nil. -/
theorem Dc.stepNil {W : World} {bo : Nat} {rest : List Value} {us : List Lst} {w : World} (h : Dc W bo (.slice none 0 0 :: rest) us w) : Dc W bo rest (us ++ [⟨none, []⟩]) w := by
  refine ⟨?_, h.old, h.os, h.tape, h.output, h.size, h.bolt, ?_, ?_, ?_⟩
  · rw [h.box, List.map_append, List.append_assoc]; rfl
  · intro p hp
    rcases List.mem_append.1 hp with h1 | h1
    · exact h.row p h1
    · rw [List.mem_singleton.1 h1]; exact Or.inl ⟨rfl, rfl⟩
  · intro p hp g hg
    rcases List.mem_append.1 hp with h1 | h1
    · exact h.fresh p h1 g hg
    · rw [List.mem_singleton.1 h1] at hg; cases hg
  · rw [List.pairwise_append]
    refine ⟨h.apart, List.pairwise_singleton _ _, fun p hp q hq g hg => ?_⟩
    rw [List.mem_singleton.1 hq]; simp

/-- A field that is copied: a new row N, the field set to it, the strings copied into it. -/
theorem Dc.stepRow {W : World} {bo : Nat} {rest : List Value} {us : List Lst} {v : Value} {w w1 w3 : World} {n : Nat} {ss : List ByteArray} (h : Dc W bo (v :: rest) us w) (hn : ss.length = n) (hg : w.grownBy w1 none)
    (hb : Below w.heap.size (w1.setCell ⟨bo, us.length, none⟩ (.slice (some ⟨w.heap.size, 0, none⟩) n n)) w3)
    (hr : w3.heap[w.heap.size]? = some (.cells (strs ss).toArray 9 (0, 0))) : Dc W bo rest (us ++ [⟨some ⟨w.heap.size, 0, none⟩, ss⟩]) w3 := by
  have hbo : bo < w.heap.size := Nat.lt_of_lt_of_le h.bolt h.size
  have hsz : w.heap.size ≤ w3.heap.size := Nat.le_of_lt (Array.getElem?_eq_some_iff.1 hr).1
  have hold : ∀ k, k < w.heap.size → k ≠ bo → w3.heap[k]? = w.heap[k]? := by
    intro k hk hne
    rw [hb.block k hk, Below.heap_setCell _ _ _ _ (by simpa using hne), hg.block k hk (by simp)]
  have hbelow : ∀ p ∈ us, ∀ g, p.ao = some ⟨g, 0, none⟩ → w3.heap[g]? = w.heap[g]? ∧ g < w.heap.size := by
    intro p hp g hpg
    have h1 := ((h.row p hp).lt hpg).1
    have h2 := h.fresh p hp g hpg
    exact ⟨hold g h1 (by have := h.bolt; omega), h1⟩
  refine ⟨?_, fun k hk hne => ?_, ?_, ?_, ?_, Nat.le_trans h.size hsz, h.bolt, ?_, ?_, ?_⟩
  · rw [hb.block bo hbo]
    have h1 : w1.heap[bo]? = some (.cells (us.map Lst.val ++ v :: rest).toArray 28 (0, 0)) := by
      rw [hg.block bo hbo (by simp)]; exact h.box
    rw [heap_setCell_same w1 bo us.length _ 28 _ h1]
    congr 2
    apply Array.ext'
    simp [Lst.val, ← hn]
  · rw [hold k (Nat.lt_of_lt_of_le hk h.size) hne]; exact h.old k hk hne
  · exact hb.os.trans (hg.os.trans h.os)
  · exact hb.tape.trans (hg.tape.trans h.tape)
  · exact hb.output.trans (hg.output.trans h.output)
  · intro p hp
    rcases List.mem_append.1 hp with h1 | h1
    · rcases h.row p h1 with h2 | ⟨g, hpg, hh⟩
      · exact Or.inl h2
      · exact Or.inr ⟨g, hpg, by rw [(hbelow p h1 g hpg).1]; exact hh⟩
    · rw [List.mem_singleton.1 h1]
      exact Or.inr ⟨w.heap.size, rfl, hr⟩
  · intro p hp g hpg
    rcases List.mem_append.1 hp with h1 | h1
    · exact h.fresh p h1 g hpg
    · rw [List.mem_singleton.1 h1] at hpg
      injection hpg with e
      injection e with e
      have := h.size
      omega
  · rw [List.pairwise_append]
    refine ⟨h.apart, List.pairwise_singleton _ _, fun p hp q hq g hg2 => ?_⟩
    rw [List.mem_singleton.1 hq]
    have := (hbelow p hp g hg2).2
    intro e
    injection e with e
    injection e with e
    omega

/-- The seven cells stored over the old ones. -/
theorem Dc.start {W : World} {bo : Nat} {o0 o1 o2 o3 o4 o5 o6 v0 v1 v2 v3 v4 v5 v6 : Value} (hb : W.heap[bo]? = some (.cells #[o0, o1, o2, o3, o4, o5, o6] 28 (0, 0))) :
    Dc W bo [v0, v1, v2, v3, v4, v5, v6] [] (((((((W.setCell ⟨bo, 0, none⟩ v0).setCell ⟨bo, 1, none⟩ v1).setCell ⟨bo, 2, none⟩ v2).setCell ⟨bo, 3, none⟩ v3).setCell ⟨bo, 4, none⟩ v4).setCell ⟨bo, 5, none⟩ v5).setCell ⟨bo, 6, none⟩ v6) := by
  have h0 := heap_setCell_same W bo 0 _ 28 v0 hb
  have h1 := heap_setCell_same _ bo 1 _ 28 v1 h0
  have h2 := heap_setCell_same _ bo 2 _ 28 v2 h1
  have h3 := heap_setCell_same _ bo 3 _ 28 v3 h2
  have h4 := heap_setCell_same _ bo 4 _ 28 v4 h3
  have h5 := heap_setCell_same _ bo 5 _ 28 v5 h4
  have h6 := heap_setCell_same _ bo 6 _ 28 v6 h5
  have hB := (((((((Below.refl 0 W).setCell (p := ⟨bo, 0, none⟩) (Nat.zero_le _) v0).setCell (p := ⟨bo, 1, none⟩) (Nat.zero_le _) v1).setCell (p := ⟨bo, 2, none⟩) (Nat.zero_le _) v2).setCell (p := ⟨bo, 3, none⟩) (Nat.zero_le _) v3).setCell (p := ⟨bo, 4, none⟩) (Nat.zero_le _) v4).setCell (p := ⟨bo, 5, none⟩) (Nat.zero_le _) v5).setCell (p := ⟨bo, 6, none⟩) (Nat.zero_le _) v6
  refine ⟨?_, fun k hk hne => ?_, hB.os, hB.tape, hB.output, hB.size, (Array.getElem?_eq_some_iff.1 hb).1, fun p hp => (by cases hp), fun p hp => (by cases hp), List.Pairwise.nil⟩
  · rw [h6]; simp
  · rw [Below.heap_setCell _ _ _ _ hne, Below.heap_setCell _ _ _ _ hne, Below.heap_setCell _ _ _ _ hne, Below.heap_setCell _ _ _ _ hne, Below.heap_setCell _ _ _ _ hne, Below.heap_setCell _ _ _ _ hne, Below.heap_setCell _ _ _ _ hne]

theorem splice_whole (Z cs : List Value) (h : Z.length = cs.length) : splice Z 0 cs = cs := by
  unfold splice
  rw [List.take_zero, List.nil_append, Nat.zero_add, List.drop_eq_nil_of_le (by omega), List.append_nil]

theorem strs_one (ss : List ByteArray) : ∀ v ∈ strs ss, v.oneCell' = true := by
  intro v hv
  obtain ⟨s, _, rfl⟩ := List.mem_map.1 hv
  rfl

/-- What is known where the copy is made: the field's new slice, the source's, the new row, the source's row. -/
structure Ready (w2 : World) (bi bo N g j : Nat) (ss : List ByteArray) : Prop where
  dst : w2.cell? ⟨bo, j, none⟩ = some (.slice (some ⟨N, 0, none⟩) ss.length ss.length)
  src : w2.cell? ⟨bi, j, none⟩ = some (.slice (some ⟨g, 0, none⟩) ss.length ss.length)
  row : w2.heap[N]? = some (.cells (List.replicate ss.length (.string ByteArray.empty)).toArray 9 (0, 0))
  from_ : ∀ i v, (strs ss)[i]? = some v → w2.cell? ((⟨g, 0, none⟩ : Addr).add i) = some v

theorem ready_of {W wc w1 : World} {bi bo g : Nat} {rest : List Value} {us : List Lst} {v : Value} {ss : List ByteArray} {q : Nat} (HD : Dc W bo (v :: rest) us wc) (hg1 : (wc.drewN q).grownBy w1 none)
    (ho1 : w1.ownsRow wc.heap.size 9 1 (.slice (some ⟨wc.heap.size, 0, none⟩) ss.length ss.length) ss.length (madeCells (Value.string ByteArray.empty).cells (ss.length * 1)).toList)
    (hg : W.heap[g]? = some (.cells (strs ss).toArray 9 (0, 0))) (hbo : W.heap[bo]? ≠ W.heap[g]?) (hbi : bi < W.heap.size) (hne : bi ≠ bo) (hic : W.cell? ⟨bi, us.length, none⟩ = some (.slice (some ⟨g, 0, none⟩) ss.length ss.length)) :
    Ready (w1.setCell ⟨bo, us.length, none⟩ (.slice (some ⟨wc.heap.size, 0, none⟩) ss.length ss.length)) bi bo wc.heap.size g us.length ss := by
  have hbo' : bo < wc.heap.size := Nat.lt_of_lt_of_le HD.bolt HD.size
  have hgo : g ≠ bo := fun e => hbo (by rw [e])
  have hgl : g < W.heap.size := (Array.getElem?_eq_some_iff.1 hg).1
  have hb1 : w1.heap[bo]? = some (.cells (us.map Lst.val ++ v :: rest).toArray 28 (0, 0)) := by
    rw [hg1.block bo hbo' (by simp)]; exact HD.box
  have hold : ∀ k, k < wc.heap.size → k ≠ bo → (w1.setCell ⟨bo, us.length, none⟩ (.slice (some ⟨wc.heap.size, 0, none⟩) ss.length ss.length)).heap[k]? = wc.heap[k]? := by
    intro k hk hne
    rw [Below.heap_setCell _ _ _ _ (by simpa using hne)]
    exact hg1.block k hk (by simp)
  have hz9 : (madeCells (Value.string ByteArray.empty).cells (ss.length * 1)).toList = List.replicate ss.length (.string ByteArray.empty) := by rw [Nat.mul_one]; exact toList_madeCells_one _ _
  rw [hz9] at ho1
  refine ⟨?_, ?_, ?_, ?_⟩
  · rw [cell_of_row _ bo us.length _ 28 (0, 0) (heap_setCell_same w1 bo us.length _ 28 _ hb1)]
    simp
  · rw [← hic]
    have h1 : bi < wc.heap.size := Nat.lt_of_lt_of_le hbi HD.size
    exact World.cell?_of_block (w := W) ((hold bi h1 hne).trans (HD.old bi hbi hne))
  · have hN : wc.heap.size ≠ bo := by omega
    rw [Below.heap_setCell _ _ _ _ (by simpa using hN)]
    rcases ho1.2 with ⟨h0, _⟩ | ⟨g', cap, cur, hv, hb, hgg, h1, h2, h3, h4⟩
    · cases h0
    · injection hv with e1 e2 e3
      injection e1 with e1
      injection e1 with e1
      subst e1 e3
      rw [hgg]
      have : cur.toList = List.replicate ss.length (.string ByteArray.empty) := by rw [← h4, List.take_of_length_le (by simp; omega)]
      rw [← this]
  · intro i u hu
    have e : (⟨g, 0, none⟩ : Addr).add i = ⟨g, i, none⟩ := by unfold Addr.add; split <;> simp_all
    rw [e]
    have hgw : (w1.setCell ⟨bo, us.length, none⟩ (.slice (some ⟨wc.heap.size, 0, none⟩) ss.length ss.length)).heap[g]? = some (.cells (strs ss).toArray 9 (0, 0)) := by
      rw [hold g (Nat.lt_of_lt_of_le hgl HD.size) hgo, HD.old g hgl hgo]; exact hg
    rw [cell_of_row _ g i _ 9 (0, 0) hgw]
    simpa using hu
end Go.Proofs.Qxb6000365aMods
