/- LISTS OF STRINGS IN MEMORY, PLAIN: what a slice of strings that came in holds ('Src'), what a list that the call itself made holds ('VRow': a nil slice, or a row of its own), and a bag of such lists that lie apart. Nothing of the program stands here. -/
import Derived.WalkKit
import Derived.Below
import Derived.Deep.AppendLies
namespace Go.Proofs.Qxb6600077aMods
open Go.RowKit

def strs (ss : List ByteArray) : List Value := ss.map Value.string

/-- A slice of strings that is read: its elements are ss. -/
structure Src (w : World) (ao : Option Addr) (ss : List ByteArray) : Prop where
  nil : ao = none → ss = []
  row : ss ≠ [] → ∃ b o, ao = some ⟨b, o, none⟩ ∧ b < w.heap.size ∧ ∀ j (hj : j < ss.length), w.cell? ⟨b, o + j, none⟩ = some (.string ss[j])

/-- A list that the call itself made: nil, or the whole of a row. -/
def VRow (w : World) (ao : Option Addr) (ss : List ByteArray) : Prop :=
  (ao = none ∧ ss = []) ∨ ∃ g, ao = some ⟨g, 0, none⟩ ∧ w.heap[g]? = some (.cells (strs ss).toArray 9 (0, 0))

theorem strs_len (ss : List ByteArray) : (strs ss).length = ss.length := by simp [strs]

theorem VRow.below {w w' : World} {ao : Option Addr} {ss : List ByteArray} (h : VRow w ao ss) (hb : Below w.heap.size w w') : VRow w' ao ss := by
  rcases h with h | ⟨g, hv, hg⟩
  · exact Or.inl h
  · exact Or.inr ⟨g, hv, by rw [hb.block g (Array.getElem?_eq_some_iff.1 hg).1]; exact hg⟩

theorem VRow.lt {w : World} {ao : Option Addr} {ss : List ByteArray} (h : VRow w ao ss) {g : Nat} {o : Nat} (hg : ao = some ⟨g, o, none⟩) : g < w.heap.size ∧ o = 0 := by
  rcases h with ⟨h, _⟩ | ⟨g', hv, hh⟩
  · rw [h] at hg; cases hg
  · rw [hv] at hg
    injection hg with hg
    injection hg with h1 h2
    subst h1 h2
    exact ⟨(Array.getElem?_eq_some_iff.1 hh).1, rfl⟩

theorem VRow.src {w : World} {ao : Option Addr} {ss : List ByteArray} (h : VRow w ao ss) : Src w ao ss := by
  rcases h with ⟨h, h0⟩ | ⟨g, hv, hg⟩
  · exact ⟨fun _ => h0, fun hne => absurd h0 hne⟩
  · subst hv
    refine ⟨fun h => (by cases h), fun hne => ⟨g, 0, rfl, (Array.getElem?_eq_some_iff.1 hg).1, fun j hj => ?_⟩⟩
    rw [Nat.zero_add, cell_of_row w g j _ 9 (0, 0) hg]
    simp [strs, hj]

theorem Src.below {w w' : World} {ao : Option Addr} {ss : List ByteArray} (h : Src w ao ss) (hb : Below w.heap.size w w') : Src w' ao ss := by
  refine ⟨h.nil, fun hne => ?_⟩
  obtain ⟨b, o, h1, h2, h3⟩ := h.row hne
  exact ⟨b, o, h1, Nat.lt_of_lt_of_le h2 hb.size, fun j hj => (hb.cell (p := ⟨b, o + j, none⟩) h2).trans (h3 j hj)⟩

/-- From 'ownsRow' at full capacity to the whole row. -/
theorem VRow.of_own {w : World} {B g n : Nat} {ss : List ByteArray} (h : w.ownsRow B 9 1 (.slice (some ⟨g, 0, none⟩) n n) n (strs ss)) : VRow w (some ⟨g, 0, none⟩) ss := by
  rcases h.2 with ⟨h0, _⟩ | ⟨g', cap, cur, hv, hb, hg, h1, h2, h3, h4⟩
  · cases h0
  · injection hv with e1 e2 e3
    injection e1 with e1
    injection e1 with e1
    subst e1 e3
    refine Or.inr ⟨g, rfl, ?_⟩
    rw [hg]
    have : cur.toList = strs ss := by rw [← h4, List.take_of_length_le (by simp; omega)]
    rw [← this]

theorem VRow.own {w : World} {g : Nat} {ss : List ByteArray} (hg : w.heap[g]? = some (.cells (strs ss).toArray 9 (0, 0))) (hm : ss.length ≤ maxLen) : w.ownsRow g 9 1 (.slice (some ⟨g, 0, none⟩) ss.length ss.length) ss.length (strs ss) := by
  refine ⟨by rw [strs_len, Nat.mul_one], Or.inr ⟨g, ss.length, (strs ss).toArray, rfl, Nat.le_refl _, hg, Nat.le_refl _, hm, by simp [strs], ?_⟩⟩
  rw [Nat.mul_one, List.take_of_length_le (by simp [strs])]

theorem own_copy {w : World} {B g n cap k : Nat} {ss : List ByteArray} (hn : ss.length = n) (hk : k < n)
    (h : w.ownsRow B 9 1 (.slice (some ⟨g, 0, none⟩) n cap) n (strs (ss.take k) ++ List.replicate (n - k) (.string ByteArray.empty))) :
    (w.setCell ⟨g, k, none⟩ (.string (ss[k]'(by omega)))).ownsRow B 9 1 (.slice (some ⟨g, 0, none⟩) n cap) n (strs (ss.take (k + 1)) ++ List.replicate (n - (k + 1)) (.string ByteArray.empty)) := by
  have h2 := (h.stored k (.string (ss[k]'(by omega)))).1
  have e : (strs (ss.take k) ++ List.replicate (n - k) (Value.string ByteArray.empty)).set k (Value.string (ss[k]'(by omega))) = strs (ss.take (k + 1)) ++ List.replicate (n - (k + 1)) (Value.string ByteArray.empty) := by
    have e1 : n - k = (n - (k + 1)) + 1 := by omega
    have hl : (strs (ss.take k)).length = k := by rw [strs_len, List.length_take]; omega
    rw [List.set_append_right _ _ (by omega), hl, Nat.sub_self, e1, List.replicate_succ, List.set_cons_zero]
    unfold strs
    rw [List.take_succ_eq_append_getElem (by omega), List.map_append, List.append_assoc]
    rfl
  rw [e] at h2
  exact h2

end Go.Proofs.Qxb6600077aMods
