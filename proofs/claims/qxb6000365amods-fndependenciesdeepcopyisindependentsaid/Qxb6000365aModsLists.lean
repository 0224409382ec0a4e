import Derived.Test.Qxb6000365aModsSmall
import Derived.Test.Qxb6000365aModsCopy
namespace Go.Proofs.Qxb6000365aMods
open Go.RowKit

/-- The lists that the call has made so far: each in a row of its own, from W0's end on; nothing that was there has turned. -/
structure Bag (W0 : World) (L : List Lst) (w : World) : Prop where
  bel : Below W0.heap.size W0 w
  row : ∀ p ∈ L, VRow w p.ao p.ss
  fresh : ∀ p ∈ L, ∀ g, p.ao = some ⟨g, 0, none⟩ → W0.heap.size ≤ g
  apart : L.Pairwise Apart

theorem Bag.start (W0 : World) : Bag W0 [] W0 := ⟨Below.refl _ _, fun p hp => (by cases hp), fun p hp => (by cases hp), List.Pairwise.nil⟩

theorem Bag.below {W0 w w' : World} {L : List Lst} (h : Bag W0 L w) (hb : Below w.heap.size w w') : Bag W0 L w' :=
  ⟨h.bel.trans (hb.mono h.bel.size), fun p hp => (h.row p hp).below hb, h.fresh, h.apart⟩

theorem Bag.alloc {W0 w : World} {L : List Lst} (h : Bag W0 L w) (o : Obj) : Bag W0 L (w.alloc o) := h.below ((Below.refl _ _).alloc (Nat.le_refl _) o)

theorem bag_clone {W0 w : World} {L : List Lst} (hb : Bag W0 L w) (ao : Option Addr) (cap : Nat) (ss : List ByteArray) (hs : Src w ao ss) (hl : ss.length ≤ 65536) :
    Calls Trym.prog 11 #[.slice ao ss.length cap] w fun e w' => ∃ x, e = .returned (.slice x ss.length ss.length) ∧ (x = none ↔ ao = none) ∧ Bag W0 (⟨x, ss⟩ :: L) w' ∧ Below w.heap.size w w' := by
  refine (clone_any ao cap ss w hs hl).mono ?_
  rintro e w' ⟨x, rfl, hx, hv, hbel, hf⟩
  refine ⟨x, rfl, hx, ⟨(hb.below hbel).bel, ?_, ?_, ?_⟩, hbel⟩
  · intro p hp
    rcases List.mem_cons.1 hp with rfl | h1
    · exact hv
    · exact (hb.row p h1).below hbel
  · intro p hp g hg
    rcases List.mem_cons.1 hp with rfl | h1
    · exact Nat.le_trans hb.bel.size (hf g hg)
    · exact hb.fresh p h1 g hg
  · refine List.Pairwise.cons ?_ hb.apart
    intro p hp g hg hpg
    have h1 := hf g hg
    have h2 := ((hb.row p hp).lt hpg).1
    omega

/-- A list of the call's own reads as it did behind the deep copy. -/
theorem Dc.keep {W w : World} {bo : Nat} {rest : List Value} {us : List Lst} {os : Array Value} (h : Dc W bo rest us w) (ho : W.heap[bo]? = some (.cells os 28 (0, 0))) {ao : Option Addr} {ss : List ByteArray} (hv : VRow W ao ss) : VRow w ao ss := by
  rcases hv with h0 | ⟨g, hg, hh⟩
  · exact Or.inl h0
  · refine Or.inr ⟨g, hg, ?_⟩
    rw [h.old g (Array.getElem?_eq_some_iff.1 hh).1 (fun e => by rw [e, ho] at hh; simp at hh)]
    exact hh

theorem Dc.below {W w W0 : World} {bo : Nat} {rest : List Value} {us : List Lst} (h : Dc W bo rest us w) (hb : Below W0.heap.size W0 W) (hbo : W0.heap.size ≤ bo) : Below W0.heap.size W0 w := by
  have hs := hb.size
  refine ⟨h.os.trans hb.os, h.tape.trans hb.tape, h.output.trans hb.output, Nat.le_trans hb.size h.size, fun k hk => ?_⟩
  rw [h.old k (by omega) (by omega)]
  exact hb.block k hk

/-- The seven lists, three times over. -/
def Seven (w : World) (bg bk bw : Nat) : Prop := ∀ k, k < 7 → ∃ (u x y : Option Addr) (ss : List ByteArray),
  w.cell? ⟨bg, k, none⟩ = some (.slice u ss.length ss.length) ∧ w.cell? ⟨bk, k, none⟩ = some (.slice x ss.length ss.length) ∧ w.cell? ⟨bw, k, none⟩ = some (.slice y ss.length ss.length) ∧
  Src w u ss ∧ Src w x ss ∧ Src w y ss ∧ (u = none ↔ y = none) ∧ (x = none ↔ y = none) ∧ ss.length ≤ 65536

end Go.Proofs.Qxb6000365aMods
