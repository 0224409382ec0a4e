/- WHAT toV1 HAS LAID, STEP BY STEP: the new row of templates (four cells each), and the rows of containers that it leads to. Nothing of the program's walk stands here. -/
import Derived.Test.Qxb6601458aModsData
import Derived.Deep.OwnRows
namespace Go.Proofs.Qxb6601458aMods
open Go.RowKit

/-- A row of containers that the call itself has made, between two marks of the heap. -/
def CNew (lo hi : Nat) (w : World) (u : Option Addr) (m : Nat) (C : Nat → Ct) : Prop :=
  (u = none ∧ m = 0) ∨ ∃ h, u = some ⟨h, 0, none⟩ ∧ lo < h ∧ h < hi ∧ ∀ j, j < m → CAt w h (j * 4) (C j)

theorem cat_of_block {w w' : World} {b o : Nat} {c : Ct} (h : CAt w b o c) (e : w'.heap[b]? = w.heap[b]?) : CAt w' b o c :=
  ⟨(World.cell?_of_block (w := w) (a := ⟨b, o, none⟩) e).trans h.1, (World.cell?_of_block (w := w) (a := ⟨b, o + 1, none⟩) e).trans h.2.1, (World.cell?_of_block (w := w) (a := ⟨b, o + 2, none⟩) e).trans h.2.2.1, (World.cell?_of_block (w := w) (a := ⟨b, o + 3, none⟩) e).trans h.2.2.2⟩

theorem CNew.keep {lo hi hi' : Nat} {w w' : World} {u : Option Addr} {m : Nat} {C : Nat → Ct} (h : CNew lo hi w u m C) (hh : hi ≤ hi') (e : ∀ b, lo < b → b < hi → w'.heap[b]? = w.heap[b]?) : CNew lo hi' w' u m C := by
  rcases h with h | ⟨g, h1, h2, h3, h4⟩
  · exact Or.inl h
  · exact Or.inr ⟨g, h1, h2, by omega, fun j hj => cat_of_block (h4 j hj) (e g h2 h3)⟩

theorem CNew.src {lo : Nat} {w : World} {u : Option Addr} {m : Nat} {C : Nat → Ct} (h : CNew lo w.heap.size w u m C) : CSrc w u m C := by
  rcases h with ⟨h1, h2⟩ | ⟨g, h1, h2, h3, h4⟩
  · exact ⟨fun _ => h2, fun h => by omega⟩
  · subst h1
    exact ⟨fun h => (by cases h), fun _ => ⟨g, 0, rfl, h3, fun j hj => by rw [Nat.zero_add]; exact h4 j hj⟩⟩

/-- The cells of one template in the new row. -/
def FAt (F : Nat → Value) (o : Nat) (t : Tm) (u : Option Addr) : Prop :=
  F o = .string t.ver ∧ F (o + 1) = .string t.ann ∧ F (o + 2) = .slice u t.cn t.cn ∧ F (o + 3) = .string t.vol

/-- The first k templates are laid. -/
structure Tv (w : World) (n k : Nat) (T : Nat → Tm) (U : Nat → Option Addr) (wr : World) : Prop where
  row : ∃ F, wr.rowIs w.heap.size 34 (n * 4) F ∧ (∀ j, k ≤ j → j < n → F (j * 4 + 2) = .slice none 0 0) ∧ ∀ j, j < k → FAt F (j * 4) (T j) (U j)
  each : ∀ j, j < k → CNew w.heap.size wr.heap.size wr (U j) (T j).cn (T j).ct ∧ (U j = none ↔ (T j).ca = none)
  below : Below w.heap.size w wr

/-- .. and the strings of the next one; H marks the heap's end where they were laid. -/
structure Mid (w : World) (n k : Nat) (T : Nat → Tm) (U : Nat → Option Addr) (H : Nat) (wr : World) : Prop where
  lt : w.heap.size < H
  row : ∃ F, wr.rowIs w.heap.size 34 (n * 4) F ∧ (∀ j, k ≤ j → j < n → F (j * 4 + 2) = .slice none 0 0) ∧ (∀ j, j < k → FAt F (j * 4) (T j) (U j)) ∧ F (k * 4) = .string (T k).ver ∧ F (k * 4 + 1) = .string (T k).ann ∧ F (k * 4 + 3) = .string (T k).vol
  each : ∀ j, j < k → CNew w.heap.size H wr (U j) (T j).cn (T j).ct ∧ (U j = none ↔ (T j).ca = none)
  below : Below w.heap.size w wr

/-- A row's content behind a store. -/
def upd (F : Nat → Value) (i : Nat) (v : Value) : Nat → Value := fun j => if j = i then v else F j
theorem upd_same (F : Nat → Value) (i : Nat) (v : Value) : upd F i v i = v := if_pos rfl
theorem upd_other (F : Nat → Value) {i j : Nat} (v : Value) (h : j ≠ i) : upd F i v j = F j := if_neg h

theorem block_setCell (w : World) (a : Addr) (v : Value) (b : Nat) (h : b ≠ a.block) : (w.setCell a v).heap[b]? = w.heap[b]? := Deep.blk_setCell_other _ _ _ _ h

theorem Tv.mid {w wr : World} {n k : Nat} {T : Nat → Tm} {U : Nat → Option Addr} (h : Tv w n k T U wr) {t : Tm} (ht : T k = t) :
    Mid w n k T U wr.heap.size (((wr.setCell ⟨w.heap.size, k * 4, none⟩ (.string t.ver)).setCell ⟨w.heap.size, k * 4 + 1, none⟩ (.string t.ann)).setCell ⟨w.heap.size, k * 4 + 3, none⟩ (.string t.vol)) := by
  subst ht
  obtain ⟨F, h1, h2, h3⟩ := h.row
  refine ⟨h1.lt, ⟨upd (upd (upd F (k * 4) (.string (T k).ver)) (k * 4 + 1) (.string (T k).ann)) (k * 4 + 3) (.string (T k).vol), ((h1.set (k * 4) (.string (T k).ver)).set (k * 4 + 1) (.string (T k).ann)).set (k * 4 + 3) (.string (T k).vol), ?_, ?_, ?_, ?_, ?_⟩, ?_, ?_⟩
  · intro j hj hjn
    rw [upd_other _ _ (by omega), upd_other _ _ (by omega), upd_other _ _ (by omega)]
    exact h2 j hj hjn
  · intro j hj
    obtain ⟨e0, e1, e2, e3⟩ := h3 j hj
    refine ⟨?_, ?_, ?_, ?_⟩ <;> rw [upd_other _ _ (by omega), upd_other _ _ (by omega), upd_other _ _ (by omega)] <;> assumption
  · rw [upd_other _ _ (by omega), upd_other _ _ (by omega), upd_same]
  · rw [upd_other _ _ (by omega), upd_same]
  · rw [upd_same]
  · intro j hj
    obtain ⟨c1, c2⟩ := h.each j hj
    refine ⟨c1.keep (Nat.le_refl _) (fun b hb _ => ?_), c2⟩
    rw [block_setCell _ _ _ _ (by simp; omega), block_setCell _ _ _ _ (by simp; omega), block_setCell _ _ _ _ (by simp; omega)]
  · exact ((h.below.setCell (p := ⟨w.heap.size, k * 4, none⟩) (Nat.le_refl _) _).setCell (p := ⟨w.heap.size, k * 4 + 1, none⟩) (Nat.le_refl _) _).setCell (p := ⟨w.heap.size, k * 4 + 3, none⟩) (Nat.le_refl _) _

/-- Something has been laid from H on: nothing of this turns. -/
theorem Mid.keep {w wr wr' : World} {n k H : Nat} {T : Nat → Tm} {U : Nat → Option Addr} (h : Mid w n k T U H wr) (hb : Below H wr wr') : Mid w n k T U H wr' := by
  obtain ⟨F, h1, h2⟩ := h.row
  refine ⟨h.lt, ⟨F, h1.of_block (hb.block _ h.lt), h2⟩, fun j hj => ?_, h.below.trans (hb.mono (Nat.le_of_lt h.lt))⟩
  obtain ⟨c1, c2⟩ := h.each j hj
  exact ⟨c1.keep (Nat.le_refl _) (fun b _ hb2 => hb.block b hb2), c2⟩

/-- The template had no containers. -/
theorem Mid.none_ {w wr : World} {n k H : Nat} {T : Nat → Tm} {U : Nat → Option Addr} (h : Mid w n k T U H wr) (hk : k < n) (hH : H ≤ wr.heap.size) (ha : (T k).ca = none) (hc : (T k).cn = 0) :
    Tv w n (k + 1) T (fun j => if j = k then none else U j) wr := by
  obtain ⟨F, h1, h2, h3, h4, h5, h6⟩ := h.row
  refine ⟨⟨F, h1, fun j hj hjn => h2 j (by omega) hjn, fun j hj => ?_⟩, fun j hj => ?_, h.below⟩
  · by_cases e : j = k
    · subst e
      rw [if_pos rfl]
      exact ⟨h4, h5, by rw [h2 j (Nat.le_refl _) hk, hc], h6⟩
    · rw [if_neg e]
      exact h3 j (by omega)
  · by_cases e : j = k
    · subst e
      rw [if_pos rfl]
      exact ⟨Or.inl ⟨rfl, hc⟩, by simp [ha]⟩
    · rw [if_neg e]
      obtain ⟨c1, c2⟩ := h.each j (by omega)
      exact ⟨c1.keep hH (fun b _ _ => rfl), c2⟩

/-- The containers' row under way. -/
structure Inn (w : World) (n k : Nat) (T : Nat → Tm) (U : Nat → Option Addr) (H m : Nat) (wr : World) : Prop where
  mid : Mid w n k T U H wr
  row : ∃ F, wr.rowIs H 48 ((T k).cn * 4) F ∧ ∀ j, j < m → F (j * 4) = .string ((T k).ct j).p ∧ F (j * 4 + 1) = .string ((T k).ct j).n ∧ F (j * 4 + 2) = .string ((T k).ct j).e ∧ F (j * 4 + 3) = .string ((T k).ct j).v

theorem Mid.start {w wr : World} {n k : Nat} {T : Nat → Tm} {U : Nat → Option Addr} (h : Mid w n k T U wr.heap.size wr) (c : Array Value) (hc : c.size = (T k).cn * 4) : Inn w n k T U wr.heap.size 0 (wr.alloc (.cells c 48)) := by
  refine ⟨h.keep ((Below.refl _ _).alloc (Nat.le_refl _) _), ?_⟩
  have := World.rowIs_alloc wr c 48 (fun i => c.getD i undef) (fun i hi => by simp [hi])
  rw [hc] at this
  exact ⟨_, this, fun j hj => by omega⟩

theorem Inn.step {w wr : World} {n k H m : Nat} {T : Nat → Tm} {U : Nat → Option Addr} (h : Inn w n k T U H m wr) {c : Ct} (hc : (T k).ct m = c) :
    Inn w n k T U H (m + 1) ((((wr.setCell ⟨H, m * 4, none⟩ (.string c.p)).setCell ⟨H, m * 4 + 1, none⟩ (.string c.n)).setCell ⟨H, m * 4 + 2, none⟩ (.string c.e)).setCell ⟨H, m * 4 + 3, none⟩ (.string c.v)) := by
  subst hc
  obtain ⟨F, h1, h2⟩ := h.row
  refine ⟨h.mid.keep (((((Below.refl H wr).setCell (p := ⟨H, m * 4, none⟩) (Nat.le_refl _) _).setCell (p := ⟨H, m * 4 + 1, none⟩) (Nat.le_refl _) _).setCell (p := ⟨H, m * 4 + 2, none⟩) (Nat.le_refl _) _).setCell (p := ⟨H, m * 4 + 3, none⟩) (Nat.le_refl _) _),
    upd (upd (upd (upd F (m * 4) (.string ((T k).ct m).p)) (m * 4 + 1) (.string ((T k).ct m).n)) (m * 4 + 2) (.string ((T k).ct m).e)) (m * 4 + 3) (.string ((T k).ct m).v), (((h1.set (m * 4) (.string ((T k).ct m).p)).set (m * 4 + 1) (.string ((T k).ct m).n)).set (m * 4 + 2) (.string ((T k).ct m).e)).set (m * 4 + 3) (.string ((T k).ct m).v), fun j hj => ?_⟩
  by_cases e : j = m
  · subst e
    refine ⟨?_, ?_, ?_, ?_⟩
    · rw [upd_other _ _ (by omega), upd_other _ _ (by omega), upd_other _ _ (by omega), upd_same]
    · rw [upd_other _ _ (by omega), upd_other _ _ (by omega), upd_same]
    · rw [upd_other _ _ (by omega), upd_same]
    · rw [upd_same]
  · obtain ⟨e0, e1, e2, e3⟩ := h2 j (by omega)
    refine ⟨?_, ?_, ?_, ?_⟩ <;> rw [upd_other _ _ (by omega), upd_other _ _ (by omega), upd_other _ _ (by omega), upd_other _ _ (by omega)] <;> assumption

theorem Inn.laid {w wr : World} {n k H : Nat} {T : Nat → Tm} {U : Nat → Option Addr} (h : Inn w n k T U H (T k).cn wr) (hk : k < n) (ha : (T k).ca ≠ none) :
    Tv w n (k + 1) T (fun j => if j = k then some ⟨H, 0, none⟩ else U j) (wr.setCell ⟨w.heap.size, k * 4 + 2, none⟩ (.slice (some ⟨H, 0, none⟩) (T k).cn (T k).cn)) := by
  obtain ⟨F, h1, h2, h3, h4, h5, h6⟩ := h.mid.row
  obtain ⟨E, g1, g2⟩ := h.row
  have hH := h.mid.lt
  refine ⟨⟨upd F (k * 4 + 2) (.slice (some ⟨H, 0, none⟩) (T k).cn (T k).cn), h1.set (k * 4 + 2) _, fun j hj hjn => ?_, fun j hj => ?_⟩, fun j hj => ?_, h.mid.below.setCell (p := ⟨w.heap.size, k * 4 + 2, none⟩) (Nat.le_refl _) _⟩
  · rw [upd_other _ _ (by omega)]
    exact h2 j (by omega) hjn
  · by_cases e : j = k
    · subst e
      rw [if_pos rfl]
      refine ⟨?_, ?_, ?_, ?_⟩
      · rw [upd_other _ _ (by omega)]; exact h4
      · rw [upd_other _ _ (by omega)]; exact h5
      · rw [upd_same]
      · rw [upd_other _ _ (by omega)]; exact h6
    · rw [if_neg e]
      obtain ⟨e0, e1, e2, e3⟩ := h3 j (by omega)
      refine ⟨?_, ?_, ?_, ?_⟩ <;> rw [upd_other _ _ (by omega)] <;> assumption
  · have hs : (wr.setCell ⟨w.heap.size, k * 4 + 2, none⟩ (.slice (some ⟨H, 0, none⟩) (T k).cn (T k).cn)).heap.size = wr.heap.size := by simp
    have hHl : H < wr.heap.size := g1.lt
    by_cases e : j = k
    · subst e
      rw [if_pos rfl, hs]
      refine ⟨Or.inr ⟨H, rfl, hH, hHl, fun i hi => ?_⟩, by simp [ha]⟩
      refine cat_of_block (w := wr) ?_ (block_setCell _ _ _ _ (by simp; omega))
      obtain ⟨e0, e1, e2, e3⟩ := g2 i hi
      exact ⟨by rw [g1.cell (by omega), e0], by rw [g1.cell (by omega), e1], by rw [g1.cell (by omega), e2], by rw [g1.cell (by omega), e3]⟩
    · rw [if_neg e, hs]
      obtain ⟨c1, c2⟩ := h.mid.each j (by omega)
      exact ⟨c1.keep (by omega) (fun b hb _ => block_setCell _ _ _ _ (by simp; omega)), c2⟩

/-- The start. -/
theorem tv_start (w : World) (n : Nat) (T : Nat → Tm) (c : Array Value) (hc : c.size = n * 4) (h2 : ∀ j, j < n → c[j * 4 + 2]? = some (.slice none 0 0)) : Tv w n 0 T (fun _ => none) (w.alloc (.cells c 34)) := by
  have := World.rowIs_alloc w c 34 (fun i => c.getD i undef) (fun i hi => by simp [hi])
  rw [hc] at this
  refine ⟨⟨_, this, fun j _ hj => ?_, fun j hj => by omega⟩, fun j hj => by omega, (Below.refl _ _).alloc (Nat.le_refl _) _⟩
  have h := h2 j hj
  show c.getD (j * 4 + 2) undef = _
  rw [Array.getD_eq_getD_getElem?, h]
  rfl

/-- What is laid is a slice of templates again. -/
theorem Tv.src {w wr : World} {n : Nat} {T : Nat → Tm} {U : Nat → Option Addr} (h : Tv w n n T U wr) (hs : ∀ j, j < n → (T j).cn ≤ maxLen) : TSrc wr (some ⟨w.heap.size, 0, none⟩) n (fun j => ⟨(T j).ver, (T j).ann, (T j).vol, U j, (T j).cn, (T j).cn, (T j).ct⟩) := by
  obtain ⟨F, h1, _, h3⟩ := h.row
  refine ⟨fun h => (by cases h), fun _ => ⟨w.heap.size, 0, rfl, h1.lt, fun j hj => ?_⟩⟩
  obtain ⟨e0, e1, e2, e3⟩ := h3 j hj
  rw [Nat.zero_add]
  exact ⟨by rw [h1.cell (by omega), e0], by rw [h1.cell (by omega), e1], by rw [h1.cell (by omega), e2], by rw [h1.cell (by omega), e3], (h.each j hj).1.src, hs j hj⟩

end Go.Proofs.Qxb6601458aMods
