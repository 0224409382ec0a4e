/- A SLICE OF BYTES THAT A CALL APPENDS TO, BESIDE ONE BLOCK OF THE CALL's OWN (its boxed struct): one predicate, and a law for each kind of append that hands it on. -/
import Derived.Lib.AppendStr
import Derived.Maps.AppendAt
import Derived.Below
import Derived.WalkKit
namespace Go.Proofs.Qxb6000083aMods
open Go.RowKit Go.Lib

section
variable {P : Program} (w : World)

/-- 'run_append_own_string', and where the new slice lies. -/
theorem run_append_string_at (base : Nat) (t u ty e : TypeId) (i : TypeInfo) (ht : P.underlying t = some (.slice e)) (hu : P.underlying u = some .string) (hi : P.info? e = some i) (hz : i.zero = some (.int .u8 0))
    (hsize : i.size = 1) (hby : i.bytes = 1)
    (v : Value) (n : Nat) (xs : List Value) (hown : w.ownsRow base e 1 v n xs) (s : ByteArray)
    (h63 : n + s.size ≤ maxLen) (hbytes : n + s.size ≤ 140737488355328) (hbase : base ≤ w.heap.size) :
    ∃ v' w', (Builtin.append_ #[t, u] ty #[v, .string s]).run P w = .ok v' w' ∧ w'.ownsRow base e 1 v' (n + s.size) (xs ++ strCells s) ∧ w.grownBy w' v.ownBlock ∧
      (v'.ownBlock = v.ownBlock ∨ v'.ownBlock = some w.heap.size) := by
  have hsmall : n + s.size ≤ 9223372036854775807 := by simp only [maxLen] at h63; omega
  obtain ⟨v', w', hr, ho, hg, hn⟩ := run_append_own_string (P := P) w base t u ty e i ht hu hi hz hsize hby v n xs hown s h63 hbytes hbase
  refine ⟨v', w', hr, ho, hg, ?_⟩
  rcases hown.2 with ⟨rfl, rfl⟩ | ⟨g, cap, cur, rfl, hbg, hgg, hnc, hcm, hcs, htake⟩
  · by_cases hm : s.size = 0
    · exact Or.inl (by rw [hn.2 ⟨rfl, hm⟩])
    · have hr2 := run_append_nil_string (P := P) w t u ty e i (.int .u8 0) ht hu hi hz s (by omega) (by omega) (by rw [hby]; omega)
      rw [hr] at hr2
      injection hr2 with h1 h2
      rw [h1]
      exact Or.inr rfl
  · by_cases hroom : n + s.size ≤ cap
    · have hr2 := run_append_room_string (P := P) w t u ty e i ht hu hi hsize g n cap cur hgg s hroom (by simp at hcs; omega)
      rw [hr] at hr2
      injection hr2 with h1 h2
      rw [h1]
      exact Or.inl rfl
    · have hxl : xs.length = n := by simpa using hown.1
      have holds : ∀ j u, xs[j]? = some u → w.cell? ((⟨g, 0, none⟩ : Addr).add j) = some u := hown.cells (g := g) rfl
      have hr2 := run_append_grow_string (P := P) w t u ty e i (.int .u8 0) ht hu hi hz ⟨g, 0, none⟩ n cap xs (by rw [hsize]; simpa using hxl) holds s (by omega) (by omega) (by rw [hby]; exact growslice_fits (by omega) (by omega))
      rw [hr] at hr2
      injection hr2 with h1 h2
      rw [h1]
      exact Or.inr rfl
end

/-- In w the slice v owns the n cells xs, in a block from B on; but for 'row' (the row in which the slice lay at the start) all that was there in W0 is as it was; the call's own box, number 'W0.heap.size', holds 'box'; the slice lies in 'row' or behind the box. -/
structure Buf (W0 : World) (B : Nat) (row : Option Nat) (box : Obj) (v : Value) (n : Nat) (xs : List Value) (w : World) : Prop where
  own : w.ownsRow B 5 1 v n xs
  grown : W0.grownBy w row
  size : W0.heap.size < w.heap.size
  base : B ≤ W0.heap.size
  low : ∀ k, row = some k → k < W0.heap.size
  box : w.heap[W0.heap.size]? = some box
  lies : v.ownBlock = row ∨ ∃ k, v.ownBlock = some k ∧ W0.heap.size < k

theorem Buf.start {W0 : World} {B : Nat} {v : Value} {n : Nat} {xs : List Value} (h : W0.ownsRow B 5 1 v n xs) (hB : B ≤ W0.heap.size) (box : Obj) : Buf W0 B v.ownBlock box v n xs (W0.alloc box) :=
  ⟨h.alloc box, World.grownBy_alloc _ _ _, by simp, hB, fun k hk => (h.lt k hk).2, heap_alloc_new W0 box, Or.inl rfl⟩

theorem Buf.drew {W0 : World} {B : Nat} {row : Option Nat} {box : Obj} {v : Value} {n : Nat} {xs : List Value} {w : World} (h : Buf W0 B row box v n xs w) : Buf W0 B row box v n xs w.drew :=
  ⟨h.own, ⟨h.grown.os, h.grown.tape, h.grown.output, h.grown.size, h.grown.block⟩, h.size, h.base, h.low, h.box, h.lies⟩

theorem Buf.alloc {W0 : World} {B : Nat} {row : Option Nat} {box : Obj} {v : Value} {n : Nat} {xs : List Value} {w : World} (h : Buf W0 B row box v n xs w) (o : Obj) : Buf W0 B row box v n xs (w.alloc o) := by
  refine ⟨h.own.alloc o, h.grown.trans (World.grownBy_alloc _ _ _), by have := h.size; simp; omega, h.base, h.low, ?_, h.lies⟩
  rw [Below.heap_alloc w o _ h.size]
  exact h.box

theorem Buf.next {W0 : World} {B : Nat} {row : Option Nat} {box : Obj} {v v' : Value} {n n' : Nat} {xs xs' : List Value} {w w' : World} (h : Buf W0 B row box v n xs w)
    (ho : w'.ownsRow B 5 1 v' n' xs') (hg : w.grownBy w' v.ownBlock) (hl : v'.ownBlock = v.ownBlock ∨ v'.ownBlock = some w.heap.size) : Buf W0 B row box v' n' xs' w' := by
  have hs := h.size
  have hsz := hg.size
  refine ⟨ho, ⟨hg.os.trans h.grown.os, hg.tape.trans h.grown.tape, hg.output.trans h.grown.output, Nat.le_trans h.grown.size hg.size, ?_⟩, by omega, h.base, h.low, ?_, ?_⟩
  · intro k hk hne
    rw [hg.block k (by omega) ?_, h.grown.block k hk hne]
    rcases h.lies with e | ⟨j, e, hj⟩
    · rw [e]; exact hne
    · rw [e]; intro e2; injection e2 with e2; omega
  · rw [hg.block _ (by omega) ?_]
    · exact h.box
    · rcases h.lies with e | ⟨j, e, hj⟩
      · rw [e]; intro e2
        have := h.low _ e2.symm
        omega
      · rw [e]; intro e2; injection e2 with e2; omega
  · rcases hl with e | e
    · rw [e]; exact h.lies
    · exact Or.inr ⟨_, e, hs⟩

theorem Buf.cell {W0 : World} {B : Nat} {row : Option Nat} {cs : Array Value} {t : TypeId} {v : Value} {n : Nat} {xs : List Value} {w : World} (h : Buf W0 B row (.cells cs t) v n xs w) (j : Nat) (u : Value) (hu : cs[j]? = some u) :
    w.cell? ⟨W0.heap.size, j, none⟩ = some u := by
  rw [cell_of_row w W0.heap.size j cs t (0, 0) h.box]
  exact hu

section
variable {P : Program}

/-- 'b = append(b, c)'. -/
theorem wpList_buf_byte {ops : Array Oper} {rest : List Oper} {o : Oper} {a : Act} {Q : Exit → Act → World → Prop} (hgd : o.guard = none) (s x : Operand) (t : TypeId)
    (ho : o.op = .call { callee := .builtin .append, args := #[s, x], argTypes := #[t, t] })
    (i : TypeInfo) (ht : P.underlying t = some (.slice 5)) (hi : P.info? 5 = some i) (hz : i.zero = some (.int .u8 0)) (hsize : i.size = 1) (hby : i.bytes = 1)
    (W0 : World) (B : Nat) (row : Option Nat) (box : Obj) (v : Value) (n : Nat) (xs : List Value) (hs : a.eval s = v) (w0 : World) (c : Int) (hb : Buf W0 B row box v n xs w0)
    (H : Nat) (hx : a.eval x = .slice (some ⟨H, 0, none⟩) 1 1) (hH : w0.heap.size = H) (hlen : n + 1 ≤ 140737488355328)
    (h : ∀ v' w', Buf W0 B row box v' (n + 1) (xs ++ [.int .u8 c]) w' → wpList P ops Q rest (a.put o.dst v') w') : wpList P ops Q (o :: rest) a (w0.alloc (.cells #[.int .u8 c] 5)) := by
  subst hH
  have hb' := hb.alloc (.cells #[.int .u8 c] 5)
  refine wpList_append_own_at _ hgd s x t ho B 5 i (.int .u8 0) 1 1 ht hi hz hsize hby rfl (by decide) v n xs hs hb'.own ⟨w0.heap.size, 0, none⟩ 1 1 [.int .u8 c] hx rfl (cell_one_new _ _ _) ?_ (by unfold maxLen; omega) (by omega) (by have := hb'.base; have := hb'.size; omega) ?_
  · intro u hu; simp at hu; subst hu; rfl
  · intro v' w' ho' hg _ hl
    exact h v' w' (hb'.next ho' hg hl)

/-- 'b = append(b, s...)', s a string. -/
theorem wpList_buf_text {ops : Array Oper} {rest : List Oper} {o : Oper} {a : Act} {Q : Exit → Act → World → Prop} {w : World} (hgd : o.guard = none) (sl x : Operand) (t u : TypeId)
    (ho : o.op = .call { callee := .builtin .append, args := #[sl, x], argTypes := #[t, u] })
    (i : TypeInfo) (ht : P.underlying t = some (.slice 5)) (hu : P.underlying u = some .string) (hi : P.info? 5 = some i) (hz : i.zero = some (.int .u8 0)) (hsize : i.size = 1) (hby : i.bytes = 1)
    (W0 : World) (B : Nat) (row : Option Nat) (box : Obj) (v : Value) (n : Nat) (xs : List Value) (hs : a.eval sl = v) (hb : Buf W0 B row box v n xs w) (s : ByteArray) (hx : a.eval x = .string s) (hlen : n + s.size ≤ 140737488355328)
    (h : ∀ v' w', Buf W0 B row box v' (n + s.size) (xs ++ strCells s) w' → wpList P ops Q rest (a.put o.dst v') w') : wpList P ops Q (o :: rest) a w := by
  refine wpList_plain hgd fun K hK => ?_
  obtain ⟨v', w', hr, h2, h3, h4⟩ := run_append_string_at (P := P) w B t u o.type 5 i ht hu hi hz hsize hby v n xs hb.own s (by unfold maxLen; omega) hlen (by have := hb.base; have := hb.size; omega)
  unfold Oper.wp execOp
  simp only [ho, resolve, invoke, builtin, Sem.run_bind, Sem.run_pure, Result.andThen_ok, List.map_toArray, List.map_cons, List.map_nil, hs, hx, hr]
  exact hK _ _ (h v' w' (hb.next h2 h3 h4))
end
end Go.Proofs.Qxb6000083aMods
