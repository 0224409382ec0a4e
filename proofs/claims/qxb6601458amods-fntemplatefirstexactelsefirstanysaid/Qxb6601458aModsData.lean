/- TEMPLATES AND CONTAINERS IN MEMORY: four cells each, side by side; what a slice of them holds ('CSrc', 'TSrc'), and how an argument is opened. -/
import Derived.Test.Qxb6601458aModsRows
import Derived.WalkKit
import Derived.Below
import Derived.Deep.Slices
import Derived.ChangeSame
import Derived.Deep.Draws
namespace Go.Proofs.Qxb6601458aMods
open Go.RowKit

theorem hid {p : Prop} (h : p) : Hid p := h

/-- A container's four strings. -/
structure Ct where
  p : ByteArray
  n : ByteArray
  e : ByteArray
  v : ByteArray

/-- A template: three strings, and where its containers lie and what they are. -/
structure Tm where
  ver : ByteArray
  ann : ByteArray
  vol : ByteArray
  ca : Option Addr
  cn : Nat
  cc : Nat
  ct : Nat → Ct

def CAt (w : World) (b o : Nat) (c : Ct) : Prop :=
  w.cell? ⟨b, o, none⟩ = some (.string c.p) ∧ w.cell? ⟨b, o + 1, none⟩ = some (.string c.n) ∧ w.cell? ⟨b, o + 2, none⟩ = some (.string c.e) ∧ w.cell? ⟨b, o + 3, none⟩ = some (.string c.v)

structure CSrc (w : World) (ao : Option Addr) (n : Nat) (C : Nat → Ct) : Prop where
  nil : ao = none → n = 0
  row : 0 < n → ∃ b o, ao = some ⟨b, o, none⟩ ∧ b < w.heap.size ∧ ∀ j, j < n → CAt w b (o + j * 4) (C j)

def TAt (w : World) (b o : Nat) (t : Tm) : Prop :=
  w.cell? ⟨b, o, none⟩ = some (.string t.ver) ∧ w.cell? ⟨b, o + 1, none⟩ = some (.string t.ann) ∧ w.cell? ⟨b, o + 2, none⟩ = some (.slice t.ca t.cn t.cc) ∧ w.cell? ⟨b, o + 3, none⟩ = some (.string t.vol) ∧
  CSrc w t.ca t.cn t.ct ∧ t.cn ≤ maxLen

structure TSrc (w : World) (ao : Option Addr) (n : Nat) (T : Nat → Tm) : Prop where
  nil : ao = none → n = 0
  row : 0 < n → ∃ b o, ao = some ⟨b, o, none⟩ ∧ b < w.heap.size ∧ ∀ j, j < n → TAt w b (o + j * 4) (T j)

theorem CAt.below {w w' : World} {b o : Nat} {c : Ct} (h : CAt w b o c) (hb : Below w.heap.size w w') (hlt : b < w.heap.size) : CAt w' b o c :=
  ⟨(hb.cell (p := ⟨b, o, none⟩) hlt).trans h.1, (hb.cell (p := ⟨b, o + 1, none⟩) hlt).trans h.2.1, (hb.cell (p := ⟨b, o + 2, none⟩) hlt).trans h.2.2.1, (hb.cell (p := ⟨b, o + 3, none⟩) hlt).trans h.2.2.2⟩

theorem CSrc.below {w w' : World} {ao : Option Addr} {n : Nat} {C : Nat → Ct} (h : CSrc w ao n C) (hb : Below w.heap.size w w') : CSrc w' ao n C := by
  refine ⟨h.nil, fun hn => ?_⟩
  obtain ⟨b, o, h1, h2, h3⟩ := h.row hn
  exact ⟨b, o, h1, Nat.lt_of_lt_of_le h2 hb.size, fun j hj => (h3 j hj).below hb h2⟩

theorem TAt.below {w w' : World} {b o : Nat} {t : Tm} (h : TAt w b o t) (hb : Below w.heap.size w w') (hlt : b < w.heap.size) : TAt w' b o t :=
  ⟨(hb.cell (p := ⟨b, o, none⟩) hlt).trans h.1, (hb.cell (p := ⟨b, o + 1, none⟩) hlt).trans h.2.1, (hb.cell (p := ⟨b, o + 2, none⟩) hlt).trans h.2.2.1, (hb.cell (p := ⟨b, o + 3, none⟩) hlt).trans h.2.2.2.1, h.2.2.2.2.1.below hb, h.2.2.2.2.2⟩

theorem TSrc.below {w w' : World} {ao : Option Addr} {n : Nat} {T : Nat → Tm} (h : TSrc w ao n T) (hb : Below w.heap.size w w') : TSrc w' ao n T := by
  refine ⟨h.nil, fun hn => ?_⟩
  obtain ⟨b, o, h1, h2, h3⟩ := h.row hn
  exact ⟨b, o, h1, Nat.lt_of_lt_of_le h2 hb.size, fun j hj => (h3 j hj).below hb h2⟩

theorem TSrc.drewN {w : World} {ao : Option Addr} {n : Nat} {T : Nat → Tm} (h : TSrc w ao n T) (q : Nat) : TSrc (w.drewN q) ao n T :=
  h.below ⟨rfl, rfl, rfl, Nat.le_refl _, fun _ _ => rfl⟩

theorem below_drewN {B : Nat} {w wr : World} (h : Below B w wr) (n : Nat) : Below B w (wr.drewN n) := ⟨h.os, h.tape, h.output, h.size, h.block⟩

/-! ### an argument opened -/
section
variable {H : Type} {enc : TypeId × Value → H} {P : Program} {w : World} {base : Nat} {spare : Nat → Bool} {held : Bool}

/-- A slice of structs of four one-cell fields, element by element. -/
theorem open_fours {t e : TypeId} {f0 f1 f2 f3 : Field} {fuel : Nat} {cs : List Value} {x : DataW H × List MemPlace} (ht : P.underlying t = some (.slice e)) (he : P.underlying e = some (.struct #[f0, f1, f2, f3]))
    (ce : P.cellsOf e = 4) (o0 : f0.offset = 0) (o1 : f1.offset = 1) (o2 : f2.offset = 2) (o3 : f3.offset = 3) (c0 : P.cellsOf f0.type = 1) (c1 : P.cellsOf f1.type = 1) (c2 : P.cellsOf f2.type = 1) (c3 : P.cellsOf f3.type = 1)
    (h : DataW.trod enc P w base spare held fuel t cs = some x) :
    cs = [.slice none 0 0] ∨ ∃ (a : Addr) (len cap n : Nat), cs = [.slice (some a) len cap] ∧ len ≤ cap ∧ cap ≤ maxLen ∧
      ∀ i, i < len → ∃ (v0 v1 v2 v3 : Value) (y0 y1 y2 y3 : DataW H × List MemPlace), w.cell? (a.add (i * 4)) = some v0 ∧ w.cell? (a.add (i * 4 + 1)) = some v1 ∧ w.cell? (a.add (i * 4 + 2)) = some v2 ∧ w.cell? (a.add (i * 4 + 3)) = some v3 ∧
        DataW.trod enc P w base spare held n f0.type [v0] = some y0 ∧ DataW.trod enc P w base spare held n f1.type [v1] = some y1 ∧ DataW.trod enc P w base spare held n f2.type [v2] = some y2 ∧ DataW.trod enc P w base spare held n f3.type [v3] = some y3 := by
  rcases Deep.open_slice ht h with h0 | ⟨a, len, cap, m, n, D, Pl, rfl, hb, hl, hm, hmm, rfl, hx⟩
  · exact Or.inl h0.1
  refine Or.inr ⟨a, len, cap, n - 1, rfl, hl, hm, fun i hi => ?_⟩
  have hlm : len ≤ m := by rw [hmm]; split <;> omega
  obtain ⟨cs', h1, h2⟩ := hx i (by omega)
  rw [ce] at h1
  obtain ⟨_, hlen, hcell⟩ := World.cells?_some h1
  obtain ⟨xs, k, hk, hxy, _, hxl, hf⟩ := DataW.trod_struct he h2
  have hk' : k = n - 1 := by omega
  subst hk'
  match xs, hxl, cs', hlen with
  | [y0, y1, y2, y3], _, [v0, v1, v2, v3], _ =>
    have g0 := hf 0 f0 rfl
    have g1 := hf 1 f1 rfl
    have g2 := hf 2 f2 rfl
    have g3 := hf 3 f3 rfl
    simp [o0, o1, o2, o3, c0, c1, c2, c3] at g0 g1 g2 g3
    have e0 := hcell 0 (by omega)
    have e1 := hcell 1 (by omega)
    have e2 := hcell 2 (by omega)
    have e3 := hcell 3 (by omega)
    rw [Deep.add_add] at e0 e1 e2 e3
    exact ⟨v0, v1, v2, v3, y0, y1, y2, y3, by simpa using e0, by simpa using e1, by simpa using e2, by simpa using e3, g0, g1, g2, g3⟩
end

theorem addr_plain {w : World} {a : Addr} {v : Value} (h : w.cell? (a.add (0 * 4)) = some v) : ∃ b o, a = ⟨b, o, none⟩ ∧ b < w.heap.size := by
  have h' : w.cell? a = some v := by simpa [Addr.add] using h
  obtain ⟨b, o, s⟩ := a
  have hs : s = none := World.cell?_spot h'
  subst hs
  exact ⟨b, o, rfl, block_lt_of_cell h'⟩

theorem csrc_of {H : Type} {enc : TypeId × Value → H} {w : World} {base : Nat} {spare : Nat → Bool} {held : Bool} {fuel : Nat} {v : Value} {x : DataW H × List MemPlace} (h : DataW.trod enc Trym.prog w base spare held fuel 41 [v] = some x) :
    ∃ (ao : Option Addr) (n c : Nat) (C : Nat → Ct), v = .slice ao n c ∧ n ≤ maxLen ∧ CSrc w ao n C := by
  rcases open_fours Trym.underlying41 Trym.underlying50 (by kernel_rfl) rfl rfl rfl rfl (by kernel_rfl) (by kernel_rfl) (by kernel_rfl) (by kernel_rfl) h with h0 | ⟨a, len, cap, n, h0, hl, hm, hx⟩
  · simp at h0
    exact ⟨none, 0, 0, fun _ => ⟨.empty, .empty, .empty, .empty⟩, h0, Nat.zero_le _, fun _ => rfl, fun h => by omega⟩
  · simp at h0
    have each : ∀ i, i < len → ∃ c : Ct, w.cell? (a.add (i * 4)) = some (.string c.p) ∧ w.cell? (a.add (i * 4 + 1)) = some (.string c.n) ∧ w.cell? (a.add (i * 4 + 2)) = some (.string c.e) ∧ w.cell? (a.add (i * 4 + 3)) = some (.string c.v) := by
      intro i hi
      obtain ⟨v0, v1, v2, v3, y0, y1, y2, y3, k0, k1, k2, k3, t0, t1, t2, t3⟩ := hx i hi
      obtain ⟨s0, e0, _⟩ := DataW.trod_string Trym.underlying9 t0
      obtain ⟨s1, e1, _⟩ := DataW.trod_string Trym.underlying9 t1
      obtain ⟨s2, e2, _⟩ := DataW.trod_string Trym.underlying9 t2
      obtain ⟨s3, e3, _⟩ := DataW.trod_string Trym.underlying9 t3
      simp at e0 e1 e2 e3
      subst e0 e1 e2 e3
      exact ⟨⟨s0, s1, s2, s3⟩, k0, k1, k2, k3⟩
    obtain ⟨C, hC⟩ := @Deep.choose_lt Ct ⟨⟨.empty, .empty, .empty, .empty⟩⟩ len _ each
    refine ⟨some a, len, cap, C, h0, by omega, fun h => (by cases h), fun hn => ?_⟩
    obtain ⟨b, o, rfl, hb⟩ := addr_plain (hC 0 hn).1
    refine ⟨b, o, rfl, hb, fun j hj => ?_⟩
    have := hC j hj
    simp only [WideShapes.add_plain, ← Nat.add_assoc] at this
    exact this

theorem tsrc_of {H : Type} {enc : TypeId × Value → H} {w : World} {a : Option Addr} {len cap : Nat} {d : DataW H} {p : List MemPlace} (h : DataW.Trod enc Trym.prog w 0 (fun _ => true) true 22 (.slice a len cap) d p) :
    ∃ T : Nat → Tm, len ≤ maxLen ∧ TSrc w a len T := by
  obtain ⟨fuel, hf⟩ := h
  rcases open_fours Trym.underlying22 Trym.underlying43 (by kernel_rfl) rfl rfl rfl rfl (by kernel_rfl) (by kernel_rfl) (by kernel_rfl) (by kernel_rfl) hf with h0 | ⟨x, l, c, n, h0, hl, hm, hx⟩
  · simp [Value.cells] at h0
    obtain ⟨rfl, rfl, rfl⟩ := h0
    exact ⟨fun _ => ⟨.empty, .empty, .empty, none, 0, 0, fun _ => ⟨.empty, .empty, .empty, .empty⟩⟩, Nat.zero_le _, fun _ => rfl, fun h => by omega⟩
  · simp [Value.cells] at h0
    obtain ⟨rfl, rfl, rfl⟩ := h0
    have each : ∀ i, i < len → ∃ t : Tm, w.cell? (x.add (i * 4)) = some (.string t.ver) ∧ w.cell? (x.add (i * 4 + 1)) = some (.string t.ann) ∧ w.cell? (x.add (i * 4 + 2)) = some (.slice t.ca t.cn t.cc) ∧ w.cell? (x.add (i * 4 + 3)) = some (.string t.vol) ∧
        CSrc w t.ca t.cn t.ct ∧ t.cn ≤ maxLen := by
      intro i hi
      obtain ⟨v0, v1, v2, v3, y0, y1, y2, y3, k0, k1, k2, k3, t0, t1, t2, t3⟩ := hx i hi
      obtain ⟨s0, e0, _⟩ := DataW.trod_string Trym.underlying9 t0
      obtain ⟨s1, e1, _⟩ := DataW.trod_string Trym.underlying9 t1
      obtain ⟨s3, e3, _⟩ := DataW.trod_string Trym.underlying9 t3
      obtain ⟨ao, m, c, C, e2, hm2, hC⟩ := csrc_of t2
      simp at e0 e1 e3
      subst e0 e1 e2 e3
      exact ⟨⟨s0, s1, s3, ao, m, c, C⟩, k0, k1, k2, k3, hC, hm2⟩
    obtain ⟨T, hT⟩ := @Deep.choose_lt Tm ⟨⟨.empty, .empty, .empty, none, 0, 0, fun _ => ⟨.empty, .empty, .empty, .empty⟩⟩⟩ len _ each
    refine ⟨T, by omega, fun h => (by cases h), fun hn => ?_⟩
    obtain ⟨b, o, rfl, hb⟩ := addr_plain (hT 0 hn).1
    refine ⟨b, o, rfl, hb, fun j hj => ?_⟩
    have := hT j hj
    simp only [WideShapes.add_plain, ← Nat.add_assoc] at this
    exact this

end Go.Proofs.Qxb6601458aMods
