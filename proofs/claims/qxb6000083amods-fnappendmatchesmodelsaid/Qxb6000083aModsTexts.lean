import Derived.Test.Qxb6000083aModsRead
import Derived.Test.Qxb6000083aModsAppend
import Derived.Test.Qxb6000083aModsLaw
import Derived.Laws.IdiomStrings
import Derived.Deep.AppendLies
import Derived.Lib.Strings
namespace Go.Proofs.Qxb6000083aMods
open Go.RowKit Go.Lib

def bc (b : UInt8) : Value := .int .u8 b.toNat

theorem strCells_bc (s : ByteArray) : strCells s = s.data.toList.map bc := rfl
theorem ex_data (d : ByteArray) (i j : Nat) : (d.extract i j).data.toList = (d.data.toList.drop i).take (j - i) := by
  simp [List.extract_eq_take_drop]
theorem empty_iff (d : ByteArray) : d.toList.isEmpty = true ↔ d.data.toList = [] := by
  rw [Lib.toList_data]; simp
theorem data_len (d : ByteArray) : d.data.toList.length = d.size := by simp

theorem appCells_eq (neg : Bool) (d : ByteArray) (x : Int) : appCells neg d x = (Num.app neg d.data.toList x).map bc := by
  unfold appCells Num.app
  by_cases he : d.data.toList = []
  · rw [if_pos ((empty_iff d).2 he), if_pos he]; rfl
  · rw [if_neg (fun h => he ((empty_iff d).1 h)), if_neg he, data_len]
    have hn : (if neg = true then [Value.int .u8 45] else []) = (if neg = true then [45] else [] : List UInt8).map bc := by cases neg <;> rfl
    rw [hn, List.map_append]
    congr 1
    by_cases hx : x < 0
    · rw [if_pos hx, if_pos hx, strCells_bc]
      simp [bc]
    · rw [if_neg hx, if_neg hx]
      by_cases hw : x + 1 < (d.size : Int)
      · rw [if_pos hw, if_pos hw, strCells_bc, strCells_bc, ex_data, ex_data, List.map_append, List.map_append, List.drop_zero]
        have e1 : List.take (d.size - (x + 1).toNat) (List.drop (x + 1).toNat d.data.toList) = List.drop (x + 1).toNat d.data.toList := by
          apply List.take_of_length_le
          rw [List.length_drop, data_len]
          omega
        rw [e1]
        rfl
      · rw [if_neg hw, if_neg hw, strCells_bc]
        simp [bc]

/-- What lies in memory behind Append: a row that holds the text. -/
def Holds (w : World) (g : Nat) (l : List UInt8) : Prop := ∀ j (hj : j < l.length), w.cell? ⟨g, j, none⟩ = some (.int .u8 (l[j].toNat : Int))

theorem holds_of {w : World} {B : Nat} {v : Value} {n : Nat} {l : List UInt8} (h : w.ownsRow B 5 1 v n (l.map bc)) (hl : 0 < l.length) : ∃ g cap, v = .slice (some ⟨g, 0, none⟩) l.length cap ∧ B ≤ g ∧ g < w.heap.size ∧ Holds w g l := by
  have hn : l.length = n := by simpa using h.1
  obtain ⟨g, cap, hv, hb, hg⟩ := h.form (by omega)
  subst hn
  refine ⟨g, cap, hv, hb, hg, fun j hj => ?_⟩
  have := h.cells (g := g) (by rw [hv]; rfl) j (bc l[j]) (by simp [hj])
  have e : (⟨g, 0, none⟩ : Addr).add j = ⟨g, j, none⟩ := by unfold Addr.add; split <;> simp_all
  rw [e] at this
  exact this

theorem app_pos (neg : Bool) (d : List UInt8) (x : Int) : 0 < (Num.app neg d x).length := by
  unfold Num.app
  split
  · simp
  · rename_i h
    have : 0 < d.length := List.length_pos_iff.2 h
    simp only [List.length_append]
    split <;> (try split) <;> (try split) <;> simp <;> omega

theorem app_le (neg : Bool) (d : List UInt8) (x : Int) (h0 : -65536 ≤ x) (h1 : x ≤ 65536) : (Num.app neg d x).length ≤ d.length + 65540 := by
  unfold Num.app
  split
  · simp
  · simp only [List.length_append]
    split <;> (try split) <;> (try split) <;> simp <;> omega

theorem append_nil (neg : Bool) (d : ByteArray) (x : Int) (W : World) (hd : d.size ≤ 4194304) (hx0 : -65536 ≤ x) (hx1 : x ≤ 65536) :
    Calls Trym.prog 14 #[.agg #[.bool neg, .string d, .int .i64 x], .slice none 0 0] W fun e w' => ∃ g cap, e = .returned (.slice (some ⟨g, 0, none⟩) (Num.app neg d.data.toList x).length cap) ∧ Holds w' g (Num.app neg d.data.toList x) ∧ Below W.heap.size W w' := by
  refine (append_any neg d x (.slice none 0 0) 0 [] W.heap.size W (World.ownsRow_nil _ _ _ _) (Nat.le_refl _) (by omega) hd hx0 hx1).mono ?_
  rintro e w' ⟨v', rfl, ⟨n', ho⟩, hg, _⟩
  rw [List.nil_append, appCells_eq] at ho
  obtain ⟨g, cap, rfl, hb, _, hh⟩ := holds_of ho (app_pos _ _ _)
  exact ⟨g, cap, rfl, hh, (Below.refl _ _).grown hg (Nat.le_refl _) (by intro k hk; cases hk)⟩

theorem bcell {W w1 : World} (hb : Below W.heap.size W w1) : (∀ b o, b < W.heap.size → w1.cell? ⟨b, o, none⟩ = W.cell? ⟨b, o, none⟩) ∧ (∀ b o, b < W.heap.size → w1.frozen? ⟨b, o, none⟩ = W.frozen? ⟨b, o, none⟩) :=
  ⟨fun b o h => hb.cell (p := ⟨b, o, none⟩) h, fun b o h => hb.frozen (p := ⟨b, o, none⟩) h⟩

set_option maxHeartbeats 400000 in
theorem zz_any (s : ByteArray) (w : World) (h1 : s.size ≤ 4194304) :
    Calls Trym.prog 10 #[.string s] w fun e w' => e = .returned (.tuple #[.agg #[.bool (Num.rd s.data.toList).neg, .string ⟨(Num.rd s.data.toList).dig.toArray⟩, .int .i64 (Num.rd s.data.toList).ex], .bool (Num.rd s.data.toList).ok]) ∧ Below w.heap.size w w' := by
  go_enter Trym.func10, Trym.ntmps10
  go_wp2_with (go_at_call 24; refine (read_any s _ h1).mono ?_; rintro e w' ⟨rfl, hb⟩; obtain ⟨hc, hf⟩ := bcell hb)
  have c0 : w'.cell? ⟨w.heap.size, 0, none⟩ = some (.bool false) := (hc _ 0 (by simp)).trans (by simp)
  have c1 : w'.cell? ⟨w.heap.size, 1, none⟩ = some (.string ⟨#[]⟩) := (hc _ 1 (by simp)).trans (by simp)
  have c2 : w'.cell? ⟨w.heap.size, 2, none⟩ = some (.int .i64 0) := (hc _ 2 (by simp)).trans (by simp)
  clear hc hf
  refine bodyPost_ret (v := .tuple #[.agg #[.bool (Num.rd s.data.toList).neg, .string ⟨(Num.rd s.data.toList).dig.toArray⟩, .int .i64 (Num.rd s.data.toList).ex], .bool (Num.rd s.data.toList).ok]) (by simp [results, Trym.results10, go_sem, c0, c1, c2]) rfl ⟨rfl, ?_⟩
  have hz : w.heap.size ≤ (w.alloc (.cells #[.bool false, .string ⟨#[]⟩, .int .i64 0] 24)).heap.size := by simp
  exact (((((Below.refl _ _).alloc (Nat.le_refl _) _).trans (hb.mono hz)).setCell (Nat.le_refl _) _).setCell (Nat.le_refl _) _).setCell (Nat.le_refl _) _
end Go.Proofs.Qxb6000083aMods
