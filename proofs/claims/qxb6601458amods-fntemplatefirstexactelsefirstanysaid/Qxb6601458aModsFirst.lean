/- addSize (20), firstWith (10), Template (9). -/
import Derived.Test.Qxb6601458aModsData
import Derived.WalkSpells
import Derived.WalkLawsBesides
import Derived.Lib.SliceRun
import Derived.Lib.Strings
namespace Go.Proofs.Qxb6601458aMods
open Go.RowKit

theorem toList_inj {s t : ByteArray} (h : s.toList = t.toList) : s = t := by
  rw [Lib.toList_data, Lib.toList_data] at h
  exact ByteArray.ext (Array.toList_inj.1 h)
theorem beq_inj {s t : ByteArray} (h : (s.toList == t.toList) = true) : s = t := toList_inj (by simpa using h)
theorem bne_inj {s t : ByteArray} (h : (s.toList == t.toList) = false) : s ≠ t := by rintro rfl; simp at h

/-- The least index whose Version is v, or -1. -/
def FirstIs (T : Nat → Tm) (n : Nat) (v : ByteArray) (z : Int) : Prop :=
  (z = -1 ∧ ∀ j, j < n → (T j).ver ≠ v) ∨ ∃ i : Nat, i < n ∧ z = (i : Int) ∧ (T i).ver = v ∧ ∀ j, j < i → (T j).ver ≠ v

def FirstLeft (T : Nat → Tm) (n : Nat) (v : ByteArray) (w : World) (e : Ending) (w' : World) : Prop := ∃ z, e = .returned (.int .i64 z) ∧ FirstIs T n v z ∧ w = w'

set_option maxHeartbeats 400000 in
theorem first_any (ao : Option Addr) (n cap : Nat) (T : Nat → Tm) (v : ByteArray) (w : World) (hs : TSrc w ao n T) (hl : n ≤ maxLen) :
    Calls Trym.prog 10 #[.slice ao n cap, .string v] w (FirstLeft T n v w) := by
  unfold maxLen at hl
  have HS := hid hs
  clear hs
  go_enter Trym.func10, Trym.ntmps10
  go_wp2
  go_loop [5] (fun i => ∃ k : Nat, k ≤ n ∧ i = .int .i64 k ∧ Hid (∀ j, j < k → (T j).ver ≠ v)) (fun i => n - (intOf i).toNat)
  case atStart => exact ⟨0, Nat.zero_le _, rfl, fun j h => by omega⟩
  case round =>
    obtain ⟨k, hk, rfl, HK⟩ := hrel
    by_cases hlt : k < n
    · obtain ⟨b, o, rfl, _, hc⟩ := HS.out.row (by omega)
      have hcs := (hc k hlt).1
      obtain ⟨s, hs⟩ : ∃ s, (T k).ver = s := ⟨_, rfl⟩
      rw [hs] at hcs
      have HSS := hid hs
      clear hs hc
      by_cases he : (s.toList == v.toList) = true
      · go_wp2
        go_ret
        exact ⟨k, rfl, Or.inr ⟨k, hlt, rfl, by rw [HSS.out]; exact beq_inj he, HK.out⟩, rfl⟩
      · have he' : (s.toList == v.toList) = false := by simpa using he
        go_wp2
        go_round
        case rel => exact ⟨k + 1, by omega, by go_num, fun j h => by
          by_cases e : j = k
          · subst e; rw [HSS.out]; exact bne_inj he'
          · exact HK.out j (by omega)⟩
        case measure => simp [intOf]; omega
    · go_wp2
      go_ret
      exact ⟨-1, rfl, Or.inl ⟨rfl, fun j hj => HK.out j (by omega)⟩, rfl⟩

def star : ByteArray := { data := #[42] }

theorem star_list : star.toList = [42] := by rw [Lib.toList_data]; rfl

/-- What Template answers. -/
def TplIs (T : Nat → Tm) (n : Nat) (v : ByteArray) (u : Option Addr) (q : Option Addr) : Prop :=
  (∃ (i b o : Nat), i < n ∧ u = some ⟨b, o, none⟩ ∧ q = some ⟨b, o + i * 4, none⟩ ∧ (T i).ver = v ∧ ∀ j, j < i → (T j).ver ≠ v) ∨
  ((∀ j, j < n → (T j).ver ≠ v) ∧ ((q = none ∧ ∀ j, j < n → (T j).ver ≠ star) ∨ ∃ (i b o : Nat), i < n ∧ u = some ⟨b, o, none⟩ ∧ q = some ⟨b, o + i * 4, none⟩ ∧ (T i).ver = star ∧ ∀ j, j < i → (T j).ver ≠ star))

def TplLeft (T : Nat → Tm) (n : Nat) (v : ByteArray) (u : Option Addr) (w : World) (e : Ending) (w' : World) : Prop := ∃ q, e = .returned (.pointer q) ∧ TplIs T n v u q ∧ w = w'

/-- .. after k of them: none is v; the first that is a star, or nil. -/
def TplSo (T : Nat → Tm) (k : Nat) (v : ByteArray) (u : Option Addr) (q : Option Addr) : Prop :=
  (∀ j, j < k → (T j).ver ≠ v) ∧ ((q = none ∧ ∀ j, j < k → (T j).ver ≠ star) ∨ ∃ (i b o : Nat), i < k ∧ u = some ⟨b, o, none⟩ ∧ q = some ⟨b, o + i * 4, none⟩ ∧ (T i).ver = star ∧ ∀ j, j < i → (T j).ver ≠ star)

theorem TplSo.skip {T : Nat → Tm} {k : Nat} {v : ByteArray} {u q : Option Addr} (h : TplSo T k v u q) (h1 : (T k).ver ≠ v) (h2 : (T k).ver ≠ star ∨ q ≠ none) : TplSo T (k + 1) v u q := by
  refine ⟨fun j hj => ?_, ?_⟩
  · by_cases e : j = k
    · subst e; exact h1
    · exact h.1 j (by omega)
  · rcases h.2 with ⟨hq, h3⟩ | ⟨i, b, o, hi, h4⟩
    · refine Or.inl ⟨hq, fun j hj => ?_⟩
      by_cases e : j = k
      · subst e; exact h2.resolve_right (fun h => h hq)
      · exact h3 j (by omega)
    · exact Or.inr ⟨i, b, o, by omega, h4⟩

theorem TplSo.take {T : Nat → Tm} {k : Nat} {v : ByteArray} {b o : Nat} (h : TplSo T k v (some ⟨b, o, none⟩) none) (h1 : (T k).ver ≠ v) (h2 : (T k).ver = star) : TplSo T (k + 1) v (some ⟨b, o, none⟩) (some ⟨b, o + k * 4, none⟩) := by
  refine ⟨fun j hj => ?_, Or.inr ⟨k, b, o, by omega, rfl, rfl, h2, ?_⟩⟩
  · by_cases e : j = k
    · subst e; exact h1
    · exact h.1 j (by omega)
  · rcases h.2 with ⟨_, h3⟩ | ⟨i, b, o, hi, h4, h5, _⟩
    · exact h3
    · cases h5

set_option maxHeartbeats 400000 in
theorem tpl_any (sb so : Nat) (u : Option Addr) (n cap : Nat) (T : Nat → Tm) (v : ByteArray) (w : World) (hs : TSrc w u n T) (hl : n ≤ maxLen) (hc0 : w.cell? ⟨sb, so, none⟩ = some (.slice u n cap)) :
    Calls Trym.prog 9 #[.pointer (some ⟨sb, so, none⟩), .string v] w (TplLeft T n v u w) := by
  unfold maxLen at hl
  have HS := hid hs
  clear hs
  go_enter Trym.func9, Trym.ntmps9
  go_wp2
  go_loop [5, 6, 7, 13, 22, 30] (fun s5 _ _ s13 _ _ => ∃ (k : Nat) (q : Option Addr), k ≤ n ∧ s13 = .int .i64 k ∧ s5 = .pointer q ∧ Hid (TplSo T k v u q)) (fun _ _ _ s13 _ _ => n - (intOf s13).toNat)
  case atStart => exact ⟨0, none, Nat.zero_le _, rfl, rfl, fun j h => by omega, Or.inl ⟨rfl, fun j h => by omega⟩⟩
  case round =>
    obtain ⟨k, q, hk, rfl, rfl, HK⟩ := hrel
    by_cases hlt : k < n
    · obtain ⟨b, o, rfl, _, hc⟩ := HS.out.row (by omega)
      have hcs := (hc k hlt).1
      obtain ⟨s, hs⟩ : ∃ s, (T k).ver = s := ⟨_, rfl⟩
      rw [hs] at hcs
      have HSS := hid hs
      clear hs hc
      by_cases he : (s.toList == v.toList) = true
      · go_wp2
        go_ret
        exact ⟨_, rfl, Or.inl ⟨k, b, o, hlt, rfl, rfl, by rw [HSS.out]; exact beq_inj he, HK.out.1⟩, rfl⟩
      · have he' : (s.toList == v.toList) = false := by simpa using he
        have hv : (T k).ver ≠ v := by rw [HSS.out]; exact bne_inj he'
        by_cases hst : (s.toList == [42]) = true
        · have hS : (T k).ver = star := by rw [HSS.out]; exact beq_inj (by rw [star_list]; exact hst)
          have HV := hid (And.intro hv hS)
          clear hv hS
          cases q with
          | none =>
            go_wp2
            go_round
            case rel => exact ⟨k + 1, _, by omega, by go_num, rfl, HK.out.take HV.out.1 HV.out.2⟩
            case measure => simp [intOf]; omega
          | some q =>
            go_wp2
            go_round
            case rel => exact ⟨k + 1, _, by omega, by go_num, rfl, HK.out.skip HV.out.1 (Or.inr (by simp))⟩
            case measure => simp [intOf]; omega
        · have hst' : (s.toList == [42]) = false := by simpa using hst
          have hS : (T k).ver ≠ star := by rw [HSS.out]; exact bne_inj (by rw [star_list]; exact hst')
          have HV := hid (And.intro hv hS)
          clear hv hS hst
          go_wp2
          go_round
          case rel => exact ⟨k + 1, _, by omega, by go_num, rfl, HK.out.skip HV.out.1 (Or.inl HV.out.2)⟩
          case measure => simp [intOf]; omega
    · have : k = n := by omega
      subst this
      go_wp2
      go_ret
      exact ⟨_, rfl, Or.inr HK.out, rfl⟩

/-- addSize. -/
theorem add_any (a b : Int) (w : World) (ha0 : 0 ≤ a) (hb0 : 0 ≤ b) :
    Calls Trym.prog 20 #[.int .i64 a, .int .i64 b] w fun e w' => (∃ z, e = .returned (.int .i64 z) ∧ 0 ≤ z ∧ z ≤ 2097152) ∧ w = w' := by
  by_cases h1 : 1048576 < a
  · go_enter Trym.func20, Trym.ntmps20
    go_wp2
    go_ret
    exact ⟨⟨1048577, rfl, by omega, by omega⟩, rfl⟩
  · by_cases h2 : 1048576 < b
    · go_enter Trym.func20, Trym.ntmps20
      go_wp2
      go_ret
      exact ⟨⟨1048577, rfl, by omega, by omega⟩, rfl⟩
    · go_enter Trym.func20, Trym.ntmps20
      go_wp2
      go_ret
      exact ⟨⟨a + b, rfl, by omega, by omega⟩, rfl⟩

end Go.Proofs.Qxb6601458aMods
