import Derived.Test.Qxb6000083aModsRows
import Derived.Test.Qxb6000083aModsForms
import Derived.Test.Qxb6000083aModsLaw
import Derived.WalkKit
import Derived.ProofKit
import Derived.WalkSpells
import Derived.Lib.Strings
namespace Go.Proofs.Qxb6000083aMods
open Go.RowKit

theorem canon_empty {neg : Bool} {d : ByteArray} {x : Int} (he : d.toList.isEmpty = true) (h : (!neg && (x == 0)) = true) : Num.Canon neg d.data.toList x := by
  rw [Lib.toList_data] at he
  have hd : d.data.toList = [] := by simpa using he
  rw [hd]
  simp at h
  exact ⟨fun _ => h, by simp, by simp, by simp⟩

theorem canon_full {neg : Bool} {d : ByteArray} {x : Int} (hpos : 0 < d.size) (hall : ∀ j (hj : j < d.size), 48 ≤ (d[j].toNat : Int) ∧ (d[j].toNat : Int) ≤ 57)
    (h0 : ¬ (d[0].toNat : Int) = 48) (h1 : ¬ ((d[d.size - 1]'(by omega)).toNat : Int) = 48) : Num.Canon neg d.data.toList x := by
  have hl : d.data.toList.length = d.size := by simp
  refine ⟨fun h => ?_, ?_, ?_, ?_⟩
  · rw [h] at hl; simp at hl; omega
  · intro c hc
    obtain ⟨j, hj, e⟩ := List.mem_iff_getElem.1 hc
    have := hall j (by omega)
    have e2 : d[j]'(by omega) = c := e
    rw [e2] at this
    refine ⟨?_, ?_⟩
    · rw [UInt8.le_iff_toNat_le]; show 48 ≤ c.toNat; omega
    · rw [UInt8.le_iff_toNat_le]; show c.toNat ≤ 57; omega
  · rw [List.head?_eq_getElem?, List.getElem?_eq_getElem (by omega)]
    intro e; injection e with e
    apply h0
    have e2 : d[0] = d.data.toList[0]'(by omega) := rfl
    rw [e2, e]; rfl
  · rw [List.getLast?_eq_getElem?, List.getElem?_eq_getElem (by omega)]
    intro e; injection e with e
    apply h1
    have e2 : d[d.size - 1]'(by omega) = d.data.toList[d.data.toList.length - 1]'(by omega) := by
      show d.data.toList[d.size - 1]'(by omega) = _
      congr 1
    rw [e2, e]; rfl

/-- What zzCanonical leaves. -/
def CanonLeft (neg : Bool) (d : ByteArray) (x : Int) (w : World) (e : Ending) (w' : World) : Prop := ∃ b, e = .returned (.bool b) ∧ (b = true → Num.Canon neg d.data.toList x) ∧ w' = w

theorem canonLeft_no {neg : Bool} {d : ByteArray} {x : Int} {w : World} : CanonLeft neg d x w (.returned (.bool false)) w := ⟨false, rfl, fun h => (by cases h), rfl⟩

set_option maxHeartbeats 400000 in
theorem canonical_any (neg : Bool) (d : ByteArray) (x : Int) (w : World) (hd : d.size ≤ 4194304) :
    Calls Trym.prog 19 #[.bool neg, .string d, .int .i64 x] w (CanonLeft neg d x w) := by
  by_cases he : d.toList.isEmpty = true
  · cases neg
    · go_enter Trym.func19, Trym.ntmps19
      go_wp2
      go_ret
      exact ⟨_, rfl, fun h => canon_empty he (by simpa using h), rfl⟩
    · go_enter Trym.func19, Trym.ntmps19
      go_wp2
      go_ret
      exact canonLeft_no
  · have he' : d.toList.isEmpty = false := by simpa using he
    have hpos : 0 < d.size := by
      rw [Lib.toList_data] at he
      rcases Nat.eq_zero_or_pos d.size with h | h
      · exfalso
        apply he
        have : d.data.toList.length = d.size := by simp
        rw [h] at this
        rw [List.eq_nil_of_length_eq_zero this]; rfl
      · exact h
    go_enter Trym.func19, Trym.ntmps19
    go_wp2
    go_loop [7] (fun i => ∃ k : Nat, k ≤ d.size ∧ i = .int .i64 k ∧ Hid (∀ j (hj : j < d.size), j < k → 48 ≤ (d[j].toNat : Int) ∧ (d[j].toNat : Int) ≤ 57)) (fun i => d.size - (intOf i).toNat)
    case atStart => exact ⟨0, Nat.zero_le _, rfl, fun j _ hj => by omega⟩
    case round =>
      obtain ⟨k, hk, rfl, HK⟩ := hrel
      by_cases hlt : k < d.size
      · by_cases hlo : (d[k].toNat : Int) < 48
        · go_wp2
          go_ret
          exact canonLeft_no
        · by_cases hhi : 57 < (d[k].toNat : Int)
          · go_wp2
            go_ret
            exact canonLeft_no
          · go_wp2
            go_round
            case rel => exact ⟨k + 1, by omega, by go_num, fun j h1 h2 => by
              by_cases e : j = k
              · subst e; omega
              · exact HK.out j h1 (by omega)⟩
            case measure => simp [intOf]; omega
      · by_cases h0 : (d[0].toNat : Int) = 48
        · go_wp2
          go_ret
          exact canonLeft_no
        · have hz : d.size - 1 < d.size := by omega
          go_wp2
          go_ret
          exact ⟨_, rfl, fun h => canon_full hpos (fun j hj => HK.out j hj (by omega)) h0 (by simp at h; omega), rfl⟩
end Go.Proofs.Qxb6000083aMods
