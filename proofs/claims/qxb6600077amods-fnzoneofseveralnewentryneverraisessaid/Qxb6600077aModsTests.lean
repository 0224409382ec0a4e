import Derived.Test.Qxb6600077aModsRows
import Derived.Test.Qxb6600077aModsBag
import Derived.WalkKit
import Derived.WalkSpells
import Derived.WalkLawsBesides
import Derived.Lib.SliceRun
import Derived.Deep.QuietTactic
import Derived.BigQuiet
import Derived.Lib.Strings
namespace Go.Proofs.Qxb6600077aMods
open Go.RowKit

theorem hid {p : Prop} (h : p) : Hid p := h

theorem toList_inj {s t : ByteArray} (h : s.toList = t.toList) : s = t := by
  rw [Lib.toList_data, Lib.toList_data] at h
  exact ByteArray.ext (Array.toList_inj.1 h)
theorem beq_inj {s t : ByteArray} (h : (s.toList == t.toList) = true) : s = t := toList_inj (by simpa using h)

theorem shorter_any (a b : Int) (w : World) : Calls Trym.prog 9 #[.int .i64 a, .int .i64 b] w fun e w' => e = .returned (.int .i64 (if a < b then a else b)) ∧ w = w' := by
  by_cases h : a < b
  · rw [if_pos h]
    go_enter Trym.func9, Trym.ntmps9
    go_wp2
    go_ret
    exact ⟨rfl, rfl⟩
  · rw [if_neg h]
    go_enter Trym.func9, Trym.ntmps9
    go_wp2
    go_ret
    exact ⟨rfl, rfl⟩

/-- A Bool under its meaning, drawn or not. -/
def SaysDrew (p : Prop) (w : World) (e : Ending) (w' : World) : Prop := ∃ b : Bool, e = .returned (.bool b) ∧ (b = true ↔ p) ∧ ∃ m, w' = w.drewN m
def Says (p : Prop) (w : World) (e : Ending) (w' : World) : Prop := ∃ b : Bool, e = .returned (.bool b) ∧ (b = true ↔ p) ∧ w = w'

theorem says_true {p : Prop} {w : World} (h : p) : Says p w (.returned (.bool true)) w := ⟨true, rfl, by simp [h], rfl⟩
theorem says_false {p : Prop} {w : World} (h : ¬ p) : Says p w (.returned (.bool false)) w := ⟨false, rfl, by simp [h], rfl⟩
theorem saysD_true {p : Prop} {w : World} (q : Nat) (h : p) : SaysDrew p w (.returned (.bool true)) (w.drewN q) := ⟨true, rfl, by simp [h], q, rfl⟩
theorem saysD_false {p : Prop} {w : World} (q : Nat) (h : ¬ p) : SaysDrew p w (.returned (.bool false)) (w.drewN q) := ⟨false, rfl, by simp [h], q, rfl⟩

def Asc (ss : List ByteArray) : Prop := ∀ i (h : i + 1 < ss.length), Op.bytesLess (ss[i]).toList (ss[i + 1]).toList = true
def Full (ss : List ByteArray) : Prop := ∀ i (h : i < ss.length), (ss[i]).toList.isEmpty = false

set_option maxHeartbeats 400000 in
theorem full_any (ao : Option Addr) (cap : Nat) (ss : List ByteArray) (w : World) (hs : Src w ao ss) (hl : ss.length ≤ maxLen) :
    Calls Trym.prog 11 #[.slice ao ss.length cap] w (Says (Full ss) w) := by
  unfold maxLen at hl
  have HS := hid hs
  clear hs
  obtain ⟨n, hn⟩ : ∃ n, ss.length = n := ⟨_, rfl⟩
  have HN := hid hn
  rw [hn] at hl ⊢
  clear hn
  go_enter Trym.func11, Trym.ntmps11
  go_wp2
  go_loop [3] (fun i => ∃ k : Nat, k ≤ n ∧ i = .int .i64 k ∧ Hid (∀ j (h : j < ss.length), j < k → (ss[j]).toList.isEmpty = false)) (fun i => n - (intOf i).toNat)
  case atStart => exact ⟨0, Nat.zero_le _, rfl, fun j _ h => by omega⟩
  case round =>
    obtain ⟨k, hk, rfl, HK⟩ := hrel
    have hzn := HN.out
    by_cases hlt : k < n
    · have hkl : k < ss.length := by omega
      obtain ⟨b, o, rfl, _, hc⟩ := HS.out.row (by intro e; rw [e] at hkl; simp at hkl)
      obtain ⟨s, hs⟩ : ∃ s, ss[k] = s := ⟨_, rfl⟩
      have hcs : w.cell? ⟨b, o + k, none⟩ = some (.string s) := by rw [hc k hkl, hs]
      have HSS := hid hs
      clear hs hc hzn
      by_cases he : s.toList.isEmpty = true
      · go_wp2
        go_ret
        exact says_false (fun h => by have := h k hkl; rw [HSS.out, he] at this; cases this)
      · have he' : s.toList.isEmpty = false := by simpa using he
        go_wp2
        go_round
        case rel => exact ⟨k + 1, by omega, by go_num, fun j hj h => by
          by_cases e : j = k
          · subst e; rw [HSS.out]; exact he'
          · exact HK.out j hj (by omega)⟩
        case measure => simp [intOf]; omega
    · clear hzn
      go_wp2
      go_ret
      exact says_true (fun j hj => HK.out j hj (by have := HN.out; omega))

set_option maxHeartbeats 400000 in
theorem member_any (ao : Option Addr) (cap : Nat) (ss : List ByteArray) (t : ByteArray) (w : World) (hs : Src w ao ss) (hl : ss.length ≤ maxLen) :
    Calls Trym.prog 17 #[.slice ao ss.length cap, .string t] w (Says (t ∈ ss) w) := by
  unfold maxLen at hl
  have HS := hid hs
  clear hs
  obtain ⟨n, hn⟩ : ∃ n, ss.length = n := ⟨_, rfl⟩
  have HN := hid hn
  rw [hn] at hl ⊢
  clear hn
  go_enter Trym.func17, Trym.ntmps17
  go_wp2
  go_loop [5] (fun i => ∃ k : Nat, k ≤ n ∧ i = .int .i64 k ∧ Hid (∀ j (h : j < ss.length), j < k → ss[j] ≠ t)) (fun i => n - (intOf i).toNat)
  case atStart => exact ⟨0, Nat.zero_le _, rfl, fun j _ h => by omega⟩
  case round =>
    obtain ⟨k, hk, rfl, HK⟩ := hrel
    have hzn := HN.out
    by_cases hlt : k < n
    · have hkl : k < ss.length := by omega
      obtain ⟨b, o, rfl, _, hc⟩ := HS.out.row (by intro e; rw [e] at hkl; simp at hkl)
      obtain ⟨s, hs⟩ : ∃ s, ss[k] = s := ⟨_, rfl⟩
      have hcs : w.cell? ⟨b, o + k, none⟩ = some (.string s) := by rw [hc k hkl, hs]
      have HSS := hid hs
      clear hs hc hzn
      by_cases he : (s.toList == t.toList) = true
      · go_wp2
        go_ret
        exact says_true (by rw [← beq_inj he, ← HSS.out]; exact List.getElem_mem hkl)
      · have he' : (s.toList == t.toList) = false := by simpa using he
        go_wp2
        go_round
        case rel => exact ⟨k + 1, by omega, by go_num, fun j hj h => by
          by_cases e : j = k
          · subst e; rw [HSS.out]; rintro rfl; simp at he'
          · exact HK.out j hj (by omega)⟩
        case measure => simp [intOf]; omega
    · clear hzn
      go_wp2
      go_ret
      exact says_false (fun h => by
        obtain ⟨j, hj, e⟩ := List.mem_iff_getElem.1 h
        exact HK.out j hj (by have := HN.out; omega) e)

set_option maxHeartbeats 400000 in
theorem asc_any (ao : Option Addr) (cap : Nat) (ss : List ByteArray) (w : World) (hs : Src w ao ss) (hl : ss.length ≤ 4096) :
    Calls Trym.prog 10 #[.slice ao ss.length cap] w (SaysDrew (Asc ss) w) := by
  have HS := hid hs
  clear hs
  obtain ⟨n, hn⟩ : ∃ n, ss.length = n := ⟨_, rfl⟩
  have HN := hid hn
  rw [hn] at hl ⊢
  clear hn
  go_enter Trym.func10, Trym.ntmps10
  go_wp2
  go_loopw [3] (fun i wr => ∃ k : Nat, i = .int .i64 ((k : Int) + 1) ∧ k ≤ n ∧ Hid (∀ j (h : j + 1 < ss.length), j < k → Op.bytesLess (ss[j]).toList (ss[j + 1]).toList = true) ∧ ∃ q, wr = w.drewN q) (fun i _ => n + 1 - (intOf i).toNat)
  case atStart => exact ⟨0, rfl, by omega, fun j _ h => by omega, 0, rfl⟩
  case round =>
    obtain ⟨k, rfl, hk, HK, q, rfl⟩ := hrel
    have hzn := HN.out
    by_cases hlt : k + 1 < n
    · have hkl : k + 1 < ss.length := by omega
      have hk0 : k < ss.length := by omega
      obtain ⟨b, o, rfl, _, hc⟩ := HS.out.row (by intro e; rw [e] at hkl; simp at hkl)
      obtain ⟨s, hs⟩ : ∃ s, ss[k]'hk0 = s := ⟨_, rfl⟩
      obtain ⟨t, ht⟩ : ∃ t, ss[k + 1] = t := ⟨_, rfl⟩
      have hcs : w.cell? ⟨b, o + k, none⟩ = some (.string s) := by rw [hc k (by omega), hs]
      have hct : w.cell? ⟨b, o + (k + 1), none⟩ = some (.string t) := by rw [hc (k + 1) hkl, ht]
      have HSS := hid (And.intro hs ht)
      have hltI : (k : Int) + 1 < (n : Int) := by omega
      have hltJ : (k : Int) < (n : Int) := by omega
      clear hs ht hc hzn HS
      by_cases he : Op.bytesLess s.toList t.toList = true
      · go_wp2
        go_quiet (fail)
        go_wp2
        go_roundw
        case rel => exact ⟨k + 1, by go_num, by omega, fun j hj h => by
          by_cases e : j = k
          · subst e; rw [HSS.out.1, HSS.out.2]; exact he
          · exact HK.out j hj (by omega), _, rfl⟩
        case measure => simp [intOf]; omega
      · have he' : Op.bytesLess s.toList t.toList = false := by simpa using he
        go_wp2
        go_quiet (fail)
        go_wp2
        go_ret
        rw [World.drewN_drewN]
        refine saysD_false (p := Asc ss) _ ?_
        intro h
        have := h k hkl
        rw [HSS.out.1, HSS.out.2] at this
        exact he this
    · clear hzn
      go_wp2
      go_ret
      exact saysD_true q (fun j hj => HK.out j hj (by have := HN.out; omega))

/-- Another of the entries has the same string. -/
def Shared (ss : List ByteArray) (i : Nat) : Prop := ∃ j, ∃ h : j < ss.length, ∃ h2 : i < ss.length, j ≠ i ∧ ss[j] = ss[i]

set_option maxHeartbeats 400000 in
theorem shared_any (ao : Option Addr) (m cap : Nat) (ss : List ByteArray) (i : Nat) (w : World) (hs : Src w ao ss) (hl : ss.length ≤ 4096) (hi : i < ss.length) (hm : ss.length ≤ m) :
    Calls Trym.prog 15 #[.slice ao m cap, .int .i64 ss.length, .int .i64 i] w (SaysDrew (Shared ss i) w) := by
  have HS := hid hs
  clear hs
  obtain ⟨n, hn⟩ : ∃ n, ss.length = n := ⟨_, rfl⟩
  have HN := hid hn
  have hI := hid hi
  rw [hn] at hl hm hi ⊢
  clear hn
  go_enter Trym.func15, Trym.ntmps15
  go_wp2
  go_loopw [7] (fun x wr => ∃ k : Nat, x = .int .i64 k ∧ k ≤ n ∧ Hid (∀ j (h : j < ss.length), j < k → j ≠ i → ss[j] ≠ ss[i]'hI.out) ∧ ∃ q, wr = w.drewN q) (fun x _ => n - (intOf x).toNat)
  case atStart => exact ⟨0, rfl, by omega, fun j _ h => by omega, 0, rfl⟩
  case round =>
    obtain ⟨k, rfl, hk, HK, q, rfl⟩ := hrel
    have hzn := HN.out
    by_cases hlt : k < n
    · have hkl : k < ss.length := by omega
      obtain ⟨b, o, rfl, _, hc⟩ := HS.out.row (by intro e; rw [e] at hkl; simp at hkl)
      obtain ⟨s, hs⟩ : ∃ s, ss[k] = s := ⟨_, rfl⟩
      obtain ⟨t, ht⟩ : ∃ t, ss[i]'hI.out = t := ⟨_, rfl⟩
      have hcs : w.cell? ⟨b, o + k, none⟩ = some (.string s) := by rw [hc k (by omega), hs]
      have hct : w.cell? ⟨b, o + i, none⟩ = some (.string t) := by rw [hc i hI.out, ht]
      have HSS := hid (And.intro hs ht)
      have hltI : (k : Int) < (m : Int) := by omega
      have hltJ : (i : Int) < (m : Int) := by omega
      clear hs ht hc hzn HS
      by_cases hki : k = i
      · have hb : ((k : Int) != (i : Int)) = false := by rw [hki]; simp
        have HKI := hid hki
        clear hki
        go_wp2
        go_quiet (fail)
        go_wp2
        go_roundw
        case rel => exact ⟨k + 1, by go_num, by omega, fun j hj h hne => HK.out j hj (by have := HKI.out; omega) hne, _, rfl⟩
        case measure => simp [intOf]; omega
      · have hb : ((k : Int) != (i : Int)) = true := by rw [bne_iff_ne]; omega
        by_cases he : (s.toList == t.toList) = true
        · go_wp2
          go_quiet (fail)
          go_wp2
          go_ret
          rw [World.drewN_drewN]
          refine saysD_true (p := Shared ss i) _ ?_
          exact ⟨k, hkl, hI.out, hki, by rw [HSS.out.1, HSS.out.2]; exact beq_inj he⟩
        · have he' : (s.toList == t.toList) = false := by simpa using he
          go_wp2
          go_quiet (fail)
          go_wp2
          go_roundw
          case rel => exact ⟨k + 1, by go_num, by omega, fun j hj h hne => by
            by_cases e : j = k
            · subst e; rw [HSS.out.1, HSS.out.2]; rintro rfl; simp at he'
            · exact HK.out j hj (by omega) hne, _, rfl⟩
          case measure => simp [intOf]; omega
    · clear hzn
      go_wp2
      go_ret
      refine saysD_false (p := Shared ss i) q ?_
      intro h
      obtain ⟨j, h1, h2, h3, h4⟩ := h
      exact HK.out j h1 (by have := HN.out; omega) h3 h4
end Go.Proofs.Qxb6600077aMods
