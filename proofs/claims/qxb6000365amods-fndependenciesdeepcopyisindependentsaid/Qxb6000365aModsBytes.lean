import Derived.Test.Qxb6000365aModsRows
import Derived.Test.Qxb6000365aModsBag
import Derived.WalkKit
import Derived.WalkSpells
import Derived.Lib.SliceRun
import Derived.Deep.QuietTactic
import Derived.BigQuiet
namespace Go.Proofs.Qxb6000365aMods
open Go.RowKit


/-- It answers, whatever; the world stands. -/
def AnyBool (w : World) (e : Ending) (w' : World) : Prop := ∃ b, e = .returned (.bool b) ∧ w = w'

set_option maxHeartbeats 4000000 in
set_option maxRecDepth 100000 in
theorem bytes33_any (a0 a1 a2 a3 a4 a5 a6 a7 : Option Addr) (c0 c1 c2 c3 c4 c5 c6 c7 : Nat) (s0 s1 s2 s3 s4 s5 s6 s7 : List ByteArray) (w : World)
    (h0 : Src w a0 s0) (l0 : s0.length ≤ maxLen) (h1 : Src w a1 s1) (l1 : s1.length ≤ maxLen) (h2 : Src w a2 s2) (l2 : s2.length ≤ maxLen) (h3 : Src w a3 s3) (l3 : s3.length ≤ maxLen) (h4 : Src w a4 s4) (l4 : s4.length ≤ maxLen) (h5 : Src w a5 s5) (l5 : s5.length ≤ maxLen) (h6 : Src w a6 s6) (l6 : s6.length ≤ maxLen) (h7 : Src w a7 s7) (l7 : s7.length ≤ maxLen) :
    Calls Trym.prog 33 #[.slice a0 s0.length c0, .slice a1 s1.length c1, .slice a2 s2.length c2, .slice a3 s3.length c3, .slice a4 s4.length c4, .slice a5 s5.length c5, .slice a6 s6.length c6, .slice a7 s7.length c7] w (AnyBool w) := by
  unfold maxLen at l0 l1 l2 l3 l4 l5 l6 l7
  have H0 : Hid (Src w a0 s0) := h0
  have N0 : Hid (∃ n, s0.length = n ∧ n ≤ 9223372036854775807) := ⟨_, rfl, by omega⟩
  clear h0
  have H1 : Hid (Src w a1 s1) := h1
  have N1 : Hid (∃ n, s1.length = n ∧ n ≤ 9223372036854775807) := ⟨_, rfl, by omega⟩
  clear h1
  have H2 : Hid (Src w a2 s2) := h2
  have N2 : Hid (∃ n, s2.length = n ∧ n ≤ 9223372036854775807) := ⟨_, rfl, by omega⟩
  clear h2
  have H3 : Hid (Src w a3 s3) := h3
  have N3 : Hid (∃ n, s3.length = n ∧ n ≤ 9223372036854775807) := ⟨_, rfl, by omega⟩
  clear h3
  have H4 : Hid (Src w a4 s4) := h4
  have N4 : Hid (∃ n, s4.length = n ∧ n ≤ 9223372036854775807) := ⟨_, rfl, by omega⟩
  clear h4
  have H5 : Hid (Src w a5 s5) := h5
  have N5 : Hid (∃ n, s5.length = n ∧ n ≤ 9223372036854775807) := ⟨_, rfl, by omega⟩
  clear h5
  have H6 : Hid (Src w a6 s6) := h6
  have N6 : Hid (∃ n, s6.length = n ∧ n ≤ 9223372036854775807) := ⟨_, rfl, by omega⟩
  clear h6
  have H7 : Hid (Src w a7 s7) := h7
  have N7 : Hid (∃ n, s7.length = n ∧ n ≤ 9223372036854775807) := ⟨_, rfl, by omega⟩
  clear h7
  obtain ⟨n0, e0, m0⟩ := N0.out
  have E0 : Hid (s0.length = n0) := e0
  rw [e0]
  clear e0 N0 l0
  obtain ⟨n1, e1, m1⟩ := N1.out
  have E1 : Hid (s1.length = n1) := e1
  rw [e1]
  clear e1 N1 l1
  obtain ⟨n2, e2, m2⟩ := N2.out
  have E2 : Hid (s2.length = n2) := e2
  rw [e2]
  clear e2 N2 l2
  obtain ⟨n3, e3, m3⟩ := N3.out
  have E3 : Hid (s3.length = n3) := e3
  rw [e3]
  clear e3 N3 l3
  obtain ⟨n4, e4, m4⟩ := N4.out
  have E4 : Hid (s4.length = n4) := e4
  rw [e4]
  clear e4 N4 l4
  obtain ⟨n5, e5, m5⟩ := N5.out
  have E5 : Hid (s5.length = n5) := e5
  rw [e5]
  clear e5 N5 l5
  obtain ⟨n6, e6, m6⟩ := N6.out
  have E6 : Hid (s6.length = n6) := e6
  rw [e6]
  clear e6 N6 l6
  obtain ⟨n7, e7, m7⟩ := N7.out
  have E7 : Hid (s7.length = n7) := e7
  rw [e7]
  clear e7 N7 l7
  go_enter Trym.func33, Trym.ntmps33
  -- list 0
  go_wp2
  any_goals (go_ret; exact ⟨_, rfl, rfl⟩)
  go_loop [17, 18] (fun sz si => (∃ z : Int, sz = .int .i64 z) ∧ ∃ k : Nat, k ≤ n0 ∧ si = .int .i64 k) (fun _ si => n0 - (intOf si).toNat)
  case atStart => exact ⟨⟨_, rfl⟩, 0, Nat.zero_le _, rfl⟩
  case round =>
  obtain ⟨⟨z0, rfl⟩, k0, hk0, rfl⟩ := hrel
  rcases Nat.lt_or_ge k0 n0 with hlt0 | hge0
  · obtain ⟨b, o, rfl, hb, hc⟩ := H0.out.row (by intro e; have := E0.out; rw [e] at this; simp at this; omega)
    obtain ⟨s, hs⟩ : ∃ s, w.cell? ⟨b, o + k0, none⟩ = some (.string s) := ⟨_, hc k0 (by have := E0.out; omega)⟩
    clear hc
    go_wp2
    any_goals (go_ret; exact ⟨_, rfl, rfl⟩)
    · go_round
      case rel => exact ⟨⟨_, rfl⟩, k0 + 1, by omega, by go_num⟩
      case measure => simp [intOf]; omega
  -- list 1
  go_wp2
  any_goals (go_ret; exact ⟨_, rfl, rfl⟩)
  go_loop [17, 19] (fun sz si => (∃ z : Int, sz = .int .i64 z) ∧ ∃ k : Nat, k ≤ n1 ∧ si = .int .i64 k) (fun _ si => n1 - (intOf si).toNat)
  case atStart => exact ⟨⟨_, rfl⟩, 0, Nat.zero_le _, rfl⟩
  case round =>
  obtain ⟨⟨z1, rfl⟩, k1, hk1, rfl⟩ := hrel
  rcases Nat.lt_or_ge k1 n1 with hlt1 | hge1
  · obtain ⟨b, o, rfl, hb, hc⟩ := H1.out.row (by intro e; have := E1.out; rw [e] at this; simp at this; omega)
    obtain ⟨s, hs⟩ : ∃ s, w.cell? ⟨b, o + k1, none⟩ = some (.string s) := ⟨_, hc k1 (by have := E1.out; omega)⟩
    clear hc
    go_wp2
    any_goals (go_ret; exact ⟨_, rfl, rfl⟩)
    · go_round
      case rel => exact ⟨⟨_, rfl⟩, k1 + 1, by omega, by go_num⟩
      case measure => simp [intOf]; omega
  -- list 2
  go_wp2
  any_goals (go_ret; exact ⟨_, rfl, rfl⟩)
  go_loop [17, 20] (fun sz si => (∃ z : Int, sz = .int .i64 z) ∧ ∃ k : Nat, k ≤ n2 ∧ si = .int .i64 k) (fun _ si => n2 - (intOf si).toNat)
  case atStart => exact ⟨⟨_, rfl⟩, 0, Nat.zero_le _, rfl⟩
  case round =>
  obtain ⟨⟨z2, rfl⟩, k2, hk2, rfl⟩ := hrel
  rcases Nat.lt_or_ge k2 n2 with hlt2 | hge2
  · obtain ⟨b, o, rfl, hb, hc⟩ := H2.out.row (by intro e; have := E2.out; rw [e] at this; simp at this; omega)
    obtain ⟨s, hs⟩ : ∃ s, w.cell? ⟨b, o + k2, none⟩ = some (.string s) := ⟨_, hc k2 (by have := E2.out; omega)⟩
    clear hc
    go_wp2
    any_goals (go_ret; exact ⟨_, rfl, rfl⟩)
    · go_round
      case rel => exact ⟨⟨_, rfl⟩, k2 + 1, by omega, by go_num⟩
      case measure => simp [intOf]; omega
  -- list 3
  go_wp2
  any_goals (go_ret; exact ⟨_, rfl, rfl⟩)
  go_loop [17, 21] (fun sz si => (∃ z : Int, sz = .int .i64 z) ∧ ∃ k : Nat, k ≤ n3 ∧ si = .int .i64 k) (fun _ si => n3 - (intOf si).toNat)
  case atStart => exact ⟨⟨_, rfl⟩, 0, Nat.zero_le _, rfl⟩
  case round =>
  obtain ⟨⟨z3, rfl⟩, k3, hk3, rfl⟩ := hrel
  rcases Nat.lt_or_ge k3 n3 with hlt3 | hge3
  · obtain ⟨b, o, rfl, hb, hc⟩ := H3.out.row (by intro e; have := E3.out; rw [e] at this; simp at this; omega)
    obtain ⟨s, hs⟩ : ∃ s, w.cell? ⟨b, o + k3, none⟩ = some (.string s) := ⟨_, hc k3 (by have := E3.out; omega)⟩
    clear hc
    go_wp2
    any_goals (go_ret; exact ⟨_, rfl, rfl⟩)
    · go_round
      case rel => exact ⟨⟨_, rfl⟩, k3 + 1, by omega, by go_num⟩
      case measure => simp [intOf]; omega
  -- list 4
  go_wp2
  any_goals (go_ret; exact ⟨_, rfl, rfl⟩)
  go_loop [17, 22] (fun sz si => (∃ z : Int, sz = .int .i64 z) ∧ ∃ k : Nat, k ≤ n4 ∧ si = .int .i64 k) (fun _ si => n4 - (intOf si).toNat)
  case atStart => exact ⟨⟨_, rfl⟩, 0, Nat.zero_le _, rfl⟩
  case round =>
  obtain ⟨⟨z4, rfl⟩, k4, hk4, rfl⟩ := hrel
  rcases Nat.lt_or_ge k4 n4 with hlt4 | hge4
  · obtain ⟨b, o, rfl, hb, hc⟩ := H4.out.row (by intro e; have := E4.out; rw [e] at this; simp at this; omega)
    obtain ⟨s, hs⟩ : ∃ s, w.cell? ⟨b, o + k4, none⟩ = some (.string s) := ⟨_, hc k4 (by have := E4.out; omega)⟩
    clear hc
    go_wp2
    any_goals (go_ret; exact ⟨_, rfl, rfl⟩)
    · go_round
      case rel => exact ⟨⟨_, rfl⟩, k4 + 1, by omega, by go_num⟩
      case measure => simp [intOf]; omega
  -- list 5
  go_wp2
  any_goals (go_ret; exact ⟨_, rfl, rfl⟩)
  go_loop [17, 23] (fun sz si => (∃ z : Int, sz = .int .i64 z) ∧ ∃ k : Nat, k ≤ n5 ∧ si = .int .i64 k) (fun _ si => n5 - (intOf si).toNat)
  case atStart => exact ⟨⟨_, rfl⟩, 0, Nat.zero_le _, rfl⟩
  case round =>
  obtain ⟨⟨z5, rfl⟩, k5, hk5, rfl⟩ := hrel
  rcases Nat.lt_or_ge k5 n5 with hlt5 | hge5
  · obtain ⟨b, o, rfl, hb, hc⟩ := H5.out.row (by intro e; have := E5.out; rw [e] at this; simp at this; omega)
    obtain ⟨s, hs⟩ : ∃ s, w.cell? ⟨b, o + k5, none⟩ = some (.string s) := ⟨_, hc k5 (by have := E5.out; omega)⟩
    clear hc
    go_wp2
    any_goals (go_ret; exact ⟨_, rfl, rfl⟩)
    · go_round
      case rel => exact ⟨⟨_, rfl⟩, k5 + 1, by omega, by go_num⟩
      case measure => simp [intOf]; omega
  -- list 6
  go_wp2
  any_goals (go_ret; exact ⟨_, rfl, rfl⟩)
  go_loop [17, 24] (fun sz si => (∃ z : Int, sz = .int .i64 z) ∧ ∃ k : Nat, k ≤ n6 ∧ si = .int .i64 k) (fun _ si => n6 - (intOf si).toNat)
  case atStart => exact ⟨⟨_, rfl⟩, 0, Nat.zero_le _, rfl⟩
  case round =>
  obtain ⟨⟨z6, rfl⟩, k6, hk6, rfl⟩ := hrel
  rcases Nat.lt_or_ge k6 n6 with hlt6 | hge6
  · obtain ⟨b, o, rfl, hb, hc⟩ := H6.out.row (by intro e; have := E6.out; rw [e] at this; simp at this; omega)
    obtain ⟨s, hs⟩ : ∃ s, w.cell? ⟨b, o + k6, none⟩ = some (.string s) := ⟨_, hc k6 (by have := E6.out; omega)⟩
    clear hc
    go_wp2
    any_goals (go_ret; exact ⟨_, rfl, rfl⟩)
    · go_round
      case rel => exact ⟨⟨_, rfl⟩, k6 + 1, by omega, by go_num⟩
      case measure => simp [intOf]; omega
  -- list 7
  go_wp2
  any_goals (go_ret; exact ⟨_, rfl, rfl⟩)
  go_loop [17, 25] (fun sz si => (∃ z : Int, sz = .int .i64 z) ∧ ∃ k : Nat, k ≤ n7 ∧ si = .int .i64 k) (fun _ si => n7 - (intOf si).toNat)
  case atStart => exact ⟨⟨_, rfl⟩, 0, Nat.zero_le _, rfl⟩
  case round =>
  obtain ⟨⟨z7, rfl⟩, k7, hk7, rfl⟩ := hrel
  rcases Nat.lt_or_ge k7 n7 with hlt7 | hge7
  · obtain ⟨b, o, rfl, hb, hc⟩ := H7.out.row (by intro e; have := E7.out; rw [e] at this; simp at this; omega)
    obtain ⟨s, hs⟩ : ∃ s, w.cell? ⟨b, o + k7, none⟩ = some (.string s) := ⟨_, hc k7 (by have := E7.out; omega)⟩
    clear hc
    go_wp2
    any_goals (go_ret; exact ⟨_, rfl, rfl⟩)
    · go_round
      case rel => exact ⟨⟨_, rfl⟩, k7 + 1, by omega, by go_num⟩
      case measure => simp [intOf]; omega
  go_wp2
  go_ret
  exact ⟨_, rfl, rfl⟩

end Go.Proofs.Qxb6000365aMods
