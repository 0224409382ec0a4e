/- zzBytes (6): it answers, whatever; the world stands. -/
import Derived.Test.Qxb6601458aModsFirst
namespace Go.Proofs.Qxb6601458aMods
open Go.RowKit

def AnyBool (w : World) (e : Ending) (w' : World) : Prop := ∃ b, e = .returned (.bool b) ∧ w = w'

set_option maxHeartbeats 4000000 in
set_option maxRecDepth 100000 in
theorem bytes_any (ao : Option Addr) (n cap : Nat) (T : Nat → Tm) (v : ByteArray) (w : World) (hs : TSrc w ao n T) (hl : n ≤ maxLen) :
    Calls Trym.prog 6 #[.slice ao n cap, .string v] w (AnyBool w) := by
  unfold maxLen at hl
  have HS := hid hs
  clear hs
  go_enter Trym.func6, Trym.ntmps6
  go_wp2
  any_goals (go_ret; exact ⟨_, rfl, rfl⟩)
  go_loop [5, 6, 7] (fun sz si _ => (∃ z : Int, sz = .int .i64 z) ∧ ∃ k : Nat, k ≤ n ∧ si = .int .i64 k) (fun _ si _ => n - (intOf si).toNat)
  case atStart => exact ⟨⟨_, rfl⟩, 0, Nat.zero_le _, rfl⟩
  case round =>
  obtain ⟨⟨z, rfl⟩, k, hk, rfl⟩ := hrel
  rcases Nat.lt_or_ge k n with hlt | hge
  · obtain ⟨b, o, rfl, _, hc⟩ := HS.out.row (by omega)
    have hT := hc k hlt
    obtain ⟨t, ht⟩ : ∃ t, T k = t := ⟨_, rfl⟩
    rw [ht] at hT
    clear ht hc
    obtain ⟨ver, ann, vol, ca, cn, cc, ct⟩ := t
    obtain ⟨h0, h1, h2, h3, h4, h5⟩ := hT
    simp only at h0 h1 h2 h3 h4 h5
    unfold maxLen at h5
    have HC := hid h4
    clear h4
    go_wp2
    any_goals (go_ret; exact ⟨_, rfl, rfl⟩)
    go_loop [5, 7] (fun sz si => (∃ z : Int, sz = .int .i64 z) ∧ ∃ m : Nat, m ≤ cn ∧ si = .int .i64 m) (fun _ si => cn - (intOf si).toNat)
    case atStart => exact ⟨⟨_, rfl⟩, 0, Nat.zero_le _, rfl⟩
    case round =>
    obtain ⟨⟨z2, rfl⟩, m, hm, rfl⟩ := hrel
    rcases Nat.lt_or_ge m cn with hmlt | hmge
    · obtain ⟨b2, o2, rfl, _, hc2⟩ := HC.out.row (by omega)
      have hC := hc2 m hmlt
      obtain ⟨c, hce⟩ : ∃ c, ct m = c := ⟨_, rfl⟩
      rw [hce] at hC
      clear hce hc2
      obtain ⟨cp, cnm, cen, cvm⟩ := c
      obtain ⟨g0, g1, g2, g3⟩ := hC
      simp only at g0 g1 g2 g3
      go_wp2
      any_goals (go_ret; exact ⟨_, rfl, rfl⟩)
      · go_round
        case rel => exact ⟨⟨_, rfl⟩, m + 1, by omega, by go_num⟩
        case measure => simp [intOf]; omega
    · go_wp2
      any_goals (go_ret; exact ⟨_, rfl, rfl⟩)
      · go_round
        case rel => exact ⟨⟨_, rfl⟩, k + 1, by omega, by go_num⟩
        case measure => simp [intOf]; omega
  · go_wp2
    all_goals (go_ret; exact ⟨_, rfl, rfl⟩)

end Go.Proofs.Qxb6601458aMods
