import Derived.Test.Qxb6000365aModsRows
import Derived.Test.Qxb6000365aModsBag
import Derived.WalkKit
import Derived.WalkSpells
import Derived.Lib.SliceRun
import Derived.Deep.QuietTactic
import Derived.BigQuiet
import Derived.RegionTactic
import Derived.BigRegion
namespace Go.Proofs.Qxb6000365aMods
open Go.RowKit

theorem Src.drewN {w : World} {ao : Option Addr} {ss : List ByteArray} (h : Src w ao ss) (q : Nat) : Src (w.drewN q) ao ss := ⟨h.nil, h.row⟩

/-- It answers true, and only draws. -/
def TrueDrew (w : World) (e : Ending) (w' : World) : Prop := e = .returned (.bool true) ∧ ∃ m, w' = w.drewN m

set_option maxHeartbeats 400000 in
theorem same_any (a b : Option Addr) (c d : Nat) (ss : List ByteArray) (w : World) (ha : Src w a ss) (hb : Src w b ss) (hn : a = none ↔ b = none) (hl : ss.length ≤ 65536) :
    Calls Trym.prog 15 #[.slice a ss.length c, .slice b ss.length d] w (TrueDrew w) := by
  have hnil := fun (w : World) (a : Option Addr) (n c : Nat) => Lib.run_eql_slice_nil (P := Trym.prog) w 22 9 a n c 0 0 Trym.underlying22
  have hab : a.isNone = b.isNone := by
    cases a with
    | none => rw [hn.1 rfl]
    | some x => cases b with
      | none => exact absurd (hn.2 rfl) (by simp)
      | some y => rfl
  clear hn
  obtain ⟨t, ht, hbt⟩ : ∃ t : Bool, a.isNone = t ∧ b.isNone = t := ⟨_, rfl, hab.symm⟩
  clear hab
  have HA : Hid (Src w a ss) := ha
  have HB : Hid (Src w b ss) := hb
  obtain ⟨n, hn⟩ : ∃ n, ss.length = n := ⟨_, rfl⟩
  have HN : Hid (ss.length = n) := hn
  rw [hn] at hl ⊢
  clear hn ha hb
  go_enter Trym.func15, Trym.ntmps15
  go_wp2
  go_loopw [5] (fun i wr => ∃ k : Nat, k ≤ n ∧ i = .int .i64 k ∧ ∃ q, wr = w.drewN q) (fun i _ => n - (intOf i).toNat)
  case atStart => exact ⟨0, Nat.zero_le _, rfl, 0, rfl⟩
  case round =>
    obtain ⟨k, hk, rfl, q, rfl⟩ := hrel
    by_cases hlt : k < n
    · have hkl : k < ss.length := by have := HN.out; omega
      have hne : ss ≠ [] := by intro e; rw [e] at hkl; simp at hkl
      obtain ⟨b1, o1, rfl, _, hc1⟩ := HA.out.row hne
      obtain ⟨b2, o2, rfl, _, hc2⟩ := HB.out.row hne
      obtain ⟨s, hs⟩ : ∃ s, ss[k] = s := ⟨_, rfl⟩
      have h1 : w.cell? ⟨b1, o1 + k, none⟩ = some (.string s) := by rw [hc1 k hkl, hs]
      have h2 : w.cell? ⟨b2, o2 + k, none⟩ = some (.string s) := by rw [hc2 k hkl, hs]
      have hltI : (k : Int) < (n : Int) := by omega
      clear hs hc1 hc2 HA HB HN hnil ht hbt hne
      go_wp2
      go_quiet (fail)
      go_wp2
      go_roundw
      case rel => exact ⟨k + 1, by omega, by go_num, _, rfl⟩
      case measure => simp [intOf]; omega
    · go_wp2
      go_ret
      exact ⟨rfl, q, rfl⟩

set_option maxHeartbeats 4000000 in
set_option maxRecDepth 100000 in
theorem fields_any (b : Nat) (a0 a1 a2 a3 a4 a5 a6 : Option Addr) (n0 n1 n2 n3 n4 n5 n6 c0 c1 c2 c3 c4 c5 c6 : Nat) (w : World) (hb : b < w.heap.size)
    (h0 : w.cell? ⟨b, 0, none⟩ = some (.slice a0 n0 c0))
    (h1 : w.cell? ⟨b, 1, none⟩ = some (.slice a1 n1 c1))
    (h2 : w.cell? ⟨b, 2, none⟩ = some (.slice a2 n2 c2))
    (h3 : w.cell? ⟨b, 3, none⟩ = some (.slice a3 n3 c3))
    (h4 : w.cell? ⟨b, 4, none⟩ = some (.slice a4 n4 c4))
    (h5 : w.cell? ⟨b, 5, none⟩ = some (.slice a5 n5 c5))
    (h6 : w.cell? ⟨b, 6, none⟩ = some (.slice a6 n6 c6)) :
    Calls Trym.prog 13 #[.pointer (some ⟨b, 0, none⟩)] w fun e w' => e = .returned (.agg #[.slice a0 n0 c0, .slice a1 n1 c1, .slice a2 n2 c2, .slice a3 n3 c3, .slice a4 n4 c4, .slice a5 n5 c5, .slice a6 n6 c6]) ∧ Below w.heap.size w w' := by
  go_enter Trym.func13, Trym.ntmps13
  go_wp2
  go_region
  go_wp2
  refine bodyPost_ret (v := .agg #[.slice a0 n0 c0, .slice a1 n1 c1, .slice a2 n2 c2, .slice a3 n3 c3, .slice a4 n4 c4, .slice a5 n5 c5, .slice a6 n6 c6]) (by simp [results, Trym.results13, go_sem]) rfl ⟨rfl, ?_⟩
  exact ((Below.refl _ _).alloc (Nat.le_refl _) _).drew
end Go.Proofs.Qxb6000365aMods
