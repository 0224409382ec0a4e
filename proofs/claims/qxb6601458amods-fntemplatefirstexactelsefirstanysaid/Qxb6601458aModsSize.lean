/- sizeOf (19), fitsOne (7). -/
import Derived.Test.Qxb6601458aModsFirst
namespace Go.Proofs.Qxb6601458aMods
open Go.RowKit

def Small (T : Nat → Tm) (n : Nat) : Prop := n ≤ 65536 ∧ ∀ j, j < n → (T j).cn ≤ 65536

/-- What sizeOf leaves. -/
def SizeLeft (T : Nat → Tm) (n : Nat) (w : World) (e : Ending) (w' : World) : Prop := ∃ (z : Int) (b : Bool), e = .returned (.tuple #[.int .i64 z, .bool b]) ∧ 0 ≤ z ∧ (b = true → Small T n) ∧ w = w'

theorem sizeLeft_no (T : Nat → Tm) (n : Nat) (w : World) : SizeLeft T n w (.returned (.tuple #[.int .i64 0, .bool false])) w := ⟨0, false, rfl, by omega, (fun h => by cases h), rfl⟩

set_option maxRecDepth 100000 in
set_option maxHeartbeats 4000000 in
theorem size_any (ao : Option Addr) (n cap : Nat) (T : Nat → Tm) (w : World) (hs : TSrc w ao n T) (hl : n ≤ maxLen) :
    Calls Trym.prog 19 #[.slice ao n cap] w (SizeLeft T n w) := by
  unfold maxLen at hl
  have HS := hid hs
  clear hs
  by_cases hbig : 65536 < n
  · go_enter Trym.func19, Trym.ntmps19
    go_wp2
    refine bodyPost_ret (v := .tuple #[.int .i64 0, .bool false]) (by simp [results, Trym.results19, go_sem]) rfl ?_
    exact sizeLeft_no T n w
  go_enter Trym.func19, Trym.ntmps19
  go_wp2
  go_loop [4, 5, 6, 7] (fun s4 s5 _ _ => ∃ (k : Nat) (z : Int), s4 = .int .i64 z ∧ s5 = .int .i64 k ∧ k ≤ n ∧ 0 ≤ z ∧ Hid (∀ j, j < k → (T j).cn ≤ 65536)) (fun _ s5 _ _ => n - (intOf s5).toNat)
  case atStart => exact ⟨0, 0, rfl, rfl, by omega, by omega, fun j h => by omega⟩
  case round =>
    obtain ⟨k, z, rfl, rfl, hk, hz, HK⟩ := hrel
    by_cases hlt : k < n
    · obtain ⟨b, o, rfl, _, hc⟩ := HS.out.row (by omega)
      have hT := hc k hlt
      obtain ⟨t, ht⟩ : ∃ t, T k = t := ⟨_, rfl⟩
      have HKT := hid ht
      rw [ht] at hT
      clear ht hc
      obtain ⟨ver, ann, vol, ca, cn, cc, ct⟩ := t
      obtain ⟨h0, h1, h2, h3, h4, h5⟩ := hT
      simp only at h0 h1 h2 h3 h4 h5
      unfold maxLen at h5
      have HC := hid h4
      clear h4
      go_wp2_with fail
      refine (add_any z 8 w hz (by omega)).mono ?_
      rintro e w' ⟨⟨z1, rfl, hz1, _⟩, rfl⟩
      go_wp2_with fail
      refine (add_any z1 ver.size w hz1 (by omega)).mono ?_
      rintro e w' ⟨⟨z2, rfl, hz2, _⟩, rfl⟩
      go_wp2_with fail
      refine (add_any z2 ann.size w hz2 (by omega)).mono ?_
      rintro e w' ⟨⟨z3, rfl, hz3, _⟩, rfl⟩
      go_wp2_with fail
      refine (add_any z3 vol.size w hz3 (by omega)).mono ?_
      rintro e w' ⟨⟨z4, rfl, hz4, _⟩, rfl⟩
      by_cases hm : 1048576 < z4
      · go_wp2
        refine bodyPost_ret (v := .tuple #[.int .i64 0, .bool false]) (by simp [results, Trym.results19, go_sem]) rfl ?_
        exact sizeLeft_no T n w
      by_cases hcn : 65536 < cn
      · have hcn' : (65536 : Int) < (cn : Int) := by omega
        go_wp2
        refine bodyPost_ret (v := .tuple #[.int .i64 0, .bool false]) (by simp [results, Trym.results19, go_sem]) rfl ?_
        exact sizeLeft_no T n w
      have HK2 : Hid (∀ j, j < k + 1 → (T j).cn ≤ 65536) := by
        intro j hj
        by_cases e : j = k
        · subst e; rw [HKT.out]; simp only; omega
        · exact HK.out j (by omega)
      clear HK HKT
      have hcn' : ¬ (65536 : Int) < (cn : Int) := by omega
      go_wp2
      go_loop [4, 7] (fun s4 s7 => ∃ (m : Nat) (y : Int), s4 = .int .i64 y ∧ s7 = .int .i64 m ∧ m ≤ cn ∧ 0 ≤ y) (fun _ s7 => cn - (intOf s7).toNat)
      case atStart => exact ⟨0, z4, rfl, rfl, by omega, hz4⟩
      case round =>
        obtain ⟨m, y, rfl, rfl, hm2, hy⟩ := hrel
        by_cases hmlt : m < cn
        · obtain ⟨b2, o2, rfl, _, hc2⟩ := HC.out.row (by omega)
          have hC := hc2 m hmlt
          obtain ⟨c, hce⟩ : ∃ c, ct m = c := ⟨_, rfl⟩
          rw [hce] at hC
          clear hce hc2
          obtain ⟨cp, cnm, cen, cvm⟩ := c
          obtain ⟨g0, g1, g2, g3⟩ := hC
          simp only at g0 g1 g2 g3
          go_wp2_with fail
          refine (add_any y 8 w hy (by omega)).mono ?_
          rintro e w' ⟨⟨y1, rfl, hy1, _⟩, rfl⟩
          go_wp2_with fail
          refine (add_any y1 cp.size w hy1 (by omega)).mono ?_
          rintro e w' ⟨⟨y2, rfl, hy2, _⟩, rfl⟩
          go_wp2_with fail
          refine (add_any y2 cnm.size w hy2 (by omega)).mono ?_
          rintro e w' ⟨⟨y3, rfl, hy3, _⟩, rfl⟩
          go_wp2_with fail
          refine (add_any y3 cen.size w hy3 (by omega)).mono ?_
          rintro e w' ⟨⟨y4, rfl, hy4, _⟩, rfl⟩
          go_wp2_with fail
          refine (add_any y4 cvm.size w hy4 (by omega)).mono ?_
          rintro e w' ⟨⟨y5, rfl, hy5, _⟩, rfl⟩
          by_cases hym : 1048576 < y5
          · go_wp2
            refine bodyPost_ret (v := .tuple #[.int .i64 0, .bool false]) (by simp [results, Trym.results19, go_sem]) rfl ?_
            exact sizeLeft_no T n w
          · go_wp2
            go_round
            case rel => exact ⟨m + 1, y5, rfl, by go_num, by omega, hy5⟩
            case measure => simp [intOf]; omega
        · go_wp2
          go_round
          case rel => exact ⟨k + 1, y, rfl, by go_num, by omega, hy, HK2.out⟩
          case measure => simp [intOf]; omega
    · go_wp2
      refine bodyPost_ret (v := .tuple #[.int .i64 z, .bool true]) (by simp [results, Trym.results19, go_sem]) rfl ?_
      exact ⟨z, true, rfl, hz, fun _ => ⟨by omega, fun j hj => HK.out j (by omega)⟩, rfl⟩

/-- fitsOne: it answers; true: all is small. -/
def FitsLeft (T : Nat → Tm) (n : Nat) (w : World) (e : Ending) (w' : World) : Prop := ∃ b : Bool, e = .returned (.bool b) ∧ (b = true → Small T n) ∧ w = w'

theorem fits_any (ao : Option Addr) (n cap : Nat) (x : Int) (T : Nat → Tm) (w : World) (hs : TSrc w ao n T) (hl : n ≤ maxLen) (hx : 0 ≤ x) :
    Calls Trym.prog 7 #[.slice ao n cap, .int .i64 x] w (FitsLeft T n w) := by
  have HS := hid (size_any ao n cap T w hs hl)
  clear hs hl
  by_cases hbig : 1048576 < x
  · go_enter Trym.func7, Trym.ntmps7
    go_wp2
    go_ret
    exact ⟨false, rfl, (fun h => by cases h), rfl⟩
  go_enter Trym.func7, Trym.ntmps7
  go_wp2_with fail
  refine HS.out.mono ?_
  rintro e w' ⟨z, b, rfl, hz, hb, rfl⟩
  have HB := hid hb
  clear hb
  cases b
  · go_wp2
    go_ret
    exact ⟨false, rfl, (fun h => by cases h), rfl⟩
  · go_wp2_with fail
    refine (add_any z x w hz hx).mono ?_
    rintro e w' ⟨⟨z1, rfl, hz1, _⟩, rfl⟩
    go_wp2
    go_ret
    exact ⟨_, rfl, fun _ => HB.out trivial, rfl⟩

end Go.Proofs.Qxb6601458aMods
