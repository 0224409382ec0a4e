import Derived.Test.Qxb6000365aModsRows
import Derived.Test.Qxb6000365aModsBag
import Derived.WalkKit
import Derived.WalkSpells
import Derived.Lib.SliceRun
import Derived.Deep.QuietTactic
import Derived.BigQuiet
namespace Go.Proofs.Qxb6000365aMods
open Go.RowKit

theorem Trym.info9 : (Trym.prog.info? 9).map (fun i => (i.zero, i.size, i.bytes)) = some (some (.string ByteArray.empty), 1, 16) := by kernel_rfl

/-- What the clone leaves. -/
def CloneLeft (w : World) (ao : Option Addr) (ss : List ByteArray) (e : Ending) (w' : World) : Prop :=
  ∃ ao', e = .returned (.slice ao' ss.length ss.length) ∧ (ao' = none ↔ ao = none) ∧ VRow w' ao' ss ∧ Below w.heap.size w w' ∧ ∀ g, ao' = some ⟨g, 0, none⟩ → w.heap.size ≤ g

set_option maxHeartbeats 400000 in
theorem clone_any (ao : Option Addr) (cap : Nat) (ss : List ByteArray) (w : World) (hs : Src w ao ss) (hl : ss.length ≤ 65536) :
    Calls Trym.prog 11 #[.slice ao ss.length cap] w (CloneLeft w ao ss) := by
  obtain ⟨i0, hi, hz0, hz1, hz2⟩ := info_parts Trym.info9
  have hnil := fun (w : World) (a : Option Addr) (n c : Nat) => Lib.run_eql_slice_nil (P := Trym.prog) w 22 9 a n c 0 0 Trym.underlying22
  cases ao with
  | none =>
    have h0 := hs.nil rfl
    subst h0
    go_enter Trym.func11, Trym.ntmps11
    go_wp2
    go_ret
    exact ⟨none, rfl, Iff.rfl, Or.inl ⟨rfl, rfl⟩, Below.refl _ _, fun g hg => (by cases hg)⟩
  | some a =>
    obtain ⟨n, hn⟩ : ∃ n, ss.length = n := ⟨_, rfl⟩
    rw [hn]
    have HN : Hid (ss.length = n) := hn
    have hn4 : n ≤ 65536 := by omega
    have HS : Hid (Src w (some a) ss) := hs
    clear hs hn hl
    go_enter Trym.func11, Trym.ntmps11
    go_wp2_with (at_make; refine wpList_make_full w rfl _ _ 22 rfl w.heap.size 9 i0 (.string ByteArray.empty) 1 Trym.underlying22 hi hz0 hz1 .i64 .i64 _ _ n rfl rfl rfl rfl (by rw [hz2]; omega) (by unfold maxLen; omega) (Nat.le_refl _) ?_; intro w1 ho1 hg1)
    have hz9 : (madeCells (Value.string ByteArray.empty).cells (n * 1)).toList = List.replicate n (.string ByteArray.empty) := by rw [Nat.mul_one]; exact toList_madeCells_one _ n
    rw [hz9] at ho1
    clear hz9
    have hb1 : Below w.heap.size w w1 := (Below.refl _ _).grown hg1 (Nat.le_refl _) (by intro k hk; cases hk)
    clear hg1
    go_loopw [4] (fun i wr => ∃ k : Nat, k ≤ n ∧ i = .int .i64 k ∧ wr.ownsRow w.heap.size 9 1 (.slice (some ⟨w.heap.size, 0, none⟩) n n) n (strs (ss.take k) ++ List.replicate (n - k) (.string ByteArray.empty)) ∧ Below w.heap.size w wr) (fun i _ => n - (intOf i).toNat)
    case atStart => exact ⟨0, Nat.zero_le _, rfl, by simpa [strs] using ho1, hb1⟩
    case round =>
      obtain ⟨k, hk, rfl, hok, hbk⟩ := hrel
      have hzn := HN.out
      by_cases hlt : k < n
      · obtain ⟨b, o, ha, hb, hc⟩ := HS.out.row (by intro e; rw [e] at hzn; simp at hzn; omega)
        injection ha with ha
        subst ha
        obtain ⟨z, hz⟩ : ∃ z, ss[k]'(by omega) = z := ⟨_, rfl⟩
        have hcz : wr.cell? ⟨b, o + k, none⟩ = some (.string z) := (hbk.cell (p := ⟨b, o + k, none⟩) hb).trans (by rw [hc k (by omega), hz])
        have hcg : wr.cell? ⟨w.heap.size, k, none⟩ = some (.string ByteArray.empty) := by
          rw [hok.cellAt k (by omega), List.getElem?_append_right (by rw [strs_len, List.length_take]; omega)]
          rw [strs_len, List.length_take, hzn, Nat.min_eq_left hk, Nat.sub_self, List.getElem?_replicate, if_pos (by omega)]
        have hfg := hok.frozenAt k
        have R := own_copy hzn hlt hok
        rw [hz] at R
        have RB := hbk.setCell (p := ⟨w.heap.size, k, none⟩) (Nat.le_refl _) (.string z)
        have HR : Hid (_ ∧ _) := ⟨R, RB⟩
        clear R RB hok hbk hz hc HS HN hzn
        go_wp2
        go_roundw
        case rel => exact ⟨k + 1, by omega, by go_num, HR.out.1, HR.out.2⟩
        case measure => simp [intOf]; omega
      · have ek : k = n := by omega
        subst ek
        clear hlt
        go_wp2
        go_ret
        refine ⟨some ⟨w.heap.size, 0, none⟩, by rw [hzn]; rfl, by simp, ?_, hbk, ?_⟩
        · have e : strs (ss.take k) ++ List.replicate (k - k) (.string ByteArray.empty) = strs ss := by
            rw [Nat.sub_self, List.replicate_zero, List.append_nil, List.take_of_length_le (by omega)]
          rw [e] at hok
          exact VRow.of_own hok
        · intro g hg
          injection hg with hg
          injection hg with hg
          omega

/-- What strsBytes leaves. -/
def BytesLeft (ss : List ByteArray) (w : World) (e : Ending) (w' : World) : Prop :=
  ∃ z, e = .returned (.int .i64 z) ∧ 0 ≤ z ∧ z ≤ 1048577 ∧ (z ≤ 1048576 → ∀ s ∈ ss, s.size ≤ 1048576) ∧ w = w'

theorem bytesLeft_much (ss : List ByteArray) (w : World) : BytesLeft ss w (.returned (.int .i64 1048577)) w := ⟨1048577, rfl, by omega, by omega, fun h => by omega, rfl⟩

set_option maxHeartbeats 400000 in
theorem strsBytes_any (ao : Option Addr) (cap : Nat) (ss : List ByteArray) (w : World) (hs : Src w ao ss) (hl : ss.length ≤ maxLen) :
    Calls Trym.prog 39 #[.slice ao ss.length cap] w (BytesLeft ss w) := by
  unfold maxLen at hl
  by_cases hbig : 65536 < ss.length
  · go_enter Trym.func39, Trym.ntmps39
    go_wp2
    go_ret
    exact bytesLeft_much ss w
  · have HS : Hid (Src w ao ss) := hs
    clear hs
    obtain ⟨n, hn⟩ : ∃ n, ss.length = n := ⟨_, rfl⟩
    have HN : Hid (ss.length = n) := hn
    rw [hn] at hl hbig ⊢
    clear hn
    go_enter Trym.func39, Trym.ntmps39
    go_wp2
    go_loop [3, 4] (fun s3 s4 => ∃ (k : Nat) (z : Int), s3 = .int .i64 z ∧ s4 = .int .i64 k ∧ k ≤ n ∧ 0 ≤ z ∧ z ≤ 1048576 ∧ Hid (∀ j (hj : j < ss.length), j < k → (ss[j]).size ≤ 1048576)) (fun _ s4 => n - (intOf s4).toNat)
    case atStart => exact ⟨0, 0, rfl, rfl, by omega, by omega, by omega, fun j _ h => by omega⟩
    case round =>
      obtain ⟨k, z, rfl, rfl, hk, hz0, hz1, HK⟩ := hrel
      have hzn := HN.out
      by_cases hlt : k < n
      · obtain ⟨b, o, rfl, hb, hc⟩ := HS.out.row (by intro e; rw [e] at hzn; simp at hzn; omega)
        have hkl : k < ss.length := by omega
        obtain ⟨s, hs⟩ : ∃ s, ss[k] = s := ⟨_, rfl⟩
        have hcs : w.cell? ⟨b, o + k, none⟩ = some (.string s) := by rw [hc k hkl, hs]
        have HSS : Hid (ss[k] = s) := hs
        clear hs hc hzn
        by_cases h1 : 1048576 < s.size
        · go_wp2
          go_ret
          exact bytesLeft_much ss w
        · by_cases h2 : 1048576 < z + 16 + s.size
          · go_wp2
            go_ret
            exact bytesLeft_much ss w
          · go_wp2
            go_round
            case rel => exact ⟨k + 1, z + 16 + s.size, rfl, by go_num, by omega, by omega, by omega, fun j hj h => by
              by_cases e : j = k
              · subst e; rw [HSS.out]; omega
              · exact HK.out j hj (by omega)⟩
            case measure => simp [intOf]; omega
      · clear hzn
        go_wp2
        go_ret
        exact ⟨z, rfl, by omega, by omega, fun _ s hs => by
          obtain ⟨j, hj, e⟩ := List.mem_iff_getElem.1 hs
          rw [← e]
          exact HK.out j hj (by have := HN.out; omega), rfl⟩

/-- What depBytes leaves. -/
def DepLeft (L : List (List ByteArray)) (w : World) (e : Ending) (w' : World) : Prop :=
  ∃ z, e = .returned (.int .i64 z) ∧ (z ≤ 1048576 → ∀ ss ∈ L, ∀ s ∈ ss, s.size ≤ 1048576) ∧ w = w'

set_option maxHeartbeats 1000000 in
theorem depBytes_any (a0 a1 a2 a3 a4 a5 a6 a7 : Option Addr) (c0 c1 c2 c3 c4 c5 c6 c7 : Nat) (s0 s1 s2 s3 s4 s5 s6 s7 : List ByteArray) (w : World)
    (h0 : Src w a0 s0) (h1 : Src w a1 s1) (h2 : Src w a2 s2) (h3 : Src w a3 s3) (h4 : Src w a4 s4) (h5 : Src w a5 s5) (h6 : Src w a6 s6) (h7 : Src w a7 s7)
    (l0 : s0.length ≤ maxLen) (l1 : s1.length ≤ maxLen) (l2 : s2.length ≤ maxLen) (l3 : s3.length ≤ maxLen) (l4 : s4.length ≤ maxLen) (l5 : s5.length ≤ maxLen) (l6 : s6.length ≤ maxLen) (l7 : s7.length ≤ maxLen) :
    Calls Trym.prog 10 #[.slice a0 s0.length c0, .slice a1 s1.length c1, .slice a2 s2.length c2, .slice a3 s3.length c3, .slice a4 s4.length c4, .slice a5 s5.length c5, .slice a6 s6.length c6, .slice a7 s7.length c7] w (DepLeft [s0, s1, s2, s3, s4, s5, s6, s7] w) := by
  have H0 := strsBytes_any a0 c0 s0 w h0 l0
  have H1 := strsBytes_any a1 c1 s1 w h1 l1
  have H2 := strsBytes_any a2 c2 s2 w h2 l2
  have H3 := strsBytes_any a3 c3 s3 w h3 l3
  have H4 := strsBytes_any a4 c4 s4 w h4 l4
  have H5 := strsBytes_any a5 c5 s5 w h5 l5
  have H6 := strsBytes_any a6 c6 s6 w h6 l6
  have H7 := strsBytes_any a7 c7 s7 w h7 l7
  have HH : Hid (_ ∧ _ ∧ _ ∧ _ ∧ _ ∧ _ ∧ _ ∧ _) := ⟨H0, H1, H2, H3, H4, H5, H6, H7⟩
  clear H0 H1 H2 H3 H4 H5 H6 H7 h0 h1 h2 h3 h4 h5 h6 h7 l0 l1 l2 l3 l4 l5 l6 l7
  go_enter Trym.func10, Trym.ntmps10
  go_wp2_with fail
  refine HH.out.1.mono ?_
  rintro e w' ⟨z0, rfl, p0, q0, r0, rfl⟩
  go_wp2_with fail
  refine HH.out.2.1.mono ?_
  rintro e w' ⟨z1, rfl, p1, q1, r1, rfl⟩
  go_wp2_with fail
  refine HH.out.2.2.1.mono ?_
  rintro e w' ⟨z2, rfl, p2, q2, r2, rfl⟩
  go_wp2_with fail
  refine HH.out.2.2.2.1.mono ?_
  rintro e w' ⟨z3, rfl, p3, q3, r3, rfl⟩
  go_wp2_with fail
  refine HH.out.2.2.2.2.1.mono ?_
  rintro e w' ⟨z4, rfl, p4, q4, r4, rfl⟩
  go_wp2_with fail
  refine HH.out.2.2.2.2.2.1.mono ?_
  rintro e w' ⟨z5, rfl, p5, q5, r5, rfl⟩
  go_wp2_with fail
  refine HH.out.2.2.2.2.2.2.1.mono ?_
  rintro e w' ⟨z6, rfl, p6, q6, r6, rfl⟩
  go_wp2_with fail
  refine HH.out.2.2.2.2.2.2.2.mono ?_
  rintro e w' ⟨z7, rfl, p7, q7, r7, rfl⟩
  go_wp2
  go_ret
  refine ⟨z0 + z1 + z2 + z3 + z4 + z5 + z6 + z7, rfl, fun h => ?_, rfl⟩
  intro ss hss
  simp only [List.mem_cons, List.not_mem_nil, or_false] at hss
  rcases hss with rfl | rfl | rfl | rfl | rfl | rfl | rfl | rfl
  · exact r0 (by omega)
  · exact r1 (by omega)
  · exact r2 (by omega)
  · exact r3 (by omega)
  · exact r4 (by omega)
  · exact r5 (by omega)
  · exact r6 (by omega)
  · exact r7 (by omega)
end Go.Proofs.Qxb6000365aMods
