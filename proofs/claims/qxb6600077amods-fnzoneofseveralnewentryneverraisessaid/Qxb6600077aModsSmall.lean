import Derived.Test.Qxb6600077aModsTests
namespace Go.Proofs.Qxb6600077aMods
open Go.RowKit

theorem Trym.info9 : (Trym.prog.info? 9).map (fun i => (i.zero, i.size, i.bytes)) = some (some (.string ByteArray.empty), 1, 16) := by kernel_rfl

/-- What the clone leaves. -/
def CloneLeft (w : World) (ao : Option Addr) (ss : List ByteArray) (e : Ending) (w' : World) : Prop :=
  ∃ ao', e = .returned (.slice ao' ss.length ss.length) ∧ (ao' = none ↔ ao = none) ∧ VRow w' ao' ss ∧ Below w.heap.size w w' ∧ ∀ g, ao' = some ⟨g, 0, none⟩ → w.heap.size ≤ g

set_option maxHeartbeats 400000 in
theorem clone_any (ao : Option Addr) (cap : Nat) (ss : List ByteArray) (w : World) (hs : Src w ao ss) (hl : ss.length ≤ 4096) :
    Calls Trym.prog 12 #[.slice ao ss.length cap] w (CloneLeft w ao ss) := by
  obtain ⟨i0, hi, hz0, hz1, hz2⟩ := info_parts Trym.info9
  have hnil := fun (w : World) (a : Option Addr) (n c : Nat) => Lib.run_eql_slice_nil (P := Trym.prog) w 22 9 a n c 0 0 Trym.underlying22
  cases ao with
  | none =>
    have h0 := hs.nil rfl
    subst h0
    go_enter Trym.func12, Trym.ntmps12
    go_wp2
    go_ret
    exact ⟨none, rfl, Iff.rfl, Or.inl ⟨rfl, rfl⟩, Below.refl _ _, fun g hg => (by cases hg)⟩
  | some a =>
    obtain ⟨n, hn⟩ : ∃ n, ss.length = n := ⟨_, rfl⟩
    rw [hn]
    have HN : Hid (ss.length = n) := hn
    have hn4 : n ≤ 4096 := by omega
    have HS : Hid (Src w (some a) ss) := hs
    clear hs hn hl
    go_enter Trym.func12, Trym.ntmps12
    go_wp2_with (at_make; refine wpList_make_full w rfl _ _ 22 rfl w.heap.size 9 i0 (.string ByteArray.empty) 1 Trym.underlying22 hi hz0 hz1 .i64 .i64 _ _ n rfl rfl rfl rfl (by rw [hz2]; omega) (by unfold maxLen; omega) (Nat.le_refl _) ?_; intro w1 ho1 hg1)
    have hz9 : (madeCells (Value.string ByteArray.empty).cells (n * 1)).toList = List.replicate n (.string ByteArray.empty) := by rw [Nat.mul_one]; exact toList_madeCells_one _ n
    rw [hz9] at ho1
    clear hz9
    have hb1 : Below w.heap.size w w1 := (Below.refl _ _).grown hg1 (Nat.le_refl _) (by intro k hk; cases hk)
    clear hg1
    go_loopw [4] (fun i wr => ∃ k : Nat, k ≤ n ∧ i = .int .i64 k ∧ wr.ownsRow w.heap.size 9 1 (.slice (some ⟨w.heap.size, 0, none⟩) n n) n (strs (ss.take k) ++ List.replicate (n - k) (.string ByteArray.empty)) ∧ Below w.heap.size w wr) (fun i _ => n - (intOf i).toNat)
    case atStart => exact ⟨0, Nat.zero_le _, rfl, by simpa [strs] using ho1, hb1⟩
    case round =>
      obtain ⟨k, hk, rfl, hok, hbk⟩ := hrel
      have hzn := HN.out
      by_cases hlt : k < n
      · obtain ⟨b, o, ha, hb, hc⟩ := HS.out.row (by intro e; rw [e] at hzn; simp at hzn; omega)
        injection ha with ha
        subst ha
        obtain ⟨z, hz⟩ : ∃ z, ss[k]'(by omega) = z := ⟨_, rfl⟩
        have hcz : wr.cell? ⟨b, o + k, none⟩ = some (.string z) := (hbk.cell (p := ⟨b, o + k, none⟩) hb).trans (by rw [hc k (by omega), hz])
        have hcg : wr.cell? ⟨w.heap.size, k, none⟩ = some (.string ByteArray.empty) := by
          rw [hok.cellAt k (by omega), List.getElem?_append_right (by rw [strs_len, List.length_take]; omega)]
          rw [strs_len, List.length_take, hzn, Nat.min_eq_left hk, Nat.sub_self, List.getElem?_replicate, if_pos (by omega)]
        have hfg := hok.frozenAt k
        have R := own_copy hzn hlt hok
        rw [hz] at R
        have RB := hbk.setCell (p := ⟨w.heap.size, k, none⟩) (Nat.le_refl _) (.string z)
        have HR : Hid (_ ∧ _) := ⟨R, RB⟩
        clear R RB hok hbk hz hc HS HN hzn
        go_wp2
        go_roundw
        case rel => exact ⟨k + 1, by omega, by go_num, HR.out.1, HR.out.2⟩
        case measure => simp [intOf]; omega
      · have ek : k = n := by omega
        subst ek
        clear hlt
        go_wp2
        go_ret
        refine ⟨some ⟨w.heap.size, 0, none⟩, by rw [hzn]; rfl, by simp, ?_, hbk, ?_⟩
        · have e : strs (ss.take k) ++ List.replicate (k - k) (.string ByteArray.empty) = strs ss := by
            rw [Nat.sub_self, List.replicate_zero, List.append_nil, List.take_of_length_le (by omega)]
          rw [e] at hok
          exact VRow.of_own hok
        · intro g hg
          injection hg with hg
          injection hg with hg
          omega


/-- What strBytes leaves. -/
def BytesLeft (ss : List ByteArray) (w : World) (e : Ending) (w' : World) : Prop :=
  ∃ z, e = .returned (.int .i64 z) ∧ 0 ≤ z ∧ z ≤ 1048577 ∧ (z ≤ 1048576 → ∀ s ∈ ss, s.size ≤ 1048576) ∧ w = w'

theorem bytesLeft_much (ss : List ByteArray) (w : World) : BytesLeft ss w (.returned (.int .i64 1048577)) w := ⟨1048577, rfl, by omega, by omega, fun h => by omega, rfl⟩

set_option maxHeartbeats 400000 in
theorem strBytes_any (ao : Option Addr) (cap : Nat) (ss : List ByteArray) (w : World) (hs : Src w ao ss) (hl : ss.length ≤ maxLen) :
    Calls Trym.prog 8 #[.slice ao ss.length cap] w (BytesLeft ss w) := by
  unfold maxLen at hl
  have HS : Hid (Src w ao ss) := hs
  clear hs
  obtain ⟨n, hn⟩ : ∃ n, ss.length = n := ⟨_, rfl⟩
  have HN : Hid (ss.length = n) := hn
  rw [hn] at hl ⊢
  clear hn
  go_enter Trym.func8, Trym.ntmps8
  go_wp2
  go_loop [3, 4] (fun s3 s4 => ∃ (k : Nat) (z : Int), s3 = .int .i64 z ∧ s4 = .int .i64 k ∧ k ≤ n ∧ 0 ≤ z ∧ z ≤ 1048576 ∧ Hid (∀ j (hj : j < ss.length), j < k → (ss[j]).size ≤ 1048576)) (fun _ s4 => n - (intOf s4).toNat)
  case atStart => exact ⟨0, 0, rfl, rfl, by omega, by omega, by omega, fun j _ h => by omega⟩
  case round =>
    obtain ⟨k, z, rfl, rfl, hk, hz0, hz1, HK⟩ := hrel
    have hzn := HN.out
    by_cases hlt : k < n
    · obtain ⟨b, o, rfl, hb, hc⟩ := HS.out.row (by intro e; rw [e] at hzn; simp at hzn; omega)
      have hkl : k < ss.length := by omega
      obtain ⟨s, hs⟩ : ∃ s, ss[k] = s := ⟨_, rfl⟩
      have hcs : w.cell? ⟨b, o + k, none⟩ = some (.string s) := by rw [hc k hkl, hs]
      have HSS : Hid (ss[k] = s) := hs
      clear hs hc hzn
      by_cases h1 : 1048576 < s.size
      · go_wp2
        go_ret
        exact bytesLeft_much ss w
      · by_cases h2 : 1048576 < z + (16 + s.size)
        · go_wp2
          go_ret
          exact bytesLeft_much ss w
        · go_wp2
          go_round
          case rel => exact ⟨k + 1, z + (16 + s.size), rfl, by go_num, by omega, by omega, by omega, fun j hj h => by
            by_cases e : j = k
            · subst e; rw [HSS.out]; omega
            · exact HK.out j hj (by omega)⟩
          case measure => simp [intOf]; omega
    · clear hzn
      go_wp2
      go_ret
      exact ⟨z, rfl, by omega, by omega, fun _ s hs => by
        obtain ⟨j, hj, e⟩ := List.mem_iff_getElem.1 hs
        rw [← e]
        exact HK.out j hj (by have := HN.out; omega), rfl⟩

/-- It answers, whatever; the world stands. -/
def AnyBool (w : World) (e : Ending) (w' : World) : Prop := ∃ b, e = .returned (.bool b) ∧ w = w'

set_option maxHeartbeats 4000000 in
set_option maxRecDepth 100000 in
theorem bytes7_any (a0 a1 : Option Addr) (c0 c1 : Nat) (s0 s1 : List ByteArray) (w : World)
    (h0 : Src w a0 s0) (l0 : s0.length ≤ maxLen) (h1 : Src w a1 s1) (l1 : s1.length ≤ maxLen) :
    Calls Trym.prog 7 #[.slice a0 s0.length c0, .slice a1 s1.length c1] w (AnyBool w) := by
  unfold maxLen at l0 l1 
  have H0 : Hid (Src w a0 s0) := h0
  have N0 : Hid (∃ n, s0.length = n ∧ n ≤ 9223372036854775807) := ⟨_, rfl, by omega⟩
  clear h0
  have H1 : Hid (Src w a1 s1) := h1
  have N1 : Hid (∃ n, s1.length = n ∧ n ≤ 9223372036854775807) := ⟨_, rfl, by omega⟩
  clear h1
  obtain ⟨n0, e0, m0⟩ := N0.out
  have E0 : Hid (s0.length = n0) := e0
  rw [e0]
  clear e0 N0 l0
  obtain ⟨n1, e1, m1⟩ := N1.out
  have E1 : Hid (s1.length = n1) := e1
  rw [e1]
  clear e1 N1 l1
  go_enter Trym.func7, Trym.ntmps7
  go_wp2
  any_goals (go_ret; exact ⟨_, rfl, rfl⟩)
  go_loop [5, 6] (fun sz si => (∃ z : Int, sz = .int .i64 z) ∧ ∃ k : Nat, k ≤ n0 ∧ si = .int .i64 k) (fun _ si => n0 - (intOf si).toNat)
  case atStart => exact ⟨⟨_, rfl⟩, 0, Nat.zero_le _, rfl⟩
  case round =>
  obtain ⟨⟨z0, rfl⟩, k0, hk0, rfl⟩ := hrel
  rcases Nat.lt_or_ge k0 n0 with hlt0 | hge0
  · obtain ⟨b, o, rfl, hb, hc⟩ := H0.out.row (by intro e; have := E0.out; rw [e] at this; simp at this; omega)
    obtain ⟨s, hs⟩ : ∃ s, w.cell? ⟨b, o + k0, none⟩ = some (.string s) := ⟨_, hc k0 (by have := E0.out; omega)⟩
    clear hc
    go_wp2
    any_goals (go_ret; exact ⟨_, rfl, rfl⟩)
    · go_round
      case rel => exact ⟨⟨_, rfl⟩, k0 + 1, by omega, by go_num⟩
      case measure => simp [intOf]; omega
  go_wp2
  any_goals (go_ret; exact ⟨_, rfl, rfl⟩)
  go_loop [5, 7] (fun sz si => (∃ z : Int, sz = .int .i64 z) ∧ ∃ k : Nat, k ≤ n1 ∧ si = .int .i64 k) (fun _ si => n1 - (intOf si).toNat)
  case atStart => exact ⟨⟨_, rfl⟩, 0, Nat.zero_le _, rfl⟩
  case round =>
  obtain ⟨⟨z1, rfl⟩, k1, hk1, rfl⟩ := hrel
  rcases Nat.lt_or_ge k1 n1 with hlt1 | hge1
  · obtain ⟨b, o, rfl, hb, hc⟩ := H1.out.row (by intro e; have := E1.out; rw [e] at this; simp at this; omega)
    obtain ⟨s, hs⟩ : ∃ s, w.cell? ⟨b, o + k1, none⟩ = some (.string s) := ⟨_, hc k1 (by have := E1.out; omega)⟩
    clear hc
    go_wp2
    any_goals (go_ret; exact ⟨_, rfl, rfl⟩)
    · go_round
      case rel => exact ⟨⟨_, rfl⟩, k1 + 1, by omega, by go_num⟩
      case measure => simp [intOf]; omega
  go_wp2
  all_goals (go_ret; exact ⟨_, rfl, rfl⟩)

set_option maxHeartbeats 4000000 in
set_option maxRecDepth 100000 in
theorem bytes16_any (a0 a1 : Option Addr) (c0 c1 : Nat) (s0 s1 : List ByteArray) (z a : ByteArray) (w : World)
    (h0 : Src w a0 s0) (l0 : s0.length ≤ maxLen) (h1 : Src w a1 s1) (l1 : s1.length ≤ maxLen) :
    Calls Trym.prog 16 #[.slice a0 s0.length c0, .slice a1 s1.length c1, .string z, .string a] w (AnyBool w) := by
  unfold maxLen at l0 l1
  have H0 : Hid (Src w a0 s0) := h0
  have N0 : Hid (∃ n, s0.length = n ∧ n ≤ 9223372036854775807) := ⟨_, rfl, by omega⟩
  clear h0
  have H1 : Hid (Src w a1 s1) := h1
  have N1 : Hid (∃ n, s1.length = n ∧ n ≤ 9223372036854775807) := ⟨_, rfl, by omega⟩
  clear h1
  obtain ⟨n0, e0, m0⟩ := N0.out
  have E0 : Hid (s0.length = n0) := e0
  rw [e0]
  clear e0 N0 l0
  obtain ⟨n1, e1, m1⟩ := N1.out
  have E1 : Hid (s1.length = n1) := e1
  rw [e1]
  clear e1 N1 l1
  go_enter Trym.func16, Trym.ntmps16
  go_wp2
  any_goals (go_ret; exact ⟨_, rfl, rfl⟩)
  go_loop [9, 10] (fun sz si => (∃ z : Int, sz = .int .i64 z) ∧ ∃ k : Nat, k ≤ n0 ∧ si = .int .i64 k) (fun _ si => n0 - (intOf si).toNat)
  case atStart => exact ⟨⟨_, rfl⟩, 0, Nat.zero_le _, rfl⟩
  case round =>
  obtain ⟨⟨z0, rfl⟩, k0, hk0, rfl⟩ := hrel
  rcases Nat.lt_or_ge k0 n0 with hlt0 | hge0
  · obtain ⟨b, o, rfl, hb, hc⟩ := H0.out.row (by intro e; have := E0.out; rw [e] at this; simp at this; omega)
    obtain ⟨s, hs⟩ : ∃ s, w.cell? ⟨b, o + k0, none⟩ = some (.string s) := ⟨_, hc k0 (by have := E0.out; omega)⟩
    clear hc
    go_wp2
    any_goals (go_ret; exact ⟨_, rfl, rfl⟩)
    · go_round
      case rel => exact ⟨⟨_, rfl⟩, k0 + 1, by omega, by go_num⟩
      case measure => simp [intOf]; omega
  go_wp2
  any_goals (go_ret; exact ⟨_, rfl, rfl⟩)
  go_loop [9, 11] (fun sz si => (∃ z : Int, sz = .int .i64 z) ∧ ∃ k : Nat, k ≤ n1 ∧ si = .int .i64 k) (fun _ si => n1 - (intOf si).toNat)
  case atStart => exact ⟨⟨_, rfl⟩, 0, Nat.zero_le _, rfl⟩
  case round =>
  obtain ⟨⟨z1, rfl⟩, k1, hk1, rfl⟩ := hrel
  rcases Nat.lt_or_ge k1 n1 with hlt1 | hge1
  · obtain ⟨b, o, rfl, hb, hc⟩ := H1.out.row (by intro e; have := E1.out; rw [e] at this; simp at this; omega)
    obtain ⟨s, hs⟩ : ∃ s, w.cell? ⟨b, o + k1, none⟩ = some (.string s) := ⟨_, hc k1 (by have := E1.out; omega)⟩
    clear hc
    go_wp2
    any_goals (go_ret; exact ⟨_, rfl, rfl⟩)
    · go_round
      case rel => exact ⟨⟨_, rfl⟩, k1 + 1, by omega, by go_num⟩
      case measure => simp [intOf]; omega
  go_wp2
  all_goals (go_ret; exact ⟨_, rfl, rfl⟩)
end Go.Proofs.Qxb6600077aMods
