import Derived.Test.Qxb6000365aModsSmall
import Derived.Test.Qxb6000365aModsFields
namespace Go.Proofs.Qxb6000365aMods
open Go.RowKit

def pre (p : ByteArray) (ss : List ByteArray) : List ByteArray := ss.map (p ++ ·)

theorem pre_len (p : ByteArray) (ss : List ByteArray) : (pre p ss).length = ss.length := by simp [pre]

/-- What prefixEach leaves: the list's own row, and nothing else, has turned. -/
def PrefLeft (w : World) (ao : Option Addr) (p : ByteArray) (ss : List ByteArray) (e : Ending) (w' : World) : Prop :=
  e = .returned (.tuple #[]) ∧ VRow w' ao (pre p ss) ∧ (∀ k, ao ≠ some ⟨k, 0, none⟩ → w'.heap[k]? = w.heap[k]?) ∧ w'.heap.size = w.heap.size ∧ w'.os = w.os ∧ w'.tape = w.tape ∧ w'.output = w.output

/-- The state in the loop: k strings are done. -/
structure Pk (w : World) (g : Nat) (p : ByteArray) (ss : List ByteArray) (k : Nat) (wr : World) : Prop where
  own : wr.ownsRow g 9 1 (.slice (some ⟨g, 0, none⟩) ss.length ss.length) ss.length (strs (pre p (ss.take k) ++ ss.drop k))
  rest : ∀ j, j ≠ g → wr.heap[j]? = w.heap[j]?
  size : wr.heap.size = w.heap.size
  os : wr.os = w.os
  tape : wr.tape = w.tape
  output : wr.output = w.output

theorem Pk.cell {w : World} {g : Nat} {p : ByteArray} {ss : List ByteArray} {k : Nat} {wr : World} (h : Pk w g p ss k wr) (hk : k < ss.length) : wr.cell? ⟨g, k, none⟩ = some (.string ss[k]) := by
  have hl : (pre p (ss.take k)).length = k := by rw [pre_len, List.length_take]; omega
  rw [h.own.cellAt k (by omega)]
  unfold strs
  rw [List.getElem?_map, List.getElem?_append_right (by omega), hl, Nat.sub_self, List.getElem?_drop, Nat.add_zero, List.getElem?_eq_getElem hk]
  rfl

theorem Pk.next {w : World} {g : Nat} {p : ByteArray} {ss : List ByteArray} {k : Nat} {wr : World} (h : Pk w g p ss k wr) (hk : k < ss.length) : Pk w g p ss (k + 1) (wr.setCell ⟨g, k, none⟩ (.string (p ++ ss[k]))) := by
  have h2 := h.own.stored k (.string (p ++ ss[k]))
  have hl : (pre p (ss.take k)).length = k := by rw [pre_len, List.length_take]; omega
  have e : (strs (pre p (ss.take k) ++ ss.drop k)).set k (Value.string (p ++ ss[k])) = strs (pre p (ss.take (k + 1)) ++ ss.drop (k + 1)) := by
    unfold strs
    rw [← List.map_set, List.set_append_right _ _ (by omega), hl, Nat.sub_self, List.drop_eq_getElem_cons hk, List.set_cons_zero, List.take_succ_eq_append_getElem hk]
    have e0 : pre p (ss.take k ++ [ss[k]]) = pre p (ss.take k) ++ [p ++ ss[k]] := by simp only [pre, List.map_append, List.map_cons, List.map_nil]
    rw [e0, List.append_assoc]
    rfl
  rw [e] at h2
  exact ⟨h2.1, fun j hj => (Below.heap_setCell _ _ _ _ hj).trans (h.rest j hj), by simpa [World.setCell] using h.size, h.os, h.tape, h.output⟩

set_option maxHeartbeats 400000 in
theorem prefix_any (ao : Option Addr) (p : ByteArray) (ss : List ByteArray) (w : World) (hv : VRow w ao ss) (hl : ss.length ≤ 65536) (hp : p.size ≤ 16) (hs : ∀ s ∈ ss, s.size ≤ 1048576) :
    Calls Trym.prog 14 #[.slice ao ss.length ss.length, .string p] w (PrefLeft w ao p ss) := by
  rcases hv with ⟨rfl, rfl⟩ | ⟨g, rfl, hg⟩
  · go_enter Trym.func14, Trym.ntmps14
    go_wp2
    refine wp_loop_rounds 1 ?_
    rw [rounds_succ]
    go_wp2
    go_end0
    exact ⟨rfl, Or.inl ⟨rfl, rfl⟩, fun _ _ => rfl, rfl, rfl, rfl, rfl⟩
  · have H0 : Hid (Pk w g p ss 0 w) := ⟨by simpa [pre] using VRow.own hg (by unfold maxLen; omega), fun _ _ => rfl, rfl, rfl, rfl, rfl⟩
    have HS : Hid (∀ s ∈ ss, s.size ≤ 1048576) := hs
    clear hg hs
    go_enter Trym.func14, Trym.ntmps14
    go_wp2
    go_loopw [4] (fun i wr => ∃ k : Nat, k ≤ ss.length ∧ i = .int .i64 k ∧ Hid (Pk w g p ss k wr)) (fun i _ => ss.length - (intOf i).toNat)
    case atStart => exact ⟨0, Nat.zero_le _, rfl, H0⟩
    case round =>
      obtain ⟨k, hk, rfl, HK⟩ := hrel
      by_cases hlt : k < ss.length
      · obtain ⟨s, hs⟩ : ∃ s, ss[k] = s := ⟨_, rfl⟩
        have hc : wr.cell? ⟨g, k, none⟩ = some (.string s) := by rw [HK.out.cell hlt, hs]
        have hf := HK.out.own.frozenAt k
        have hsz : s.size ≤ 1048576 := by rw [← hs]; exact HS.out _ (List.getElem_mem hlt)
        have HN : Hid (Pk w g p ss (k + 1) (wr.setCell ⟨g, k, none⟩ (.string (p ++ s)))) := by rw [← hs]; exact HK.out.next hlt
        clear hs HS H0
        go_wp2
        go_roundw
        case rel => exact ⟨k + 1, by omega, by go_num, HN.out⟩
        case measure => simp [intOf]; omega
      · go_wp2
        go_end0
        have ek : k = ss.length := by omega
        have h := HK.out
        rw [ek] at h
        have ho := h.own
        rw [List.take_length, List.drop_length, List.append_nil] at ho
        exact ⟨rfl, VRow.of_own ho, fun j hj => h.rest j (fun e => hj (by rw [e])), h.size, h.os, h.tape, h.output⟩

set_option maxHeartbeats 400000 in
theorem allPref_any (a b : Option Addr) (c d : Nat) (p : ByteArray) (ss : List ByteArray) (w : World) (ha : Src w a (pre p ss)) (hb : Src w b ss) (hl : ss.length ≤ 65536) (hp : p.size ≤ 16) (hs : ∀ s ∈ ss, s.size ≤ 1048576) :
    Calls Trym.prog 16 #[.slice a ss.length c, .slice b ss.length d, .string p] w (TrueDrew w) := by
  have HA : Hid (Src w a (pre p ss)) := ha
  have HB : Hid (Src w b ss) := hb
  have HS : Hid (∀ s ∈ ss, s.size ≤ 1048576) := hs
  obtain ⟨n, hn⟩ : ∃ n, ss.length = n := ⟨_, rfl⟩
  have HN : Hid (ss.length = n) := hn
  rw [hn] at hl ⊢
  clear hn ha hb hs
  go_enter Trym.func16, Trym.ntmps16
  go_wp2
  go_loopw [7] (fun i wr => ∃ k : Nat, k ≤ n ∧ i = .int .i64 k ∧ ∃ q, wr = w.drewN q) (fun i _ => n - (intOf i).toNat)
  case atStart => exact ⟨0, Nat.zero_le _, rfl, 0, rfl⟩
  case round =>
    obtain ⟨k, hk, rfl, q, rfl⟩ := hrel
    by_cases hlt : k < n
    · have hkl : k < ss.length := by have := HN.out; omega
      have hne : ss ≠ [] := by intro e; rw [e] at hkl; simp at hkl
      have hne2 : pre p ss ≠ [] := by intro e; have := pre_len p ss; rw [e] at this; simp at this; omega
      obtain ⟨b1, o1, rfl, _, hc1⟩ := HA.out.row hne2
      obtain ⟨b2, o2, rfl, _, hc2⟩ := HB.out.row hne
      obtain ⟨s, hs⟩ : ∃ s, ss[k] = s := ⟨_, rfl⟩
      have h1 : w.cell? ⟨b1, o1 + k, none⟩ = some (.string (p ++ s)) := by
        rw [hc1 k (by rw [pre_len]; omega)]
        simp only [pre, List.getElem_map, hs]
      have h2 : w.cell? ⟨b2, o2 + k, none⟩ = some (.string s) := by rw [hc2 k hkl, hs]
      have hsz : s.size ≤ 1048576 := by rw [← hs]; exact HS.out _ (List.getElem_mem hkl)
      have hltI : (k : Int) < (n : Int) := by omega
      clear hs hc1 hc2 HA HB HN HS hne hne2
      go_wp2
      go_quiet (fail)
      go_wp2
      go_roundw
      case rel => exact ⟨k + 1, by omega, by go_num, _, rfl⟩
      case measure => simp [intOf]; omega
    · go_wp2
      go_ret
      exact ⟨rfl, q, rfl⟩
end Go.Proofs.Qxb6000365aMods
