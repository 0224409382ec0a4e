/- 'Rows.FnAppendMatchesModelSaid': the guide's frame at this function; the walk goes by the contracts of the clone, Append and the model's text. -/
import Derived.Test.Qxb6000083aModsModelWalk
import Derived.WalkKit
import Derived.ProofKit
import Derived.OpenShut
import Derived.ShutString
import Derived.Deep.RegionWith
import Derived.Deep.QuietTactic
import Derived.BigQuiet
namespace Go.Proofs.Qxb6000083aMods.fnAppendMatchesModel
open Go.ChangeShapes Go.WideShapes Go.ChangeAt Go.RowKit Go.Lib
open Go.ChangeMaps (open_string shut_string)
set_option linter.unusedVariables false

theorem own : ownKnob Trym.prog.godebug = none := by kernel_rfl
theorem laidOut : laidOutB Trym.prog = true := by kernel_rfl

def IsRow (k : IntKind) (w : World) (a : Option Addr) (len cap : Nat) (zs : List Int) : Prop :=
  (a = none ∧ len = 0 ∧ cap = 0 ∧ zs = []) ∨
  ∃ x, a = some x ∧ len ≤ cap ∧ cap ≤ maxLen ∧ zs.length = cap ∧ (∀ i, i < zs.length → w.cell? (x.add i) = some (.int k (zs.getD i 0))) ∧ ∀ n ∈ zs, (Lit.int k n).wf = true

theorem src_of_row {w : World} {a : Option Addr} {len cap : Nat} {zs : List Int} (h : IsRow .u8 w a len cap zs) : len ≤ maxLen ∧ (zs.take len).length = len ∧ Src w a (zs.take len) := by
  rcases h with ⟨rfl, rfl, rfl, rfl⟩ | ⟨x, rfl, hl, hm, hz, hc, hwf⟩
  · exact ⟨by unfold maxLen; omega, rfl, fun _ => rfl, fun h => absurd rfl h⟩
  · have hlen : (zs.take len).length = len := by rw [List.length_take]; omega
    refine ⟨by omega, hlen, fun h => (by cases h), fun hne => ?_⟩
    have hpos : 0 < len := by
      rcases Nat.eq_zero_or_pos len with h | h
      · subst h; simp at hne
      · exact h
    obtain ⟨b, off, rfl, hc2⟩ := ints_at hc (by omega)
    have hb : b < w.heap.size := by
      have h0 := hc2 0 (by omega)
      exact block_lt_of_cell h0
    refine ⟨b, off, rfl, hb, fun j hj => ?_⟩
    rw [hc2 j (by omega)]
    simp [List.getElem_take]
    rw [List.getElem?_eq_getElem (by omega)]
    rfl

theorem bytes15_yes (a : Bool) (s : ByteArray) (x : Int) (ao : Option Addr) (n c : Nat) (w : World) (h : s.size + n ≤ 1048576) :
    Calls Trym.prog 15 #[.bool a, .string s, .int .i64 x, .slice ao n c] w fun e w' => e = .returned (.bool true) ∧ w = w' := by
  go_enter Trym.func15, Trym.ntmps15
  go_wp2
  go_ret
  exact ⟨rfl, rfl⟩
theorem bytes15_no (a : Bool) (s : ByteArray) (x : Int) (ao : Option Addr) (n c : Nat) (w : World) (h1 : s.size ≤ maxLen) (h2 : n ≤ maxLen) (h : 1048576 < s.size + n) :
    Calls Trym.prog 15 #[.bool a, .string s, .int .i64 x, .slice ao n c] w fun e w' => e = .returned (.bool false) ∧ w = w' := by
  unfold maxLen at h1 h2
  by_cases hs : 1048576 < s.size
  · go_enter Trym.func15, Trym.ntmps15
    go_wp2
    go_ret
    exact ⟨rfl, rfl⟩
  · by_cases hn : 1048576 < n
    · go_enter Trym.func15, Trym.ntmps15
      go_wp2
      go_ret
      exact ⟨rfl, rfl⟩
    · go_enter Trym.func15, Trym.ntmps15
      go_wp2
      go_ret
      exact ⟨rfl, rfl⟩

theorem own_below {w w' : World} {B : Nat} {v : Value} {n : Nat} {xs : List Value} (h : w.ownsRow B 5 1 v n xs) (hb : Below w.heap.size w w') : w'.ownsRow B 5 1 v n xs := by
  refine ⟨h.1, ?_⟩
  rcases h.2 with hn | ⟨g, cap, cur, rfl, hb1, hg, rest⟩
  · exact Or.inl hn
  · refine Or.inr ⟨g, cap, cur, rfl, hb1, ?_, rest⟩
    rw [hb.block g (Array.getElem?_eq_some_iff.1 hg).1]
    exact hg

theorem src_of_own {w : World} {B n c : Nat} {ao : Option Addr} {zs : List Int} (h : w.ownsRow B 5 1 (.slice ao n c) n (zs.map (Value.int .u8))) : Src w ao zs := by
  have hl : zs.length = n := by simpa using h.1
  refine ⟨fun e => ?_, fun hne => ?_⟩
  · subst e
    rcases h.2 with ⟨_, h0⟩ | ⟨g, cap, cur, hv, _⟩
    · exact List.eq_nil_of_length_eq_zero (by omega)
    · cases hv
  · obtain ⟨g, cap, hv, _, hg⟩ := h.form (by have := List.length_pos_iff.2 hne; omega)
    injection hv with h1 h2 h3
    subst h1
    refine ⟨g, 0, rfl, hg, fun j hj => ?_⟩
    rw [Nat.zero_add, h.cellAt j (by omega)]
    simp [hj]

/-- The clone, in one form. -/
theorem clone_own (ao : Option Addr) (cap : Nat) (zs : List Int) (w : World) (hs : Src w ao zs) (hl : zs.length ≤ 4194304) :
    Calls Trym.prog 16 #[.slice ao zs.length cap] w fun e w' => ∃ ao', e = .returned (.slice ao' zs.length zs.length) ∧ w'.ownsRow w.heap.size 5 1 (.slice ao' zs.length zs.length) zs.length (zs.map (Value.int .u8)) ∧ Below w.heap.size w w' := by
  refine (clone_any ao cap zs w hs hl).mono ?_
  rintro e w' (⟨h1, rfl, rfl⟩ | ⟨_, rfl, h2, h3⟩)
  · have h0 := hs.nil h1
    subst h0
    exact ⟨none, rfl, World.ownsRow_nil _ _ _ _, Below.refl _ _⟩
  · exact ⟨_, rfl, h2, h3⟩

/-- What the four calls leave: the two texts side by side. -/
structure Both (w : World) (ao2 : Option Addr) (g c3 g5 c5 : Nat) (zs ts : List Int) : Prop where
  before : zs ≠ [] → ∃ g2, ao2 = some ⟨g2, 0, none⟩ ∧ ∀ j (hj : j < zs.length), w.cell? ⟨g2, j, none⟩ = some (.int .u8 zs[j])
  head : ∀ j (hj : j < zs.length), w.cell? ⟨g, j, none⟩ = some (.int .u8 zs[j])
  tail : ∀ j (hj : j < ts.length), w.cell? ⟨g, zs.length + j, none⟩ = some (.int .u8 ts[j])
  want : ∀ j (hj : j < ts.length), w.cell? ⟨g5, j, none⟩ = some (.int .u8 ts[j])

theorem both_of {w : World} {B1 B2 B3 : Nat} {ao2 : Option Addr} {v3 v5 : Value} {n2 c2 n3 n5 : Nat} {zs ts : List Int} (hts : 0 < ts.length)
    (h2 : w.ownsRow B1 5 1 (.slice ao2 n2 c2) n2 (zs.map (Value.int .u8))) (h3 : w.ownsRow B2 5 1 v3 n3 (zs.map (Value.int .u8) ++ ts.map (Value.int .u8))) (h5 : w.ownsRow B3 5 1 v5 n5 (ts.map (Value.int .u8))) :
    ∃ g c3 g5 c5, v3 = .slice (some ⟨g, 0, none⟩) (zs.length + ts.length) c3 ∧ v5 = .slice (some ⟨g5, 0, none⟩) ts.length c5 ∧ Both w ao2 g c3 g5 c5 zs ts := by
  have l2 : zs.length = n2 := by simpa using h2.1
  have l3 : zs.length + ts.length = n3 := by simpa using h3.1
  have l5 : ts.length = n5 := by simpa using h5.1
  obtain ⟨g, c3, hv3, _, _⟩ := h3.form (by omega)
  obtain ⟨g5, c5, hv5, _, _⟩ := h5.form (by omega)
  subst hv3 hv5
  refine ⟨g, c3, g5, c5, by rw [l3], by rw [l5], ?_, ?_, ?_, ?_⟩
  · intro hne
    obtain ⟨b, o, ha, _, hc⟩ := (src_of_own h2).row hne
    obtain ⟨g2, cap2, hv, _, _⟩ := h2.form (by have := List.length_pos_iff.2 hne; omega)
    injection hv with h1
    subst h1
    refine ⟨g2, rfl, fun j hj => ?_⟩
    rw [h2.cellAt j (by omega)]
    simp [hj]
  · intro j hj
    rw [h3.cellAt j (by omega), List.getElem?_append_left (by simpa using hj)]
    simp [hj]
  · intro j hj
    rw [h3.cellAt (zs.length + j) (by omega), List.getElem?_append_right (by simp)]
    simp [hj]
  · intro j hj
    rw [h5.cellAt j (by omega)]
    simp [hj]

theorem texts_of {w w1 w2 w4 w5 : World} {a0 : Bool} {a1 : ByteArray} {a2 : Int} {ao1 ao2 : Option Addr} {v4 v5 : Value} {n4 n5 : Nat} {zs : List Int} {S : Obj}
    (ho1 : w1.ownsRow w.heap.size 5 1 (.slice ao1 zs.length zs.length) zs.length (zs.map (Value.int .u8))) (hb1 : Below w.heap.size w w1)
    (ho2 : w2.ownsRow w1.heap.size 5 1 (.slice ao2 zs.length zs.length) zs.length (zs.map (Value.int .u8))) (hb2 : Below w1.heap.size w1 w2)
    (ho4 : w4.ownsRow w.heap.size 5 1 v4 n4 (zs.map (Value.int .u8) ++ appCells a0 a1 a2)) (hg4 : (w2.alloc S).grownBy w4 (Value.ownBlock (.slice ao1 zs.length zs.length)))
    (ho5 : w5.ownsRow w4.heap.size 5 1 v5 n5 ((Num.app a0 a1.data.toList a2).map bc)) (hb5 : Below w4.heap.size w4 w5) (hd : a1.size ≤ 1048576) (hx0 : -65536 ≤ a2) (hx1 : a2 ≤ 65536) :
    Below w.heap.size w w5 ∧ ∃ g c3 g5 c5 ts, v4 = .slice (some ⟨g, 0, none⟩) (zs.length + ts.length) c3 ∧ v5 = .slice (some ⟨g5, 0, none⟩) ts.length c5 ∧ ts.length ≤ 4194304 ∧ Both w5 ao2 g c3 g5 c5 zs ts := by
  have hs1 := hb1.size
  have hs2 := hb2.size
  have hrow : ∀ k, Value.ownBlock (.slice ao1 zs.length zs.length) = some k → w.heap.size ≤ k ∧ k < w1.heap.size := fun k hk => ho1.lt k hk
  have z2 : Below w.heap.size w (w2.alloc S) := (hb1.trans (hb2.mono hs1)).alloc (by omega) S
  have z4 : Below w.heap.size w w4 := z2.grown hg4 z2.size (fun k hk => (hrow k hk).1)
  refine ⟨z4.trans (hb5.mono z4.size), ?_⟩
  have o2 : w5.ownsRow w1.heap.size 5 1 (.slice ao2 zs.length zs.length) zs.length (zs.map (Value.int .u8)) := by
    refine own_below ((ho2.alloc S).kept hg4 ?_) hb5
    cases h : Value.ownBlock (.slice ao2 zs.length zs.length) with
    | none => exact Or.inl rfl
    | some k =>
      refine Or.inr fun e => ?_
      have h1 := (ho2.lt k h).1
      have h2 := (hrow k e.symm).2
      omega
  have o4 := own_below ho4 hb5
  have et : (Num.app a0 a1.data.toList a2).map bc = ((Num.app a0 a1.data.toList a2).map (fun b => (b.toNat : Int))).map (Value.int .u8) := by
    rw [List.map_map]; rfl
  rw [appCells_eq, et] at o4
  rw [et] at ho5
  obtain ⟨g, c3, g5, c5, h3, h5, hb⟩ := both_of (by rw [List.length_map]; exact app_pos _ _ _) o2 o4 ho5
  refine ⟨g, c3, g5, c5, _, h3, h5, ?_, hb⟩
  rw [List.length_map]
  have h1 := app_le a0 a1.data.toList a2 hx0 hx1
  rw [data_len] at h1
  omega

set_option maxHeartbeats 1000000 in
set_option maxRecDepth 100000 in
theorem walk (a0 : Bool) (a1 : ByteArray) (a2 : Int) (a3 : Option Addr) (len3 cap3 : Nat) (z3 : List Int) (w : World) (w1 : a1.size ≤ maxLen) (w2 : (Lit.int .i64 a2).wf = true) (w3 : IsRow .u8 w a3 len3 cap3 z3) :
    Calls Trym.prog 6 #[.bool a0, .string a1, .int .i64 a2, .slice a3 len3 cap3] w fun e w' => e = .returned (.bool true) ∧ Below w.heap.size w w' := by
  obtain ⟨hlm, hlen, hsrc⟩ := src_of_row w3
  clear w3
  obtain ⟨zs, hzs⟩ : ∃ zs, z3.take len3 = zs := ⟨_, rfl⟩
  rw [hzs] at hlen hsrc
  clear hzs
  subst hlen
  have HS : Hid _ := hsrc
  clear hsrc w2
  by_cases hbig : 1048576 < a1.size + zs.length
  · go_enter Trym.func6, Trym.ntmps6
    go_wp2_with (go_at_call 15; refine (bytes15_no a0 a1 a2 a3 zs.length cap3 _ w1 hlm hbig).mono ?_; rintro e w' ⟨rfl, rfl⟩)
    go_ret
    exact ⟨rfl, Below.refl _ _⟩
  · clear hlm w1
    by_cases hlo : a2 < -65536
    · go_enter Trym.func6, Trym.ntmps6
      go_wp2_with (go_at_call 15; refine (bytes15_yes a0 a1 a2 a3 zs.length cap3 _ (by omega)).mono ?_; rintro e w' ⟨rfl, rfl⟩)
      go_ret
      exact ⟨rfl, Below.refl _ _⟩
    · by_cases hhi : 65536 < a2
      · go_enter Trym.func6, Trym.ntmps6
        go_wp2_with (go_at_call 15; refine (bytes15_yes a0 a1 a2 a3 zs.length cap3 _ (by omega)).mono ?_; rintro e w' ⟨rfl, rfl⟩)
        go_ret
        exact ⟨rfl, Below.refl _ _⟩
      · go_enter Trym.func6, Trym.ntmps6
        go_wp2_with (go_at_call 15; refine (bytes15_yes a0 a1 a2 a3 zs.length cap3 _ (by omega)).mono ?_; rintro e w' ⟨rfl, rfl⟩)
        refine (clone_own a3 cap3 zs _ HS.out (by omega)).mono ?_
        rintro e w1 ⟨ao1, rfl, ho1, hb1⟩
        have H1 : Hid (_ ∧ _) := ⟨ho1, hb1⟩
        have hs1 := src_of_own ho1
        clear ho1 hb1 HS
        go_wp2_with fail
        refine (clone_own ao1 zs.length zs _ hs1 (by omega)).mono ?_
        rintro e w2 ⟨ao2, rfl, ho2, hb2⟩
        have H2 : Hid (_ ∧ _) := ⟨ho2, hb2⟩
        clear ho2 hb2 hs1
        go_wp2_with fail
        obtain ⟨S, hS⟩ : ∃ S : Obj, S = .cells #[.bool a0, .string a1, .int .i64 a2] 24 := ⟨_, rfl⟩
        have hown1 := (own_below H1.out.1 H2.out.2).alloc S
        have hB1 : w.heap.size ≤ (w2.alloc S).heap.size := by have := H1.out.2.size; have := H2.out.2.size; simp; omega
        rw [hS] at hown1 hB1
        refine (append_any a0 a1 a2 _ zs.length (zs.map (Value.int .u8)) w.heap.size _ hown1 hB1 (by omega) (by omega) (by omega) (by omega)).mono ?_
        rintro e w4 ⟨v4, rfl, ⟨n4, ho4⟩, hg4, _⟩
        have H4 : Hid (_ ∧ _) := ⟨ho4, hg4⟩
        clear ho4 hg4 hown1 hB1 hS
        go_wp2_with fail
        refine (model_any a0 a1 a2 _ (by omega) (by omega) (by omega)).mono ?_
        rintro e w5 ⟨v5, n5, rfl, ho5, hb5⟩
        have HX : Hid (Below w.heap.size w w5 ∧ ∃ g c3 g5 c5 ts, v4 = .slice (some ⟨g, 0, none⟩) (zs.length + ts.length) c3 ∧ v5 = .slice (some ⟨g5, 0, none⟩) ts.length c5 ∧ ts.length ≤ 4194304 ∧ Both w5 ao2 g c3 g5 c5 zs ts) :=
          texts_of H1.out.1 H1.out.2 H2.out.1 H2.out.2 H4.out.1 H4.out.2 ho5 hb5 (by omega) (by omega) (by omega)
        clear H1 H2 H4 ho5 hb5
        obtain ⟨hbel, g, c3, g5, c5, ts, rfl, rfl, hts, hboth⟩ := HX.out
        clear HX
        have HX : Hid (_ ∧ _) := ⟨hbel, hboth⟩
        clear hbel hboth
        go_wp2
        go_loopw [13] (fun i wr => ∃ k : Nat, k ≤ zs.length ∧ i = .int .i64 k ∧ Hid ((∀ c, wr.cell? c = w5.cell? c) ∧ Below w.heap.size w wr)) (fun i _ => zs.length - (intOf i).toNat)
        case atStart => exact ⟨0, Nat.zero_le _, rfl, fun _ => rfl, HX.out.1⟩
        case round =>
          obtain ⟨k, hk, rfl, HC⟩ := hrel
          by_cases hlt : k < zs.length
          · obtain ⟨g2, rfl, hc2⟩ := HX.out.2.before (by intro e; rw [e] at hlt; simp at hlt)
            obtain ⟨z, hz⟩ : ∃ z, zs[k] = z := ⟨_, rfl⟩
            have c1 : wr.cell? ⟨g, k, none⟩ = some (.int .u8 z) := by rw [HC.out.1, HX.out.2.head k hlt, hz]
            have c2 : wr.cell? ⟨g2, k, none⟩ = some (.int .u8 z) := by rw [HC.out.1, hc2 k hlt, hz]
            have hltI : (k : Int) < (zs.length : Int) := by omega
            have hltJ : (k : Int) < ((zs.length + ts.length : Nat) : Int) := by omega
            clear hz hc2
            go_wp2
            go_quiet (fail)
            go_wp2
            go_roundw
            case rel => exact ⟨k + 1, by omega, by go_num, fun c => HC.out.1 c, ⟨HC.out.2.os, HC.out.2.tape, HC.out.2.output, HC.out.2.size, HC.out.2.block⟩⟩
            case measure => simp [intOf]; omega
          · go_wp2
            obtain ⟨wo, rfl⟩ : ∃ wo : World, wo = wr := ⟨_, rfl⟩
            go_loopw [14] (fun i wr => ∃ j : Nat, j ≤ ts.length ∧ i = .int .i64 j ∧ Hid ((∀ c, wr.cell? c = w5.cell? c) ∧ Below w.heap.size w wr)) (fun i _ => ts.length - (intOf i).toNat)
            case atStart => exact ⟨0, Nat.zero_le _, rfl, HC.out⟩
            case round =>
              clear HC hlt hk
              obtain ⟨j, hj, rfl, HC⟩ := hrel
              by_cases hlt : j < ts.length
              · obtain ⟨z, hz⟩ : ∃ z, ts[j] = z := ⟨_, rfl⟩
                have c1 : wr.cell? ⟨g, zs.length + j, none⟩ = some (.int .u8 z) := by rw [HC.out.1, HX.out.2.tail j hlt, hz]
                have c2 : wr.cell? ⟨g5, j, none⟩ = some (.int .u8 z) := by rw [HC.out.1, HX.out.2.want j hlt, hz]
                have hltI : (j : Int) < (ts.length : Int) := by omega
                have hltJ : (zs.length : Int) + (j : Int) < ((zs.length + ts.length : Nat) : Int) := by omega
                clear hz
                go_wp2
                go_quiet (fail)
                go_wp2
                go_roundw
                case rel => exact ⟨j + 1, by omega, by go_num, fun c => HC.out.1 c, ⟨HC.out.2.os, HC.out.2.tape, HC.out.2.output, HC.out.2.size, HC.out.2.block⟩⟩
                case measure => simp [intOf]; omega
              · go_wp2
                go_ret
                exact ⟨rfl, HC.out.2⟩

/-! ### THE ROW's STEP: WRITTEN OUT: LEAVE IT -/
set_option maxRecDepth 100000 in
theorem lifted (os : Os) (started : os.Started) (H : Type) (enc : TypeId × Value → H) :
    ReturnsInHanded {} Trym.checked os 6 .any (Rows.fnAppendMatchesModelSpec.pre6 enc Trym.prog Trym.f6 Rows.fnAppendMatchesModelRow.domain false) (Rows.fnAppendMatchesModelSpec.post enc Trym.prog Trym.f6 false true false false) := by
  refine returnsInHanded_of_change (C := Trym.checked) own started (by kernel_rfl) Trym.func6
    (ChangeSpec.witness6 (enc := enc) (C := Trym.checked) false ⟨#[], #[.bool false, .string ByteArray.empty, .int .i64 0, .slice none 0 0], []⟩ 8 (by kernel_rfl) (by kernel_rfl) (by kernel_rfl) (by kernel_rfl)) ?_
  intro W base args ds gs before hval0 hW hcnd _
  have hval : ∀ (j : Nat) t v, Trym.f6.params[j]? = some t → args[j]? = some v → Value.okWide Trym.prog W .any base t v := hval0
  have hW' := hW
  obtain ⟨p, q, hA0, hV, rfl, hfz, hnd⟩ := hW
  have hA : DataW.TrodAll enc Trym.prog W 0 (fun _ => true) true Trym.f6.params.toList args.toList ds p := hA0
  rw [Trym.params6] at hA hval
  obtain ⟨v0, vs0, d0, ds0, p0, q0, hargs, rfl, rfl, h0, r0⟩ := trodAll_cons hA
  obtain ⟨v1, vs1, d1, ds1, p1, q1, rfl, rfl, rfl, h1, r1⟩ := trodAll_cons r0
  obtain ⟨v2, vs2, d2, ds2, p2, q2, rfl, rfl, rfl, h2, r2⟩ := trodAll_cons r1
  obtain ⟨v3, vs3, d3, ds3, p3, q3, rfl, rfl, rfl, h3, r3⟩ := trodAll_cons r2
  obtain ⟨rfl, rfl, rfl⟩ := trodAll_nil r3
  obtain rfl : args = #[v0, v1, v2, v3] := by cases args; simp_all
  obtain ⟨rfl, rfl⟩ := trodVars_none hV
  obtain ⟨a0, rfl, rfl, rfl⟩ := open_bool Trym.underlying4 (hval 0 4 v0 rfl rfl) h0
  obtain ⟨a1, rfl, rfl, rfl, w1⟩ := open_string Trym.underlying9 (hval 1 9 v1 rfl rfl) h1
  obtain ⟨a2, rfl, rfl, rfl, w2⟩ := open_int Trym.underlying3 (hval 2 3 v2 rfl rfl) h2
  obtain ⟨a3, len3, cap3, rfl⟩ := okWide_slice Trym.underlying29 (hval 3 29 v3 rfl rfl)
  have k3 := h3
  have lt3 : ∀ x ∈ p3, x.block < W.heap.size := by obtain ⟨m, hm⟩ := k3; exact DataW.trod_lt m _ _ _ hm
  obtain ⟨z3, w3⟩ : ∃ zs, IsRow .u8 W a3 len3 cap3 zs := by
    obtain ⟨fuel, hf⟩ := h3
    rcases open_ints Trym.underlying29 Trym.underlying5 (by kernel_rfl) hf with ⟨hcs, _⟩ | ⟨x, l, c, zs, hcs, _, hl, hm, hz, _, hcell, hwz⟩
    · simp [Value.cells] at hcs
      obtain ⟨rfl, rfl, rfl⟩ := hcs
      exact ⟨[], .inl ⟨rfl, rfl, rfl, rfl⟩⟩
    · simp [Value.cells] at hcs
      obtain ⟨rfl, rfl, rfl⟩ := hcs
      exact ⟨zs, .inr ⟨_, rfl, hl, hm, by simpa using hz, hcell, hwz⟩⟩
  clear hA0 hval0
  refine (walk a0 a1 a2 a3 len3 cap3 z3 W w1 w2 w3).mono fun e W' ⟨he, bel⟩ => ?_
  subst he
  exact ⟨_, rfl, _, _, _, [], _, [], hW', trodAll_mk1 (shut_bool Trym.underlying4 _), (trodAll_cons_mk (shut_bool Trym.underlying4 _) (trodAll_cons_mk (shut_string Trym.underlying9 w1) (trodAll_cons_mk (shut_int Trym.underlying3 w2) (trodAll_cons_mk (Below.trod laidOut (by kernel_rfl) (of_decide_eq_true (by kernel_rfl)) k3 bel lt3) trodAll_mk0)))), rfl, bel.frame _, fun h => by cases h⟩

theorem over : Rows.fnAppendMatchesModelRow.holds Trym.pinned (OpenSpec.ofChange Rows.fnAppendMatchesModelSpec) :=
  OpenClaim.holds_of_wide 6 Trym.f6 rfl rfl rfl rfl rfl rfl rfl ⟨rfl, rfl, rfl, rfl, rfl⟩ rfl rfl rfl rfl rfl (by kernel_rfl) Trym.func6 (by kernel_rfl)
    (of_decide_eq_true (by kernel_rfl)) (by unfold Func.isWrapper; first | (rw [if_pos (by decide +kernel)]; kernel_rfl) | (rw [if_neg (by decide +kernel)]; exact ⟨rfl, rfl⟩))
    (fun os started H enc _ => lifted os started H enc)

/-- ████ THE STATEMENT ████ -/
theorem proved : Rows.FnAppendMatchesModelSaid := over
#print axioms proved
end Go.Proofs.Qxb6000083aMods.fnAppendMatchesModel
