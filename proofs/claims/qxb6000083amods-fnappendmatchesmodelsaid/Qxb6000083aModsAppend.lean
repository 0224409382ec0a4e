import Derived.Test.Qxb6000083aModsRows
import Derived.Test.Qxb6000083aModsForms
import Derived.Test.Qxb6000083aModsBuf
import Derived.WalkKit
import Derived.ProofKit
import Derived.WalkSpells
import Derived.Deep.DeepCutAuto
import Derived.Deep.LoopGhost
import Derived.Deep.CutBlock
import Derived.Deep.DeepMust
namespace Go.Proofs.Qxb6000083aMods
open Go.RowKit Go.Lib

theorem Trym.info5 : (Trym.prog.info? 5).map (fun i => (i.zero, i.size, i.bytes)) = some (some (.int .u8 0), 1, 1) := by kernel_rfl

/-- The cells that Append writes behind what was there. -/
def appCells (neg : Bool) (d : ByteArray) (x : Int) : List Value :=
  if d.toList.isEmpty then [.int .u8 48]
  else (if neg then [.int .u8 45] else []) ++
    (if x < 0 then [.int .u8 48, .int .u8 46] ++ List.replicate (-x - 1).toNat (.int .u8 48) ++ strCells d
     else if x + 1 < (d.size : Int) then strCells (d.extract 0 (x + 1).toNat) ++ [.int .u8 46] ++ strCells (d.extract (x + 1).toNat d.size)
     else strCells d ++ List.replicate (x + 1 - d.size).toNat (.int .u8 48))

set_option maxHeartbeats 1000000 in
set_option maxRecDepth 100000 in
theorem append_any (neg : Bool) (d : ByteArray) (x : Int) (v : Value) (n : Nat) (cs : List Value) (B : Nat) (W : World) (hown : W.ownsRow B 5 1 v n cs) (hB : B ≤ W.heap.size)
    (hn : n ≤ 4194304) (hd : d.size ≤ 4194304) (hx0 : -65536 ≤ x) (hx1 : x ≤ 65536) :
    Calls Trym.prog 14 #[.agg #[.bool neg, .string d, .int .i64 x], v] W fun e w' => ∃ v', e = .returned v' ∧ (∃ n', w'.ownsRow B 5 1 v' n' (cs ++ appCells neg d x)) ∧ W.grownBy w' v.ownBlock ∧ (v'.ownBlock = v.ownBlock ∨ ∃ k, v'.ownBlock = some k ∧ W.heap.size < k) := by
  obtain ⟨i0, hi, hz0, hz1, hz2⟩ := info_parts Trym.info5
  have hb0 := Buf.start hown hB (.cells #[.bool neg, .string d, .int .i64 x] 24)
  clear hown
  by_cases he : d.toList.isEmpty = true
  · go_enter Trym.func14, Trym.ntmps14
    go_wp2_with (first | (at_builtin; go_must (refine wpList_buf_byte rfl (.tmp 11) (.tmp 12) 29 rfl i0 Trym.underlying29 hi hz0 hz1 hz2 W B v.ownBlock (.cells #[.bool neg, .string d, .int .i64 x] 24) v (n) (cs) rfl _ 48 hb0 _ rfl (by simp) (by omega) ?_); intro v1 w1 hb1))
    go_ret
    exact ⟨_, rfl, ⟨_, by rw [appCells, if_pos he]; exact hb1.own⟩, hb1.grown, hb1.lies⟩
  · have he' : d.toList.isEmpty = false := by simpa using he
    have HA : Hid (appCells neg d x = (if neg then [.int .u8 45] else []) ++
      (if x < 0 then [.int .u8 48, .int .u8 46] ++ List.replicate (-x - 1).toNat (.int .u8 48) ++ strCells d
       else if x + 1 < (d.size : Int) then strCells (d.extract 0 (x + 1).toNat) ++ [.int .u8 46] ++ strCells (d.extract (x + 1).toNat d.size)
       else strCells d ++ List.replicate (x + 1 - d.size).toNat (.int .u8 48))) := by show _ = _; rw [appCells, if_neg he]
    go_enter Trym.func14, Trym.ntmps14
    go_upto_if 15 with fail
    go_cut [0, 1] from 8 to 18 (fun _ s1 wc => ∃ (n1 : Nat) (ys : List Value), n1 ≤ n + 1 ∧ Hid (ys = cs ++ (if neg then [.int .u8 45] else [])) ∧ Buf W B v.ownBlock (.cells #[.bool neg, .string d, .int .i64 x] 24) s1 n1 ys wc)
    case first =>
      cases hneg : neg
      · rw [hneg] at hb0
        go_wp2
        go_meet
        case rel => exact ⟨n, cs, by omega, by show _ = _; simp [hneg], by rw [hneg]; exact hb0⟩
      · rw [hneg] at hb0
        go_wp2_with (first | (at_builtin; go_must (refine wpList_buf_byte rfl (.tmp 16) (.tmp 17) 29 rfl i0 Trym.underlying29 hi hz0 hz1 hz2 W B v.ownBlock (.cells #[.bool true, .string d, .int .i64 x] 24) v (n) (cs) rfl _ 45 hb0 _ rfl (by simp) (by omega) ?_); intro v1 w1 hb1))
        go_meet
        case rel => exact ⟨n + 1, _, by omega, by show _ = _; rw [hneg, if_pos rfl], by rw [hneg]; exact hb1⟩
    case rest =>
      obtain ⟨n1, ys, hn1, HY, hb1⟩ := hcut
      clear hb0
      have c1 := hb1.cell 1 (.string d) rfl; have c2 := hb1.cell 2 (.int .i64 x) rfl
      by_cases hx : x < 0
      · have hl2 : n1 + (⟨#[48, 46]⟩ : ByteArray).size ≤ 140737488355328 := by show n1 + 2 ≤ _; omega
        go_wp2_with (first | (at_builtin; go_must (refine wpList_buf_text rfl (.tmp 22) (.const (.string ⟨#[48, 46]⟩)) 29 9 rfl i0 Trym.underlying29 Trym.underlying9 hi hz0 hz1 hz2 W B v.ownBlock (.cells #[.bool neg, .string d, .int .i64 x] 24) u1 (n1) (ys) rfl hb1 ⟨#[48, 46]⟩ rfl hl2 ?_); intro v2 w2 hb2; have c1x := hb2.cell 1 (.string d) rfl; have c2x := hb2.cell 2 (.int .i64 x) rfl))
        clear c1 c2 c1x c2x
        go_loopw [1, 5] (fun s1 s5 wr => ∃ (k j : Nat), s5 = .int .i64 j ∧ (k : Int) + j = -x - 1 ∧ Buf W B v.ownBlock (.cells #[.bool neg, .string d, .int .i64 x] 24) s1 (n1 + 2 + k) (ys ++ strCells ⟨#[48, 46]⟩ ++ List.replicate k (.int .u8 48)) wr) (fun _ s5 _ => (intOf s5).toNat)
        case atStart => exact ⟨0, (-x - 1).toNat, by rw [Int.toNat_of_nonneg (by omega)], by omega, by have h2 : (⟨#[48, 46]⟩ : ByteArray).size = 2 := rfl; rw [h2] at hb2; simpa using hb2⟩
        case round =>
          obtain ⟨k, j, rfl, hkj, hbk⟩ := hrel
          have c1 := hbk.cell 1 (.string d) rfl; have c2 := hbk.cell 2 (.int .i64 x) rfl
          by_cases hj : 0 < j
          · go_wp2_with (first | (at_builtin; go_must (refine wpList_buf_byte rfl (.tmp 32) (.tmp 33) 29 rfl i0 Trym.underlying29 hi hz0 hz1 hz2 W B v.ownBlock (.cells #[.bool neg, .string d, .int .i64 x] 24) u1 (n1 + 2 + k) (ys ++ strCells ⟨#[48, 46]⟩ ++ List.replicate k (.int .u8 48)) rfl _ 48 hbk _ rfl (by simp) (by omega) ?_); intro v3 w3 hb3))
            go_roundw
            case rel => exact ⟨k + 1, j - 1, by rw [Int.natCast_sub (by omega)]; rfl, by omega, by rw [List.replicate_succ', ← List.append_assoc]; exact hb3⟩
            case measure => simp [intOf]; omega
          · have hl3 : n1 + 2 + k + d.size ≤ 140737488355328 := by omega
            go_wp2_with (first | (at_builtin; go_must (refine wpList_buf_text rfl (.tmp 35) (.tmp 37) 29 9 rfl i0 Trym.underlying29 Trym.underlying9 hi hz0 hz1 hz2 W B v.ownBlock (.cells #[.bool neg, .string d, .int .i64 x] 24) u1 (n1 + 2 + k) (ys ++ strCells ⟨#[48, 46]⟩ ++ List.replicate k (.int .u8 48)) rfl hbk d rfl hl3 ?_); intro v3 w3 hb3))
            go_ret
            refine ⟨_, rfl, ⟨n1 + 2 + k + d.size, ?_⟩, hb3.grown, hb3.lies⟩
            have ek : k = (-x - 1).toNat := by omega
            have e2 : strCells ⟨#[48, 46]⟩ = [.int .u8 48, .int .u8 46] := rfl
            rw [HA.out, if_pos hx, ← ek, ← e2, ← List.append_assoc, ← HY.out, ← List.append_assoc, ← List.append_assoc]
            exact hb3.own
      · by_cases hw : x + 1 < (d.size : Int)
        · have hl2 : n1 + (d.extract 0 (x + 1).toNat).size ≤ 140737488355328 := by simp; omega
          have hl4 : n1 + (d.extract 0 (x + 1).toNat).size + 1 + (d.extract (x + 1).toNat d.size).size ≤ 140737488355328 := by simp; omega
          have hl3 : n1 + (d.extract 0 (x + 1).toNat).size + 1 ≤ 140737488355328 := by omega
          go_wp2_with (first | (at_builtin; (refine wpList_buf_text rfl (.tmp 47) (.tmp 51) 29 9 rfl i0 Trym.underlying29 Trym.underlying9 hi hz0 hz1 hz2 W B v.ownBlock (.cells #[.bool neg, .string d, .int .i64 x] 24) u1 (n1) (ys) rfl hb1 (d.extract 0 (x + 1).toNat) rfl hl2 ?_); intro v2 w2 hb2; have c1x := hb2.cell 1 (.string d) rfl; have c2x := hb2.cell 2 (.int .i64 x) rfl) | (at_builtin; (refine wpList_buf_byte rfl (.tmp 53) (.tmp 54) 29 rfl i0 Trym.underlying29 hi hz0 hz1 hz2 W B v.ownBlock (.cells #[.bool neg, .string d, .int .i64 x] 24) v2 (n1 + (d.extract 0 (x + 1).toNat).size) (ys ++ strCells (d.extract 0 (x + 1).toNat)) rfl _ 46 hb2 _ rfl (by simp) hl3 ?_); intro v3 w3 hb3; have c1y := hb3.cell 1 (.string d) rfl; have c2y := hb3.cell 2 (.int .i64 x) rfl) | (at_builtin; (refine wpList_buf_text rfl (.tmp 56) (.tmp 60) 29 9 rfl i0 Trym.underlying29 Trym.underlying9 hi hz0 hz1 hz2 W B v.ownBlock (.cells #[.bool neg, .string d, .int .i64 x] 24) v3 (n1 + (d.extract 0 (x + 1).toNat).size + 1) (ys ++ strCells (d.extract 0 (x + 1).toNat) ++ [.int .u8 46]) rfl hb3 (d.extract (x + 1).toNat d.size) rfl hl4 ?_); intro v4 w4 hb4))
          go_ret
          refine ⟨_, rfl, ⟨n1 + (d.extract 0 (x + 1).toNat).size + 1 + (d.extract (x + 1).toNat d.size).size, ?_⟩, hb4.grown, hb4.lies⟩
          rw [HA.out, if_neg (show ¬ x < 0 by omega), if_pos hw, ← List.append_assoc, ← HY.out, ← List.append_assoc, ← List.append_assoc]
          exact hb4.own
        · have hl2 : n1 + d.size ≤ 140737488355328 := by omega
          go_wp2_with (first | (at_builtin; go_must (refine wpList_buf_text rfl (.tmp 62) (.tmp 64) 29 9 rfl i0 Trym.underlying29 Trym.underlying9 hi hz0 hz1 hz2 W B v.ownBlock (.cells #[.bool neg, .string d, .int .i64 x] 24) u1 (n1) (ys) rfl hb1 d rfl hl2 ?_); intro v2 w2 hb2; have c1x := hb2.cell 1 (.string d) rfl; have c2x := hb2.cell 2 (.int .i64 x) rfl))
          clear c1 c2 c1x c2x
          go_loopw [1, 7] (fun s1 s7 wr => ∃ (k j : Nat), s7 = .int .i64 j ∧ (k : Int) + j = x + 1 - d.size ∧ Buf W B v.ownBlock (.cells #[.bool neg, .string d, .int .i64 x] 24) s1 (n1 + d.size + k) (ys ++ strCells d ++ List.replicate k (.int .u8 48)) wr) (fun _ s7 _ => (intOf s7).toNat)
          case atStart => exact ⟨0, (x + 1 - d.size).toNat, by rw [Int.toNat_of_nonneg (by omega)], by omega, by simpa using hb2⟩
          case round =>
            obtain ⟨k, j, rfl, hkj, hbk⟩ := hrel
            have c1 := hbk.cell 1 (.string d) rfl; have c2 := hbk.cell 2 (.int .i64 x) rfl
            by_cases hj : 0 < j
            · go_wp2_with (first | (at_builtin; go_must (refine wpList_buf_byte rfl (.tmp 77) (.tmp 78) 29 rfl i0 Trym.underlying29 hi hz0 hz1 hz2 W B v.ownBlock (.cells #[.bool neg, .string d, .int .i64 x] 24) u1 (n1 + d.size + k) (ys ++ strCells d ++ List.replicate k (.int .u8 48)) rfl _ 48 hbk _ rfl (by simp) (by omega) ?_); intro v3 w3 hb3))
              go_roundw
              case rel => exact ⟨k + 1, j - 1, by rw [Int.natCast_sub (by omega)]; rfl, by omega, by rw [List.replicate_succ', ← List.append_assoc]; exact hb3⟩
              case measure => simp [intOf]; omega
            · go_wp2
              go_ret
              refine ⟨_, rfl, ⟨n1 + d.size + k, ?_⟩, hbk.grown, hbk.lies⟩
              have ek : k = (x + 1 - d.size).toNat := by omega
              rw [HA.out, if_neg (show ¬ x < 0 by omega), if_neg (show ¬ x + 1 < (d.size : Int) by omega), ← ek, ← List.append_assoc, ← HY.out, ← List.append_assoc]
              exact hbk.own
end Go.Proofs.Qxb6000083aMods
