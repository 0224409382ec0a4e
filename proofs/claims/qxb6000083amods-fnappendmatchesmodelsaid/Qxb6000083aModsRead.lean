import Derived.Test.Qxb6000083aModsRows
import Derived.Test.Qxb6000083aModsForms
import Derived.WalkKit
import Derived.ProofKit
import Derived.WalkSpells
import Derived.Deep.DeepCutAuto
import Derived.Deep.LoopGhost
import Derived.Deep.CutBlock
namespace Go.Proofs.Qxb6000083aMods
open Go.RowKit

set_option maxHeartbeats 4000000 in
set_option maxRecDepth 100000 in
theorem read_any (s : ByteArray) (w : World) (h1 : s.size ≤ 4194304) :
    Calls Trym.prog 24 #[.string s] w fun e w' => e = .returned (.tuple #[.agg #[.bool (Num.rd s.data.toList).neg, .string ⟨(Num.rd s.data.toList).dig.toArray⟩, .int .i64 (Num.rd s.data.toList).ex], .bool (Num.rd s.data.toList).ok]) ∧ Below w.heap.size w w' := by
  go_enter Trym.func24, Trym.ntmps24
  go_upto_region 2 with fail
  go_cut [29] from 14 to 28 (fun s29 wc => s29 = .bool ((Num.sg s.data.toList).2 == 1) ∧ wc = w.alloc (.cells #[.bool false, .string ⟨#[]⟩, .int .i64 0] 24))
  case first =>
    by_cases h0 : 0 < s.size
    · by_cases h43 : (s[0].toNat : Int) = 43
      · have e := sg_at s h0
        rw [if_pos h43] at e
        go_wp2
        go_meet
        case rel => rw [e]; exact ⟨rfl, rfl⟩
      · have e : Hid (((Num.sg s.data.toList).2 == 1) = ((s[0].toNat : Int) == 45)) := sgB_at s h0 h43
        go_wp2
        go_meet
        case rel => rw [e.out]; exact ⟨by simp [h43], rfl⟩
    · have e := sg_none s h0
      go_wp2
      go_meet
      case rel => rw [e]; exact ⟨rfl, rfl⟩
  case rest =>
    obtain ⟨rfl, rfl⟩ := hcut
    go_upto_if 29 with fail
    go_cut [4] from 14 to 36 (fun s4 wc => s4 = .int .i64 (Num.sg s.data.toList).2 ∧ wc = w.alloc (.cells #[.bool (Num.sg s.data.toList).1, .string ⟨#[]⟩, .int .i64 0] 24))
    case first =>
      rcases sg_cases s with e | ⟨h0, e⟩
      · have E := e
        rw [E]
        go_wp2
        go_meet
        case rel => rw [e]; exact ⟨rfl, rfl⟩
      · have E : Hid _ := e
        rw [e]
        clear e
        go_wp2
        go_meet
        case rel => rw [E.out]; exact ⟨rfl, rfl⟩
    case rest =>
      obtain ⟨rfl, rfl⟩ := hcut
      obtain ⟨ng, st, hst, hsg⟩ : ∃ ng st, st ≤ s.size ∧ Num.sg s.data.toList = (ng, st) := by
        rcases sg_cases s with e | ⟨h0, e⟩
        · exact ⟨_, _, Nat.zero_le _, e⟩
        · exact ⟨_, _, h0, e⟩
      rw [hsg]
      have HSG : Hid (Num.sg s.data.toList = (ng, st)) := hsg
      clear hsg
      go_upto_block 0 with fail
      go_cut [4, 6, 7, 8] from 38 to 65 (fun i p f l wc => ∃ (k : Nat) (P F L : Int), i = .int .i64 k ∧ p = .int .i64 P ∧ f = .int .i64 F ∧ l = .int .i64 L ∧ k ≤ s.size ∧ st ≤ k ∧ -1 ≤ P ∧ P < k ∧ -1 ≤ F ∧ F ≤ L ∧ L < k ∧ Hid (After s st k P F L) ∧ wc = w.alloc (.cells #[.bool ng, .string ⟨#[]⟩, .int .i64 0] 24))
      case first =>
        go_wp2_with fail
        go_loop [4, 6, 7, 8] (fun i p f l => ∃ (k : Nat) (P F L : Int), i = .int .i64 k ∧ p = .int .i64 P ∧ f = .int .i64 F ∧ l = .int .i64 L ∧ k ≤ s.size ∧ st ≤ k ∧ -1 ≤ P ∧ P < k ∧ -1 ≤ F ∧ F ≤ L ∧ L < k ∧ Hid (Num.scan (s.data.toList.drop k) k P F L = Num.scan (s.data.toList.drop st) st (-1) (-1) (-1))) (fun i _ _ _ => s.size - (intOf i).toNat)
        case atStart => exact ⟨st, -1, -1, -1, rfl, rfl, rfl, rfl, hst, Nat.le_refl _, by omega, by omega, by omega, by omega, by omega, rfl⟩
        case round =>
          obtain ⟨k, P, F, L, rfl, rfl, rfl, rfl, hk, hsk, hP1, hP2, hF1, hF2, hL, HS⟩ := hrel
          by_cases hlt : k < s.size
          · have HA : Hid _ := scan_at s k hlt P F L
            by_cases h46 : (s[k].toNat : Int) = 46
            · by_cases hP : P < 0
              · go_wp2
                go_round
                case rel => exact ⟨k + 1, k, F, L, by go_num, rfl, rfl, rfl, by omega, by omega, by omega, by omega, by omega, by omega, by omega, by rw [← HS.out, HA.out, if_pos ⟨h46, hP⟩]; rfl⟩
                case measure => simp [intOf]; omega
              · go_wp2
                go_meet
                case rel => exact ⟨k, P, F, L, rfl, rfl, rfl, rfl, by omega, by omega, by omega, by omega, by omega, by omega, by omega, by show After _ _ _ _ _ _; rw [After, ← HS.out, HA.out, if_neg (by omega), if_pos (by omega)], rfl⟩
            · by_cases hlo : (s[k].toNat : Int) < 48
              · go_wp2
                go_meet
                case rel => exact ⟨k, P, F, L, rfl, rfl, rfl, rfl, by omega, by omega, by omega, by omega, by omega, by omega, by omega, by show After _ _ _ _ _ _; rw [After, ← HS.out, HA.out, if_neg (by omega), if_pos (by omega)], rfl⟩
              · by_cases hhi : 57 < (s[k].toNat : Int)
                · go_wp2
                  go_meet
                  case rel => exact ⟨k, P, F, L, rfl, rfl, rfl, rfl, by omega, by omega, by omega, by omega, by omega, by omega, by omega, by show After _ _ _ _ _ _; rw [After, ← HS.out, HA.out, if_neg (by omega), if_pos (by omega)], rfl⟩
                · by_cases h48 : (s[k].toNat : Int) = 48
                  · go_wp2
                    go_round
                    case rel => exact ⟨k + 1, P, F, L, by go_num, rfl, rfl, rfl, by omega, by omega, by omega, by omega, by omega, by omega, by omega, by rw [← HS.out, HA.out, if_neg (by omega), if_neg (by omega), if_pos h48]; rfl⟩
                    case measure => simp [intOf]; omega
                  · by_cases hF : F < 0
                    · go_wp2
                      go_round
                      case rel => exact ⟨k + 1, P, k, k, by go_num, rfl, rfl, rfl, by omega, by omega, by omega, by omega, by omega, by omega, by omega, by rw [← HS.out, HA.out, if_neg (by omega), if_neg (by omega), if_neg h48, if_pos hF]; rfl⟩
                      case measure => simp [intOf]; omega
                    · go_wp2
                      go_round
                      case rel => exact ⟨k + 1, P, F, k, by go_num, rfl, rfl, rfl, by omega, by omega, by omega, by omega, by omega, by omega, by omega, by rw [← HS.out, HA.out, if_neg (by omega), if_neg (by omega), if_neg h48, if_neg hF]; rfl⟩
                      case measure => simp [intOf]; omega
          · go_wp2
            go_meet
            case rel => exact ⟨k, P, F, L, rfl, rfl, rfl, rfl, by omega, by omega, by omega, by omega, by omega, by omega, by omega, by show After _ _ _ _ _ _; rw [After, ← HS.out, scan_end s k hlt], rfl⟩
      case rest =>
        obtain ⟨k, P, F, L, rfl, rfl, rfl, rfl, hk, hsk, hP1, hP2, hF1, hF2, hL, HA, rfl⟩ := hcut
        go_upto_region 17 with fail
        go_cut [81] from 67 to 80 (fun s81 wc => s81 = .bool (decide ((k : Int) - st = 0 ∨ (k : Int) - st = 1 ∧ P = st)) ∧ wc = w.alloc (.cells #[.bool ng, .string ⟨#[]⟩, .int .i64 0] 24))
        case first =>
          by_cases c1 : (k : Int) - st = 0
          · have e : decide ((k : Int) - st = 0 ∨ (k : Int) - st = 1 ∧ P = st) = true := by simp [c1]
            have E : Hid _ := e
            clear e
            go_wp2
            go_meet
            case rel => rw [E.out]; exact ⟨rfl, rfl⟩
          · by_cases c2 : (k : Int) - st = 1
            · have E : Hid (decide ((k : Int) - st = 0 ∨ (k : Int) - st = 1 ∧ P = st) = (P == (st : Int))) := by show _ = _; simp [c2]; rfl
              go_wp2
              go_meet
              case rel => rw [E.out]; exact ⟨rfl, rfl⟩
            · have E : Hid (decide ((k : Int) - st = 0 ∨ (k : Int) - st = 1 ∧ P = st) = false) := by show _ = _; simp [c1, c2]
              go_wp2
              go_meet
              case rel => rw [E.out]; exact ⟨by simp [c1], rfl⟩
        case rest =>
          obtain ⟨rfl, rfl⟩ := hcut
          by_cases hbad : (k : Int) - st = 0 ∨ (k : Int) - st = 1 ∧ P = st
          · rw [decide_eq_true hbad]
            have HB : Hid ((k : Int) - st = 0 ∨ (k : Int) - st = 1 ∧ P = st) := hbad
            clear hbad
            go_wp2
            refine bodyPost_ret (v := .tuple #[.agg #[.bool false, .string ⟨#[]⟩, .int .i64 0], .bool false]) (by simp [results, Trym.results24, go_sem]) rfl ?_
            exact ⟨ret_num (rd_bad HSG.out HA.out HB.out), (Below.refl _ _).alloc (Nat.le_refl _) _⟩
          · rw [decide_eq_false hbad]
            have HB : Hid (¬ ((k : Int) - st = 0 ∨ (k : Int) - st = 1 ∧ P = st)) := hbad
            clear hbad
            go_upto_region 20 with fail
            go_cut [98] from 83 to 97 (fun s98 wc => s98 = .bool (isE s k) ∧ wc = w.alloc (.cells #[.bool ng, .string ⟨#[]⟩, .int .i64 0] 24))
            case first =>
              by_cases hlt : k < s.size
              · have E : Hid _ := isE_at s k hlt
                go_wp2
                all_goals go_meet
                all_goals (rw [E.out]; exact ⟨by simp [*], rfl⟩)
              · have E : Hid _ := isE_end s k hlt
                go_wp2
                go_meet
                case rel => rw [E.out]; exact ⟨rfl, rfl⟩
            case rest =>
              obtain ⟨rfl, rfl⟩ := hcut
              go_upto_if 98 with fail
              go_cut [4, 11] from 98 to 160 (fun s4 s11 wc => (∃ (i : Nat) (x : Int), s4 = .int .i64 i ∧ s11 = .int .i64 x ∧ -999999999 ≤ x ∧ x ≤ 999999999 ∧ i ≤ s.size ∧ Hid ((i = s.size ∧ Num.tailExp (s.data.toList.drop k) = some x) ∨ (i < s.size ∧ Num.tailExp (s.data.toList.drop k) = none))) ∧ wc = w.alloc (.cells #[.bool ng, .string ⟨#[]⟩, .int .i64 0] 24))
              case first =>
                by_cases hE : isE s k = true
                · have hlt : k < s.size := by
                    apply Classical.byContradiction
                    intro h; rw [isE_end s k h] at hE; cases hE
                  have HT : Hid (Num.tailExp (s.data.toList.drop k) = tailE (s.data.toList.drop (k + 1))) := by
                    show _ = _
                    rw [te_at s k hlt, if_pos hE]
                  rw [hE]
                  clear hE
                  by_cases hlt1 : k + 1 < s.size
                  · have HT2 : Hid _ := HT.out.trans (tailE_at s (k + 1) hlt1)
                    clear HT
                    by_cases h45 : (s[k + 1].toNat : Int) = 45
                    · by_cases hlt2 : k + 1 + 1 < s.size
                      · have HT3 : Hid (Num.tailExp (s.data.toList.drop k) = (Num.expo (s.data.toList.drop (k + 1 + 1)) 0).map (fun x => -x)) := by show _ = _; rw [HT2.out, if_pos h45, if_pos hlt2]
                        clear HT2
                        go_wp2_with fail
                        go_loop [4, 11] (fun i x => ∃ (j : Nat) (X : Int), i = .int .i64 j ∧ x = .int .i64 X ∧ j ≤ s.size ∧ k ≤ j ∧ 0 ≤ X ∧ X ≤ 999999999 ∧ Hid (Num.expo (s.data.toList.drop j) X = Num.expo (s.data.toList.drop (k + 1 + 1)) 0)) (fun i _ => s.size - (intOf i).toNat)
                        case atStart => exact ⟨k + 1 + 1, 0, by go_num, rfl, by omega, by omega, by omega, by omega, rfl⟩
                        case round =>
                          obtain ⟨j, X, rfl, rfl, hj, hkj, hX0, hX1, HX⟩ := hrel
                          by_cases hjl : j < s.size
                          · have HA2 : Hid _ := expo_at s j hjl X
                            by_cases hlo : (s[j].toNat : Int) < 48
                            · go_wp2
                              refine bodyPost_ret (v := .tuple #[.agg #[.bool false, .string ⟨#[]⟩, .int .i64 0], .bool false]) (by simp [results, Trym.results24, go_sem]) rfl ?_
                              exact ⟨ret_num (rd_none HSG.out HA.out HB.out (HT3.out.trans (by rw [← HX.out, HA2.out, if_pos (Or.inl hlo)]; rfl))), (Below.refl _ _).alloc (Nat.le_refl _) _⟩
                            · by_cases hhi : 57 < (s[j].toNat : Int)
                              · go_wp2
                                refine bodyPost_ret (v := .tuple #[.agg #[.bool false, .string ⟨#[]⟩, .int .i64 0], .bool false]) (by simp [results, Trym.results24, go_sem]) rfl ?_
                                exact ⟨ret_num (rd_none HSG.out HA.out HB.out (HT3.out.trans (by rw [← HX.out, HA2.out, if_pos (Or.inr hhi)]; rfl))), (Below.refl _ _).alloc (Nat.le_refl _) _⟩
                              · by_cases hX : X < 100000000
                                · go_wp2
                                  go_round
                                  case rel => exact ⟨j + 1, X * 10 + ((s[j].toNat : Int) - 48), by go_num, by go_num, by omega, by omega, by omega, by omega, by show _ = _; rw [← HX.out, HA2.out, if_neg (by omega), if_pos hX]⟩
                                  case measure => simp [intOf]; omega
                                · go_wp2
                                  go_round
                                  case rel => exact ⟨j + 1, X, by go_num, rfl, by omega, by omega, by omega, by omega, by show _ = _; rw [← HX.out, HA2.out, if_neg (by omega), if_neg hX]⟩
                                  case measure => simp [intOf]; omega
                          · go_wp2
                            go_meet
                            case rel => exact ⟨⟨j, -X, rfl, rfl, by omega, by omega, hj, Or.inl ⟨by omega, HT3.out.trans (by rw [← HX.out, expo_end s j hjl]; rfl)⟩⟩, rfl⟩
                      · have HT3 : Hid (Num.tailExp (s.data.toList.drop k) = none) := by show _ = _; rw [HT2.out, if_pos h45, if_neg hlt2]
                        clear HT2
                        go_wp2
                        refine bodyPost_ret (v := .tuple #[.agg #[.bool false, .string ⟨#[]⟩, .int .i64 0], .bool false]) (by simp [results, Trym.results24, go_sem]) rfl ?_
                        exact ⟨ret_num (rd_none HSG.out HA.out HB.out HT3.out), (Below.refl _ _).alloc (Nat.le_refl _) _⟩
                    · by_cases h43 : (s[k + 1].toNat : Int) = 43
                      · by_cases hlt2 : k + 1 + 1 < s.size
                        · have HT3 : Hid (Num.tailExp (s.data.toList.drop k) = Num.expo (s.data.toList.drop (k + 1 + 1)) 0) := by show _ = _; rw [HT2.out, if_neg h45, if_pos h43, if_pos hlt2]
                          clear HT2
                          go_wp2_with fail
                          go_loop [4, 11] (fun i x => ∃ (j : Nat) (X : Int), i = .int .i64 j ∧ x = .int .i64 X ∧ j ≤ s.size ∧ k ≤ j ∧ 0 ≤ X ∧ X ≤ 999999999 ∧ Hid (Num.expo (s.data.toList.drop j) X = Num.expo (s.data.toList.drop (k + 1 + 1)) 0)) (fun i _ => s.size - (intOf i).toNat)
                          case atStart => exact ⟨k + 1 + 1, 0, by go_num, rfl, by omega, by omega, by omega, by omega, rfl⟩
                          case round =>
                            obtain ⟨j, X, rfl, rfl, hj, hkj, hX0, hX1, HX⟩ := hrel
                            by_cases hjl : j < s.size
                            · have HA2 : Hid _ := expo_at s j hjl X
                              by_cases hlo : (s[j].toNat : Int) < 48
                              · go_wp2
                                refine bodyPost_ret (v := .tuple #[.agg #[.bool false, .string ⟨#[]⟩, .int .i64 0], .bool false]) (by simp [results, Trym.results24, go_sem]) rfl ?_
                                exact ⟨ret_num (rd_none HSG.out HA.out HB.out (HT3.out.trans (by rw [← HX.out, HA2.out, if_pos (Or.inl hlo)]))), (Below.refl _ _).alloc (Nat.le_refl _) _⟩
                              · by_cases hhi : 57 < (s[j].toNat : Int)
                                · go_wp2
                                  refine bodyPost_ret (v := .tuple #[.agg #[.bool false, .string ⟨#[]⟩, .int .i64 0], .bool false]) (by simp [results, Trym.results24, go_sem]) rfl ?_
                                  exact ⟨ret_num (rd_none HSG.out HA.out HB.out (HT3.out.trans (by rw [← HX.out, HA2.out, if_pos (Or.inr hhi)]))), (Below.refl _ _).alloc (Nat.le_refl _) _⟩
                                · by_cases hX : X < 100000000
                                  · go_wp2
                                    go_round
                                    case rel => exact ⟨j + 1, X * 10 + ((s[j].toNat : Int) - 48), by go_num, by go_num, by omega, by omega, by omega, by omega, by show _ = _; rw [← HX.out, HA2.out, if_neg (by omega), if_pos hX]⟩
                                    case measure => simp [intOf]; omega
                                  · go_wp2
                                    go_round
                                    case rel => exact ⟨j + 1, X, by go_num, rfl, by omega, by omega, by omega, by omega, by show _ = _; rw [← HX.out, HA2.out, if_neg (by omega), if_neg hX]⟩
                                    case measure => simp [intOf]; omega
                            · go_wp2
                              go_meet
                              case rel => exact ⟨⟨j, X, rfl, rfl, by omega, by omega, hj, Or.inl ⟨by omega, HT3.out.trans (by rw [← HX.out, expo_end s j hjl])⟩⟩, rfl⟩
                        · have HT3 : Hid (Num.tailExp (s.data.toList.drop k) = none) := by show _ = _; rw [HT2.out, if_neg h45, if_pos h43, if_neg hlt2]
                          clear HT2
                          go_wp2
                          refine bodyPost_ret (v := .tuple #[.agg #[.bool false, .string ⟨#[]⟩, .int .i64 0], .bool false]) (by simp [results, Trym.results24, go_sem]) rfl ?_
                          exact ⟨ret_num (rd_none HSG.out HA.out HB.out HT3.out), (Below.refl _ _).alloc (Nat.le_refl _) _⟩
                      · have HT3 : Hid (Num.tailExp (s.data.toList.drop k) = Num.expo (s.data.toList.drop (k + 1)) 0) := by show _ = _; rw [HT2.out, if_neg h45, if_neg h43]
                        clear HT2
                        have b43 : ((s[k + 1].toNat : Int) == 43) = false := by simp [h43]
                        have b45 : ((s[k + 1].toNat : Int) == 45) = false := by simp [h45]
                        go_wp2_with fail
                        go_loop [4, 11] (fun i x => ∃ (j : Nat) (X : Int), i = .int .i64 j ∧ x = .int .i64 X ∧ j ≤ s.size ∧ k ≤ j ∧ 0 ≤ X ∧ X ≤ 999999999 ∧ Hid (Num.expo (s.data.toList.drop j) X = Num.expo (s.data.toList.drop (k + 1)) 0)) (fun i _ => s.size - (intOf i).toNat)
                        case atStart => exact ⟨k + 1, 0, by go_num, rfl, by omega, by omega, by omega, by omega, rfl⟩
                        case round =>
                          obtain ⟨j, X, rfl, rfl, hj, hkj, hX0, hX1, HX⟩ := hrel
                          by_cases hjl : j < s.size
                          · have HA2 : Hid _ := expo_at s j hjl X
                            by_cases hlo : (s[j].toNat : Int) < 48
                            · go_wp2
                              refine bodyPost_ret (v := .tuple #[.agg #[.bool false, .string ⟨#[]⟩, .int .i64 0], .bool false]) (by simp [results, Trym.results24, go_sem]) rfl ?_
                              exact ⟨ret_num (rd_none HSG.out HA.out HB.out (HT3.out.trans (by rw [← HX.out, HA2.out, if_pos (Or.inl hlo)]))), (Below.refl _ _).alloc (Nat.le_refl _) _⟩
                            · by_cases hhi : 57 < (s[j].toNat : Int)
                              · go_wp2
                                refine bodyPost_ret (v := .tuple #[.agg #[.bool false, .string ⟨#[]⟩, .int .i64 0], .bool false]) (by simp [results, Trym.results24, go_sem]) rfl ?_
                                exact ⟨ret_num (rd_none HSG.out HA.out HB.out (HT3.out.trans (by rw [← HX.out, HA2.out, if_pos (Or.inr hhi)]))), (Below.refl _ _).alloc (Nat.le_refl _) _⟩
                              · by_cases hX : X < 100000000
                                · go_wp2
                                  go_round
                                  case rel => exact ⟨j + 1, X * 10 + ((s[j].toNat : Int) - 48), by go_num, by go_num, by omega, by omega, by omega, by omega, by show _ = _; rw [← HX.out, HA2.out, if_neg (by omega), if_pos hX]⟩
                                  case measure => simp [intOf]; omega
                                · go_wp2
                                  go_round
                                  case rel => exact ⟨j + 1, X, by go_num, rfl, by omega, by omega, by omega, by omega, by show _ = _; rw [← HX.out, HA2.out, if_neg (by omega), if_neg hX]⟩
                                  case measure => simp [intOf]; omega
                          · go_wp2
                            go_meet
                            case rel => exact ⟨⟨j, X, rfl, rfl, by omega, by omega, hj, Or.inl ⟨by omega, HT3.out.trans (by rw [← HX.out, expo_end s j hjl])⟩⟩, rfl⟩
                  · go_wp2
                    refine bodyPost_ret (v := .tuple #[.agg #[.bool false, .string ⟨#[]⟩, .int .i64 0], .bool false]) (by simp [results, Trym.results24, go_sem]) rfl ?_
                    exact ⟨ret_num (rd_none HSG.out HA.out HB.out (HT.out.trans (tailE_end s (k + 1) hlt1))), (Below.refl _ _).alloc (Nat.le_refl _) _⟩
                · have hE' : isE s k = false := by simpa using hE
                  rw [hE']
                  clear hE
                  go_wp2
                  go_meet
                  case rel => exact ⟨⟨k, 0, rfl, rfl, by omega, by omega, hk, te_not s k hk hE'⟩, rfl⟩
              case rest =>
                obtain ⟨⟨i, x, rfl, rfl, hx0, hx1, hi, HX⟩, rfl⟩ := hcut
                by_cases hil : i < s.size
                · have HT : Hid (Num.tailExp (s.data.toList.drop k) = none) := by
                    rcases HX.out with ⟨a, _⟩ | ⟨_, b⟩
                    · omega
                    · exact b
                  go_wp2
                  refine bodyPost_ret (v := .tuple #[.agg #[.bool false, .string ⟨#[]⟩, .int .i64 0], .bool false]) (by simp [results, Trym.results24, go_sem]) rfl ?_
                  exact ⟨ret_num (rd_none HSG.out HA.out HB.out HT.out), (Below.refl _ _).alloc (Nat.le_refl _) _⟩
                · have HT : Hid (Num.rd s.data.toList = Num.fin s.data.toList ng x k P F L) := by
                    rcases HX.out with ⟨_, b⟩ | ⟨a, _⟩
                    · exact rd_some HSG.out HA.out HB.out b
                    · omega
                  clear HX HB HA HSG
                  by_cases hF : F < 0
                  · go_wp2
                    refine bodyPost_ret (v := .tuple #[.agg #[.bool false, .string ⟨#[]⟩, .int .i64 0], .bool true]) (by simp [results, Trym.results24, go_sem]) rfl ?_
                    exact ⟨ret_num (HT.out.trans (by rw [Num.fin, if_pos hF])), (Below.refl _ _).alloc (Nat.le_refl _) _⟩
                  · go_upto_if 170 with fail
                    go_cut [6] from 161 to 171 (fun s6 wc => (∃ p : Int, s6 = .int .i64 p ∧ 0 ≤ p ∧ p ≤ k ∧ Hid (p = if P < 0 then (k : Int) else P)) ∧ wc = w.alloc (.cells #[.bool ng, .string ⟨#[]⟩, .int .i64 0] 24))
                    case first =>
                      by_cases hP : P < 0
                      · go_wp2
                        go_meet
                        case rel => exact ⟨⟨k, rfl, by omega, by omega, by show _ = _; rw [if_pos hP]⟩, rfl⟩
                      · go_wp2
                        go_meet
                        case rel => exact ⟨⟨P, rfl, by omega, by omega, by show _ = _; rw [if_neg (by omega)]⟩, rfl⟩
                    case rest =>
                      obtain ⟨⟨p, rfl, hp0, hp1, HP⟩, rfl⟩ := hcut
                      by_cases hFp : F < p
                      · by_cases hpL : p < L
                        · go_wp2
                          go_region
                          go_wp2
                          refine bodyPost_ret (v := .tuple #[.agg #[.bool ng, .string (s.extract F.toNat p.toNat ++ s.extract (p + 1).toNat (L + 1).toNat), .int .i64 (x + p - F - 1)], .bool true]) (by simp [results, Trym.results24, go_sem]) rfl ?_
                          exact ⟨ret_eq (HT.out.trans (fin_both hF HP.out hFp hpL)) (dig_two s F p L), ((Below.refl _ _).alloc (Nat.le_refl _) _).drew⟩
                        · go_wp2
                          refine bodyPost_ret (v := .tuple #[.agg #[.bool ng, .string (s.extract F.toNat (L + 1).toNat), .int .i64 (x + p - F - 1)], .bool true]) (by simp [results, Trym.results24, go_sem]) rfl ?_
                          exact ⟨ret_eq (HT.out.trans (fin_lt hF HP.out hFp hpL)) (dig_one s F L), (Below.refl _ _).alloc (Nat.le_refl _) _⟩
                      · go_wp2
                        refine bodyPost_ret (v := .tuple #[.agg #[.bool ng, .string (s.extract F.toNat (L + 1).toNat), .int .i64 (x + p - F)], .bool true]) (by simp [results, Trym.results24, go_sem]) rfl ?_
                        exact ⟨ret_eq (HT.out.trans (fin_ge hF HP.out hFp)) (dig_one s F L), (Below.refl _ _).alloc (Nat.le_refl _) _⟩
end Go.Proofs.Qxb6000083aMods
