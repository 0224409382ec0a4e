/- 'Rows.FnReadAppendReadIsStableSaid': the guide's frame at this function; the walk goes by the contracts of readNumber and Append. -/
import Derived.Test.Qxb6000083aModsTexts
import Derived.WalkKit
import Derived.ProofKit
import Derived.OpenShut
import Derived.ShutString
import Derived.Deep.RegionWith
namespace Go.Proofs.Qxb6000083aMods.fnReadAppendReadIsStable
open Go.ChangeShapes Go.WideShapes Go.ChangeAt Go.RowKit Go.Lib
open Go.ChangeMaps (open_string shut_string)
set_option linter.unusedVariables false

theorem own : ownKnob Trym.prog.godebug = none := by kernel_rfl

theorem bytes13_yes (s : ByteArray) (w : World) (h : s.size ≤ 1048576) :
    Calls Trym.prog 13 #[.string s] w fun e w' => e = .returned (.bool true) ∧ w' = w := by
  go_enter Trym.func13, Trym.ntmps13
  go_wp2
  go_ret
  exact ⟨rfl, rfl⟩
theorem bytes13_no (s : ByteArray) (w : World) (h1 : s.size ≤ maxLen) (h : 1048576 < s.size) :
    Calls Trym.prog 13 #[.string s] w fun e w' => e = .returned (.bool false) ∧ w' = w := by
  unfold maxLen at h1
  go_enter Trym.func13, Trym.ntmps13
  go_wp2
  go_ret
  exact ⟨rfl, rfl⟩

set_option maxHeartbeats 400000 in
theorem walk (a0 : ByteArray) (w0 : a0.size ≤ maxLen) (w : World) :
    Calls Trym.prog 5 #[.string a0] w fun e w' => e = .returned (.bool true) ∧ Below w.heap.size w w' := by
  by_cases hbig : 1048576 < a0.size
  · go_enter Trym.func5, Trym.ntmps5
    go_wp2_with (go_at_call 13; refine (bytes13_no a0 _ w0 hbig).mono ?_; rintro e w' ⟨rfl, rfl⟩)
    go_ret
    exact ⟨rfl, Below.refl _ _⟩
  · obtain ⟨r, hr⟩ : ∃ r, r = Num.rd a0.data.toList := ⟨_, rfl⟩
    have HR : Hid (r = Num.rd a0.data.toList) := hr
    have hz := fun w => zz_any a0 w (by omega)
    rw [← hr] at hz
    clear hr
    have HZ : Hid _ := hz
    clear hz
    cases hok : r.ok
    · go_enter Trym.func5, Trym.ntmps5
      go_wp2_with (first | (go_at_call 13; refine (bytes13_yes a0 _ (by omega)).mono ?_; rintro e w' ⟨rfl, rfl⟩) | (go_at_call 10; refine (HZ.out _).mono ?_; rintro e w' ⟨rfl, hb⟩; rw [hok]))
      go_ret
      exact ⟨rfl, (by exact hb.alloc hb.size _)⟩
    · have hcan : Hid (Num.Canon r.neg r.dig r.ex) := by
        have h := Num.rd_canon a0.data.toList
        rw [← HR.out] at h
        exact h hok
      have hdl : r.dig.length ≤ 2097152 := by
        have h := Num.rd_dig_le a0.data.toList
        rw [← HR.out, data_len] at h
        omega
      clear HR
      obtain ⟨tx, htx, hrt, htl⟩ : ∃ tx, Num.app r.neg r.dig r.ex = tx ∧ Num.rd tx = ⟨r.neg, r.dig, r.ex, true⟩ ∧ (-65536 ≤ r.ex → r.ex ≤ 65536 → tx.length ≤ 4194304) :=
        ⟨_, rfl, Num.rd_app _ _ _ hcan.out, fun a b => by have := app_le r.neg r.dig r.ex a b; omega⟩
      have HAP : Hid (∀ W : World, -65536 ≤ r.ex → r.ex ≤ 65536 → Calls Trym.prog 14 #[.agg #[.bool r.neg, .string ⟨r.dig.toArray⟩, .int .i64 r.ex], .slice none 0 0] W fun e w' => ∃ g cap, e = .returned (.slice (some ⟨g, 0, none⟩) tx.length cap) ∧ Holds w' g tx ∧ Below W.heap.size W w') := by
        intro W a b
        have h := append_nil r.neg ⟨r.dig.toArray⟩ r.ex W (by show r.dig.length ≤ _; omega) a b
        rw [← htx]
        exact h
      have HZ2 : Hid (∀ W : World, tx.length ≤ 4194304 → Calls Trym.prog 10 #[.string ⟨tx.toArray⟩] W fun e w' => e = .returned (.tuple #[.agg #[.bool r.neg, .string ⟨r.dig.toArray⟩, .int .i64 r.ex], .bool true]) ∧ Below W.heap.size W w') := by
        intro W a
        have h := zz_any ⟨tx.toArray⟩ W a
        have e : Num.rd (⟨tx.toArray⟩ : ByteArray).data.toList = ⟨r.neg, r.dig, r.ex, true⟩ := hrt
        rw [e] at h
        exact h
      clear hcan htx hrt
      have hD : (⟨r.dig.toArray⟩ : ByteArray).size = r.dig.length := rfl
      by_cases hlo : r.ex < -65536
      · go_enter Trym.func5, Trym.ntmps5
        go_wp2_with (first | (go_at_call 13; refine (bytes13_yes a0 _ (by omega)).mono ?_; rintro e w' ⟨rfl, rfl⟩) | (go_at_call 10; refine (HZ.out _).mono ?_; rintro e w' ⟨rfl, hb⟩; rw [hok]))
        go_ret
        exact ⟨rfl, (by exact hb.alloc hb.size _)⟩
      · by_cases hhi : 65536 < r.ex
        · go_enter Trym.func5, Trym.ntmps5
          go_wp2_with (first | (go_at_call 13; refine (bytes13_yes a0 _ (by omega)).mono ?_; rintro e w' ⟨rfl, rfl⟩) | (go_at_call 10; refine (HZ.out _).mono ?_; rintro e w' ⟨rfl, hb⟩; rw [hok]))
          go_ret
          exact ⟨rfl, (by exact hb.alloc hb.size _)⟩
        · go_enter Trym.func5, Trym.ntmps5
          go_wp2_with (first | (go_at_call 13; refine (bytes13_yes a0 _ (by omega)).mono ?_; rintro e w' ⟨rfl, rfl⟩) | (go_at_call_of 10 (Value.string a0); refine (HZ.out _).mono ?_; rintro e w1 ⟨rfl, hb⟩; rw [hok]))
          have htl' := htl hlo hhi
          clear htl
          refine (HAP.out _ hlo hhi).mono ?_
          rintro e w2 ⟨g, cap, rfl, hh, hb2⟩
          have hcv := run_convert_bytes_back (P := Trym.prog) w2 29 9 5 ⟨g, 0, none⟩ cap tx Trym.underlying29 Trym.underlying5 Trym.underlying9 (fun j hj => by rw [show (⟨g, 0, none⟩ : Addr).add j = ⟨g, j, none⟩ by unfold Addr.add; split <;> simp_all]; exact hh j hj)
          have hs2 : w1.heap.size < w2.heap.size := by have := hb2.size; simp at this; omega
          clear hh
          go_wp2_with fail
          refine (HZ2.out _ htl').mono ?_
          rintro e w3 ⟨rfl, hb3⟩
          have hs3 : w1.heap.size < w3.heap.size := by have := hb3.size; omega
          have k0 : w3.cell? ⟨w1.heap.size, 0, none⟩ = some (.bool r.neg) := ((hb3.cell (p := ⟨w1.heap.size, 0, none⟩) hs2).trans (hb2.cell (p := ⟨w1.heap.size, 0, none⟩) (by simp))).trans (by simp)
          have k1 : w3.cell? ⟨w1.heap.size, 1, none⟩ = some (.string ⟨r.dig.toArray⟩) := ((hb3.cell (p := ⟨w1.heap.size, 1, none⟩) hs2).trans (hb2.cell (p := ⟨w1.heap.size, 1, none⟩) (by simp))).trans (by simp)
          have k2 : w3.cell? ⟨w1.heap.size, 2, none⟩ = some (.int .i64 r.ex) := ((hb3.cell (p := ⟨w1.heap.size, 2, none⟩) hs2).trans (hb2.cell (p := ⟨w1.heap.size, 2, none⟩) (by simp))).trans (by simp)
          go_wp2
          go_ret
          refine ⟨?_, ?_⟩
          · rfl
          · have z1 := hb.alloc hb.size (.cells #[.bool r.neg, .string ⟨r.dig.toArray⟩, .int .i64 r.ex] 24)
            have z2 := z1.trans (hb2.mono (by have := hb.size; simp; omega))
            have z3 := z2.trans (hb3.mono z2.size)
            exact z3.alloc z3.size _
/-! ### THE ROW's STEP: WRITTEN OUT: LEAVE IT -/
set_option maxRecDepth 100000 in
theorem lifted (os : Os) (started : os.Started) (H : Type) (enc : TypeId × Value → H) :
    ReturnsInHanded {} Trym.checked os 5 .any (Rows.fnReadAppendReadIsStableSpec.pre6 enc Trym.prog Trym.f5 Rows.fnReadAppendReadIsStableRow.domain false) (Rows.fnReadAppendReadIsStableSpec.post enc Trym.prog Trym.f5 false true false false) := by
  refine returnsInHanded_of_change (C := Trym.checked) own started (by kernel_rfl) Trym.func5
    (ChangeSpec.witness6 (enc := enc) (C := Trym.checked) false ⟨#[], #[.string ByteArray.empty], []⟩ 8 (by kernel_rfl) (by kernel_rfl) (by kernel_rfl) (by kernel_rfl)) ?_
  intro W base args ds gs before hval0 hW hcnd _
  have hval : ∀ (j : Nat) t v, Trym.f5.params[j]? = some t → args[j]? = some v → Value.okWide Trym.prog W .any base t v := hval0
  have hW' := hW
  obtain ⟨p, q, hA0, hV, rfl, hfz, hnd⟩ := hW
  have hA : DataW.TrodAll enc Trym.prog W 0 (fun _ => true) true Trym.f5.params.toList args.toList ds p := hA0
  rw [Trym.params5] at hA hval
  obtain ⟨v0, vs0, d0, ds0, p0, q0, hargs, rfl, rfl, h0, r0⟩ := trodAll_cons hA
  obtain ⟨rfl, rfl, rfl⟩ := trodAll_nil r0
  obtain rfl : args = #[v0] := by cases args; simp_all
  obtain ⟨rfl, rfl⟩ := trodVars_none hV
  obtain ⟨a0, rfl, rfl, rfl, w0⟩ := open_string Trym.underlying9 (hval 0 9 v0 rfl rfl) h0
  clear hA0 hval0
  simp only [List.append_nil] at hW'
  refine (walk a0 w0 W).mono fun e W' ⟨he, bel⟩ => ?_
  subst he
  exact ⟨_, rfl, _, _, _, [], _, [], hW', trodAll_mk1 (shut_bool Trym.underlying4 _), (trodAll_cons_mk (shut_string Trym.underlying9 w0) trodAll_mk0), rfl, bel.frame _, fun h => by cases h⟩

theorem over : Rows.fnReadAppendReadIsStableRow.holds Trym.pinned (OpenSpec.ofChange Rows.fnReadAppendReadIsStableSpec) :=
  OpenClaim.holds_of_wide 5 Trym.f5 rfl rfl rfl rfl rfl rfl rfl ⟨rfl, rfl, rfl, rfl, rfl⟩ rfl rfl rfl rfl rfl (by kernel_rfl) Trym.func5 (by kernel_rfl)
    (of_decide_eq_true (by kernel_rfl)) (by unfold Func.isWrapper; first | (rw [if_pos (by decide +kernel)]; kernel_rfl) | (rw [if_neg (by decide +kernel)]; exact ⟨rfl, rfl⟩))
    (fun os started H enc _ => lifted os started H enc)

/-- ████ THE STATEMENT ████ -/
theorem proved : Rows.FnReadAppendReadIsStableSaid :=
  over
#print axioms proved
end Go.Proofs.Qxb6000083aMods.fnReadAppendReadIsStable
