/- 'Rows.FnAppendReadsBackSaid': the guide's frame at this function; the walk goes by the contracts of zzCanonical, Append and readNumber. -/
import Derived.Test.Qxb6000083aModsTexts
import Derived.Test.Qxb6000083aModsCanon
import Derived.WalkKit
import Derived.ProofKit
import Derived.OpenShut
import Derived.ShutString
import Derived.Deep.RegionWith
namespace Go.Proofs.Qxb6000083aMods.fnAppendReadsBack
open Go.ChangeShapes Go.WideShapes Go.ChangeAt Go.RowKit Go.Lib
open Go.ChangeMaps (open_string shut_string)
set_option linter.unusedVariables false

theorem own : ownKnob Trym.prog.godebug = none := by kernel_rfl

theorem bytes18_yes (a : Bool) (s : ByteArray) (x : Int) (w : World) (h : s.size ≤ 1048576) :
    Calls Trym.prog 18 #[.bool a, .string s, .int .i64 x] w fun e w' => e = .returned (.bool true) ∧ w = w' := by
  go_enter Trym.func18, Trym.ntmps18
  go_wp2
  go_ret
  exact ⟨rfl, rfl⟩
theorem bytes18_no (a : Bool) (s : ByteArray) (x : Int) (w : World) (h1 : s.size ≤ maxLen) (h : 1048576 < s.size) :
    Calls Trym.prog 18 #[.bool a, .string s, .int .i64 x] w fun e w' => e = .returned (.bool false) ∧ w = w' := by
  unfold maxLen at h1
  go_enter Trym.func18, Trym.ntmps18
  go_wp2
  go_ret
  exact ⟨rfl, rfl⟩

set_option maxHeartbeats 400000 in
theorem walk (a0 : Bool) (a1 : ByteArray) (a2 : Int) (w : World) (w1 : a1.size ≤ maxLen) (w2 : (Lit.int .i64 a2).wf = true) :
    Calls Trym.prog 7 #[.bool a0, .string a1, .int .i64 a2] w fun e w' => e = .returned (.bool true) ∧ Below w.heap.size w w' := by
  by_cases hbig : 1048576 < a1.size
  · go_enter Trym.func7, Trym.ntmps7
    go_wp2_with (go_at_call 18; refine (bytes18_no a0 a1 a2 _ w1 hbig).mono ?_; rintro e w' ⟨rfl, rfl⟩)
    go_ret
    exact ⟨rfl, Below.refl _ _⟩
  · by_cases hlo : a2 < -65536
    · go_enter Trym.func7, Trym.ntmps7
      go_wp2_with (go_at_call 18; refine (bytes18_yes a0 a1 a2 _ (by omega)).mono ?_; rintro e w' ⟨rfl, rfl⟩)
      go_ret
      exact ⟨rfl, Below.refl _ _⟩
    · by_cases hhi : 65536 < a2
      · go_enter Trym.func7, Trym.ntmps7
        go_wp2_with (go_at_call 18; refine (bytes18_yes a0 a1 a2 _ (by omega)).mono ?_; rintro e w' ⟨rfl, rfl⟩)
        go_ret
        exact ⟨rfl, Below.refl _ _⟩
      · go_enter Trym.func7, Trym.ntmps7
        go_wp2_with (go_at_call 18; refine (bytes18_yes a0 a1 a2 _ (by omega)).mono ?_; rintro e w' ⟨rfl, rfl⟩)
        refine (canonical_any a0 a1 a2 _ (by omega)).mono ?_
        rintro e w' ⟨b, rfl, hcan, rfl⟩
        cases b
        · go_wp2
          go_ret
          exact ⟨rfl, Below.refl _ _⟩
        · obtain ⟨d, hd⟩ : ∃ d, a1.data.toList = d := ⟨_, rfl⟩
          have ea : (⟨d.toArray⟩ : ByteArray) = a1 := by rw [← hd]
          have hdl : d.length ≤ 1048576 := by rw [← hd, data_len]; omega
          have hc := hcan rfl
          rw [hd] at hc
          clear hcan
          obtain ⟨tx, htx, hrt, htl⟩ : ∃ tx, Num.app a0 d a2 = tx ∧ Num.rd tx = ⟨a0, d, a2, true⟩ ∧ tx.length ≤ 4194304 :=
            ⟨_, rfl, Num.rd_app _ _ _ hc, by have := app_le a0 d a2 (by omega) (by omega); omega⟩
          have HAP : Hid (∀ W : World, Calls Trym.prog 14 #[.agg #[.bool a0, .string a1, .int .i64 a2], .slice none 0 0] W fun e w' => ∃ g cap, e = .returned (.slice (some ⟨g, 0, none⟩) tx.length cap) ∧ Holds w' g tx ∧ Below W.heap.size W w') := by
            intro W
            have h := append_nil a0 a1 a2 W (by omega) (by omega) (by omega)
            rw [hd, htx] at h
            exact h
          have HZ2 : Hid (∀ W : World, Calls Trym.prog 10 #[.string ⟨tx.toArray⟩] W fun e w' => e = .returned (.tuple #[.agg #[.bool a0, .string a1, .int .i64 a2], .bool true]) ∧ Below W.heap.size W w') := by
            intro W
            have h := zz_any ⟨tx.toArray⟩ W htl
            have e : Num.rd (⟨tx.toArray⟩ : ByteArray).data.toList = ⟨a0, d, a2, true⟩ := hrt
            rw [e] at h
            rw [← ea]
            exact h
          clear hc htx hrt hd ea
          go_wp2_with fail
          refine (HAP.out _).mono ?_
          rintro e w2 ⟨g, cap, rfl, hh, hb2⟩
          have hcv := run_convert_bytes_back (P := Trym.prog) w2 29 9 5 ⟨g, 0, none⟩ cap tx Trym.underlying29 Trym.underlying5 Trym.underlying9 (fun j hj => by rw [show (⟨g, 0, none⟩ : Addr).add j = ⟨g, j, none⟩ by unfold Addr.add; split <;> simp_all]; exact hh j hj)
          have hs2 : w'.heap.size < w2.heap.size := by have := hb2.size; simp at this; omega
          clear hh
          go_wp2_with fail
          refine (HZ2.out _).mono ?_
          rintro e w3 ⟨rfl, hb3⟩
          have hs3 : w'.heap.size < w3.heap.size := by have := hb3.size; omega
          have k0 : w3.cell? ⟨w'.heap.size, 0, none⟩ = some (.bool a0) := ((hb3.cell (p := ⟨w'.heap.size, 0, none⟩) hs2).trans (hb2.cell (p := ⟨w'.heap.size, 0, none⟩) (by simp))).trans (by simp)
          have k1 : w3.cell? ⟨w'.heap.size, 1, none⟩ = some (.string a1) := ((hb3.cell (p := ⟨w'.heap.size, 1, none⟩) hs2).trans (hb2.cell (p := ⟨w'.heap.size, 1, none⟩) (by simp))).trans (by simp)
          have k2 : w3.cell? ⟨w'.heap.size, 2, none⟩ = some (.int .i64 a2) := ((hb3.cell (p := ⟨w'.heap.size, 2, none⟩) hs2).trans (hb2.cell (p := ⟨w'.heap.size, 2, none⟩) (by simp))).trans (by simp)
          go_wp2
          go_ret
          refine ⟨?_, ?_⟩
          · rfl
          · have z1 := (Below.refl w'.heap.size w').alloc (Nat.le_refl _) (.cells #[.bool a0, .string a1, .int .i64 a2] 24)
            have z2 := z1.trans (hb2.mono (by simp))
            have z3 := z2.trans (hb3.mono z2.size)
            exact z3.alloc z3.size _

/-! ### THE ROW's STEP: WRITTEN OUT: LEAVE IT -/
set_option maxRecDepth 100000 in
theorem lifted (os : Os) (started : os.Started) (H : Type) (enc : TypeId × Value → H) :
    ReturnsInHanded {} Trym.checked os 7 .any (Rows.fnAppendReadsBackSpec.pre6 enc Trym.prog Trym.f7 Rows.fnAppendReadsBackRow.domain false) (Rows.fnAppendReadsBackSpec.post enc Trym.prog Trym.f7 false true false false) := by
  refine returnsInHanded_of_change (C := Trym.checked) own started (by kernel_rfl) Trym.func7
    (ChangeSpec.witness6 (enc := enc) (C := Trym.checked) false ⟨#[], #[.bool false, .string ByteArray.empty, .int .i64 0], []⟩ 8 (by kernel_rfl) (by kernel_rfl) (by kernel_rfl) (by kernel_rfl)) ?_
  intro W base args ds gs before hval0 hW hcnd _
  have hval : ∀ (j : Nat) t v, Trym.f7.params[j]? = some t → args[j]? = some v → Value.okWide Trym.prog W .any base t v := hval0
  have hW' := hW
  obtain ⟨p, q, hA0, hV, rfl, hfz, hnd⟩ := hW
  have hA : DataW.TrodAll enc Trym.prog W 0 (fun _ => true) true Trym.f7.params.toList args.toList ds p := hA0
  rw [Trym.params7] at hA hval
  obtain ⟨v0, vs0, d0, ds0, p0, q0, hargs, rfl, rfl, h0, r0⟩ := trodAll_cons hA
  obtain ⟨v1, vs1, d1, ds1, p1, q1, rfl, rfl, rfl, h1, r1⟩ := trodAll_cons r0
  obtain ⟨v2, vs2, d2, ds2, p2, q2, rfl, rfl, rfl, h2, r2⟩ := trodAll_cons r1
  obtain ⟨rfl, rfl, rfl⟩ := trodAll_nil r2
  obtain rfl : args = #[v0, v1, v2] := by cases args; simp_all
  obtain ⟨rfl, rfl⟩ := trodVars_none hV
  obtain ⟨a0, rfl, rfl, rfl⟩ := open_bool Trym.underlying4 (hval 0 4 v0 rfl rfl) h0
  obtain ⟨a1, rfl, rfl, rfl, w1⟩ := open_string Trym.underlying9 (hval 1 9 v1 rfl rfl) h1
  obtain ⟨a2, rfl, rfl, rfl, w2⟩ := open_int Trym.underlying3 (hval 2 3 v2 rfl rfl) h2
  clear hA0 hval0
  simp only [List.append_nil] at hW'
  refine (walk a0 a1 a2 W w1 w2).mono fun e W' ⟨he, bel⟩ => ?_
  subst he
  exact ⟨_, rfl, _, _, _, [], _, [], hW', trodAll_mk1 (shut_bool Trym.underlying4 _), (trodAll_cons_mk (shut_bool Trym.underlying4 _) (trodAll_cons_mk (shut_string Trym.underlying9 w1) (trodAll_cons_mk (shut_int Trym.underlying3 w2) trodAll_mk0))), rfl, bel.frame _, fun h => by cases h⟩

theorem over : Rows.fnAppendReadsBackRow.holds Trym.pinned (OpenSpec.ofChange Rows.fnAppendReadsBackSpec) :=
  OpenClaim.holds_of_wide 7 Trym.f7 rfl rfl rfl rfl rfl rfl rfl ⟨rfl, rfl, rfl, rfl, rfl⟩ rfl rfl rfl rfl rfl (by kernel_rfl) Trym.func7 (by kernel_rfl)
    (of_decide_eq_true (by kernel_rfl)) (by unfold Func.isWrapper; first | (rw [if_pos (by decide +kernel)]; kernel_rfl) | (rw [if_neg (by decide +kernel)]; exact ⟨rfl, rfl⟩))
    (fun os started H enc _ => lifted os started H enc)

/-- ████ THE STATEMENT ████ -/
theorem proved : Rows.FnAppendReadsBackSaid :=
  over
#print axioms proved
end Go.Proofs.Qxb6000083aMods.fnAppendReadsBack
