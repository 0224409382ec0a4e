/- THE WALK OF FnTemplateFirstExactElseFirstAny (3). -/
import Derived.Test.Qxb6601458aModsToV1
import Derived.Test.Qxb6601458aModsBytes
import Derived.Test.Qxb6601458aModsSame
import Derived.Lib.Builder
namespace Go.Proofs.Qxb6601458aMods
open Go.RowKit

theorem first_same {T : Nat → Tm} {v : ByteArray} {i j : Nat} (hi : (T i).ver = v) (hi2 : ∀ k, k < i → (T k).ver ≠ v) (hj : (T j).ver = v) (hj2 : ∀ k, k < j → (T k).ver ≠ v) : i = j := by
  rcases Nat.lt_trichotomy i j with h | h | h
  · exact absurd hi (hj2 i h)
  · exact h
  · exact absurd hj (hi2 j h)

theorem tpl_exact {T : Nat → Tm} {U : Nat → Option Addr} {n i : Nat} {v : ByteArray} {u q : Option Addr} (h : TplIs (moved T U) n v u q) (hi : i < n) (h1 : (T i).ver = v) (h2 : ∀ k, k < i → (T k).ver ≠ v) :
    ∃ b o, u = some ⟨b, o, none⟩ ∧ q = some ⟨b, o + i * 4, none⟩ := by
  rcases h with ⟨j, b, o, hj, e1, e2, e3, e4⟩ | ⟨h, _⟩
  · have : i = j := first_same h1 h2 (show (T j).ver = v from e3) e4
    subst this
    exact ⟨b, o, e1, e2⟩
  · exact absurd h1 (h i hi)

theorem tpl_star {T : Nat → Tm} {U : Nat → Option Addr} {n i : Nat} {v : ByteArray} {u q : Option Addr} (h : TplIs (moved T U) n v u q) (h0 : ∀ k, k < n → (T k).ver ≠ v) (hi : i < n) (h1 : (T i).ver = star) (h2 : ∀ k, k < i → (T k).ver ≠ star) :
    ∃ b o, u = some ⟨b, o, none⟩ ∧ q = some ⟨b, o + i * 4, none⟩ := by
  rcases h with ⟨j, b, o, hj, e1, e2, e3, e4⟩ | ⟨_, ⟨_, h⟩ | ⟨j, b, o, hj, e1, e2, e3, e4⟩⟩
  · exact absurd (show (T j).ver = v from e3) (h0 j hj)
  · exact absurd h1 (h i hi)
  · have : i = j := first_same h1 h2 (show (T j).ver = star from e3) e4
    subst this
    exact ⟨b, o, e1, e2⟩

theorem tpl_none {T : Nat → Tm} {U : Nat → Option Addr} {n : Nat} {v : ByteArray} {u q : Option Addr} (h : TplIs (moved T U) n v u q) (h0 : ∀ k, k < n → (T k).ver ≠ v) (h1 : ∀ k, k < n → (T k).ver ≠ star) : q = none := by
  rcases h with ⟨j, b, o, hj, e1, e2, e3, e4⟩ | ⟨_, ⟨h, _⟩ | ⟨j, b, o, hj, e1, e2, e3, e4⟩⟩
  · exact absurd (show (T j).ver = v from e3) (h0 j hj)
  · exact h
  · exact absurd (show (T j).ver = star from e3) (h1 j hj)

set_option maxRecDepth 100000 in
set_option maxHeartbeats 4000000 in
theorem template_any (ao : Option Addr) (n cap : Nat) (T : Nat → Tm) (v : ByteArray) (w : World) (hs : TSrc w ao n T) (hl : n ≤ maxLen) :
    Calls Trym.prog 3 #[.slice ao n cap, .string v] w fun e w' => e = .returned (.bool true) ∧ Below w.heap.size w w' := by
  have HB := hid (bytes_any ao n cap T v w hs hl)
  have HF := hid (fits_any ao n cap v.size T w hs hl (by omega))
  have HV := hid (fun h => v1_any ao n cap T w hs h)
  have HS := hid hs
  have HL := hid hl
  clear hs hl
  obtain ⟨j34, hj34, _⟩ := info_parts info34
  have hpp := fun (a : Addr) (W : World) => Lib.run_neq_ptr_same (P := Trym.prog) (w := W) a Trym.underlying29 hj34
  go_enter Trym.func3, Trym.ntmps3
  go_wp2_with fail
  refine HB.out.mono ?_
  rintro e w' ⟨b, rfl, rfl⟩
  cases b
  · go_wp2
    go_ret
    exact ⟨rfl, Below.refl _ _⟩
  go_wp2_with fail
  refine HF.out.mono ?_
  rintro e w' ⟨b, rfl, hb, rfl⟩
  have HSM := hid hb
  clear hb
  cases b
  · go_wp2
    go_ret
    exact ⟨rfl, Below.refl _ _⟩
  have hsm : Small T n := HSM.out rfl
  have hn := hsm.1
  have HV2 := hid (HV.out hsm)
  clear HB HF HV HSM hsm
  go_wp2_with fail
  refine HV2.out.mono ?_
  rintro e w1 ⟨u, U, rfl, hun, hts, hue, hb1⟩
  have hbs : Beside w1 u ao n T U := ⟨hts, HS.out.below hb1, hun, hue⟩
  have hbA : Below w1.heap.size w1 (w1.alloc (.cells #[.slice u n n] 28)) := (Below.refl _ _).alloc (Nat.le_refl _) _
  have HT := hid (tpl_any w1.heap.size 0 u n n (moved T U) v (w1.alloc (.cells #[.slice u n n] 28)) (hts.below hbA) HL.out (by simp))
  have HFI := hid (fun x => first_any ao n cap T x (w1.alloc (.cells #[.slice u n n] 28)) ((HS.out.below hb1).below hbA) HL.out)
  have HSA := hid (same_any u ao n n cap T U (w1.alloc (.cells #[.slice u n n] 28)) (hbs.below hbA) HL.out)
  have HBB := hid (hb1.alloc hb1.size (.cells #[.slice u n n] 28))
  have hcell : (w1.alloc (.cells #[.slice u n n] 28)).cell? ⟨w1.heap.size, 0, none⟩ = some (.slice u n n) := by simp
  clear HV2 hun hts hue hb1 hbs hbA
  go_wp2_with fail
  generalize w1.alloc (.cells #[.slice u n n] 28) = w2 at HT HFI HSA HBB hcell ⊢
  generalize w1.heap.size = sb at HT hcell ⊢
  refine HT.out.mono ?_
  rintro e w' ⟨q, rfl, hq, rfl⟩
  have HQ := hid hq
  clear hq HT
  go_wp2_with fail
  refine (HFI.out v).mono ?_
  rintro e w' ⟨z, rfl, hz, rfl⟩
  rcases hz with ⟨rfl, hz1⟩ | ⟨i, hi, rfl, hz1, hz2⟩
  · have HZ1 := hid hz1
    clear hz1
    go_wp2_with fail
    refine (HFI.out _).mono ?_
    rintro e w' ⟨z, rfl, hz, rfl⟩
    rcases hz with ⟨rfl, hz2⟩ | ⟨i, hi, rfl, hz2, hz3⟩
    · have hqn : q = none := tpl_none HQ.out HZ1.out hz2
      subst hqn
      clear HQ HZ1 hz2
      go_wp2_with fail
      refine HSA.out.mono ?_
      rintro e w9 ⟨rfl, hb9⟩
      go_wp2
      go_ret
      exact ⟨rfl, HBB.out.trans (hb9.mono HBB.out.size)⟩
    · obtain ⟨b, o, hu, hqn⟩ := tpl_star HQ.out HZ1.out hi hz2 hz3
      subst hu hqn
      clear HQ HZ1 hz2 hz3
      have hI : (i : Int) < (n : Int) := by omega
      go_wp2_with fail
      refine HSA.out.mono ?_
      rintro e w9 ⟨rfl, hb9⟩
      go_wp2
      go_ret
      exact ⟨rfl, HBB.out.trans (hb9.mono HBB.out.size)⟩
  · obtain ⟨b, o, hu, hqn⟩ := tpl_exact HQ.out hi hz1 hz2
    subst hu hqn
    clear HQ hz1 hz2
    have hI : (i : Int) < (n : Int) := by omega
    go_wp2_with fail
    refine HSA.out.mono ?_
    rintro e w9 ⟨rfl, hb9⟩
    go_wp2
    go_ret
    exact ⟨rfl, HBB.out.trans (hb9.mono HBB.out.size)⟩
end Go.Proofs.Qxb6601458aMods
