/- THE WALK OF FnZoneOfSeveralIsLowestSharedZone (3). -/
import Derived.Test.Qxb6600077aModsBuild
namespace Go.Proofs.Qxb6600077aMods
open Go.RowKit

theorem Src.drewN {w : World} {ao : Option Addr} {ss : List ByteArray} (h : Src w ao ss) (q : Nat) : Src (w.drewN q) ao ss := ⟨h.nil, h.row⟩
theorem below_drewN {B : Nat} {w wr : World} (h : Below B w wr) (n : Nat) : Below B w (wr.drewN n) := ⟨h.os, h.tape, h.output, h.size, h.block⟩

theorem Src.take {w : World} {ao : Option Addr} {ss : List ByteArray} (h : Src w ao ss) (n : Nat) : Src w ao (ss.take n) := by
  refine ⟨fun e => by rw [h.nil e]; simp, fun hne => ?_⟩
  obtain ⟨b, o, h1, h2, h3⟩ := h.row (fun e => hne (by rw [e]; simp))
  refine ⟨b, o, h1, h2, fun j hj => ?_⟩
  rw [List.length_take] at hj
  rw [h3 j (by omega), List.getElem_take]

theorem Lowest.ok {w : World} {T : Table} {e : Ending} {w' : World} (h : Lowest w T e w') : ∃ f, e = .returned (.string f) ∧ Least T f ∧ Below w.heap.size w w' := h

/-- 'xs[:n]'. -/
theorem cut_run (a : Option Addr) (len cap n : Nat) (h : n ≤ cap) (w : World) : (Instr.sliceAt 22 (.slice a len cap) none (some (.int .i64 n)) none).run Trym.prog w = .ok (.slice a n cap) w := by
  have hu : Trym.prog.underlying 22 = some (.slice (Trym.prog.elem 22)) := by kernel_rfl
  have hz : (sizeOf (Trym.prog.elem 22)).run Trym.prog w = .ok 1 w := by kernel_rfl
  rw [run_sliceAt_slice w 22 _ _ _ _ hu, run_slice_h w 22 a len cap hu .i64 n (by omega) (by omega), hz]
  have ha : Option.map (fun x : Addr => x.add (0 * 1)) a = a := by
    cases a with
    | none => rfl
    | some x => obtain ⟨b, o, s⟩ := x; cases s <;> simp [Addr.add]
  have : sliced a 0 (n : Int).toNat cap 1 = .slice a n cap := by
    unfold sliced
    rw [ha]
    simp
  simp only [Result.andThen, this]

/-- Behind the two clones. -/
structure Two (w W : World) (u0 u1 : Option Addr) (s0 s1 : List ByteArray) : Prop where
  v0 : VRow W u0 s0
  v1 : VRow W u1 s1
  below : Below w.heap.size w W

theorem Two.on {w W W' : World} {u0 u1 : Option Addr} {s0 s1 : List ByteArray} (h : Two w W u0 u1 s0 s1) (hb : Below W.heap.size W W') : Two w W' u0 u1 s0 s1 :=
  ⟨h.v0.below hb, h.v1.below hb, h.below.trans (hb.mono h.below.size)⟩

theorem zip_full {zs ds : List ByteArray} (h : Full zs) : ∀ p ∈ zs.zip ds, p.1.toList.isEmpty = false := by
  intro p hp
  obtain ⟨j, hj, e⟩ := List.mem_iff_getElem.1 hp
  rw [List.length_zip] at hj
  rw [← e, List.getElem_zip]
  exact h j (by omega)

set_option maxRecDepth 100000 in
set_option maxHeartbeats 2000000 in
theorem lowest_any (a0 a1 : Option Addr) (c0 c1 : Nat) (s0 s1 : List ByteArray) (w : World)
    (h0 : Src w a0 s0) (l0 : s0.length ≤ maxLen) (k0 : s0.length ≤ c0) (h1 : Src w a1 s1) (l1 : s1.length ≤ maxLen) :
    Calls Trym.prog 3 #[.slice a0 s0.length c0, .slice a1 s1.length c1] w fun e w' => e = .returned (.bool true) ∧ Below w.heap.size w w' := by
  have HB := hid (bytes7_any a0 a1 c0 c1 s0 s1 w h0 l0 h1 l1)
  have HB0 := hid (strBytes_any a0 c0 s0 w h0 l0)
  have HB1 := hid (strBytes_any a1 c1 s1 w h1 l1)
  obtain ⟨n0, e0⟩ : ∃ n, s0.length = n := ⟨_, rfl⟩
  obtain ⟨n1, e1⟩ : ∃ n, s1.length = n := ⟨_, rfl⟩
  have HH := hid (And.intro h0 (And.intro h1 (And.intro e0 e1)))
  rw [e0] at HB HB0 l0 k0 ⊢
  rw [e1] at HB HB1 l1 ⊢
  unfold maxLen at l0 l1
  clear h0 h1 e0 e1
  go_enter Trym.func3, Trym.ntmps3
  go_wp2_with fail
  refine HB.out.mono ?_
  rintro e w' ⟨b, rfl, rfl⟩
  cases b
  · go_wp2
    go_ret
    exact ⟨rfl, Below.refl _ _⟩
  go_wp2_with fail
  refine HB0.out.mono ?_
  rintro e w' ⟨z0, rfl, z00, z01, z02, rfl⟩
  go_wp2_with fail
  refine HB1.out.mono ?_
  rintro e w' ⟨z1, rfl, z10, z11, z12, rfl⟩
  by_cases hbig : 1048576 < z0 + z1
  · go_wp2
    go_ret
    exact ⟨rfl, Below.refl _ _⟩
  have hs0 : ∀ s ∈ s0, s.size ≤ maxLen := fun s hs => by have := z02 (by omega) s hs; unfold maxLen; omega
  have hs1 : ∀ s ∈ s1, s.size ≤ maxLen := fun s hs => by have := z12 (by omega) s hs; unfold maxLen; omega
  have HS := hid (And.intro hs0 hs1)
  clear z02 z12 hs0 hs1 HB HB0 HB1
  by_cases hm0 : 4096 < n0
  · have hm0' : (4096 : Int) < (n0 : Int) := by omega
    go_wp2
    go_ret
    exact ⟨rfl, Below.refl _ _⟩
  by_cases hm1 : 4096 < n1
  · have hm1' : (4096 : Int) < (n1 : Int) := by omega
    go_wp2
    go_ret
    exact ⟨rfl, Below.refl _ _⟩
  go_wp2_with fail
  refine (shorter_any _ _ _).mono ?_
  rintro e w' ⟨rfl, rfl⟩
  obtain ⟨n, hn, hnn0, hnn1⟩ : ∃ n : Nat, (if (n0 : Int) < (n1 : Int) then (n0 : Int) else (n1 : Int)) = (n : Int) ∧ n ≤ n0 ∧ n ≤ n1 := by
    by_cases h : (n0 : Int) < (n1 : Int)
    · exact ⟨n0, by rw [if_pos h], by omega, by omega⟩
    · exact ⟨n1, by rw [if_neg h], by omega, by omega⟩
  rw [hn]
  clear hn
  obtain ⟨zs, hzs⟩ : ∃ zs, s0.take n = zs := ⟨_, rfl⟩
  obtain ⟨ds, hds⟩ : ∃ ds, s1.take n = ds := ⟨_, rfl⟩
  have hzl : zs.length = n := by rw [← hzs, List.length_take, HH.out.2.2.1]; omega
  have hdl : ds.length = n := by rw [← hds, List.length_take, HH.out.2.2.2]; omega
  have hsz : Src w a0 zs := by rw [← hzs]; exact HH.out.1.take n
  have HA := hid (asc_any a0 c0 zs w hsz (by omega))
  have HF := hid (fun W => full_any a0 c0 zs (w.drewN W) (hsz.drewN W) (by unfold maxLen; omega))
  rw [hzl] at HA HF
  have HZ := hid (And.intro hzs (And.intro hds (And.intro hzl hdl)))
  clear hsz hzs hds hzl hdl
  have hcut := cut_run a0 n0 c0 n (by omega)
  go_wp2_with fail
  refine HA.out.mono ?_
  rintro e w' ⟨b, rfl, hA, m, rfl⟩
  have HA2 := hid hA
  clear hA
  cases b
  · go_wp2
    go_ret
    exact ⟨rfl, below_drewN (Below.refl _ _) m⟩
  go_wp2_with fail
  refine (HF.out m).mono ?_
  rintro e w' ⟨b, rfl, hF, rfl⟩
  have HF2 := hid hF
  clear hF
  cases b
  · go_wp2
    go_ret
    exact ⟨rfl, below_drewN (Below.refl _ _) m⟩
  have HAF := hid (And.intro (HA2.out.1 trivial) (HF2.out.1 rfl))
  clear HA2 HF2 HA HF
  have HC0 := hid (clone_any a0 c0 s0 (w.drewN m) (HH.out.1.drewN m) (by have := HH.out.2.2.1; omega))
  rw [HH.out.2.2.1] at HC0
  go_wp2_with fail
  refine HC0.out.mono ?_
  rintro e w1 ⟨u0, rfl, _, hv0, hb0, _⟩
  have HC1 := hid (clone_any a1 c1 s1 w1 ((HH.out.2.1.drewN m).below hb0) (by have := HH.out.2.2.2; omega))
  rw [HH.out.2.2.2] at HC1
  rw [HH.out.2.2.1]
  have HV0 := hid (And.intro hv0 hb0)
  clear hv0 hb0 HC0
  go_wp2_with fail
  refine HC1.out.mono ?_
  rintro e w2 ⟨u1, rfl, _, hv1, hb1, _⟩
  rw [HH.out.2.2.2]
  have hT : Two w w2 u0 u1 s0 s1 := ⟨HV0.out.1.below hb1, hv1, ((below_drewN (Below.refl _ _) m).trans HV0.out.2).trans (hb1.mono HV0.out.2.size)⟩
  have HT := hid hT
  clear hv1 hb1 HV0 HC1
  have HBD := hid (build_any u0 u1 n0 n0 n1 n1 zs ds w2 (HZ.out.1 ▸ hT.v0.src.take n) (HZ.out.2.1 ▸ hT.v1.src.take n) (by have := HZ.out.2.2; omega) (by have := HZ.out.2.2; omega) (by have := HZ.out.2.2; omega) (by have := HZ.out.2.2; omega)
    (asc_apart HAF.out.1) (fun s hs => HS.out.1 s (by rw [← HZ.out.1] at hs; exact List.mem_of_mem_take hs)) (fun s hs => HS.out.2 s (by rw [← HZ.out.2.1] at hs; exact List.mem_of_mem_take hs)))
  rw [HZ.out.2.2.1] at HBD
  clear hT
  go_wp2_with fail
  refine HBD.out.mono ?_
  rintro e w3 ⟨b, rfl, hbs, D, ho, ht, hb3⟩
  have HZZ := hid (zz_any b _ D (zs.zip ds) w3 ho ht (asc_apart HAF.out.1) (by rw [List.length_zip]; have := HZ.out.2.2; omega) (by rw [List.length_zip]; have := HZ.out.2.2; omega) (zip_full HAF.out.2))
  have HT3 := hid (HT.out.on hb3)
  clear ho ht hb3 HBD HT
  go_wp2_with fail
  refine HZZ.out.mono ?_
  rintro e w4 ⟨f, rfl, hf, hb4⟩
  have HT4 := hid (HT3.out.on hb4)
  have HL := hid hf
  clear hf hb4 HZZ HT3
  go_wp2
  go_loopw [7, 8] (fun s7 s8 wr => ∃ k : Nat, s7 = .string { data := #[] } ∧ s8 = .int .i64 k ∧ k ≤ n ∧ Hid (∀ j, j < k → ¬ Shared ds j) ∧ ∃ q, wr = w4.drewN q) (fun _ s8 _ => n - (intOf s8).toNat)
  case atStart => exact ⟨0, rfl, rfl, by omega, fun j h => by omega, 0, rfl⟩
  case round =>
    obtain ⟨k, rfl, rfl, hk, HK, q, rfl⟩ := hrel
    by_cases hlt : k < n
    · have HSH := hid (shared_any u1 n1 n1 ds k (w4.drewN q) ((HZ.out.2.1 ▸ HT4.out.v1.src.take n : Src w4 u1 ds).drewN q) (by have := HZ.out.2.2; omega) (by have := HZ.out.2.2; omega) (by have := HZ.out.2.2; omega))
      rw [HZ.out.2.2.2] at HSH
      go_wp2_with fail
      refine HSH.out.mono ?_
      rintro e w5 ⟨b, rfl, hb, m5, rfl⟩
      have HBK := hid hb
      clear hb HSH
      cases b
      · go_wp2
        go_roundw
        case rel => exact ⟨k + 1, rfl, by go_num, by omega, fun j h => by
          by_cases e : j = k
          · subst e; exact fun hs => by have := HBK.out.2 hs; cases this
          · exact HK.out j (by omega), q + m5, rfl⟩
        case measure => simp [intOf]; omega
      · have hkl : k < zs.length := by have := HZ.out.2.2; omega
        obtain ⟨b, o, rfl, _, hc⟩ := (HZ.out.1 ▸ HT4.out.v0.src.take n : Src w4 u0 zs).row (by intro e; rw [e] at hkl; simp at hkl)
        obtain ⟨s, hs⟩ : ∃ s, zs[k] = s := ⟨_, rfl⟩
        have hcs : w4.cell? ⟨b, o + k, none⟩ = some (.string s) := by rw [hc k hkl, hs]
        have ef : (f.toList == s.toList) = true := by
          rw [← hs, first_least (by have := HZ.out.2.2; omega) HAF.out.1 HL.out (by have := HZ.out.2.2; omega) (HBK.out.1 rfl) HK.out]
          simp
        have hI : (k : Int) < (n0 : Int) := by omega
        clear hc hs
        go_wp2
        go_ret
        exact ⟨rfl, below_drewN HT4.out.below _⟩
    · have ef : f.toList.isEmpty = true := none_least (by have := HZ.out.2.2; omega) HL.out (fun j hj => HK.out j (by have := HZ.out.2.2; omega))
      go_wp2
      go_ret
      exact ⟨rfl, below_drewN HT4.out.below _⟩
end Go.Proofs.Qxb6600077aMods
