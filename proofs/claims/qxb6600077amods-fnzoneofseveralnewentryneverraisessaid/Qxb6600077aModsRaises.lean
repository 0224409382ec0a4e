/- THE WALK OF FnZoneOfSeveralNewEntryNeverRaises (4). -/
import Derived.Test.Qxb6600077aModsLowest
namespace Go.Proofs.Qxb6600077aMods
open Go.RowKit

theorem zip_snd {zs ds : List ByteArray} (hl : zs.length = ds.length) (a : ByteArray) : a ∈ ds ↔ ∃ p ∈ zs.zip ds, p.2 = a := by
  constructor
  · intro h
    obtain ⟨j, hj, e⟩ := List.mem_iff_getElem.1 h
    exact ⟨(zs.zip ds)[j]'(by rw [List.length_zip]; omega), List.getElem_mem _, by rw [List.getElem_zip]; exact e⟩
  · rintro ⟨p, hp, rfl⟩
    exact (List.of_mem_zip hp).2

theorem zip_fst {zs ds : List ByteArray} {z : ByteArray} (h : z ∉ zs) : ∀ p ∈ zs.zip ds, p.1 ≠ z := by
  rintro p hp rfl
  exact h (List.of_mem_zip hp).1

theorem apart_snoc {T : Table} {z a : ByteArray} (h : Apart T) (hz : ∀ p ∈ T, p.1 ≠ z) : Apart (T ++ [(z, a)]) := by
  unfold Apart
  rw [List.pairwise_append]
  refine ⟨h, by simp, fun p hp q hq => ?_⟩
  simp at hq
  subst hq
  exact hz p hp

theorem full_snoc {T : Table} {z a : ByteArray} (h : ∀ p ∈ T, p.1.toList.isEmpty = false) (hz : z.toList.isEmpty = false) : ∀ p ∈ T ++ [(z, a)], p.1.toList.isEmpty = false := by
  intro p hp
  rcases List.mem_append.1 hp with hp | hp
  · exact h p hp
  · simp at hp
    subst hp
    exact hz

set_option maxRecDepth 100000 in
set_option maxHeartbeats 4000000 in
theorem raises_any (a0 a1 : Option Addr) (c0 c1 : Nat) (s0 s1 : List ByteArray) (z a : ByteArray) (w : World)
    (h0 : Src w a0 s0) (l0 : s0.length ≤ maxLen) (k0 : s0.length ≤ c0) (h1 : Src w a1 s1) (l1 : s1.length ≤ maxLen) (lz : z.size ≤ maxLen) (la : a.size ≤ maxLen) :
    Calls Trym.prog 4 #[.slice a0 s0.length c0, .slice a1 s1.length c1, .string z, .string a] w fun e w' => e = .returned (.bool true) ∧ Below w.heap.size w w' := by
  have HB := hid (bytes16_any a0 a1 c0 c1 s0 s1 z a w h0 l0 h1 l1)
  have HB0 := hid (strBytes_any a0 c0 s0 w h0 l0)
  have HB1 := hid (strBytes_any a1 c1 s1 w h1 l1)
  have HLL := hid (And.intro lz la)
  obtain ⟨n0, e0⟩ : ∃ n, s0.length = n := ⟨_, rfl⟩
  obtain ⟨n1, e1⟩ : ∃ n, s1.length = n := ⟨_, rfl⟩
  have HH := hid (And.intro h0 (And.intro h1 (And.intro e0 e1)))
  rw [e0] at HB HB0 l0 k0 ⊢
  rw [e1] at HB HB1 l1 ⊢
  unfold maxLen at l0 l1 lz la
  clear h0 h1 e0 e1
  go_enter Trym.func4, Trym.ntmps4
  go_wp2_with fail
  refine HB.out.mono ?_
  rintro e w' ⟨b, rfl, rfl⟩
  cases b
  · go_wp2
    go_ret
    exact ⟨rfl, Below.refl _ _⟩
  by_cases hgz : 1048576 < z.size
  · have hgz' : (1048576 : Int) < (z.size : Int) := by omega
    go_wp2
    go_ret
    exact ⟨rfl, Below.refl _ _⟩
  by_cases hga : 1048576 < a.size
  · have hga' : (1048576 : Int) < (a.size : Int) := by omega
    go_wp2
    go_ret
    exact ⟨rfl, Below.refl _ _⟩
  go_wp2_with fail
  refine HB0.out.mono ?_
  rintro e w' ⟨z0, rfl, z00, z01, z02, rfl⟩
  go_wp2_with fail
  refine HB1.out.mono ?_
  rintro e w' ⟨z1, rfl, z10, z11, z12, rfl⟩
  by_cases hbig : 1048576 < z0 + z1 + z.size + a.size
  · go_wp2
    go_ret
    exact ⟨rfl, Below.refl _ _⟩
  have hs0 : ∀ s ∈ s0, s.size ≤ maxLen := fun s hs => by have := z02 (by omega) s hs; unfold maxLen; omega
  have hs1 : ∀ s ∈ s1, s.size ≤ maxLen := fun s hs => by have := z12 (by omega) s hs; unfold maxLen; omega
  have HS := hid (And.intro hs0 hs1)
  clear z02 z12 hs0 hs1 HB HB0 HB1
  by_cases hm0 : 4096 < n0
  · have hm0' : (4096 : Int) < (n0 : Int) := by omega
    go_wp2
    go_ret
    exact ⟨rfl, Below.refl _ _⟩
  by_cases hm1 : 4096 < n1
  · have hm1' : (4096 : Int) < (n1 : Int) := by omega
    go_wp2
    go_ret
    exact ⟨rfl, Below.refl _ _⟩
  go_wp2_with fail
  refine (shorter_any _ _ _).mono ?_
  rintro e w' ⟨rfl, rfl⟩
  obtain ⟨n, hn, hnn0, hnn1⟩ : ∃ n : Nat, (if (n0 : Int) < (n1 : Int) then (n0 : Int) else (n1 : Int)) = (n : Int) ∧ n ≤ n0 ∧ n ≤ n1 := by
    by_cases h : (n0 : Int) < (n1 : Int)
    · exact ⟨n0, by rw [if_pos h], by omega, by omega⟩
    · exact ⟨n1, by rw [if_neg h], by omega, by omega⟩
  rw [hn]
  clear hn
  obtain ⟨zs, hzs⟩ : ∃ zs, s0.take n = zs := ⟨_, rfl⟩
  obtain ⟨ds, hds⟩ : ∃ ds, s1.take n = ds := ⟨_, rfl⟩
  have hzl : zs.length = n := by rw [← hzs, List.length_take, HH.out.2.2.1]; omega
  have hdl : ds.length = n := by rw [← hds, List.length_take, HH.out.2.2.2]; omega
  have hsz : Src w a0 zs := by rw [← hzs]; exact HH.out.1.take n
  have HA := hid (asc_any a0 c0 zs w hsz (by omega))
  have HF := hid (fun W => full_any a0 c0 zs (w.drewN W) (hsz.drewN W) (by unfold maxLen; omega))
  have HMZ := hid (fun W => member_any a0 c0 zs z (w.drewN W) (hsz.drewN W) (by unfold maxLen; omega))
  rw [hzl] at HA HF HMZ
  have HZ := hid (And.intro hzs (And.intro hds (And.intro hzl hdl)))
  clear hsz hzs hds hzl hdl
  have hcut := cut_run a0 n0 c0 n (by omega)
  go_wp2_with fail
  refine HA.out.mono ?_
  rintro e w' ⟨b, rfl, hA, m, rfl⟩
  have HA2 := hid hA
  clear hA
  cases b
  · go_wp2
    go_ret
    exact ⟨rfl, below_drewN (Below.refl _ _) m⟩
  go_wp2_with fail
  refine (HF.out m).mono ?_
  rintro e w' ⟨b, rfl, hF, rfl⟩
  have HF2 := hid hF
  clear hF
  cases b
  · go_wp2
    go_ret
    exact ⟨rfl, below_drewN (Below.refl _ _) m⟩
  have HAF := hid (And.intro (HA2.out.1 trivial) (HF2.out.1 rfl))
  clear HA2 HF2 HA HF
  by_cases hze : z.toList.isEmpty = true
  · go_wp2
    go_ret
    exact ⟨rfl, below_drewN (Below.refl _ _) m⟩
  have hze' : z.toList.isEmpty = false := by simpa using hze
  go_wp2_with fail
  refine (HMZ.out m).mono ?_
  rintro e w' ⟨b, rfl, hM, rfl⟩
  have HM2 := hid hM
  clear hM
  cases b
  case true =>
    go_wp2
    go_ret
    exact ⟨rfl, below_drewN (Below.refl _ _) m⟩
  have hnz : z ∉ zs := fun h => by have := HM2.out.2 h; cases this
  have HNZ := hid (zip_fst (ds := ds) hnz)
  clear HM2 HMZ hnz
  have HC0 := hid (clone_any a0 c0 s0 (w.drewN m) (HH.out.1.drewN m) (by have := HH.out.2.2.1; omega))
  rw [HH.out.2.2.1] at HC0
  go_wp2_with fail
  refine HC0.out.mono ?_
  rintro e w1 ⟨u0, rfl, _, hv0, hb0, _⟩
  have HC1 := hid (clone_any a1 c1 s1 w1 ((HH.out.2.1.drewN m).below hb0) (by have := HH.out.2.2.2; omega))
  rw [HH.out.2.2.2] at HC1
  rw [HH.out.2.2.1]
  have HV0 := hid (And.intro hv0 hb0)
  clear hv0 hb0 HC0
  go_wp2_with fail
  refine HC1.out.mono ?_
  rintro e w2 ⟨u1, rfl, _, hv1, hb1, _⟩
  rw [HH.out.2.2.2]
  have hT : Two w w2 u0 u1 s0 s1 := ⟨HV0.out.1.below hb1, hv1, ((below_drewN (Below.refl _ _) m).trans HV0.out.2).trans (hb1.mono HV0.out.2.size)⟩
  have HT := hid hT
  clear hv1 hb1 HV0 HC1 hT
  have HBD := hid (fun (W : World) (hT : Two w W u0 u1 s0 s1) => build_any u0 u1 n0 n0 n1 n1 zs ds W (HZ.out.1 ▸ hT.v0.src.take n) (HZ.out.2.1 ▸ hT.v1.src.take n) (by have := HZ.out.2.2; omega) (by have := HZ.out.2.2; omega) (by have := HZ.out.2.2; omega) (by have := HZ.out.2.2; omega)
    (asc_apart HAF.out.1) (fun s hs => HS.out.1 s (by rw [← HZ.out.1] at hs; exact List.mem_of_mem_take hs)) (fun s hs => HS.out.2 s (by rw [← HZ.out.2.1] at hs; exact List.mem_of_mem_take hs)))
  rw [HZ.out.2.2.1] at HBD
  go_wp2_with fail
  refine (HBD.out _ HT.out).mono ?_
  rintro e w3 ⟨b, rfl, hbs, D, ho, ht, hb3⟩
  have HZZ := hid (zz_any b _ D (zs.zip ds) w3 ho ht (asc_apart HAF.out.1) (by rw [List.length_zip]; have := HZ.out.2.2; omega) (by rw [List.length_zip]; have := HZ.out.2.2; omega) (zip_full HAF.out.2))
  have HT3 := hid (HT.out.on hb3)
  clear ho ht hb3 HT
  go_wp2_with fail
  refine HZZ.out.mono ?_
  rintro e w4 ⟨f, rfl, hf, hb4⟩
  have HT4 := hid (HT3.out.on hb4)
  have HL := hid hf
  clear hf hb4 HZZ HT3
  go_wp2_with fail
  refine (HBD.out _ HT4.out).mono ?_
  rintro e w5 ⟨b5, rfl, hb5, hF5⟩
  obtain ⟨w6, hmu, hF6⟩ := hF5.put hb5 (z := z) (a := a) HLL.out.1 HLL.out.2 (by rw [List.length_zip]; have := HZ.out.2.2; unfold maxLen; omega) HNZ.out
  obtain ⟨D6, ho6, ht6, hb6⟩ := hF6
  have HZ6 := hid (zz_any b5 _ D6 (zs.zip ds ++ [(z, a)]) w6 ho6 ht6 (apart_snoc (asc_apart HAF.out.1) HNZ.out) (by rw [List.length_append, List.length_zip]; have := HZ.out.2.2; simp; omega) (by rw [List.length_append, List.length_zip]; have := HZ.out.2.2; simp; omega) (full_snoc (zip_full HAF.out.2) hze'))
  have HT6 := hid (HT4.out.on hb6)
  clear ho6 ht6 hb6 hF5 HT4 HBD
  go_wp2_with fail
  refine HZ6.out.mono ?_
  rintro e w7 ⟨f', rfl, hf', hb7⟩
  have HT7 := hid (HT6.out.on hb7)
  have HL' := hid hf'
  clear hf' hb7 HT6 HZ6
  have HMA := hid (member_any u1 n1 ds a w7 (HZ.out.2.1 ▸ HT7.out.v1.src.take n) (by have := HZ.out.2.2; unfold maxLen; omega))
  rw [HZ.out.2.2.2] at HMA
  have hcut1 := cut_run u1 n1 n1 n (by omega)
  go_wp2_with fail
  refine HMA.out.mono ?_
  rintro e w8 ⟨b, rfl, hM, rfl⟩
  have HM2 := hid hM
  clear hM HMA
  cases b
  · have ef : (f'.toList == f.toList) = true := by
      rw [fresh_same HL.out HL'.out (fun p hp e => by have := HM2.out.2 ((zip_snd (zs := zs) (by have := HZ.out.2.2; omega) a).2 ⟨p, hp, e⟩); cases this)]
      simp
    go_wp2
    go_ret
    exact ⟨rfl, HT7.out.below⟩
  · obtain ⟨q1, q2⟩ := known_full HL'.out ((zip_snd (zs := zs) (by have := HZ.out.2.2; omega) a).1 (HM2.out.1 rfl))
    have q3 := not_gtr q2
    by_cases hfe : f.toList.isEmpty = true
    · go_wp2
      go_ret
      exact ⟨rfl, HT7.out.below⟩
    · have hfe' : f.toList.isEmpty = false := by simpa using hfe
      have q4 := not_gtr (known_le HL.out HL'.out hfe')
      go_wp2
      go_ret
      exact ⟨rfl, HT7.out.below⟩
end Go.Proofs.Qxb6600077aMods
