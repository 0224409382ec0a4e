/- THE WALK OF buildTable (14): a map made and filled, entry by entry. -/
import Derived.Test.Qxb6600077aModsZone
import Derived.BigRegion
namespace Go.Proofs.Qxb6600077aMods
open Go.RowKit Go.Maps Go.WideMaps

/-- The table as it is being filled. -/
def Filled (w : World) (B : Nat) (T : Table) (wr : World) : Prop := ∃ D : DataW Unit, wr.ownsMap Trym.prog 9 (plainElem Trym.prog 9) B T.length D ∧ Tab D T ∧ Below w.heap.size w wr

/-- What buildTable leaves. -/
def Made (w : World) (T : Table) (e : Ending) (w' : World) : Prop := ∃ b, e = .returned (.map (some b)) ∧ w.heap.size ≤ b ∧ Filled w b T w'

/-- ONE ENTRY MORE. -/
theorem Filled.put {w wr : World} {B : Nat} {T : Table} (h : Filled w B T wr) (hB : w.heap.size ≤ B) {z a : ByteArray} (hz : z.size ≤ maxLen) (ha : a.size ≤ maxLen) (hT : T.length < maxLen) (hne : ∀ p ∈ T, p.1 ≠ z) :
    ∃ w', (Instr.mapUpdate 29 (.map (some B)) (.string z) (.string a)).run Trym.prog wr = .ok () w' ∧ Filled w B (T ++ [(z, a)]) w' := by
  obtain ⟨D, ho, ht, hb⟩ := h
  obtain ⟨w', h1, h2, h3⟩ := ho.update law9 Trym.underlying29 hT (keyOf_string_mk Trym.underlying9 hz) (plainElem_string Trym.underlying9 ha)
  refine ⟨w', h1, _, ?_, ht.put ho.isMap hne, hb.grown h3 hb.size (fun j hj => by cases hj; exact hB)⟩
  rw [List.length_append]
  exact h2

theorem Filled.drew {w wr : World} {B : Nat} {T : Table} (h : Filled w B T wr) : Filled w B T wr.drew := by
  obtain ⟨D, ho, ht, hb⟩ := h
  exact ⟨D, ho.drew, ht, hb.drew⟩

set_option maxRecDepth 100000 in
set_option maxHeartbeats 1000000 in
theorem build_any (az aa : Option Addr) (mz cz ma ca : Nat) (zs ds : List ByteArray) (w : World) (hz : Src w az zs) (ha : Src w aa ds) (hl : zs.length = ds.length) (h4 : zs.length ≤ 4096) (hmz : zs.length ≤ mz) (hma : zs.length ≤ ma)
    (hA : Apart (zs.zip ds)) (hsz : ∀ s ∈ zs, s.size ≤ maxLen) (hsa : ∀ s ∈ ds, s.size ≤ maxLen) :
    Calls Trym.prog 14 #[.slice az mz cz, .slice aa ma ca, .int .i64 zs.length] w (Made w (zs.zip ds)) := by
  have hmm := @run_makeMap Trym.prog
  obtain ⟨n, hn⟩ : ∃ n, zs.length = n := ⟨_, rfl⟩
  have HS := hid (And.intro hz (And.intro ha (And.intro hl (And.intro hn (And.intro hA (And.intro hsz hsa))))))
  rw [hn] at h4 hmz hma ⊢
  clear hz ha hl hA hsz hsa hn
  go_enter Trym.func14, Trym.ntmps14
  go_wp2
  go_loopw [8] (fun i wr => ∃ k : Nat, i = .int .i64 k ∧ k ≤ n ∧ Filled w w.heap.size ((zs.zip ds).take k) wr) (fun i _ => n - (intOf i).toNat)
  case atStart => exact ⟨0, rfl, by omega, .map [], World.ownsMap_made _ _ _ _, tab_nil, (Below.refl _ _).alloc (Nat.le_refl _) _⟩
  case round =>
    obtain ⟨k, rfl, hk, hF⟩ := hrel
    by_cases hlt : k < n
    · have hkz : k < zs.length := by have := HS.out.2.2.2.1; omega
      have hka : k < ds.length := by have := HS.out.2.2.1; omega
      obtain ⟨bz, oz, rfl, hbz, hcz⟩ := HS.out.1.row (by intro e; rw [e] at hkz; simp at hkz)
      obtain ⟨ba, oa, rfl, hba, hca⟩ := HS.out.2.1.row (by intro e; rw [e] at hka; simp at hka)
      obtain ⟨z, ez⟩ : ∃ z, zs[k] = z := ⟨_, rfl⟩
      obtain ⟨a, ea⟩ : ∃ a, ds[k] = a := ⟨_, rfl⟩
      have hbl : Below w.heap.size w wr := by obtain ⟨_, _, _, h⟩ := hF; exact h
      have hc1 : wr.cell? ⟨bz, oz + k, none⟩ = some (.string z) := (hbl.cell (p := ⟨bz, oz + k, none⟩) hbz).trans (by rw [hcz k hkz, ez])
      have hc2 : wr.cell? ⟨ba, oa + k, none⟩ = some (.string a) := (hbl.cell (p := ⟨ba, oa + k, none⟩) hba).trans (by rw [hca k hka, ea])
      have hzl : k < (zs.zip ds).length := by rw [List.length_zip]; omega
      have hne : ∀ p ∈ (zs.zip ds).take k, p.1 ≠ z := by
        intro p hp e
        obtain ⟨j, hj, ej⟩ := List.mem_iff_getElem.1 hp
        rw [List.length_take] at hj
        have := List.pairwise_iff_getElem.1 HS.out.2.2.2.2.1 j k (by omega) hzl (by omega)
        refine this ?_
        rw [List.getElem_take] at ej
        rw [ej, e, List.getElem_zip, ez]
      obtain ⟨w9, hmu, hFm⟩ := hF.drew.put (Nat.le_refl _) (z := z) (a := a) (by rw [← ez]; exact HS.out.2.2.2.2.2.1 _ (List.getElem_mem _)) (by rw [← ea]; exact HS.out.2.2.2.2.2.2 _ (List.getElem_mem _)) (by rw [List.length_take]; unfold maxLen; omega) hne
      have et : (zs.zip ds).take k ++ [(z, a)] = (zs.zip ds).take (k + 1) := by
        rw [List.take_succ_eq_append_getElem hzl, List.getElem_zip, ez, ea]
      rw [et] at hFm
      have HM := hid hFm
      have hI1 : (k : Int) < (mz : Int) := by omega
      have hI2 : (k : Int) < (ma : Int) := by omega
      clear hcz hca ez ea hbl hzl hne hFm et hkz hka HS hF
      go_wp2
      go_region
      go_wp2
      go_roundw
      case rel => exact ⟨k + 1, by go_num, by omega, HM.out⟩
      case measure => simp [intOf]; omega
    · have : k = n := by omega
      subst this
      go_wp2
      go_ret
      refine ⟨w.heap.size, rfl, Nat.le_refl _, ?_⟩
      rw [List.take_of_length_le (by rw [List.length_zip]; have := HS.out.2.2.2.1; omega)] at hF
      exact hF

end Go.Proofs.Qxb6600077aMods
