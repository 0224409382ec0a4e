/- THE WALK OF toV1 (8). -/
import Derived.Test.Qxb6601458aModsMake
import Derived.Test.Qxb6601458aModsSize
import Derived.Lib.SliceRun
import Derived.Deep.CutBlock
import Derived.Deep.CutRange
namespace Go.Proofs.Qxb6601458aMods
open Go.RowKit

theorem info34 : (Trym.prog.info? 34).map (fun i => (i.zero, i.size, i.bytes)) = some (some (.agg #[.string ByteArray.empty, .string ByteArray.empty, .slice none 0 0, .string ByteArray.empty]), 4, 72) := by kernel_rfl
theorem info48 : (Trym.prog.info? 48).map (fun i => (i.zero, i.size, i.bytes)) = some (some (.agg #[.string ByteArray.empty, .string ByteArray.empty, .string ByteArray.empty, .string ByteArray.empty]), 4, 64) := by kernel_rfl

def row34 (n : Nat) : Array Value := madeCells #[.string ByteArray.empty, .string ByteArray.empty, .slice none 0 0, .string ByteArray.empty] (n * 4)
def row48 (n : Nat) : Array Value := madeCells #[.string ByteArray.empty, .string ByteArray.empty, .string ByteArray.empty, .string ByteArray.empty] (n * 4)
theorem size34 (n : Nat) : (row34 n).size = n * 4 := size_madeCells _ _
theorem size48 (n : Nat) : (row48 n).size = n * 4 := size_madeCells _ _
theorem at34 (n j : Nat) (h : j < n) : (row34 n)[j * 4 + 2]? = some (.slice none 0 0) := by
  unfold row34 madeCells
  have hlt : j * 4 + 2 < n * 4 := by omega
  have e : (j * 4 + 2) % 4 = 2 := by omega
  simp [hlt, e]

theorem make34 (n : Nat) (hn : n ≤ 65536) (w : World) : (Instr.makeSlice 25 (.int .i64 (n : Int)) (.int .i64 (n : Int))).run Trym.prog w = .ok (.slice (some ⟨w.heap.size, 0, none⟩) n n) (w.alloc (.cells (row34 n) 34)) := by
  obtain ⟨i0, hi, hz0, hz1, hz2⟩ := info_parts info34
  have := run_make (P := Trym.prog) w 25 34 i0 _ Trym.underlying25 hi hz0 .i64 .i64 n n (by omega) (Int.le_refl _) (by rw [hz2]; omega) (by omega)
  rw [hz1] at this
  exact this
theorem make48 (n : Nat) (hn : n ≤ 65536) (w : World) : (Instr.makeSlice 32 (.int .i64 (n : Int)) (.int .i64 (n : Int))).run Trym.prog w = .ok (.slice (some ⟨w.heap.size, 0, none⟩) n n) (w.alloc (.cells (row48 n) 48)) := by
  obtain ⟨i0, hi, hz0, hz1, hz2⟩ := info_parts info48
  have := run_make (P := Trym.prog) w 32 48 i0 _ Trym.underlying32 hi hz0 .i64 .i64 n n (by omega) (Int.le_refl _) (by rw [hz2]; omega) (by omega)
  rw [hz1] at this
  exact this

/-- The copy's templates: the same strings, their containers elsewhere. -/
def moved (T : Nat → Tm) (U : Nat → Option Addr) : Nat → Tm := fun j => ⟨(T j).ver, (T j).ann, (T j).vol, U j, (T j).cn, (T j).cn, (T j).ct⟩

def V1Left (w : World) (ao : Option Addr) (n : Nat) (T : Nat → Tm) (e : Ending) (w' : World) : Prop :=
  ∃ (u : Option Addr) (U : Nat → Option Addr), e = .returned (.slice u n n) ∧ (u = none ↔ ao = none) ∧ TSrc w' u n (moved T U) ∧ (∀ j, j < n → (U j = none ↔ (T j).ca = none)) ∧ Below w.heap.size w w'

set_option maxRecDepth 100000 in
set_option maxHeartbeats 4000000 in
theorem v1_any (ao : Option Addr) (n cap : Nat) (T : Nat → Tm) (w : World) (hs : TSrc w ao n T) (hsm : Small T n) :
    Calls Trym.prog 8 #[.slice ao n cap] w (V1Left w ao n T) := by
  have hnil := fun (w : World) (a : Option Addr) (n c : Nat) => Lib.run_eql_slice_nil (P := Trym.prog) w 22 43 a n c 0 0 Trym.underlying22
  have hnil2 := fun (w : World) (a : Option Addr) (n c : Nat) => run_neq_slice_nil (P := Trym.prog) w 41 50 a n c Trym.underlying41
  cases ao with
  | none =>
    have h0 := hs.nil rfl
    subst h0
    go_enter Trym.func8, Trym.ntmps8
    go_wp2
    go_ret
    exact ⟨none, fun _ => none, rfl, Iff.rfl, ⟨fun _ => rfl, fun h => by omega⟩, (fun j hj => by omega), Below.refl _ _⟩
  | some a =>
    have hn := hsm.1
    have hmk := make34 n hn
    have HS := hid hs
    have HM := hid hsm.2
    have HST := hid (tv_start w n T (row34 n) (size34 n) (at34 n))
    clear hs hsm
    go_enter Trym.func8, Trym.ntmps8
    go_wp2
    clear hmk
    go_loopw [4, 5, 6, 7] (fun s4 _ _ _ wr => ∃ k : Nat, s4 = .int .i64 k ∧ k ≤ n ∧ ∃ U, Tv w n k T U wr) (fun s4 _ _ _ _ => n - (intOf s4).toNat)
    case atStart => exact ⟨0, rfl, by omega, _, HST.out⟩
    case round =>
      obtain ⟨k, rfl, hk, U, hTv⟩ := hrel
      clear HST
      by_cases hlt : k < n
      · obtain ⟨b, o, ha, hb, hc⟩ := HS.out.row (by omega)
        injection ha with ha
        subst ha
        have hT0 := hc k hlt
        clear hc
        have hcn := HM.out k hlt
        obtain ⟨t, ht⟩ : ∃ t, T k = t := ⟨_, rfl⟩
        have hmid := hTv.mid ht
        have HKT := hid ht
        rw [ht] at hT0 hcn
        clear ht
        obtain ⟨ver, ann, vol, ca, cn, cc, ct⟩ := t
        simp only at hmid hcn
        obtain ⟨g0, g1, g2, g3, g4, _⟩ := hT0.below hTv.below hb
        simp only at g0 g1 g2 g3 g4
        have HCS := hid (hT0.2.2.2.2.1)
        obtain ⟨F, hF, _⟩ := hTv.row
        have r0 := hF.cell (i := k * 4) (by omega)
        have r1 := hF.cell (i := k * 4 + 1) (by omega)
        have r3 := hF.cell (i := k * 4 + 3) (by omega)
        have z0 := hF.frozen (k * 4)
        have z1 := hF.frozen (k * 4 + 1)
        have z3 := hF.frozen (k * 4 + 3)
        have hbn : b ≠ w.heap.size := by omega
        have hsz : (((wr.setCell ⟨w.heap.size, k * 4, none⟩ (.string ver)).setCell ⟨w.heap.size, k * 4 + 1, none⟩ (.string ann)).setCell ⟨w.heap.size, k * 4 + 3, none⟩ (.string vol)).heap.size = wr.heap.size := by simp
        rw [← hsz] at hmid
        have HT0 := hid hT0
        have HMD := hid hmid
        clear hmid hT0 g4 hF hTv hsz
        go_upto_region 10 with fail
        generalize (((wr.setCell ⟨w.heap.size, k * 4, none⟩ (.string ver)).setCell ⟨w.heap.size, k * 4 + 1, none⟩ (.string ann)).setCell ⟨w.heap.size, k * 4 + 3, none⟩ (.string vol)) = wc at HMD ⊢
        clear g0 g1 g2 g3 r0 r1 r3 z0 z1 z3
        have g2 : wc.cell? ⟨b, o + k * 4 + 2, none⟩ = some (.slice ca cn cc) := (HT0.out.below HMD.out.below hb).2.2.1
        clear HT0
        cases ca with
        | none =>
          have hc0 : cn = 0 := HCS.out.nil rfl
          have HTV := hid (HMD.out.none_ hlt (Nat.le_refl _) (by rw [HKT.out]) (by rw [HKT.out]; exact hc0))
          clear HMD HCS HKT
          go_wp2
          go_roundw
          case rel => exact ⟨k + 1, by go_num, by omega, _, HTV.out⟩
          case measure => simp [intOf]; omega
        | some ca =>
          have hmk := make48 cn hcn
          have HI := hid (HMD.out.start (row48 cn) (by rw [HKT.out]; exact size48 cn))
          clear HMD
          go_wp2
          clear hmk g2
          go_loopw [7] (fun s7 wr2 => ∃ m : Nat, s7 = .int .i64 m ∧ m ≤ cn ∧ Inn w n k T U wc.heap.size m wr2) (fun s7 _ => cn - (intOf s7).toNat)
          case atStart => exact ⟨0, rfl, by omega, HI.out⟩
          case round =>
            obtain ⟨m, rfl, hm, hI⟩ := hrel
            clear HI
            by_cases hmlt : m < cn
            · obtain ⟨b2, o2, ha2, hb2, hc2⟩ := HCS.out.row (by omega)
              injection ha2 with ha2
              subst ha2
              have hC := (hc2 m hmlt).below hI.mid.below hb2
              obtain ⟨c, hce⟩ : ∃ c, (T k).ct m = c := ⟨_, rfl⟩
              have HSTEP := hid (hI.step hce)
              have hce2 : ct m = c := by rw [HKT.out] at hce; exact hce
              rw [hce2] at hC
              clear hce hce2 hc2
              obtain ⟨cp, cnm, cen, cvm⟩ := c
              obtain ⟨g0, g1, g2, g3⟩ := hC
              simp only at g0 g1 g2 g3 HSTEP
              obtain ⟨F, hF, _⟩ := hI.row
              have hcnk : (T k).cn = cn := by rw [HKT.out]
              rw [hcnk] at hF
              have r0 := hF.cell (i := m * 4) (by omega)
              have r1 := hF.cell (i := m * 4 + 1) (by omega)
              have r2 := hF.cell (i := m * 4 + 2) (by omega)
              have r3 := hF.cell (i := m * 4 + 3) (by omega)
              have z0 := hF.frozen (m * 4)
              have z1 := hF.frozen (m * 4 + 1)
              have z2 := hF.frozen (m * 4 + 2)
              have z3 := hF.frozen (m * 4 + 3)
              have hHG := hI.mid.lt
              have hbn2 : b2 ≠ wc.heap.size := by omega
              clear hF hI hcnk
              go_wp2
              go_roundw
              case rel => exact ⟨m + 1, by go_num, by omega, HSTEP.out⟩
              case measure => simp [intOf]; omega
            · have hmc : m = (T k).cn := by rw [HKT.out]; simp only; omega
              have HD := hid ((hmc ▸ hI : Inn w n k T U wc.heap.size (T k).cn wr).laid hlt (by rw [HKT.out]; simp))
              rw [HKT.out] at HD
              simp only at HD
              obtain ⟨F, hF, _⟩ := hI.mid.row
              have r2 := hF.cell (i := k * 4 + 2) (by omega)
              have z2 := hF.frozen (k * 4 + 2)
              clear hF hI hmc
              go_wp2
              go_roundw
              case rel => exact ⟨k + 1, by go_num, by omega, _, HD.out⟩
              case measure => simp [intOf]; omega
      · have : k = n := by omega
        subst this
        go_wp2
        go_ret
        exact ⟨some ⟨w.heap.size, 0, none⟩, U, rfl, by simp, hTv.src (fun j hj => by have := HM.out j hj; unfold maxLen; omega), fun j hj => (hTv.each j hj).2, hTv.below⟩
end Go.Proofs.Qxb6601458aMods
