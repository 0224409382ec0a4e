/- sameTmpl (15), sameTmpls (11), where the two sides hold the same. -/
import Derived.Test.Qxb6601458aModsFirst
import Derived.Deep.QuietTactic
import Derived.BigQuiet
import Derived.Deep.RegionWith
import Derived.Deep.CutBlock
import Derived.Deep.CutRange
namespace Go.Proofs.Qxb6601458aMods
open Go.RowKit

/-- It answers true; what was there stands. -/
def TrueBelow (w : World) (e : Ending) (w' : World) : Prop := e = .returned (.bool true) ∧ Below w.heap.size w w'

set_option maxRecDepth 100000 in
set_option maxHeartbeats 4000000 in
theorem same1_any (bv ov bt ot : Nat) (t : Tm) (u : Option Addr) (w : World) (hv : TAt w bv ov ⟨t.ver, t.ann, t.vol, u, t.cn, t.cn, t.ct⟩) (ht : TAt w bt ot t) (hu : u = none ↔ t.ca = none) (hlv : bv < w.heap.size) (hlt : bt < w.heap.size) :
    Calls Trym.prog 15 #[.pointer (some ⟨bv, ov, none⟩), .pointer (some ⟨bt, ot, none⟩)] w (TrueBelow w) := by
  obtain ⟨ver, ann, vol, ca, cn, cc, ct⟩ := t
  obtain ⟨v0, v1, v2, v3, v4, hcn⟩ := hv
  obtain ⟨t0, t1, t2, t3, t4, _⟩ := ht
  simp only at v0 v1 v2 v3 v4 t0 t1 t2 t3 t4 hu hcn
  unfold maxLen at hcn
  have hnil := fun (w : World) (a : Option Addr) (n c : Nat) => Lib.run_eql_slice_nil (P := Trym.prog) w 32 48 a n c 0 0 Trym.underlying32
  have hnil2 := fun (w : World) (a : Option Addr) (n c : Nat) => Lib.run_eql_slice_nil (P := Trym.prog) w 41 50 a n c 0 0 Trym.underlying41
  have HV := hid (And.intro v4 t4)
  clear v4 t4
  cases u with
  | none =>
    have hca : ca = none := hu.1 rfl
    subst hca
    have hc0 : cn = 0 := HV.out.1.nil rfl
    subst hc0
    clear hu
    go_enter Trym.func15, Trym.ntmps15
    go_wp2
    go_quiet (fail)
    go_wp2
    go_quiet (fail)
    go_wp2
    go_loopw [5, 6, 7] (fun s5 _ _ wr => s5 = .int .i64 0 ∧ Below w.heap.size w wr ∧ wr.cell? ⟨bt, ot + 2, none⟩ = some (.slice none 0 cc)) (fun _ _ _ _ => 0)
    case atStart => exact ⟨rfl, below_drewN (below_drewN (Below.refl _ _) _) _, t2⟩
    case round =>
      obtain ⟨rfl, hb, hc2⟩ := hrel
      clear v0 v1 v2 v3 t0 t1 t2 t3
      go_wp2
      go_ret
      exact ⟨rfl, hb⟩
  | some u =>
    obtain ⟨ca, rfl⟩ : ∃ a, ca = some a := by
      cases ca with
      | none => exact absurd (hu.2 rfl) (by simp)
      | some a => exact ⟨a, rfl⟩
    clear hu
    go_enter Trym.func15, Trym.ntmps15
    go_wp2
    go_quiet (fail)
    go_wp2
    go_quiet (fail)
    go_wp2
    have HC := hid (And.intro v2 t2)
    clear v0 v1 v2 v3 t0 t1 t2 t3
    go_loopw [5, 6, 7] (fun s5 _ _ wr => ∃ k : Nat, k ≤ cn ∧ s5 = .int .i64 k ∧ Below w.heap.size w wr) (fun s5 _ _ _ => cn - (intOf s5).toNat)
    case atStart => exact ⟨0, by omega, rfl, below_drewN (below_drewN (Below.refl _ _) _) _⟩
    case round =>
      obtain ⟨k, hk, rfl, hb⟩ := hrel
      have d1 : wr.cell? ⟨bv, ov + 2, none⟩ = some (.slice (some u) cn cn) := (hb.cell (p := ⟨bv, ov + 2, none⟩) hlv).trans HC.out.1
      have d2 : wr.cell? ⟨bt, ot + 2, none⟩ = some (.slice (some ca) cn cc) := (hb.cell (p := ⟨bt, ot + 2, none⟩) hlt).trans HC.out.2
      by_cases hkl : k < cn
      · obtain ⟨b1, o1, e1, l1, c1⟩ := HV.out.1.row (by omega)
        obtain ⟨b2, o2, e2, l2, c2⟩ := HV.out.2.row (by omega)
        injection e1 with e1
        injection e2 with e2
        subst e1 e2
        obtain ⟨p0, p1, p2, p3⟩ := (c1 k hkl).below hb l1
        obtain ⟨q0, q1, q2, q3⟩ := (c2 k hkl).below hb l2
        obtain ⟨c, hc⟩ : ∃ c, ct k = c := ⟨_, rfl⟩
        rw [hc] at p0 p1 p2 p3 q0 q1 q2 q3
        clear hc c1 c2
        obtain ⟨cp, cnm, cen, cvm⟩ := c
        simp only at p0 p1 p2 p3 q0 q1 q2 q3
        have hsz := hb.size
        have old : ∀ (ob : Obj) (b o : Nat), b < w.heap.size → (wr.alloc ob).cell? ⟨b, o, none⟩ = wr.cell? ⟨b, o, none⟩ := fun ob b o hbo => World.cell?_alloc_past _ _ _ (by omega)
        have x2 := fun ob => (old ob bt (ot + 2) hlt).trans d2
        have y0 := fun ob => (old ob b2 (o2 + k * 4) l2).trans q0
        have y1 := fun ob => (old ob b2 (o2 + k * 4 + 1) l2).trans q1
        have y2 := fun ob => (old ob b2 (o2 + k * 4 + 2) l2).trans q2
        have y3 := fun ob => (old ob b2 (o2 + k * 4 + 3) l2).trans q3
        clear old
        go_wp2
        go_roundw
        case rel => exact ⟨k + 1, by omega, by go_num, (hb.alloc hsz _).alloc (by simp; omega) _⟩
        case measure => simp [intOf]; omega
      · go_wp2
        go_ret
        exact ⟨rfl, hb⟩

/-- The two lists hold the same, side by side. -/
structure Beside (w : World) (u ao : Option Addr) (n : Nat) (T : Nat → Tm) (U : Nat → Option Addr) : Prop where
  new : TSrc w u n (fun j => ⟨(T j).ver, (T j).ann, (T j).vol, U j, (T j).cn, (T j).cn, (T j).ct⟩)
  old : TSrc w ao n T
  nil : u = none ↔ ao = none
  each : ∀ j, j < n → (U j = none ↔ (T j).ca = none)

theorem Beside.below {w w' : World} {u ao : Option Addr} {n : Nat} {T : Nat → Tm} {U : Nat → Option Addr} (h : Beside w u ao n T U) (hb : Below w.heap.size w w') : Beside w' u ao n T U :=
  ⟨h.new.below hb, h.old.below hb, h.nil, h.each⟩

set_option maxRecDepth 100000 in
set_option maxHeartbeats 4000000 in
theorem same_any (u ao : Option Addr) (n c1 c2 : Nat) (T : Nat → Tm) (U : Nat → Option Addr) (w : World) (hs : Beside w u ao n T U) (hl : n ≤ maxLen) :
    Calls Trym.prog 11 #[.slice u n c1, .slice ao n c2] w (TrueBelow w) := by
  unfold maxLen at hl
  have hnil := fun (w : World) (a : Option Addr) (n c : Nat) => Lib.run_eql_slice_nil (P := Trym.prog) w 25 34 a n c 0 0 Trym.underlying25
  have hnil2 := fun (w : World) (a : Option Addr) (n c : Nat) => Lib.run_eql_slice_nil (P := Trym.prog) w 22 43 a n c 0 0 Trym.underlying22
  have HS := hid hs
  have hu := hs.nil
  have hn0 := hs.new.nil
  clear hs
  cases u with
  | none =>
    have hao : ao = none := hu.1 rfl
    subst hao
    have hc0 : n = 0 := hn0 rfl
    subst hc0
    clear hu hn0
    go_enter Trym.func11, Trym.ntmps11
    go_wp2
    go_loopw [5] (fun s5 wr => s5 = .int .i64 0 ∧ w = wr) (fun _ _ => 0)
    case atStart => exact ⟨rfl, rfl⟩
    case round =>
      obtain ⟨rfl, rfl⟩ := hrel
      go_wp2
      go_ret
      exact ⟨rfl, Below.refl _ _⟩
  | some u =>
    obtain ⟨ao, rfl⟩ : ∃ a, ao = some a := by
      cases ao with
      | none => exact absurd (hu.2 rfl) (by simp)
      | some a => exact ⟨a, rfl⟩
    clear hu hn0
    go_enter Trym.func11, Trym.ntmps11
    go_wp2
    go_loopw [5] (fun s5 wr => ∃ k : Nat, k ≤ n ∧ s5 = .int .i64 k ∧ Below w.heap.size w wr) (fun s5 _ => n - (intOf s5).toNat)
    case atStart => exact ⟨0, by omega, rfl, Below.refl _ _⟩
    case round =>
      obtain ⟨k, hk, rfl, hb⟩ := hrel
      by_cases hkl : k < n
      · obtain ⟨b1, o1, e1, l1, s1⟩ := HS.out.new.row (by omega)
        obtain ⟨b2, o2, e2, l2, s2⟩ := HS.out.old.row (by omega)
        injection e1 with e1
        injection e2 with e2
        subst e1 e2
        have HC := hid (fun (wx : World) (hx : Below w.heap.size w wx) => same1_any b1 (o1 + k * 4) b2 (o2 + k * 4) (T k) (U k) wx ((s1 k hkl).below hx l1) ((s2 k hkl).below hx l2) (HS.out.each k hkl) (by have := hx.size; omega) (by have := hx.size; omega))
        have hI : (k : Int) < (n : Int) := by omega
        clear s1 s2
        go_wp2
        go_cut [31] from 24 to 30 (fun s31 wx => s31 = .bool false ∧ Below w.heap.size w wx)
        case first =>
          go_region_with (go_at_call 15; refine (HC.out _ (by exact hb.drew)).mono ?_; rintro e w9 ⟨rfl, hb9⟩)
          all_goals (go_wp2_with fail; go_meet)
          all_goals exact ⟨rfl, hb.drew.trans (hb9.mono hb.size)⟩
        case rest =>
          obtain ⟨rfl, hb9⟩ := hcut
          go_wp2
          go_roundw
          case rel => exact ⟨k + 1, by omega, by go_num, hb9⟩
          case measure => simp [intOf]; omega
      · go_wp2
        go_ret
        exact ⟨rfl, hb⟩
end Go.Proofs.Qxb6601458aMods
