import Derived.Test.Qxb6000083aModsTexts
import Derived.Test.Qxb6000083aModsModel
import Derived.WalkKit
import Derived.WalkSpells
import Derived.Lib.SliceRun
import Derived.Deep.CutBlock
import Derived.Deep.CutRange
import Derived.Deep.DeepMust
namespace Go.Proofs.Qxb6000083aMods
open Go.RowKit Go.Lib

/-- A slice of bytes that is read: its elements are zs. -/
structure Src (w : World) (ao : Option Addr) (zs : List Int) : Prop where
  nil : ao = none → zs = []
  row : zs ≠ [] → ∃ b o, ao = some ⟨b, o, none⟩ ∧ b < w.heap.size ∧ ∀ j (hj : j < zs.length), w.cell? ⟨b, o + j, none⟩ = some (.int .u8 zs[j])

theorem own_copy {w : World} {B g n cap k : Nat} {zs : List Int} (hn : zs.length = n) (hk : k < n)
    (h : w.ownsRow B 5 1 (.slice (some ⟨g, 0, none⟩) n cap) n ((zs.take k).map (Value.int .u8) ++ List.replicate (n - k) (.int .u8 0))) :
    (w.setCell ⟨g, k, none⟩ (.int .u8 (zs[k]'(by omega)))).ownsRow B 5 1 (.slice (some ⟨g, 0, none⟩) n cap) n ((zs.take (k + 1)).map (Value.int .u8) ++ List.replicate (n - (k + 1)) (.int .u8 0)) := by
  have h2 := (h.stored k (.int .u8 (zs[k]'(by omega)))).1
  have e : ((zs.take k).map (Value.int .u8) ++ List.replicate (n - k) (Value.int .u8 0)).set k (Value.int .u8 (zs[k]'(by omega))) = (zs.take (k + 1)).map (Value.int .u8) ++ List.replicate (n - (k + 1)) (.int .u8 0) := by
    have e1 : n - k = (n - (k + 1)) + 1 := by omega
    have hl : ((zs.take k).map (Value.int .u8)).length = k := by rw [List.length_map, List.length_take]; omega
    rw [List.set_append_right _ _ (by omega), hl, Nat.sub_self, e1, List.replicate_succ, List.set_cons_zero, List.take_succ_eq_append_getElem (by omega), List.map_append, List.append_assoc]
    rfl
  rw [e] at h2
  exact h2

/-- What the clone leaves: the value's own cells are zs, in new memory; nothing that was there has turned. -/
def CloneLeft (w : World) (ao : Option Addr) (zs : List Int) (e : Ending) (w' : World) : Prop :=
  (ao = none ∧ e = .returned (.slice none 0 0) ∧ w' = w) ∨
  (ao ≠ none ∧ e = .returned (.slice (some ⟨w.heap.size, 0, none⟩) zs.length zs.length) ∧ w'.ownsRow w.heap.size 5 1 (.slice (some ⟨w.heap.size, 0, none⟩) zs.length zs.length) zs.length (zs.map (Value.int .u8)) ∧ Below w.heap.size w w')

set_option maxHeartbeats 400000 in
theorem clone_any (ao : Option Addr) (cap : Nat) (zs : List Int) (w : World) (hs : Src w ao zs) (hl : zs.length ≤ 4194304) :
    Calls Trym.prog 16 #[.slice ao zs.length cap] w (CloneLeft w ao zs) := by
  obtain ⟨i0, hi, hz0, hz1, hz2⟩ := info_parts Trym.info5
  have hnil := fun (w : World) (a : Option Addr) (n c : Nat) => Lib.run_eql_slice_nil (P := Trym.prog) w 29 5 a n c 0 0 Trym.underlying29
  cases ao with
  | none =>
    have h0 := hs.nil rfl
    subst h0
    go_enter Trym.func16, Trym.ntmps16
    go_wp2
    go_ret
    exact Or.inl ⟨rfl, rfl, rfl⟩
  | some a =>
    obtain ⟨n, hn⟩ : ∃ n, zs.length = n := ⟨_, rfl⟩
    rw [hn]
    have HN : Hid (zs.length = n) := hn
    have hn4 : n ≤ 4194304 := by omega
    have HS : Hid (Src w (some a) zs) := hs
    clear hs hn hl
    go_enter Trym.func16, Trym.ntmps16
    go_wp2_with (at_make; refine wpList_make_full w rfl _ _ 29 rfl w.heap.size 5 i0 (.int .u8 0) 1 Trym.underlying29 hi hz0 hz1 .i64 .i64 _ _ n rfl rfl rfl rfl (by rw [hz2]; omega) (by unfold maxLen; omega) (Nat.le_refl _) ?_; intro w1 ho1 hg1)
    have hz9 : (madeCells (Value.int .u8 0).cells (n * 1)).toList = List.replicate n (.int .u8 0) := by rw [Nat.mul_one]; exact toList_madeCells_one _ n
    rw [hz9] at ho1
    clear hz9
    have hb1 : Below w.heap.size w w1 := (Below.refl _ _).grown hg1 (Nat.le_refl _) (by intro k hk; cases hk)
    clear hg1
    go_loopw [4] (fun i wr => ∃ k : Nat, k ≤ n ∧ i = .int .i64 k ∧ wr.ownsRow w.heap.size 5 1 (.slice (some ⟨w.heap.size, 0, none⟩) n n) n ((zs.take k).map (Value.int .u8) ++ List.replicate (n - k) (.int .u8 0)) ∧ Below w.heap.size w wr) (fun i _ => n - (intOf i).toNat)
    case atStart => exact ⟨0, Nat.zero_le _, rfl, by simpa using ho1, hb1⟩
    case round =>
      obtain ⟨k, hk, rfl, hok, hbk⟩ := hrel
      have hzn := HN.out
      by_cases hlt : k < n
      · obtain ⟨b, o, ha, hb, hc⟩ := HS.out.row (by intro e; rw [e] at hzn; simp at hzn; omega)
        injection ha with ha
        subst ha
        obtain ⟨z, hz⟩ : ∃ z, zs[k]'(by omega) = z := ⟨_, rfl⟩
        have hcz : wr.cell? ⟨b, o + k, none⟩ = some (.int .u8 z) := (hbk.cell (p := ⟨b, o + k, none⟩) hb).trans (by rw [hc k (by omega), hz])
        have hcg : wr.cell? ⟨w.heap.size, k, none⟩ = some (.int .u8 0) := by
          rw [hok.cellAt k (by omega), List.getElem?_append_right (by simp; omega)]
          rw [List.length_map, List.length_take, hzn, Nat.min_eq_left hk, Nat.sub_self, List.getElem?_replicate, if_pos (by omega)]
        have hfg := hok.frozenAt k
        have R := own_copy hzn hlt hok
        rw [hz] at R
        have RB := hbk.setCell (p := ⟨w.heap.size, k, none⟩) (Nat.le_refl _) (.int .u8 z)
        have HR : Hid (_ ∧ _) := ⟨R, RB⟩
        clear R RB hok hbk hz hc HS HN hzn
        go_wp2
        go_roundw
        case rel => exact ⟨k + 1, by omega, by go_num, HR.out.1, HR.out.2⟩
        case measure => simp [intOf]; omega
      · have ek : k = n := by omega
        subst ek
        clear hlt
        go_wp2
        go_ret
        refine Or.inr ⟨by simp, by rw [hzn]; rfl, ?_, hbk⟩
        rw [hzn]
        have e : (zs.take k).map (Value.int .u8) ++ List.replicate (k - k) (.int .u8 0) = zs.map (Value.int .u8) := by
          rw [Nat.sub_self, List.replicate_zero, List.append_nil, List.take_of_length_le (by omega)]
        rw [e] at hok
        exact hok

/-- A slice that the call makes and appends to. -/
def Out (W0 : World) (v : Value) (n : Nat) (xs : List Value) (w : World) : Prop := w.ownsRow W0.heap.size 5 1 v n xs ∧ Below W0.heap.size W0 w

theorem wpList_out_byte {P : Program} {ops : Array Oper} {rest : List Oper} {o : Oper} {a : Act} {Q : Exit → Act → World → Prop} (hgd : o.guard = none) (s x : Operand) (t : TypeId)
    (ho : o.op = .call { callee := .builtin .append, args := #[s, x], argTypes := #[t, t] })
    (i : TypeInfo) (ht : P.underlying t = some (.slice 5)) (hi : P.info? 5 = some i) (hz : i.zero = some (.int .u8 0)) (hsize : i.size = 1) (hby : i.bytes = 1)
    (W0 : World) (v : Value) (n : Nat) (xs : List Value) (hs : a.eval s = v) (w0 : World) (c : Int) (hb : Out W0 v n xs w0)
    (H : Nat) (hx : a.eval x = .slice (some ⟨H, 0, none⟩) 1 1) (hH : w0.heap.size = H) (hlen : n + 1 ≤ 140737488355328)
    (h : ∀ v' w', Out W0 v' (n + 1) (xs ++ [.int .u8 c]) w' → wpList P ops Q rest (a.put o.dst v') w') : wpList P ops Q (o :: rest) a (w0.alloc (.cells #[.int .u8 c] 5)) := by
  subst hH
  have hsz := hb.2.size
  have hb2 := hb.2.alloc hsz (.cells #[.int .u8 c] 5)
  refine wpList_append_own_at _ hgd s x t ho W0.heap.size 5 i (.int .u8 0) 1 1 ht hi hz hsize hby rfl (by decide) v n xs hs (hb.1.alloc _) ⟨w0.heap.size, 0, none⟩ 1 1 [.int .u8 c] hx rfl (cell_one_new _ _ _) ?_ (by unfold maxLen; omega) (by omega) hb2.size ?_
  · intro u hu; simp at hu; subst hu; rfl
  · intro v' w' ho' hg _ hl
    exact h v' w' ⟨ho', hb2.grown hg hb2.size (fun k hk => ((hb.1.alloc (.cells #[.int .u8 c] 5)).lt k hk).1)⟩

theorem mstep_in (d : ByteArray) (x : Int) {sg : List UInt8} {hh P : Int} {m : Nat} {ys : List Value} (hm : P = hh - m) (hy : ys = (sg ++ Num.mt d.data.toList x hh m ++ (if P = -1 then [46] else [])).map bc) (h0 : 0 ≤ x - P) (h1 : x - P < (d.size : Int)) :
    (sg ++ Num.mt d.data.toList x hh (m + 1)).map bc = ys ++ [.int .u8 ((d[(x - P).toNat]'(by omega)).toNat : Int)] := by
  rw [hy, Num.mt_snoc, ← hm]
  have e : Num.ch d.data.toList (x - P) = d[(x - P).toNat]'(by omega) := by
    rw [Num.ch, if_pos (by rw [data_len]; exact ⟨h0, h1⟩), List.getD_eq_getElem?_getD, List.getElem?_eq_getElem (by rw [data_len]; omega)]
    rfl
  rw [e]
  simp [bc]

theorem mstep_out (d : ByteArray) (x : Int) {sg : List UInt8} {hh P : Int} {m : Nat} {ys : List Value} (hm : P = hh - m) (hy : ys = (sg ++ Num.mt d.data.toList x hh m ++ (if P = -1 then [46] else [])).map bc) (h : ¬ (0 ≤ x - P ∧ x - P < (d.size : Int))) :
    (sg ++ Num.mt d.data.toList x hh (m + 1)).map bc = ys ++ [.int .u8 48] := by
  rw [hy, Num.mt_snoc, ← hm]
  have e : Num.ch d.data.toList (x - P) = 48 := by
    rw [Num.ch, if_neg (by rw [data_len]; exact h)]
  rw [e]
  simp [bc]

def ModelLeft (neg : Bool) (d : ByteArray) (x : Int) (w : World) (e : Ending) (w' : World) : Prop :=
  ∃ v' n', e = .returned v' ∧ w'.ownsRow w.heap.size 5 1 v' n' ((Num.app neg d.data.toList x).map bc) ∧ Below w.heap.size w w'

set_option maxHeartbeats 1000000 in
set_option maxRecDepth 100000 in
theorem model_any (neg : Bool) (d : ByteArray) (x : Int) (w : World) (hd : d.size ≤ 4194304) (hx0 : -65536 ≤ x) (hx1 : x ≤ 65536) :
    Calls Trym.prog 17 #[.bool neg, .string d, .int .i64 x] w (ModelLeft neg d x w) := by
  obtain ⟨i0, hi, hz0, hz1, hz2⟩ := info_parts Trym.info5
  by_cases he : d.size = 0
  · have hl : d.data.toList = [] := List.eq_nil_of_length_eq_zero (by rw [data_len]; exact he)
    have HE : Hid (Num.app neg d.data.toList x = [48]) := by show _ = _; rw [Num.app, if_pos hl]
    clear hl
    go_enter Trym.func17, Trym.ntmps17
    go_wp2
    go_ret
    refine ⟨_, 1, rfl, ?_, (Below.refl _ _).alloc (Nat.le_refl _) _⟩
    rw [HE.out]
    exact World.ownsRow_lit w #[.int .u8 48] 1 (Nat.le_refl _) (by unfold maxLen; omega) rfl
  · have hne : d.data.toList ≠ [] := by intro e; have := data_len d; rw [e] at this; simp at this; omega
    have HB : Hid _ := Num.body_app neg d.data.toList x hne
    have hdp : 0 < d.size := by omega
    clear hne
    have hmk : ∀ w, (Instr.makeSlice 29 (.int .i64 0) (.int .i64 8)).run Trym.prog w = .ok (.slice (some ⟨w.heap.size, 0, none⟩) 0 8) (w.alloc (.cells (Array.replicate 8 (.int .u8 0)) 5)) := fun _ => by kernel_rfl
    have hm0 : Out w (.slice (some ⟨w.heap.size, 0, none⟩) 0 8) 0 [] (w.alloc (.cells (Array.replicate 8 (.int .u8 0)) 5)) :=
      ⟨World.ownsRow_made w _ 8 (Nat.le_refl _) (by unfold maxLen; omega) (by simp), (Below.refl _ _).alloc (Nat.le_refl _) _⟩
    obtain ⟨wm, hwm⟩ : ∃ wm, wm = w.alloc (.cells (Array.replicate 8 (.int .u8 0)) 5) := ⟨_, rfl⟩
    rw [← hwm] at hm0
    have hmk' : (Instr.makeSlice 29 (.int .i64 0) (.int .i64 8)).run Trym.prog w = .ok (.slice (some ⟨w.heap.size, 0, none⟩) 0 8) wm := by rw [hmk, hwm]
    clear hmk hwm
    go_enter Trym.func17, Trym.ntmps17
    go_upto_if 17 with fail
    go_cut [0, 7] from 12 to 20 (fun _ s7 wc => ∃ n1 : Nat, n1 ≤ 1 ∧ Out w s7 n1 ((if neg then [45] else [] : List UInt8).map bc) wc)
    case first =>
      cases hneg : neg
      · go_wp2
        go_meet
        case rel => exact ⟨0, by omega, by rw [hneg]; exact hm0⟩
      · go_wp2_with (first | (at_builtin; (refine wpList_out_byte rfl (.tmp 18) (.tmp 19) 29 rfl i0 Trym.underlying29 hi hz0 hz1 hz2 w (.slice (some ⟨w.heap.size, 0, none⟩) 0 8) (0) ([]) rfl _ (45) hm0 _ rfl (by simp) (by omega) ?_); intro v1 w1 hb1))
        go_meet
        case rel => exact ⟨1, by omega, by rw [hneg]; exact hb1⟩
    case rest =>
      obtain ⟨n1, hn1, hb1⟩ := hcut
      clear hmk' hm0
      obtain ⟨sg, hsg⟩ : ∃ sg : List UInt8, (if neg then [45] else []) = sg := ⟨_, rfl⟩
      rw [hsg] at hb1 HB
      clear hsg
      go_upto_if 23 with fail
      go_cut [8] from 21 to 23 (fun s8 wc => (∃ hi : Int, s8 = .int .i64 hi ∧ 0 ≤ hi ∧ hi ≤ 65536 ∧ Hid (hi = if x < 0 then 0 else x)) ∧ Out w u7 n1 (sg.map bc) wc)
      case first =>
        by_cases hx : x < 0
        · go_wp2
          go_meet
          case rel => exact ⟨⟨0, rfl, by omega, by omega, by show _ = _; rw [if_pos hx]⟩, hb1⟩
        · go_wp2
          go_meet
          case rel => exact ⟨⟨x, rfl, by omega, by omega, by show _ = _; rw [if_neg (by omega)]⟩, hb1⟩
      case rest =>
        clear hb1
        obtain ⟨⟨hh, rfl, hh0, hh1, HH⟩, hb1⟩ := hcut
        go_upto_if 30 with fail
        go_cut [9] from 24 to 30 (fun s9 wc => (∃ lo : Int, s9 = .int .i64 lo ∧ lo ≤ 0 ∧ -4300000 ≤ lo ∧ Hid (lo = if 0 < x - d.size + 1 then 0 else x - d.size + 1)) ∧ Out w u7 n1 (sg.map bc) wc)
        case first =>
          by_cases hl : 0 < x - d.size + 1
          · go_wp2
            go_meet
            case rel => exact ⟨⟨0, rfl, by omega, by omega, by show _ = _; rw [if_pos hl]⟩, hb1⟩
          · go_wp2
            go_meet
            case rel => exact ⟨⟨x - d.size + 1, rfl, by omega, by omega, by show _ = _; rw [if_neg (by omega)]⟩, hb1⟩
        case rest =>
          clear hb1
          obtain ⟨⟨lo, rfl, hl0, hl1, HL⟩, hb1⟩ := hcut
          have HB2 : Hid (sg ++ Num.mt d.data.toList x hh (hh - lo + 1).toNat = Num.app neg d.data.toList x) := by
            show _ = _
            have h := HB.out
            unfold Num.body at h
            rw [data_len, ← HH.out, ← HL.out] at h
            exact h
          clear HB HH HL
          go_wp2
          go_loopg [7, 10] (hh - lo + 1).toNat (fun g s7 s10 wr => ∃ (m n2 : Nat) (P : Int), s10 = .int .i64 P ∧ lo - 1 ≤ P ∧ P ≤ hh ∧ Hid (g = (P - lo + 1).toNat) ∧ Hid (P = hh - m) ∧ (n2 : Int) ≤ 1 + 2 * (hh - P) ∧ Out w s7 n2 ((sg ++ Num.mt d.data.toList x hh m).map bc) wr)
          case atStart => exact ⟨0, n1, hh, rfl, by omega, by omega, rfl, by show _ = _; simp, by omega, by simpa [Num.mt] using hb1⟩
          case round =>
            clear hb1
            obtain ⟨m, n2, P, rfl, hP0, hP1, HG, HM, hn2, hb2⟩ := hrel
            by_cases hout : P < lo
            · go_wp2
              go_ret
              refine ⟨_, n2, rfl, ?_, hb2.2⟩
              rw [← HB2.out]
              have em : (hh - lo + 1).toNat = m := by have := HM.out; omega
              rw [em]
              exact hb2.1
            · go_upto_if 38 with fail
              go_cut [7] from 32 to 61 (fun s7 wc => ∃ n3 : Nat, n3 ≤ n2 + 1 ∧ Out w s7 n3 ((sg ++ Num.mt d.data.toList x hh m ++ (if P = -1 then [46] else [])).map bc) wc)
              case first =>
                by_cases hP : P = -1
                · have E : Hid (((sg ++ Num.mt d.data.toList x hh m ++ (if P = -1 then [46] else [])).map bc) = (sg ++ Num.mt d.data.toList x hh m).map bc ++ [.int .u8 46]) := by show _ = _; rw [if_pos hP]; simp [bc]
                  have hPa : P ≤ -1 := by omega
                  have hPb : -1 ≤ P := by omega
                  clear hP
                  go_wp2_with (first | (at_builtin; (refine wpList_out_byte rfl (.tmp 39) (.tmp 40) 29 rfl i0 Trym.underlying29 hi hz0 hz1 hz2 w u7 (n2) ((sg ++ Num.mt d.data.toList x hh m).map bc) rfl _ (46) hb2 _ rfl (by simp) (by omega) ?_); intro v3 w3 hb3))
                  go_meet
                  case rel => exact ⟨n2 + 1, by omega, by rw [E.out]; exact hb3⟩
                · have E : Hid (((sg ++ Num.mt d.data.toList x hh m ++ (if P = -1 then [46] else [])).map bc) = (sg ++ Num.mt d.data.toList x hh m).map bc) := by show _ = _; rw [if_neg hP]; simp
                  go_wp2
                  go_meet
                  case rel => exact ⟨n2, by omega, by rw [E.out]; exact hb2⟩
              case rest =>
                clear hb2
                obtain ⟨n3, hn3, hb2⟩ := hcut
                obtain ⟨ys, hys⟩ : ∃ ys, ys = (sg ++ Num.mt d.data.toList x hh m ++ (if P = -1 then [46] else [])).map bc := ⟨_, rfl⟩
                have HY : Hid _ := hys
                rw [← hys] at hb2
                clear hys
                by_cases hk0 : 0 ≤ x - P
                · by_cases hk1 : x - P < (d.size : Int)
                  · go_wp2_with (first | (at_builtin; (refine wpList_out_byte rfl (.tmp 53) (.tmp 57) 29 rfl i0 Trym.underlying29 hi hz0 hz1 hz2 w u7 (n3) (ys) rfl _ (((d[(x - P).toNat]).toNat : Int)) hb2 _ rfl (by simp) (by omega) ?_); intro v9 w9 hb9))
                    go_roundg (P - 1 - lo + 1).toNat
                    case measure => have := HG.out; omega
                    case rel => exact ⟨m + 1, n3 + 1, P - 1, rfl, by omega, by omega, rfl, by show _ = _; have := HM.out; omega, by omega, by rw [mstep_in d x HM.out HY.out hk0 hk1]; exact hb9⟩
                  · go_wp2_with (first | (at_builtin; (refine wpList_out_byte rfl (.tmp 59) (.tmp 60) 29 rfl i0 Trym.underlying29 hi hz0 hz1 hz2 w u7 (n3) (ys) rfl _ (48) hb2 _ rfl (by simp) (by omega) ?_); intro v9 w9 hb9))
                    go_roundg (P - 1 - lo + 1).toNat
                    case measure => have := HG.out; omega
                    case rel => exact ⟨m + 1, n3 + 1, P - 1, rfl, by omega, by omega, rfl, by show _ = _; have := HM.out; omega, by omega, by rw [mstep_out d x HM.out HY.out (by omega)]; exact hb9⟩
                · go_wp2_with (first | (at_builtin; (refine wpList_out_byte rfl (.tmp 59) (.tmp 60) 29 rfl i0 Trym.underlying29 hi hz0 hz1 hz2 w u7 (n3) (ys) rfl _ (48) hb2 _ rfl (by simp) (by omega) ?_); intro v9 w9 hb9))
                  go_roundg (P - 1 - lo + 1).toNat
                  case measure => have := HG.out; omega
                  case rel => exact ⟨m + 1, n3 + 1, P - 1, rfl, by omega, by omega, rfl, by show _ = _; have := HM.out; omega, by omega, by rw [mstep_out d x HM.out HY.out (by omega)]; exact hb9⟩
end Go.Proofs.Qxb6000083aMods
