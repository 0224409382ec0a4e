/- THE WALK OF zoneOfSeveral (25) AND ITS SHELL (13): two ranges over one map, in whatever order. -/
import Derived.Test.Qxb6600077aModsLaw
import Derived.Test.Qxb6600077aModsSmall
import Derived.Maps.OwnOps
namespace Go.Proofs.Qxb6600077aMods
open Go.RowKit Go.Maps Go.WideMaps

theorem law9 : Keyed Trym.prog 9 := string_keyed Trym.underlying9
theorem zero3 (w : World) : (zeroValue 3).run Trym.prog w = .ok (.int .i64 0) w := by kernel_rfl

/-- THE RANGE's STEP, string keys, string elements. -/
theorem next_strs {H : Type} {P : Program} (w : World) {ops : Array Oper} {rest : List Oper} {o : Oper} {a : Act} {Q : Exit → Act → World → Prop}
    (hg : o.guard = none) (it : Operand) (hop : o.op = Op.next it false) (k e : TypeId) (K : Keyed P k) (hk : P.underlying k = some .string) (he : P.underlying e = some .string)
    (b r n : Nat) (D : DataW H) (left : Lit → Bool) (cnt : Nat) (hit : a.eval it = .pointer (some ⟨r, 0, none⟩)) (h : w.ranges P k (plainElem P e) b r n D left cnt)
    (hDone : cnt = 0 → (∀ kl, left kl = false) → wpList P ops Q rest (a.put o.dst (.tuple #[.bool false])) w)
    (hMore : ∀ (x : ByteArray) (c : ByteArray) (w' : World) (cnt' : Nat), x.size ≤ maxLen → c.size ≤ maxLen → left (keyL x) = true → (∀ zd, D.atKey (keyL x) zd = .lit (.string c.data.toList)) → w'.ranges P k (plainElem P e) b r n D (fun z => left z && !z.sameKey (keyL x)) cnt' → cnt' < cnt →
      w.grownBy w' (some r) → w'.heap.size = w.heap.size → (Instr.entry (.pointer (some ⟨r, 0, none⟩))).run P w' = .ok (.tuple #[.string x, .string c]) w' → wpList P ops Q rest (a.put o.dst (.tuple #[.bool true, .string x, .string c])) w') :
    wpList P ops Q (o :: rest) a w :=
  wpList_next_ranges w hg it hop k K (plainElem P e) Value.string Value.string (fun key kl hkey => by obtain ⟨x, rfl, _⟩ := WideMaps.string_of_keyOf hk hkey; exact ⟨x, rfl⟩) (fun v y hv => by obtain ⟨c, rfl, _⟩ := plainElem_string_inv he hv; exact ⟨c, rfl⟩)
    b r n D left cnt hit h hDone (fun x c kl y w' cnt' hkey hlk hv hat hrg hlt hgr hsz hen => by
      obtain ⟨x', ex, rfl, hwx⟩ := WideMaps.string_of_keyOf hk hkey
      cases ex
      obtain ⟨c', ec, rfl, hwc⟩ := plainElem_string_inv he hv
      cases ec
      exact hMore x c w' cnt' hwx hwc hlk hat hrg hlt hgr hsz hen)

/-- What 'owned' reads as: address by address. -/
def OwnRel (T : Table) (left : Lit → Bool) (D2 : DataW Unit) : Prop := ∀ a : ByteArray, D2.atKey (keyL a) (.lit (.int .i64 0)) = .lit (.int .i64 (owns T left a))

theorem OwnRel.step {T : Table} {left : Lit → Bool} {D2 : DataW Unit} (h : OwnRel T left D2) (hm : IsMap D2) (hA : Apart T) {x c : ByteArray} (hx : (x, c) ∈ T) (hl : left (keyL x) = true) :
    OwnRel T (fun z => left z && !z.sameKey (keyL x)) (D2.put (keyL c) (.lit (.int .i64 ((owns T left c : Int) + 1)))) := by
  intro a
  rw [owns_step left hA hx hl a]
  by_cases e : c = a
  · subst e
    rw [atKey_put_same hm (keyL_isKey _), if_pos rfl]
    simp
  · rw [atKey_put_other (fun h => e (keyL_inj h).symm), if_neg e, h a]
    simp

/-- The first loop, under way. -/
def Loop1 (w : World) (b n : Nat) (D : DataW Unit) (T : Table) (wr : World) : Prop :=
  ∃ (left : Lit → Bool) (cnt : Nat) (D2 : DataW Unit), wr.ranges Trym.prog 9 (plainElem Trym.prog 9) b (w.heap.size + 1) n D left cnt ∧ cnt ≤ n ∧
    wr.ownsMap Trym.prog 9 (plainElem Trym.prog 3) w.heap.size (n - cnt) D2 ∧ OwnRel T left D2 ∧ Below w.heap.size w wr

/-- The second. -/
def Loop2 (w : World) (b n : Nat) (D : DataW Unit) (T : Table) (D2 : DataW Unit) (r : Nat) (f : ByteArray) (wr : World) : Prop :=
  ∃ (left : Lit → Bool) (cnt : Nat), wr.ranges Trym.prog 9 (plainElem Trym.prog 9) b r n D left cnt ∧
    wr.ownsMap Trym.prog 9 (plainElem Trym.prog 3) w.heap.size n D2 ∧ Best T left f ∧ Below w.heap.size w wr

def Lowest (w : World) (T : Table) (e : Ending) (w' : World) : Prop := ∃ f, e = .returned (.string f) ∧ Least T f ∧ Below w.heap.size w w'

set_option maxRecDepth 100000 in
set_option maxHeartbeats 1000000 in
theorem zone_any (b n : Nat) (D : DataW Unit) (T : Table) (w : World) (ho : w.ownsMap Trym.prog 9 (plainElem Trym.prog 9) b n D) (ht : Tab D T) (hA : Apart T) (hn : n ≤ 5000) (hTn : T.length ≤ 5000)
    (hne : ∀ p ∈ T, p.1.toList.isEmpty = false) : Calls Trym.prog 25 #[.map (some b)] w (Lowest w T) := by
  have hmm := @run_makeMap Trym.prog
  have hbl := ho.lt
  have HO := hid ho
  have HT := hid (And.intro ht (And.intro hA hne))
  have e1 : (w.alloc (.map #[] 0)).heap.size = w.heap.size + 1 := by simp
  clear ho ht hA hne
  go_enter Trym.func25, Trym.ntmps25
  go_wp2_with (first
    | (at_range; refine wpList_range_own _ rfl _ 29 rfl 9 9 law9 Trym.underlying29 _ b n _ rfl (HO.out.alloc _) ?_; intro w0 hrg0 hg0 hs0)
    | go_in)
  go_frame
  rw [e1] at hrg0 hs0 ⊢
  go_loopw [5] (fun _ wr => Loop1 w b n D T wr) (fun _ wr => wr.rangeLeft b (w.heap.size + 1))
  case atStart =>
    exact ⟨_, _, .map [], hrg0, hrg0.owns.size_le, ((World.ownsMap_made _ _ _ _).kept hg0 (by simp)).mono (Nat.zero_le _),
      fun a => by rw [owns_none _ _ (fun p hp => Maps.has_true_of_atKey (HT.out.1.look p hp))]; rfl,
      ((Below.refl _ _).alloc (Nat.le_refl _) _).grown hg0 (by simp) (fun j hj => by cases hj)⟩
  case round =>
    obtain ⟨left, cnt, D2, hrg, hcs, hout, hR, hnx⟩ := hrel
    go_wp2_with (first
      | (at_next; refine next_strs _ rfl _ rfl 9 9 law9 Trym.underlying9 Trym.underlying9 b (w.heap.size + 1) n _ _ _ rfl hrg ?_ ?_)
      | go_in)
    · intro hc0 hl0
      have hR' : ∀ a, D2.atKey (keyL a) (.lit (.int .i64 0)) = .lit (.int .i64 (total T a)) := fun a => by rw [hR a, owns_all T left hl0 a]
      have HR := hid hR'
      have hon := hrg.owns
      have hsz := hnx.size
      have hsz2 : w.heap.size < wr.heap.size := hout.lt
      clear hR hR' hl0 hg0 hrg0 hs0 hrg
      go_wp2_with (first
        | (at_range; refine wpList_range_own _ rfl _ 29 rfl 9 9 law9 Trym.underlying29 _ b n _ rfl hon ?_; intro w3 hrg3 hg3 hs3)
        | go_in)
      go_frame
      obtain ⟨R, hRR⟩ : ∃ R, wr.heap.size = R := ⟨_, rfl⟩
      rw [hRR] at hrg3 hs3 hsz hsz2 ⊢
      clear hRR
      go_loopw [6, 7, 8] (fun s6 _ _ wr2 => ∃ f, s6 = .string f ∧ Loop2 w b n D T D2 R f wr2) (fun _ _ _ wr2 => wr2.rangeLeft b R)
      case atStart =>
        exact ⟨_, rfl, _, _, hrg3, (hout.kept hg3 (by simp)).mono (by omega), best_start T _ (fun p hp => Maps.has_true_of_atKey (HT.out.1.look p hp)) _ (by rw [Lib.toList_data]; rfl),
          hnx.grown hg3 hnx.size (fun j hj => by cases hj)⟩
      case round =>
        obtain ⟨f, rfl, left2, cnt2, hrgB, hoB, hB, hnB⟩ := hrel
        go_wp2_with (first
          | (at_next; refine next_strs _ rfl _ rfl 9 9 law9 Trym.underlying9 Trym.underlying9 b R n _ _ _ rfl hrgB ?_ ?_)
          | go_in)
        · intro _ hl0
          go_wp2
          go_ret
          exact ⟨f, rfl, best_end hl0 hB, hnB⟩
        · intro x c w1 cnt1 hwx hwc hlx hat hrg1 hlt hg1 hs1 hen
          have hoC := hoB.kept hg1 (fun e => by have := Option.some.inj e; omega)
          obtain ⟨m, hrun, hm, _⟩ := hoC.lookup_int law9 Trym.underlying39 Trym.underlying3 (zero3 _) (keyOf_string_mk Trym.underlying9 hwc)
          have hm2 : m = (total T c : Int) := by
            have := HR.out c
            unfold keyL at this
            rw [hm] at this
            injection this with this
            injection this
          subst hm2
          have hmem := HT.out.1.mem hat
          have hnx1 := hnB.grown hg1 hnB.size (fun j hj => by cases hj; omega)
          have HX := hid (And.intro hmem (And.intro hnx1 (And.intro hoC (And.intro hrg1 (And.intro hB hrgB)))))
          have HC := hid hlt
          obtain ⟨t, ht⟩ : ∃ t, total T c = t := ⟨_, rfl⟩
          rw [ht] at hrun
          have HM := hid ht
          clear ht hm hat hmem hnx1 hoC hrg1 hB hrgB hoB hnB hlt hlx
          by_cases h1 : 1 < t
          · by_cases h2 : f.toList.isEmpty = true
            · go_wp2
              go_roundw
              case rel => exact ⟨x, rfl, _, cnt1, HX.out.2.2.2.1, HX.out.2.2.1, best_take HX.out.2.2.2.2.1 HX.out.1 (by have := HM.out; omega) (HT.out.2.2 _ HX.out.1) (Or.inl h2), HX.out.2.1⟩
              case measure => rw [HX.out.2.2.2.1.left_eq, HX.out.2.2.2.2.2.left_eq]; exact HC.out
            · have h2' : f.toList.isEmpty = false := by simpa using h2
              by_cases h3 : Op.bytesLess x.toList f.toList = true
              · go_wp2
                go_roundw
                case rel => exact ⟨x, rfl, _, cnt1, HX.out.2.2.2.1, HX.out.2.2.1, best_take HX.out.2.2.2.2.1 HX.out.1 (by have := HM.out; omega) (HT.out.2.2 _ HX.out.1) (Or.inr h3), HX.out.2.1⟩
                case measure => rw [HX.out.2.2.2.1.left_eq, HX.out.2.2.2.2.2.left_eq]; exact HC.out
              · have h3' : Op.bytesLess x.toList f.toList = false := by simpa using h3
                go_wp2
                go_roundw
                case rel => exact ⟨f, rfl, _, cnt1, HX.out.2.2.2.1, HX.out.2.2.1, best_keep HX.out.2.2.2.2.1 h2' h3', HX.out.2.1⟩
                case measure => rw [HX.out.2.2.2.1.left_eq, HX.out.2.2.2.2.2.left_eq]; exact HC.out
          · go_wp2
            go_roundw
            case rel => exact ⟨f, rfl, _, cnt1, HX.out.2.2.2.1, HX.out.2.2.1, best_once HT.out.2.1 HX.out.2.2.2.2.1 HX.out.1 (by have := HM.out; omega), HX.out.2.1⟩
            case measure => rw [HX.out.2.2.2.1.left_eq, HX.out.2.2.2.2.2.left_eq]; exact HC.out
    · intro x c w1 cnt1 hwx hwc hlx hat hrg1 hlt hg1 hs1 hen
      have hout1 := hout.kept hg1 (by simp)
      obtain ⟨m, hrun, hm, _⟩ := hout1.lookup_int law9 Trym.underlying39 Trym.underlying3 (zero3 _) (keyOf_string_mk Trym.underlying9 hwc)
      have hm2 : m = (owns T left c : Int) := by
        have := hR c
        unfold keyL at this
        rw [hm] at this
        injection this with this
        injection this
      subst hm2
      obtain ⟨t, ht⟩ : ∃ t, owns T left c = t := ⟨_, rfl⟩
      have htl : t ≤ 5000 := by rw [← ht]; exact Nat.le_trans (owns_le _ _ _) hTn
      rw [ht] at hrun
      have HM := hid ht
      have hRs := hR.step hout.isMap HT.out.2.1 (HT.out.1.mem hat) hlx
      rw [ht] at hRs
      have HS := hid hRs
      have HR := hid (And.intro hR hat)
      clear ht hm hR hat hRs
      go_wp2_with (first
        | (at_mapUpdate; refine wpList_mapUpdate_own _ rfl _ _ _ 39 rfl 9 3 law9 Trym.underlying39 _ w.heap.size _ _ rfl hout1 (by unfold maxLen; omega) _ _ _ rfl rfl (keyOf_string_mk Trym.underlying9 hwc) _ [] (plainElem_int Trym.underlying3 (WalkArith.wf_i64 (by omega))) ?_; intro w2 hout2 hg2; go_frame)
        | go_in)
      have hrg2 := hrg1.kept hg2 (fun e => by have := Option.some.inj e; omega) (fun e => by have := Option.some.inj e; omega)
      go_roundw
      case rel =>
        exact ⟨_, cnt1, _, hrg2, by omega, hout2.mono (by omega), HS.out,
          (hnx.grown hg1 hnx.size (fun j hj => by cases hj; exact Nat.le_succ _)).grown hg2 (by have := hnx.size; omega) (fun j hj => by cases hj; exact Nat.le_refl _)⟩
      case measure => rw [hrg2.left_eq, hrg.left_eq]; exact hlt

theorem zz_any (b n : Nat) (D : DataW Unit) (T : Table) (w : World) (ho : w.ownsMap Trym.prog 9 (plainElem Trym.prog 9) b n D) (ht : Tab D T) (hA : Apart T) (hn : n ≤ 5000) (hTn : T.length ≤ 5000)
    (hne : ∀ p ∈ T, p.1.toList.isEmpty = false) : Calls Trym.prog 13 #[.map (some b)] w (Lowest w T) := by
  have HZ := hid (zone_any b n D T w ho ht hA hn hTn hne)
  clear ho ht hA hn hTn hne
  go_enter Trym.func13, Trym.ntmps13
  go_wp2_with fail
  refine HZ.out.mono ?_
  rintro e w' ⟨f, rfl, hf, hb⟩
  go_wp2
  go_ret
  exact ⟨f, rfl, hf, hb⟩

end Go.Proofs.Qxb6600077aMods
