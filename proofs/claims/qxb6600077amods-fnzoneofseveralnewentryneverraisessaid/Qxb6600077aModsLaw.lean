/- THE PLAIN LAW: a table as a list of pairs (zone, address); what the map reads as ('Tab'); how often an address stands in it; the least shared zone ('Best'), and what the two laws ask of it. Nothing of the program stands here. -/
import Derived.Maps.StringElems
import Derived.StringKeys
import Derived.Test.Qxb6600077aModsTests
namespace Go.Proofs.Qxb6600077aMods
open Go.RowKit

/-! ### the order of strings -/
theorem bless_irrefl : ∀ x : List UInt8, Op.bytesLess x x = false
  | [] => rfl
  | a :: x => by simp [Op.bytesLess, bless_irrefl x]
theorem bless_trans : ∀ {x y z : List UInt8}, Op.bytesLess x y = true → Op.bytesLess y z = true → Op.bytesLess x z = true
  | _, [], _, h, _ => by simp [Op.bytesLess] at h
  | _, _ :: _, [], _, h => by simp [Op.bytesLess] at h
  | [], _ :: _, _ :: _, _, _ => rfl
  | a :: x, b :: y, c :: z, h, h' => by
    simp only [Op.bytesLess, Bool.or_eq_true, Bool.and_eq_true, decide_eq_true_eq, beq_iff_eq] at h h' ⊢
    rcases h with h | ⟨rfl, h⟩
    · rcases h' with h' | ⟨rfl, _⟩
      · exact Or.inl (UInt8.lt_trans h h')
      · exact Or.inl h
    · rcases h' with h' | ⟨rfl, h'⟩
      · exact Or.inl h'
      · exact Or.inr ⟨rfl, bless_trans h h'⟩
theorem bless_tri : ∀ {x y : List UInt8}, Op.bytesLess x y = false → Op.bytesLess y x = false → x = y
  | [], [], _, _ => rfl
  | [], _ :: _, h, _ => by simp [Op.bytesLess] at h
  | _ :: _, [], _, h => by simp [Op.bytesLess] at h
  | a :: x, b :: y, h, h' => by
    simp only [Op.bytesLess, Bool.or_eq_false_iff, Bool.and_eq_false_iff, decide_eq_false_iff_not, beq_eq_false_iff_ne] at h h'
    have e : a = b := by
      rcases UInt8.lt_or_lt_of_ne (a := a) (b := b) with hh
      by_cases e : a = b
      · exact e
      · rcases hh e with h1 | h1
        · exact absurd h1 h.1
        · exact absurd h1 h'.1
    subst e
    have h1 := h.2.resolve_left (fun h => h rfl)
    have h2 := h'.2.resolve_left (fun h => h rfl)
    rw [bless_tri h1 h2]

/-! ### tables -/
abbrev Table := List (ByteArray × ByteArray)
def keyL (s : ByteArray) : Lit := .string s.data.toList
theorem keyL_inj {s t : ByteArray} (h : keyL s = keyL t) : s = t := by
  unfold keyL at h
  injection h with h
  exact ByteArray.ext (Array.toList_inj.1 h)
theorem keyL_isKey (s : ByteArray) : WideAt.IsKeyLit (keyL s) := by unfold keyL; trivial

structure Tab (D : DataW Unit) (T : Table) : Prop where
  there : ∀ k, Maps.has D k = true → ∃ p ∈ T, k = keyL p.1
  look : ∀ p ∈ T, ∀ z, D.atKey (keyL p.1) z = .lit (.string p.2.data.toList)

theorem tab_nil : Tab (.map []) [] := ⟨fun k h => (by simp [Maps.has] at h), fun p h => (by cases h)⟩

theorem Tab.put {D : DataW Unit} {T : Table} (h : Tab D T) (hm : Maps.IsMap D) {z a : ByteArray} (hz : ∀ p ∈ T, p.1 ≠ z) : Tab (D.put (keyL z) (.lit (.string a.data.toList))) (T ++ [(z, a)]) := by
  refine ⟨fun k hk => ?_, fun p hp y => ?_⟩
  · by_cases e : k = keyL z
    · exact ⟨(z, a), by simp, e⟩
    · rw [Maps.has_put_other e] at hk
      obtain ⟨p, hp, e⟩ := h.there k hk
      exact ⟨p, by simp [hp], e⟩
  · rcases List.mem_append.1 hp with hp | hp
    · rw [Maps.atKey_put_other (fun e => hz p hp (keyL_inj e))]
      exact h.look p hp y
    · simp at hp
      subst hp
      exact Maps.atKey_put_same hm (keyL_isKey _) _ _

/-- An entry that the map shows is one of the table's. -/
theorem Tab.mem {D : DataW Unit} {T : Table} (h : Tab D T) {x c : ByteArray} (hx : ∀ zd, D.atKey (keyL x) zd = .lit (.string c.data.toList)) : (x, c) ∈ T := by
  obtain ⟨p, hp, e⟩ := h.there _ (Maps.has_true_of_atKey hx)
  have e1 := keyL_inj e
  have e2 := h.look p hp .nil
  rw [← e1, hx] at e2
  injection e2 with e2
  have e3 := keyL_inj (s := c) (t := p.2) e2
  have : (x, c) = p := by rw [e1, e3]
  rw [this]
  exact hp

def Apart (T : Table) : Prop := T.Pairwise (fun p q => p.1 ≠ q.1)

/-- How often an address stands among the entries that have come. -/
def owns (T : Table) (left : Lit → Bool) (a : ByteArray) : Nat := T.countP (fun p => p.2.toList == a.toList && !left (keyL p.1))

theorem owns_le (T : Table) (left : Lit → Bool) (a : ByteArray) : owns T left a ≤ T.length := List.countP_le_length

theorem owns_none (T : Table) (left : Lit → Bool) (h : ∀ p ∈ T, left (keyL p.1) = true) (a : ByteArray) : owns T left a = 0 := by
  unfold owns
  rw [List.countP_eq_zero]
  intro p hp
  simp [h p hp]

theorem owns_step : ∀ {T : Table} (left : Lit → Bool) {x c : ByteArray}, Apart T → (x, c) ∈ T → left (keyL x) = true → ∀ a : ByteArray,
    owns T (fun z => left z && !z.sameKey (keyL x)) a = owns T left a + if c = a then 1 else 0
  | [], _, _, _, _, h, _, _ => by cases h
  | p :: T, left, x, c, hA, hx, hl, a => by
    unfold owns
    rw [List.countP_cons, List.countP_cons]
    have hA' := List.pairwise_cons.1 hA
    by_cases e : p.1 = x
    · have ep : p = (x, c) := by
        rcases List.mem_cons.1 hx with h | h
        · exact h.symm
        · exact absurd e (hA'.1 _ h)
      subst ep
      have e2 : (T.countP fun p => p.2.toList == a.toList && !(left (keyL p.1) && !(keyL p.1).sameKey (keyL x))) = T.countP fun p => p.2.toList == a.toList && !left (keyL p.1) := by
        refine List.countP_congr (fun q hq => ?_)
        have : (keyL q.1).sameKey (keyL x) = false := Maps.sameKey_ne (fun h => hA'.1 q hq (keyL_inj h).symm)
        rw [this]
        simp
      rw [e2]
      have e3 : (keyL x).sameKey (keyL x) = true := WideAt.sameKey_self (keyL_isKey x)
      simp only [hl, e3, Bool.not_true, Bool.and_false, Bool.not_false, Bool.and_true]
      by_cases ec : c = a
      · subst ec; simp
      · have : (c.toList == a.toList) = false := by
          rw [beq_eq_false_iff_ne]; exact fun h => ec (toList_inj h)
        simp [this, ec]
    · have hx' : (x, c) ∈ T := by
        rcases List.mem_cons.1 hx with h | h
        · rw [← h] at e; exact absurd rfl e
        · exact h
      have IH := owns_step left hA'.2 hx' hl a
      unfold owns at IH
      rw [IH]
      have : (keyL p.1).sameKey (keyL x) = false := Maps.sameKey_ne (fun h => e (keyL_inj h))
      simp only [this, Bool.not_false, Bool.and_true]
      omega

/-- How often an address stands in the table. -/
def total (T : Table) (a : ByteArray) : Nat := T.countP (fun p => p.2.toList == a.toList)
theorem owns_all (T : Table) (left : Lit → Bool) (h : ∀ k, left k = false) (a : ByteArray) : owns T left a = total T a := by
  unfold owns total
  simp [h]

/-- What the second loop has found. -/
def Best (T : Table) (left : Lit → Bool) (f : ByteArray) : Prop :=
  (f.toList.isEmpty = true ∧ ∀ p ∈ T, left (keyL p.1) = false → total T p.2 ≤ 1) ∨
  (f.toList.isEmpty = false ∧ ∃ p ∈ T, p.1 = f ∧ 2 ≤ total T p.2 ∧ ∀ q ∈ T, left (keyL q.1) = false → 2 ≤ total T q.2 → Op.bytesLess q.1.toList f.toList = false)

theorem best_start (T : Table) (left : Lit → Bool) (h : ∀ p ∈ T, left (keyL p.1) = true) (f : ByteArray) (hf : f.toList.isEmpty = true) : Best T left f :=
  Or.inl ⟨hf, fun p hp h' => by rw [h p hp] at h'; cases h'⟩

theorem step_left {left : Lit → Bool} {x z : ByteArray} (h : (left (keyL z) && !(keyL z).sameKey (keyL x)) = false) : z = x ∨ left (keyL z) = false := by
  rw [Bool.and_eq_false_iff] at h
  rcases h with h | h
  · exact Or.inr h
  · exact Or.inl (keyL_inj (WideAt.sameKey_eq (by simpa using h)))

theorem apart_eq {T : Table} (hA : Apart T) {p q : ByteArray × ByteArray} (hp : p ∈ T) (hq : q ∈ T) (h : p.1 = q.1) : p = q := by
  induction T with
  | nil => cases hp
  | cons r T ih =>
    have hA' := List.pairwise_cons.1 hA
    rcases List.mem_cons.1 hp with e1 | h1 <;> rcases List.mem_cons.1 hq with e2 | h2
    · rw [e1, e2]
    · subst e1; exact absurd h (hA'.1 _ h2)
    · subst e2; exact absurd h.symm (hA'.1 _ h1)
    · exact ih hA'.2 h1 h2

/-- The entry is not taken: its address stands once. -/
theorem best_once {T : Table} {left : Lit → Bool} {f x c : ByteArray} (hA : Apart T) (h : Best T left f) (hx : (x, c) ∈ T) (hc : total T c ≤ 1) : Best T (fun z => left z && !z.sameKey (keyL x)) f := by
  rcases h with ⟨hf, h⟩ | ⟨hf, p, hp, h1, h2, h3⟩
  · refine Or.inl ⟨hf, fun q hq hl => ?_⟩
    rcases step_left hl with e | hl
    · rw [apart_eq hA hq hx e]; exact hc
    · exact h q hq hl
  · refine Or.inr ⟨hf, p, hp, h1, h2, fun q hq hl ht => ?_⟩
    rcases step_left hl with e | hl
    · rw [apart_eq hA hq hx e] at ht
      exact absurd ht (by simp; omega)
    · exact h3 q hq hl ht

/-- .. the zone is no less than the one found. -/
theorem best_keep {T : Table} {left : Lit → Bool} {f x : ByteArray} (h : Best T left f) (hf : f.toList.isEmpty = false) (hn : Op.bytesLess x.toList f.toList = false) : Best T (fun z => left z && !z.sameKey (keyL x)) f := by
  rcases h with ⟨hf', h⟩ | ⟨hf, p, hp, h1, h2, h3⟩
  · rw [hf] at hf'; cases hf'
  · refine Or.inr ⟨hf, p, hp, h1, h2, fun q hq hl ht => ?_⟩
    rcases step_left hl with e | hl
    · rw [e]; exact hn
    · exact h3 q hq hl ht

/-- The entry is taken. -/
theorem best_take {T : Table} {left : Lit → Bool} {f x c : ByteArray} (h : Best T left f) (hx : (x, c) ∈ T) (hc : 2 ≤ total T c) (hne : x.toList.isEmpty = false) (hn : f.toList.isEmpty = true ∨ Op.bytesLess x.toList f.toList = true) : Best T (fun z => left z && !z.sameKey (keyL x)) x := by
  refine Or.inr ⟨hne, (x, c), hx, rfl, hc, fun q hq hl ht => ?_⟩
  rcases step_left hl with e | hl
  · rw [e]; exact bless_irrefl _
  · rcases h with ⟨hf, h⟩ | ⟨hf, p, hp, h1, h2, h3⟩
    · exact absurd ht (by have := h q hq hl; omega)
    · rcases hn with hn | hn
      · rw [hf] at hn; cases hn
      · cases hb : Op.bytesLess q.1.toList x.toList
        · rfl
        · have := h3 q hq hl ht
          rw [bless_trans hb hn] at this
          cases this

/-- What the answer is. -/
def Least (T : Table) (f : ByteArray) : Prop := Best T (fun _ => false) f
theorem best_end {T : Table} {left : Lit → Bool} {f : ByteArray} (hl : ∀ k, left k = false) (h : Best T left f) : Least T f := by
  have : left = fun _ => false := funext hl
  rw [this] at h
  exact h

/-- Two tables with the same shared zones have one answer. -/
theorem least_same {T T' : Table} {f f' : ByteArray} (h : Least T f) (h' : Least T' f') (h1 : ∀ p ∈ T, 2 ≤ total T p.2 → p ∈ T' ∧ 2 ≤ total T' p.2) (h2 : ∀ p ∈ T', 2 ≤ total T' p.2 → p ∈ T ∧ 2 ≤ total T p.2) : f = f' := by
  rcases h with ⟨hf, h⟩ | ⟨hf, p, hp, a1, a2, a3⟩ <;> rcases h' with ⟨hf', h'⟩ | ⟨hf', p', hp', b1, b2, b3⟩
  · refine toList_inj ?_
    rw [List.isEmpty_iff] at hf hf'
    rw [hf, hf']
  · have := h2 p' hp' b2
    have := h p' this.1 rfl
    omega
  · have := h1 p hp a2
    have := h' p this.1 rfl
    omega
  · refine toList_inj (bless_tri ?_ ?_)
    · have := h1 p hp a2
      rw [← a1]
      exact b3 p this.1 rfl this.2
    · have := h2 p' hp' b2
      rw [← b1]
      exact a3 p' this.1 rfl this.2

theorem total_snoc (T : Table) (z a b : ByteArray) : total (T ++ [(z, a)]) b = total T b + if a = b then 1 else 0 := by
  unfold total
  rw [List.countP_append]
  simp only [List.countP_cons, List.countP_nil, Nat.zero_add]
  by_cases e : a = b
  · subst e; simp
  · have : (a.toList == b.toList) = false := by rw [beq_eq_false_iff_ne]; exact fun h => e (toList_inj h)
    simp [this, e]

theorem total_zero {T : Table} {a : ByteArray} (h : ∀ p ∈ T, p.2 ≠ a) : total T a = 0 := by
  unfold total
  rw [List.countP_eq_zero]
  intro p hp e
  exact h p hp (beq_inj e)

theorem total_pos {T : Table} {p : ByteArray × ByteArray} (h : p ∈ T) : 1 ≤ total T p.2 := List.countP_pos_iff.2 ⟨p, h, by simp⟩

/-- LAW 2, a fresh address. -/
theorem fresh_same {T : Table} {z a f f' : ByteArray} (h : Least T f) (h' : Least (T ++ [(z, a)]) f') (ha : ∀ p ∈ T, p.2 ≠ a) : f' = f := by
  refine (least_same h h' (fun p hp ht => ⟨by simp [hp], by rw [total_snoc]; omega⟩) (fun p hp ht => ?_)).symm
  rcases List.mem_append.1 hp with hp | hp
  · rw [total_snoc, if_neg (fun e => ha p hp e.symm)] at ht
    exact ⟨hp, ht⟩
  · simp at hp
    subst hp
    rw [total_snoc, total_zero ha] at ht
    simp at ht

/-- LAW 2, an address that is there. -/
theorem known_full {T : Table} {z a f' : ByteArray} (h' : Least (T ++ [(z, a)]) f') (ha : ∃ p ∈ T, p.2 = a) : f'.toList.isEmpty = false ∧ Op.bytesLess z.toList f'.toList = false := by
  obtain ⟨p, hp, e⟩ := ha
  have hz : 2 ≤ total (T ++ [(z, a)]) a := by
    rw [total_snoc, if_pos rfl, ← e]
    have := total_pos hp
    omega
  rcases h' with ⟨hf', h'⟩ | ⟨hf', p', hp', b1, b2, b3⟩
  · have := h' (z, a) (by simp) rfl
    simp only at this
    omega
  · exact ⟨hf', b3 (z, a) (by simp) rfl hz⟩

theorem known_le {T : Table} {z a f f' : ByteArray} (h : Least T f) (h' : Least (T ++ [(z, a)]) f') (hf : f.toList.isEmpty = false) : Op.bytesLess f.toList f'.toList = false := by
  rcases h with ⟨hf0, _⟩ | ⟨_, p, hp, a1, a2, a3⟩
  · rw [hf] at hf0; cases hf0
  · have hp' : p ∈ T ++ [(z, a)] := by simp [hp]
    have ht : 2 ≤ total (T ++ [(z, a)]) p.2 := by rw [total_snoc]; omega
    rcases h' with ⟨hf', h'⟩ | ⟨hf', p', hp2, b1, b2, b3⟩
    · have := h' p hp' rfl
      omega
    · rw [← a1]
      exact b3 p hp' rfl ht

/-- 'a > z' and 'a <= b' as the program asks them. -/
theorem not_gtr {x z : ByteArray} (h : Op.bytesLess z.toList x.toList = false) : (Op.bytesLess x.toList z.toList || x.toList == z.toList) = true := by
  cases h2 : Op.bytesLess x.toList z.toList
  · rw [bless_tri h2 h]; simp
  · rfl

/-! ### the table of two lists -/
theorem two_of_countP {α : Type} (f : α → Bool) : ∀ (l : List α) (i j : Nat) (hi : i < l.length) (hj : j < l.length), i < j → f l[i] = true → f l[j] = true → 2 ≤ l.countP f
  | [], _, _, hi, _, _, _, _ => by simp at hi
  | x :: l, 0, j + 1, hi, hj, _, h1, h2 => by
    rw [List.countP_cons, if_pos (by simpa using h1)]
    have : 0 < l.countP f := List.countP_pos_iff.2 ⟨l[j]'(by simpa using hj), List.getElem_mem _, by simpa using h2⟩
    omega
  | x :: l, i + 1, j + 1, hi, hj, hij, h1, h2 => by
    rw [List.countP_cons]
    have := two_of_countP f l i j (by simpa using hi) (by simpa using hj) (by omega) (by simpa using h1) (by simpa using h2)
    omega
theorem countP_two {α : Type} (f : α → Bool) : ∀ (l : List α), 2 ≤ l.countP f → ∀ i : Nat, ∃ j, ∃ hj : j < l.length, j ≠ i ∧ f l[j] = true
  | [], h, _ => by simp at h
  | x :: l, h, i => by
    rw [List.countP_cons] at h
    cases i with
    | zero =>
      have : 0 < l.countP f := by split at h <;> omega
      obtain ⟨y, hy, hf⟩ := List.countP_pos_iff.1 this
      obtain ⟨j, hj, e⟩ := List.mem_iff_getElem.1 hy
      exact ⟨j + 1, by simpa using hj, by omega, by simpa [e] using hf⟩
    | succ i =>
      by_cases hx : f x = true
      · exact ⟨0, by simp, by omega, by simpa using hx⟩
      · rw [if_neg hx] at h
        obtain ⟨j, hj, h1, h2⟩ := countP_two f l h i
        exact ⟨j + 1, by simpa using hj, by omega, by simpa using h2⟩

theorem shared_iff {zs ds : List ByteArray} (hl : zs.length = ds.length) {i : Nat} (hi : i < ds.length) : Shared ds i ↔ 2 ≤ total (zs.zip ds) ds[i] := by
  have hz : (zs.zip ds).length = ds.length := by simp [hl]
  unfold total
  constructor
  · rintro ⟨j, hj, h2, hne, e⟩
    have g : ∀ k (hk : k < ds.length), ds[k] = ds[i] → (fun p : ByteArray × ByteArray => p.2.toList == ds[i].toList) ((zs.zip ds)[k]'(by omega)) = true := by
      intro k hk e
      simp [e]
    rcases Nat.lt_or_gt_of_ne hne with h | h
    · exact two_of_countP _ _ j i (by omega) (by omega) h (g j hj e) (g i hi rfl)
    · exact two_of_countP _ _ i j (by omega) (by omega) h (g i hi rfl) (g j hj e)
  · intro h
    obtain ⟨j, hj, h1, h2⟩ := countP_two _ _ h i
    exact ⟨j, by omega, hi, h1, by simpa using beq_inj (by simpa using h2)⟩

theorem asc_lt {zs : List ByteArray} (hA : Asc zs) : ∀ (d i : Nat) (h : i + d + 1 < zs.length), Op.bytesLess (zs[i]).toList (zs[i + d + 1]).toList = true
  | 0, i, h => hA i h
  | d + 1, i, h => bless_trans (asc_lt hA d i (by omega)) (hA (i + d + 1) (by omega))

theorem asc_less {zs : List ByteArray} (hA : Asc zs) {i j : Nat} (hij : i < j) (hj : j < zs.length) : Op.bytesLess (zs[i]).toList (zs[j]).toList = true := by
  have := asc_lt hA (j - i - 1) i (by omega)
  have e : i + (j - i - 1) + 1 = j := by omega
  simpa only [e] using this

theorem asc_apart {zs ds : List ByteArray} (hA : Asc zs) : Apart (zs.zip ds) := by
  unfold Apart
  rw [List.pairwise_iff_getElem]
  intro i j hi hj hij
  simp only [List.getElem_zip]
  intro e
  have := asc_less hA hij (by simp at hj; omega)
  rw [e, bless_irrefl] at this
  cases this

theorem first_least {zs ds : List ByteArray} (hl : zs.length = ds.length) (hA : Asc zs) {f : ByteArray} (h : Least (zs.zip ds) f) {i : Nat} (hi : i < ds.length) (hs : Shared ds i) (hn : ∀ j, j < i → ¬ Shared ds j) : f = zs[i] := by
  have hz : (zs.zip ds).length = ds.length := by simp [hl]
  have hi' : (zs.zip ds)[i]'(by omega) ∈ zs.zip ds := List.getElem_mem _
  rcases h with ⟨hf0, h⟩ | ⟨_, p, hp, a1, a2, a3⟩
  · have := h _ hi' rfl
    simp only [List.getElem_zip] at this
    have := (shared_iff hl hi).1 hs
    omega
  · obtain ⟨j, hj, e⟩ := List.mem_iff_getElem.1 hp
    have hj' : j < ds.length := by omega
    subst e
    simp only [List.getElem_zip] at a1 a2
    have hsj := (shared_iff hl hj').2 a2
    rcases Nat.lt_trichotomy j i with hh | hh | hh
    · exact absurd hsj (hn j hh)
    · subst hh; exact a1.symm
    · have := a3 _ hi' rfl (by simpa only [List.getElem_zip] using (shared_iff hl hi).1 hs)
      simp only [List.getElem_zip] at this
      rw [← a1, asc_less hA hh (by omega)] at this
      cases this

theorem none_least {zs ds : List ByteArray} (hl : zs.length = ds.length) {f : ByteArray} (h : Least (zs.zip ds) f) (hn : ∀ j, j < ds.length → ¬ Shared ds j) : f.toList.isEmpty = true := by
  have hz : (zs.zip ds).length = ds.length := by simp [hl]
  rcases h with ⟨hf0, h⟩ | ⟨_, p, hp, a1, a2, a3⟩
  · exact hf0
  · obtain ⟨j, hj, e⟩ := List.mem_iff_getElem.1 hp
    have hj' : j < ds.length := by omega
    subst e
    simp only [List.getElem_zip] at a2
    exact absurd ((shared_iff hl hj').2 a2) (hn j hj')

end Go.Proofs.Qxb6600077aMods
