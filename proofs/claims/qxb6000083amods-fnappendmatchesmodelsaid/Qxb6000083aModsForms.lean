import Derived.Test.Qxb6000083aModsPlain
import Derived.WalkKit
namespace Go.Proofs.Qxb6000083aMods
open Go.RowKit


/-- A byte of the text, as the list has it. -/
theorem at_list (s : ByteArray) (k : Nat) (h : k < s.size) : s.data.toList.drop k = s[k] :: s.data.toList.drop (k + 1) := by
  have : k < s.data.toList.length := by simpa using h
  rw [List.drop_eq_getElem_cons this]; rfl

theorem sg_none (s : ByteArray) (h : ¬ 0 < s.size) : Num.sg s.data.toList = (false, 0) := by
  have : s.data.toList = [] := by
    apply List.eq_nil_of_length_eq_zero
    have : s.data.toList.length = s.size := by simp
    omega
  rw [this]; rfl

theorem sg_at (s : ByteArray) (h : 0 < s.size) : Num.sg s.data.toList = if (s[0].toNat : Int) = 43 then (false, 1) else if (s[0].toNat : Int) = 45 then (true, 1) else (false, 0) := by
  have e := at_list s 0 h
  rw [List.drop_zero] at e
  rw [e]
  have h43 : (s[0] = 43) = ((s[0].toNat : Int) = 43) := by rw [← UInt8.toNat_inj]; simp; omega
  have h45 : (s[0] = 45) = ((s[0].toNat : Int) = 45) := by rw [← UInt8.toNat_inj]; simp; omega
  simp only [Num.sg, h43, h45]


theorem sg_cases (s : ByteArray) : (Num.sg s.data.toList = (false, 0)) ∨ (∃ h : 0 < s.size, Num.sg s.data.toList = (((s[0].toNat : Int) == 45), 1)) := by
  by_cases h : 0 < s.size
  · rw [sg_at s h]
    by_cases h1 : (s[0].toNat : Int) = 43
    · exact Or.inr ⟨h, by simp [h1]⟩
    · by_cases h2 : (s[0].toNat : Int) = 45
      · exact Or.inr ⟨h, by simp [h2]⟩
      · exact Or.inl (by simp [h1, h2])
  · exact Or.inl (sg_none s h)

theorem sgB_at (s : ByteArray) (h : 0 < s.size) (h1 : ¬ (s[0].toNat : Int) = 43) : ((Num.sg s.data.toList).2 == 1) = ((s[0].toNat : Int) == 45) := by
  rw [sg_at s h, if_neg h1]
  by_cases h2 : (s[0].toNat : Int) = 45 <;> simp [h2]


theorem scan_at (s : ByteArray) (k : Nat) (h : k < s.size) (P F L : Int) : Num.scan (s.data.toList.drop k) k P F L =
    if (s[k].toNat : Int) = 46 ∧ P < 0 then Num.scan (s.data.toList.drop (k + 1)) ((k + 1 : Nat) : Int) k F L
    else if (s[k].toNat : Int) < 48 ∨ 57 < (s[k].toNat : Int) then (k, P, F, L)
    else if (s[k].toNat : Int) = 48 then Num.scan (s.data.toList.drop (k + 1)) ((k + 1 : Nat) : Int) P F L
    else Num.scan (s.data.toList.drop (k + 1)) ((k + 1 : Nat) : Int) P (if F < 0 then (k : Int) else F) k := by
  rw [at_list s k h]
  generalize s[k] = c
  have h46 : (c = 46) = ((c.toNat : Int) = 46) := by rw [← UInt8.toNat_inj]; simp; omega
  have h48 : (c = 48) = ((c.toNat : Int) = 48) := by rw [← UInt8.toNat_inj]; simp; omega
  have hlt : (c < 48) = ((c.toNat : Int) < 48) := by rw [UInt8.lt_iff_toNat_lt]; simp; omega
  have hgt : (57 < c) = (57 < (c.toNat : Int)) := by rw [UInt8.lt_iff_toNat_lt]; simp; omega
  rw [Num.scan]
  simp only [h46, h48, hlt, hgt, Int.natCast_add, Int.cast_ofNat_Int]

theorem scan_end (s : ByteArray) (k : Nat) (h : ¬ k < s.size) (P F L : Int) : Num.scan (s.data.toList.drop k) k P F L = ((k : Int), P, F, L) := by
  rw [List.drop_eq_nil_of_le (by simp; omega)]; rfl

/-- What the scan leaves. -/
def After (s : ByteArray) (st k : Nat) (P F L : Int) : Prop :=
  Num.scan (s.data.toList.drop st) st (-1) (-1) (-1) = ((k : Int), P, F, L)


/-- Is there an exponent's letter at k? -/
def isE (s : ByteArray) (k : Nat) : Bool := if h : k < s.size then ((s[k].toNat : Int) == 101) || ((s[k].toNat : Int) == 69) else false

theorem isE_at (s : ByteArray) (k : Nat) (h : k < s.size) : isE s k = (((s[k].toNat : Int) == 101) || ((s[k].toNat : Int) == 69)) := by simp [isE, h]
theorem isE_end (s : ByteArray) (k : Nat) (h : ¬ k < s.size) : isE s k = false := by simp [isE, h]

def tailE : List UInt8 → Option Int
  | [] => none
  | d :: ds => if d = 45 then (if ds = [] then none else (Num.expo ds 0).map (fun x => -x)) else if d = 43 then (if ds = [] then none else Num.expo ds 0) else Num.expo (d :: ds) 0

theorem te_end (s : ByteArray) (k : Nat) (h : ¬ k < s.size) : Num.tailExp (s.data.toList.drop k) = some 0 := by
  rw [List.drop_eq_nil_of_le (by simp; omega)]; rfl

theorem te_at (s : ByteArray) (k : Nat) (h : k < s.size) : Num.tailExp (s.data.toList.drop k) = if isE s k then tailE (s.data.toList.drop (k + 1)) else none := by
  rw [at_list s k h, isE_at s k h]
  generalize s[k] = c
  have h1 : (c = 101) = ((c.toNat : Int) = 101) := by rw [← UInt8.toNat_inj]; simp; omega
  have h2 : (c = 69) = ((c.toNat : Int) = 69) := by rw [← UInt8.toNat_inj]; simp; omega
  have e : (c = 101 ∨ c = 69) = ((((c.toNat : Int) == 101) || ((c.toNat : Int) == 69)) = true) := by rw [h1, h2]; simp
  unfold Num.tailExp
  simp only [e]
  generalize s.data.toList.drop (k + 1) = cs
  cases cs <;> rfl

theorem tailE_end (s : ByteArray) (k : Nat) (h : ¬ k < s.size) : tailE (s.data.toList.drop k) = none := by
  rw [List.drop_eq_nil_of_le (by simp; omega)]; rfl

theorem tailE_at (s : ByteArray) (k : Nat) (h : k < s.size) : tailE (s.data.toList.drop k) =
    if (s[k].toNat : Int) = 45 then (if k + 1 < s.size then (Num.expo (s.data.toList.drop (k + 1)) 0).map (fun x => -x) else none)
    else if (s[k].toNat : Int) = 43 then (if k + 1 < s.size then Num.expo (s.data.toList.drop (k + 1)) 0 else none)
    else Num.expo (s.data.toList.drop k) 0 := by
  have hd : (s.data.toList.drop (k + 1) = []) = ¬ (k + 1 < s.size) := by
    rw [List.drop_eq_nil_iff]; simp
  rw [at_list s k h]
  simp only [tailE, hd]
  generalize s[k] = c
  have h1 : (c = 45) = ((c.toNat : Int) = 45) := by rw [← UInt8.toNat_inj]; simp; omega
  have h2 : (c = 43) = ((c.toNat : Int) = 43) := by rw [← UInt8.toNat_inj]; simp; omega
  simp only [h1, h2, ite_not]

theorem expo_end (s : ByteArray) (k : Nat) (h : ¬ k < s.size) (x : Int) : Num.expo (s.data.toList.drop k) x = some x := by
  rw [List.drop_eq_nil_of_le (by simp; omega)]; rfl

theorem expo_at (s : ByteArray) (k : Nat) (h : k < s.size) (x : Int) : Num.expo (s.data.toList.drop k) x =
    if (s[k].toNat : Int) < 48 ∨ 57 < (s[k].toNat : Int) then none else Num.expo (s.data.toList.drop (k + 1)) (if x < 100000000 then x * 10 + ((s[k].toNat : Int) - 48) else x) := by
  rw [at_list s k h]
  generalize s[k] = c
  have hlt : (c < 48) = ((c.toNat : Int) < 48) := by rw [UInt8.lt_iff_toNat_lt]; simp; omega
  have hgt : (57 < c) = (57 < (c.toNat : Int)) := by rw [UInt8.lt_iff_toNat_lt]; simp; omega
  rw [Num.expo]
  simp only [hlt, hgt]

theorem te_not (s : ByteArray) (k : Nat) (hk : k ≤ s.size) (h : isE s k = false) : (k = s.size ∧ Num.tailExp (s.data.toList.drop k) = some 0) ∨ (k < s.size ∧ Num.tailExp (s.data.toList.drop k) = none) := by
  by_cases hlt : k < s.size
  · exact Or.inr ⟨hlt, by rw [te_at s k hlt, h]; rfl⟩
  · exact Or.inl ⟨by omega, te_end s k hlt⟩

theorem ret_num {l : List UInt8} {r : Num.N} (h : Num.rd l = r) : Ending.returned (.tuple #[.agg #[.bool r.neg, .string ⟨r.dig.toArray⟩, .int .i64 r.ex], .bool r.ok]) =
    Ending.returned (.tuple #[.agg #[.bool (Num.rd l).neg, .string ⟨(Num.rd l).dig.toArray⟩, .int .i64 (Num.rd l).ex], .bool (Num.rd l).ok]) := by rw [h]

theorem rd_bad {s : ByteArray} {ng : Bool} {st k : Nat} {P F L : Int} (hsg : Num.sg s.data.toList = (ng, st)) (ha : After s st k P F L) (h : (k : Int) - st = 0 ∨ (k : Int) - st = 1 ∧ P = st) : Num.rd s.data.toList = ⟨false, [], 0, false⟩ := by
  unfold After at ha
  unfold Num.rd Num.rdWith
  rw [hsg]; simp only []; rw [ha]; simp only []
  rw [if_pos h]

theorem rd_some {s : ByteArray} {ng : Bool} {st k : Nat} {P F L x : Int} (hsg : Num.sg s.data.toList = (ng, st)) (ha : After s st k P F L) (h : ¬ ((k : Int) - st = 0 ∨ (k : Int) - st = 1 ∧ P = st))
    (ht : Num.tailExp (s.data.toList.drop k) = some x) : Num.rd s.data.toList = Num.fin s.data.toList ng x k P F L := by
  unfold After at ha
  unfold Num.rd Num.rdWith
  rw [hsg]; simp only []; rw [ha]; simp only [Int.toNat_natCast]
  rw [if_neg h, ht]

theorem rd_none {s : ByteArray} {ng : Bool} {st k : Nat} {P F L : Int} (hsg : Num.sg s.data.toList = (ng, st)) (ha : After s st k P F L) (h : ¬ ((k : Int) - st = 0 ∨ (k : Int) - st = 1 ∧ P = st))
    (ht : Num.tailExp (s.data.toList.drop k) = none) : Num.rd s.data.toList = ⟨false, [], 0, false⟩ := by
  unfold After at ha
  unfold Num.rd Num.rdWith
  rw [hsg]; simp only []; rw [ha]; simp only [Int.toNat_natCast]
  rw [if_neg h, ht]


theorem ret_eq {l : List UInt8} {r : Num.N} (h : Num.rd l = r) {d : ByteArray} (hd : (⟨r.dig.toArray⟩ : ByteArray) = d) : Ending.returned (.tuple #[.agg #[.bool r.neg, .string d, .int .i64 r.ex], .bool r.ok]) =
    Ending.returned (.tuple #[.agg #[.bool (Num.rd l).neg, .string ⟨(Num.rd l).dig.toArray⟩, .int .i64 (Num.rd l).ex], .bool (Num.rd l).ok]) := by rw [h, hd]

theorem dig_one (s : ByteArray) (F L : Int) : (⟨(Num.cut s.data.toList F (L + 1)).toArray⟩ : ByteArray) = s.extract F.toNat (L + 1).toNat := by
  apply ByteArray.ext
  apply Array.toList_inj.1
  simp [Num.cut, List.extract_eq_take_drop]

theorem dig_two (s : ByteArray) (F p L : Int) : (⟨(Num.cut s.data.toList F p ++ Num.cut s.data.toList (p + 1) (L + 1)).toArray⟩ : ByteArray) = s.extract F.toNat p.toNat ++ s.extract (p + 1).toNat (L + 1).toNat := by
  apply ByteArray.ext
  apply Array.toList_inj.1
  simp [Num.cut, List.extract_eq_take_drop]

theorem fin_both {l : List UInt8} {ng : Bool} {x k P F L p : Int} (hF : 0 ≤ F) (hp : p = if P < 0 then k else P) (h1 : F < p) (h2 : p < L) : Num.fin l ng x k P F L = ⟨ng, Num.cut l F p ++ Num.cut l (p + 1) (L + 1), x + p - F - 1, true⟩ := by
  rw [Num.fin, if_neg (by omega), ← hp, if_pos ⟨h1, h2⟩, if_pos h1]
theorem fin_lt {l : List UInt8} {ng : Bool} {x k P F L p : Int} (hF : 0 ≤ F) (hp : p = if P < 0 then k else P) (h1 : F < p) (h2 : L ≤ p) : Num.fin l ng x k P F L = ⟨ng, Num.cut l F (L + 1), x + p - F - 1, true⟩ := by
  rw [Num.fin, if_neg (by omega), ← hp, if_neg (by omega), if_pos h1]
theorem fin_ge {l : List UInt8} {ng : Bool} {x k P F L p : Int} (hF : 0 ≤ F) (hp : p = if P < 0 then k else P) (h1 : p ≤ F) : Num.fin l ng x k P F L = ⟨ng, Num.cut l F (L + 1), x + p - F, true⟩ := by
  rw [Num.fin, if_neg (by omega), ← hp, if_neg (by omega), if_neg (by omega)]

end Go.Proofs.Qxb6000083aMods
