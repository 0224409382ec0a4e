/- THE MODEL's TEXT, PLAIN: digit place by digit place, and that it is the text that Append writes. -/
import Derived.Test.Qxb6000083aModsLaw
namespace Go.Proofs.Qxb6000083aMods.Num

/-- The digit at index k, '0' outside. -/
def ch (d : List UInt8) (k : Int) : UInt8 := if 0 ≤ k ∧ k < d.length then d.getD k.toNat 48 else 48

def chars (d : List UInt8) : Int → Nat → List UInt8
  | _, 0 => []
  | q, m + 1 => ch d q :: chars d (q + 1) m

/-- m places from p downward. -/
def mt (d : List UInt8) (x : Int) : Int → Nat → List UInt8
  | _, 0 => []
  | p, m + 1 => (if p = -1 then [46] else []) ++ [ch d (x - p)] ++ mt d x (p - 1) m

theorem mt_add (d : List UInt8) (x : Int) : ∀ (a b : Nat) (p : Int), mt d x p (a + b) = mt d x p a ++ mt d x (p - a) b
  | 0, b, p => by simp [mt]
  | a + 1, b, p => by
    have e : a + 1 + b = (a + b) + 1 := by omega
    have e2 : p - 1 - (a : Int) = p - ((a + 1 : Nat) : Int) := by omega
    rw [e, mt, mt, mt_add d x a b (p - 1), e2]
    simp [List.append_assoc]

theorem mt_snoc (d : List UInt8) (x p : Int) (m : Nat) : mt d x p (m + 1) = mt d x p m ++ ((if p - m = -1 then [46] else []) ++ [ch d (x - (p - m))]) := by
  rw [mt_add]; simp [mt]

theorem chars_add (d : List UInt8) : ∀ (a b : Nat) (q : Int), chars d q (a + b) = chars d q a ++ chars d (q + a) b
  | 0, b, q => by simp [chars]
  | a + 1, b, q => by
    have e : a + 1 + b = (a + b) + 1 := by omega
    have e2 : q + 1 + (a : Int) = q + ((a + 1 : Nat) : Int) := by omega
    rw [e, chars, chars, chars_add d a b (q + 1), e2]
    rfl

theorem mt_high (d : List UInt8) (x : Int) : ∀ (m : Nat) (p : Int), (m : Int) ≤ p + 1 → mt d x p m = chars d (x - p) m
  | 0, _, _ => rfl
  | m + 1, p, h => by
    have e : x - (p - 1) = x - p + 1 := by omega
    rw [mt, chars, if_neg (by omega), mt_high d x m (p - 1) (by omega), e]
    rfl

theorem mt_low (d : List UInt8) (x : Int) : ∀ (m : Nat) (p : Int), p < -1 → mt d x p m = chars d (x - p) m
  | 0, _, _ => rfl
  | m + 1, p, h => by
    have e : x - (p - 1) = x - p + 1 := by omega
    rw [mt, chars, if_neg (by omega), mt_low d x m (p - 1) (by omega), e]
    rfl

theorem mt_point (d : List UInt8) (x : Int) (m : Nat) : mt d x (-1) (m + 1) = 46 :: chars d (x + 1) (m + 1) := by
  have e : x - -1 = x + 1 := by omega
  have e2 : x - (-1 - 1) = x + 1 + 1 := by omega
  rw [mt, chars, if_pos rfl, mt_low d x m (-1 - 1) (by omega), e, e2]
  rfl

theorem chars_neg (d : List UInt8) : ∀ (m : Nat) (q : Int), q + m ≤ 0 → chars d q m = List.replicate m 48
  | 0, _, _ => rfl
  | m + 1, q, h => by
    rw [chars, chars_neg d m (q + 1) (by omega), ch, if_neg (by omega)]; rfl

theorem chars_past (d : List UInt8) : ∀ (m : Nat) (q : Int), (d.length : Int) ≤ q → chars d q m = List.replicate m 48
  | 0, _, _ => rfl
  | m + 1, q, h => by
    rw [chars, chars_past d m (q + 1) (by omega), ch, if_neg (by omega)]; rfl

theorem chars_in (d : List UInt8) : ∀ (m k : Nat), k + m ≤ d.length → chars d k m = (d.drop k).take m
  | 0, _, _ => by simp [chars]
  | m + 1, k, h => by
    have e : (k : Int) + 1 = ((k + 1 : Nat) : Int) := by omega
    rw [chars, e, chars_in d m (k + 1) (by omega), ch, if_pos (by omega), Int.toNat_natCast, List.drop_eq_getElem_cons (i := k) (show k < d.length by omega), List.take_succ_cons]
    congr 1
    rw [List.getD_eq_getElem?_getD, List.getElem?_eq_getElem (by omega)]
    rfl

/-- The model's body: from the highest place down to the lowest. -/
def body (d : List UInt8) (x : Int) : List UInt8 := mt d x (if x < 0 then 0 else x) ((if x < 0 then 0 else x) - (if 0 < x - d.length + 1 then 0 else x - d.length + 1) + 1).toNat

theorem body_app (neg : Bool) (d : List UInt8) (x : Int) (hd : d ≠ []) : (if neg then [45] else []) ++ body d x = app neg d x := by
  have hD : 0 < d.length := List.length_pos_iff.2 hd
  rw [app, if_neg hd]
  congr 1
  unfold body
  by_cases hx : x < 0
  · rw [if_pos hx, if_pos hx, if_neg (by omega)]
    have e : (0 - (x - d.length + 1) + 1).toNat = 1 + (((-x - 1).toNat + (d.length - 1)) + 1) := by omega
    rw [e, mt_add, mt_high d x 1 0 (by omega)]
    have e1 : (0 : Int) - ((1 : Nat) : Int) = -1 := by omega
    have e2 : ((-x - 1).toNat + (d.length - 1)) + 1 = (-x - 1).toNat + d.length := by omega
    rw [e1, mt_point, e2, chars_add, chars_neg d _ _ (by omega), chars_neg d _ _ (by omega)]
    have e3 : x + 1 + ((-x - 1).toNat : Int) = ((0 : Nat) : Int) := by omega
    rw [e3, chars_in d _ 0 (by omega), List.drop_zero, List.take_length]
    rfl
  · rw [if_neg hx, if_neg hx]
    obtain ⟨k, hk⟩ : ∃ k : Nat, x = k := ⟨x.toNat, by omega⟩
    subst hk
    by_cases hw : (k : Int) + 1 < (d.length : Int)
    · rw [if_pos hw, if_neg (by omega)]
      have e : ((k : Int) - ((k : Int) - d.length + 1) + 1).toNat = (k + 1) + ((d.length - (k + 1) - 1) + 1) := by omega
      have e1 : (k : Int) - ((k + 1 : Nat) : Int) = -1 := by omega
      have e2 : (d.length - (k + 1) - 1) + 1 = d.length - (k + 1) := by omega
      have e3 : (k : Int) - (k : Int) = ((0 : Nat) : Int) := by omega
      have e4 : (k : Int) + 1 = ((k + 1 : Nat) : Int) := by omega
      have e5 : ((k : Int) + 1).toNat = k + 1 := by omega
      rw [e, mt_add, mt_high d _ (k + 1) k (by omega), e1, mt_point, e2, e3, e5, e4, chars_in d _ 0 (by omega), chars_in d _ (k + 1) (by omega), List.drop_zero]
      rw [List.take_of_length_le (i := d.length - (k + 1)) (by rw [List.length_drop]; omega)]
      simp
    · rw [if_neg hw]
      have e : ((k : Int) - (if 0 < (k : Int) - d.length + 1 then 0 else (k : Int) - d.length + 1) + 1).toNat = d.length + ((k : Int) + 1 - d.length).toNat := by
        by_cases h : 0 < (k : Int) - d.length + 1
        · rw [if_pos h]; omega
        · rw [if_neg h]; omega
      have e3 : (k : Int) - (k : Int) = ((0 : Nat) : Int) := by omega
      rw [e, mt_high d _ _ k (by omega), e3, chars_add, chars_in d _ 0 (by omega), chars_past d _ _ (by omega), List.drop_zero, List.take_length]
end Go.Proofs.Qxb6000083aMods.Num
