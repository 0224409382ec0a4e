/- THE PLAIN LAWS: what is read is canonical; what Append writes of a canonical number reads back as that number. No Go in sight. -/
import Derived.Test.Qxb6000083aModsPlain
namespace Go.Proofs.Qxb6000083aMods.Num

def isD (c : UInt8) : Prop := 48 ≤ c ∧ c ≤ 57

structure Canon (neg : Bool) (d : List UInt8) (x : Int) : Prop where
  zero : d = [] → neg = false ∧ x = 0
  dig : ∀ c ∈ d, isD c
  head : d.head? ≠ some 48
  last : d.getLast? ≠ some 48

/-- The plain decimal text. -/
def app (neg : Bool) (d : List UInt8) (x : Int) : List UInt8 :=
  if d = [] then [48]
  else (if neg then [45] else []) ++
    (if x < 0 then [48, 46] ++ List.replicate (-x - 1).toNat 48 ++ d
     else if x + 1 < (d.length : Int) then d.take (x + 1).toNat ++ [46] ++ d.drop (x + 1).toNat
     else d ++ List.replicate (x + 1 - d.length).toNat 48)

/-! ### The scan over digits -/
def fst : List UInt8 → Int → Int → Int
  | [], _, f => f
  | c :: cs, i, f => if c = 48 then fst cs (i + 1) f else fst cs (i + 1) (if f < 0 then i else f)

def lst : List UInt8 → Int → Int → Int
  | [], _, l => l
  | c :: cs, i, l => if c = 48 then lst cs (i + 1) l else lst cs (i + 1) i

theorem isD_not_dot {c : UInt8} (h : isD c) : ¬ c = 46 := by
  rintro rfl; exact absurd h.1 (by decide)
theorem isD_in {c : UInt8} (h : isD c) : ¬ (c < 48 ∨ 57 < c) := by
  rintro (h1 | h1)
  · exact absurd h.1 (UInt8.not_le.2 h1)
  · exact absurd h.2 (UInt8.not_le.2 h1)

theorem scan_digits : ∀ (ds rest : List UInt8) (i p f l : Int), (∀ c ∈ ds, isD c) → scan (ds ++ rest) i p f l = scan rest (i + ds.length) p (fst ds i f) (lst ds i l)
  | [], rest, i, p, f, l, _ => by simp [fst, lst]
  | c :: cs, rest, i, p, f, l, h => by
    have hc := h c (by simp)
    have ih := fun f l => scan_digits cs rest (i + 1) p f l (fun a ha => h a (by simp [ha]))
    have e : i + 1 + (cs.length : Int) = i + ((c :: cs).length : Int) := by simp; omega
    rw [List.cons_append, scan, if_neg (fun a => isD_not_dot hc a.1), if_neg (isD_in hc)]
    by_cases h48 : c = 48
    · rw [if_pos h48, ih, e, fst, lst, if_pos h48, if_pos h48]
    · rw [if_neg h48, ih, e, fst, lst, if_neg h48, if_neg h48]

theorem fst_keep : ∀ (ds : List UInt8) (i f : Int), 0 ≤ f → fst ds i f = f
  | [], _, _, _ => rfl
  | c :: cs, i, f, h => by
    have e : (if f < 0 then i else f) = f := if_neg (by omega)
    rw [fst, e]
    by_cases h48 : c = 48
    · rw [if_pos h48, fst_keep cs _ f h]
    · rw [if_neg h48, fst_keep cs _ f h]

theorem fst_head (ds : List UInt8) (i : Int) (hi : 0 ≤ i) (hne : ds ≠ []) (h : ds.head? ≠ some 48) : fst ds i (-1) = i := by
  cases ds with
  | nil => exact absurd rfl hne
  | cons c cs =>
    have h48 : ¬ c = 48 := by rintro rfl; exact h rfl
    rw [fst, if_neg h48, if_pos (by omega), fst_keep cs _ i hi]

theorem lst_last : ∀ (ds : List UInt8) (i l : Int), ds ≠ [] → ds.getLast? ≠ some 48 → lst ds i l = i + ds.length - 1
  | [], _, _, h, _ => absurd rfl h
  | [c], i, l, _, h => by
    have h48 : ¬ c = 48 := by rintro rfl; exact h rfl
    simp [lst, h48]
  | c :: b :: cs, i, l, _, h => by
    have ih := fun l => lst_last (b :: cs) (i + 1) l (by simp) (by simpa using h)
    rw [lst, ih, ih]
    simp
    omega

theorem lst_zeros : ∀ (m : Nat) (i l : Int), lst (List.replicate m 48) i l = l
  | 0, _, _ => rfl
  | m + 1, i, l => by rw [List.replicate_succ, lst, if_pos rfl, lst_zeros m]
theorem fst_zeros : ∀ (m : Nat) (i f : Int), fst (List.replicate m 48) i f = f
  | 0, _, _ => rfl
  | m + 1, i, l => by rw [List.replicate_succ, fst, if_pos rfl, fst_zeros m]
theorem dig_zeros (m : Nat) : ∀ c ∈ List.replicate m (48 : UInt8), isD c := by
  intro c hc
  rw [List.mem_replicate] at hc
  rw [hc.2]; exact ⟨by decide, by decide⟩

theorem sg_dig (c : UInt8) (cs : List UInt8) (h : isD c) : sg (c :: cs) = (false, 0) := by
  have h1 : ¬ c = 43 := by rintro rfl; exact absurd h.1 (by decide)
  have h2 : ¬ c = 45 := by rintro rfl; exact absurd h.1 (by decide)
  simp [sg, h1, h2]

/-- The scan of a body's three forms, begun at st. -/
theorem scan_low (d : List UInt8) (m : Nat) (st : Nat) (hd : ∀ c ∈ d, isD c) (hne : d ≠ []) (hh : d.head? ≠ some 48) (hl : d.getLast? ≠ some 48) :
    scan ([48, 46] ++ List.replicate m 48 ++ d) st (-1) (-1) (-1) = ((st : Int) + 2 + m + d.length, (st : Int) + 1, (st : Int) + 2 + m, (st : Int) + 2 + m + d.length - 1) := by
  have e1 : [48, 46] ++ List.replicate m 48 ++ d = [48] ++ (46 :: (List.replicate m 48 ++ (d ++ []))) := by simp
  rw [e1, scan_digits [48] _ _ _ _ _ (by intro c hc; simp at hc; subst hc; exact ⟨by decide, by decide⟩)]
  rw [scan, if_pos ⟨rfl, by decide⟩, scan_digits _ _ _ _ _ _ (dig_zeros m), fst_zeros, lst_zeros, scan_digits d _ _ _ _ _ hd]
  simp only [fst, lst, if_true, List.length_cons, List.length_nil, List.length_replicate, scan]
  rw [fst_head d _ (by omega) hne hh, lst_last d _ _ hne hl]
  simp
  omega

theorem scan_mid (a b : List UInt8) (st : Nat) (ha : ∀ c ∈ a, isD c) (hb : ∀ c ∈ b, isD c) (hna : a ≠ []) (hnb : b ≠ []) (hh : a.head? ≠ some 48) (hl : b.getLast? ≠ some 48) :
    scan (a ++ [46] ++ b) st (-1) (-1) (-1) = ((st : Int) + a.length + 1 + b.length, (st : Int) + a.length, (st : Int), (st : Int) + a.length + 1 + b.length - 1) := by
  have e1 : a ++ [46] ++ b = a ++ (46 :: (b ++ [])) := by simp
  rw [e1, scan_digits a _ _ _ _ _ ha, scan, if_pos ⟨rfl, by decide⟩, scan_digits b _ _ _ _ _ hb, fst_head a _ (by omega) hna hh, fst_keep b _ _ (by omega), lst_last b _ _ hnb hl]
  simp only [scan]

theorem scan_high (d : List UInt8) (m : Nat) (st : Nat) (hd : ∀ c ∈ d, isD c) (hne : d ≠ []) (hh : d.head? ≠ some 48) (hl : d.getLast? ≠ some 48) :
    scan (d ++ List.replicate m 48) st (-1) (-1) (-1) = ((st : Int) + d.length + m, -1, (st : Int), (st : Int) + d.length - 1) := by
  have e1 : d ++ List.replicate m 48 = d ++ (List.replicate m 48 ++ []) := by simp
  rw [e1, scan_digits d _ _ _ _ _ hd, scan_digits _ _ _ _ _ _ (dig_zeros m), fst_zeros, lst_zeros, fst_head d _ (by omega) hne hh, lst_last d _ _ hne hl]
  simp [scan]

theorem cut_mid (pre d post : List UInt8) (i j : Int) (hi : i = pre.length) (hj : j = pre.length + d.length) : cut (pre ++ d ++ post) i j = d := by
  have h1 : i.toNat = pre.length := by omega
  have h2 : j.toNat - i.toNat = d.length := by omega
  rw [cut, h2, h1, List.append_assoc, List.drop_left, List.take_left]

/-- From the scan of the body to the reading of the whole text. -/
theorem rd_of (l : List UInt8) (ng : Bool) (st : Nat) (e p f la : Int) (hsg : sg l = (ng, st)) (hsc : scan (l.drop st) st (-1) (-1) (-1) = (e, p, f, la)) (hne : ¬ (e - st = 0 ∨ e - st = 1 ∧ p = st)) (hend : e = l.length) :
    rd l = fin l ng 0 e p f la := by
  unfold rd rdWith
  rw [hsg]; simp only []; rw [hsc]; simp only []
  rw [if_neg hne, List.drop_eq_nil_of_le (by omega)]
  rfl

theorem sg_signed (neg : Bool) (b : List UInt8) (c : UInt8) (cs : List UInt8) (hb : b = c :: cs) (hc : isD c) :
    ∃ st : Nat, sg ((if neg then [45] else []) ++ b) = (neg, st) ∧ ((if neg then [45] else []) ++ b).drop st = b ∧ (if neg then [45] else [] : List UInt8).length = st := by
  cases neg with
  | true => exact ⟨1, by simp [sg], by simp, rfl⟩
  | false => exact ⟨0, by subst hb; exact sg_dig c cs hc, by simp, rfl⟩

theorem rd_app (neg : Bool) (d : List UInt8) (x : Int) (h : Canon neg d x) : rd (app neg d x) = ⟨neg, d, x, true⟩ := by
  by_cases hd : d = []
  · obtain ⟨rfl, rfl⟩ := h.zero hd
    subst hd
    rfl
  · have hD : 0 < d.length := List.length_pos_iff.2 hd
    obtain ⟨d0, ds, hds⟩ : ∃ c cs, d = c :: cs := by cases d with | nil => exact absurd rfl hd | cons c cs => exact ⟨c, cs, rfl⟩
    have hd0 : isD d0 := h.dig d0 (by rw [hds]; simp)
    by_cases hx : x < 0
    · have ea : app neg d x = (if neg then [45] else []) ++ ([48, 46] ++ List.replicate (-x - 1).toNat 48 ++ d) := by rw [app, if_neg hd, if_pos hx]
      obtain ⟨st, hsg, hdrop, hlen⟩ := sg_signed neg ([48, 46] ++ List.replicate (-x - 1).toNat 48 ++ d) 48 (46 :: (List.replicate (-x - 1).toNat 48 ++ d)) (by simp) ⟨by decide, by decide⟩
      rw [← ea] at hsg hdrop
      have hsc := scan_low d (-x - 1).toNat st h.dig hd h.head h.last
      rw [← hdrop] at hsc
      have hL : (app neg d x).length = st + 2 + (-x - 1).toNat + d.length := by rw [ea]; simp only [List.length_append, hlen, List.length_replicate, List.length_cons, List.length_nil]; omega
      rw [rd_of _ _ _ _ _ _ _ hsg hsc (by omega) (by rw [hL]; omega), fin, if_neg (by omega)]
      have e1 : (if (st : Int) + 1 < 0 then (st : Int) + 2 + ((-x - 1).toNat : Int) + d.length else (st : Int) + 1) = (st : Int) + 1 := if_neg (by omega)
      rw [e1, if_neg (by omega), if_neg (by omega)]
      have hc : cut (app neg d x) ((st : Int) + 2 + ((-x - 1).toNat : Int)) ((st : Int) + 2 + ((-x - 1).toNat : Int) + d.length - 1 + 1) = d := by
        have ep : app neg d x = ((if neg then [45] else []) ++ ([48, 46] ++ List.replicate (-x - 1).toNat 48)) ++ d ++ [] := by rw [ea]; simp
        rw [ep]
        exact cut_mid _ d [] _ _ (by simp only [List.length_append, hlen, List.length_replicate, List.length_cons, List.length_nil]; omega) (by simp only [List.length_append, hlen, List.length_replicate, List.length_cons, List.length_nil]; omega)
      rw [hc]
      congr 1
      omega
    · by_cases hw : x + 1 < (d.length : Int)
      · have ea : app neg d x = (if neg then [45] else []) ++ (d.take (x + 1).toNat ++ [46] ++ d.drop (x + 1).toNat) := by rw [app, if_neg hd, if_neg hx, if_pos hw]
        obtain ⟨k, hk⟩ : ∃ k : Nat, x = k := ⟨x.toNat, by omega⟩
        subst hk
        have hk1 : ((k : Int) + 1).toNat = k + 1 := by omega
        rw [hk1] at ea
        have et : d.take (k + 1) = d0 :: ds.take k := by rw [hds]; rfl
        obtain ⟨st, hsg, hdrop, hlen⟩ := sg_signed neg (d.take (k + 1) ++ [46] ++ d.drop (k + 1)) d0 (ds.take k ++ [46] ++ d.drop (k + 1)) (by rw [et]; simp) hd0
        rw [← ea] at hsg hdrop
        have lt : (d.take (k + 1)).length = k + 1 := by rw [List.length_take]; omega
        have ld : (d.drop (k + 1)).length = d.length - (k + 1) := List.length_drop
        have hsc := scan_mid (d.take (k + 1)) (d.drop (k + 1)) st (fun c hc => h.dig c (List.mem_of_mem_take hc)) (fun c hc => h.dig c (List.mem_of_mem_drop hc)) (by rw [et]; simp) (by intro e; rw [e] at ld; simp at ld; omega)
          (by rw [et]; have := h.head; rw [hds] at this; exact this) (by rw [List.getLast?_drop, if_neg (by omega)]; exact h.last)
        rw [← hdrop, lt, ld] at hsc
        have hL : (app neg d k).length = st + (k + 1) + 1 + (d.length - (k + 1)) := by rw [ea]; simp only [List.length_append, hlen, lt, ld, List.length_cons, List.length_nil]; omega
        rw [rd_of _ _ _ _ _ _ _ hsg hsc (by omega) (by rw [hL]; omega), fin, if_neg (by omega)]
        have e1 : (if (st : Int) + ((k + 1 : Nat) : Int) < 0 then (st : Int) + ((k + 1 : Nat) : Int) + 1 + ((d.length - (k + 1) : Nat) : Int) else (st : Int) + ((k + 1 : Nat) : Int)) = (st : Int) + ((k + 1 : Nat) : Int) := if_neg (by omega)
        rw [e1, if_pos (by omega), if_pos (by omega)]
        have hc1 : cut (app neg d k) st ((st : Int) + ((k + 1 : Nat) : Int)) = d.take (k + 1) := by
          have ep : app neg d k = (if neg then [45] else []) ++ d.take (k + 1) ++ ([46] ++ d.drop (k + 1)) := by rw [ea]; simp
          rw [ep]
          exact cut_mid _ _ _ _ _ (by rw [hlen]) (by rw [hlen, lt])
        have hc2 : cut (app neg d k) ((st : Int) + ((k + 1 : Nat) : Int) + 1) ((st : Int) + ((k + 1 : Nat) : Int) + 1 + ((d.length - (k + 1) : Nat) : Int) - 1 + 1) = d.drop (k + 1) := by
          have ep : app neg d k = ((if neg then [45] else []) ++ d.take (k + 1) ++ [46]) ++ d.drop (k + 1) ++ [] := by rw [ea]; simp
          rw [ep]
          exact cut_mid _ _ _ _ _ (by simp only [List.length_append, hlen, lt, List.length_cons, List.length_nil]; omega) (by simp only [List.length_append, hlen, lt, ld, List.length_cons, List.length_nil]; omega)
        rw [hc1, hc2, List.take_append_drop]
        congr 1
        omega
      · have ea : app neg d x = (if neg then [45] else []) ++ (d ++ List.replicate (x + 1 - d.length).toNat 48) := by rw [app, if_neg hd, if_neg hx, if_neg hw]
        obtain ⟨st, hsg, hdrop, hlen⟩ := sg_signed neg (d ++ List.replicate (x + 1 - d.length).toNat 48) d0 (ds ++ List.replicate (x + 1 - d.length).toNat 48) (by rw [hds]; simp) hd0
        rw [← ea] at hsg hdrop
        have hsc := scan_high d (x + 1 - d.length).toNat st h.dig hd h.head h.last
        rw [← hdrop] at hsc
        have hL : (app neg d x).length = st + d.length + (x + 1 - d.length).toNat := by rw [ea]; simp only [List.length_append, hlen, List.length_replicate]; omega
        rw [rd_of _ _ _ _ _ _ _ hsg hsc (by omega) (by rw [hL]; omega), fin, if_neg (by omega)]
        have e1 : (if (-1 : Int) < 0 then (st : Int) + d.length + ((x + 1 - d.length).toNat : Int) else -1) = (st : Int) + d.length + ((x + 1 - d.length).toNat : Int) := if_pos (by omega)
        rw [e1, if_neg (by omega), if_pos (by omega)]
        have hc : cut (app neg d x) st ((st : Int) + d.length - 1 + 1) = d := by
          have ep : app neg d x = (if neg then [45] else []) ++ d ++ List.replicate (x + 1 - d.length).toNat 48 := by rw [ea]; simp
          rw [ep]
          exact cut_mid _ _ _ _ _ (by rw [hlen]) (by rw [hlen]; omega)
        rw [hc]
        congr 1
        omega

/-! ### What is read is canonical -/

/-- What the scan has met of l between st and k. -/
structure Met (l : List UInt8) (st : Nat) (k p f la : Int) : Prop where
  low : (st : Int) ≤ k
  len : k ≤ l.length
  p1 : -1 ≤ p
  p2 : p < k
  dig : ∀ j : Nat, (st : Int) ≤ j → (j : Int) < k → (j : Int) ≠ p → ∃ c, l[j]? = some c ∧ isD c
  none : f < 0 → f = -1
  some : 0 ≤ f → (st : Int) ≤ f ∧ f ≤ la ∧ la < k ∧ f ≠ p ∧ la ≠ p ∧ (∀ j : Nat, (j : Int) = f → l[j]? ≠ some 48) ∧ (∀ j : Nat, (j : Int) = la → l[j]? ≠ some 48)

theorem isD_of {c : UInt8} (h : ¬ (c < 48 ∨ 57 < c)) : isD c := by
  refine ⟨?_, ?_⟩
  · exact UInt8.not_lt.1 fun h1 => h (Or.inl h1)
  · exact UInt8.not_lt.1 fun h1 => h (Or.inr h1)

theorem met_step (l : List UInt8) (st k : Nat) (p f la p' f' la' : Int) (c : UInt8) (hc : l[k]? = some c) (h : Met l st k p f la)
    (hp : (p' = k ∧ p < 0) ∨ (p' = p ∧ isD c))
    (hf : (f' = f ∧ la' = la) ∨ (c ≠ 48 ∧ p' = p ∧ la' = k ∧ f' = if f < 0 then (k : Int) else f)) : Met l st (k + 1 : Nat) p' f' la' := by
  have hlt : k < l.length := by
    rcases Nat.lt_or_ge k l.length with h1 | h1
    · exact h1
    · rw [List.getElem?_eq_none h1] at hc; cases hc
  have hlow := h.low
  have hp1 := h.p1
  have hp2 := h.p2
  have hnone := h.none
  refine ⟨by omega, by omega, ?_, ?_, ?_, ?_, ?_⟩
  · rcases hp with ⟨e, _⟩ | ⟨e, _⟩ <;> omega
  · rcases hp with ⟨e, _⟩ | ⟨e, _⟩ <;> omega
  · intro j h1 h2 h3
    by_cases hj : j = k
    · subst hj
      rcases hp with ⟨e, _⟩ | ⟨e, hd⟩
      · omega
      · exact ⟨c, hc, hd⟩
    · exact h.dig j h1 (by omega) (by rcases hp with ⟨e, e2⟩ | ⟨e, _⟩ <;> omega)
  · intro h1
    rcases hf with ⟨e, _⟩ | ⟨_, _, _, e⟩
    · rw [e] at h1 ⊢; exact hnone h1
    · by_cases h2 : f < 0
      · rw [if_pos h2] at e; omega
      · rw [if_neg h2] at e; omega
  · intro h1
    rcases hf with ⟨e1, e2⟩ | ⟨h48, ep, el, e⟩
    · have hs := h.some (by omega)
      rw [e1, e2]
      refine ⟨hs.1, hs.2.1, by omega, ?_, ?_, hs.2.2.2.2.2.1, hs.2.2.2.2.2.2⟩
      · rcases hp with ⟨e, _⟩ | ⟨e, _⟩
        · omega
        · rw [e]; exact hs.2.2.2.1
      · rcases hp with ⟨e, _⟩ | ⟨e, _⟩
        · omega
        · rw [e]; exact hs.2.2.2.2.1
    · have hk48 : ∀ j : Nat, (j : Int) = k → l[j]? ≠ Option.some 48 := by
        intro j hj
        have : j = k := by omega
        subst this
        rw [hc]
        intro e3; injection e3 with e3; exact h48 e3
      by_cases h2 : f < 0
      · rw [if_pos h2] at e
        rw [e, el]
        exact ⟨by omega, by omega, by omega, by omega, by omega, hk48, hk48⟩
      · rw [if_neg h2] at e
        have hs := h.some (by omega)
        rw [e, el]
        exact ⟨hs.1, by omega, by omega, by rw [ep]; exact hs.2.2.2.1, by omega, hs.2.2.2.2.2.1, hk48⟩

theorem scan_met (l : List UInt8) (st : Nat) : ∀ (r : List UInt8) (k : Nat) (p f la : Int), l.drop k = r → Met l st k p f la →
    ∃ (e : Nat) (p' f' la' : Int), scan r k p f la = ((e : Int), p', f', la') ∧ Met l st e p' f' la'
  | [], k, p, f, la, _, h => ⟨k, p, f, la, rfl, h⟩
  | c :: cs, k, p, f, la, hr, h => by
    have hc : l[k]? = some c := by
      have : (l.drop k)[0]? = some c := by rw [hr]; rfl
      simpa using this
    have hr' : l.drop (k + 1) = cs := by
      have : (l.drop k).drop 1 = cs := by rw [hr]; rfl
      simpa using this
    have ec : ((k : Int) + 1) = ((k + 1 : Nat) : Int) := by omega
    rw [scan]
    by_cases h1 : c = 46 ∧ p < 0
    · rw [if_pos h1, ec]
      exact scan_met l st cs (k + 1) k f la hr' (met_step l st k p f la _ _ _ c hc h (Or.inl ⟨rfl, h1.2⟩) (Or.inl ⟨rfl, rfl⟩))
    · rw [if_neg h1]
      by_cases h2 : c < 48 ∨ 57 < c
      · rw [if_pos h2]
        exact ⟨k, p, f, la, rfl, h⟩
      · rw [if_neg h2]
        by_cases h3 : c = 48
        · rw [if_pos h3, ec]
          exact scan_met l st cs (k + 1) p f la hr' (met_step l st k p f la _ _ _ c hc h (Or.inr ⟨rfl, isD_of h2⟩) (Or.inl ⟨rfl, rfl⟩))
        · rw [if_neg h3, ec]
          exact scan_met l st cs (k + 1) p _ k hr' (met_step l st k p f la _ _ _ c hc h (Or.inr ⟨rfl, isD_of h2⟩) (Or.inr ⟨h3, rfl, rfl, rfl⟩))

theorem cut_get (l : List UInt8) (i j : Int) (hi : 0 ≤ i) (m : Nat) : (cut l i j)[m]? = if i + m < j then l[(i + m).toNat]? else none := by
  rw [cut, List.getElem?_take]
  by_cases h : i + m < j
  · rw [if_pos h, if_pos (by omega), List.getElem?_drop]
    congr 1
    omega
  · rw [if_neg h, if_neg (by omega)]

theorem cut_dig (l : List UInt8) (i j : Int) (hi : 0 ≤ i) (h : ∀ k : Nat, i ≤ k → (k : Int) < j → ∃ c, l[k]? = some c ∧ isD c) : ∀ c ∈ cut l i j, isD c := by
  intro c hc
  obtain ⟨m, hm⟩ := List.mem_iff_getElem?.1 hc
  rw [cut_get l i j hi] at hm
  by_cases h1 : i + m < j
  · rw [if_pos h1] at hm
    obtain ⟨c', hc', hd⟩ := h (i + m).toNat (by omega) (by omega)
    rw [hc'] at hm
    injection hm with hm
    rw [← hm]; exact hd
  · rw [if_neg h1] at hm; cases hm

theorem cut_len (l : List UInt8) (i j : Int) (hi : 0 ≤ i) (hij : i ≤ j) (hj : j ≤ l.length) : ((cut l i j).length : Int) = j - i := by
  rw [cut, List.length_take, List.length_drop]; omega

theorem cut_head (l : List UInt8) (i j : Int) (hi : 0 ≤ i) (hij : i < j) : (cut l i j).head? = l[i.toNat]? := by
  rw [List.head?_eq_getElem?, cut_get l i j hi 0, if_pos (by omega)]
  congr 1
  omega

theorem cut_last (l : List UInt8) (i j : Int) (hi : 0 ≤ i) (hij : i < j) (hj : j ≤ l.length) : (cut l i j).getLast? = l[(j - 1).toNat]? := by
  have hl := cut_len l i j hi (by omega) hj
  rw [List.getLast?_eq_getElem?, cut_get l i j hi, if_pos (by omega)]
  congr 1
  omega

theorem rd_canon (l : List UInt8) (h : (rd l).ok = true) : Canon (rd l).neg (rd l).dig (rd l).ex := by
  have z : Canon false [] 0 := ⟨fun _ => ⟨rfl, rfl⟩, by simp, by simp, by simp⟩
  have hst : (sg l).2 ≤ l.length := by
    cases l with
    | nil => exact Nat.le_refl _
    | cons c cs => rw [sg]; split; · simp
                   split <;> simp
  obtain ⟨e, p, f, la, hsc, hm⟩ := scan_met l (sg l).2 (l.drop (sg l).2) (sg l).2 (-1) (-1) (-1) rfl ⟨by omega, by omega, by omega, by omega, fun j h1 h2 => by omega, fun _ => rfl, fun h => by omega⟩
  unfold rd rdWith at h ⊢
  rw [hsc] at h ⊢
  simp only [] at h ⊢
  split at h
  · cases h
  · rename_i hbad
    rw [if_neg hbad]
    split at h
    · cases h
    · rename_i x hx
      clear h
      unfold fin
      by_cases hf : f < 0
      · rw [if_pos hf]; exact z
      · rw [if_neg hf]
        have hs := hm.some (by omega)
        have hlen := hm.len
        have hp2 := hm.p2
        have h48f : l[f.toNat]? ≠ some 48 := hs.2.2.2.2.2.1 f.toNat (by omega)
        have h48l : l[la.toNat]? ≠ some 48 := hs.2.2.2.2.2.2 la.toNat (by omega)
        have e1 : (la + 1 - 1).toNat = la.toNat := by omega
        generalize hpp : (if p < 0 then (e : Int) else p) = p'
        by_cases hc : f < p' ∧ p' < la
        · have hpe : p = p' := by
            by_cases hp : p < 0
            · rw [if_pos hp] at hpp; omega
            · rw [if_neg hp] at hpp; exact hpp
          subst hpe
          rw [if_pos hc]
          simp only []
          have l1 := cut_len l f p (by omega) (by omega) (by omega)
          have l2 := cut_len l (p + 1) (la + 1) (by omega) (by omega) (by omega)
          refine ⟨fun h0 => ?_, ?_, ?_, ?_⟩
          · rw [(List.append_eq_nil_iff.1 h0).1] at l1
            simp at l1
            omega
          · intro c hc'
            rcases List.mem_append.1 hc' with h1 | h1
            · exact cut_dig l f p (by omega) (fun k a b => hm.dig k (by omega) (by omega) (by omega)) c h1
            · exact cut_dig l (p + 1) (la + 1) (by omega) (fun k a b => hm.dig k (by omega) (by omega) (by omega)) c h1
          · obtain ⟨c, hc1, _⟩ := hm.dig f.toNat (by omega) (by omega) (by omega)
            rw [List.head?_append, cut_head l f p (by omega) (by omega), hc1, Option.some_or, ← hc1]
            exact h48f
          · obtain ⟨c, hc1, _⟩ := hm.dig la.toNat (by omega) (by omega) (by omega)
            rw [List.getLast?_append, cut_last l _ _ (by omega) (by omega) (by omega), e1, hc1, Option.some_or, ← hc1]
            exact h48l
        · rw [if_neg hc]
          simp only []
          have l1 := cut_len l f (la + 1) (by omega) (by omega) (by omega)
          have hout : ∀ k : Nat, f ≤ (k : Int) → (k : Int) < la + 1 → (k : Int) ≠ p := by
            intro k h1 h2 h3
            by_cases hp : p < 0
            · omega
            · rw [if_neg hp] at hpp
              omega
          refine ⟨fun h0 => ?_, ?_, ?_, ?_⟩
          · rw [h0] at l1
            simp at l1
            omega
          · exact cut_dig l f (la + 1) (by omega) (fun k a b => hm.dig k (by omega) (by omega) (hout k a b))
          · rw [cut_head l f (la + 1) (by omega) (by omega)]
            exact h48f
          · rw [cut_last l _ _ (by omega) (by omega) (by omega), e1]
            exact h48l

theorem cut_le (l : List UInt8) (i j : Int) : (cut l i j).length ≤ l.length := by
  rw [cut, List.length_take, List.length_drop]; omega

theorem fin_dig_le (l : List UInt8) (ng : Bool) (x e p f la : Int) : (fin l ng x e p f la).dig.length ≤ 2 * l.length := by
  unfold fin
  by_cases hf : f < 0
  · rw [if_pos hf]; simp
  · rw [if_neg hf]
    generalize (if p < 0 then e else p) = q
    by_cases hq : f < q ∧ q < la
    · simp only [if_pos hq, List.length_append]
      have h1 := cut_le l f q
      have h2 := cut_le l (q + 1) (la + 1)
      omega
    · simp only [if_neg hq]
      have h1 := cut_le l f (la + 1)
      omega

theorem rd_dig_le (l : List UInt8) : (rd l).dig.length ≤ 2 * l.length := by
  unfold rd rdWith
  split
  · simp
  · split
    · simp
    · exact fin_dig_le _ _ _ _ _ _ _
end Go.Proofs.Qxb6000083aMods.Num
