/- THE PLAIN FUNCTIONS: what readNumber reads and Append writes, on lists of bytes. Nothing of the program stands here. -/
import Derived.Below
namespace Go.Proofs.Qxb6000083aMods.Num

/-- The sign ahead: is it a minus; how many bytes it takes. -/
def sg : List UInt8 → Bool × Nat
  | [] => (false, 0)
  | c :: _ => if c = 43 then (false, 1) else if c = 45 then (true, 1) else (false, 0)

/-- The mantissa's scan: where it ends, the point, the first and the last digit other than zero. -/
def scan : List UInt8 → Int → Int → Int → Int → Int × Int × Int × Int
  | [], i, p, f, l => (i, p, f, l)
  | c :: cs, i, p, f, l =>
    if c = 46 ∧ p < 0 then scan cs (i + 1) i f l
    else if c < 48 ∨ 57 < c then (i, p, f, l)
    else if c = 48 then scan cs (i + 1) p f l
    else scan cs (i + 1) p (if f < 0 then i else f) i

/-- The exponent's digits, capped. -/
def expo : List UInt8 → Int → Option Int
  | [], e => some e
  | c :: cs, e => if c < 48 ∨ 57 < c then none else expo cs (if e < 100000000 then e * 10 + ((c.toNat : Int) - 48) else e)

/-- What follows the mantissa: nothing, or an exponent. -/
def tailExp : List UInt8 → Option Int
  | [] => some 0
  | c :: cs => if c = 101 ∨ c = 69 then
      (match cs with
        | [] => none
        | d :: ds => if d = 45 then (if ds = [] then none else (expo ds 0).map (fun x => -x)) else if d = 43 then (if ds = [] then none else expo ds 0) else expo (d :: ds) 0)
    else none

structure N where
  neg : Bool
  dig : List UInt8
  ex : Int
  ok : Bool

/-- The bytes from i up to j. -/
def cut (l : List UInt8) (i j : Int) : List UInt8 := (l.drop i.toNat).take (j.toNat - i.toNat)

def fin (l : List UInt8) (neg : Bool) (x e p f la : Int) : N :=
  if f < 0 then ⟨false, [], 0, true⟩
  else
    ⟨neg, if f < (if p < 0 then e else p) ∧ (if p < 0 then e else p) < la then cut l f (if p < 0 then e else p) ++ cut l ((if p < 0 then e else p) + 1) (la + 1) else cut l f (la + 1),
      if f < (if p < 0 then e else p) then x + (if p < 0 then e else p) - f - 1 else x + (if p < 0 then e else p) - f, true⟩

def rdWith (l : List UInt8) (neg : Bool) (st : Nat) (q : Int × Int × Int × Int) : N :=
  if q.1 - st = 0 ∨ q.1 - st = 1 ∧ q.2.1 = st then ⟨false, [], 0, false⟩
  else match tailExp (l.drop q.1.toNat) with
    | none => ⟨false, [], 0, false⟩
    | some x => fin l neg x q.1 q.2.1 q.2.2.1 q.2.2.2

def rd (l : List UInt8) : N := rdWith l (sg l).1 (sg l).2 (scan (l.drop (sg l).2) (sg l).2 (-1) (-1) (-1))

end Go.Proofs.Qxb6000083aMods.Num
