/- Values as data, as plain lists: what the reference's DataRight tells of a list of nodes. Plain definitions. -/
import Derived.Test.YtdcfbgpcpjjjaaaGreatFl
namespace Go.Proofs.YtdcfbgpcpjjjaaaGreat.Dr
open Go.Proofs.YtdcfbgpcpjjjaaaGreat.Fl
set_option linter.unusedVariables false

/-- A node of a value: its kind, its number's word, its text, its size. -/
structure V4 where
  kind : Int
  num : Nat
  text : ByteArray
  size : Int
def none4 : V4 := ⟨0, 0, ⟨#[]⟩, 0⟩

/-- The number is nought. -/
def numZero (x : Nat) : Bool := D.order x 0 == some .eq
/-- The word of a number cut to a whole one (of a NaN nothing is said). -/
def cutW (x : Nat) : Nat := D.write ((D.read x).integral .zero)
/-- The number is whole. -/
def wholeN (x : Nat) : Bool := D.order x (cutW x) == some .eq
/-- The number without its sign is below 2 ^ 53. -/
def belowN (x : Nat) : Bool := D.order (x % 9223372036854775808) 4845873199050653696 == some .lt
def negN (x : Nat) : Bool := decide (9223372036854775808 ≤ x)
def intN (x : Nat) : Bool := wholeN x && (belowN x && !(numZero x && negN x))
def nanN (x : Nat) : Bool := D.order x x != some .eq
def infN (x : Nat) : Bool := D.order (x % 9223372036854775808) 9218868437227405311 == some .gt
def finN (x : Nat) : Bool := !nanN x && !infN x

section
variable (U : ByteArray → Bool) (errs : Bool)

/-- What is asked of the first node, whatever its kind. -/
def headR (n : Nat) (x : V4) : Bool :=
  decide (x.size = n) && (decide (x.kind = 4) || decide (x.kind = 5) || numZero x.num) && (decide (x.kind = 6) || decide (x.kind = 9) || x.text.toList.isEmpty)

/-- What is asked of a value without parts. -/
def leafR (n : Nat) (x : V4) : Bool :=
  if x.kind = 1 ∨ x.kind = 2 ∨ x.kind = 3 then decide (n = 1)
  else if x.kind = 10 then errs && decide (n = 1)
  else if x.kind = 4 then decide (n = 1) && intN x.num
  else if x.kind = 5 then decide (n = 1) && finN x.num
  else if x.kind = 6 then decide (n = 1) && (decide (x.text.size ≤ 200) && U x.text)
  else false

/-- The parts from a place on. -/
def partsR (f : List V4 → Bool) (obj : Bool) (v : List V4) : Nat → Nat → List ByteArray → Bool
  | 0, _, _ => false
  | m + 1, k, names =>
    if k < v.length then
      let n := v.getD k none4
      if n.size < 1 ∨ (v.length : Int) - k < n.size then false
      else
        let part := (v.drop k).take n.size.toNat
        if obj then
          if n.kind ≠ 9 ∨ numZero n.num = false ∨ n.size < 2 ∨ 100 < n.text.size ∨ U n.text = false ∨ (names.any fun y => y.toList == n.text.toList) = true then false
          else if f (part.drop 1) then partsR f obj v m (k + n.size.toNat) (names ++ [n.text]) else false
        else if f part then partsR f obj v m (k + n.size.toNat) names else false
    else true

/-- Whether a list of nodes is a value; the number is how deep it may be, and one more. -/
def dr : Nat → List V4 → Bool
  | 0, _ => false
  | d + 1, v =>
    let x := v.getD 0 none4
    if headR v.length x then
      if x.kind = 7 ∨ x.kind = 8 then partsR U (dr d) (decide (x.kind = 8)) v v.length 1 [] else leafR U errs v.length x
    else false
end

end Go.Proofs.YtdcfbgpcpjjjaaaGreat.Dr
