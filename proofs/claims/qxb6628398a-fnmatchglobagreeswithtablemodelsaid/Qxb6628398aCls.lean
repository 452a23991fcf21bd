import Derived.Test.Qxb6628398aRows
import Derived.Test.Qxb6628398aPlain
import Derived.WalkKit
import Derived.ProofKit
import Derived.Deep.QuietTactic
import Derived.BigQuiet
import Derived.WalkSpells
import Derived.WalkSmall
namespace Go.Proofs.Qxb6628398a
open Go.ChangeShapes Go.WideShapes Go.ChangeAt Go.RowKit
open Pl

theorem hide {p : Prop} (h : p) : Hid p := h
theorem ret_bool {a b : Bool} (h : a = b) : Ending.returned (.bool a) = .returned (.bool b) := by rw [h]
theorem ret_two {a b : Bool} {k l : Int} (h : a = b) (h2 : k = l) : Ending.returned (.tuple #[.bool a, .int .i64 k]) = .returned (.tuple #[.bool b, .int .i64 l]) := by rw [h, h2]

/-- What matchClass answers at p, the inside of a bracket. -/
def clsOk (z : List Int) (p : Nat) (c : Int) : Bool :=
  if p < z.length ∧ bt z p = 94 then !(clsHas c (z.drop (p + 1)) 0 false) else clsHas c (z.drop p) 0 false
/-- Where the item behind the bracket starts. -/
def clsEnd (z : List Int) (p : Nat) : Nat :=
  z.length - (if p < z.length ∧ bt z p = 94 then clsRest (z.drop (p + 1)) 0 else clsRest (z.drop p) 0).length

theorem inr_cases (a y c : Int) : (y < a ∧ c < y ∧ Hid (inRange a y c = false)) ∨ (y < a ∧ y ≤ c ∧ c ≤ a ∧ Hid (inRange a y c = true)) ∨ (y < a ∧ y ≤ c ∧ a < c ∧ Hid (inRange a y c = false)) ∨
    (a ≤ y ∧ c < a ∧ Hid (inRange a y c = false)) ∨ (a ≤ y ∧ a ≤ c ∧ c ≤ y ∧ Hid (inRange a y c = true)) ∨ (a ≤ y ∧ a ≤ c ∧ y < c ∧ Hid (inRange a y c = false)) := by
  unfold inRange Hid
  by_cases h : y < a
  · rw [Int.min_eq_right (by omega), Int.max_eq_left (by omega)]; simp [h]; omega
  · rw [Int.min_eq_left (by omega), Int.max_eq_right (by omega)]; simp [h]; omega

end Go.Proofs.Qxb6628398a
