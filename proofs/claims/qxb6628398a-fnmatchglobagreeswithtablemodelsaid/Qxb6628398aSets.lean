import Derived.Test.Qxb6628398aRows
import Derived.WalkKit
import Derived.ProofKit
import Derived.WalkSmall
namespace Go.Proofs.Qxb6628398a
open Go.ChangeShapes Go.WideShapes Go.ChangeAt Go.RowKit

/-- A set of bytes: four words of 64 bits. -/
structure S4 where
  a : BitVec 64
  b : BitVec 64
  c : BitVec 64
  d : BitVec 64
/-- A word as Go's number. -/
def wd (v : BitVec 64) : Int := (v.toNat : Int)
def S4.cells (S : S4) : Array Value := #[.int .u64 (wd S.a), .int .u64 (wd S.b), .int .u64 (wd S.c), .int .u64 (wd S.d)]
def S4.none : S4 := ⟨0#64, 0#64, 0#64, 0#64⟩
def S4.all : S4 := ⟨BitVec.allOnes 64, BitVec.allOnes 64, BitVec.allOnes 64, BitVec.allOnes 64⟩
def S4.has (S : S4) (x : Nat) : Bool :=
  if x < 64 then S.a.getLsbD x else if x < 128 then S.b.getLsbD (x - 64) else if x < 192 then S.c.getLsbD (x - 128) else S.d.getLsbD (x - 192)
def S4.put (S : S4) (x : Nat) : S4 :=
  if x < 64 then { S with a := S.a ||| BitVec.twoPow 64 x } else if x < 128 then { S with b := S.b ||| BitVec.twoPow 64 (x - 64) }
  else if x < 192 then { S with c := S.c ||| BitVec.twoPow 64 (x - 128) } else { S with d := S.d ||| BitVec.twoPow 64 (x - 192) }
def S4.not (S : S4) : S4 := ⟨~~~S.a, ~~~S.b, ~~~S.c, ~~~S.d⟩

theorem wd_back (v : BitVec 64) : BitVec.ofInt 64 (wd v) = v := by unfold wd; rw [BitVec.ofInt_natCast, BitVec.ofNat_toNat, BitVec.setWidth_eq]
theorem wd_wrap (v : BitVec 64) : IntKind.u64.wrap (wd v) = wd v := by
  rw [IntKind.wrap_u64]; unfold wd; have := v.isLt; omega
theorem pow_back (k : Nat) (h : k < 64) : BitVec.ofInt 64 (IntKind.u64.wrap (2 ^ k)) = BitVec.twoPow 64 k := by
  have e : ((2 : Int) ^ k) = ((2 ^ k : Nat) : Int) := by simp
  have hlt : 2 ^ k < 2 ^ 64 := Nat.pow_lt_pow_right (by omega) h
  have e2 : IntKind.u64.wrap ((2 : Int) ^ k) = ((2 ^ k : Nat) : Int) := by
    rw [e, IntKind.wrap_u64]
    generalize 2 ^ k = m at hlt
    omega
  rw [e2, BitVec.ofInt_natCast]
  apply BitVec.eq_of_toNat_eq
  rw [BitVec.toNat_ofNat, BitVec.toNat_twoPow]
theorem bits_or (v : BitVec 64) (k : Nat) (h : k < 64) : bits .or .u64 (wd v) (IntKind.u64.wrap (2 ^ k)) = wd (v ||| BitVec.twoPow 64 k) := by
  show IntKind.u64.wrap ((BitVec.ofInt 64 (wd v) ||| BitVec.ofInt 64 (IntKind.u64.wrap (2 ^ k))).toNat : Int) = _
  rw [wd_back, pow_back k h]
  exact wd_wrap _
theorem bits_and (v : BitVec 64) (k : Nat) (h : k < 64) : (bits .and .u64 (wd v) (IntKind.u64.wrap (2 ^ k)) != 0) = v.getLsbD k := by
  have e : bits .and .u64 (wd v) (IntKind.u64.wrap (2 ^ k)) = wd (v &&& BitVec.twoPow 64 k) := by
    show IntKind.u64.wrap ((BitVec.ofInt 64 (wd v) &&& BitVec.ofInt 64 (IntKind.u64.wrap (2 ^ k))).toNat : Int) = _
    rw [wd_back, pow_back k h]
    exact wd_wrap _
  rw [e, BitVec.and_twoPow]
  cases v.getLsbD k with
  | false => rfl
  | true =>
    have : 0 < 2 ^ k := Nat.pow_pos (by omega)
    have hlt : 2 ^ k < 2 ^ 64 := Nat.pow_lt_pow_right (by omega) h
    simp only [if_true, wd, BitVec.toNat_twoPow, bne_iff_ne]
    rw [Nat.mod_eq_of_lt hlt]; omega
theorem bits_not (v : BitVec 64) : bits .xor .u64 IntKind.u64.max (wd v) = wd (~~~v) := by
  show IntKind.u64.wrap ((BitVec.ofInt 64 IntKind.u64.max ^^^ BitVec.ofInt 64 (wd v)).toNat : Int) = _
  have h1 : BitVec.ofInt 64 IntKind.u64.max = BitVec.allOnes 64 := by decide
  rw [wd_back, h1, BitVec.allOnes_xor]
  exact wd_wrap _

theorem orr {a b c : Bool} (h : b = c) : (a || b) = (a || c) := by rw [h]
theorem has_put (S : S4) (x y : Nat) (hx : x < 256) (hy : y < 256) : (S.put x).has y = (S.has y || x == y) := by
  unfold S4.put S4.has
  repeat' split
  all_goals (simp only [BitVec.getLsbD_or, BitVec.getLsbD_twoPow])
  all_goals first
    | (rw [show (x == y) = false by simp; omega, Bool.or_false]; done)
    | (apply orr; rw [Bool.eq_iff_iff]; simp; omega)
theorem has_not (S : S4) (y : Nat) (hy : y < 256) : S.not.has y = !(S.has y) := by
  unfold S4.not S4.has
  repeat' split
  all_goals (simp only [BitVec.getLsbD_not]; rw [decide_eq_true (by omega), Bool.true_and])
theorem has_none (y : Nat) : S4.none.has y = false := by
  unfold S4.none S4.has
  repeat' split
  all_goals simp
theorem has_all (y : Nat) (hy : y < 256) : S4.all.has y = true := by
  unfold S4.all S4.has
  repeat' split
  all_goals (rw [BitVec.getLsbD_allOnes]; simp; omega)

theorem has_one (S : S4) (c : Int) (v : BitVec 64) (h : S.has c.toNat = v.getLsbD (c % 64).toNat) : (bits .and .u64 (wd v) (IntKind.u64.wrap (2 ^ (c % 64).toNat)) != 0) = S.has c.toNat := by
  rw [bits_and v _ (by omega), h]

set_option maxHeartbeats 1000000 in
theorem has_any (S : S4) (c : Int) (w : World) (h0 : 0 ≤ c) (h1 : c < 256) :
    Calls Try.prog 14 #[.agg S.cells, .int .u8 c] w fun e w' => e = .returned (.bool (S.has c.toNat)) ∧ Below w.heap.size w w' := by
  unfold S4.cells
  have hc : c < 64 ∨ (64 ≤ c ∧ c < 128) ∨ (128 ≤ c ∧ c < 192) ∨ 192 ≤ c := by omega
  rcases hc with h2 | ⟨h2, h3⟩ | ⟨h2, h3⟩ | h2
  · have hd : c / 64 = 0 := by omega
    have HB : Hid _ := has_one S c S.a (by unfold S4.has; rw [if_pos (by omega), show (c % 64).toNat = c.toNat by omega])
    go_enter Try.func14, Try.ntmps14
    go_wp2
    go_ret
    exact ⟨congrArg (fun b => Ending.returned (.bool b)) HB.out, (Below.refl _ _).alloc (Nat.le_refl _) _⟩
  · have hd : c / 64 = 1 := by omega
    have HB : Hid _ := has_one S c S.b (by unfold S4.has; rw [if_neg (by omega), if_pos (by omega), show (c % 64).toNat = c.toNat - 64 by omega])
    go_enter Try.func14, Try.ntmps14
    go_wp2
    go_ret
    exact ⟨congrArg (fun b => Ending.returned (.bool b)) HB.out, (Below.refl _ _).alloc (Nat.le_refl _) _⟩
  · have hd : c / 64 = 2 := by omega
    have HB : Hid _ := has_one S c S.c (by unfold S4.has; rw [if_neg (by omega), if_neg (by omega), if_pos (by omega), show (c % 64).toNat = c.toNat - 128 by omega])
    go_enter Try.func14, Try.ntmps14
    go_wp2
    go_ret
    exact ⟨congrArg (fun b => Ending.returned (.bool b)) HB.out, (Below.refl _ _).alloc (Nat.le_refl _) _⟩
  · have hd : c / 64 = 3 := by omega
    have HB : Hid _ := has_one S c S.d (by unfold S4.has; rw [if_neg (by omega), if_neg (by omega), if_neg (by omega), show (c % 64).toNat = c.toNat - 192 by omega])
    go_enter Try.func14, Try.ntmps14
    go_wp2
    go_ret
    exact ⟨congrArg (fun b => Ending.returned (.bool b)) HB.out, (Below.refl _ _).alloc (Nat.le_refl _) _⟩
end Go.Proofs.Qxb6628398a
