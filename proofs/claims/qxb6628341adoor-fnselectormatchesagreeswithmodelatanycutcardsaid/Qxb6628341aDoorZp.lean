import Derived.Test.Qxb6628341aDoorPlain
namespace Go.Proofs.Qxb6628341aDoor
open Go.ChangeShapes Go.WideShapes Go.ChangeAt Go.RowKit

/-- The law's own reader of digits, from what the digits before spell. -/
def zgo (acc : Nat) : List UInt8 → Option Nat
  | [] => some acc
  | c :: r =>
    if 48 ≤ c.toNat ∧ c.toNat ≤ 57 then
      if 922337203685477580 < acc then none
      else if 9223372036854775808 < acc * 10 + (c.toNat - 48) then none
      else zgo (acc * 10 + (c.toNat - 48)) r
    else none
def zfin (neg : Bool) (o : Option Nat) : Option Int := match o with
  | none => none
  | some u => if neg then some (-(u : Int)) else if u = 9223372036854775808 then none else some (u : Int)
def zz (l : List UInt8) : Option Int := match l with
  | [] => none
  | c :: r => if (if c.toNat = 43 ∨ c.toNat = 45 then r else c :: r) = [] then none else zfin (decide (c.toNat = 45)) (zgo 0 (if c.toNat = 43 ∨ c.toNat = 45 then r else c :: r))
theorem uint_mono (M : Nat) : ∀ (l : List UInt8) (acc u : Nat), Lib.parseUintM M acc l = .ok u → acc ≤ u
  | [], acc, u, h => by simp [Lib.parseUintM] at h; omega
  | c :: r, acc, u, h => by
    unfold Lib.parseUintM at h
    split at h
    · split at h
      · cases h
      · split at h
        · cases h
        · have := uint_mono M r _ u h
          omega
    · cases h
/-- The two readers agree up to 2 ^ 63. -/
theorem zgo_uint : ∀ (l : List UInt8) (acc : Nat), acc ≤ 9223372036854775808 → zgo acc l = (match Lib.parseUintM (2 ^ 64 - 1) acc l with | .ok u => if u ≤ 9223372036854775808 then some u else none | _ => none)
  | [], acc, h => by simp [zgo, Lib.parseUintM, h]
  | c :: r, acc, h => by
    unfold zgo Lib.parseUintM
    by_cases hd : 48 ≤ c.toNat ∧ c.toNat ≤ 57
    · rw [if_pos hd, if_pos hd]
      by_cases h1 : 922337203685477580 < acc
      · rw [if_pos h1]
        split
        · rename_i u hu
          split at hu
          · cases hu
          · split at hu
            · cases hu
            · have := uint_mono _ r _ u hu
              rw [if_neg (by omega)]
        · rfl
      · rw [if_neg h1, if_neg (show ¬ (1844674407370955162 ≤ acc) by omega), if_neg (show ¬ (2 ^ 64 - 1 < acc * 10 + (c.toNat - 48)) by omega)]
        by_cases h2 : 9223372036854775808 < acc * 10 + (c.toNat - 48)
        · rw [if_pos h2]
          split
          · rename_i u hu
            have := uint_mono _ r _ u hu
            rw [if_neg (by omega)]
          · rfl
        · rw [if_neg h2]
          exact zgo_uint r _ (by omega)
    · rw [if_neg hd, if_neg hd]
theorem zz_num (s : ByteArray) : zz s.data.toList = num s := by
  unfold num Lib.parseIntB zz
  cases s.data.toList with
  | nil => rfl
  | cons c r =>
    simp only
    generalize ht : (if c.toNat = 43 ∨ c.toNat = 45 then r else c :: r) = t
    unfold Lib.parseUintB
    by_cases h0 : t = []
    · rw [if_pos h0, if_pos h0]
    · rw [if_neg h0, if_neg h0, zgo_uint t 0 (by omega)]
      cases hu : Lib.parseUintM (2 ^ 64 - 1) 0 t with
      | ok u =>
        simp only
        by_cases hn : c.toNat = 45
        · simp only [hn, not_true_eq_false, false_and, if_false, true_and, if_true, decide_true, zfin]
          by_cases hb : u ≤ 9223372036854775808
          · rw [if_pos hb, if_neg (by omega)]
          · rw [if_neg hb, if_pos (by omega)]
        · simp only [hn, not_false_eq_true, true_and, false_and, if_false, decide_false, zfin]
          by_cases hb : u ≤ 9223372036854775808
          · rw [if_pos hb]
            by_cases he : u = 9223372036854775808
            · subst he; simp
            · rw [if_neg (show ¬ (2 ^ (64 - 1) ≤ u) by omega)]; simp [he]
          · rw [if_neg hb, if_pos (show 2 ^ (64 - 1) ≤ u by omega)]
      | «syntax» => rfl
      | range => rfl
end Go.Proofs.Qxb6628341aDoor
