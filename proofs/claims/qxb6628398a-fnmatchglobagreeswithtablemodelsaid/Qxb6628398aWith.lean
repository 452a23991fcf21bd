import Derived.Test.Qxb6628398aSets
namespace Go.Proofs.Qxb6628398a
open Go.ChangeShapes Go.WideShapes Go.ChangeAt Go.RowKit

theorem ret_agg {a b : Array Value} (h : a = b) : Ending.returned (.agg a) = .returned (.agg b) := by rw [h]
set_option maxHeartbeats 1000000 in
theorem with_any (S : S4) (c : Int) (w : World) (h0 : 0 ≤ c) (h1 : c < 256) :
    Calls Try.prog 16 #[.agg S.cells, .int .u8 c] w fun e w' => e = .returned (.agg (S.put c.toNat).cells) ∧ Below w.heap.size w w' := by
  have hc : c < 64 ∨ (64 ≤ c ∧ c < 128) ∨ (128 ≤ c ∧ c < 192) ∨ 192 ≤ c := by omega
  unfold S4.cells
  rcases hc with h2 | ⟨h2, h3⟩ | ⟨h2, h3⟩ | h2
  · have hd : c / 64 = 0 := by omega
    have e : S.put c.toNat = { S with a := S.a ||| BitVec.twoPow 64 (c.toNat) } := by unfold S4.put; rw [if_pos (by omega)]
    have hor : bits .or .u64 (wd S.a) (IntKind.u64.wrap (2 ^ (c % 64).toNat)) = wd (S.a ||| BitVec.twoPow 64 (c.toNat)) := by rw [bits_or _ _ (by omega), show (c % 64).toNat = c.toNat by omega]
    rw [e]
    clear e
    generalize wd (S.a ||| BitVec.twoPow 64 (c.toNat)) = X at hor ⊢
    go_enter Try.func16, Try.ntmps16
    go_wp2
    exact bodyPost_ret (v := .agg #[.int .u64 X, .int .u64 (wd S.b), .int .u64 (wd S.c), .int .u64 (wd S.d)]) (by simp [results, Try.results16, go_sem]) rfl ⟨rfl, ((Below.refl _ _).alloc (Nat.le_refl _) _).alloc (by simp) _⟩
  · have hd : c / 64 = 1 := by omega
    have e : S.put c.toNat = { S with b := S.b ||| BitVec.twoPow 64 (c.toNat - 64) } := by unfold S4.put; rw [if_neg (by omega), if_pos (by omega)]
    have hor : bits .or .u64 (wd S.b) (IntKind.u64.wrap (2 ^ (c % 64).toNat)) = wd (S.b ||| BitVec.twoPow 64 (c.toNat - 64)) := by rw [bits_or _ _ (by omega), show (c % 64).toNat = c.toNat - 64 by omega]
    rw [e]
    clear e
    generalize wd (S.b ||| BitVec.twoPow 64 (c.toNat - 64)) = X at hor ⊢
    go_enter Try.func16, Try.ntmps16
    go_wp2
    exact bodyPost_ret (v := .agg #[.int .u64 (wd S.a), .int .u64 X, .int .u64 (wd S.c), .int .u64 (wd S.d)]) (by simp [results, Try.results16, go_sem]) rfl ⟨rfl, ((Below.refl _ _).alloc (Nat.le_refl _) _).alloc (by simp) _⟩
  · have hd : c / 64 = 2 := by omega
    have e : S.put c.toNat = { S with c := S.c ||| BitVec.twoPow 64 (c.toNat - 128) } := by unfold S4.put; rw [if_neg (by omega), if_neg (by omega), if_pos (by omega)]
    have hor : bits .or .u64 (wd S.c) (IntKind.u64.wrap (2 ^ (c % 64).toNat)) = wd (S.c ||| BitVec.twoPow 64 (c.toNat - 128)) := by rw [bits_or _ _ (by omega), show (c % 64).toNat = c.toNat - 128 by omega]
    rw [e]
    clear e
    generalize wd (S.c ||| BitVec.twoPow 64 (c.toNat - 128)) = X at hor ⊢
    go_enter Try.func16, Try.ntmps16
    go_wp2
    exact bodyPost_ret (v := .agg #[.int .u64 (wd S.a), .int .u64 (wd S.b), .int .u64 X, .int .u64 (wd S.d)]) (by simp [results, Try.results16, go_sem]) rfl ⟨rfl, ((Below.refl _ _).alloc (Nat.le_refl _) _).alloc (by simp) _⟩
  · have hd : c / 64 = 3 := by omega
    have e : S.put c.toNat = { S with d := S.d ||| BitVec.twoPow 64 (c.toNat - 192) } := by unfold S4.put; rw [if_neg (by omega), if_neg (by omega), if_neg (by omega)]
    have hor : bits .or .u64 (wd S.d) (IntKind.u64.wrap (2 ^ (c % 64).toNat)) = wd (S.d ||| BitVec.twoPow 64 (c.toNat - 192)) := by rw [bits_or _ _ (by omega), show (c % 64).toNat = c.toNat - 192 by omega]
    rw [e]
    clear e
    generalize wd (S.d ||| BitVec.twoPow 64 (c.toNat - 192)) = X at hor ⊢
    go_enter Try.func16, Try.ntmps16
    go_wp2
    exact bodyPost_ret (v := .agg #[.int .u64 (wd S.a), .int .u64 (wd S.b), .int .u64 (wd S.c), .int .u64 X]) (by simp [results, Try.results16, go_sem]) rfl ⟨rfl, ((Below.refl _ _).alloc (Nat.le_refl _) _).alloc (by simp) _⟩
end Go.Proofs.Qxb6628398a
