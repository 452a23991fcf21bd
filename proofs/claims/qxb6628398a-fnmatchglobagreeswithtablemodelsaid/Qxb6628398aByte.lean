import Derived.Test.Qxb6628398aClsA
import Derived.Test.Qxb6628398aClsB
import Derived.Test.Qxb6628398aClsC
namespace Go.Proofs.Qxb6628398a
open Go.ChangeShapes Go.WideShapes Go.ChangeAt Go.RowKit
open Pl

theorem cls_any (b off n cap : Nat) (z : List Int) (p : Nat) (c : Int) (w : World) (hz : z.length = n) (hn : n ≤ 1048576) (hp : p ≤ n)
    (hcell : ∀ j, j < n → w.cell? ⟨b, off + j, none⟩ = some (.int .u8 (bt z j))) :
    Calls Try.prog 15 #[.slice (some ⟨b, off, none⟩) n cap, .int .i64 p, .int .u8 c] w fun e w' => e = .returned (.tuple #[.bool (clsOk z p c), .int .i64 (clsEnd z p)]) ∧ ∃ q, w' = w.drewN q := by
  by_cases h : p < n
  · by_cases h94 : bt z p = 94
    · exact cls_neg b off n cap z p c w hz hn h h94 hcell
    · exact cls_pos b off n cap z p c w hz hn h h94 hcell
  · exact cls_off b off n cap z p c w hz hn (by omega) hp hcell

theorem item_cls (z : List Int) (p : Nat) (c : Int) (h : bt z p = 91) : itemOk (bt z p) (z.drop (p + 1)) c = clsOk z (p + 1) c ∧ nextOf z p = clsEnd z (p + 1) := by
  have e1 : (z.drop (p + 1)).getD 0 0 = bt z (p + 1) := bt_drop z (p + 1) 0
  have e2 : (z.drop (p + 1)).drop 1 = z.drop (p + 1 + 1) := by simp
  have e3 : (1 ≤ (z.drop (p + 1)).length ∧ (z.drop (p + 1)).getD 0 0 = 94) = (p + 1 < z.length ∧ bt z (p + 1) = 94) := by
    rw [e1]; simp only [List.length_drop, eq_iff_iff]; omega
  constructor
  · unfold itemOk clsOk; rw [h]; simp only [e3, e2]; simp
  · unfold nextOf itemRest clsEnd; rw [h]; simp only [e3, e2]; simp
theorem item_any (z : List Int) (p : Nat) (c : Int) (h : bt z p = 63) (hp : p < z.length) : itemOk (bt z p) (z.drop (p + 1)) c = true ∧ nextOf z p = p + 1 := by
  constructor
  · simp [itemOk, h]
  · simp [nextOf, itemRest, h]; omega
theorem item_esc (z : List Int) (p : Nat) (c : Int) (h : bt z p = 92) (hp : p + 1 < z.length) : itemOk (bt z p) (z.drop (p + 1)) c = (bt z (p + 1) == c) ∧ nextOf z p = p + 2 := by
  have e1 : (z.drop (p + 1)).getD 0 0 = bt z (p + 1) := bt_drop z (p + 1) 0
  have hl : 1 ≤ (z.drop (p + 1)).length := by simp; omega
  constructor
  · unfold itemOk; rw [h, if_neg (by omega), if_pos rfl, if_pos hl, e1]
  · simp [nextOf, itemRest, h]; omega
theorem item_last (z : List Int) (p : Nat) (c : Int) (h : bt z p = 92) (hp : p < z.length) (hp1 : ¬ p + 1 < z.length) : itemOk (bt z p) (z.drop (p + 1)) c = (bt z p == c) ∧ nextOf z p = p + 1 := by
  have hl : ¬ 1 ≤ (z.drop (p + 1)).length := by simp; omega
  constructor
  · unfold itemOk; rw [h, if_neg (by omega), if_pos rfl, if_neg hl]
  · simp [nextOf, itemRest, h]; omega
theorem item_lit (z : List Int) (p : Nat) (c : Int) (h : bt z p ≠ 92) (h1 : bt z p ≠ 63) (h2 : bt z p ≠ 91) (hp : p < z.length) : itemOk (bt z p) (z.drop (p + 1)) c = (bt z p == c) ∧ nextOf z p = p + 1 := by
  constructor
  · unfold itemOk; rw [if_neg h1, if_neg h, if_neg h2]
  · simp [nextOf, itemRest, h, h2]; omega

set_option maxRecDepth 100000 in
set_option maxHeartbeats 1000000 in
theorem byte_any (b off n cap : Nat) (z : List Int) (p : Nat) (c : Int) (w : World) (hz : z.length = n) (hn : n ≤ 1048576) (hp : p < n)
    (hcell : ∀ j, j < n → w.cell? ⟨b, off + j, none⟩ = some (.int .u8 (bt z j))) :
    Calls Try.prog 12 #[.slice (some ⟨b, off, none⟩) n cap, .int .i64 p, .int .u8 c] w fun e w' => e = .returned (.tuple #[.bool (itemOk (bt z p) (z.drop (p + 1)) c), .int .i64 (nextOf z p)]) ∧ ∃ q, w' = w.drewN q := by
  have cp := hcell p hp
  have HC := hide hcell
  by_cases h63 : bt z p = 63
  · obtain ⟨e1, e2⟩ := item_any z p c h63 (by omega)
    rw [e1, e2]
    have t1 : (bt z p == 63) = true := by simp [h63]
    clear hcell h63 e1 e2 hz
    go_enter Try.func12, Try.ntmps12
    go_wp2
    go_ret2
    exact ⟨ret_two rfl (by omega), 0, rfl⟩
  have t1 : (bt z p == 63) = false := by simp [h63]
  by_cases h91 : bt z p = 91
  · obtain ⟨e1, e2⟩ := item_cls z p c h91
    rw [e1, e2]
    have HZ := hide hz
    have t2 : (bt z p == 91) = true := by simp [h91]
    clear hcell h63 h91 e1 e2 hz
    go_enter Try.func12, Try.ntmps12
    go_wp2_with fail
    have hpp : ((p + 1 : Nat) : Int) = (p : Int) + 1 := by omega
    rw [← hpp]
    refine (cls_any b off n cap z (p + 1) c _ HZ.out hn (by omega) HC.out).mono ?_
    rintro e w1 ⟨rfl, q, rfl⟩
    go_wp2
    go_ret2
    exact ⟨rfl, q, rfl⟩
  have t2 : (bt z p == 91) = false := by simp [h91]
  by_cases h92 : bt z p = 92
  · have t3 : (bt z p == 92) = true := by simp [h92]
    by_cases hp1 : p + 1 < n
    · obtain ⟨e1, e2⟩ := item_esc z p c h92 (by omega)
      rw [e1, e2]
      have cp1 := HC.out (p + 1) hp1
      clear hcell h63 h91 h92 e1 e2 hz
      go_enter Try.func12, Try.ntmps12
      go_wp2
      go_ret2
      exact ⟨ret_two rfl (by omega), 0, rfl⟩
    · obtain ⟨e1, e2⟩ := item_last z p c h92 (by omega) (by omega)
      rw [e1, e2]
      clear hcell h63 h91 h92 e1 e2 hz
      go_enter Try.func12, Try.ntmps12
      go_wp2
      go_ret2
      exact ⟨ret_two rfl (by omega), 0, rfl⟩
  · have t3 : (bt z p == 92) = false := by simp [h92]
    obtain ⟨e1, e2⟩ := item_lit z p c h92 h63 h91 (by omega)
    rw [e1, e2]
    clear hcell h63 h91 h92 e1 e2 hz
    go_enter Try.func12, Try.ntmps12
    go_wp2
    go_ret2
    exact ⟨ret_two rfl (by omega), 0, rfl⟩
end Go.Proofs.Qxb6628398a
