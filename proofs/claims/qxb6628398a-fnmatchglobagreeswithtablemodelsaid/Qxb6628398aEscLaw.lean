import Derived.Test.Qxb6628398aCont
namespace Go.Proofs.Qxb6628398a
open Go.ChangeShapes Go.WideShapes Go.ChangeAt Go.RowKit
open Pl

set_option maxHeartbeats 400000 in
theorem bytes8_yes (t s : ByteArray) (w : World) (h : t.size + s.size ≤ 1048576) :
    Calls Try.prog 8 #[.string t, .string s] w fun e w' => e = .returned (.bool true) ∧ w' = w := by
  go_enter Try.func8, Try.ntmps8
  go_wp2
  go_ret
  exact ⟨rfl, rfl⟩
set_option maxHeartbeats 400000 in
theorem bytes8_no (t s : ByteArray) (w : World) (ht : t.size ≤ maxLen) (hs : s.size ≤ maxLen) (h : ¬ t.size + s.size ≤ 1048576) :
    Calls Try.prog 8 #[.string t, .string s] w fun e w' => e = .returned (.bool false) ∧ w' = w := by
  unfold maxLen at ht hs
  by_cases h1 : t.size ≤ 1048576
  · by_cases h2 : s.size ≤ 1048576
    all_goals
      go_enter Try.func8, Try.ntmps8
      go_wp2
      go_ret
      exact ⟨rfl, rfl⟩
  · go_enter Try.func8, Try.ntmps8
    go_wp2
    go_ret
    exact ⟨rfl, rfl⟩

def litZ (t : ByteArray) : List Int := escL (tx t)
def preZ (t : ByteArray) : List Int := escL (tx t) ++ [42]
def midZ (t : ByteArray) : List Int := 42 :: (escL (tx t) ++ [42])
theorem litZ_len (t : ByteArray) : (litZ t).length = 2 * t.size := by unfold litZ; rw [escL_len, tx_len]
theorem preZ_len (t : ByteArray) : (preZ t).length = 2 * t.size + 1 := by unfold preZ; rw [List.length_append, escL_len, tx_len]; rfl
theorem midZ_len (t : ByteArray) : (midZ t).length = 2 * t.size + 2 := by unfold midZ; rw [List.length_cons, List.length_append, escL_len, tx_len]; rfl
theorem row_cell {w : World} {base g n cap : Nat} {z : List Int} (h : w.ownsRow base 5 1 (.slice (some ⟨g, 0, none⟩) n cap) n (by8 z)) (j : Nat) (hj : j < n) : w.cell? ⟨g, j, none⟩ = some (.int .u8 (bt z j)) := by
  have hl := h.1
  unfold by8 at hl
  rw [List.length_map, Nat.mul_one] at hl
  rw [h.cellAt j (by omega)]
  unfold by8
  rw [List.getElem?_map, List.getElem?_eq_getElem (by omega)]
  simp [bt, List.getElem?_eq_getElem (show j < z.length by omega)]
theorem row_cell0 {w : World} {base g n cap : Nat} {z : List Int} (h : w.ownsRow base 5 1 (.slice (some ⟨g, 0, none⟩) n cap) n (by8 z)) : ∀ j, j < n → w.cell? ⟨g, 0 + j, none⟩ = some (.int .u8 (bt z j)) := by
  intro j hj; rw [Nat.zero_add]; exact row_cell h j hj
theorem by8_step (z : List Int) (k : Nat) (h : k < z.length) : by8 (z.take k) ++ [.int .u8 (bt z k)] = by8 (z.take (k + 1)) := by
  rw [List.take_succ_eq_append_getElem h, by8_snoc]; simp [bt, h]
theorem by8_step' (z : List Int) (k : Nat) (h : k < z.length) : by8 (42 :: z.take k) ++ [.int .u8 (bt z k)] = by8 (42 :: z.take (k + 1)) := by
  have e : 42 :: z.take (k + 1) = (42 :: z.take k) ++ [bt z k] := by rw [List.take_succ_eq_append_getElem h]; simp [bt, h]
  rw [e, by8_snoc]
theorem by8_pre (t : ByteArray) (k : Nat) (h : 2 * t.size ≤ k) : by8 ((litZ t).take k) ++ [.int .u8 42] = by8 (preZ t) := by
  rw [List.take_of_length_le (by rw [litZ_len]; exact h), ← by8_snoc]; rfl
theorem by8_mid (t : ByteArray) (k : Nat) (h : 2 * t.size ≤ k) : by8 (42 :: (litZ t).take k) ++ [.int .u8 42] = by8 (midZ t) := by
  rw [List.take_of_length_le (by rw [litZ_len]; exact h), ← by8_snoc]; rfl
/-- A row that is another's stays behind a new block and an append. -/
theorem row_kept {w w' : World} {base g n cap gp : Nat} {xs : List Value} {o : Obj} (h : w.ownsRow base 5 1 (.slice (some ⟨g, 0, none⟩) n cap) n xs) (hg : (w.alloc o).grownBy w' (some gp)) (hne : g ≠ gp) : w'.ownsRow base 5 1 (.slice (some ⟨g, 0, none⟩) n cap) n xs :=
  (h.alloc o).kept hg (.inr (by simp [Value.ownBlock, hne]))
theorem row_made {w w' : World} {base g n cap : Nat} {xs : List Value} (h : w.ownsRow base 5 1 (.slice (some ⟨g, 0, none⟩) n cap) n xs) (hg : w.grownBy w' none) : w'.ownsRow base 5 1 (.slice (some ⟨g, 0, none⟩) n cap) n xs :=
  h.kept hg (.inr (by simp [Value.ownBlock]))
theorem below_put {B gp : Nat} {a w w' : World} {o : Obj} (h : Below B a w) (hB : B ≤ w.heap.size) (hg : (w.alloc o).grownBy w' (some gp)) (hp : B ≤ gp) : Below B a w' :=
  (h.alloc hB o).grown hg (by simp; omega) (fun _ e => by cases e; exact hp)
theorem below_made {B : Nat} {a w w' : World} (h : Below B a w) (hB : B ≤ w.heap.size) (hg : w.grownBy w' none) : Below B a w' :=
  h.grown hg hB (fun _ e => by cases e)
theorem litZ_eq (t s : ByteArray) : glob (litZ t) (tx s) = (t.toList == s.toList) := by
  unfold litZ
  rw [Bool.eq_iff_iff, glob_lit, tx_inj]; simp
theorem preZ_iff (t s : ByteArray) : glob (preZ t) (tx s) = true ↔ At (tx s) (tx t) 0 := glob_pre _ _
theorem midZ_iff (t s : ByteArray) : glob (midZ t) (tx s) = true ↔ ∃ st, At (tx s) (tx t) st := glob_mid _ _

set_option maxRecDepth 100000 in
set_option maxHeartbeats 4000000 in
theorem law_in (t s : ByteArray) (w : World) (ht : t.size ≤ 1024) (hs : s.size ≤ 1024) :
    Calls Try.prog 4 #[.string t, .string s] w fun e w' => e = .returned (.bool true) ∧ Below w.heap.size w w' := by
  obtain ⟨i0, hi, hz0, hz1, hz2⟩ := info_parts Try.info5
  have hb1 : i0.bytes * (2 * t.size + 1) ≤ 281474976710656 := by rw [hz2]; omega
  have hb2 : i0.bytes * (2 * t.size + 2) ≤ 281474976710656 := by rw [hz2]; omega
  go_enter Try.func4, Try.ntmps4
  go_wp2_with (go_at_call 8; refine (bytes8_yes _ _ _ (by omega)).mono ?_; rintro e w' ⟨rfl, rfl⟩)
  refine (esc_any t _ ht).mono ?_
  rintro e w1 ⟨rfl, hown1, b1⟩
  have h1 := owns_lt hown1
  go_wp2_with fail
  refine (glob_any w'.heap.size 0 (2 * t.size) (2 * t.size) (litZ t) s _ (litZ_len t) (by omega) (by omega) (by exact row_cell0 hown1)).mono ?_
  rintro e w2 ⟨rfl, q1, rfl⟩
  have hg1 := litZ_eq t s
  go_wp2_with (at_make; refine wpList_make_own _ rfl _ _ 22 rfl w'.heap.size 5 i0 (.int .u8 0) 1 Try.underlying22 hi hz0 hz1 .i64 .i64 _ (2 * t.size + 1) rfl rfl (by omega) hb1 (by unfold maxLen; omega) (by simp; omega) ?_; intro w3 hown3 hgrow3)
  have hl3 : w3.ownsRow w'.heap.size 5 1 (.slice (some ⟨w'.heap.size, 0, none⟩) (2 * t.size) (2 * t.size)) (2 * t.size) (by8 (litZ t)) := row_made (w := w1.drewN q1) hown1 hgrow3
  have hp3 : w3.ownsRow w'.heap.size 5 1 (.slice (some ⟨w1.heap.size, 0, none⟩) 0 (2 * t.size + 1)) 0 (by8 ((litZ t).take 0)) := hown3
  have b3 : Below w'.heap.size w' w3 := below_made (below_drewN b1 q1) (by simp; omega) hgrow3
  clear hown1 hown3 hgrow3 b1
  go_loopw [7, 8] (fun a7 a8 wr => ∃ k : Nat, k ≤ 2 * t.size ∧ a8 = .int .i64 k ∧ a7 = .slice (some ⟨w1.heap.size, 0, none⟩) k (2 * t.size + 1) ∧
      wr.ownsRow w'.heap.size 5 1 (.slice (some ⟨w'.heap.size, 0, none⟩) (2 * t.size) (2 * t.size)) (2 * t.size) (by8 (litZ t)) ∧
      wr.ownsRow w'.heap.size 5 1 (.slice (some ⟨w1.heap.size, 0, none⟩) k (2 * t.size + 1)) k (by8 ((litZ t).take k)) ∧ Below w'.heap.size w' wr ∧ w1.heap.size < wr.heap.size) (fun _ a8 _ => 2 * t.size - (intOf a8).toNat)
  case atStart => exact ⟨0, by omega, rfl, rfl, hl3, hp3, b3, owns_lt hp3⟩
  case round =>
    clear hl3 hp3 b3
    obtain ⟨k, hk, rfl, rfl, hl, hp, hb, hsz⟩ := hrel
    by_cases hlt : k < 2 * t.size
    · have c0 := row_cell hl k hlt
      have HS := hide (by8_step (litZ t) k (by rw [litZ_len]; exact hlt))
      go_wp2_with (at_builtin; refine wpList_append_fits _ rfl (.tmp 42) (.tmp 47) 22 rfl w'.heap.size 5 i0 1 Try.underlying22 hi hz1 w1.heap.size k (2 * t.size + 1) _ rfl (hp.alloc _) ⟨wr.heap.size, 0, none⟩ 1 1 [.int .u8 (bt (litZ t) k)] rfl rfl (cell_one_new _ _ _) (by intro u hu; simp at hu; subst hu; rfl) (by omega) ?_; intro w4 hown4 hgrow4)
      have hl4 := row_kept hl hgrow4 (by omega)
      have b4 := below_put hb (by omega) hgrow4 (by omega)
      rw [HS.out] at hown4
      go_roundw
      case rel => exact ⟨k + 1, by omega, by go_num, rfl, hl4, hown4, b4, owns_lt hown4⟩
      case measure => simp [intOf]; omega
    · have hk2 : 2 * t.size ≤ k := by omega
      have HS := hide (by8_pre t k hk2)
      go_wp2_with (at_builtin; refine wpList_append_fits _ rfl (.tmp 49) (.tmp 50) 22 rfl w'.heap.size 5 i0 1 Try.underlying22 hi hz1 w1.heap.size k (2 * t.size + 1) _ rfl (hp.alloc _) ⟨wr.heap.size, 0, none⟩ 1 1 [.int .u8 42] rfl rfl (cell_one_new _ _ _) (by intro u hu; simp at hu; subst hu; rfl) (by omega) ?_; intro w4 hown4 hgrow4)
      have hl4 := row_kept hl hgrow4 (by omega)
      have b4 := below_put hb (by omega) hgrow4 (by omega)
      have s4 := owns_lt hown4
      rw [HS.out] at hown4
      clear hl hp hb hgrow4
      refine (glob_any w1.heap.size 0 (k + 1) (2 * t.size + 1) (preZ t) s _ (by rw [preZ_len]; omega) (by omega) (by omega) (by exact row_cell0 hown4)).mono ?_
      rintro e w5 ⟨rfl, q2, rfl⟩
      go_wp2_with fail
      refine (pre_any s t (glob (preZ t) (tx s)) _ hs ht (preZ_iff t s)).mono ?_
      rintro e w5 ⟨rfl, q3, rfl⟩
      go_wp2_with (first
        | (at_make; refine wpList_make_own _ rfl _ _ 22 rfl w'.heap.size 5 i0 (.int .u8 0) 1 Try.underlying22 hi hz0 hz1 .i64 .i64 _ (2 * t.size + 2) rfl rfl (by omega) hb2 (by unfold maxLen; omega) (by simp; omega) ?_; intro w6 hown6 hgrow6)
        | (at_builtin; refine wpList_append_fits _ rfl (.tmp 63) (.tmp 64) 22 rfl w'.heap.size 5 i0 1 Try.underlying22 hi hz1 w4.heap.size 0 (2 * t.size + 2) [] rfl (World.ownsRow.alloc (show w6.ownsRow w'.heap.size 5 1 (.slice (some ⟨w4.heap.size, 0, none⟩) 0 (2 * t.size + 2)) 0 [] from hown6) _) ⟨w6.heap.size, 0, none⟩ 1 1 [.int .u8 42] rfl rfl (cell_one_new _ _ _) (by intro u hu; simp at hu; subst hu; rfl) (by omega) ?_; intro w7 hown7 hgrow7))
      have hl6 := row_made (w := w4.drewN (q2 + q3)) hl4 hgrow6
      have b6 : Below w'.heap.size w' w6 := below_made (below_drewN b4 (q2 + q3)) (by simp; omega) hgrow6
      have s6 : w4.heap.size < w6.heap.size := owns_lt (show w6.ownsRow w'.heap.size 5 1 (.slice (some ⟨w4.heap.size, 0, none⟩) 0 (2 * t.size + 2)) 0 [] from hown6)
      have hl7 := row_kept hl6 hgrow7 (by omega)
      have b7 := below_put b6 (by omega) hgrow7 (by omega)
      have hp7 : w7.ownsRow w'.heap.size 5 1 (.slice (some ⟨w4.heap.size, 0, none⟩) (0 + 1) (2 * t.size + 2)) (0 + 1) (by8 (42 :: (litZ t).take 0)) := hown7
      clear hown6 hgrow6 hown7 hgrow7 hl6 b6 hl4 hown4
      go_loopw [10, 11] (fun a10 a11 wq => ∃ j : Nat, j ≤ 2 * t.size ∧ a11 = .int .i64 j ∧ a10 = .slice (some ⟨w4.heap.size, 0, none⟩) (j + 1) (2 * t.size + 2) ∧
          wq.ownsRow w'.heap.size 5 1 (.slice (some ⟨w'.heap.size, 0, none⟩) (2 * t.size) (2 * t.size)) (2 * t.size) (by8 (litZ t)) ∧
          wq.ownsRow w'.heap.size 5 1 (.slice (some ⟨w4.heap.size, 0, none⟩) (j + 1) (2 * t.size + 2)) (j + 1) (by8 (42 :: (litZ t).take j)) ∧ Below w'.heap.size w' wq ∧ w4.heap.size < wq.heap.size) (fun _ a11 _ => 2 * t.size - (intOf a11).toNat)
      case atStart => exact ⟨0, by omega, rfl, rfl, hl7, hp7, b7, owns_lt hp7⟩
      case round =>
        clear hl7 hp7 b7
        obtain ⟨j, hj, rfl, rfl, hl, hp, hb, hsq⟩ := hrel
        by_cases hjt : j < 2 * t.size
        · have c0 := row_cell hl j hjt
          have HS := hide (by8_step' (litZ t) j (by rw [litZ_len]; exact hjt))
          go_wp2_with (at_builtin; refine wpList_append_fits _ rfl (.tmp 72) (.tmp 77) 22 rfl w'.heap.size 5 i0 1 Try.underlying22 hi hz1 w4.heap.size (j + 1) (2 * t.size + 2) _ rfl (hp.alloc _) ⟨_, 0, none⟩ 1 1 [.int .u8 (bt (litZ t) j)] rfl rfl (cell_one_new _ _ _) (by intro u hu; simp at hu; subst hu; rfl) (by omega) ?_; intro w8 hown8 hgrow8)
          have hl8 := row_kept hl hgrow8 (by omega)
          have b8 := below_put hb (by omega) hgrow8 (by omega)
          rw [HS.out] at hown8
          go_roundw
          case rel => exact ⟨j + 1, by omega, by go_num, rfl, hl8, hown8, b8, owns_lt hown8⟩
          case measure => simp [intOf]; omega
        · have hj2 : 2 * t.size ≤ j := by omega
          have HS := hide (by8_mid t j hj2)
          go_wp2_with (at_builtin; refine wpList_append_fits _ rfl (.tmp 79) (.tmp 80) 22 rfl w'.heap.size 5 i0 1 Try.underlying22 hi hz1 w4.heap.size (j + 1) (2 * t.size + 2) _ rfl (hp.alloc _) ⟨_, 0, none⟩ 1 1 [.int .u8 42] rfl rfl (cell_one_new _ _ _) (by intro u hu; simp at hu; subst hu; rfl) (by omega) ?_; intro w8 hown8 hgrow8)
          have b8 := below_put hb (by omega) hgrow8 (by omega)
          rw [HS.out] at hown8
          clear hl hp hb hgrow8
          refine (glob_any w4.heap.size 0 (j + 1 + 1) (2 * t.size + 2) (midZ t) s _ (by rw [midZ_len]; omega) (by omega) (by omega) (by exact row_cell0 hown8)).mono ?_
          rintro e w9 ⟨rfl, q4, rfl⟩
          go_wp2_with fail
          refine (cont_any s t (glob (midZ t) (tx s)) _ hs ht (midZ_iff t s)).mono ?_
          rintro e w9 ⟨rfl, q5, rfl⟩
          go_wp2
          go_ret
          exact ⟨rfl, below_drewN b8 (q4 + q5)⟩

set_option maxHeartbeats 1000000 in
theorem esclaw_any (t s : ByteArray) (w : World) (ht : t.size ≤ maxLen) (hs : s.size ≤ maxLen) :
    Calls Try.prog 4 #[.string t, .string s] w fun e w' => e = .returned (.bool true) ∧ Below w.heap.size w w' := by
  by_cases h : t.size + s.size ≤ 1048576
  · by_cases h1 : t.size ≤ 1024
    · by_cases h2 : s.size ≤ 1024
      · exact law_in t s w h1 h2
      · go_enter Try.func4, Try.ntmps4
        go_wp2_with (go_at_call 8; refine (bytes8_yes _ _ _ h).mono ?_; rintro e w' ⟨rfl, rfl⟩)
        go_ret
        exact ⟨rfl, Below.refl _ _⟩
    · go_enter Try.func4, Try.ntmps4
      go_wp2_with (go_at_call 8; refine (bytes8_yes _ _ _ h).mono ?_; rintro e w' ⟨rfl, rfl⟩)
      go_ret
      exact ⟨rfl, Below.refl _ _⟩
  · go_enter Try.func4, Try.ntmps4
    go_wp2_with (go_at_call 8; refine (bytes8_no _ _ _ ht hs h).mono ?_; rintro e w' ⟨rfl, rfl⟩)
    go_ret
    exact ⟨rfl, Below.refl _ _⟩
end Go.Proofs.Qxb6628398a
