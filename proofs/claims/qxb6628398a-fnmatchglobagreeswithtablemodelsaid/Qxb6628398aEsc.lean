import Derived.Test.Qxb6628398aGlob
namespace Go.Proofs.Qxb6628398a
open Go.ChangeShapes Go.WideShapes Go.ChangeAt Go.RowKit
open Pl

theorem Try.info5 : (Try.prog.info? 5).map (fun i => (i.zero, i.size, i.bytes)) = some (some (.int .u8 0), 1, 1) := by kernel_rfl

/-- A backslash ahead of every byte. -/
def escL (l : List Int) : List Int := l.flatMap (fun c => [92, c])
theorem escL_len (l : List Int) : (escL l).length = 2 * l.length := by
  induction l with
  | nil => rfl
  | cons a l ih => simp only [escL, List.flatMap_cons, List.length_append, List.length_cons, List.length_nil] at ih ⊢; omega
/-- The cells of a row of bytes. -/
def by8 (l : List Int) : List Value := l.map (Value.int .u8)
theorem by8_snoc (l : List Int) (c : Int) : by8 (l ++ [c]) = by8 l ++ [.int .u8 c] := by simp [by8]
theorem esc_step (l : List Int) (k : Nat) (c : Int) (h : k < l.length) (hc : bt l k = c) : by8 (escL (l.take k)) ++ [.int .u8 92] ++ [.int .u8 c] = by8 (escL (l.take (k + 1))) := by
  have e : l.take (k + 1) = l.take k ++ [c] := by
    rw [List.take_succ_eq_append_getElem h]
    have : l[k] = c := by rw [← hc]; simp [bt, h]
    rw [this]
  rw [e]; unfold escL; rw [List.flatMap_append]; simp [by8]

theorem owns_lt {w : World} {base e size n cap g : Nat} {xs : List Value} (h : w.ownsRow base e size (.slice (some ⟨g, 0, none⟩) n cap) n xs) : g < w.heap.size := by
  rcases h.2 with ⟨h', _⟩ | ⟨g', cap', cur, h', _, hg, _⟩
  · simp at h'
  · simp only [Value.slice.injEq, Option.some.injEq, Addr.mk.injEq, and_true, true_and] at h'
    obtain ⟨rfl, rfl⟩ := h'
    exact (Array.getElem?_eq_some_iff.1 hg).1

set_option maxHeartbeats 1000000 in
theorem esc_any (s : ByteArray) (w : World) (hs : s.size ≤ 1024) :
    Calls Try.prog 9 #[.string s] w fun e w' => e = .returned (.slice (some ⟨w.heap.size, 0, none⟩) (2 * s.size) (2 * s.size)) ∧ w'.ownsRow w.heap.size 5 1 (.slice (some ⟨w.heap.size, 0, none⟩) (2 * s.size) (2 * s.size)) (2 * s.size) (by8 (escL (tx s))) ∧ Below w.heap.size w w' := by
  obtain ⟨i0, hi, hz0, hz1, hz2⟩ := info_parts Try.info5
  have hb1 : i0.bytes * (2 * s.size) ≤ 281474976710656 := by rw [hz2]; omega
  go_enter Try.func9, Try.ntmps9
  go_wp2_with (at_make; refine wpList_make_own _ rfl _ _ 22 rfl w.heap.size 5 i0 (.int .u8 0) 1 Try.underlying22 hi hz0 hz1 .i64 .i64 _ (2 * s.size) rfl rfl (by omega) hb1 (by unfold maxLen; omega) (Nat.le_refl _) ?_; intro w1 hown1 hgrow1)
  have hbel1 : Below w.heap.size w w1 := (Below.refl _ _).grown hgrow1 (Nat.le_refl _) (fun k h => by cases h)
  clear hgrow1
  go_loopw [3, 4] (fun a3 a4 wr => ∃ k : Nat, k ≤ s.size ∧ a4 = .int .i64 k ∧ a3 = .slice (some ⟨w.heap.size, 0, none⟩) (2 * k) (2 * s.size) ∧
      wr.ownsRow w.heap.size 5 1 (.slice (some ⟨w.heap.size, 0, none⟩) (2 * k) (2 * s.size)) (2 * k) (by8 (escL ((tx s).take k))) ∧ Below w.heap.size w wr ∧ w.heap.size < wr.heap.size) (fun _ a4 _ => s.size - (intOf a4).toNat)
  case atStart => exact ⟨0, by omega, rfl, rfl, hown1, hbel1, owns_lt hown1⟩
  case round =>
    obtain ⟨k, hk, rfl, rfl, hown, hbel, hlt0⟩ := hrel
    by_cases hlt : k < s.size
    · have HT := hide (tx_bt s k hlt)
      have HL := hide (tx_len s)
      go_wp2_with (first
        | (at_builtin; refine wpList_append_fits _ rfl (.tmp 15) (.tmp 16) 22 rfl w.heap.size 5 i0 1 Try.underlying22 hi hz1 w.heap.size (2 * k) (2 * s.size) _ rfl (hown.alloc _) ⟨wr.heap.size, 0, none⟩ 1 1 [.int .u8 92] rfl rfl (cell_one_new _ _ _) (by intro u hu; simp at hu; subst hu; rfl) (by omega) ?_; intro w2 hown2 hgrow2)
        | (at_builtin; refine wpList_append_fits _ rfl (.tmp 18) (.tmp 22) 22 rfl w.heap.size 5 i0 1 Try.underlying22 hi hz1 w.heap.size (2 * k + 1) (2 * s.size) _ rfl (hown2.alloc _) ⟨w2.heap.size, 0, none⟩ 1 1 [.int .u8 (s[k].toNat : Int)] rfl rfl (cell_one_new _ _ _) (by intro u hu; simp at hu; subst hu; rfl) (by omega) ?_; intro w3 hown3 hgrow3))
      have b2 : Below w.heap.size w w2 := (hbel.alloc (by omega) _).grown hgrow2 (by simp; omega) (fun _ h => by cases h; exact Nat.le_refl _)
      have b3 : Below w.heap.size w w3 := (b2.alloc b2.size _).grown hgrow3 (by simp; have := b2.size; omega) (fun _ h => by cases h; exact Nat.le_refl _)
      rw [esc_step (tx s) k _ (by rw [HL.out]; exact hlt) HT.out] at hown3
      go_roundw
      case rel => exact ⟨k + 1, by omega, by go_num, rfl, hown3, b3, owns_lt hown3⟩
      case measure => simp [intOf]; omega
    · have HK : Hid (k = s.size) := by show k = s.size; omega
      go_wp2
      go_ret
      have hk2 := HK.out
      subst hk2
      rw [List.take_of_length_le (by rw [tx_len]; exact Nat.le_refl _)] at hown
      exact ⟨rfl, hown, hbel⟩
end Go.Proofs.Qxb6628398a
