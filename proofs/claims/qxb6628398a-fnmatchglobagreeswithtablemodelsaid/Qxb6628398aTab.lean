import Derived.Test.Qxb6628398aItems
namespace Go.Proofs.Qxb6628398a
open Go.ChangeShapes Go.WideShapes Go.ChangeAt Go.RowKit
open Pl

/-! ### THE PLAIN LAW OF THE TABLE -/
/-- 'C i: the items read so far, k of them, match the first i bytes': then the match is told by what is left. -/
def DP (ms : List Pl.Item) (t : List Int) (k : Nat) (C : Nat → Bool) : Prop :=
  Pl.mt ms t = true ↔ ∃ i, i ≤ t.length ∧ C i = true ∧ Pl.mt (ms.drop k) (t.drop i) = true
theorem dp_start (ms : List Pl.Item) (t : List Int) (C : Nat → Bool) (h0 : C 0 = true) (h1 : ∀ i, 0 < i → i ≤ t.length → C i = false) : DP ms t 0 C := by
  constructor
  · intro h; exact ⟨0, by omega, h0, by simpa using h⟩
  · rintro ⟨i, hi, hc, hm⟩
    by_cases e : i = 0
    · subst e; simpa using hm
    · rw [h1 i (by omega) hi] at hc; cases hc
theorem dp_star {ms : List Pl.Item} {t : List Int} {k : Nat} {C F : Nat → Bool} (h : DP ms t k C) (hk : k < ms.length) (hm : ms[k] = none)
    (hF : ∀ j, j ≤ t.length → (F j = true ↔ ∃ l, l ≤ j ∧ C l = true)) : DP ms t (k + 1) F := by
  have e : ms.drop k = none :: ms.drop (k + 1) := by rw [List.drop_eq_getElem_cons hk, hm]
  unfold DP at h ⊢
  rw [h, e]
  constructor
  · rintro ⟨i, hi, hc, hmt⟩
    rw [Pl.mt, anyEnd_true] at hmt
    obtain ⟨j, hj, hjm⟩ := hmt
    rw [List.drop_drop] at hjm
    simp at hj
    exact ⟨i + j, by omega, (hF _ (by omega)).2 ⟨i, by omega, hc⟩, hjm⟩
  · rintro ⟨j, hj, hf, hmt⟩
    obtain ⟨l, hl, hc⟩ := (hF j hj).1 hf
    refine ⟨l, by omega, hc, ?_⟩
    rw [Pl.mt, anyEnd_true]
    refine ⟨j - l, by simp; omega, ?_⟩
    rw [List.drop_drop, show l + (j - l) = j by omega]; exact hmt
theorem dp_some {ms : List Pl.Item} {t : List Int} {k : Nat} {C F : Nat → Bool} {f : Int → Bool} (h : DP ms t k C) (hk : k < ms.length) (hm : ms[k] = some f)
    (h0 : F 0 = false) (hF : ∀ i, i < t.length → F (i + 1) = (C i && f (bt t i))) : DP ms t (k + 1) F := by
  have e : ms.drop k = some f :: ms.drop (k + 1) := by rw [List.drop_eq_getElem_cons hk, hm]
  unfold DP at h ⊢
  rw [h, e]
  constructor
  · rintro ⟨i, hi, hc, hmt⟩
    by_cases hlt : i < t.length
    · rw [drop_cons t i hlt, Pl.mt, Bool.and_eq_true] at hmt
      exact ⟨i + 1, by omega, by rw [hF i hlt, hc, hmt.1]; rfl, hmt.2⟩
    · rw [List.drop_eq_nil_of_le (show t.length ≤ i by omega), Pl.mt] at hmt; cases hmt
  · rintro ⟨j, hj, hf, hmt⟩
    cases j with
    | zero => rw [h0] at hf; cases hf
    | succ i =>
      rw [hF i (by omega), Bool.and_eq_true] at hf
      exact ⟨i, by omega, hf.1, by rw [drop_cons t i (by omega), Pl.mt, hf.2, hmt]; rfl⟩
theorem dp_end {ms : List Pl.Item} {t : List Int} {k : Nat} {C : Nat → Bool} (h : DP ms t k C) (hk : ms.length ≤ k) : Pl.mt ms t = C t.length := by
  unfold DP at h
  rw [List.drop_eq_nil_of_le hk] at h
  rw [Bool.eq_iff_iff, h]
  constructor
  · rintro ⟨i, hi, hc, hm⟩
    rw [Pl.mt, List.isEmpty_iff] at hm
    have := congrArg List.length hm
    simp at this
    rw [show t.length = i by omega]; exact hc
  · intro hc
    exact ⟨t.length, Nat.le_refl _, hc, by simp [Pl.mt]⟩

theorem AgreeL.len : ∀ {l : List (Bool × S4)} {r : List Pl.Item}, AgreeL l r → l.length = r.length
  | [], [], _ => rfl
  | _ :: _, _ :: _, ⟨_, h⟩ => by simp [AgreeL.len h]
  | [], _ :: _, h0 => h0.elim
  | _ :: _, [], h0 => h0.elim
theorem AgreeL.at : ∀ {l : List (Bool × S4)} {r : List Pl.Item} (_ : AgreeL l r) (k : Nat) (h1 : k < l.length) (h2 : k < r.length), Agree l[k] r[k]
  | _ :: _, _ :: _, ⟨h, _⟩, 0, _, _ => h
  | _ :: _, _ :: _, ⟨_, h⟩, k + 1, h1, h2 => AgreeL.at h k (by simpa using h1) (by simpa using h2)
  | [], _, _, k, h1, _ => absurd h1 (by simp)
  | _ :: _, [], h0, _, _, _ => h0.elim
/-- The cells of item k. -/
theorem rows_at (its : List (Bool × S4)) (k : Nat) (h : k < its.length) (r : Nat) (hr : r < 5) : (rowsOf its)[k * 5 + r]? = (cells5 its[k].1 its[k].2)[r]? := by
  induction its generalizing k with
  | nil => simp at h
  | cons t l ih =>
    have e : rowsOf (t :: l) = cells5 t.1 t.2 ++ rowsOf l := by unfold rowsOf; rw [List.flatMap_cons]
    have h5 : (cells5 t.1 t.2).length = 5 := rfl
    rw [e]
    cases k with
    | zero => rw [Nat.zero_mul, Nat.zero_add, List.getElem?_append_left (by omega)]; rfl
    | succ k =>
      rw [List.getElem?_append_right (by omega), h5, show (k + 1) * 5 + r - 5 = k * 5 + r by omega]
      exact ih k (by simpa using h)
end Go.Proofs.Qxb6628398a
