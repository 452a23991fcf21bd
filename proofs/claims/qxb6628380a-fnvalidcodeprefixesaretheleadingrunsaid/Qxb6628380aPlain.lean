namespace Go.Proofs.Qxb6628380a

/-- A letter or a digit. -/
def alnum (c : Int) : Bool := decide (48 ≤ c ∧ c ≤ 57 ∨ 65 ≤ c ∧ c ≤ 90 ∨ 97 ≤ c ∧ c ≤ 122)
/-- The law's own alphabet. -/
def abc : List Int := [48, 49, 50, 51, 52, 53, 54, 55, 56, 57, 65, 66, 67, 68, 69, 70, 71, 72, 73, 74, 75, 76, 77, 78, 79, 80, 81, 82, 83, 84, 85, 86, 87, 88, 89, 90, 97, 98, 99, 100, 101, 102, 103, 104, 105, 106, 107, 108, 109, 110, 111, 112, 113, 114, 115, 116, 117, 118, 119, 120, 121, 122]
theorem abc_yes : ∀ k : Fin 62, alnum (abc.getD k.val 0) = true := by decide +kernel
theorem abc_all : ∀ c : Fin 256, alnum (c.val : Int) = true → ∃ k : Fin 62, abc.getD k.val 0 = (c.val : Int) := by decide +kernel
theorem abc_no (c : Int) (h0 : 0 ≤ c) (h1 : c ≤ 255) (h : ∀ x, x < 62 → abc.getD x 0 ≠ c) : alnum c = false := by
  cases e : alnum c with
  | false => rfl
  | true =>
    obtain ⟨k, hk⟩ := abc_all ⟨c.toNat, by omega⟩ (by simpa [Int.toNat_of_nonneg h0] using e)
    exact absurd (by simpa [Int.toNat_of_nonneg h0] using hk) (h k.val k.isLt)
theorem abc_hit (c : Int) (k : Nat) (hk : k < 62) (h : abc.getD k 0 = c) : alnum c = true := by
  rw [← h]; exact abc_yes ⟨k, hk⟩
theorem abc_ba : ∀ k : Fin 62, (((⟨#[48, 49, 50, 51, 52, 53, 54, 55, 56, 57, 65, 66, 67, 68, 69, 70, 71, 72, 73, 74, 75, 76, 77, 78, 79, 80, 81, 82, 83, 84, 85, 86, 87, 88, 89, 90, 97, 98, 99, 100, 101, 102, 103, 104, 105, 106, 107, 108, 109, 110, 111, 112, 113, 114, 115, 116, 117, 118, 119, 120, 121, 122]⟩ : ByteArray)[k.val]'(k.isLt)).toNat : Int) = abc.getD k.val 0 := by decide +kernel

def alB (b : UInt8) : Bool := alnum (b.toNat : Int)
/-- What ofd.ValidCode answers. -/
def vc (l : List UInt8) : Bool := decide (1 ≤ l.length ∧ l.length ≤ 9) && l.all alB
/-- The leading run. -/
def runOf (l : List UInt8) : Nat := (l.takeWhile alB).length

theorem all_take_iff (l : List UInt8) (k : Nat) (hk : k ≤ l.length) : (l.take k).all alB = decide (k ≤ runOf l) := by
  unfold runOf
  induction l generalizing k with
  | nil => simp at hk; subst hk; simp
  | cons a l ih =>
    cases k with
    | zero => simp
    | succ k =>
      have := ih k (by simpa using hk)
      rw [List.take_succ_cons, List.all_cons, this, List.takeWhile_cons]
      cases e : alB a <;> simp
/-- THE PLAIN LAW. -/
theorem vc_take (l : List UInt8) (k : Nat) (hk : k ≤ l.length) : vc (l.take k) = decide (1 ≤ k ∧ k ≤ 9 ∧ k ≤ runOf l) := by
  unfold vc
  rw [all_take_iff l k hk, List.length_take_of_le hk]
  rw [Bool.eq_iff_iff]; simp; omega
theorem run_stop (l : List UInt8) (k : Nat) (hk : k ≤ l.length) (h : (l.take k).all alB = true) (hs : ∀ h : k < l.length, alB l[k] = false) : runOf l = k := by
  have h1 : k ≤ runOf l := by rw [all_take_iff l k hk] at h; simpa using h
  by_cases e : k < l.length
  · have h2 : (l.take (k + 1)).all alB = false := by
      rw [List.take_succ_eq_append_getElem e, List.all_append]; simp [hs e]
    rw [all_take_iff l (k + 1) e] at h2
    simp at h2; omega
  · have h3 : runOf l ≤ l.length := by unfold runOf; exact (List.takeWhile_prefix alB).length_le
    omega
theorem all_take_succ (l : List UInt8) (k : Nat) (hk : k < l.length) (h : (l.take k).all alB = true) (hs : alB l[k] = true) : (l.take (k + 1)).all alB = true := by
  rw [List.take_succ_eq_append_getElem hk, List.all_append]; simp only [h, List.all_cons, hs, List.all_nil]; rfl
end Go.Proofs.Qxb6628380a
