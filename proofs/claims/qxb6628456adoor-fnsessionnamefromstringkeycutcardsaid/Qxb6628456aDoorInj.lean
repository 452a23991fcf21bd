import Derived.Test.Qxb6628456aDoorWalks
namespace Go.Proofs.Qxb6628456aDoor
open Go.ChangeShapes Go.WideShapes Go.ChangeAt Go.RowKit

/-- What a source prints, as bytes. -/
def nmL (p : Int) (a : List UInt8) : List UInt8 := if p = 0 then [] else if p = 1 then 108 :: 97 :: 98 :: 101 :: 108 :: 58 :: a else 101 :: 110 :: 118 :: 58 :: a
theorem nm_toList (p : Int) (a : ByteArray) : (nm p a).toList = nmL p a.toList := by
  rw [ByteArray.toList_eq, ByteArray.toList_eq]
  unfold nm nmL pre
  split
  · rfl
  · split <;> simp [ByteArray.data_append]
theorem nm_empty (p : Int) (a : ByteArray) : (nm p a).toList.isEmpty = decide (p = 0) := by
  rw [nm_toList]; unfold nmL
  split
  · simp [*]
  · split <;> simp [*]
theorem nm_apart (p q : Int) (a b : ByteArray) (hp : 0 ≤ p ∧ p ≤ 2) (hq : 0 ≤ q ∧ q ≤ 2) (h : p ≠ q) : ((nm p a).toList == (nm q b).toList) = false := by
  rw [nm_toList, nm_toList]
  have h1 : p = 0 ∨ p = 1 ∨ p = 2 := by omega
  have h2 : q = 0 ∨ q = 1 ∨ q = 2 := by omega
  rcases h1 with rfl | rfl | rfl <;> rcases h2 with rfl | rfl | rfl <;> first | (exact absurd rfl h) | simp [nmL]
theorem nm_alike (p : Int) (a b : ByteArray) (hp : 1 ≤ p ∧ p ≤ 2) : ((nm p a).toList == (nm p b).toList) = (a.toList == b.toList) := by
  rw [nm_toList, nm_toList]
  have h1 : p = 1 ∨ p = 2 := by omega
  rcases h1 with rfl | rfl <;> simp [nmL]
theorem nm_zero (a : ByteArray) : (nm 0 a).toList = [] := by rw [nm_toList]; rfl

theorem four {w0 w1 w2 w3 w4 : World} (b1 : Below w0.heap.size w0 w1) (b2 : Below w1.heap.size w1 w2) (b3 : Below w2.heap.size w2 w3) (b4 : Below w3.heap.size w3 w4) : Below w0.heap.size w0 w4 :=
  ((b1.trans (b2.mono b1.size)).trans (b3.mono (Nat.le_trans b1.size b2.size))).trans (b4.mono (Nat.le_trans b1.size (Nat.le_trans b2.size b3.size)))

set_option maxHeartbeats 1000000 in
theorem inj00 (a b : ByteArray) (w : World) (h : a.size + b.size ≤ 1048576) :
    Calls Tryd.prog 4 #[.int .i64 0, .string a, .int .i64 0, .string b] w fun e w' => e = .returned (.bool true) ∧ Below w.heap.size w w' := by
  have ha : a.size ≤ 2097152 := by omega
  have hb : b.size ≤ 2097152 := by omega
  have f1 := nm_zero a
  have f2 := nm_zero b
  go_enter Tryd.func4, Tryd.ntmps4
  go_wp2_with (go_at_call 9; refine (bytes9_yes _ _ _ _ _ h).mono ?_; rintro e w' ⟨rfl, rfl⟩)
  refine (new_any _ _ _).mono ?_
  rintro e w1 ⟨rfl, b1⟩
  go_wp2_with fail
  refine (string_any _ _ _ (by omega) (by omega) ha).mono ?_
  rintro e w2 ⟨rfl, b2⟩
  go_wp2_with fail
  refine (new_any _ _ _).mono ?_
  rintro e w3 ⟨rfl, b3⟩
  go_wp2_with fail
  refine (string_any _ _ _ (by omega) (by omega) hb).mono ?_
  rintro e w4 ⟨rfl, b4⟩
  go_wp2
  go_ret
  exact ⟨rfl, four b1 b2 b3 b4⟩
set_option maxHeartbeats 1000000 in
theorem inj01 (a b : ByteArray) (w : World) (h : a.size + b.size ≤ 1048576) :
    Calls Tryd.prog 4 #[.int .i64 0, .string a, .int .i64 1, .string b] w fun e w' => e = .returned (.bool true) ∧ Below w.heap.size w w' := by
  have ha : a.size ≤ 2097152 := by omega
  have hb : b.size ≤ 2097152 := by omega
  have f1 := nm_apart 0 1 a b (by omega) (by omega) (by omega)
  have f2 : (nm 0 a).toList.isEmpty = true := by rw [nm_empty]; rfl
  have f3 : (nm 1 b).toList.isEmpty = false := by rw [nm_empty]; rfl
  go_enter Tryd.func4, Tryd.ntmps4
  go_wp2_with (go_at_call 9; refine (bytes9_yes _ _ _ _ _ h).mono ?_; rintro e w' ⟨rfl, rfl⟩)
  refine (new_any _ _ _).mono ?_
  rintro e w1 ⟨rfl, b1⟩
  go_wp2_with fail
  refine (string_any _ _ _ (by omega) (by omega) ha).mono ?_
  rintro e w2 ⟨rfl, b2⟩
  go_wp2_with fail
  refine (new_any _ _ _).mono ?_
  rintro e w3 ⟨rfl, b3⟩
  go_wp2_with fail
  refine (string_any _ _ _ (by omega) (by omega) hb).mono ?_
  rintro e w4 ⟨rfl, b4⟩
  go_wp2
  go_ret
  exact ⟨rfl, four b1 b2 b3 b4⟩
set_option maxHeartbeats 1000000 in
theorem inj02 (a b : ByteArray) (w : World) (h : a.size + b.size ≤ 1048576) :
    Calls Tryd.prog 4 #[.int .i64 0, .string a, .int .i64 2, .string b] w fun e w' => e = .returned (.bool true) ∧ Below w.heap.size w w' := by
  have ha : a.size ≤ 2097152 := by omega
  have hb : b.size ≤ 2097152 := by omega
  have f1 := nm_apart 0 2 a b (by omega) (by omega) (by omega)
  have f2 : (nm 0 a).toList.isEmpty = true := by rw [nm_empty]; rfl
  have f3 : (nm 2 b).toList.isEmpty = false := by rw [nm_empty]; rfl
  go_enter Tryd.func4, Tryd.ntmps4
  go_wp2_with (go_at_call 9; refine (bytes9_yes _ _ _ _ _ h).mono ?_; rintro e w' ⟨rfl, rfl⟩)
  refine (new_any _ _ _).mono ?_
  rintro e w1 ⟨rfl, b1⟩
  go_wp2_with fail
  refine (string_any _ _ _ (by omega) (by omega) ha).mono ?_
  rintro e w2 ⟨rfl, b2⟩
  go_wp2_with fail
  refine (new_any _ _ _).mono ?_
  rintro e w3 ⟨rfl, b3⟩
  go_wp2_with fail
  refine (string_any _ _ _ (by omega) (by omega) hb).mono ?_
  rintro e w4 ⟨rfl, b4⟩
  go_wp2
  go_ret
  exact ⟨rfl, four b1 b2 b3 b4⟩
set_option maxHeartbeats 1000000 in
theorem inj10 (a b : ByteArray) (w : World) (h : a.size + b.size ≤ 1048576) :
    Calls Tryd.prog 4 #[.int .i64 1, .string a, .int .i64 0, .string b] w fun e w' => e = .returned (.bool true) ∧ Below w.heap.size w w' := by
  have ha : a.size ≤ 2097152 := by omega
  have hb : b.size ≤ 2097152 := by omega
  have f1 := nm_apart 1 0 a b (by omega) (by omega) (by omega)
  have f2 : (nm 1 a).toList.isEmpty = false := by rw [nm_empty]; rfl
  have f3 : (nm 0 b).toList.isEmpty = true := by rw [nm_empty]; rfl
  go_enter Tryd.func4, Tryd.ntmps4
  go_wp2_with (go_at_call 9; refine (bytes9_yes _ _ _ _ _ h).mono ?_; rintro e w' ⟨rfl, rfl⟩)
  refine (new_any _ _ _).mono ?_
  rintro e w1 ⟨rfl, b1⟩
  go_wp2_with fail
  refine (string_any _ _ _ (by omega) (by omega) ha).mono ?_
  rintro e w2 ⟨rfl, b2⟩
  go_wp2_with fail
  refine (new_any _ _ _).mono ?_
  rintro e w3 ⟨rfl, b3⟩
  go_wp2_with fail
  refine (string_any _ _ _ (by omega) (by omega) hb).mono ?_
  rintro e w4 ⟨rfl, b4⟩
  go_wp2
  go_ret
  exact ⟨rfl, four b1 b2 b3 b4⟩
set_option maxHeartbeats 1000000 in
theorem inj11t (a b : ByteArray) (w : World) (h : a.size + b.size ≤ 1048576) (hab : (a.toList == b.toList) = true) :
    Calls Tryd.prog 4 #[.int .i64 1, .string a, .int .i64 1, .string b] w fun e w' => e = .returned (.bool true) ∧ Below w.heap.size w w' := by
  have ha : a.size ≤ 2097152 := by omega
  have hb : b.size ≤ 2097152 := by omega
  have f1 : ((nm 1 a).toList == (nm 1 b).toList) = true := by rw [nm_alike 1 a b (by omega), hab]
  have f2 : (nm 1 a).toList.isEmpty = false := by rw [nm_empty]; rfl
  have f3 : (nm 1 b).toList.isEmpty = false := by rw [nm_empty]; rfl
  go_enter Tryd.func4, Tryd.ntmps4
  go_wp2_with (go_at_call 9; refine (bytes9_yes _ _ _ _ _ h).mono ?_; rintro e w' ⟨rfl, rfl⟩)
  refine (new_any _ _ _).mono ?_
  rintro e w1 ⟨rfl, b1⟩
  go_wp2_with fail
  refine (string_any _ _ _ (by omega) (by omega) ha).mono ?_
  rintro e w2 ⟨rfl, b2⟩
  go_wp2_with fail
  refine (new_any _ _ _).mono ?_
  rintro e w3 ⟨rfl, b3⟩
  go_wp2_with fail
  refine (string_any _ _ _ (by omega) (by omega) hb).mono ?_
  rintro e w4 ⟨rfl, b4⟩
  go_wp2
  go_ret
  exact ⟨rfl, four b1 b2 b3 b4⟩
set_option maxHeartbeats 1000000 in
theorem inj11f (a b : ByteArray) (w : World) (h : a.size + b.size ≤ 1048576) (hab : (a.toList == b.toList) = false) :
    Calls Tryd.prog 4 #[.int .i64 1, .string a, .int .i64 1, .string b] w fun e w' => e = .returned (.bool true) ∧ Below w.heap.size w w' := by
  have ha : a.size ≤ 2097152 := by omega
  have hb : b.size ≤ 2097152 := by omega
  have f1 : ((nm 1 a).toList == (nm 1 b).toList) = false := by rw [nm_alike 1 a b (by omega), hab]
  have f2 : (nm 1 a).toList.isEmpty = false := by rw [nm_empty]; rfl
  have f3 : (nm 1 b).toList.isEmpty = false := by rw [nm_empty]; rfl
  go_enter Tryd.func4, Tryd.ntmps4
  go_wp2_with (go_at_call 9; refine (bytes9_yes _ _ _ _ _ h).mono ?_; rintro e w' ⟨rfl, rfl⟩)
  refine (new_any _ _ _).mono ?_
  rintro e w1 ⟨rfl, b1⟩
  go_wp2_with fail
  refine (string_any _ _ _ (by omega) (by omega) ha).mono ?_
  rintro e w2 ⟨rfl, b2⟩
  go_wp2_with fail
  refine (new_any _ _ _).mono ?_
  rintro e w3 ⟨rfl, b3⟩
  go_wp2_with fail
  refine (string_any _ _ _ (by omega) (by omega) hb).mono ?_
  rintro e w4 ⟨rfl, b4⟩
  go_wp2
  go_ret
  exact ⟨rfl, four b1 b2 b3 b4⟩
set_option maxHeartbeats 1000000 in
theorem inj12 (a b : ByteArray) (w : World) (h : a.size + b.size ≤ 1048576) :
    Calls Tryd.prog 4 #[.int .i64 1, .string a, .int .i64 2, .string b] w fun e w' => e = .returned (.bool true) ∧ Below w.heap.size w w' := by
  have ha : a.size ≤ 2097152 := by omega
  have hb : b.size ≤ 2097152 := by omega
  have f1 := nm_apart 1 2 a b (by omega) (by omega) (by omega)
  have f2 : (nm 1 a).toList.isEmpty = false := by rw [nm_empty]; rfl
  have f3 : (nm 2 b).toList.isEmpty = false := by rw [nm_empty]; rfl
  go_enter Tryd.func4, Tryd.ntmps4
  go_wp2_with (go_at_call 9; refine (bytes9_yes _ _ _ _ _ h).mono ?_; rintro e w' ⟨rfl, rfl⟩)
  refine (new_any _ _ _).mono ?_
  rintro e w1 ⟨rfl, b1⟩
  go_wp2_with fail
  refine (string_any _ _ _ (by omega) (by omega) ha).mono ?_
  rintro e w2 ⟨rfl, b2⟩
  go_wp2_with fail
  refine (new_any _ _ _).mono ?_
  rintro e w3 ⟨rfl, b3⟩
  go_wp2_with fail
  refine (string_any _ _ _ (by omega) (by omega) hb).mono ?_
  rintro e w4 ⟨rfl, b4⟩
  go_wp2
  go_ret
  exact ⟨rfl, four b1 b2 b3 b4⟩
set_option maxHeartbeats 1000000 in
theorem inj20 (a b : ByteArray) (w : World) (h : a.size + b.size ≤ 1048576) :
    Calls Tryd.prog 4 #[.int .i64 2, .string a, .int .i64 0, .string b] w fun e w' => e = .returned (.bool true) ∧ Below w.heap.size w w' := by
  have ha : a.size ≤ 2097152 := by omega
  have hb : b.size ≤ 2097152 := by omega
  have f1 := nm_apart 2 0 a b (by omega) (by omega) (by omega)
  have f2 : (nm 2 a).toList.isEmpty = false := by rw [nm_empty]; rfl
  have f3 : (nm 0 b).toList.isEmpty = true := by rw [nm_empty]; rfl
  go_enter Tryd.func4, Tryd.ntmps4
  go_wp2_with (go_at_call 9; refine (bytes9_yes _ _ _ _ _ h).mono ?_; rintro e w' ⟨rfl, rfl⟩)
  refine (new_any _ _ _).mono ?_
  rintro e w1 ⟨rfl, b1⟩
  go_wp2_with fail
  refine (string_any _ _ _ (by omega) (by omega) ha).mono ?_
  rintro e w2 ⟨rfl, b2⟩
  go_wp2_with fail
  refine (new_any _ _ _).mono ?_
  rintro e w3 ⟨rfl, b3⟩
  go_wp2_with fail
  refine (string_any _ _ _ (by omega) (by omega) hb).mono ?_
  rintro e w4 ⟨rfl, b4⟩
  go_wp2
  go_ret
  exact ⟨rfl, four b1 b2 b3 b4⟩
set_option maxHeartbeats 1000000 in
theorem inj21 (a b : ByteArray) (w : World) (h : a.size + b.size ≤ 1048576) :
    Calls Tryd.prog 4 #[.int .i64 2, .string a, .int .i64 1, .string b] w fun e w' => e = .returned (.bool true) ∧ Below w.heap.size w w' := by
  have ha : a.size ≤ 2097152 := by omega
  have hb : b.size ≤ 2097152 := by omega
  have f1 := nm_apart 2 1 a b (by omega) (by omega) (by omega)
  have f2 : (nm 2 a).toList.isEmpty = false := by rw [nm_empty]; rfl
  have f3 : (nm 1 b).toList.isEmpty = false := by rw [nm_empty]; rfl
  go_enter Tryd.func4, Tryd.ntmps4
  go_wp2_with (go_at_call 9; refine (bytes9_yes _ _ _ _ _ h).mono ?_; rintro e w' ⟨rfl, rfl⟩)
  refine (new_any _ _ _).mono ?_
  rintro e w1 ⟨rfl, b1⟩
  go_wp2_with fail
  refine (string_any _ _ _ (by omega) (by omega) ha).mono ?_
  rintro e w2 ⟨rfl, b2⟩
  go_wp2_with fail
  refine (new_any _ _ _).mono ?_
  rintro e w3 ⟨rfl, b3⟩
  go_wp2_with fail
  refine (string_any _ _ _ (by omega) (by omega) hb).mono ?_
  rintro e w4 ⟨rfl, b4⟩
  go_wp2
  go_ret
  exact ⟨rfl, four b1 b2 b3 b4⟩
set_option maxHeartbeats 1000000 in
theorem inj22t (a b : ByteArray) (w : World) (h : a.size + b.size ≤ 1048576) (hab : (a.toList == b.toList) = true) :
    Calls Tryd.prog 4 #[.int .i64 2, .string a, .int .i64 2, .string b] w fun e w' => e = .returned (.bool true) ∧ Below w.heap.size w w' := by
  have ha : a.size ≤ 2097152 := by omega
  have hb : b.size ≤ 2097152 := by omega
  have f1 : ((nm 2 a).toList == (nm 2 b).toList) = true := by rw [nm_alike 2 a b (by omega), hab]
  have f2 : (nm 2 a).toList.isEmpty = false := by rw [nm_empty]; rfl
  have f3 : (nm 2 b).toList.isEmpty = false := by rw [nm_empty]; rfl
  go_enter Tryd.func4, Tryd.ntmps4
  go_wp2_with (go_at_call 9; refine (bytes9_yes _ _ _ _ _ h).mono ?_; rintro e w' ⟨rfl, rfl⟩)
  refine (new_any _ _ _).mono ?_
  rintro e w1 ⟨rfl, b1⟩
  go_wp2_with fail
  refine (string_any _ _ _ (by omega) (by omega) ha).mono ?_
  rintro e w2 ⟨rfl, b2⟩
  go_wp2_with fail
  refine (new_any _ _ _).mono ?_
  rintro e w3 ⟨rfl, b3⟩
  go_wp2_with fail
  refine (string_any _ _ _ (by omega) (by omega) hb).mono ?_
  rintro e w4 ⟨rfl, b4⟩
  go_wp2
  go_ret
  exact ⟨rfl, four b1 b2 b3 b4⟩
set_option maxHeartbeats 1000000 in
theorem inj22f (a b : ByteArray) (w : World) (h : a.size + b.size ≤ 1048576) (hab : (a.toList == b.toList) = false) :
    Calls Tryd.prog 4 #[.int .i64 2, .string a, .int .i64 2, .string b] w fun e w' => e = .returned (.bool true) ∧ Below w.heap.size w w' := by
  have ha : a.size ≤ 2097152 := by omega
  have hb : b.size ≤ 2097152 := by omega
  have f1 : ((nm 2 a).toList == (nm 2 b).toList) = false := by rw [nm_alike 2 a b (by omega), hab]
  have f2 : (nm 2 a).toList.isEmpty = false := by rw [nm_empty]; rfl
  have f3 : (nm 2 b).toList.isEmpty = false := by rw [nm_empty]; rfl
  go_enter Tryd.func4, Tryd.ntmps4
  go_wp2_with (go_at_call 9; refine (bytes9_yes _ _ _ _ _ h).mono ?_; rintro e w' ⟨rfl, rfl⟩)
  refine (new_any _ _ _).mono ?_
  rintro e w1 ⟨rfl, b1⟩
  go_wp2_with fail
  refine (string_any _ _ _ (by omega) (by omega) ha).mono ?_
  rintro e w2 ⟨rfl, b2⟩
  go_wp2_with fail
  refine (new_any _ _ _).mono ?_
  rintro e w3 ⟨rfl, b3⟩
  go_wp2_with fail
  refine (string_any _ _ _ (by omega) (by omega) hb).mono ?_
  rintro e w4 ⟨rfl, b4⟩
  go_wp2
  go_ret
  exact ⟨rfl, four b1 b2 b3 b4⟩

theorem inj_in (p q : Int) (a b : ByteArray) (w : World) (h : a.size + b.size ≤ 1048576) (hp : 0 ≤ p ∧ p ≤ 2) (hq : 0 ≤ q ∧ q ≤ 2) :
    Calls Tryd.prog 4 #[.int .i64 p, .string a, .int .i64 q, .string b] w fun e w' => e = .returned (.bool true) ∧ Below w.heap.size w w' := by
  have h1 : p = 0 ∨ p = 1 ∨ p = 2 := by omega
  have h2 : q = 0 ∨ q = 1 ∨ q = 2 := by omega
  rcases h1 with rfl | rfl | rfl
  · rcases h2 with rfl | rfl | rfl
    · exact inj00 a b w h
    · exact inj01 a b w h
    · exact inj02 a b w h
  · rcases h2 with rfl | rfl | rfl
    · exact inj10 a b w h
    · cases hab : (a.toList == b.toList)
      · exact inj11f a b w h hab
      · exact inj11t a b w h hab
    · exact inj12 a b w h
  · rcases h2 with rfl | rfl | rfl
    · exact inj20 a b w h
    · exact inj21 a b w h
    · cases hab : (a.toList == b.toList)
      · exact inj22f a b w h hab
      · exact inj22t a b w h hab

set_option maxHeartbeats 1000000 in
theorem inj_any (p q : Int) (a b : ByteArray) (w : World) (ha : a.size ≤ maxLen) (hb : b.size ≤ maxLen) :
    Calls Tryd.prog 4 #[.int .i64 p, .string a, .int .i64 q, .string b] w fun e w' => e = .returned (.bool true) ∧ Below w.heap.size w w' := by
  by_cases h : a.size + b.size ≤ 1048576
  · by_cases hp : 0 ≤ p ∧ p ≤ 2
    · by_cases hq : 0 ≤ q ∧ q ≤ 2
      · exact inj_in p q a b w h hp hq
      · obtain ⟨p1, p2⟩ := hp
        have hq' : q < 0 ∨ (0 ≤ q ∧ 2 < q) := by omega
        clear hq
        rcases hq' with q1 | ⟨q1, q2⟩
        all_goals
          go_enter Tryd.func4, Tryd.ntmps4
          go_wp2_with (go_at_call 9; refine (bytes9_yes _ _ _ _ _ h).mono ?_; rintro e w' ⟨rfl, rfl⟩)
          go_ret
          exact ⟨rfl, Below.refl _ _⟩
    · have hp' : p < 0 ∨ (0 ≤ p ∧ 2 < p) := by omega
      clear hp
      rcases hp' with q1 | ⟨q1, q2⟩
      all_goals
        go_enter Tryd.func4, Tryd.ntmps4
        go_wp2_with (go_at_call 9; refine (bytes9_yes _ _ _ _ _ h).mono ?_; rintro e w' ⟨rfl, rfl⟩)
        go_ret
        exact ⟨rfl, Below.refl _ _⟩
  · go_enter Tryd.func4, Tryd.ntmps4
    go_wp2_with (go_at_call 9; refine (bytes9_no _ _ _ _ _ ha hb h).mono ?_; rintro e w' ⟨rfl, rfl⟩)
    go_ret
    exact ⟨rfl, Below.refl _ _⟩
end Go.Proofs.Qxb6628456aDoor
