import Derived.Test.Qxb6628456aDoorInj
namespace Go.Proofs.Qxb6628456aDoor
open Go.ChangeShapes Go.WideShapes Go.ChangeAt Go.RowKit

set_option maxHeartbeats 1000000 in
theorem ends_yes (s t : ByteArray) (w : World) (hs : s.size ≤ 4194304) (hst : t.size ≤ s.size) (hh : ∀ i (h : i < t.size), s[s.size - t.size + i]'(by omega) = t[i]) :
    Calls Tryd.prog 8 #[.string s, .string t] w fun e w' => e = .returned (.bool true) ∧ ∃ n, w' = w.drewN n := by
  have HH := hide hh
  clear hh
  go_enter Tryd.func8, Tryd.ntmps8
  go_wp2
  go_loopw [6] (fun j wr => ∃ k n : Nat, k ≤ t.size ∧ j = .int .i64 k ∧ wr = w.drewN n) (fun j _ => t.size - (intOf j).toNat)
  case atStart => exact ⟨0, 0, by omega, rfl, rfl⟩
  case round =>
    obtain ⟨k, n, hk, rfl, rfl⟩ := hrel
    by_cases hlt : k < t.size
    · have hx : s.size - t.size + k < s.size := by omega
      have hx1 : (s.size : Int) - (t.size : Int) + (k : Int) < (s.size : Int) := by omega
      have hx2 : (0 : Int) ≤ (s.size : Int) - (t.size : Int) + (k : Int) := by omega
      have hne : ((s[s.size - t.size + k].toNat : Int) != (t[k].toNat : Int)) = false := by rw [HH.out k hlt]; simp
      go_wp2_with fail
      go_quiet (fail)
      go_wp2
      go_roundw
      case rel => exact ⟨k + 1, _, by omega, by go_num, rfl⟩
      case measure => simp [intOf]; omega
    · go_wp2
      go_ret
      exact ⟨rfl, n, rfl⟩

theorem nm_size (p : Int) (a : ByteArray) (hp : 1 ≤ p ∧ p ≤ 2) : (nm p a).size = a.size + (pre p).size ∧ 4 ≤ (pre p).size ∧ (pre p).size ≤ 6 := by
  have h1 : p = 1 ∨ p = 2 := by omega
  rcases h1 with rfl | rfl
  · refine ⟨?_, by decide, by decide⟩; show (pre 1 ++ a).size = _; rw [ByteArray.size_append]; omega
  · refine ⟨?_, by decide, by decide⟩; show (pre 2 ++ a).size = _; rw [ByteArray.size_append]; omega
theorem nm_get (p : Int) (a : ByteArray) (hp : 1 ≤ p ∧ p ≤ 2) (i : Nat) (h : i < a.size) (h2 : (nm p a).size - a.size + i < (nm p a).size) : (nm p a)[(nm p a).size - a.size + i] = a[i] := by
  have e := nm_size p a hp
  have hn : nm p a = pre p ++ a := by unfold nm; rw [if_neg (by omega)]
  have hx : (nm p a).size - a.size + i = (pre p).size + i := by omega
  have key : ∀ (s : ByteArray) (j : Nat) (hj : j < s.size), s = pre p ++ a → j = (pre p).size + i → s[j] = a[i] := by
    intro s j hj e1 e2
    subst e1; subst e2
    rw [ByteArray.getElem_append_right (by omega)]
    simp
  exact key _ _ h2 hn hx
theorem nm_colon (p : Int) (a : ByteArray) (hp : 1 ≤ p ∧ p ≤ 2) (h2 : (nm p a).size - a.size - 1 < (nm p a).size) : (nm p a)[(nm p a).size - a.size - 1] = 58 := by
  have e := nm_size p a hp
  have hn : nm p a = pre p ++ a := by unfold nm; rw [if_neg (by omega)]
  have hx : (nm p a).size - a.size - 1 = (pre p).size - 1 := by omega
  have key : ∀ (s : ByteArray) (j : Nat) (hj : j < s.size), s = pre p ++ a → j = (pre p).size - 1 → s[j] = 58 := by
    intro s j hj e1 e2
    subst e1; subst e2
    rw [ByteArray.getElem_append_left (by omega)]
    have h1 : p = 1 ∨ p = 2 := by omega
    rcases h1 with rfl | rfl <;> rfl
  exact key _ _ h2 hn hx
theorem nm_app (p : Int) (a b : ByteArray) (hp : 1 ≤ p ∧ p ≤ 2) : nm p a ++ b = nm p (a ++ b) := by
  unfold nm; rw [if_neg (by omega), if_neg (by omega), ByteArray.append_assoc]

set_option maxHeartbeats 1000000 in
theorem cut_in (p : Int) (a b : ByteArray) (w : World) (h : a.size + b.size ≤ 1048576) (hp : 1 ≤ p ∧ p ≤ 2) :
    Calls Tryd.prog 3 #[.int .i64 p, .string a, .string b] w fun e w' => e = .returned (.bool true) ∧ Below w.heap.size w w' := by
  have ha : a.size ≤ 2097152 := by omega
  have hab : (a ++ b).size ≤ 2097152 := by rw [ByteArray.size_append]; omega
  have hsz := nm_size p a hp
  have l1 : a.size < (nm p a).size := by omega
  have l2 : (nm p a).size ≤ 1048582 := by omega
  have HG := hide (nm_get p a hp)
  have HC := hide (nm_colon p a hp)
  have hEq : ((nm p (a ++ b)).toList == (nm p a ++ b).toList) = true := by rw [nm_app p a b hp]; simp
  obtain ⟨hp1, hp2⟩ := hp
  clear hsz
  go_enter Tryd.func3, Tryd.ntmps3
  go_wp2_with (go_at_call 5; refine (bytes5_yes _ _ _ _ h).mono ?_; rintro e w' ⟨rfl, rfl⟩)
  refine (new_any _ _ _).mono ?_
  rintro e w1 ⟨rfl, b1⟩
  go_wp2_with fail
  refine (string_any _ _ _ (by omega) (by omega) hab).mono ?_
  rintro e w2 ⟨rfl, b2⟩
  go_wp2_with fail
  refine (new_any _ _ _).mono ?_
  rintro e w3 ⟨rfl, b3⟩
  go_wp2_with fail
  refine (string_any _ _ _ (by omega) (by omega) ha).mono ?_
  rintro e w4 ⟨rfl, b4⟩
  have l3 : (nm p a).size - a.size - 1 < (nm p a).size := by omega
  have hcol : (((nm p a)[(nm p a).size - a.size - 1].toNat : Int) == 58) = true := by rw [HC.out l3]; rfl
  go_wp2_with fail
  refine (ends_yes _ _ _ (by omega) (by omega) (fun i hi => HG.out i hi (by omega))).mono ?_
  rintro e w5 ⟨rfl, n5, rfl⟩
  go_wp2
  go_ret
  exact ⟨rfl, below_drewN (four b1 b2 b3 b4) _⟩

set_option maxHeartbeats 1000000 in
theorem cut_zero (a b : ByteArray) (w : World) (h : a.size + b.size ≤ 1048576) :
    Calls Tryd.prog 3 #[.int .i64 0, .string a, .string b] w fun e w' => e = .returned (.bool true) ∧ Below w.heap.size w w' := by
  have ha : a.size ≤ 2097152 := by omega
  have hab : (a ++ b).size ≤ 2097152 := by rw [ByteArray.size_append]; omega
  have f1 := nm_zero a
  have f2 := nm_zero (a ++ b)
  go_enter Tryd.func3, Tryd.ntmps3
  go_wp2_with (go_at_call 5; refine (bytes5_yes _ _ _ _ h).mono ?_; rintro e w' ⟨rfl, rfl⟩)
  refine (new_any _ _ _).mono ?_
  rintro e w1 ⟨rfl, b1⟩
  go_wp2_with fail
  refine (string_any _ _ _ (by omega) (by omega) hab).mono ?_
  rintro e w2 ⟨rfl, b2⟩
  go_wp2_with fail
  refine (new_any _ _ _).mono ?_
  rintro e w3 ⟨rfl, b3⟩
  go_wp2_with fail
  refine (string_any _ _ _ (by omega) (by omega) ha).mono ?_
  rintro e w4 ⟨rfl, b4⟩
  go_wp2
  go_ret
  exact ⟨rfl, four b1 b2 b3 b4⟩

set_option maxHeartbeats 1000000 in
theorem cut_any (p : Int) (a b : ByteArray) (w : World) (_hp : (Lit.int .i64 p).wf = true) (ha : a.size ≤ maxLen) (hb : b.size ≤ maxLen) :
    Calls Tryd.prog 3 #[.int .i64 p, .string a, .string b] w fun e w' => e = .returned (.bool true) ∧ Below w.heap.size w w' := by
  by_cases h : a.size + b.size ≤ 1048576
  · by_cases hp : 0 ≤ p ∧ p ≤ 2
    · by_cases hz : p = 0
      · subst hz; exact cut_zero a b w h
      · exact cut_in p a b w h (by omega)
    · have hp' : p < 0 ∨ (0 ≤ p ∧ 2 < p) := by omega
      clear hp
      rcases hp' with q1 | ⟨q1, q2⟩
      all_goals
        go_enter Tryd.func3, Tryd.ntmps3
        go_wp2_with (go_at_call 5; refine (bytes5_yes _ _ _ _ h).mono ?_; rintro e w' ⟨rfl, rfl⟩)
        go_ret
        exact ⟨rfl, Below.refl _ _⟩
  · go_enter Tryd.func3, Tryd.ntmps3
    go_wp2_with (go_at_call 5; refine (bytes5_no _ _ _ _ ha hb h).mono ?_; rintro e w' ⟨rfl, rfl⟩)
    go_ret
    exact ⟨rfl, Below.refl _ _⟩
end Go.Proofs.Qxb6628456aDoor
