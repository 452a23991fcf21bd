import Derived.Test.Qxb6628456aDoorRows
import Derived.WalkKit
import Derived.ProofKit
import Derived.Deep.QuietTactic
import Derived.BigQuiet
import Derived.WalkSpells
import Derived.WalkSmall
namespace Go.Proofs.Qxb6628456aDoor
open Go.ChangeShapes Go.WideShapes Go.ChangeAt Go.RowKit

theorem hide {p : Prop} (h : p) : Hid p := h
theorem ret_bool {a b : Bool} (h : a = b) : Ending.returned (.bool a) = .returned (.bool b) := by rw [h]

/-- What stands ahead of the key. -/
def pre (p : Int) : ByteArray := if p = 1 then ⟨#[108, 97, 98, 101, 108, 58]⟩ else ⟨#[101, 110, 118, 58]⟩
/-- What a source prints. -/
def nm (p : Int) (key : ByteArray) : ByteArray := if p = 0 then ByteArray.empty else pre p ++ key

set_option maxHeartbeats 400000 in
theorem new_any (p : Int) (key : ByteArray) (w : World) :
    Calls Tryd.prog 6 #[.int .i64 p, .string key] w fun e w' => e = .returned (.agg #[.int .i64 p, .string key]) ∧ Below w.heap.size w w' := by
  go_enter Tryd.func6, Tryd.ntmps6
  go_wp2
  exact bodyPost_ret (v := .agg #[.int .i64 p, .string key]) (by simp [results, Tryd.results6, go_sem]) rfl ⟨rfl, (Below.refl _ _).alloc (Nat.le_refl _) _⟩

theorem place1 (w : World) :
    Calls Tryd.prog 10 #[.int .i64 1] w fun e w' => e = .returned (.string ⟨#[108, 97, 98, 101, 108]⟩) ∧ w' = w := by
  go_enter Tryd.func10, Tryd.ntmps10
  go_wp2
  go_ret
  exact ⟨rfl, rfl⟩
theorem place2 (w : World) :
    Calls Tryd.prog 10 #[.int .i64 2] w fun e w' => e = .returned (.string ⟨#[101, 110, 118]⟩) ∧ w' = w := by
  go_enter Tryd.func10, Tryd.ntmps10
  go_wp2
  go_ret
  exact ⟨rfl, rfl⟩

set_option maxHeartbeats 400000 in
theorem string0 (key : ByteArray) (w : World) :
    Calls Tryd.prog 7 #[.agg #[.int .i64 0, .string key]] w fun e w' => e = .returned (.string ByteArray.empty) ∧ Below w.heap.size w w' := by
  go_enter Tryd.func7, Tryd.ntmps7
  go_wp2
  go_ret
  exact ⟨rfl, (Below.refl _ _).alloc (Nat.le_refl _) _⟩
theorem app_lab (key : ByteArray) : (⟨#[108, 97, 98, 101, 108]⟩ : ByteArray) ++ ⟨#[58]⟩ ++ key = nm 1 key := rfl
theorem app_env (key : ByteArray) : (⟨#[101, 110, 118]⟩ : ByteArray) ++ ⟨#[58]⟩ ++ key = nm 2 key := rfl
theorem ret_str {a b : ByteArray} (h : a = b) : Ending.returned (.string a) = .returned (.string b) := by rw [h]
set_option maxHeartbeats 400000 in
theorem string1 (key : ByteArray) (w : World) (hk : key.size ≤ 2097152) :
    Calls Tryd.prog 7 #[.agg #[.int .i64 1, .string key]] w fun e w' => e = .returned (.string (nm 1 key)) ∧ Below w.heap.size w w' := by
  go_enter Tryd.func7, Tryd.ntmps7
  go_wp2
  go_quiet ((go_at_call 10; exact Calls.quiet_of_same (place1 _)))
  go_wp2
  go_ret
  exact ⟨ret_str (app_lab key), below_drewN ((Below.refl _ _).alloc (Nat.le_refl _) _) _⟩
set_option maxHeartbeats 400000 in
theorem string2 (key : ByteArray) (w : World) (hk : key.size ≤ 2097152) :
    Calls Tryd.prog 7 #[.agg #[.int .i64 2, .string key]] w fun e w' => e = .returned (.string (nm 2 key)) ∧ Below w.heap.size w w' := by
  go_enter Tryd.func7, Tryd.ntmps7
  go_wp2
  go_quiet ((go_at_call 10; exact Calls.quiet_of_same (place2 _)))
  go_wp2
  go_ret
  exact ⟨ret_str (app_env key), below_drewN ((Below.refl _ _).alloc (Nat.le_refl _) _) _⟩
theorem string_any (p : Int) (key : ByteArray) (w : World) (h0 : 0 ≤ p) (h2 : p ≤ 2) (hk : key.size ≤ 2097152) :
    Calls Tryd.prog 7 #[.agg #[.int .i64 p, .string key]] w fun e w' => e = .returned (.string (nm p key)) ∧ Below w.heap.size w w' := by
  have h : p = 0 ∨ p = 1 ∨ p = 2 := by omega
  rcases h with rfl | rfl | rfl
  · exact string0 key w
  · exact string1 key w hk
  · exact string2 key w hk

set_option maxHeartbeats 400000 in
theorem bytes9_yes (p q : Int) (a b : ByteArray) (w : World) (h : a.size + b.size ≤ 1048576) :
    Calls Tryd.prog 9 #[.int .i64 p, .string a, .int .i64 q, .string b] w fun e w' => e = .returned (.bool true) ∧ w' = w := by
  go_enter Tryd.func9, Tryd.ntmps9
  go_wp2
  go_ret
  exact ⟨rfl, rfl⟩
set_option maxHeartbeats 400000 in
theorem bytes9_no (p q : Int) (a b : ByteArray) (w : World) (ha : a.size ≤ maxLen) (hb : b.size ≤ maxLen) (h : ¬ a.size + b.size ≤ 1048576) :
    Calls Tryd.prog 9 #[.int .i64 p, .string a, .int .i64 q, .string b] w fun e w' => e = .returned (.bool false) ∧ w' = w := by
  unfold maxLen at ha hb
  by_cases h1 : a.size ≤ 1048576
  · by_cases h2 : b.size ≤ 1048576
    all_goals
      go_enter Tryd.func9, Tryd.ntmps9
      go_wp2
      go_ret
      exact ⟨rfl, rfl⟩
  · go_enter Tryd.func9, Tryd.ntmps9
    go_wp2
    go_ret
    exact ⟨rfl, rfl⟩
set_option maxHeartbeats 400000 in
theorem bytes5_yes (p : Int) (a b : ByteArray) (w : World) (h : a.size + b.size ≤ 1048576) :
    Calls Tryd.prog 5 #[.int .i64 p, .string a, .string b] w fun e w' => e = .returned (.bool true) ∧ w' = w := by
  go_enter Tryd.func5, Tryd.ntmps5
  go_wp2
  go_ret
  exact ⟨rfl, rfl⟩
set_option maxHeartbeats 400000 in
theorem bytes5_no (p : Int) (a b : ByteArray) (w : World) (ha : a.size ≤ maxLen) (hb : b.size ≤ maxLen) (h : ¬ a.size + b.size ≤ 1048576) :
    Calls Tryd.prog 5 #[.int .i64 p, .string a, .string b] w fun e w' => e = .returned (.bool false) ∧ w' = w := by
  unfold maxLen at ha hb
  by_cases h1 : a.size ≤ 1048576
  · by_cases h2 : b.size ≤ 1048576
    all_goals
      go_enter Tryd.func5, Tryd.ntmps5
      go_wp2
      go_ret
      exact ⟨rfl, rfl⟩
  · go_enter Tryd.func5, Tryd.ntmps5
    go_wp2
    go_ret
    exact ⟨rfl, rfl⟩
end Go.Proofs.Qxb6628456aDoor
