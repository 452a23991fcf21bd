import Derived.Test.Qxb6628380aWalks
namespace Go.Proofs.Qxb6628380a
open Go.ChangeShapes Go.WideShapes Go.ChangeAt Go.RowKit

/-- What ofd.ValidCode answers of a string. -/
def vcS (s : ByteArray) : Bool := vc s.data.toList
theorem vcS_take (s : ByteArray) (m k : Nat) (b : Bool) (hm : m ≤ s.size) (hr : runOf s.data.toList = k) (hb : b = decide (1 ≤ m ∧ m ≤ 9 ∧ m ≤ k)) : vcS (s.extract 0 m) = b := by
  unfold vcS; rw [take_extract, vc_take _ _ hm, hr, hb]
theorem valid_call (s : ByteArray) (w : World) (hs : s.size ≤ 1048576) :
    Calls Try.prog 6 #[.string s] w fun e w' => e = .returned (.bool (vcS s)) ∧ w' = w := valid_any s w hs
theorem ext_size (s : ByteArray) (m : Nat) (h : s.size ≤ 1048576) : (s.extract 0 m).size ≤ 1048576 := by
  simp [ByteArray.size_extract]; omega

theorem bytes_any (s : ByteArray) (w : World) (hs : s.size ≤ 1048576) :
    Calls Try.prog 4 #[.string s] w fun e w' => e = .returned (.bool true) ∧ w' = w := by
  go_enter Try.func4, Try.ntmps4
  go_wp2
  go_ret
  exact ⟨rfl, rfl⟩

set_option maxHeartbeats 1000000 in
theorem law_any (s : ByteArray) (w : World) (hs : s.size ≤ maxLen) :
    Calls Try.prog 3 #[.string s] w fun e w' => e = .returned (.bool true) ∧ w' = w := by
  unfold maxLen at hs
  by_cases hbig : s.size ≤ 1048576
  · go_enter Try.func3, Try.ntmps3
    go_wp2_with (go_at_call 4; refine (bytes_any _ _ hbig).mono ?_; rintro e w' ⟨rfl, rfl⟩)
    go_loop [3] (fun j => ∃ k : Nat, k ≤ s.size ∧ j = .int .i64 k ∧ (s.data.toList.take k).all alB = true) (fun j => s.size - (intOf j).toNat)
    case atStart => exact ⟨0, by omega, rfl, rfl⟩
    case round =>
      obtain ⟨k, hk, rfl, hall⟩ := hrel
      have HL : Hid _ := hall
      clear hall
      by_cases hgo : ∃ hlt : k < s.size, alB (s.data.toList[k]'hlt) = true
      · obtain ⟨hlt, hc⟩ := hgo
        have HS := hide (all_take_succ _ k hlt HL.out hc)
        have hc' : alnum (s[k].toNat : Int) = true := hc
        clear hc
        go_wp2_with (go_at_call 5; refine (in_any _ _ (by omega) (by have := s[k].toNat_lt; omega)).mono ?_; rintro e w' ⟨rfl, rfl⟩)
        go_round
        case rel => exact ⟨k + 1, by omega, by go_num, HS.out⟩
        case measure => simp [intOf]; omega
      · have HR := hide (run_stop _ k hk HL.out (fun h => by cases e : alB (s.data.toList[k]'h) with | false => rfl | true => exact absurd ⟨h, e⟩ hgo))
        have hno : ∀ h : k < s.size, alnum (s[k].toNat : Int) = false := fun h => by
          cases e : alnum (s[k].toNat : Int) with
          | false => rfl
          | true => exact absurd ⟨h, e⟩ hgo
        have HN : Hid _ := hno
        clear hgo hno
        by_cases hlt : k < s.size
        · have hc' := HN.out hlt
          go_wp2_with (go_at_call 5; refine (in_any _ _ (by omega) (by have := s[k].toNat_lt; omega)).mono ?_; rintro e w' ⟨rfl, rfl⟩)
          go_loop [4, 5] (fun j _ => ∃ m : Nat, m ≤ s.size + 1 ∧ j = .int .i64 m) (fun j _ => s.size + 1 - (intOf j).toNat)
          case atStart => exact ⟨0, by omega, rfl⟩
          case round =>
            obtain ⟨m, hm, rfl⟩ := hrel
            by_cases hle : m ≤ s.size
            · have hx := ext_size s m hbig
              by_cases hw : 1 ≤ m ∧ m ≤ 9 ∧ m ≤ k
              · have hv := vcS_take s m k true hle HR.out (by simp [hw])
                obtain ⟨x1, x2, x3⟩ := hw
                go_wp2_with (go_at_call 6; refine (valid_call _ _ hx).mono ?_; rintro e w' ⟨rfl, rfl⟩)
                go_round
                case rel => exact ⟨m + 1, by omega, by go_num⟩
                case measure => simp [intOf]; omega
              · have hv := vcS_take s m k false hle HR.out (by simp only [hw, decide_false])
                have hww : m < 1 ∨ (1 ≤ m ∧ 9 < m) ∨ (1 ≤ m ∧ m ≤ 9 ∧ k < m) := by omega
                clear hw
                rcases hww with x1 | ⟨x1, x2⟩ | ⟨x1, x2, x3⟩
                all_goals
                  go_wp2_with (go_at_call 6; refine (valid_call _ _ hx).mono ?_; rintro e w' ⟨rfl, rfl⟩)
                  go_round
                  case rel => exact ⟨m + 1, by omega, by go_num⟩
                  case measure => simp [intOf]; omega
            · go_wp2
              go_ret
              exact ⟨rfl, rfl⟩
        · go_wp2_with fail
          go_loop [4, 5] (fun j _ => ∃ m : Nat, m ≤ s.size + 1 ∧ j = .int .i64 m) (fun j _ => s.size + 1 - (intOf j).toNat)
          case atStart => exact ⟨0, by omega, rfl⟩
          case round =>
            obtain ⟨m, hm, rfl⟩ := hrel
            by_cases hle : m ≤ s.size
            · have hx := ext_size s m hbig
              by_cases hw : 1 ≤ m ∧ m ≤ 9 ∧ m ≤ k
              · have hv := vcS_take s m k true hle HR.out (by simp [hw])
                obtain ⟨x1, x2, x3⟩ := hw
                go_wp2_with (go_at_call 6; refine (valid_call _ _ hx).mono ?_; rintro e w' ⟨rfl, rfl⟩)
                go_round
                case rel => exact ⟨m + 1, by omega, by go_num⟩
                case measure => simp [intOf]; omega
              · have hv := vcS_take s m k false hle HR.out (by simp only [hw, decide_false])
                have hww : m < 1 ∨ (1 ≤ m ∧ 9 < m) := by omega
                clear hw
                rcases hww with x1 | ⟨x1, x2⟩
                all_goals
                  go_wp2_with (go_at_call 6; refine (valid_call _ _ hx).mono ?_; rintro e w' ⟨rfl, rfl⟩)
                  go_round
                  case rel => exact ⟨m + 1, by omega, by go_num⟩
                  case measure => simp [intOf]; omega
            · go_wp2
              go_ret
              exact ⟨rfl, rfl⟩
  · go_enter Try.func3, Try.ntmps3
    go_wp2
    go_ret
    exact ⟨rfl, rfl⟩
end Go.Proofs.Qxb6628380a
