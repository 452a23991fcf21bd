import Derived.Test.Qxb6628380aRows
import Derived.Test.Qxb6628380aPlain
import Derived.WalkKit
import Derived.ProofKit
namespace Go.Proofs.Qxb6628380a
open Go.ChangeShapes Go.WideShapes Go.ChangeAt Go.RowKit

theorem ret_bool {a b : Bool} (h : a = b) : Ending.returned (.bool a) = .returned (.bool b) := by rw [h]

set_option maxHeartbeats 400000 in
theorem in_any (c : Int) (w : World) (h0 : 0 ≤ c) (h1 : c ≤ 255) :
    Calls Try.prog 5 #[.int .u8 c] w fun e w' => e = .returned (.bool (alnum c)) ∧ w' = w := by
  go_enter Try.func5, Try.ntmps5
  go_wp2
  go_loop [3] (fun j => ∃ k : Nat, k ≤ 62 ∧ j = .int .i64 k ∧ ∀ x, x < k → abc.getD x 0 ≠ c) (fun j => 62 - (intOf j).toNat)
  case atStart => exact ⟨0, by omega, rfl, fun x hx => absurd hx (Nat.not_lt_zero _)⟩
  case round =>
    obtain ⟨k, hk, rfl, hno⟩ := hrel
    have HN : Hid (∀ x, x < k → abc.getD x 0 ≠ c) := hno
    clear hno
    by_cases hlt : k < 62
    · have HA := abc_ba ⟨k, hlt⟩
      have HB : Hid _ := HA
      clear HA
      go_wp2
      · rename_i h _
        have ha := HB.out
        simp only [beq_iff_eq] at h
        go_ret
        exact ⟨ret_bool (abc_hit c k hlt (ha ▸ h)).symm, rfl⟩
      · rename_i h
        have ha := HB.out
        simp only [beq_eq_false_iff_ne] at h
        go_round
        case rel => exact ⟨k + 1, by omega, by go_num, fun x hx => if e : x = k then by subst e; exact fun h' => h (ha.trans h') else HN.out x (by omega)⟩
        case measure => simp [intOf]; omega
    · go_wp2
      go_ret
      exact ⟨ret_bool (abc_no c h0 h1 (fun x hx => HN.out x (by omega))).symm, rfl⟩

theorem len_data (s : ByteArray) : s.data.toList.length = s.size := rfl
theorem isEmpty_of (s : ByteArray) (h : s.size ≠ 0) : s.toList.isEmpty = false := by
  rw [ByteArray.toList_eq]
  cases e : s.data.toList with
  | nil => exact absurd (by rw [← len_data, e]; rfl) h
  | cons a l => rfl
theorem hide {p : Prop} (h : p) : Hid p := h
theorem alB_yes (s : ByteArray) (k : Nat) (h : k < s.size) (hc : 48 ≤ (s[k].toNat : Int) ∧ (s[k].toNat : Int) ≤ 57 ∨ 65 ≤ (s[k].toNat : Int) ∧ (s[k].toNat : Int) ≤ 90 ∨ 97 ≤ (s[k].toNat : Int) ∧ (s[k].toNat : Int) ≤ 122) :
    alB (s.data.toList[k]'h) = true := by
  unfold alB alnum; exact decide_eq_true hc
theorem alB_no (s : ByteArray) (k : Nat) (h : k < s.size) (hc : ¬ (48 ≤ (s[k].toNat : Int) ∧ (s[k].toNat : Int) ≤ 57 ∨ 65 ≤ (s[k].toNat : Int) ∧ (s[k].toNat : Int) ≤ 90 ∨ 97 ≤ (s[k].toNat : Int) ∧ (s[k].toNat : Int) ≤ 122)) :
    alB (s.data.toList[k]'h) = false := by
  unfold alB alnum; exact decide_eq_false hc
theorem vc_no (l : List UInt8) (k : Nat) (h : k < l.length) (hn : alB l[k] = false) : vc l = false := by
  unfold vc
  have : l.all alB = false := by
    rw [List.all_eq_false]; exact ⟨l[k], List.getElem_mem h, by simp [hn]⟩
  rw [this, Bool.and_false]
theorem vc_yes (l : List UInt8) (h1 : 1 ≤ l.length) (h9 : l.length ≤ 9) (h : (l.take l.length).all alB = true) : vc l = true := by
  unfold vc; rw [List.take_length] at h; simp [h, h1, h9]

set_option maxHeartbeats 400000 in
theorem valid_any (s : ByteArray) (w : World) (hs : s.size ≤ 1048576) :
    Calls Try.prog 6 #[.string s] w fun e w' => e = .returned (.bool (vc s.data.toList)) ∧ w' = w := by
  by_cases he : s.size = 0
  · have hl : s.data.toList = [] := List.length_eq_zero_iff.1 he
    have hv : vc s.data.toList = false := by rw [hl]; rfl
    have ht : s.toList = [] := by rw [ByteArray.toList_eq, hl]
    rw [hv]
    go_enter Try.func6, Try.ntmps6
    go_wp2
    go_ret
    exact ⟨rfl, rfl⟩
  have ht := isEmpty_of s he
  by_cases h9 : s.size ≤ 9
  · have h1 : 1 ≤ s.size := by omega
    have hv := vc_yes s.data.toList (by rw [len_data]; omega) (by rw [len_data]; omega)
    have HV : Hid _ := hv
    clear hv
    go_enter Try.func6, Try.ntmps6
    go_wp2
    go_loop [3] (fun j => ∃ k : Nat, k ≤ s.size ∧ j = .int .i64 k ∧ (s.data.toList.take k).all alB = true) (fun j => s.size - (intOf j).toNat)
    case atStart => exact ⟨0, by omega, rfl, rfl⟩
    case round =>
      obtain ⟨k, hk, rfl, hall⟩ := hrel
      have HL : Hid _ := hall
      clear hall
      by_cases hlt : k < s.size
      · by_cases hc : 48 ≤ (s[k].toNat : Int) ∧ (s[k].toNat : Int) ≤ 57 ∨ 65 ≤ (s[k].toNat : Int) ∧ (s[k].toNat : Int) ≤ 90 ∨ 97 ≤ (s[k].toNat : Int) ∧ (s[k].toNat : Int) ≤ 122
        · have HS := hide (all_take_succ _ k hlt HL.out (alB_yes s k hlt hc))
          rcases hc with ⟨c1, c2⟩ | ⟨c1, c2⟩ | ⟨c1, c2⟩
          all_goals
            go_wp2
            go_round
            case rel => exact ⟨k + 1, by omega, by go_num, HS.out⟩
            case measure => simp [intOf]; omega
        · have HS := hide (vc_no s.data.toList k hlt (alB_no s k hlt hc))
          have hcc : (s[k].toNat : Int) < 48 ∨ (57 < (s[k].toNat : Int) ∧ (s[k].toNat : Int) < 65) ∨ (90 < (s[k].toNat : Int) ∧ (s[k].toNat : Int) < 97) ∨ 122 < (s[k].toNat : Int) := by omega
          clear hc
          rcases hcc with c1 | ⟨c1, c2⟩ | ⟨c1, c2⟩ | c1
          all_goals go_wp2
          all_goals first
            | (go_ret; exact ⟨ret_bool HS.out.symm, rfl⟩)
            | (exfalso; rename_i h; simp at h; omega)
      · go_wp2
        go_ret
        exact ⟨ret_bool (HV.out (by rw [len_data, show s.size = k by omega]; exact HL.out)).symm, rfl⟩
  · have hv : vc s.data.toList = false := by unfold vc; rw [len_data]; simp; omega
    rw [hv]
    go_enter Try.func6, Try.ntmps6
    go_wp2
    go_ret
    exact ⟨rfl, rfl⟩

theorem take_extract (s : ByteArray) (k : Nat) : (s.extract 0 k).data.toList = s.data.toList.take k := by
  simp [ByteArray.extract, ByteArray.copySlice]

end Go.Proofs.Qxb6628380a
