import Derived.Test.Qxb6628398aCls
namespace Go.Proofs.Qxb6628398a
open Go.ChangeShapes Go.WideShapes Go.ChangeAt Go.RowKit
open Pl

set_option maxRecDepth 100000 in
set_option maxHeartbeats 2000000 in
theorem cls_pos (b off n cap : Nat) (z : List Int) (p : Nat) (c : Int) (w : World) (hz : z.length = n) (hn : n ≤ 1048576) (hp : p < n) (h94 : bt z p ≠ 94)
    (hcell : ∀ j, j < n → w.cell? ⟨b, off + j, none⟩ = some (.int .u8 (bt z j))) :
    Calls Try.prog 15 #[.slice (some ⟨b, off, none⟩) n cap, .int .i64 p, .int .u8 c] w fun e w' => e = .returned (.tuple #[.bool (clsOk z p c), .int .i64 (clsEnd z p)]) ∧ ∃ q, w' = w.drewN q := by
  have HO : Hid (clsOk z p c = clsHas c (z.drop p) 0 false) := by unfold clsOk; exact if_neg (fun h => h94 h.2)
  have HX : Hid (clsEnd z p = n - (clsRest (z.drop p) 0).length) := by unfold clsEnd Hid; rw [if_neg (fun h => h94 h.2), hz]
  have HZ := hide hz
  have HC := hide hcell
  have cp := hcell p hp
  have t94 : (bt z p == 94) = false := by simp [h94]
  clear hz hcell h94
  go_enter Try.func15, Try.ntmps15
  go_wp2
  go_loopw [1, 9, 10, 11] (fun a1 a9 _ _ wr => ∃ (k : Nat) (m : Bool) (q : Nat), k ≤ n ∧ a1 = .int .i64 k ∧ a9 = .bool m ∧ Hid (clsHas c (z.drop k) 0 m = clsHas c (z.drop p) 0 false ∧ clsRest (z.drop k) 0 = clsRest (z.drop p) 0) ∧ wr = w.drewN q) (fun a1 _ _ _ _ => n - (intOf a1).toNat)
  case atStart => exact ⟨p, false, 0, by omega, by go_num, rfl, ⟨rfl, rfl⟩, rfl⟩
  case round =>
    obtain ⟨k, m, q, hk, rfl, rfl, HI, rfl⟩ := hrel
    by_cases hlt : k < n
    · have c0 := HC.out k hlt
      by_cases h93 : bt z k = 93
      · have HE := hide (cls_close c z k m (by rw [HZ.out]; exact hlt) h93)
        have t93 : (bt z k != 93) = false := by simp [h93]
        clear h93
        go_wp2
        go_ret2
        exact ⟨ret_two (by rw [HO.out, ← HI.out.1, HE.out.1]) (by rw [HX.out, ← HI.out.2, HE.out.2, List.length_drop, HZ.out]; omega), q, rfl⟩
      · have t93 : (bt z k != 93) = true := by simp [h93]
        by_cases hesc : bt z k = 92 ∧ k + 1 < n
        · obtain ⟨h92, h1⟩ := hesc
          have HE := hide (cls_esc c z k m (by rw [HZ.out]; exact h1) h92)
          have t92 : (bt z k == 92) = true := by simp [h92]
          have c1 := HC.out (k + 1) h1
          clear h92 h93
          cases m
          all_goals
            go_wp2
            go_roundw
            case rel => exact ⟨k + 2, _, _, by omega, by go_num, rfl, ⟨HE.out.1.symm.trans HI.out.1, HE.out.2.symm.trans HI.out.2⟩, rfl⟩
            case measure => simp [intOf]; omega
        · by_cases hrg : k + 2 < n ∧ bt z (k + 1) = 45
          · obtain ⟨h2, h45⟩ := hrg
            have h92 : bt z k ≠ 92 := fun h => hesc ⟨h, by omega⟩
            have HE := hide (cls_range c z k m (by rw [HZ.out]; exact h2) h93 h92 h45)
            have t92 : (bt z k == 92) = false := by simp [h92]
            have t45 : (bt z (k + 1) == 45) = true := by simp [h45]
            have c1 := HC.out (k + 1) (by omega)
            have c2 := HC.out (k + 2) h2
            have i0 : (k : Int) < (n : Int) := by omega
            have i2 : (k : Int) + 2 < (n : Int) := by omega
            clear h92 h93 h45 hesc
            cases m
            · rcases inr_cases (bt z k) (bt z (k + 2)) c with ⟨x1, x2, HR⟩ | ⟨x1, x2, x3, HR⟩ | ⟨x1, x2, x3, HR⟩ | ⟨x1, x2, HR⟩ | ⟨x1, x2, x3, HR⟩ | ⟨x1, x2, x3, HR⟩
              all_goals
                go_wp2_with fail
                go_quiet (fail)
                go_wp2
                go_roundw
                case rel => exact ⟨k + 3, inRange (bt z k) (bt z (k + 2)) c, _, by omega, by go_num, (by first | (rw [HR.out]; done) | (rw [HR.out]; simp; omega) | (rw [HR.out]; simp; split <;> omega)), ⟨HE.out.1.symm.trans HI.out.1, HE.out.2.symm.trans HI.out.2⟩, rfl⟩
                case measure => simp [intOf]; omega
            · go_wp2_with fail
              go_quiet (fail)
              go_wp2
              go_roundw
              case rel => exact ⟨k + 3, true, _, by omega, by go_num, rfl, ⟨(by rw [← HI.out.1, HE.out.1]; rfl), HE.out.2.symm.trans HI.out.2⟩, rfl⟩
              case measure => simp [intOf]; omega
          · have HE := hide (cls_one c z k m (by rw [HZ.out]; exact hlt) h93 (by rw [HZ.out]; exact hesc) (by rw [HZ.out]; exact hrg))
            have hways : (bt z k = 92 ∧ n ≤ k + 1) ∨ (bt z k ≠ 92 ∧ n ≤ k + 2) ∨ (bt z k ≠ 92 ∧ k + 2 < n ∧ bt z (k + 1) ≠ 45) := by omega
            clear h93 hesc hrg
            rcases hways with ⟨h92, x1⟩ | ⟨h92, x1⟩ | ⟨h92, x1, h45⟩
            · have t92 : (bt z k == 92) = true := by simp [h92]
              clear h92
              cases m
              all_goals
                go_wp2
                go_roundw
                case rel => exact ⟨k + 1, _, _, by omega, by go_num, rfl, ⟨HE.out.1.symm.trans HI.out.1, HE.out.2.symm.trans HI.out.2⟩, rfl⟩
                case measure => simp [intOf]; omega
            · have t92 : (bt z k == 92) = false := by simp [h92]
              clear h92
              cases m
              all_goals
                go_wp2
                go_roundw
                case rel => exact ⟨k + 1, _, _, by omega, by go_num, rfl, ⟨HE.out.1.symm.trans HI.out.1, HE.out.2.symm.trans HI.out.2⟩, rfl⟩
                case measure => simp [intOf]; omega
            · have t92 : (bt z k == 92) = false := by simp [h92]
              have t45 : (bt z (k + 1) == 45) = false := by simp [h45]
              have c1 := HC.out (k + 1) (by omega)
              clear h92 h45
              cases m
              all_goals
                go_wp2
                go_roundw
                case rel => exact ⟨k + 1, _, _, by omega, by go_num, rfl, ⟨HE.out.1.symm.trans HI.out.1, HE.out.2.symm.trans HI.out.2⟩, rfl⟩
                case measure => simp [intOf]; omega
    · have HE := hide (cls_end c z k m (by rw [HZ.out]; omega))
      go_wp2
      go_ret2
      exact ⟨ret_two (by rw [HO.out, ← HI.out.1, HE.out.1]) (by rw [HX.out, ← HI.out.2, HE.out.2, List.length_nil]; omega), q, rfl⟩
end Go.Proofs.Qxb6628398a
