import Derived.Test.Qxb6628398aLit
namespace Go.Proofs.Qxb6628398a
open Go.ChangeShapes Go.WideShapes Go.ChangeAt Go.RowKit
open Pl

set_option maxHeartbeats 1000000 in
theorem cont_any (s t : ByteArray) (r : Bool) (w : World) (hs : s.size ≤ 1024) (ht : t.size ≤ 1024) (hr : r = true ↔ ∃ st, At (tx s) (tx t) st) :
    Calls Try.prog 11 #[.string s, .string t] w fun e w' => e = .returned (.bool r) ∧ ∃ q, w' = w.drewN q := by
  have HR := hide hr
  have HS := hide (tx_len s)
  have HT := hide (tx_len t)
  clear hr
  go_enter Try.func11, Try.ntmps11
  go_wp2
  go_loopw [5] (fun a5 wr => ∃ st q : Nat, st ≤ s.size + 1 ∧ a5 = .int .i64 st ∧ wr = w.drewN q ∧ Hid (∀ x, x < st → ¬ At (tx s) (tx t) x)) (fun a5 _ => s.size + 1 - (intOf a5).toNat)
  case atStart => exact ⟨0, 0, by omega, rfl, rfl, fun x hx => absurd hx (by omega)⟩
  case round =>
    obtain ⟨st, q, hst, rfl, rfl, HN⟩ := hrel
    by_cases hfit : st + t.size ≤ s.size
    · go_wp2
      go_loopw [6, 7] (fun a6 a7 wr => ∃ k q : Nat, k ≤ t.size ∧ a6 = .bool true ∧ a7 = .int .i64 k ∧ wr = w.drewN q ∧ Hid (∀ x, x < k → bt (tx s) (st + x) = bt (tx t) x)) (fun _ a7 _ => t.size - (intOf a7).toNat)
      case atStart => exact ⟨0, q, by omega, rfl, rfl, rfl, fun x hx => absurd hx (by omega)⟩
      case round =>
        obtain ⟨k, q2, hk, rfl, rfl, rfl, HK⟩ := hrel
        by_cases hlt : k < t.size
        · have hx : st + k < s.size := by omega
          have hx1 : (st : Int) + (k : Int) < (s.size : Int) := by omega
          have hx2 : (k : Int) < (t.size : Int) := by omega
          have hx0 : (0 : Int) ≤ (st : Int) + (k : Int) := by omega
          have hx3 : ((st : Int) + (k : Int)).toNat = st + k := by omega
          have hx4 : IntKind.i64.wrap ((st : Int) + (k : Int)) = (st : Int) + (k : Int) := by rw [IntKind.wrap_i64]; omega
          by_cases he : bt (tx s) (st + k) = bt (tx t) k
          · have tt : ((s[st + k].toNat : Int) != (t[k].toNat : Int)) = false := by rw [byte_ne s t (st + k) k hx hlt]; simp [he]
            have HK2 : Hid (∀ x, x < k + 1 → bt (tx s) (st + x) = bt (tx t) x) := fun x h => if e : x = k then by rw [e]; exact he else HK.out x (by omega)
            clear he
            go_wp2_with fail
            go_quiet (fail)
            go_wp2
            go_roundw
            case rel => exact ⟨k + 1, _, by omega, rfl, by go_num, rfl, HK2⟩
            case measure => simp [intOf]; omega
          · have tt : ((s[st + k].toNat : Int) != (t[k].toNat : Int)) = true := by rw [byte_ne s t (st + k) k hx hlt]; simp [he]
            have HN2 : Hid (∀ x, x < st + 1 → ¬ At (tx s) (tx t) x) := fun x h => if e : x = st then by rw [e]; exact fun g => he (g.2 k (by rw [HT.out]; exact hlt)) else HN.out x (by omega)
            clear he
            go_wp2_with fail
            go_quiet (fail)
            go_wp2
            go_roundw
            case rel => exact ⟨st + 1, _, by omega, by go_num, rfl, HN2⟩
            case measure => simp [intOf]; omega
        · have HF : Hid (r = true) := HR.out.2 ⟨st, by rw [HS.out, HT.out]; omega, fun x hx => HK.out x (by rw [HT.out] at hx; omega)⟩
          go_wp2
          go_ret
          exact ⟨ret_bool HF.out.symm, _, rfl⟩
    · have HF : Hid (r = false) := by
        cases e : r with
        | false => exact rfl
        | true =>
          obtain ⟨x, hx⟩ := HR.out.1 e
          have h1 := hx.1
          rw [HS.out, HT.out] at h1
          exact absurd hx (HN.out x (by omega))
      have hf2 : s.size < st + t.size := by omega
      clear hfit
      go_wp2
      go_ret
      exact ⟨ret_bool HF.out.symm, _, rfl⟩
end Go.Proofs.Qxb6628398a
