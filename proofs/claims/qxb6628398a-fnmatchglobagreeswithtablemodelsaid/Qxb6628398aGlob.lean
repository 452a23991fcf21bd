import Derived.Test.Qxb6628398aByte
namespace Go.Proofs.Qxb6628398a
open Go.ChangeShapes Go.WideShapes Go.ChangeAt Go.RowKit
open Pl

/-- A string's bytes as numbers. -/
def tx (s : ByteArray) : List Int := s.data.toList.map (fun b => (b.toNat : Int))
theorem tx_len (s : ByteArray) : (tx s).length = s.size := by unfold tx; rw [List.length_map]; rfl
theorem tx_bt (s : ByteArray) (i : Nat) (h : i < s.size) : bt (tx s) i = (s[i].toNat : Int) := by
  have h' : i < s.data.toList.length := h
  unfold bt tx
  rw [List.getD_eq_getElem?_getD, List.getElem?_map, List.getElem?_eq_getElem h']
  rfl
def okAt (z : List Int) (p : Nat) (c : Int) : Bool := itemOk (bt z p) (z.drop (p + 1)) c
theorem byte_call (b off n cap : Nat) (z : List Int) (p : Nat) (c : Int) (w : World) (hz : z.length = n) (hn : n ≤ 1048576) (hp : p < n)
    (hcell : ∀ j, j < n → w.cell? ⟨b, off + j, none⟩ = some (.int .u8 (bt z j))) :
    Calls Try.prog 12 #[.slice (some ⟨b, off, none⟩) n cap, .int .i64 p, .int .u8 c] w fun e w' => e = .returned (.tuple #[.bool (okAt z p c), .int .i64 (nextOf z p)]) ∧ ∃ q, w' = w.drewN q :=
  byte_any b off n cap z p c w hz hn hp hcell

theorem int_beq (p n : Nat) : ((p : Int) == (n : Int)) = decide (p = n) := by
  rw [Bool.eq_iff_iff]; simp only [beq_iff_eq, decide_eq_true_eq]; omega
/-- What each round of MatchGlob's loop lowers. -/
def meas (n S : Nat) (st i fr : Int) : Nat := ((n : Int) - st).toNat + (S + 1 - fr.toNat) * (S + 2) + (S - i.toNat)
theorem meas_star (n S : Nat) (st st' i fr : Int) (h1 : st < st') (h2 : st' ≤ n) (h4 : fr ≤ i) : meas n S st' i i < meas n S st i fr := by
  unfold meas
  have := Nat.mul_le_mul_right (S + 2) (show S + 1 - i.toNat ≤ S + 1 - fr.toNat by omega)
  omega
theorem meas_step (n S : Nat) (st i fr : Int) (h1 : 0 ≤ i) (h2 : i < S) : meas n S st (i + 1) fr < meas n S st i fr := by
  unfold meas; omega
theorem meas_miss (n S : Nat) (st i fr : Int) (h1 : 0 ≤ fr) (h2 : fr ≤ i) (h3 : i < S) : meas n S st (fr + 1) (fr + 1) < meas n S st i fr := by
  unfold meas
  have e : S + 1 - fr.toNat = (S + 1 - (fr + 1).toNat) + 1 := by omega
  rw [e, Nat.add_mul]; omega

set_option maxRecDepth 100000 in
set_option maxHeartbeats 2000000 in
theorem glob_any (b off n cap : Nat) (z : List Int) (s : ByteArray) (w : World) (hz : z.length = n) (hn : n ≤ 1048576) (hs : s.size ≤ 1048576)
    (hcell : ∀ j, j < n → w.cell? ⟨b, off + j, none⟩ = some (.int .u8 (bt z j))) :
    Calls Try.prog 6 #[.slice (some ⟨b, off, none⟩) n cap, .string s] w fun e w' => e = .returned (.bool (glob z (tx s))) ∧ ∃ q, w' = w.drewN q := by
  have HZ := hide hz
  have HC := hide hcell
  have HS := hide (tx_len s)
  clear hz hcell
  go_enter Try.func6, Try.ntmps6
  go_wp2
  go_loopw [5, 6, 7, 8] (fun a5 a6 a7 a8 wr => ∃ (p i q : Nat) (st fr : Int), a5 = .int .i64 p ∧ a6 = .int .i64 i ∧ a7 = .int .i64 st ∧ a8 = .int .i64 fr ∧ wr = w.drewN q ∧ p ≤ n ∧ i ≤ s.size ∧ -1 ≤ st ∧ st ≤ p ∧ 0 ≤ fr ∧ fr ≤ i ∧
      Hid ((st = -1 ∧ Inv0 z (tx s) p i) ∨ (0 ≤ st ∧ Inv1 z (tx s) p i st.toNat fr.toNat))) (fun _ a6 a7 a8 _ => meas n s.size (intOf a7) (intOf a6) (intOf a8))
  case atStart => exact ⟨0, 0, 0, -1, 0, rfl, rfl, rfl, rfl, rfl, by omega, by omega, by omega, by omega, by omega, by omega, .inl ⟨rfl, inv0_start _ _⟩⟩
  case round =>
    obtain ⟨p, i, q, st, fr, rfl, rfl, rfl, rfl, rfl, hp, hi, hs1, hs2, hf1, hf2, HI⟩ := hrel
    by_cases hstar : p < n ∧ bt z p = 42
    · obtain ⟨hlt, h42⟩ := hstar
      have c0 := HC.out p hlt
      have t42 : (bt z p == 42) = true := by simp [h42]
      have H42 := hide h42
      clear h42
      go_wp2
      go_loop [5] (fun a5 => ∃ k : Nat, p ≤ k ∧ k ≤ n ∧ a5 = .int .i64 k ∧ Hid (∀ x, p ≤ x → x < k → bt z x = 42)) (fun a5 => n - (intOf a5).toNat)
      case atStart => exact ⟨p, Nat.le_refl _, hp, rfl, fun x h1 h2 => absurd h2 (by omega)⟩
      case round =>
        obtain ⟨k, hpk, hk, rfl, HK⟩ := hrel
        by_cases hin : k < n ∧ bt z k = 42
        · obtain ⟨hkn, hk42⟩ := hin
          have ck := HC.out k hkn
          have tk : (bt z k == 42) = true := by simp [hk42]
          have HK2 : Hid (∀ x, p ≤ x → x < k + 1 → bt z x = 42) := fun x h1 h2 => if e : x = k then e ▸ hk42 else HK.out x h1 (by omega)
          clear hk42 t42 c0
          go_wp2
          go_round
          case rel => exact ⟨k + 1, by omega, by omega, by go_num, HK2⟩
          case measure => simp [intOf]; omega
        · have hgt : p < k := by
            rcases Nat.lt_or_ge p k with h | h
            · exact h
            · exact absurd ⟨by omega, by rw [show k = p by omega]; exact H42.out⟩ hin
          have HN : Hid (Inv1 z (tx s) k i k i) := by
            rcases HI.out with ⟨_, h⟩ | ⟨_, h⟩
            · exact inv0_star h hgt (by rw [HZ.out]; exact hk) HK.out
            · exact inv1_star h hgt (by rw [HZ.out]; exact hk) HK.out
          by_cases hkn : k < n
          · have ck := HC.out k hkn
            have tk : (bt z k == 42) = false := by
              cases e : (bt z k == 42) with
              | false => rfl
              | true => exact absurd ⟨hkn, by simpa using e⟩ hin
            clear hin t42 c0
            go_wp2
            go_roundw
            case rel => exact ⟨k, i, q, k, i, rfl, rfl, rfl, rfl, rfl, by omega, by omega, by omega, by omega, by omega, by omega, .inr ⟨by omega, by simpa using HN.out⟩⟩
            case measure => exact meas_star n s.size st k i fr (by omega) (by omega) hf2
          · have hkk : n ≤ k := by omega
            have HG : Hid (glob z (tx s) = true) := by
              have h := HN.out
              rw [show k = z.length by rw [HZ.out]; omega] at h
              exact inv1_all h
            clear hin t42 c0
            go_wp2
            go_ret
            exact ⟨ret_bool HG.out.symm, q, rfl⟩
    · have HB : Hid (p < z.length → bt z p ≠ 42) := fun h1 h2 => hstar ⟨by rw [← HZ.out]; exact h1, h2⟩
      have tp : p < n → (bt z p == 42) = false := fun h => by
        cases e : (bt z p == 42) with
        | false => rfl
        | true => exact absurd ⟨h, by simpa using e⟩ hstar
      have TP := hide tp
      clear hstar tp
      by_cases hie : s.size ≤ i
      · have HG : Hid (glob z (tx s) = decide (p = n)) := by
          have e : i = (tx s).length := by rw [HS.out]; omega
          show glob z (tx s) = decide (p = n)
          rw [← HZ.out]
          rcases HI.out with ⟨_, h⟩ | ⟨_, h⟩
          · rw [e] at h; exact inv0_out h HB.out
          · rw [e] at h; exact inv1_out h HB.out
        by_cases hlt : p < n
        · have c0 := HC.out p hlt
          have t42 := TP.out hlt
          go_wp2
          go_ret
          exact ⟨ret_bool (by rw [HG.out]; exact int_beq p n), q, rfl⟩
        · go_wp2
          go_ret
          exact ⟨ret_bool (by rw [HG.out]; exact int_beq p n), q, rfl⟩
      · have hil : i < s.size := by omega
        have HT := hide (tx_bt s i hil)
        have HL : Hid (i < (tx s).length) := by show i < _; rw [HS.out]; exact hil
        clear hie
        by_cases hlt : p < n
        · have c0 := HC.out p hlt
          have t42 := TP.out hlt
          cases hok : okAt z p (s[i].toNat : Int)
          · have HM : Hid (p < z.length → bt z p ≠ 42 ∧ itemOk (bt z p) (z.drop (p + 1)) (bt (tx s) i) = false) := fun h => ⟨HB.out h, by rw [HT.out]; exact hok⟩
            by_cases hneg : st < 0
            · have HG : Hid (glob z (tx s) = false) := by
                rcases HI.out with ⟨_, h⟩ | ⟨h0, _⟩
                · exact inv0_miss h HL.out HM.out
                · omega
              go_wp2_with fail
              refine (byte_call b off n cap z p _ _ HZ.out hn hlt (by exact HC.out)).mono ?_
              rintro e w1 ⟨rfl, q1, rfl⟩
              go_wp2
              go_ret
              exact ⟨ret_bool HG.out.symm, _, rfl⟩
            · have HN : Hid (Inv1 z (tx s) st.toNat (fr.toNat + 1) st.toNat (fr.toNat + 1)) := by
                rcases HI.out with ⟨h0, _⟩ | ⟨_, h⟩
                · omega
                · exact inv1_miss h HL.out HM.out
              go_wp2_with fail
              refine (byte_call b off n cap z p _ _ HZ.out hn hlt (by exact HC.out)).mono ?_
              rintro e w1 ⟨rfl, q1, rfl⟩
              go_wp2
              go_roundw
              case rel => exact ⟨st.toNat, fr.toNat + 1, _, st, fr + 1, by go_num, by go_num, rfl, rfl, rfl, by omega, by omega, by omega, by omega, by omega, by omega, .inr ⟨by omega, by rw [show (fr + 1).toNat = fr.toNat + 1 by omega]; exact HN.out⟩⟩
              case measure => exact meas_miss n s.size st i fr (by omega) (by omega) (by omega)
          · have HN : Hid ((st = -1 ∧ Inv0 z (tx s) (nextOf z p) (i + 1)) ∨ (0 ≤ st ∧ Inv1 z (tx s) (nextOf z p) (i + 1) st.toNat fr.toNat)) := by
              have ho : itemOk (bt z p) (z.drop (p + 1)) (bt (tx s) i) = true := by rw [HT.out]; exact hok
              rcases HI.out with ⟨h0, h⟩ | ⟨h0, h⟩
              · exact .inl ⟨h0, inv0_step h (by rw [HZ.out]; exact hlt) (HB.out (by rw [HZ.out]; exact hlt)) HL.out ho⟩
              · exact .inr ⟨h0, inv1_step h (by rw [HZ.out]; exact hlt) (HB.out (by rw [HZ.out]; exact hlt)) HL.out ho⟩
            have x1 := next_le z p
            have x2 := next_gt z p (by rw [HZ.out]; exact hlt)
            rw [HZ.out] at x1
            go_wp2_with fail
            refine (byte_call b off n cap z p _ _ HZ.out hn hlt (by exact HC.out)).mono ?_
            rintro e w1 ⟨rfl, q1, rfl⟩
            go_wp2
            go_roundw
            case rel => exact ⟨nextOf z p, i + 1, _, st, fr, rfl, by go_num, rfl, rfl, rfl, by omega, by omega, by omega, by omega, by omega, by omega, HN.out⟩
            case measure => exact meas_step n s.size st i fr (by omega) (by omega)
        · have HM : Hid (p < z.length → bt z p ≠ 42 ∧ itemOk (bt z p) (z.drop (p + 1)) (bt (tx s) i) = false) := fun h => absurd (by rw [← HZ.out]; exact h) hlt
          by_cases hneg : st < 0
          · have HG : Hid (glob z (tx s) = false) := by
              rcases HI.out with ⟨_, h⟩ | ⟨h0, _⟩
              · exact inv0_miss h HL.out HM.out
              · omega
            go_wp2
            go_ret
            exact ⟨ret_bool HG.out.symm, _, rfl⟩
          · have HN : Hid (Inv1 z (tx s) st.toNat (fr.toNat + 1) st.toNat (fr.toNat + 1)) := by
              rcases HI.out with ⟨h0, _⟩ | ⟨_, h⟩
              · omega
              · exact inv1_miss h HL.out HM.out
            go_wp2
            go_roundw
            case rel => exact ⟨st.toNat, fr.toNat + 1, _, st, fr + 1, by go_num, by go_num, rfl, rfl, rfl, by omega, by omega, by omega, by omega, by omega, by omega, .inr ⟨by omega, by rw [show (fr + 1).toNat = fr.toNat + 1 by omega]; exact HN.out⟩⟩
            case measure => exact meas_miss n s.size st i fr (by omega) (by omega) (by omega)
end Go.Proofs.Qxb6628398a
