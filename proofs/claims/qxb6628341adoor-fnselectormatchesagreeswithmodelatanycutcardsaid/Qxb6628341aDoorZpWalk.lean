import Derived.Test.Qxb6628341aDoorZp
namespace Go.Proofs.Qxb6628341aDoor
open Go.ChangeShapes Go.WideShapes Go.ChangeAt Go.RowKit

theorem zgo_bad (acc : Nat) (c : UInt8) (r : List UInt8) (h : c.toNat < 48 ∨ 57 < c.toNat) : zgo acc (c :: r) = none := by
  unfold zgo; rw [if_neg (by omega)]
theorem zgo_cut (acc : Nat) (c : UInt8) (r : List UInt8) (h : 922337203685477580 < acc) : zgo acc (c :: r) = none := by
  unfold zgo
  by_cases hd : 48 ≤ c.toNat ∧ c.toNat ≤ 57
  · rw [if_pos hd, if_pos h]
  · rw [if_neg hd]
theorem zgo_top (acc : Nat) (c : UInt8) (r : List UInt8) (h : 9223372036854775808 < acc * 10 + (c.toNat - 48)) : zgo acc (c :: r) = none := by
  unfold zgo
  by_cases hd : 48 ≤ c.toNat ∧ c.toNat ≤ 57
  · rw [if_pos hd]
    by_cases h2 : 922337203685477580 < acc
    · rw [if_pos h2]
    · rw [if_neg h2, if_pos h]
  · rw [if_neg hd]
theorem zgo_on (acc : Nat) (c : UInt8) (r : List UInt8) (h0 : 48 ≤ c.toNat) (h1 : c.toNat ≤ 57) (h2 : acc ≤ 922337203685477580) (h3 : acc * 10 + (c.toNat - 48) ≤ 9223372036854775808) : zgo acc (c :: r) = zgo (acc * 10 + (c.toNat - 48)) r := by
  rw [zgo, if_pos ⟨h0, h1⟩, if_neg (by omega), if_neg (by omega)]
theorem drop_at (s : ByteArray) (k : Nat) (h : k < s.size) : s.data.toList.drop k = s[k] :: s.data.toList.drop (k + 1) := by
  have h' : k < s.data.toList.length := h
  rw [List.drop_eq_getElem_cons h']; rfl
/-- What comes back. -/
def Zs (w : World) (s : ByteArray) (e : Ending) (w' : World) : Prop := e = .returned (.tuple #[.int .i64 ((num s).getD 0), .bool (num s).isSome]) ∧ w' = w
theorem zs_none (w : World) (s : ByteArray) (h : num s = none) : Zs w s (.returned (.tuple #[.int .i64 0, .bool false])) w := ⟨by rw [h]; rfl, rfl⟩
theorem zs_some (w : World) (s : ByteArray) (v : Int) (h : num s = some v) : Zs w s (.returned (.tuple #[.int .i64 v, .bool true])) w := ⟨by rw [h]; rfl, rfl⟩
theorem num_cons (s : ByteArray) (h : 0 < s.size) (st : Nat) (neg : Bool) (hs : st = if s[0].toNat = 43 ∨ s[0].toNat = 45 then 1 else 0) (hn : neg = decide (s[0].toNat = 45)) :
    num s = if st = s.size then none else zfin neg (zgo 0 (s.data.toList.drop st)) := by
  have e := drop_at s 0 h
  rw [List.drop_zero] at e
  rw [← zz_num]
  have hl : s.data.toList.length = s.size := rfl
  unfold zz
  rw [hn, hs]
  rw [e] at hl ⊢
  simp only [List.length_cons] at hl
  by_cases h1 : s[0].toNat = 43 ∨ s[0].toNat = 45
  · simp only [if_pos h1, List.drop_succ_cons, List.drop_zero]
    by_cases h2 : (s.data.toList.drop (0 + 1)) = []
    · have : (s.data.toList.drop (0 + 1)).length = 0 := by rw [h2]; rfl
      rw [if_pos h2, if_pos (by omega)]
    · have : 0 < (s.data.toList.drop (0 + 1)).length := List.length_pos_iff.2 h2
      rw [if_neg h2, if_neg (by omega)]
  · simp only [if_neg h1, List.drop_zero]
    rw [if_neg (by simp), if_neg (by omega)]

set_option maxRecDepth 100000 in
set_option maxHeartbeats 1000000 in
theorem zp_empty (s : ByteArray) (w : World) (h : s.size = 0) : Calls Tryd.prog 17 #[.string s] w fun e w' => Zs w s e w' := by
  have HN : Hid (num s = none) := by
    show _ = _
    rw [← zz_num]
    have : s.data.toList = [] := List.length_eq_zero_iff.1 h
    rw [this]; rfl
  go_enter Tryd.func17, Tryd.ntmps17
  go_wp2
  go_ret2
  exact zs_none w s HN.out
set_option maxRecDepth 100000 in
set_option maxHeartbeats 1000000 in
theorem zp_plus (s : ByteArray) (w : World) (hs : s.size ≤ 1048576) (h0 : 0 < s.size) (hc : s[0].toNat = 43) : Calls Tryd.prog 17 #[.string s] w fun e w' => Zs w s e w' := by
  have HNUM := hide (num_cons s h0 1 false (by simp [hc]) (by simp [hc]))
  have t1 : ((s[0].toNat : Int) == 43) = true := by simp [hc]
  have z0 : ((s.size : Int) == 0) = false := beq_eq_false_iff_ne.2 (by omega)
  by_cases hsz : 1 = s.size
  · have z1 : ((1 : Int) == (s.size : Int)) = true := by simp; omega
    have HN : Hid (num s = none) := by show _ = _; rw [HNUM.out, if_pos hsz]
    go_enter Tryd.func17, Tryd.ntmps17
    go_wp2
    go_ret2
    exact zs_none w s HN.out
  have z1 : ((1 : Int) == (s.size : Int)) = false := by simp; omega
  have HST : Hid (num s = zfin false (zgo 0 (s.data.toList.drop 1))) := by show _ = _; rw [HNUM.out, if_neg hsz]
  clear HNUM hc
  go_enter Tryd.func17, Tryd.ntmps17
  go_wp2
  go_loop [5, 6] (fun a5 a6 => ∃ k m : Nat, 1 ≤ k ∧ k ≤ s.size ∧ m ≤ 9223372036854775808 ∧ a5 = .int .i64 k ∧ a6 = .int .u64 m ∧ Hid (num s = zfin false (zgo m (s.data.toList.drop k)))) (fun a5 _ => s.size - (intOf a5).toNat)
  case atStart => exact ⟨1, 0, by omega, by omega, by omega, rfl, rfl, HST⟩
  case round =>
    clear HST
    obtain ⟨k, m, hk1, hk, hm, rfl, rfl, HK⟩ := hrel
    by_cases hlt : k < s.size
    · have h256 := s[k].toNat_lt
      rw [drop_at s k hlt] at HK
      by_cases hd : s[k].toNat < 48 ∨ 57 < s[k].toNat
      · have HN : Hid (num s = none) := by show _ = _; rw [HK.out, zgo_bad _ _ _ hd]; rfl
        rcases hd with hd | hd
        · go_wp2
          go_ret2
          exact zs_none w s HN.out
        · have hd2 : ¬ s[k].toNat < 48 := by omega
          go_wp2
          go_ret2
          exact zs_none w s HN.out
      · have hd1 : 48 ≤ s[k].toNat := by omega
        have hd2 : s[k].toNat ≤ 57 := by omega
        by_cases hm1 : 922337203685477580 < m
        · have HN : Hid (num s = none) := by show _ = _; rw [HK.out, zgo_cut _ _ _ hm1]; rfl
          go_wp2
          go_ret2
          exact zs_none w s HN.out
        · have y1 : IntKind.u64.wrap ((m : Int) * 10) = (m : Int) * 10 := by rw [IntKind.wrap_u64]; omega
          have y2 : IntKind.u8.wrap ((s[k].toNat : Int) - 48) = (s[k].toNat : Int) - 48 := by rw [IntKind.wrap_u8]; omega
          by_cases hm2 : 9223372036854775808 < m * 10 + (s[k].toNat - 48)
          · have HN : Hid (num s = none) := by show _ = _; rw [HK.out, zgo_top _ _ _ hm2]; rfl
            go_wp2
            go_ret2
            exact zs_none w s HN.out
          · have HN : Hid (num s = zfin false (zgo (m * 10 + (s[k].toNat - 48)) (s.data.toList.drop (k + 1)))) := by show _ = _; rw [HK.out, zgo_on _ _ _ hd1 hd2 (by omega) (by omega)]
            go_wp2
            go_round
            case rel => exact ⟨k + 1, m * 10 + (s[k].toNat - 48), by omega, by omega, by omega, by go_num, by go_num, HN⟩
            case measure => simp [intOf]; omega
    · have HN : Hid (num s = zfin false (some m)) := by
        show _ = _
        rw [HK.out, List.drop_eq_nil_of_le (by show s.size ≤ k; omega)]; rfl
      clear HK
      by_cases ht : m = 9223372036854775808
      · subst ht
        go_wp2
        go_ret2
        exact zs_none w s (by rw [HN.out]; rfl)
      · have y3 : IntKind.i64.wrap (m : Int) = (m : Int) := by rw [IntKind.wrap_i64]; omega
        have y5 : ((m : Int) == 9223372036854775808) = false := by simp; omega
        go_wp2
        go_ret2
        exact zs_some w s _ (by rw [HN.out]; show (if m = 9223372036854775808 then none else some (m : Int)) = _; rw [if_neg ht])
set_option maxRecDepth 100000 in
set_option maxHeartbeats 1000000 in
theorem zp_minus (s : ByteArray) (w : World) (hs : s.size ≤ 1048576) (h0 : 0 < s.size) (hc : s[0].toNat = 45) : Calls Tryd.prog 17 #[.string s] w fun e w' => Zs w s e w' := by
  have HNUM := hide (num_cons s h0 1 true (by simp [hc]) (by simp [hc]))
  have t1 : ((s[0].toNat : Int) == 43) = false := by simp [hc]
  have t2 : ((s[0].toNat : Int) == 45) = true := by simp [hc]
  have z0 : ((s.size : Int) == 0) = false := beq_eq_false_iff_ne.2 (by omega)
  by_cases hsz : 1 = s.size
  · have z1 : ((1 : Int) == (s.size : Int)) = true := by simp; omega
    have HN : Hid (num s = none) := by show _ = _; rw [HNUM.out, if_pos hsz]
    go_enter Tryd.func17, Tryd.ntmps17
    go_wp2
    go_ret2
    exact zs_none w s HN.out
  have z1 : ((1 : Int) == (s.size : Int)) = false := by simp; omega
  have HST : Hid (num s = zfin true (zgo 0 (s.data.toList.drop 1))) := by show _ = _; rw [HNUM.out, if_neg hsz]
  clear HNUM hc
  go_enter Tryd.func17, Tryd.ntmps17
  go_wp2
  go_loop [5, 6] (fun a5 a6 => ∃ k m : Nat, 1 ≤ k ∧ k ≤ s.size ∧ m ≤ 9223372036854775808 ∧ a5 = .int .i64 k ∧ a6 = .int .u64 m ∧ Hid (num s = zfin true (zgo m (s.data.toList.drop k)))) (fun a5 _ => s.size - (intOf a5).toNat)
  case atStart => exact ⟨1, 0, by omega, by omega, by omega, rfl, rfl, HST⟩
  case round =>
    clear HST
    obtain ⟨k, m, hk1, hk, hm, rfl, rfl, HK⟩ := hrel
    by_cases hlt : k < s.size
    · have h256 := s[k].toNat_lt
      rw [drop_at s k hlt] at HK
      by_cases hd : s[k].toNat < 48 ∨ 57 < s[k].toNat
      · have HN : Hid (num s = none) := by show _ = _; rw [HK.out, zgo_bad _ _ _ hd]; rfl
        rcases hd with hd | hd
        · go_wp2
          go_ret2
          exact zs_none w s HN.out
        · have hd2 : ¬ s[k].toNat < 48 := by omega
          go_wp2
          go_ret2
          exact zs_none w s HN.out
      · have hd1 : 48 ≤ s[k].toNat := by omega
        have hd2 : s[k].toNat ≤ 57 := by omega
        by_cases hm1 : 922337203685477580 < m
        · have HN : Hid (num s = none) := by show _ = _; rw [HK.out, zgo_cut _ _ _ hm1]; rfl
          go_wp2
          go_ret2
          exact zs_none w s HN.out
        · have y1 : IntKind.u64.wrap ((m : Int) * 10) = (m : Int) * 10 := by rw [IntKind.wrap_u64]; omega
          have y2 : IntKind.u8.wrap ((s[k].toNat : Int) - 48) = (s[k].toNat : Int) - 48 := by rw [IntKind.wrap_u8]; omega
          by_cases hm2 : 9223372036854775808 < m * 10 + (s[k].toNat - 48)
          · have HN : Hid (num s = none) := by show _ = _; rw [HK.out, zgo_top _ _ _ hm2]; rfl
            go_wp2
            go_ret2
            exact zs_none w s HN.out
          · have HN : Hid (num s = zfin true (zgo (m * 10 + (s[k].toNat - 48)) (s.data.toList.drop (k + 1)))) := by show _ = _; rw [HK.out, zgo_on _ _ _ hd1 hd2 (by omega) (by omega)]
            go_wp2
            go_round
            case rel => exact ⟨k + 1, m * 10 + (s[k].toNat - 48), by omega, by omega, by omega, by go_num, by go_num, HN⟩
            case measure => simp [intOf]; omega
    · have HN : Hid (num s = zfin true (some m)) := by
        show _ = _
        rw [HK.out, List.drop_eq_nil_of_le (by show s.size ≤ k; omega)]; rfl
      clear HK
      by_cases ht : m = 9223372036854775808
      · subst ht
        go_wp2
        go_ret2
        exact zs_some w s _ (by rw [HN.out]; rfl)
      · have y3 : IntKind.i64.wrap (m : Int) = (m : Int) := by rw [IntKind.wrap_i64]; omega
        have y4 : IntKind.i64.wrap (-(m : Int)) = -(m : Int) := by rw [IntKind.wrap_i64]; omega
        have y5 : ((m : Int) == 9223372036854775808) = false := by simp; omega
        go_wp2
        go_ret2
        exact zs_some w s _ (by rw [HN.out]; rfl)
set_option maxRecDepth 100000 in
set_option maxHeartbeats 1000000 in
theorem zp_digit (s : ByteArray) (w : World) (hs : s.size ≤ 1048576) (h0 : 0 < s.size) (hc : s[0].toNat ≠ 43 ∧ s[0].toNat ≠ 45) : Calls Tryd.prog 17 #[.string s] w fun e w' => Zs w s e w' := by
  have HNUM := hide (num_cons s h0 0 false (by simp [hc]) (by simp [hc]))
  have t1 : ((s[0].toNat : Int) == 43) = false := by simp; omega
  have t2 : ((s[0].toNat : Int) == 45) = false := by simp; omega
  have z0 : ((s.size : Int) == 0) = false := beq_eq_false_iff_ne.2 (by omega)
  have hsz : ¬ 0 = s.size := by omega
  have z1 : ((0 : Int) == (s.size : Int)) = false := by simp; omega
  have HST : Hid (num s = zfin false (zgo 0 (s.data.toList.drop 0))) := by show _ = _; rw [HNUM.out, if_neg hsz]
  clear HNUM hc
  go_enter Tryd.func17, Tryd.ntmps17
  go_wp2
  go_loop [5, 6] (fun a5 a6 => ∃ k m : Nat, 0 ≤ k ∧ k ≤ s.size ∧ m ≤ 9223372036854775808 ∧ a5 = .int .i64 k ∧ a6 = .int .u64 m ∧ Hid (num s = zfin false (zgo m (s.data.toList.drop k)))) (fun a5 _ => s.size - (intOf a5).toNat)
  case atStart => exact ⟨0, 0, by omega, by omega, by omega, rfl, rfl, HST⟩
  case round =>
    clear HST
    obtain ⟨k, m, hk1, hk, hm, rfl, rfl, HK⟩ := hrel
    by_cases hlt : k < s.size
    · have h256 := s[k].toNat_lt
      rw [drop_at s k hlt] at HK
      by_cases hd : s[k].toNat < 48 ∨ 57 < s[k].toNat
      · have HN : Hid (num s = none) := by show _ = _; rw [HK.out, zgo_bad _ _ _ hd]; rfl
        rcases hd with hd | hd
        · go_wp2
          go_ret2
          exact zs_none w s HN.out
        · have hd2 : ¬ s[k].toNat < 48 := by omega
          go_wp2
          go_ret2
          exact zs_none w s HN.out
      · have hd1 : 48 ≤ s[k].toNat := by omega
        have hd2 : s[k].toNat ≤ 57 := by omega
        by_cases hm1 : 922337203685477580 < m
        · have HN : Hid (num s = none) := by show _ = _; rw [HK.out, zgo_cut _ _ _ hm1]; rfl
          go_wp2
          go_ret2
          exact zs_none w s HN.out
        · have y1 : IntKind.u64.wrap ((m : Int) * 10) = (m : Int) * 10 := by rw [IntKind.wrap_u64]; omega
          have y2 : IntKind.u8.wrap ((s[k].toNat : Int) - 48) = (s[k].toNat : Int) - 48 := by rw [IntKind.wrap_u8]; omega
          by_cases hm2 : 9223372036854775808 < m * 10 + (s[k].toNat - 48)
          · have HN : Hid (num s = none) := by show _ = _; rw [HK.out, zgo_top _ _ _ hm2]; rfl
            go_wp2
            go_ret2
            exact zs_none w s HN.out
          · have HN : Hid (num s = zfin false (zgo (m * 10 + (s[k].toNat - 48)) (s.data.toList.drop (k + 1)))) := by show _ = _; rw [HK.out, zgo_on _ _ _ hd1 hd2 (by omega) (by omega)]
            go_wp2
            go_round
            case rel => exact ⟨k + 1, m * 10 + (s[k].toNat - 48), by omega, by omega, by omega, by go_num, by go_num, HN⟩
            case measure => simp [intOf]; omega
    · have HN : Hid (num s = zfin false (some m)) := by
        show _ = _
        rw [HK.out, List.drop_eq_nil_of_le (by show s.size ≤ k; omega)]; rfl
      clear HK
      by_cases ht : m = 9223372036854775808
      · subst ht
        go_wp2
        go_ret2
        exact zs_none w s (by rw [HN.out]; rfl)
      · have y3 : IntKind.i64.wrap (m : Int) = (m : Int) := by rw [IntKind.wrap_i64]; omega
        have y5 : ((m : Int) == 9223372036854775808) = false := by simp; omega
        go_wp2
        go_ret2
        exact zs_some w s _ (by rw [HN.out]; show (if m = 9223372036854775808 then none else some (m : Int)) = _; rw [if_neg ht])
theorem zp_any (s : ByteArray) (w : World) (hs : s.size ≤ 1048576) : Calls Tryd.prog 17 #[.string s] w fun e w' => Zs w s e w' := by
  by_cases h0 : 0 < s.size
  · by_cases h1 : s[0].toNat = 43
    · exact zp_plus s w hs h0 h1
    · by_cases h2 : s[0].toNat = 45
      · exact zp_minus s w hs h0 h2
      · exact zp_digit s w hs h0 ⟨h1, h2⟩
  · exact zp_empty s w (by omega)
end Go.Proofs.Qxb6628341aDoor
