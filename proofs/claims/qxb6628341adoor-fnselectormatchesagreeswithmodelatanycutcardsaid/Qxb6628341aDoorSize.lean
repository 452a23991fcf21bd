import Derived.Test.Qxb6628341aDoorBytes
namespace Go.Proofs.Qxb6628341aDoor
open Go.ChangeShapes Go.WideShapes Go.ChangeAt Go.RowKit

attribute [local go_sem ↓] Go.wp_at_zero Go.wp_at_succ
def Added (w : World) (e : Ending) (w' : World) : Prop := ∃ (t : Int) (ok : Bool), e = .returned (.tuple #[.int .i64 t, .bool ok]) ∧ 0 ≤ t ∧ t ≤ 1048576 ∧ w = w'
theorem added (w : World) (t : Int) (ok : Bool) (h0 : 0 ≤ t) (h1 : t ≤ 1048576) : Added w (.returned (.tuple #[.int .i64 t, .bool ok])) w := ⟨t, ok, rfl, h0, h1, rfl⟩
set_option maxHeartbeats 1000000 in
theorem add_any (t m : Int) (w : World) (h0 : 0 ≤ t) (h1 : t ≤ 1048576) (h2 : 0 ≤ m) (h3 : m ≤ 1099511627776) :
    Calls Tryd.prog 15 #[.int .i64 t, .int .i64 m] w fun e w' => Added w e w' := by
  by_cases h4 : m ≤ 1048576
  · by_cases h5 : t + m ≤ 1048576
    · go_enter Tryd.func15, Tryd.ntmps15
      go_wp2
      go_ret2
      exact added _ _ _ (by omega) (by omega)
    · go_enter Tryd.func15, Tryd.ntmps15
      go_wp2
      go_ret2
      exact added _ _ _ (by omega) (by omega)
  · go_enter Tryd.func15, Tryd.ntmps15
    go_wp2
    go_ret2
    exact added _ _ _ (by omega) (by omega)

set_option maxRecDepth 100000 in
set_option maxHeartbeats 2000000 in
theorem size_any (ra la va : Option Addr) (n rcap ln lcap vn vcap : Nat) (key : ByteArray) (vs : List ByteArray) (rs : List Rq) (lb : List (ByteArray × ByteArray)) (w : World) (hn : rs.length = n) (hln : lb.length = ln) (hvn : vs.length = vn)
    (hb : BdA n ln rs lb) (hk : key.size ≤ 1048576) (hv1 : vn ≤ 1048576) (hv2 : ∀ j, j < vn → (vAt vs j).size ≤ 1048576)
    (hR : RqsIn w ra rs) (hV : ∀ j, j < n → VsIn w (rqAt rs j)) (hL : LbsIn w la lb) (hS : StrsIn w va vs) :
    Calls Tryd.prog 6 #[.slice ra n rcap, .slice la ln lcap, .string key, .slice va vn vcap] w fun e w' => Said w True e w' := by
  obtain ⟨b1, b2, b3, b4⟩ := hb
  have HR := hide hR
  have HV := hide hV
  have HL := hide hL
  have HS := hide hS
  have HN := hide hn
  have HLN := hide hln
  have HVN := hide hvn
  have HB2 := hide b2
  have HB4 := hide b4
  have HV2 := hide hv2
  clear hR hV hL hn hln hS hvn b2 b4 hv2
  have y1 : decide ((1048576 : Int) < (n : Int)) = false := decide_eq_false (by omega)
  have y2 : decide ((1048576 : Int) < (ln : Int)) = false := decide_eq_false (by omega)
  have y3 : decide ((1048576 : Int) < (vn : Int)) = false := decide_eq_false (by omega)
  go_enter Tryd.func6, Tryd.ntmps6
  go_wp2_with (go_at_call 15; refine (add_any _ _ _ (by omega) (by omega) (by omega) (by omega)).mono ?_; rintro e w1 ⟨t, ok, rfl, ht0, ht1, rfl⟩)
  all_goals first | (go_ret; exact said_false _ _) | skip
  have hok : ok = true := by
    have h : (!ok) = false := by assumption
    simpa using h
  subst hok
  simp only [Bool.not_true]
  go_loopw [9, 11] (fun a9 a11 wr => ∃ (s : Int) (i : Nat), 0 ≤ s ∧ s ≤ 1048576 ∧ i ≤ vn ∧ a9 = .int .i64 s ∧ a11 = .int .i64 i ∧ wr = w) (fun _ a11 _ => vn - (intOf a11).toNat)
  case atStart => refine ⟨_, 0, ?_, ?_, ?_, rfl, rfl, rfl⟩ <;> omega
  case round =>
    obtain ⟨s, i, hs0, hs1, hi, rfl, rfl, hwr⟩ := hrel
    subst wr
    by_cases hil : i < vn
    · obtain ⟨vb, voff, rfl, hvb, hvc⟩ := HS.out (by rw [HVN.out]; omega)
      have d0 := hvc i (by rw [HVN.out]; exact hil)
      have g0 := HV2.out i hil
      clear hvc
      go_wp2_with fail
      refine (add_any _ _ _ (by omega) (by omega) (by omega) (by omega)).mono ?_
      rintro e w1 ⟨t, ok, rfl, ht0, ht1, rfl⟩
      cases ok
      · go_wp2
        go_ret
        exact said_false _ _
      · go_wp2
        go_roundw
        case rel => refine ⟨_, i + 1, ?_, ?_, ?_, rfl, by go_num, by first | rfl | trivial⟩ <;> omega
        case measure => simp [intOf]; omega
    · go_wp2
      go_loop [9, 12] (fun a9 a12 => ∃ (s : Int) (k : Nat), 0 ≤ s ∧ s ≤ 1048576 ∧ k ≤ n ∧ a9 = .int .i64 s ∧ a12 = .int .i64 k) (fun _ a12 => n - (intOf a12).toNat)
      case atStart => refine ⟨_, 0, ?_, ?_, ?_, rfl, rfl⟩ <;> omega
      case round =>
        obtain ⟨s, k, hs0, hs1, hk, rfl, rfl⟩ := hrel
        by_cases hlt : k < n
        · obtain ⟨b, off, rfl, hbw, hc⟩ := HR.out (by rw [HN.out]; omega)
          obtain ⟨c0, c1, c2⟩ := hc k (by rw [HN.out]; exact hlt)
          have HSK := hide (HV.out k hlt)
          obtain ⟨g1, g2, g3, g4⟩ := HB2.out k hlt
          obtain ⟨x, hx⟩ : ∃ x, x = rqAt rs k := ⟨_, rfl⟩
          rw [← hx] at c0 c1 c2 HSK g1 g2 g3 g4
          obtain ⟨xk, xo, xa, xl, xc, xv⟩ := x
          simp only at c0 c1 c2 g1 g2 g3 g4
          have HG4 := hide g4
          clear hc hx g4
          go_wp2_with (go_at_call 15; refine (add_any _ _ _ (by omega) (by omega) (by omega) (by omega)).mono ?_; rintro e w1 ⟨t, ok, rfl, ht0, ht1, rfl⟩)
          all_goals first | (go_ret; exact said_false _ _) | skip
          have hok : ok = true := by
            have h : (!ok) = false := by assumption
            simpa using h
          subst hok
          simp only [Bool.not_true]
          go_loopw [9, 13] (fun a9 a13 wr => ∃ (s : Int) (i : Nat), 0 ≤ s ∧ s ≤ 1048576 ∧ i ≤ xl ∧ a9 = .int .i64 s ∧ a13 = .int .i64 i ∧ wr = w) (fun _ a13 _ => xl - (intOf a13).toNat)
          case atStart => refine ⟨_, 0, ?_, ?_, ?_, rfl, rfl, rfl⟩ <;> omega
          case round =>
            obtain ⟨s, i, hs0, hs1, hi, rfl, rfl, hwr⟩ := hrel
            subst wr
            by_cases hil : i < xl
            · obtain ⟨vb, voff, hva, hvb, hvc⟩ := HSK.out.2 (by rw [HSK.out.1]; show 0 < xl; omega)
              simp only at hva
              subst hva
              have d0 := hvc i (by rw [HSK.out.1]; exact hil)
              simp only at d0
              have g0 := HG4.out i hil
              clear hvc
              go_wp2_with fail
              refine (add_any _ _ _ (by omega) (by omega) (by omega) (by omega)).mono ?_
              rintro e w1 ⟨t, ok, rfl, ht0, ht1, rfl⟩
              cases ok
              · go_wp2
                go_ret
                exact said_false _ _
              · go_wp2
                go_roundw
                case rel => refine ⟨_, i + 1, ?_, ?_, ?_, rfl, by go_num, by first | rfl | trivial⟩ <;> omega
                case measure => simp [intOf]; omega
            · go_wp2
              go_round
              case rel => refine ⟨_, k + 1, ?_, ?_, ?_, rfl, by go_num⟩ <;> omega
              case measure => simp [intOf]; omega
        · go_wp2
          go_loop [9, 14] (fun a9 a14 => ∃ (s : Int) (i : Nat), 0 ≤ s ∧ s ≤ 1048576 ∧ i ≤ ln ∧ a9 = .int .i64 s ∧ a14 = .int .i64 i) (fun _ a14 => ln - (intOf a14).toNat)
          case atStart => refine ⟨_, 0, ?_, ?_, ?_, rfl, rfl⟩ <;> omega
          case round =>
            obtain ⟨s, i, hs0, hs1, hi, rfl, rfl⟩ := hrel
            by_cases hil : i < ln
            · obtain ⟨vb, voff, rfl, hvb, hvc⟩ := HL.out (by rw [HLN.out]; omega)
              obtain ⟨d0, d1⟩ := hvc i (by rw [HLN.out]; exact hil)
              obtain ⟨g0, g1⟩ := HB4.out i hil
              clear hvc
              go_wp2_with (go_at_call 15; refine (add_any _ _ _ (by omega) (by omega) (by omega) (by omega)).mono ?_; rintro e w1 ⟨t, ok, rfl, ht0, ht1, rfl⟩)
              all_goals first | (go_ret; exact said_false _ _) | skip
              go_round
              case rel => refine ⟨_, i + 1, ?_, ?_, ?_, rfl, by go_num⟩ <;> omega
              case measure => simp [intOf]; omega
            · go_wp2
              go_ret
              exact said_true _ _ trivial
end Go.Proofs.Qxb6628341aDoor
