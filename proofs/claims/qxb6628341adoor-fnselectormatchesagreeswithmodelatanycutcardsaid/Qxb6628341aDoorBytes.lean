import Derived.Test.Qxb6628341aDoorMatch
namespace Go.Proofs.Qxb6628341aDoor
open Go.ChangeShapes Go.WideShapes Go.ChangeAt Go.RowKit

/-- A requirement's strings and their number are at most 1 << 20. -/
def BdR (r : Rq) : Prop := r.key.size ≤ 1048576 ∧ r.op.size ≤ 1048576 ∧ r.len ≤ 1048576 ∧ ∀ j, j < r.len → (vAt r.vs j).size ≤ 1048576
def BdL (p : ByteArray × ByteArray) : Prop := p.1.size ≤ 1048576 ∧ p.2.size ≤ 1048576
/-- A requirement's values lie in memory. -/
def VsIn (w : World) (r : Rq) : Prop := r.vs.length = r.len ∧ StrsIn w r.ad r.vs

/-- A Boolean came back, nothing has turned; true says p. -/
def Said (w : World) (p : Prop) (e : Ending) (w' : World) : Prop := ∃ bl, e = .returned (.bool bl) ∧ w' = w ∧ (bl = true → p)
theorem said_false (w : World) (p : Prop) : Said w p (.returned (.bool false)) w := ⟨false, rfl, rfl, fun h => by cases h⟩
theorem said_true (w : World) (p : Prop) (h : p) : Said w p (.returned (.bool true)) w := ⟨true, rfl, rfl, fun _ => h⟩
def BdA (n ln : Nat) (rs : List Rq) (lb : List (ByteArray × ByteArray)) : Prop := n ≤ 1048576 ∧ (∀ j, j < n → BdR (rqAt rs j)) ∧ ln ≤ 1048576 ∧ ∀ j, j < ln → BdL (lbAt lb j)

attribute [local go_sem ↓] Go.wp_at_zero Go.wp_at_succ
set_option maxRecDepth 100000 in
set_option maxHeartbeats 2000000 in
theorem bytes_a (ra la : Option Addr) (n rcap ln lcap : Nat) (cut : Int) (rs : List Rq) (lb : List (ByteArray × ByteArray)) (w : World) (hn : rs.length = n) (hln : lb.length = ln)
    (hb : n < 9223372036854775808) (hb2 : ln < 9223372036854775808)
    (hR : RqsIn w ra rs) (hV : ∀ j, j < n → VsIn w (rqAt rs j)) (hL : LbsIn w la lb) :
    Calls Tryd.prog 5 #[.slice ra n rcap, .slice la ln lcap, .int .i64 cut] w fun e w' => Said w (BdA n ln rs lb) e w' := by
  have HR := hide hR
  have HV := hide hV
  have HL := hide hL
  have HN := hide hn
  have HLN := hide hln
  clear hR hV hL hn hln
  by_cases h1 : n ≤ 1048576
  · go_enter Tryd.func5, Tryd.ntmps5
    go_wp2
    go_loop [7, 8] (fun a7 a8 => ∃ (t k : Nat), t ≤ 1048576 ∧ k ≤ n ∧ a7 = .int .i64 t ∧ a8 = .int .i64 k ∧ Hid (∀ j, j < k → BdR (rqAt rs j))) (fun _ a8 => n - (intOf a8).toNat)
    case atStart => exact ⟨n, 0, by omega, by omega, by go_num, rfl, fun j hj => absurd hj (by omega)⟩
    case round =>
      obtain ⟨t, k, ht, hk, rfl, rfl, HK⟩ := hrel
      by_cases hlt : k < n
      · obtain ⟨b, off, rfl, hbw, hc⟩ := HR.out (by rw [HN.out]; omega)
        obtain ⟨c0, c1, c2⟩ := hc k (by rw [HN.out]; exact hlt)
        have HS := hide (HV.out k hlt)
        obtain ⟨x, hx⟩ : ∃ x, x = rqAt rs k := ⟨_, rfl⟩
        have HXE := hide hx
        rw [← hx] at c0 c1 c2 HS
        obtain ⟨xk, xo, xa, xl, xc, xv⟩ := x
        simp only at c0 c1 c2
        clear hc hx
        go_wp2
        all_goals first | (go_ret; exact said_false _ _) | skip
        go_loop [7, 9] (fun a7 a9 => ∃ (s i : Nat), s ≤ 1048576 ∧ i ≤ xl ∧ a7 = .int .i64 s ∧ a9 = .int .i64 i ∧ Hid (∀ j, j < i → (vAt xv j).size ≤ 1048576)) (fun _ a9 => xl - (intOf a9).toNat)
        case atStart => exact ⟨t + xk.size + xo.size + xl, 0, by omega, by omega, by go_num, rfl, fun j hj => absurd hj (by omega)⟩
        case round =>
          obtain ⟨s, i, hs, hi, rfl, rfl, HI⟩ := hrel
          by_cases hil : i < xl
          · obtain ⟨vb, voff, hva, hvb, hvc⟩ := HS.out.2 (by rw [HS.out.1]; show 0 < xl; omega)
            simp only at hva
            subst hva
            have d0 := hvc i (by rw [HS.out.1]; exact hil)
            simp only at d0
            clear hvc
            go_wp2
            all_goals first | (go_ret; exact said_false _ _) | skip
            have HI2 : Hid (∀ j, j < i + 1 → (vAt xv j).size ≤ 1048576) := fun j hj => by
              by_cases e : j = i
              · subst e; omega
              · exact HI.out j (by omega)
            go_round
            case rel => exact ⟨s + (vAt xv i).size, i + 1, by omega, by omega, by go_num, by go_num, HI2⟩
            case measure => simp [intOf]; omega
          · have HK2 : Hid (∀ j, j < k + 1 → BdR (rqAt rs j)) := fun j hj => by
              by_cases e : j = k
              · subst e
                rw [← HXE.out]
                exact ⟨by show xk.size ≤ _; omega, by show xo.size ≤ _; omega, by show xl ≤ _; omega, fun q hq => HI.out q (by have : q < xl := hq; omega)⟩
              · exact HK.out j (by omega)
            go_wp2
            go_round
            case rel => exact ⟨s, k + 1, by omega, by omega, by go_num, by go_num, HK2⟩
            case measure => simp [intOf]; omega
      · have HK2 : Hid (∀ j, j < n → BdR (rqAt rs j)) := fun j hj => HK.out j (by omega)
        go_wp2
        all_goals first | (go_ret; exact said_false _ _) | skip
        go_loop [7, 10] (fun a7 a10 => ∃ (s i : Nat), s ≤ 1048576 ∧ i ≤ ln ∧ a7 = .int .i64 s ∧ a10 = .int .i64 i ∧ Hid (∀ j, j < i → BdL (lbAt lb j))) (fun _ a10 => ln - (intOf a10).toNat)
        case atStart => exact ⟨t + ln, 0, by omega, by omega, by go_num, rfl, fun j hj => absurd hj (by omega)⟩
        case round =>
          obtain ⟨s, i, hs, hi, rfl, rfl, HI⟩ := hrel
          by_cases hil : i < ln
          · obtain ⟨vb, voff, rfl, hvb, hvc⟩ := HL.out (by rw [HLN.out]; omega)
            obtain ⟨d0, d1⟩ := hvc i (by rw [HLN.out]; exact hil)
            clear hvc
            go_wp2
            all_goals first | (go_ret; exact said_false _ _) | skip
            have HI2 : Hid (∀ j, j < i + 1 → BdL (lbAt lb j)) := fun j hj => by
              by_cases e : j = i
              · subst e; exact ⟨by omega, by omega⟩
              · exact HI.out j (by omega)
            go_round
            case rel => exact ⟨s + (lbAt lb i).1.size + (lbAt lb i).2.size, i + 1, by omega, by omega, by go_num, by go_num, HI2⟩
            case measure => simp [intOf]; omega
          · go_wp2
            go_ret
            exact said_true _ _ ⟨h1, HK2.out, by omega, fun j hj => HI.out j (by omega)⟩
  · go_enter Tryd.func5, Tryd.ntmps5
    go_wp2
    go_ret
    exact said_false _ _
end Go.Proofs.Qxb6628341aDoor
