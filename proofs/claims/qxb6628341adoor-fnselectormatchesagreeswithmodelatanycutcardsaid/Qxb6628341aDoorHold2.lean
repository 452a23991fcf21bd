import Derived.Test.Qxb6628341aDoorHold
namespace Go.Proofs.Qxb6628341aDoor
open Go.ChangeShapes Go.WideShapes Go.ChangeAt Go.RowKit

attribute [local go_sem ↓] Go.wp_at_zero Go.wp_at_succ
theorem zp_none (s : ByteArray) (w : World) (hs : s.size ≤ 1048576) (h : num s = none) : Calls Tryd.prog 17 #[.string s] w fun e w' => e = .returned (.tuple #[.int .i64 0, .bool false]) ∧ w' = w := by
  refine (zp_any s w hs).mono ?_
  rintro e w' ⟨rfl, rfl⟩
  rw [h]; exact ⟨rfl, rfl⟩
theorem zp_some (s : ByteArray) (w : World) (v : Int) (hs : s.size ≤ 1048576) (h : num s = some v) : Calls Tryd.prog 17 #[.string s] w fun e w' => e = .returned (.tuple #[.int .i64 v, .bool true]) ∧ w' = w := by
  refine (zp_any s w hs).mono ?_
  rintro e w' ⟨rfl, rfl⟩
  rw [h]; exact ⟨rfl, rfl⟩
set_option maxRecDepth 100000 in
set_option maxHeartbeats 1000000 in
/-- Gt and Lt at one value. -/
theorem zh_one (key op u : ByteArray) (b off cap : Nat) (gt : Bool) (la : Option Addr) (ln lcap : Nat) (lb : List (ByteArray × ByteArray)) (w : World) (hl : lb.length = ln) (hl2 : ln ≤ 1048576) (hL : LbsIn w la lb) (hq : OpNum op gt) (v : ByteArray) (hv : v.size ≤ 1048576) (ho : look lb key = some v)
    (hbw : b < w.heap.size) (hc : w.cell? ⟨b, off, .none⟩ = some (.string u)) (hu : u.size ≤ 1048576) :
    Calls Tryd.prog 10 #[.agg #[.string key, .string op, .slice (some ⟨b, off, .none⟩) 1 cap], .slice la ln lcap] w fun e w' => e = .returned (.bool (holds ⟨key, op, some ⟨b, off, .none⟩, 1, cap, [u]⟩ (some v))) ∧ Below w.heap.size w w' := by
  have hB := below_b36 w ⟨key, op, some ⟨b, off, .none⟩, 1, cap, [u]⟩
  have HB := hide hB
  have HL := hide (look_at_some la ln lcap lb key v (w.alloc (.cells #[.string key, .string op, .slice (some ⟨b, off, .none⟩) 1 cap] 36)) hl hl2 (hL.kept hB) ho)
  have c1 : (w.alloc (.cells #[.string key, .string op, .slice (some ⟨b, off, .none⟩) 1 cap] 36)).cell? ⟨b, off, .none⟩ = some (.string u) := (hB.cell (p := ⟨b, off, .none⟩) hbw).trans hc
  have HE : Hid (holds ⟨key, op, some ⟨b, off, .none⟩, 1, cap, [u]⟩ (some v) = cmpN gt (num v) (num u)) := by
    show _ = _
    rw [holds_num _ gt hq (some v)]
    rfl
  obtain ⟨q1, q2, q3, q4, q5, q6⟩ := hq
  clear hL ho hB hc
  cases ha : num v with
  | none =>
    have HV := hide (zp_none v (w.alloc (.cells #[.string key, .string op, .slice (some ⟨b, off, .none⟩) 1 cap] 36)) hv ha)
    have HU := hide (zp_any u (w.alloc (.cells #[.string key, .string op, .slice (some ⟨b, off, .none⟩) 1 cap] 36)) hu)
    have HE2 : Hid (holds ⟨key, op, some ⟨b, off, .none⟩, 1, cap, [u]⟩ (some v) = false) := by show _ = _; rw [HE.out, ha]; rfl
    clear HE ha
    cases gt <;> simp only [Bool.not_true, Bool.not_false] at q6 <;>
    · go_enter Tryd.func10, Tryd.ntmps10
      go_wp2_with fail
      refine HL.out.mono ?_
      rintro e w1 ⟨rfl, rfl⟩
      go_wp2_with fail
      refine HV.out.mono ?_
      rintro e w2 ⟨rfl, rfl⟩
      go_wp2_with fail
      refine HU.out.mono ?_
      rintro e w3 ⟨rfl, rfl⟩
      go_wp2
      go_ret
      exact ⟨ret_bool HE2.out.symm, HB.out⟩
  | some a =>
    have HV := hide (zp_some v (w.alloc (.cells #[.string key, .string op, .slice (some ⟨b, off, .none⟩) 1 cap] 36)) a hv ha)
    cases hb : num u with
    | none =>
      have HU := hide (zp_none u (w.alloc (.cells #[.string key, .string op, .slice (some ⟨b, off, .none⟩) 1 cap] 36)) hu hb)
      have HE2 : Hid (holds ⟨key, op, some ⟨b, off, .none⟩, 1, cap, [u]⟩ (some v) = false) := by show _ = _; rw [HE.out, ha, hb]; rfl
      clear HE ha hb
      cases gt <;> simp only [Bool.not_true, Bool.not_false] at q6 <;>
      · go_enter Tryd.func10, Tryd.ntmps10
        go_wp2_with fail
        refine HL.out.mono ?_
        rintro e w1 ⟨rfl, rfl⟩
        go_wp2_with fail
        refine HV.out.mono ?_
        rintro e w2 ⟨rfl, rfl⟩
        go_wp2_with fail
        refine HU.out.mono ?_
        rintro e w3 ⟨rfl, rfl⟩
        go_wp2
        go_ret
        exact ⟨ret_bool HE2.out.symm, HB.out⟩
    | some c =>
      have HU := hide (zp_some u (w.alloc (.cells #[.string key, .string op, .slice (some ⟨b, off, .none⟩) 1 cap] 36)) c hu hb)
      have HE2 : Hid (holds ⟨key, op, some ⟨b, off, .none⟩, 1, cap, [u]⟩ (some v) = if gt then decide (c < a) else decide (a < c)) := by show _ = _; rw [HE.out, ha, hb]; rfl
      clear HE ha hb
      cases gt <;> simp only [Bool.not_true, Bool.not_false] at q6 <;>
      · go_enter Tryd.func10, Tryd.ntmps10
        go_wp2_with fail
        refine HL.out.mono ?_
        rintro e w1 ⟨rfl, rfl⟩
        go_wp2_with fail
        refine HV.out.mono ?_
        rintro e w2 ⟨rfl, rfl⟩
        go_wp2_with fail
        refine HU.out.mono ?_
        rintro e w3 ⟨rfl, rfl⟩
        go_wp2
        go_ret
        exact ⟨ret_bool HE2.out.symm, HB.out⟩
/-- zzHolds is the documented meaning. -/
theorem zh_any (x : Rq) (la : Option Addr) (ln lcap : Nat) (lb : List (ByteArray × ByteArray)) (w : World) (hl : lb.length = ln) (hl2 : ln ≤ 1048576) (hL : LbsIn w la lb) (hr : Rd w x) (hlb : ∀ v, look lb x.key = some v → v.size ≤ 1048576) :
    Calls Tryd.prog 10 #[.agg #[.string x.key, .string x.op, .slice x.ad x.len x.cap], .slice la ln lcap] w fun e w' => e = .returned (.bool (holds x (look lb x.key))) ∧ Below w.heap.size w w' := by
  have main : ∀ gt, OpNum x.op gt → Calls Tryd.prog 10 #[.agg #[.string x.key, .string x.op, .slice x.ad x.len x.cap], .slice la ln lcap] w fun e w' => e = .returned (.bool (holds x (look lb x.key))) ∧ Below w.heap.size w w' := fun gt hq => by
    cases ho : look lb x.key with
    | none => exact zh_none x gt la ln lcap lb w hl hl2 hL hq ho
    | some v =>
      have hv := hlb v ho
      by_cases hn : x.len = 1
      · obtain ⟨key, op, ad, len, cap, vs⟩ := x
        simp only at hn hq ho
        subst hn
        have h1 := hr.len
        simp only at h1
        obtain ⟨u, rfl⟩ := List.length_eq_one_iff.1 h1
        obtain ⟨b, off, e, hbw, hc⟩ := hr.strs (by simp)
        simp only at e
        subst e
        have hc0 : w.cell? ⟨b, off, .none⟩ = some (.string u) := by simpa [vAt] using hc 0 (by simp)
        have hu : u.size ≤ 1048576 := by simpa [vAt] using hr.vs 0 (by simp)
        exact zh_one key op u b off cap gt la ln lcap lb w hl hl2 hL hq v hv ho hbw hc0 hu
      · exact zh_len x gt la ln lcap lb w hl hl2 hL hq v ho hn
  cases q5 : (x.op.toList == [71, 116])
  · cases q6 : (x.op.toList == [76, 116])
    · cases ho : look lb x.key with
      | none => exact zh_plain0 x la ln lcap lb w hl hl2 hL ho q5 q6
      | some v => exact zh_plain1 x la ln lcap lb w hl hl2 hL hr v ho q5 q6
    · exact main false (opNum_lt _ q6)
  · exact main true (opNum_gt _ q5)
end Go.Proofs.Qxb6628341aDoor
