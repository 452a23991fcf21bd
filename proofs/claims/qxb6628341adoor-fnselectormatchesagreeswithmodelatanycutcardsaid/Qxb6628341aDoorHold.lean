import Derived.Test.Qxb6628341aDoorMatch
import Derived.Test.Qxb6628341aDoorZpWalk
namespace Go.Proofs.Qxb6628341aDoor
open Go.ChangeShapes Go.WideShapes Go.ChangeAt Go.RowKit

attribute [local go_sem ↓] Go.wp_at_zero Go.wp_at_succ
theorem below_b36 (w : World) (x : Rq) : Below w.heap.size w (w.alloc (.cells #[.string x.key, .string x.op, .slice x.ad x.len x.cap] 36)) := (Below.refl _ _).alloc (Nat.le_refl _) _
/-- zzLookup as it answers here. -/
theorem look_at_none (la : Option Addr) (ln lcap : Nat) (lb : List (ByteArray × ByteArray)) (k : ByteArray) (w : World) (hl : lb.length = ln) (hl2 : ln ≤ 1048576) (hL : LbsIn w la lb) (ho : look lb k = none) :
    Calls Tryd.prog 12 #[.slice la ln lcap, .string k] w fun e w' => e = .returned (.tuple #[.string ByteArray.empty, .bool false]) ∧ w' = w := by
  have := look_any la ln lcap lb k w hl hl2 hL
  unfold lookV lookB at this
  rw [ho] at this
  exact this
theorem look_at_some (la : Option Addr) (ln lcap : Nat) (lb : List (ByteArray × ByteArray)) (k v : ByteArray) (w : World) (hl : lb.length = ln) (hl2 : ln ≤ 1048576) (hL : LbsIn w la lb) (ho : look lb k = some v) :
    Calls Tryd.prog 12 #[.slice la ln lcap, .string k] w fun e w' => e = .returned (.tuple #[.string v, .bool true]) ∧ w' = w := by
  have := look_any la ln lcap lb k w hl hl2 hL
  unfold lookV lookB at this
  rw [ho] at this
  exact this
set_option maxRecDepth 100000 in
set_option maxHeartbeats 1000000 in
theorem zh_plain0 (x : Rq) (la : Option Addr) (ln lcap : Nat) (lb : List (ByteArray × ByteArray)) (w : World) (hl : lb.length = ln) (hl2 : ln ≤ 1048576) (hL : LbsIn w la lb) (ho : look lb x.key = none)
    (q5 : (x.op.toList == [71, 116]) = false) (q6 : (x.op.toList == [76, 116]) = false) :
    Calls Tryd.prog 10 #[.agg #[.string x.key, .string x.op, .slice x.ad x.len x.cap], .slice la ln lcap] w fun e w' => e = .returned (.bool (holds x none)) ∧ Below w.heap.size w w' := by
  have HB := hide (below_b36 w x)
  have HL := hide (look_at_none la ln lcap lb x.key (w.alloc (.cells #[.string x.key, .string x.op, .slice x.ad x.len x.cap] 36)) hl hl2 (hL.kept (below_b36 w x)) ho)
  clear hL ho
  cases q1 : (x.op.toList == [73, 110]) <;> cases q2 : (x.op.toList == [78, 111, 116, 73, 110]) <;> cases q3 : (x.op.toList == [69, 120, 105, 115, 116, 115]) <;> cases q4 : (x.op.toList == [68, 111, 101, 115, 78, 111, 116, 69, 120, 105, 115, 116])
  all_goals (try (exfalso; simp only [beq_iff_eq] at *; simp_all; done))
  all_goals
    have HE : Hid (holds x none = _) := holds_of x none
    simp only [q1, q2, q3, q4, q5, q6] at HE
    go_enter Tryd.func10, Tryd.ntmps10
    go_wp2_with fail
    refine HL.out.mono ?_
    rintro e w1 ⟨rfl, rfl⟩
    go_wp2
    go_ret
    exact ⟨ret_bool HE.out.symm, HB.out⟩
set_option maxRecDepth 100000 in
set_option maxHeartbeats 1000000 in
theorem zh_plain1 (x : Rq) (la : Option Addr) (ln lcap : Nat) (lb : List (ByteArray × ByteArray)) (w : World) (hl : lb.length = ln) (hl2 : ln ≤ 1048576) (hL : LbsIn w la lb) (hr : Rd w x) (v : ByteArray) (ho : look lb x.key = some v)
    (q5 : (x.op.toList == [71, 116]) = false) (q6 : (x.op.toList == [76, 116]) = false) :
    Calls Tryd.prog 10 #[.agg #[.string x.key, .string x.op, .slice x.ad x.len x.cap], .slice la ln lcap] w fun e w' => e = .returned (.bool (holds x (some v))) ∧ Below w.heap.size w w' := by
  have HB := hide (below_b36 w x)
  have HL := hide (look_at_some la ln lcap lb x.key v (w.alloc (.cells #[.string x.key, .string x.op, .slice x.ad x.len x.cap] 36)) hl hl2 (hL.kept (below_b36 w x)) ho)
  have HC := hide (has_any x.ad x.len x.cap x.vs v (w.alloc (.cells #[.string x.key, .string x.op, .slice x.ad x.len x.cap] 36)) hr.len hr.len2 (hr.strs.kept (below_b36 w x)))
  clear hL ho hr
  cases q1 : (x.op.toList == [73, 110]) <;> cases q2 : (x.op.toList == [78, 111, 116, 73, 110]) <;> cases q3 : (x.op.toList == [69, 120, 105, 115, 116, 115]) <;> cases q4 : (x.op.toList == [68, 111, 101, 115, 78, 111, 116, 69, 120, 105, 115, 116])
  all_goals (try (exfalso; simp only [beq_iff_eq] at *; simp_all; done))
  all_goals
    have HE : Hid (holds x (some v) = _) := holds_of x (some v)
    simp only [q1, q2, q3, q4, q5, q6] at HE
    go_enter Tryd.func10, Tryd.ntmps10
    go_wp2_with fail
    refine HL.out.mono ?_
    rintro e w1 ⟨rfl, rfl⟩
    first
    | (go_wp2_with fail; go_ret; exact ⟨ret_bool HE.out.symm, HB.out⟩)
    | (go_wp2_with fail; refine HC.out.mono ?_; rintro e w2 ⟨rfl, rfl⟩; go_wp2; go_ret; exact ⟨ret_bool HE.out.symm, HB.out⟩)
set_option maxRecDepth 100000 in
set_option maxHeartbeats 1000000 in
theorem zh_none (x : Rq) (gt : Bool) (la : Option Addr) (ln lcap : Nat) (lb : List (ByteArray × ByteArray)) (w : World) (hl : lb.length = ln) (hl2 : ln ≤ 1048576) (hL : LbsIn w la lb) (hq : OpNum x.op gt) (ho : look lb x.key = none) :
    Calls Tryd.prog 10 #[.agg #[.string x.key, .string x.op, .slice x.ad x.len x.cap], .slice la ln lcap] w fun e w' => e = .returned (.bool (holds x none)) ∧ Below w.heap.size w w' := by
  have HB := hide (below_b36 w x)
  have HL := hide (look_at_none la ln lcap lb x.key (w.alloc (.cells #[.string x.key, .string x.op, .slice x.ad x.len x.cap] 36)) hl hl2 (hL.kept (below_b36 w x)) ho)
  have HE := hide (holds_num x gt hq none)
  obtain ⟨q1, q2, q3, q4, q5, q6⟩ := hq
  clear hL ho
  cases gt <;> simp only [Bool.not_true, Bool.not_false] at q6 <;>
  · go_enter Tryd.func10, Tryd.ntmps10
    go_wp2_with fail
    refine HL.out.mono ?_
    rintro e w1 ⟨rfl, rfl⟩
    go_wp2
    go_ret
    exact ⟨ret_bool HE.out.symm, HB.out⟩
set_option maxRecDepth 100000 in
set_option maxHeartbeats 1000000 in
theorem zh_len (x : Rq) (gt : Bool) (la : Option Addr) (ln lcap : Nat) (lb : List (ByteArray × ByteArray)) (w : World) (hl : lb.length = ln) (hl2 : ln ≤ 1048576) (hL : LbsIn w la lb) (hq : OpNum x.op gt) (v : ByteArray) (ho : look lb x.key = some v) (hn : x.len ≠ 1) :
    Calls Tryd.prog 10 #[.agg #[.string x.key, .string x.op, .slice x.ad x.len x.cap], .slice la ln lcap] w fun e w' => e = .returned (.bool (holds x (some v))) ∧ Below w.heap.size w w' := by
  have HB := hide (below_b36 w x)
  have HL := hide (look_at_some la ln lcap lb x.key v (w.alloc (.cells #[.string x.key, .string x.op, .slice x.ad x.len x.cap] 36)) hl hl2 (hL.kept (below_b36 w x)) ho)
  have HE : Hid (holds x (some v) = false) := by
    show _ = _
    rw [holds_num x gt hq (some v)]; simp [hn]
  obtain ⟨q1, q2, q3, q4, q5, q6⟩ := hq
  have tl : ((x.len : Int) != 1) = true := by simp; omega
  clear hL ho
  cases gt <;> simp only [Bool.not_true, Bool.not_false] at q6 <;>
  · go_enter Tryd.func10, Tryd.ntmps10
    go_wp2_with fail
    refine HL.out.mono ?_
    rintro e w1 ⟨rfl, rfl⟩
    go_wp2
    go_ret
    exact ⟨ret_bool HE.out.symm, HB.out⟩
end Go.Proofs.Qxb6628341aDoor
