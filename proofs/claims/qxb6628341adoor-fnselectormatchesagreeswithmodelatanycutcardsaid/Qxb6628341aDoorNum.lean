import Derived.Test.Qxb6628341aDoorReq
namespace Go.Proofs.Qxb6628341aDoor
open Go.ChangeShapes Go.WideShapes Go.ChangeAt Go.RowKit

attribute [local go_sem ↓] Go.wp_at_zero Go.wp_at_succ
/-- Gt or Lt: the tests as the walk spells them. -/
def OpNum (op : ByteArray) (gt : Bool) : Prop := (op.toList == [73, 110]) = false ∧ (op.toList == [78, 111, 116, 73, 110]) = false ∧ (op.toList == [69, 120, 105, 115, 116, 115]) = false ∧ (op.toList == [68, 111, 101, 115, 78, 111, 116, 69, 120, 105, 115, 116]) = false ∧ (op.toList == [71, 116]) = gt ∧ (op.toList == [76, 116]) = !gt
theorem holds_num (x : Rq) (gt : Bool) (h : OpNum x.op gt) (o : Option ByteArray) : holds x o = match o with | some v => (if x.len = 1 then cmpN gt (num v) (num (x.vs.getD 0 ByteArray.empty)) else false) | none => false := by
  obtain ⟨q1, q2, q3, q4, q5, q6⟩ := h
  rw [holds_of, q1, q2, q3, q4, q5, q6]
  cases gt <;> rfl
set_option maxRecDepth 100000 in
set_option maxHeartbeats 1000000 in
theorem num_none (x : Rq) (gt : Bool) (m n : Nat) (lb : List (ByteArray × ByteArray)) (w : World) (hM : MapIs w m n lb) (hr : Rd w x) (hq : OpNum x.op gt) (ho : look lb x.key = none) :
    Calls Tryd.prog 16 #[.agg #[.string x.key, .string x.op, .slice x.ad x.len x.cap], .map (some m)] w fun e w' => e = .returned (.bool (holds x none)) ∧ Below w.heap.size w w' := by
  have HL := map_miss (hM.alloc (.cells #[.string x.key, .string x.op, .slice x.ad x.len x.cap] 42)) x.key hr.key ho
  have HB := hide (below_bx w x)
  have HE := hide (holds_num x gt hq none)
  obtain ⟨q1, q2, q3, q4, q5, q6⟩ := hq
  clear hM hr ho
  cases gt <;> simp only [Bool.not_true, Bool.not_false] at q6 <;>
  · go_enter Tryd.func16, Tryd.ntmps16
    go_wp2
    go_ret
    exact ⟨ret_bool HE.out.symm, HB.out⟩
set_option maxRecDepth 100000 in
set_option maxHeartbeats 1000000 in
theorem num_len (x : Rq) (gt : Bool) (m n : Nat) (lb : List (ByteArray × ByteArray)) (w : World) (hM : MapIs w m n lb) (hr : Rd w x) (hq : OpNum x.op gt) (v : ByteArray) (ho : look lb x.key = some v) (hl : x.len ≠ 1) :
    Calls Tryd.prog 16 #[.agg #[.string x.key, .string x.op, .slice x.ad x.len x.cap], .map (some m)] w fun e w' => e = .returned (.bool (holds x (some v))) ∧ Below w.heap.size w w' := by
  have HL := map_hit (hM.alloc (.cells #[.string x.key, .string x.op, .slice x.ad x.len x.cap] 42)) x.key v hr.key ho
  have HB := hide (below_bx w x)
  have HE : Hid (holds x (some v) = false) := by
    show _ = _
    rw [holds_num x gt hq (some v)]; simp [hl]
  obtain ⟨q1, q2, q3, q4, q5, q6⟩ := hq
  have tl : ((x.len : Int) != 1) = true := by simp; omega
  clear hM hr ho
  cases gt <;> simp only [Bool.not_true, Bool.not_false] at q6 <;>
  · go_enter Tryd.func16, Tryd.ntmps16
    go_wp2
    go_ret
    exact ⟨ret_bool HE.out.symm, HB.out⟩
set_option maxRecDepth 100000 in
set_option maxHeartbeats 1000000 in
theorem num_bad (x : Rq) (gt : Bool) (m n : Nat) (lb : List (ByteArray × ByteArray)) (w : World) (hM : MapIs w m n lb) (hr : Rd w x) (hw : Env w) (hq : OpNum x.op gt) (v : ByteArray) (hv : v.size ≤ 1048576) (ho : look lb x.key = some v) (hl : x.len = 1) (hb : num v = none) :
    Calls Tryd.prog 16 #[.agg #[.string x.key, .string x.op, .slice x.ad x.len x.cap], .map (some m)] w fun e w' => e = .returned (.bool (holds x (some v))) ∧ Below w.heap.size w w' := by
  have HL := map_hit (hM.alloc (.cells #[.string x.key, .string x.op, .slice x.ad x.len x.cap] 42)) x.key v hr.key ho
  have hB := below_bx w x
  have HB := hide hB
  have HE : Hid (holds x (some v) = false) := by
    show _ = _
    rw [holds_num x gt hq (some v)]; simp only [hl, hb]; rfl
  have HI := hide (int_bad v (w.alloc (.cells #[.string x.key, .string x.op, .slice x.ad x.len x.cap] 42)) hv hb (hw.kept hB))
  obtain ⟨q1, q2, q3, q4, q5, q6⟩ := hq
  have tl : ((x.len : Int) != 1) = false := by rw [hl]; rfl
  clear hM hr ho hw hB
  rw [hl] at HL HI tl HB ⊢
  clear hl
  cases gt <;> simp only [Bool.not_true, Bool.not_false] at q6 <;>
  · go_enter Tryd.func16, Tryd.ntmps16
    go_wp2_with fail
    refine HI.out.mono ?_
    rintro e w1 ⟨⟨c, N, rfl⟩, hb1⟩
    have HB1 := hide (HB.out.trans (hb1.mono HB.out.size))
    clear HI
    go_wp2
    go_ret
    exact ⟨ret_bool HE.out.symm, HB1.out⟩
end Go.Proofs.Qxb6628341aDoor
