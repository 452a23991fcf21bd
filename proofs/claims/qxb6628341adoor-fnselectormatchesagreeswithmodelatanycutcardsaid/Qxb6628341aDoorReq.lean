import Derived.Test.Qxb6628341aDoorIns
import Derived.Test.Qxb6628341aDoorShelf
namespace Go.Proofs.Qxb6628341aDoor
open Go.ChangeShapes Go.WideShapes Go.ChangeAt Go.RowKit

attribute [local go_sem ↓] Go.wp_at_zero Go.wp_at_succ
/-- The two package variables that strconv's errors lead to. -/
def Env (w : World) : Prop := 1 < w.heap.size ∧ (∃ ev, w.cell? ⟨0, 0, .none⟩ = some ev ∧ (ev = .nilIface ∨ ∃ te pe, ev = .iface te pe)) ∧ ∃ ev, w.cell? ⟨1, 0, .none⟩ = some ev ∧ (ev = .nilIface ∨ ∃ te pe, ev = .iface te pe)
theorem Env.kept {w w' : World} (h : Env w) (hb : Below w.heap.size w w') : Env w' := by
  obtain ⟨h1, ⟨a, ha, ha2⟩, c, hc, hc2⟩ := h
  exact ⟨Nat.lt_of_lt_of_le h1 hb.size, ⟨a, (hb.cell (p := ⟨0, 0, .none⟩) (by show 0 < _; omega)).trans ha, ha2⟩, c, (hb.cell (p := ⟨1, 0, .none⟩) h1).trans hc, hc2⟩
theorem below_bytes (w : World) (t : ByteArray) : Below w.heap.size w (Lib.bytesWorld w 5 t) := by
  exact Lib.bytesWorld_below w 5 t
theorem int_ok (s : ByteArray) (c : Int) (w : World) (hs : s.size ≤ 1048576) (h : num s = some c) :
    Calls Tryd.prog 19 #[.string s, .int .i64 10, .int .i64 64] w fun e w' => e = .returned (.tuple #[.int .i64 c, .nilIface]) ∧ Below w.heap.size w w' := by
  have e : Lib.parseIntB 64 s.data.toList = .ok c := by
    unfold num at h
    cases q : Lib.parseIntB 64 s.data.toList <;> simp [q] at h
    rw [h]
  refine (Tryd.strconv_ParseInt_10_at64_ok s (by omega) c e w).mono ?_
  rintro e w' ⟨rfl, rfl | ⟨t, rfl⟩⟩
  · exact ⟨rfl, Below.refl _ _⟩
  · exact ⟨rfl, below_bytes w t⟩
theorem int_bad (s : ByteArray) (w : World) (hs : s.size ≤ 1048576) (h : num s = none) (he : Env w) :
    Calls Tryd.prog 19 #[.string s, .int .i64 10, .int .i64 64] w fun e w' => (∃ c N, e = .returned (.tuple #[.int .i64 c, .iface 62 (.pointer (some ⟨N, 0, .none⟩))])) ∧ Below w.heap.size w w' := by
  obtain ⟨_, ⟨a, ha, ha2⟩, c, hc, hc2⟩ := he
  unfold num at h
  cases q : Lib.parseIntB 64 s.data.toList with
  | ok v => simp [q] at h
  | «syntax» =>
    refine (Tryd.strconv_ParseInt_10_at64_syntax s (by omega) q a w ha ha2).mono ?_
    rintro e w' ⟨N, rfl, _, _, hb⟩
    exact ⟨⟨_, N, rfl⟩, hb⟩
  | range =>
    refine (Tryd.strconv_ParseInt_10_at64_range s (by omega) q c w hc hc2).mono ?_
    rintro e w' ⟨N, rfl, _, _, hb⟩
    exact ⟨⟨_, N, rfl⟩, hb⟩
theorem containsS_has (vs : List ByteArray) (v : ByteArray) : Lib.containsS vs v = hasV vs v := by
  rw [Bool.eq_iff_iff, Lib.containsS_iff]
  unfold hasV
  rw [List.any_eq_true]
  constructor
  · intro h; exact ⟨v, h, (eqS_iff v v).2 rfl⟩
  · rintro ⟨y, hy, e⟩; rw [← (eqS_iff y v).1 e]; exact hy
theorem cont_any (ad : Option Addr) (n cap : Nat) (vs : List ByteArray) (v : ByteArray) (w : World) (hn : vs.length = n) (hn2 : n ≤ 1048576) (h : StrsIn w ad vs) :
    Calls Tryd.prog 18 #[.slice ad n cap, .string v] w fun e w' => e = .returned (.bool (hasV vs v)) ∧ w' = w := by
  by_cases h0 : 0 < n
  · obtain ⟨b, off, rfl, hlt, hc⟩ := h (by omega)
    have := Tryd.slices_Contains_string b off n cap vs v w (by omega) (by omega) (fun j hj => hc j hj)
    rw [List.take_of_length_le (by omega), containsS_has] at this
    exact this
  · have e : n = 0 := by omega
    subst e
    have e2 : vs = [] := List.length_eq_zero_iff.1 hn
    subst e2
    exact Tryd.slices_Contains_string_empty ad cap v w
theorem strs_alloc {w : World} {ad : Option Addr} {vs : List ByteArray} (h : StrsIn w ad vs) (o : Obj) : StrsIn (w.alloc o) ad vs := h.kept ((Below.refl _ _).alloc (Nat.le_refl _) _)

theorem eq_c (a : ByteArray) (l : List UInt8) : eqS a ⟨l.toArray⟩ = (a.toList == l) := by
  unfold eqS
  rw [ByteArray.toList_eq ⟨l.toArray⟩]
/-- The same, with the operator's tests as the walk spells them. -/
theorem holds_of (x : Rq) (o : Option ByteArray) : holds x o =
  if (x.op.toList == [73, 110]) then (match o with | some v => hasV x.vs v | none => false)
  else if (x.op.toList == [78, 111, 116, 73, 110]) then (match o with | some v => !(hasV x.vs v) | none => true)
  else if (x.op.toList == [69, 120, 105, 115, 116, 115]) then o.isSome
  else if (x.op.toList == [68, 111, 101, 115, 78, 111, 116, 69, 120, 105, 115, 116]) then !o.isSome
  else if (x.op.toList == [71, 116]) then (match o with | some v => (if x.len = 1 then cmpN true (num v) (num (x.vs.getD 0 ByteArray.empty)) else false) | none => false)
  else if (x.op.toList == [76, 116]) then (match o with | some v => (if x.len = 1 then cmpN false (num v) (num (x.vs.getD 0 ByteArray.empty)) else false) | none => false)
  else false := by
  unfold holds
  have e1 := eq_c x.op [73, 110]
  have e2 := eq_c x.op [78, 111, 116, 73, 110]
  have e3 := eq_c x.op [69, 120, 105, 115, 116, 115]
  have e4 := eq_c x.op [68, 111, 101, 115, 78, 111, 116, 69, 120, 105, 115, 116]
  have e5 := eq_c x.op [71, 116]
  have e6 := eq_c x.op [76, 116]
  rw [← e1, ← e2, ← e3, ← e4, ← e5, ← e6]
  rfl
/-- What a requirement's call is handed. -/
structure Rd (w : World) (x : Rq) : Prop where
  key : x.key.size ≤ 1048576
  len : x.vs.length = x.len
  len2 : x.len ≤ 1048576
  strs : StrsIn w x.ad x.vs
  vs : ∀ j, j < x.len → (vAt x.vs j).size ≤ 1048576
def bx (x : Rq) : Obj := .cells #[.string x.key, .string x.op, .slice x.ad x.len x.cap] 42
theorem below_bx (w : World) (x : Rq) : Below w.heap.size w (w.alloc (.cells #[.string x.key, .string x.op, .slice x.ad x.len x.cap] 42)) := (Below.refl _ _).alloc (Nat.le_refl _) _

theorem map_miss {w : World} {m n : Nat} {lb : List (ByteArray × ByteArray)} (h : MapIs w m n lb) (k : ByteArray) (hk : k.size ≤ 1048576) (ho : look lb k = none) :
    (Instr.lookup 27 (.map (some m)) (.string k) true).run Tryd.prog w = .ok (.tuple #[.string ByteArray.empty, .bool false]) w := by
  have := h.look k (by unfold maxLen; omega)
  unfold lookV lookB at this
  rw [ho] at this
  exact this
theorem map_hit {w : World} {m n : Nat} {lb : List (ByteArray × ByteArray)} (h : MapIs w m n lb) (k v : ByteArray) (hk : k.size ≤ 1048576) (ho : look lb k = some v) :
    (Instr.lookup 27 (.map (some m)) (.string k) true).run Tryd.prog w = .ok (.tuple #[.string v, .bool true]) w := by
  have := h.look k (by unfold maxLen; omega)
  unfold lookV lookB at this
  rw [ho] at this
  exact this

set_option maxRecDepth 100000 in
set_option maxHeartbeats 1000000 in
/-- In, NotIn, Exists, DoesNotExist, and what is no operator: the key is not there. -/
theorem req_plain0 (x : Rq) (m n : Nat) (lb : List (ByteArray × ByteArray)) (w : World) (hM : MapIs w m n lb) (hr : Rd w x) (ho : look lb x.key = none)
    (q5 : (x.op.toList == [71, 116]) = false) (q6 : (x.op.toList == [76, 116]) = false) :
    Calls Tryd.prog 16 #[.agg #[.string x.key, .string x.op, .slice x.ad x.len x.cap], .map (some m)] w fun e w' => e = .returned (.bool (holds x none)) ∧ Below w.heap.size w w' := by
  have HL := map_miss (hM.alloc (.cells #[.string x.key, .string x.op, .slice x.ad x.len x.cap] 42)) x.key hr.key ho
  have HB := hide (below_bx w x)
  clear hM hr ho
  cases q1 : (x.op.toList == [73, 110]) <;> cases q2 : (x.op.toList == [78, 111, 116, 73, 110]) <;> cases q3 : (x.op.toList == [69, 120, 105, 115, 116, 115]) <;> cases q4 : (x.op.toList == [68, 111, 101, 115, 78, 111, 116, 69, 120, 105, 115, 116])
  all_goals (try (exfalso; simp only [beq_iff_eq] at *; simp_all; done))
  all_goals
    have HE : Hid (holds x none = _) := holds_of x none
    simp only [q1, q2, q3, q4, q5, q6] at HE
    go_enter Tryd.func16, Tryd.ntmps16
    go_wp2
    go_ret
    exact ⟨ret_bool HE.out.symm, HB.out⟩

set_option maxRecDepth 100000 in
set_option maxHeartbeats 1000000 in
/-- .. the key is there. -/
theorem req_plain1 (x : Rq) (m n : Nat) (lb : List (ByteArray × ByteArray)) (w : World) (hM : MapIs w m n lb) (hr : Rd w x) (v : ByteArray) (ho : look lb x.key = some v)
    (q5 : (x.op.toList == [71, 116]) = false) (q6 : (x.op.toList == [76, 116]) = false) :
    Calls Tryd.prog 16 #[.agg #[.string x.key, .string x.op, .slice x.ad x.len x.cap], .map (some m)] w fun e w' => e = .returned (.bool (holds x (some v))) ∧ Below w.heap.size w w' := by
  have HL := map_hit (hM.alloc (.cells #[.string x.key, .string x.op, .slice x.ad x.len x.cap] 42)) x.key v hr.key ho
  have HC := hide (cont_any x.ad x.len x.cap x.vs v _ hr.len hr.len2 (strs_alloc hr.strs (.cells #[.string x.key, .string x.op, .slice x.ad x.len x.cap] 42)))
  have HB := hide (below_bx w x)
  clear hM hr ho
  cases q1 : (x.op.toList == [73, 110]) <;> cases q2 : (x.op.toList == [78, 111, 116, 73, 110]) <;> cases q3 : (x.op.toList == [69, 120, 105, 115, 116, 115]) <;> cases q4 : (x.op.toList == [68, 111, 101, 115, 78, 111, 116, 69, 120, 105, 115, 116])
  all_goals (try (exfalso; simp only [beq_iff_eq] at *; simp_all; done))
  all_goals
    have HE : Hid (holds x (some v) = _) := holds_of x (some v)
    simp only [q1, q2, q3, q4, q5, q6] at HE
    go_enter Tryd.func16, Tryd.ntmps16
    first
    | (go_wp2_with fail; go_ret; exact ⟨ret_bool HE.out.symm, HB.out⟩)
    | (go_wp2_with fail; refine HC.out.mono ?_; rintro e w' ⟨rfl, rfl⟩; go_wp2; go_ret; exact ⟨ret_bool HE.out.symm, HB.out⟩)
end Go.Proofs.Qxb6628341aDoor
