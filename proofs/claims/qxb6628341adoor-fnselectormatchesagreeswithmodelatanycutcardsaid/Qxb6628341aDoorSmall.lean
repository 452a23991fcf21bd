import Derived.Test.Qxb6628341aDoorPlain
namespace Go.Proofs.Qxb6628341aDoor
open Go.ChangeShapes Go.WideShapes Go.ChangeAt Go.RowKit

/-- A slice of strings in memory. -/
def StrsIn (w : World) (ad : Option Addr) (vs : List ByteArray) : Prop := 0 < vs.length → ∃ b off, ad = some ⟨b, off, none⟩ ∧ b < w.heap.size ∧ ∀ j, j < vs.length → w.cell? ⟨b, off + j, none⟩ = some (.string (vAt vs j))
theorem StrsIn.kept {w w' : World} {ad : Option Addr} {vs : List ByteArray} (h : StrsIn w ad vs) (hb : Below w.heap.size w w') : StrsIn w' ad vs := fun h0 => by
  obtain ⟨b, off, e, hlt, hc⟩ := h h0
  exact ⟨b, off, e, Nat.lt_of_lt_of_le hlt hb.size, fun j hj => (hb.cell (p := ⟨b, off + j, none⟩) hlt).trans (hc j hj)⟩
/-- A slice of labels in memory. -/
def LbsIn (w : World) (ad : Option Addr) (lb : List (ByteArray × ByteArray)) : Prop := 0 < lb.length → ∃ b off, ad = some ⟨b, off, none⟩ ∧ b < w.heap.size ∧ ∀ j, j < lb.length → w.cell? ⟨b, off + j * 2, none⟩ = some (.string (lbAt lb j).1) ∧ w.cell? ⟨b, off + j * 2 + 1, none⟩ = some (.string (lbAt lb j).2)
theorem LbsIn.kept {w w' : World} {ad : Option Addr} {lb : List (ByteArray × ByteArray)} (h : LbsIn w ad lb) (hb : Below w.heap.size w w') : LbsIn w' ad lb := fun h0 => by
  obtain ⟨b, off, e, hlt, hc⟩ := h h0
  exact ⟨b, off, e, Nat.lt_of_lt_of_le hlt hb.size, fun j hj => ⟨(hb.cell (p := ⟨b, off + j * 2, none⟩) hlt).trans (hc j hj).1, (hb.cell (p := ⟨b, off + j * 2 + 1, none⟩) hlt).trans (hc j hj).2⟩⟩

set_option maxHeartbeats 400000 in
theorem has_none (ad : Option Addr) (cap : Nat) (v : ByteArray) (w : World) :
    Calls Tryd.prog 14 #[.slice ad 0 cap, .string v] w fun e w' => e = .returned (.bool false) ∧ w' = w := by
  go_enter Tryd.func14, Tryd.ntmps14
  go_wp2
  refine wp_loop_rounds 1 ?_
  rw [rounds_succ]; go_wp2
  go_ret
  exact ⟨rfl, rfl⟩
set_option maxHeartbeats 400000 in
theorem has_some (b off n cap : Nat) (vs : List ByteArray) (v : ByteArray) (w : World) (hn : vs.length = n) (hn2 : n ≤ 1048576) (hc : ∀ j, j < n → w.cell? ⟨b, off + j, none⟩ = some (.string (vAt vs j))) :
    Calls Tryd.prog 14 #[.slice (some ⟨b, off, none⟩) n cap, .string v] w fun e w' => e = .returned (.bool (hasV vs v)) ∧ w' = w := by
  have HN := hide hn
  have HC := hide hc
  clear hn hc
  go_enter Tryd.func14, Tryd.ntmps14
  go_wp2
  go_loop [5] (fun a5 => ∃ k : Nat, k ≤ n ∧ a5 = .int .i64 k ∧ Hid (hasV (vs.take k) v = false)) (fun a5 => n - (intOf a5).toNat)
  case atStart => exact ⟨0, by omega, rfl, rfl⟩
  case round =>
    obtain ⟨k, hk, rfl, HK⟩ := hrel
    by_cases hlt : k < n
    · have c0 := HC.out k hlt
      have HS := hide (has_take_succ vs k (by rw [HN.out]; exact hlt) v)
      cases he : eqS (vAt vs k) v
      · have t : ((vAt vs k).toList == v.toList) = false := he
        have HK2 : Hid (hasV (vs.take (k + 1)) v = false) := by show _ = _; rw [HS.out, HK.out, he]; rfl
        clear he
        go_wp2
        go_round
        case rel => exact ⟨k + 1, by omega, by go_num, HK2⟩
        case measure => simp [intOf]; omega
      · have t : ((vAt vs k).toList == v.toList) = true := he
        have HF := hide (has_hit vs k (by rw [HN.out]; exact hlt) v he)
        clear he
        go_wp2
        go_ret
        exact ⟨ret_bool HF.out.symm, rfl⟩
    · have HF : Hid (hasV vs v = false) := by
        have h := HK.out
        rw [List.take_of_length_le (by rw [HN.out]; omega)] at h
        exact h
      go_wp2
      go_ret
      exact ⟨ret_bool HF.out.symm, rfl⟩
theorem has_any (ad : Option Addr) (n cap : Nat) (vs : List ByteArray) (v : ByteArray) (w : World) (hn : vs.length = n) (hn2 : n ≤ 1048576) (h : StrsIn w ad vs) :
    Calls Tryd.prog 14 #[.slice ad n cap, .string v] w fun e w' => e = .returned (.bool (hasV vs v)) ∧ w' = w := by
  by_cases h0 : n = 0
  · subst h0
    obtain rfl : vs = [] := List.length_eq_zero_iff.1 hn
    exact has_none ad cap v w
  · obtain ⟨b, off, rfl, _, hc⟩ := h (by omega)
    exact has_some b off n cap vs v w hn hn2 (fun j hj => hc j (by omega))

/-- What zzLookup answers. -/
def lookV (lb : List (ByteArray × ByteArray)) (k : ByteArray) : ByteArray := (look lb k).getD ByteArray.empty
def lookB (lb : List (ByteArray × ByteArray)) (k : ByteArray) : Bool := (look lb k).isSome
theorem ret_look {a b : ByteArray} {c d : Bool} (h : a = b) (h2 : c = d) : Ending.returned (.tuple #[.string a, .bool c]) = .returned (.tuple #[.string b, .bool d]) := by rw [h, h2]
set_option maxHeartbeats 400000 in
theorem look_none (ad : Option Addr) (cap : Nat) (v : ByteArray) (w : World) :
    Calls Tryd.prog 12 #[.slice ad 0 cap, .string v] w fun e w' => e = .returned (.tuple #[.string (lookV [] v), .bool (lookB [] v)]) ∧ w' = w := by
  go_enter Tryd.func12, Tryd.ntmps12
  go_wp2
  refine wp_loop_rounds 1 ?_
  rw [rounds_succ]; go_wp2
  go_ret2
  exact ⟨rfl, rfl⟩
set_option maxHeartbeats 400000 in
theorem look_some (b off n cap : Nat) (lb : List (ByteArray × ByteArray)) (v : ByteArray) (w : World) (hn : lb.length = n) (hn2 : n ≤ 1048576)
    (hc : ∀ j, j < n → w.cell? ⟨b, off + j * 2, none⟩ = some (.string (lbAt lb j).1) ∧ w.cell? ⟨b, off + j * 2 + 1, none⟩ = some (.string (lbAt lb j).2)) :
    Calls Tryd.prog 12 #[.slice (some ⟨b, off, none⟩) n cap, .string v] w fun e w' => e = .returned (.tuple #[.string (lookV lb v), .bool (lookB lb v)]) ∧ w' = w := by
  have HN := hide hn
  have HC := hide hc
  clear hn hc
  go_enter Tryd.func12, Tryd.ntmps12
  go_wp2
  go_loop [6] (fun a6 => ∃ k : Nat, k ≤ n ∧ a6 = .int .i64 ((k : Int) - 1) ∧ Hid (look (lb.take k) v = look lb v)) (fun a6 => (intOf a6 + 1).toNat)
  case atStart => exact ⟨n, by omega, rfl, by show _ = _; rw [List.take_of_length_le (by rw [HN.out]; exact Nat.le_refl _)]⟩
  case round =>
    obtain ⟨k, hk, rfl, HK⟩ := hrel
    cases k with
    | zero =>
      have HF : Hid (look lb v = none) := HK.out.symm
      go_wp2
      go_ret2
      exact ⟨ret_look (by unfold lookV; rw [HF.out]; rfl) (by unfold lookB; rw [HF.out]; rfl), rfl⟩
    | succ i =>
      obtain ⟨c0, c1⟩ := HC.out i (by omega)
      have HS := hide (look_take_succ lb i (by rw [HN.out]; omega) v)
      have e1 : ((i + 1 : Nat) : Int) - 1 = (i : Int) := by omega
      rw [e1]
      clear e1
      cases he : eqS (lbAt lb i).1 v
      · have t : ((lbAt lb i).1.toList == v.toList) = false := he
        have HK2 : Hid (look (lb.take i) v = look lb v) := by
          show _ = _
          rw [← HK.out, HS.out, he]; rfl
        clear he
        go_wp2
        go_round
        case rel => exact ⟨i, by omega, by go_num, HK2⟩
        case measure => simp [intOf]
      · have t : ((lbAt lb i).1.toList == v.toList) = true := he
        have HF : Hid (look lb v = some (lbAt lb i).2) := by
          show _ = _
          rw [← HK.out, HS.out, he]; rfl
        clear he
        go_wp2
        go_ret2
        exact ⟨ret_look (by unfold lookV; rw [HF.out]; rfl) (by unfold lookB; rw [HF.out]; rfl), rfl⟩
theorem look_any (ad : Option Addr) (n cap : Nat) (lb : List (ByteArray × ByteArray)) (v : ByteArray) (w : World) (hn : lb.length = n) (hn2 : n ≤ 1048576) (h : LbsIn w ad lb) :
    Calls Tryd.prog 12 #[.slice ad n cap, .string v] w fun e w' => e = .returned (.tuple #[.string (lookV lb v), .bool (lookB lb v)]) ∧ w' = w := by
  by_cases h0 : n = 0
  · subst h0
    obtain rfl : lb = [] := List.length_eq_zero_iff.1 hn
    exact look_none ad cap v w
  · obtain ⟨b, off, rfl, _, hc⟩ := h (by omega)
    exact look_some b off n cap lb v w hn hn2 (fun j hj => hc j (by omega))
end Go.Proofs.Qxb6628341aDoor
