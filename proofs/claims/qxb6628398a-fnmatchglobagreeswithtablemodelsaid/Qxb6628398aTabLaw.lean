import Derived.Test.Qxb6628398aModel
import Derived.Test.Qxb6628398aEscLaw
import Derived.Laws.CopyOwn
namespace Go.Proofs.Qxb6628398a
open Go.ChangeShapes Go.WideShapes Go.ChangeAt Go.RowKit
open Pl

set_option maxHeartbeats 400000 in
theorem bytes5_yes (ad : Option Addr) (len cap : Nat) (s : ByteArray) (w : World) (h : len + s.size ≤ 1048576) :
    Calls Try.prog 5 #[.slice ad len cap, .string s] w fun e w' => e = .returned (.bool true) ∧ w' = w := by
  go_enter Try.func5, Try.ntmps5
  go_wp2
  go_ret
  exact ⟨rfl, rfl⟩
set_option maxHeartbeats 400000 in
theorem bytes5_no (ad : Option Addr) (len cap : Nat) (s : ByteArray) (w : World) (hl : len ≤ maxLen) (hs : s.size ≤ maxLen) (h : ¬ len + s.size ≤ 1048576) :
    Calls Try.prog 5 #[.slice ad len cap, .string s] w fun e w' => e = .returned (.bool false) ∧ w' = w := by
  unfold maxLen at hl hs
  by_cases h1 : len ≤ 1048576
  · by_cases h2 : s.size ≤ 1048576
    all_goals
      go_enter Try.func5, Try.ntmps5
      go_wp2
      go_ret
      exact ⟨rfl, rfl⟩
  · go_enter Try.func5, Try.ntmps5
    go_wp2
    go_ret
    exact ⟨rfl, rfl⟩

/-- What zzParse's contract says at a pattern. -/
def ParseSaid (ad : Option Addr) (n cap : Nat) (z : List Int) (w : World) : Prop :=
  Calls Try.prog 13 #[.slice ad n cap] w fun e w' => ∃ its : List (Bool × S4), e = .returned (.slice (some ⟨w.heap.size, 0, none⟩) its.length n) ∧
      w'.ownsRow w.heap.size 34 5 (.slice (some ⟨w.heap.size, 0, none⟩) its.length n) its.length (rowsOf its) ∧ Hid (AgreeL its (parse z 0)) ∧ Below w.heap.size w w'
/-- The same for every pattern that lies in memory. -/
def ParseAll : Prop := ∀ (b off n cap : Nat) (z : List Int) (w : World), z.length = n → n ≤ 1048576 → (∀ j, j < n → 0 ≤ bt z j ∧ bt z j < 256) → b < w.heap.size →
    (∀ j, j < n → w.cell? ⟨b, off + j, none⟩ = some (.int .u8 (bt z j))) → ParseSaid (some ⟨b, off, none⟩) n cap z w

theorem bt_take (zs : List Int) (len j : Nat) (h : j < len) : bt (zs.take len) j = zs.getD j 0 := by
  simp [bt, h]
theorem copy_src {x : Addr} {w : World} {zs : List Int} {len : Nat} (hlen : len ≤ zs.length) (hcell : ∀ i, i < zs.length → w.cell? (x.add i) = some (.int .u8 (zs.getD i 0))) : ∀ j v, (by8 (zs.take len))[j]? = some v → w.cell? (x.add j) = some v := by
  intro j v hv
  unfold by8 at hv
  rw [List.getElem?_map] at hv
  by_cases hj : j < len
  · rw [hcell j (by omega)]
    rw [List.getElem?_take, if_pos hj, List.getElem?_eq_getElem (by omega)] at hv
    simpa [List.getD_eq_getElem?_getD, List.getElem?_eq_getElem (show j < zs.length by omega)] using hv
  · rw [List.getElem?_take, if_neg hj] at hv; simp at hv
theorem one8 (z : List Int) : ∀ v ∈ by8 z, v.oneCell' = true := by
  intro v hv; unfold by8 at hv; obtain ⟨n, _, rfl⟩ := List.mem_map.1 hv; rfl
theorem splice_all (cur cs : List Value) (h : cur.length = cs.length) : splice cur 0 cs = cs := by
  unfold splice; rw [List.take_zero, List.nil_append, Nat.zero_add, List.drop_eq_nil_of_le (by omega), List.append_nil]
theorem by8_len (z : List Int) : (by8 z).length = z.length := by unfold by8; rw [List.length_map]
/-- The cells of a block that holds just these bytes. -/
theorem block_cells {w : World} {g : Nat} {z : List Int} (h : w.heap[g]? = some (.cells (by8 z).toArray 5 (0, 0))) : ∀ j, j < z.length → w.cell? ⟨g, 0 + j, none⟩ = some (.int .u8 (bt z j)) := by
  intro j hj
  rw [Nat.zero_add, cell_of_row w g j _ _ _ h]
  simp [by8, bt, hj]
theorem made_len (n : Nat) : (madeCells (Value.int .u8 0).cells (n * 1)).toList.length = n := by
  rw [Array.length_toList, size_madeCells, Nat.mul_one]
/-- A row that the call has just made, whole. -/
theorem whole_row {w : World} {base e g n : Nat} {xs : List Value} (h : w.ownsRow base e 1 (.slice (some ⟨g, 0, none⟩) n n) n xs) : w.heap[g]? = some (.cells xs.toArray e (0, 0)) := by
  rcases h.2 with ⟨h', _⟩ | ⟨g', cap', cur, h', _, hg, _, _, hcs, htake⟩
  · simp at h'
  · simp only [Value.slice.injEq, Option.some.injEq, Addr.mk.injEq, and_true, true_and] at h'
    obtain ⟨rfl, rfl⟩ := h'
    have e1 : cur = xs.toArray := by
      rw [← htake, List.take_of_length_le (by rw [Array.length_toList]; omega)]
    rw [← e1]; exact hg

theorem copy_pos {x : Addr} {w w2 : World} {zs : List Int} {len g : Nat} (hlen : len ≤ zs.length) (hcell : ∀ i, i < zs.length → w.cell? (x.add i) = some (.int .u8 (zs.getD i 0))) (hb : Below w.heap.size w w2) :
    0 < (by8 (zs.take len)).length → (some (⟨g, 0, none⟩ : Addr)) = some ⟨g, 0, none⟩ ∧ ∃ ad, some x = some ad ∧ ∀ j v, (by8 (zs.take len))[j]? = some v → w2.cell? (ad.add j) = some v := by
  intro _
  refine ⟨rfl, x, rfl, fun j v hv => ?_⟩
  have h := copy_src hlen hcell j v hv
  rw [hb.cell (block_lt_of_cell h)]; exact h
theorem copy_len (zs : List Int) (len : Nat) (h : len ≤ zs.length) : (by8 (zs.take len)).length = Nat.min len len := by
  rw [by8_len, List.length_take_of_le h]; exact (Nat.min_self len).symm
theorem made_below {w w2 : World} (h : w.grownBy w2 none) : Below w.heap.size w w2 := (Below.refl _ _).grown h (Nat.le_refl _) (fun _ e => by cases e)
theorem model_call (ad : Option Addr) (n cap : Nat) (z : List Int) (s : ByteArray) (w : World) (hs : s.size ≤ 1024) (hn : n ≤ 1048576) (HP : ParseSaid ad n cap z w) :
    Calls Try.prog 7 #[.slice ad n cap, .string s] w fun e w' => e = .returned (.bool (glob z (tx s))) ∧ Below w.heap.size w w' :=
  model_any ad n cap z s w hs hn HP
theorem u8_range {m : Int} (h : (Lit.int .u8 m).wf = true) : 0 ≤ m ∧ m < 256 := by
  simp [Lit.wf, IntKind.min, IntKind.max, IntKind.signed, IntKind.bits] at h; omega

set_option maxRecDepth 100000 in
set_option maxHeartbeats 2000000 in
theorem tab_in (hall : ParseAll) (x : Addr) (len cap : Nat) (zs : List Int) (s : ByteArray) (w : World) (hl : len ≤ 1024) (hlz : len ≤ zs.length) (h8 : ∀ m ∈ zs, (Lit.int .u8 m).wf = true)
    (hcell : ∀ i, i < zs.length → w.cell? (x.add i) = some (.int .u8 (zs.getD i 0))) (hs : s.size ≤ 1024) :
    Calls Try.prog 3 #[.slice (some x) len cap, .string s] w fun e w' => e = .returned (.bool true) ∧ Below w.heap.size w w' := by
  obtain ⟨i0, hi, hz0, hz1, hz2⟩ := info_parts Try.info5
  have hb1 : i0.bytes * len ≤ 281474976710656 := by rw [hz2]; omega
  have hneq := fun w => run_neq_slice_nil_any (P := Try.prog) w 22 5 (some x) len cap 0 0 Try.underlying22
  have hi5 : (Try.prog.info? 5).map (·.size) = some 1 := by rw [hi]; simp [hz1]
  have HCELL := hide hcell
  have HALL := hide hall
  clear hall hcell
  have hll := List.length_take_of_le hlz
  have HZL := hide hll
  have H8 : Hid (∀ j, j < len → 0 ≤ bt (zs.take len) j ∧ bt (zs.take len) j < 256) := fun j hj => by
    rw [bt_take zs len j hj]
    have hm : zs.getD j 0 ∈ zs := by rw [List.getD_eq_getElem?_getD, List.getElem?_eq_getElem (by omega)]; exact List.getElem_mem _
    exact u8_range (h8 _ hm)
  clear hll h8
  go_enter Try.func3, Try.ntmps3
  go_wp2_with (first
    | (go_at_call 5; refine (bytes5_yes _ _ _ _ _ (by omega)).mono ?_; rintro e w' ⟨rfl, rfl⟩)
    | (at_make; refine wpList_make_full _ rfl _ _ 22 rfl w'.heap.size 5 i0 (.int .u8 0) 1 Try.underlying22 hi hz0 hz1 .i64 .i64 _ _ len rfl rfl (by omega) (by omega) hb1 (by unfold maxLen; omega) (Nat.le_refl _) ?_; intro w2 hown2 hgrow2)
    | (refine wpList_copy_splice rfl (.tmp 21) (.tmp 22) 22 22 rfl 5 Try.underlying22 hi5 _ _ len len len cap rfl rfl w'.heap.size 0 _ 5 (whole_row hown2) (by8 (zs.take len)) (copy_len zs len hlz) (copy_pos hlz HCELL.out (made_below hgrow2)) (by rw [made_len, by8_len, List.length_take_of_le hlz]; omega) (one8 _) w'.heap.size w' (made_below hgrow2) (Nat.le_refl _) ?_; intro w3 HB3 b3))
  have HW : Hid (w3.heap[w'.heap.size]? = some (.cells (by8 (zs.take len)).toArray 5 (0, 0))) := by
    have h := HB3.out
    rw [splice_all _ _ (by rw [made_len, by8_len, HZL.out])] at h
    exact h
  have HC3 : Hid (∀ j, j < len → w3.cell? ⟨w'.heap.size, 0 + j, none⟩ = some (.int .u8 (bt (zs.take len) j))) := fun j hj => block_cells HW.out j (by rw [HZL.out]; exact hj)
  have hlt3 : w'.heap.size < w3.heap.size := (Array.getElem?_eq_some_iff.1 HW.out).1
  clear hown2 hgrow2
  refine (glob_any w'.heap.size 0 len len (zs.take len) s _ HZL.out (by omega) (by omega) HC3.out).mono ?_
  rintro e w4 ⟨rfl, q, rfl⟩
  go_wp2_with fail
  refine (model_call (some ⟨w'.heap.size, 0, none⟩) len len (zs.take len) s (w3.drewN q) hs (by omega) (HALL.out w'.heap.size 0 len len (zs.take len) (w3.drewN q) HZL.out (by omega) H8.out hlt3 HC3.out)).mono ?_
  rintro e w5 ⟨rfl, b5⟩
  go_wp2
  go_ret
  exact ⟨rfl, (below_drewN b3 q).trans (b5.mono (by simp; omega))⟩

theorem glob_nilpat (t : List Int) : glob [] t = t.isEmpty := rfl
set_option maxHeartbeats 1000000 in
theorem glob_nil (s : ByteArray) (w : World) (hs : s.size ≤ 1048576) :
    Calls Try.prog 6 #[.slice none 0 0, .string s] w fun e w' => e = .returned (.bool (glob [] (tx s))) ∧ w' = w := by
  by_cases h0 : s.size = 0
  · have HG : Hid (glob [] (tx s) = true) := by
      show glob [] (tx s) = true
      rw [glob_nilpat, List.isEmpty_iff, ← List.length_eq_zero_iff, tx_len]; exact h0
    have h1 : s.size ≤ 0 := by omega
    clear h0
    go_enter Try.func6, Try.ntmps6
    go_wp2
    refine wp_loop_rounds 1 ?_
    rw [rounds_succ]; go_wp2
    go_ret
    exact ⟨ret_bool HG.out.symm, rfl⟩
  · have HG : Hid (glob [] (tx s) = false) := by
      show glob [] (tx s) = false
      rw [glob_nilpat]
      cases e : tx s with
      | nil => exact absurd (by rw [← tx_len, e]; rfl) h0
      | cons _ _ => rfl
    have h1 : 0 < s.size := by omega
    clear h0
    go_enter Try.func6, Try.ntmps6
    go_wp2
    refine wp_loop_rounds 1 ?_
    rw [rounds_succ]; go_wp2
    go_ret
    exact ⟨ret_bool HG.out.symm, rfl⟩
set_option maxRecDepth 100000 in
set_option maxHeartbeats 1000000 in
theorem parse_nil (w : World) : ParseSaid none 0 0 [] w := by
  unfold ParseSaid
  obtain ⟨i1, hi, hz0, hz1, hz2⟩ := info_parts Try.info34
  have hb1 : i1.bytes * 0 ≤ 281474976710656 := by omega
  go_enter Try.func13, Try.ntmps13
  go_wp2_with (at_make; refine wpList_make_own _ rfl _ _ 28 rfl w.heap.size 34 i1 _ 5 Try.underlying28 hi hz0 hz1 .i64 .i64 _ 0 rfl rfl (by omega) hb1 (by unfold maxLen; omega) (Nat.le_refl _) ?_; intro w1 hown1 hgrow1)
  have hbel1 := made_below hgrow1
  refine wp_loop_rounds 1 ?_
  rw [rounds_succ]; go_wp2
  go_ret
  exact ⟨[], rfl, hown1, trivial, hbel1⟩

set_option maxHeartbeats 1000000 in
theorem tab_nil (s : ByteArray) (w : World) (hs : s.size ≤ 1024) :
    Calls Try.prog 3 #[.slice none 0 0, .string s] w fun e w' => e = .returned (.bool true) ∧ Below w.heap.size w w' := by
  have hneq := fun w => run_neq_slice_nil_any (P := Try.prog) w 22 5 none 0 0 0 0 Try.underlying22
  go_enter Try.func3, Try.ntmps3
  go_wp2_with (go_at_call 5; refine (bytes5_yes _ _ _ _ _ (by omega)).mono ?_; rintro e w' ⟨rfl, rfl⟩)
  refine (glob_nil s _ (by omega)).mono ?_
  rintro e w4 ⟨rfl, rfl⟩
  go_wp2_with fail
  refine (model_call none 0 0 [] s _ hs (by omega) (parse_nil _)).mono ?_
  rintro e w5 ⟨rfl, b5⟩
  go_wp2
  go_ret
  exact ⟨rfl, b5⟩

set_option maxHeartbeats 1000000 in
theorem tab_big (ad : Option Addr) (len cap : Nat) (s : ByteArray) (w : World) (hl : len ≤ maxLen) (hs : s.size ≤ maxLen) (h : ¬ (len ≤ 1024 ∧ s.size ≤ 1024)) :
    Calls Try.prog 3 #[.slice ad len cap, .string s] w fun e w' => e = .returned (.bool true) ∧ Below w.heap.size w w' := by
  by_cases h20 : len + s.size ≤ 1048576
  · by_cases h1 : len ≤ 1024
    · have h2 : 1024 < s.size := by omega
      clear h
      go_enter Try.func3, Try.ntmps3
      go_wp2_with (go_at_call 5; refine (bytes5_yes _ _ _ _ _ h20).mono ?_; rintro e w' ⟨rfl, rfl⟩)
      go_ret
      exact ⟨rfl, Below.refl _ _⟩
    · have h2 : 1024 < len := by omega
      clear h
      go_enter Try.func3, Try.ntmps3
      go_wp2_with (go_at_call 5; refine (bytes5_yes _ _ _ _ _ h20).mono ?_; rintro e w' ⟨rfl, rfl⟩)
      go_ret
      exact ⟨rfl, Below.refl _ _⟩
  · clear h
    go_enter Try.func3, Try.ntmps3
    go_wp2_with (go_at_call 5; refine (bytes5_no _ _ _ _ _ hl hs h20).mono ?_; rintro e w' ⟨rfl, rfl⟩)
    go_ret
    exact ⟨rfl, Below.refl _ _⟩
end Go.Proofs.Qxb6628398a
