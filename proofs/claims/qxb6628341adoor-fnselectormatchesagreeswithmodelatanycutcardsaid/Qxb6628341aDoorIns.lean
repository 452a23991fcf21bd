import Derived.Test.Qxb6628341aDoorSel
namespace Go.Proofs.Qxb6628341aDoor
open Go.ChangeShapes Go.WideShapes Go.ChangeAt Go.RowKit

attribute [local go_sem ↓] Go.wp_at_zero Go.wp_at_succ
set_option maxRecDepth 100000 in
set_option maxHeartbeats 1000000 in
theorem sel_none (ad : Option Addr) (cap : Nat) (w : World) :
    Calls Tryd.prog 8 #[.slice ad 0 cap] w fun e w' => e = .returned (.slice (some ⟨w.heap.size, 0, .none⟩) 0 0) ∧ Below w.heap.size w w' ∧ w.heap.size < w'.heap.size := by
  obtain ⟨i1, hi, hz0, hz1, hz2⟩ := info_parts Tryd.info42
  have hb1 : i1.bytes * 0 ≤ 281474976710656 := by omega
  go_enter Tryd.func8, Tryd.ntmps8
  go_wp2_with (at_make; refine wpList_make_full _ rfl _ _ 30 rfl w.heap.size 42 i1 _ 3 Tryd.underlying30 hi hz0 hz1 .i64 .i64 _ _ 0 rfl rfl rfl rfl hb1 (by unfold maxLen; omega) (Nat.le_refl _) ?_; intro w1 hown1 hgrow1)
  have hbel1 : Below w.heap.size w w1 := (Below.refl _ _).grown hgrow1 (Nat.le_refl _) (fun k h => by cases h)
  have hrow1 : QRow w1 w.heap.size w.heap.size 0 _ := ⟨hown1, hown1.1⟩
  have hlt := hrow1.lt
  clear hgrow1 hown1 hrow1
  refine wp_loop_rounds 1 ?_
  rw [rounds_succ]; go_wp2
  go_ret
  exact ⟨rfl, hbel1, hlt⟩
theorem RqsIn.lt {w : World} {g off : Nat} {rs : List Rq} (h : RqsIn w (some ⟨g, off, .none⟩) rs) (h0 : 0 < rs.length) : g < w.heap.size := by
  obtain ⟨b, off', e, hlt, _⟩ := h h0
  cases e; exact hlt
theorem sel_any (ad : Option Addr) (n cap : Nat) (rs : List Rq) (w : World) (hn : rs.length = n) (hn2 : n ≤ 1048576) (h : RqsIn w ad rs) :
    Calls Tryd.prog 8 #[.slice ad n cap] w fun e w' => e = .returned (.slice (some ⟨w.heap.size, 0, .none⟩) n n) ∧ RqsIn w' (some ⟨w.heap.size, 0, .none⟩) rs ∧ Below w.heap.size w w' ∧ w.heap.size < w'.heap.size := by
  by_cases h0 : 0 < n
  · obtain ⟨b, off, rfl, hlt, hc⟩ := h (by omega)
    refine (sel_some b off n cap rs w hn hn2 hlt (fun j hj => hc j (by omega))).mono ?_
    rintro e w' ⟨rfl, h1, h2⟩
    exact ⟨rfl, h1, h2, h1.lt (by omega)⟩
  · have e : n = 0 := by omega
    subst e
    have e2 : rs = [] := List.length_eq_zero_iff.1 hn
    subst e2
    refine (sel_none ad cap w).mono ?_
    rintro e w' ⟨rfl, h1, h2⟩
    exact ⟨rfl, fun h => absurd h (by simp), h1, h2⟩

/-- A requirement put in at a place. -/
def ins (rs : List Rq) (pos : Nat) (x : Rq) : List Rq := rs.take pos ++ x :: rs.drop pos
theorem ins_len (rs : List Rq) (pos : Nat) (x : Rq) (h : pos ≤ rs.length) : (ins rs pos x).length = rs.length + 1 := by simp [ins]; omega
theorem ins_before (rs : List Rq) (pos : Nat) (x : Rq) (h : pos ≤ rs.length) (j : Nat) (hj : j < pos) : rqAt (ins rs pos x) j = rqAt rs j := by
  unfold rqAt ins
  rw [List.getD_eq_getElem?_getD, List.getD_eq_getElem?_getD, List.getElem?_append_left (by simp; omega), List.getElem?_take_of_lt hj]
theorem ins_at (rs : List Rq) (pos : Nat) (x : Rq) (h : pos ≤ rs.length) : rqAt (ins rs pos x) pos = x := by
  unfold rqAt ins
  rw [List.getD_eq_getElem?_getD, List.getElem?_append_right (by simp; omega)]
  simp [Nat.min_eq_left h]
theorem ins_behind (rs : List Rq) (pos : Nat) (x : Rq) (h : pos ≤ rs.length) (j : Nat) (hj : pos ≤ j) : rqAt (ins rs pos x) (j + 1) = rqAt rs j := by
  unfold rqAt ins
  rw [List.getD_eq_getElem?_getD, List.getD_eq_getElem?_getD, List.getElem?_append_right (by simp; omega)]
  have e : j + 1 - (rs.take pos).length = (j - pos) + 1 := by simp; omega
  rw [e, List.getElem?_cons_succ, List.getElem?_drop]
  congr 2; omega

/-- The requirement handed in, in its own block. -/
def BoxIs (w : World) (g : Nat) (x : Rq) : Prop := w.heap[g]? = some (.cells #[.string x.key, .string x.op, .slice x.ad x.len x.cap] 42 (0, 0))
theorem BoxIs.c0 {w : World} {g : Nat} {x : Rq} (h : BoxIs w g x) : w.cell? ⟨g, 0, .none⟩ = some (.string x.key) := by rw [cell_of_row w g 0 _ _ _ h]; rfl
theorem BoxIs.c1 {w : World} {g : Nat} {x : Rq} (h : BoxIs w g x) : w.cell? ⟨g, 1, .none⟩ = some (.string x.op) := by rw [cell_of_row w g 1 _ _ _ h]; rfl
theorem BoxIs.c2 {w : World} {g : Nat} {x : Rq} (h : BoxIs w g x) : w.cell? ⟨g, 2, .none⟩ = some (.slice x.ad x.len x.cap) := by rw [cell_of_row w g 2 _ _ _ h]; rfl
theorem BoxIs.st3 {w : World} {g : Nat} {x : Rq} (h : BoxIs w g x) (k i : Nat) (r : Rq) (hne : g ≠ k) : BoxIs (st3 w k i r) g x := by
  unfold BoxIs Qxb6628341aDoor.st3
  rw [heap_setCell_other _ _ _ _ hne, heap_setCell_other _ _ _ _ hne, heap_setCell_other _ _ _ _ hne]
  exact h
theorem BoxIs.kept {w w' : World} {g : Nat} {x : Rq} (h : BoxIs w g x) (hb : Below w.heap.size w w') : BoxIs w' g x := (hb.block g ((Array.getElem?_eq_some_iff.1 h).1)).trans h

set_option maxRecDepth 100000 in
set_option maxHeartbeats 1000000 in
theorem ins_any (b off n cap pos : Nat) (rs : List Rq) (x : Rq) (w : World) (hn : rs.length = n) (hn2 : n ≤ 1048576) (hp : pos ≤ n) (h : RqsIn w (some ⟨b, off, .none⟩) rs) :
    Calls Tryd.prog 13 #[.slice (some ⟨b, off, .none⟩) n cap, .int .i64 pos, .agg #[.string x.key, .string x.op, .slice x.ad x.len x.cap]] w fun e w' => ∃ g, e = .returned (.slice (some ⟨g, 0, .none⟩) (n + 1 : Nat) (n + 1 : Nat)) ∧ RqsIn w' (some ⟨g, 0, .none⟩) (ins rs pos x) ∧ Below w.heap.size w w' := by
  obtain ⟨i1, hi, hz0, hz1, hz2⟩ := info_parts Tryd.info42
  have hb1 : i1.bytes * (n + 1) ≤ 281474976710656 := by rw [hz2]; omega
  have hc : Hid (∀ j, j < n → b < w.heap.size ∧ w.cell? ⟨b, off + j * 3, .none⟩ = some (.string (rqAt rs j).key) ∧ w.cell? ⟨b, off + j * 3 + 1, .none⟩ = some (.string (rqAt rs j).op) ∧ w.cell? ⟨b, off + j * 3 + 2, .none⟩ = some (.slice (rqAt rs j).ad (rqAt rs j).len (rqAt rs j).cap)) := fun j hj => by
    obtain ⟨b', off', e, hlt, hc⟩ := h (by omega)
    cases e
    exact ⟨hlt, hc j (by omega)⟩
  have HN := hide hn
  have HP : Hid (pos ≤ rs.length) := by show _ ≤ _; omega
  clear hn h
  go_enter Tryd.func13, Tryd.ntmps13
  go_wp2_with (at_make; refine wpList_make_full _ rfl _ _ 30 rfl w.heap.size 42 i1 _ 3 Tryd.underlying30 hi hz0 hz1 .i64 .i64 _ _ (n + 1) rfl rfl (by omega) (by omega) hb1 (by unfold maxLen; omega) (by simp) ?_; intro w1 hown1 hgrow1)
  have hbel0 : Below w.heap.size w w1 := ((Below.refl _ _).alloc (Nat.le_refl _) (.cells #[.string x.key, .string x.op, .slice x.ad x.len x.cap] 42)).grown hgrow1 (by simp) (fun k h => by cases h)
  have hbox0 : w1.heap[w.heap.size]? = some (.cells #[.string x.key, .string x.op, .slice x.ad x.len x.cap] 42 (0, 0)) := (hgrow1.block _ (by simp) (by simp)).trans (heap_alloc_new _ _)
  have hrow0 : QRow w1 w.heap.size (w.heap.size + 1) (n + 1) _ := ⟨by simpa using hown1, by have := hown1.1; simpa using this⟩
  clear hgrow1 hown1
  go_loopw [8] (fun a8 wr => ∃ (k : Nat) (xs : List Value), k ≤ pos ∧ a8 = .int .i64 k ∧ QRow wr w.heap.size (w.heap.size + 1) (n + 1) xs ∧ Below w.heap.size w wr ∧ BoxIs wr w.heap.size x ∧ Hid (Filled xs (ins rs pos x) k)) (fun a8 _ => pos - (intOf a8).toNat)
  case atStart => exact ⟨0, _, by omega, rfl, hrow0, hbel0, hbox0, fun j hj => absurd hj (by omega)⟩
  case round =>
    clear hrow0 hbel0 hbox0
    obtain ⟨k, xs, hk, rfl, hR, hB, hX, HF⟩ := hrel
    by_cases hlt : k < pos
    · obtain ⟨hbw, d0, d1, d2⟩ := hc.out k (by omega)
      have c0 := (hB.cell (p := ⟨b, off + k * 3, .none⟩) hbw).trans d0
      have c1 := (hB.cell (p := ⟨b, off + k * 3 + 1, .none⟩) hbw).trans d1
      have c2 := (hB.cell (p := ⟨b, off + k * 3 + 2, .none⟩) hbw).trans d2
      clear d0 d1 d2
      obtain ⟨v0, g0, _⟩ := hR.cell (k * 3) (by omega)
      obtain ⟨v1, g1, _⟩ := hR.cell (k * 3 + 1) (by omega)
      obtain ⟨v2, g2, _⟩ := hR.cell (k * 3 + 2) (by omega)
      have z0 := hR.fz (k * 3)
      have z1 := hR.fz (k * 3 + 1)
      have z2 := hR.fz (k * 3 + 2)
      have hR2 := hR.put k (rqAt rs k)
      have hB2 := below_st3 hB (w.heap.size + 1) k (by omega) (rqAt rs k)
      have hX2 := hX.st3 (w.heap.size + 1) k (rqAt rs k) (by omega)
      have HF2 := hide (filled_step HF.out hR.2 (show k < n + 1 by omega))
      rw [ins_before rs pos x HP.out k hlt] at HF2
      unfold st3 at hR2 hB2 hX2
      go_wp2
      go_roundw
      case rel => exact ⟨k + 1, _, by omega, by go_num, hR2, hB2, hX2, HF2⟩
      case measure => simp [intOf]; omega
    · have ek : k = pos := by omega
      subst ek
      have x0 := hX.c0
      have x1 := hX.c1
      have x2 := hX.c2
      obtain ⟨v0, g0, _⟩ := hR.cell (k * 3) (by omega)
      obtain ⟨v1, g1, _⟩ := hR.cell (k * 3 + 1) (by omega)
      obtain ⟨v2, g2, _⟩ := hR.cell (k * 3 + 2) (by omega)
      have z0 := hR.fz (k * 3)
      have z1 := hR.fz (k * 3 + 1)
      have z2 := hR.fz (k * 3 + 2)
      have hR2 := hR.put k x
      have hB2 := below_st3 hB (w.heap.size + 1) k (by omega) x
      have HF2 := hide (filled_step HF.out hR.2 (show k < n + 1 by omega))
      rw [ins_at rs k x HP.out] at HF2
      unfold st3 at hR2 hB2
      go_wp2
      clear x0 x1 x2 g0 g1 g2 z0 z1 z2 hX hR hB HF
      go_loopw [9] (fun a9 wr => ∃ (j : Nat) (xs : List Value), k ≤ j ∧ j ≤ n ∧ a9 = .int .i64 j ∧ QRow wr w.heap.size (w.heap.size + 1) (n + 1) xs ∧ Below w.heap.size w wr ∧ Hid (Filled xs (ins rs k x) (j + 1))) (fun a9 _ => n - (intOf a9).toNat)
      case atStart => exact ⟨k, _, by omega, by omega, rfl, hR2, hB2, HF2⟩
      case round =>
        clear hR2 hB2 HF2
        obtain ⟨j, xs, hkj, hj, rfl, hR, hB, HF⟩ := hrel
        by_cases hlt : j < n
        · obtain ⟨hbw, d0, d1, d2⟩ := hc.out j hlt
          have c0 := (hB.cell (p := ⟨b, off + j * 3, .none⟩) hbw).trans d0
          have c1 := (hB.cell (p := ⟨b, off + j * 3 + 1, .none⟩) hbw).trans d1
          have c2 := (hB.cell (p := ⟨b, off + j * 3 + 2, .none⟩) hbw).trans d2
          clear d0 d1 d2
          obtain ⟨v0, g0, _⟩ := hR.cell ((j + 1) * 3) (by omega)
          obtain ⟨v1, g1, _⟩ := hR.cell ((j + 1) * 3 + 1) (by omega)
          obtain ⟨v2, g2, _⟩ := hR.cell ((j + 1) * 3 + 2) (by omega)
          have z0 := hR.fz ((j + 1) * 3)
          have z1 := hR.fz ((j + 1) * 3 + 1)
          have z2 := hR.fz ((j + 1) * 3 + 2)
          have hR2 := hR.put (j + 1) (rqAt rs j)
          have hB2 := below_st3 hB (w.heap.size + 1) (j + 1) (by omega) (rqAt rs j)
          have HF2 := hide (filled_step HF.out hR.2 (show j + 1 < n + 1 by omega))
          rw [ins_behind rs k x HP.out j hkj] at HF2
          unfold st3 at hR2 hB2
          go_wp2
          go_roundw
          case rel => exact ⟨j + 1, _, by omega, by omega, by go_num, hR2, hB2, HF2⟩
          case measure => simp [intOf]; omega
        · have ej : j = n := by omega
          subst ej
          go_wp2
          go_ret
          exact ⟨w.heap.size + 1, rfl, hR.done HF.out (by rw [ins_len rs k x HP.out, HN.out]), hB⟩
end Go.Proofs.Qxb6628341aDoor
