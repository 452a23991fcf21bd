import Derived.Test.Qxb6628398aWith
namespace Go.Proofs.Qxb6628398a
open Go.ChangeShapes Go.WideShapes Go.ChangeAt Go.RowKit

theorem hidd {p : Prop} (h : p) : Hid p := h
theorem with_call (S : S4) (c : Int) (w : World) (h0 : 0 ≤ c) (h1 : c < 256) :
    Calls Try.prog 16 #[.agg #[.int .u64 (wd S.a), .int .u64 (wd S.b), .int .u64 (wd S.c), .int .u64 (wd S.d)], .int .u8 c] w fun e w' =>
      e = .returned (.agg #[.int .u64 (wd (S.put c.toNat).a), .int .u64 (wd (S.put c.toNat).b), .int .u64 (wd (S.put c.toNat).c), .int .u64 (wd (S.put c.toNat).d)]) ∧ Below w.heap.size w w' :=
  with_any S c w h0 h1
/-- A set lies in block g. -/
def SetIn (w : World) (g : Nat) (S : S4) : Prop := w.heap[g]? = some (.cells S.cells 32 (0, 0))
theorem SetIn.c0 {w : World} {g : Nat} {S : S4} (h : SetIn w g S) : w.cell? ⟨g, 0, none⟩ = some (.int .u64 (wd S.a)) := by rw [cell_of_row w g 0 _ _ _ h]; rfl
theorem SetIn.c1 {w : World} {g : Nat} {S : S4} (h : SetIn w g S) : w.cell? ⟨g, 1, none⟩ = some (.int .u64 (wd S.b)) := by rw [cell_of_row w g 1 _ _ _ h]; rfl
theorem SetIn.c2 {w : World} {g : Nat} {S : S4} (h : SetIn w g S) : w.cell? ⟨g, 2, none⟩ = some (.int .u64 (wd S.c)) := by rw [cell_of_row w g 2 _ _ _ h]; rfl
theorem SetIn.c3 {w : World} {g : Nat} {S : S4} (h : SetIn w g S) : w.cell? ⟨g, 3, none⟩ = some (.int .u64 (wd S.d)) := by rw [cell_of_row w g 3 _ _ _ h]; rfl
theorem SetIn.fz {w : World} {g : Nat} {S : S4} (h : SetIn w g S) (j : Nat) : w.frozen? ⟨g, j, none⟩ = false := frozen_of_row w g j _ _ h
theorem SetIn.lt {w : World} {g : Nat} {S : S4} (h : SetIn w g S) : g < w.heap.size := (Array.getElem?_eq_some_iff.1 h).1
theorem SetIn.kept {w w' : World} {g B : Nat} {S : S4} (h : SetIn w g S) (hb : Below B w w') (hg : g < B) : SetIn w' g S := (hb.block g hg).trans h

/-- A set stored over another, cell by cell. -/
def st4 (w : World) (g : Nat) (S : S4) : World :=
  (((w.setCell ⟨g, 0, none⟩ (.int .u64 (wd S.a))).setCell ⟨g, 1, none⟩ (.int .u64 (wd S.b))).setCell ⟨g, 2, none⟩ (.int .u64 (wd S.c))).setCell ⟨g, 3, none⟩ (.int .u64 (wd S.d))
theorem SetIn.st4 {w : World} {g : Nat} {S : S4} (h : SetIn w g S) (T : S4) : SetIn (st4 w g T) g T := by
  have h1 := heap_setCell_same w g 0 _ _ (.int .u64 (wd T.a)) h
  have h2 := heap_setCell_same _ g 1 _ _ (.int .u64 (wd T.b)) h1
  have h3 := heap_setCell_same _ g 2 _ _ (.int .u64 (wd T.c)) h2
  exact heap_setCell_same _ g 3 _ _ (.int .u64 (wd T.d)) h3
theorem st4_other (w : World) (g k : Nat) (T : S4) (h : k ≠ g) : (st4 w g T).heap[k]? = w.heap[k]? := by
  unfold st4
  rw [heap_setCell_other _ _ _ _ h, heap_setCell_other _ _ _ _ h, heap_setCell_other _ _ _ _ h, heap_setCell_other _ _ _ _ h]
theorem below_st4 {B g : Nat} {a w : World} (h : Below B a w) (hg : B ≤ g) (T : S4) : Below B a (st4 w g T) :=
  (((h.setCell (p := ⟨g, 0, none⟩) hg _).setCell (p := ⟨g, 1, none⟩) hg _).setCell (p := ⟨g, 2, none⟩) hg _).setCell (p := ⟨g, 3, none⟩) hg _

set_option maxRecDepth 100000 in
set_option maxHeartbeats 1000000 in
theorem range_lo (S : S4) (lo hi : Nat) (w : World) (h0 : lo ≤ hi) (h1 : hi < 256) :
    Calls Try.prog 17 #[.agg #[.int .u64 (wd S.a), .int .u64 (wd S.b), .int .u64 (wd S.c), .int .u64 (wd S.d)], .int .u8 lo, .int .u8 hi] w fun e w' =>
      ∃ S' : S4, e = .returned (.agg #[.int .u64 (wd S'.a), .int .u64 (wd S'.b), .int .u64 (wd S'.c), .int .u64 (wd S'.d)]) ∧ Hid (∀ x, x < 256 → S'.has x = (S.has x || decide (lo ≤ x ∧ x ≤ hi))) ∧ Below w.heap.size w w' := by
  have hnl : decide (hi < lo) = false := by simp; omega
  go_enter Try.func17, Try.ntmps17
  go_wp2
  go_loopw [9] (fun a9 wr => ∃ (k : Nat) (S' : S4), lo ≤ k ∧ k ≤ hi + 1 ∧ a9 = .int .i64 k ∧ SetIn wr w.heap.size S' ∧ SetIn wr (w.heap.size + 1) S4.none ∧ Below w.heap.size w wr ∧
      Hid (∀ x, x < 256 → S'.has x = (S.has x || decide (lo ≤ x ∧ x < k)))) (fun a9 _ => hi + 1 - (intOf a9).toNat)
  case atStart =>
    refine ⟨lo, S, Nat.le_refl _, by omega, by go_num, ?_, ?_, ((Below.refl _ _).alloc (Nat.le_refl _) _).alloc (by simp) _, ?_⟩
    · exact heap_alloc2_old _ _ _
    · exact heap_alloc2_new _ _ _
    · intro x _; simp; omega
  case round =>
    obtain ⟨k, S', hk1, hk2, rfl, hset, hres, hbel, HX⟩ := hrel
    have r0 := hset.c0
    have r1 := hset.c1
    have r2 := hset.c2
    have r3 := hset.c3
    by_cases hlt : k ≤ hi
    · go_wp2_with fail
      refine (with_call S' _ _ (by omega) (by omega)).mono ?_
      rintro e w1 ⟨rfl, hb1⟩
      have hset1 := hset.kept hb1 hset.lt
      have hres1 := hres.kept hb1 hres.lt
      have p0 := hset1.c0
      have p1 := hset1.c1
      have p2 := hset1.c2
      have p3 := hset1.c3
      have pf := hset1.fz
      have HY : Hid (∀ x, x < 256 → (S'.put k).has x = (S.has x || decide (lo ≤ x ∧ x < k + 1))) := by
        intro x hx
        rw [has_put S' k x (by omega) hx, HX.out x hx, Bool.or_assoc]
        refine orr ?_
        rw [Bool.eq_iff_iff]; simp; omega
      have hset2 := hset1.st4 (S'.put k)
      have hres2 : SetIn (st4 w1 w.heap.size (S'.put k)) (w.heap.size + 1) S4.none := (st4_other w1 w.heap.size (w.heap.size + 1) (S'.put k) (by omega)).trans hres1
      have hbel2 := below_st4 (hbel.trans (hb1.mono hbel.size)) (Nat.le_refl _) (S'.put k)
      go_wp2
      go_roundw
      case rel => exact ⟨k + 1, S'.put k, by omega, by omega, by go_num, hset2, hres2, hbel2, HY⟩
      case measure => simp [intOf]; omega
    · have q0 := hres.c0
      have q1 := hres.c1
      have q2 := hres.c2
      have q3 := hres.c3
      have qf := hres.fz
      have hfin := hres.st4 S'
      have z0 := hfin.c0
      have z1 := hfin.c1
      have z2 := hfin.c2
      have z3 := hfin.c3
      have hbel2 := below_st4 hbel (show w.heap.size ≤ w.heap.size + 1 by omega) S'
      have HY : Hid (∀ x, x < 256 → S'.has x = (S.has x || decide (lo ≤ x ∧ x ≤ hi))) := by
        intro x hx
        rw [HX.out x hx]
        refine orr ?_
        rw [Bool.eq_iff_iff]; simp; omega
      unfold st4 at z0 z1 z2 z3
      go_wp2
      exact bodyPost_ret (v := .agg #[.int .u64 (wd S'.a), .int .u64 (wd S'.b), .int .u64 (wd S'.c), .int .u64 (wd S'.d)]) (by simp [results, Try.results17, go_sem, z0, z1, z2, z3]) rfl ⟨S', rfl, HY, hbel2⟩
set_option maxRecDepth 100000 in
set_option maxHeartbeats 1000000 in
theorem range_hi (S : S4) (lo hi : Nat) (w : World) (h0 : lo < hi) (h1 : hi < 256) :
    Calls Try.prog 17 #[.agg #[.int .u64 (wd S.a), .int .u64 (wd S.b), .int .u64 (wd S.c), .int .u64 (wd S.d)],   .int .u8 hi, .int .u8 lo] w fun e w' =>
      ∃ S' : S4, e = .returned (.agg #[.int .u64 (wd S'.a), .int .u64 (wd S'.b), .int .u64 (wd S'.c), .int .u64 (wd S'.d)]) ∧ Hid (∀ x, x < 256 → S'.has x = (S.has x || decide (lo ≤ x ∧ x ≤ hi))) ∧ Below w.heap.size w w' := by
  have hnl : decide (lo < hi) = true := by simp; omega
  go_enter Try.func17, Try.ntmps17
  go_wp2
  go_loopw [9] (fun a9 wr => ∃ (k : Nat) (S' : S4), lo ≤ k ∧ k ≤ hi + 1 ∧ a9 = .int .i64 k ∧ SetIn wr w.heap.size S' ∧ SetIn wr (w.heap.size + 1) S4.none ∧ Below w.heap.size w wr ∧
      Hid (∀ x, x < 256 → S'.has x = (S.has x || decide (lo ≤ x ∧ x < k)))) (fun a9 _ => hi + 1 - (intOf a9).toNat)
  case atStart =>
    refine ⟨lo, S, Nat.le_refl _, by omega, by go_num, ?_, ?_, ((Below.refl _ _).alloc (Nat.le_refl _) _).alloc (by simp) _, ?_⟩
    · exact heap_alloc2_old _ _ _
    · exact heap_alloc2_new _ _ _
    · intro x _; simp; omega
  case round =>
    obtain ⟨k, S', hk1, hk2, rfl, hset, hres, hbel, HX⟩ := hrel
    have r0 := hset.c0
    have r1 := hset.c1
    have r2 := hset.c2
    have r3 := hset.c3
    by_cases hlt : k ≤ hi
    · go_wp2_with fail
      refine (with_call S' _ _ (by omega) (by omega)).mono ?_
      rintro e w1 ⟨rfl, hb1⟩
      have hset1 := hset.kept hb1 hset.lt
      have hres1 := hres.kept hb1 hres.lt
      have p0 := hset1.c0
      have p1 := hset1.c1
      have p2 := hset1.c2
      have p3 := hset1.c3
      have pf := hset1.fz
      have HY : Hid (∀ x, x < 256 → (S'.put k).has x = (S.has x || decide (lo ≤ x ∧ x < k + 1))) := by
        intro x hx
        rw [has_put S' k x (by omega) hx, HX.out x hx, Bool.or_assoc]
        refine orr ?_
        rw [Bool.eq_iff_iff]; simp; omega
      have hset2 := hset1.st4 (S'.put k)
      have hres2 : SetIn (st4 w1 w.heap.size (S'.put k)) (w.heap.size + 1) S4.none := (st4_other w1 w.heap.size (w.heap.size + 1) (S'.put k) (by omega)).trans hres1
      have hbel2 := below_st4 (hbel.trans (hb1.mono hbel.size)) (Nat.le_refl _) (S'.put k)
      go_wp2
      go_roundw
      case rel => exact ⟨k + 1, S'.put k, by omega, by omega, by go_num, hset2, hres2, hbel2, HY⟩
      case measure => simp [intOf]; omega
    · have q0 := hres.c0
      have q1 := hres.c1
      have q2 := hres.c2
      have q3 := hres.c3
      have qf := hres.fz
      have hfin := hres.st4 S'
      have z0 := hfin.c0
      have z1 := hfin.c1
      have z2 := hfin.c2
      have z3 := hfin.c3
      have hbel2 := below_st4 hbel (show w.heap.size ≤ w.heap.size + 1 by omega) S'
      have HY : Hid (∀ x, x < 256 → S'.has x = (S.has x || decide (lo ≤ x ∧ x ≤ hi))) := by
        intro x hx
        rw [HX.out x hx]
        refine orr ?_
        rw [Bool.eq_iff_iff]; simp; omega
      unfold st4 at z0 z1 z2 z3
      go_wp2
      exact bodyPost_ret (v := .agg #[.int .u64 (wd S'.a), .int .u64 (wd S'.b), .int .u64 (wd S'.c), .int .u64 (wd S'.d)]) (by simp [results, Try.results17, go_sem, z0, z1, z2, z3]) rfl ⟨S', rfl, HY, hbel2⟩

theorem range_any (S : S4) (a b : Nat) (w : World) (ha : a < 256) (hb : b < 256) :
    Calls Try.prog 17 #[.agg #[.int .u64 (wd S.a), .int .u64 (wd S.b), .int .u64 (wd S.c), .int .u64 (wd S.d)], .int .u8 a, .int .u8 b] w fun e w' =>
      ∃ S' : S4, e = .returned (.agg #[.int .u64 (wd S'.a), .int .u64 (wd S'.b), .int .u64 (wd S'.c), .int .u64 (wd S'.d)]) ∧ Hid (∀ x, x < 256 → S'.has x = (S.has x || decide (min a b ≤ x ∧ x ≤ max a b))) ∧ Below w.heap.size w w' := by
  by_cases h : a ≤ b
  · rw [Nat.min_eq_left h, Nat.max_eq_right h]; exact range_lo S a b w h hb
  · rw [Nat.min_eq_right (by omega), Nat.max_eq_left (by omega)]; exact range_hi S b a w (by omega) ha
end Go.Proofs.Qxb6628398a
