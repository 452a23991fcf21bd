import Derived.Test.Qxb6628398aTab
namespace Go.Proofs.Qxb6628398a
open Go.ChangeShapes Go.WideShapes Go.ChangeAt Go.RowKit
open Pl

theorem Try.info4 : (Try.prog.info? 4).map (fun i => (i.zero, i.size, i.bytes)) = some (some (.bool false), 1, 1) := by kernel_rfl
def bl (C : List Bool) : List Value := C.map Value.bool
/-- A row of Booleans, m + 1 of them, in block g. -/
def BRow (w : World) (base g m : Nat) (C : List Bool) : Prop := w.ownsRow base 4 1 (.slice (some ⟨g, 0, none⟩) (m + 1) (m + 1)) (m + 1) (bl C)
theorem BRow.len {w : World} {base g m : Nat} {C : List Bool} (h : BRow w base g m C) : C.length = m + 1 := by
  have := h.1; unfold bl at this; simpa using this
theorem BRow.cell {w : World} {base g m : Nat} {C : List Bool} (h : BRow w base g m C) (j : Nat) (hj : j ≤ m) : w.cell? ⟨g, j, none⟩ = some (.bool (C.getD j false)) := by
  have hl := h.len
  rw [World.ownsRow.cellAt h j (by omega)]
  unfold bl
  rw [List.getElem?_map, List.getElem?_eq_getElem (by omega)]
  simp [List.getElem?_eq_getElem (show j < C.length by omega)]
theorem BRow.fz {w : World} {base g m : Nat} {C : List Bool} (h : BRow w base g m C) (j : Nat) : w.frozen? ⟨g, j, none⟩ = false := World.ownsRow.frozenAt h j
theorem BRow.lt {w : World} {base g m : Nat} {C : List Bool} (h : BRow w base g m C) : g < w.heap.size := owns_lt' h
theorem BRow.to {w w' : World} {base g m : Nat} {C : List Bool} (h : BRow w base g m C) (hh : w'.heap[g]? = w.heap[g]?) : BRow w' base g m C := row_same h hh
theorem BRow.set {w : World} {base g m : Nat} {C : List Bool} (h : BRow w base g m C) (j : Nat) (b : Bool) : BRow (w.setCell ⟨g, j, none⟩ (.bool b)) base g m (C.set j b) := by
  unfold BRow
  have e : bl (C.set j b) = (bl C).set j (.bool b) := by unfold bl; rw [List.map_set]
  rw [e]
  exact (World.ownsRow.stored h j (.bool b)).1
theorem BRow.put {w : World} {base g m k : Nat} {C : List Bool} (h : BRow w base g m C) (j : Nat) (u : Value) (hne : g ≠ k) : BRow (w.setCell ⟨k, j, none⟩ u) base g m C :=
  h.to (heap_setCell_other _ _ _ _ hne)
theorem owns_le {w : World} {base e size n cap g : Nat} {xs : List Value} (h : w.ownsRow base e size (.slice (some ⟨g, 0, none⟩) n cap) n xs) : n ≤ cap := by
  rcases h.2 with ⟨h', _⟩ | ⟨g', cap', cur, h', _, _, hle, _⟩
  · simp at h'
  · simp only [Value.slice.injEq, Option.some.injEq, Addr.mk.injEq, and_true, true_and] at h'
    obtain ⟨rfl, rfl⟩ := h'
    exact hle
theorem set_getD (N : List Bool) (i j : Nat) (b : Bool) (hi : i < N.length) : (N.set i b).getD j false = if j = i then b else N.getD j false := by
  rw [List.getD_eq_getElem?_getD, List.getD_eq_getElem?_getD, List.getElem?_set]
  by_cases e : i = j
  · subst e; simp [hi]
  · rw [if_neg e, if_neg (fun h => e h.symm)]
/-- Is there a true one among the first i? -/
def accOf (C : List Bool) (i : Nat) : Bool := (C.take i).any id
theorem acc_zero (C : List Bool) : accOf C 0 = false := rfl
theorem acc_succ (C : List Bool) (i : Nat) (h : i < C.length) : accOf C (i + 1) = (accOf C i || C.getD i false) := by
  unfold accOf; rw [List.take_succ_eq_append_getElem h, List.any_append]; simp [List.getD_eq_getElem?_getD, h]
theorem acc_iff (C : List Bool) (j : Nat) (h : j < C.length) : accOf C (j + 1) = true ↔ ∃ l, l ≤ j ∧ C.getD l false = true := by
  induction j with
  | zero => rw [acc_succ C 0 h, acc_zero]; simp
  | succ j ih =>
    rw [acc_succ C (j + 1) h, Bool.or_eq_true, ih (by omega)]
    constructor
    · rintro (⟨l, hl, hc⟩ | hc)
      · exact ⟨l, by omega, hc⟩
      · exact ⟨j + 1, Nat.le_refl _, hc⟩
    · rintro ⟨l, hl, hc⟩
      by_cases e : l = j + 1
      · right; rw [← e]; exact hc
      · left; exact ⟨l, by omega, hc⟩
/-- Item k's cells in the items' row. -/
theorem it_cell {w : World} {base g n : Nat} {its : List (Bool × S4)} (h : w.ownsRow base 34 5 (.slice (some ⟨g, 0, none⟩) its.length n) its.length (rowsOf its)) (k : Nat) (hk : k < its.length) (r : Nat) (hr : r < 5) :
    w.cell? ⟨g, k * 5 + r, none⟩ = (cells5 its[k].1 its[k].2)[r]? := by
  rw [h.cellAt (k * 5 + r) (by omega), rows_at its k hk r hr]
theorem made_bools (n : Nat) : (madeCells (Value.bool false).cells (n * 1)).toList = bl (List.replicate n false) := by
  show (madeCells #[Value.bool false] (n * 1)).toList = _
  rw [Nat.mul_one, toList_madeCells_one]; simp [bl]
/-- The model's memory in the loop: the items' row, the two rows of Booleans; nothing old has turned. -/
def St (w wr : World) (its : List (Bool × S4)) (n m gc gn : Nat) (C N : List Bool) : Prop :=
  wr.ownsRow w.heap.size 34 5 (.slice (some ⟨w.heap.size, 0, none⟩) its.length n) its.length (rowsOf its) ∧ BRow wr w.heap.size gc m C ∧ BRow wr w.heap.size gn m N ∧ Below w.heap.size w wr ∧ w.heap.size < gc ∧ w.heap.size < gn ∧ gc ≠ gn
theorem St.put {w wr : World} {its : List (Bool × S4)} {n m gc gn : Nat} {C N : List Bool} (h : St w wr its n m gc gn C N) (j : Nat) (b : Bool) : St w (wr.setCell ⟨gn, j, none⟩ (.bool b)) its n m gc gn C (N.set j b) := by
  obtain ⟨h1, h2, h3, h4, h5, h6, h7⟩ := h
  exact ⟨row_same h1 (heap_setCell_other _ _ _ _ (by simp; omega)), h2.put _ _ h7, h3.set j b, h4.setCell (p := ⟨gn, j, none⟩) (by simp; omega) _, h5, h6, h7⟩
theorem St.drew {w wr : World} {its : List (Bool × S4)} {n m gc gn : Nat} {C N : List Bool} (h : St w wr its n m gc gn C N) : St w wr.drew its n m gc gn C N :=
  ⟨h.1, h.2.1, h.2.2.1, h.2.2.2.1.drew, h.2.2.2.2⟩
theorem St.swap {w wr : World} {its : List (Bool × S4)} {n m gc gn : Nat} {C N : List Bool} (h : St w wr its n m gc gn C N) : St w wr its n m gn gc N C :=
  ⟨h.1, h.2.2.1, h.2.1, h.2.2.2.1, h.2.2.2.2.2.1, h.2.2.2.2.1, fun e => h.2.2.2.2.2.2 e.symm⟩
theorem St.call {w wr w1 : World} {its : List (Bool × S4)} {n m gc gn : Nat} {C N : List Bool} (h : St w wr its n m gc gn C N) (hb : Below wr.heap.size wr w1) : St w w1 its n m gc gn C N := by
  obtain ⟨h1, h2, h3, h4, h5, h6, h7⟩ := h
  exact ⟨row_same h1 (hb.block _ (owns_lt' h1)), h2.to (hb.block _ h2.lt), h3.to (hb.block _ h3.lt), h4.trans (hb.mono h4.size), h5, h6, h7⟩
theorem St.cur {w wr : World} {its : List (Bool × S4)} {n m gc gn : Nat} {C N : List Bool} (h : St w wr its n m gc gn C N) (j : Nat) (hj : j ≤ m) : wr.cell? ⟨gc, j, none⟩ = some (.bool (C.getD j false)) := h.2.1.cell j hj
theorem St.nxt {w wr : World} {its : List (Bool × S4)} {n m gc gn : Nat} {C N : List Bool} (h : St w wr its n m gc gn C N) (j : Nat) (hj : j ≤ m) : wr.cell? ⟨gn, j, none⟩ = some (.bool (N.getD j false)) := h.2.2.1.cell j hj
theorem St.fz {w wr : World} {its : List (Bool × S4)} {n m gc gn : Nat} {C N : List Bool} (h : St w wr its n m gc gn C N) (j : Nat) : wr.frozen? ⟨gn, j, none⟩ = false := h.2.2.1.fz j
theorem St.lenC {w wr : World} {its : List (Bool × S4)} {n m gc gn : Nat} {C N : List Bool} (h : St w wr its n m gc gn C N) : C.length = m + 1 := h.2.1.len
theorem St.lenN {w wr : World} {its : List (Bool × S4)} {n m gc gn : Nat} {C N : List Bool} (h : St w wr its n m gc gn C N) : N.length = m + 1 := h.2.2.1.len
theorem St.it {w wr : World} {its : List (Bool × S4)} {n m gc gn : Nat} {C N : List Bool} (h : St w wr its n m gc gn C N) (k : Nat) (hk : k < its.length) (r : Nat) (hr : r < 5) :
    wr.cell? ⟨w.heap.size, k * 5 + r, none⟩ = (cells5 its[k].1 its[k].2)[r]? := it_cell h.1 k hk r hr
theorem St.cells {w wr : World} {its : List (Bool × S4)} {n m gc gn : Nat} {C N : List Bool} (h : St w wr its n m gc gn C N) (k : Nat) (hk : k < its.length) {st : Bool} {S : S4} (e : its[k] = (st, S)) :
    wr.cell? ⟨w.heap.size, k * 5 + 1, none⟩ = some (.int .u64 (wd S.a)) ∧ wr.cell? ⟨w.heap.size, k * 5 + 2, none⟩ = some (.int .u64 (wd S.b)) ∧ wr.cell? ⟨w.heap.size, k * 5 + 3, none⟩ = some (.int .u64 (wd S.c)) ∧ wr.cell? ⟨w.heap.size, k * 5 + 4, none⟩ = some (.int .u64 (wd S.d)) := by
  refine ⟨?_, ?_, ?_, ?_⟩
  · rw [h.it k hk 1 (by omega), e]; rfl
  · rw [h.it k hk 2 (by omega), e]; rfl
  · rw [h.it k hk 3 (by omega), e]; rfl
  · rw [h.it k hk 4 (by omega), e]; rfl
theorem keep_st {w wr : World} {its : List (Bool × S4)} {n m gc gn : Nat} {C N : List Bool} (h : St w wr its n m gc gn C N) (i : Nat) (hi : i ≤ m) (hc : C.getD i false = true) (k : Nat) (hk : k < its.length) {st : Bool} {S : S4} (e : its[k] = (st, S)) :
    wr.cell? ⟨gc, i, none⟩ = some (.bool true) ∧ wr.cell? ⟨w.heap.size, k * 5 + 1, none⟩ = some (.int .u64 (wd S.a)) ∧ wr.cell? ⟨w.heap.size, k * 5 + 2, none⟩ = some (.int .u64 (wd S.b)) ∧ wr.cell? ⟨w.heap.size, k * 5 + 3, none⟩ = some (.int .u64 (wd S.c)) ∧ wr.cell? ⟨w.heap.size, k * 5 + 4, none⟩ = some (.int .u64 (wd S.d)) :=
  ⟨by rw [h.cur i hi, hc], h.cells k hk e⟩
theorem rep_set (m i : Nat) : ((List.replicate (m + 1) false).set 0 true).getD i false = decide (i = 0) := by
  rw [set_getD _ _ _ _ (by simp)]
  by_cases e : i = 0
  · simp [e]
  · rw [if_neg e, List.getD_eq_getElem?_getD, List.getElem?_replicate]; split <;> simp [e]
theorem has_call (S : S4) (c : Int) (w : World) (h0 : 0 ≤ c) (h1 : c < 256) :
    Calls Try.prog 14 #[.agg #[.int .u64 (wd S.a), .int .u64 (wd S.b), .int .u64 (wd S.c), .int .u64 (wd S.d)], .int .u8 c] w fun e w' => e = .returned (.bool (S.has c.toNat)) ∧ Below w.heap.size w w' :=
  has_any S c w h0 h1
end Go.Proofs.Qxb6628398a
