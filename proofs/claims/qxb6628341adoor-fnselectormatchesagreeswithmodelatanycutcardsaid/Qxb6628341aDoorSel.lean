import Derived.Test.Qxb6628341aDoorMap
import Derived.OwnWalk
import Derived.Laws.OwnMore
import Derived.Deep.DrawnRows
namespace Go.Proofs.Qxb6628341aDoor
open Go.ChangeShapes Go.WideShapes Go.ChangeAt Go.RowKit

theorem Tryd.info42 : (Tryd.prog.info? 42).map (fun i => (i.zero, i.size, i.bytes)) = some (some (.agg #[.string ⟨#[]⟩, .string ⟨#[]⟩, .slice none 0 0]), 3, 56) := by kernel_rfl
theorem info_parts {i : Option TypeInfo} {z : Value} {s b : Nat} (h : i.map (fun i => (i.zero, i.size, i.bytes)) = some (some z, s, b)) : ∃ j, i = some j ∧ j.zero = some z ∧ j.size = s ∧ j.bytes = b := by
  cases i with
  | none => cases h
  | some j => simp only [Option.map_some, Option.some.injEq, Prod.mk.injEq] at h; exact ⟨j, rfl, h.1, h.2.1, h.2.2⟩

def Rq.none : Rq := ⟨ByteArray.empty, ByteArray.empty, Option.none, 0, 0, []⟩
def rqAt (rs : List Rq) (i : Nat) : Rq := rs.getD i Rq.none
/-- A slice of requirements in memory, the program's or the law's: three cells each. -/
def RqsIn (w : World) (ad : Option Addr) (rs : List Rq) : Prop := 0 < rs.length → ∃ b off, ad = some ⟨b, off, .none⟩ ∧ b < w.heap.size ∧ ∀ j, j < rs.length →
  w.cell? ⟨b, off + j * 3, .none⟩ = some (.string (rqAt rs j).key) ∧ w.cell? ⟨b, off + j * 3 + 1, .none⟩ = some (.string (rqAt rs j).op) ∧ w.cell? ⟨b, off + j * 3 + 2, .none⟩ = some (.slice (rqAt rs j).ad (rqAt rs j).len (rqAt rs j).cap)
theorem RqsIn.kept {w w' : World} {ad : Option Addr} {rs : List Rq} (h : RqsIn w ad rs) (hb : Below w.heap.size w w') : RqsIn w' ad rs := fun h0 => by
  obtain ⟨b, off, e, hlt, hc⟩ := h h0
  exact ⟨b, off, e, Nat.lt_of_lt_of_le hlt hb.size, fun j hj => ⟨(hb.cell (p := ⟨b, off + j * 3, .none⟩) hlt).trans (hc j hj).1, (hb.cell (p := ⟨b, off + j * 3 + 1, .none⟩) hlt).trans (hc j hj).2.1, (hb.cell (p := ⟨b, off + j * 3 + 2, .none⟩) hlt).trans (hc j hj).2.2⟩⟩
/-- The first k of a row of requirements stand. -/
def Filled (xs : List Value) (rs : List Rq) (k : Nat) : Prop := ∀ j, j < k → xs[j * 3]? = some (.string (rqAt rs j).key) ∧ xs[j * 3 + 1]? = some (.string (rqAt rs j).op) ∧ xs[j * 3 + 2]? = some (.slice (rqAt rs j).ad (rqAt rs j).len (rqAt rs j).cap)
def set3 (xs : List Value) (k : Nat) (r : Rq) : List Value := ((xs.set (k * 3) (.string r.key)).set (k * 3 + 1) (.string r.op)).set (k * 3 + 2) (.slice r.ad r.len r.cap)
theorem set3_len (xs : List Value) (k : Nat) (r : Rq) : (set3 xs k r).length = xs.length := by simp [set3]
theorem filled_step {xs : List Value} {rs : List Rq} {k n : Nat} (h : Filled xs rs k) (hl : xs.length = n * 3) (hk : k < n) : Filled (set3 xs k (rqAt rs k)) rs (k + 1) := by
  intro j hj
  unfold set3
  by_cases e : j = k
  · subst e
    refine ⟨?_, ?_, ?_⟩
    · rw [List.getElem?_set_ne (by omega), List.getElem?_set_ne (by omega), List.getElem?_set_self (by omega)]
    · rw [List.getElem?_set_ne (by omega), List.getElem?_set_self (by simp; omega)]
    · rw [List.getElem?_set_self (by simp; omega)]
  · have := h j (by omega)
    refine ⟨?_, ?_, ?_⟩
    · rw [List.getElem?_set_ne (by omega), List.getElem?_set_ne (by omega), List.getElem?_set_ne (by omega)]; exact this.1
    · rw [List.getElem?_set_ne (by omega), List.getElem?_set_ne (by omega), List.getElem?_set_ne (by omega)]; exact this.2.1
    · rw [List.getElem?_set_ne (by omega), List.getElem?_set_ne (by omega), List.getElem?_set_ne (by omega)]; exact this.2.2
/-- A row of n requirements of the call's own, in block g. -/
def QRow (w : World) (base g n : Nat) (xs : List Value) : Prop := w.ownsRow base 42 3 (.slice (some ⟨g, 0, .none⟩) n n) n xs ∧ xs.length = n * 3
theorem QRow.lt {w : World} {base g n : Nat} {xs : List Value} (h : QRow w base g n xs) : g < w.heap.size := by
  rcases h.1.2 with ⟨h', _⟩ | ⟨g', cap', cur, h', _, hg, _, _, _, htake⟩
  · simp at h'
  · simp only [Value.slice.injEq, Option.some.injEq, Addr.mk.injEq, and_true, true_and] at h'
    obtain ⟨rfl, rfl⟩ := h'
    exact (Array.getElem?_eq_some_iff.1 hg).1
theorem QRow.cell {w : World} {base g n : Nat} {xs : List Value} (h : QRow w base g n xs) (j : Nat) (hj : j < n * 3) : ∃ v, w.cell? ⟨g, j, .none⟩ = some v ∧ xs[j]? = some v := by
  refine ⟨xs[j]'(by rw [h.2]; exact hj), ?_, List.getElem?_eq_getElem _⟩
  rw [h.1.cellAt j hj]; exact List.getElem?_eq_getElem _
theorem QRow.fz {w : World} {base g n : Nat} {xs : List Value} (h : QRow w base g n xs) (j : Nat) : w.frozen? ⟨g, j, .none⟩ = false := h.1.frozenAt j
def st3 (w : World) (g k : Nat) (r : Rq) : World := ((w.setCell ⟨g, k * 3, .none⟩ (.string r.key)).setCell ⟨g, k * 3 + 1, .none⟩ (.string r.op)).setCell ⟨g, k * 3 + 2, .none⟩ (.slice r.ad r.len r.cap)
theorem QRow.put {w : World} {base g n : Nat} {xs : List Value} (h : QRow w base g n xs) (k : Nat) (r : Rq) : QRow (st3 w g k r) base g n (set3 xs k r) :=
  ⟨((h.1.stored _ _).1.stored _ _).1.stored _ _ |>.1, by rw [set3_len]; exact h.2⟩
theorem QRow.drew {w : World} {base g n : Nat} {xs : List Value} (h : QRow w base g n xs) : QRow w.drew base g n xs := h
theorem below_st3 {B : Nat} {a w : World} (h : Below B a w) (g k : Nat) (hg : B ≤ g) (r : Rq) : Below B a (st3 w g k r) :=
  ((h.setCell (p := ⟨g, k * 3, .none⟩) hg _).setCell (p := ⟨g, k * 3 + 1, .none⟩) hg _).setCell (p := ⟨g, k * 3 + 2, .none⟩) hg _
theorem QRow.done {w : World} {base g n : Nat} {xs : List Value} {rs : List Rq} (h : QRow w base g n xs) (hf : Filled xs rs n) (hn : rs.length = n) : RqsIn w (some ⟨g, 0, .none⟩) rs := fun _ =>
  ⟨g, 0, rfl, h.lt, fun j hj => by
    have hf1 := hf j (by omega)
    refine ⟨?_, ?_, ?_⟩
    · rw [Nat.zero_add, h.1.cellAt _ (by omega)]; exact hf1.1
    · rw [Nat.zero_add, h.1.cellAt _ (by omega)]; exact hf1.2.1
    · rw [Nat.zero_add, h.1.cellAt _ (by omega)]; exact hf1.2.2⟩

attribute [local go_sem ↓] Go.wp_at_zero Go.wp_at_succ
set_option maxRecDepth 100000 in
set_option maxHeartbeats 1000000 in
theorem sel_some (b off n cap : Nat) (rs : List Rq) (w : World) (hn : rs.length = n) (hn2 : n ≤ 1048576) (hbw : b < w.heap.size)
    (hc : ∀ j, j < n → w.cell? ⟨b, off + j * 3, .none⟩ = some (.string (rqAt rs j).key) ∧ w.cell? ⟨b, off + j * 3 + 1, .none⟩ = some (.string (rqAt rs j).op) ∧ w.cell? ⟨b, off + j * 3 + 2, .none⟩ = some (.slice (rqAt rs j).ad (rqAt rs j).len (rqAt rs j).cap)) :
    Calls Tryd.prog 8 #[.slice (some ⟨b, off, .none⟩) n cap] w fun e w' => e = .returned (.slice (some ⟨w.heap.size, 0, .none⟩) n n) ∧ RqsIn w' (some ⟨w.heap.size, 0, .none⟩) rs ∧ Below w.heap.size w w' := by
  obtain ⟨i1, hi, hz0, hz1, hz2⟩ := info_parts Tryd.info42
  have hb1 : i1.bytes * n ≤ 281474976710656 := by rw [hz2]; omega
  have HN := hide hn
  have HC := hide hc
  clear hn hc
  go_enter Tryd.func8, Tryd.ntmps8
  go_wp2_with (at_make; refine wpList_make_full _ rfl _ _ 30 rfl w.heap.size 42 i1 _ 3 Tryd.underlying30 hi hz0 hz1 .i64 .i64 _ _ n rfl rfl (by omega) (by omega) hb1 (by unfold maxLen; omega) (Nat.le_refl _) ?_; intro w1 hown1 hgrow1)
  have hbel1 : Below w.heap.size w w1 := (Below.refl _ _).grown hgrow1 (Nat.le_refl _) (fun k h => by cases h)
  have hrow1 : QRow w1 w.heap.size w.heap.size n _ := ⟨hown1, hown1.1⟩
  clear hgrow1 hown1
  go_loopw [4] (fun a4 wr => ∃ (k : Nat) (xs : List Value), k ≤ n ∧ a4 = .int .i64 k ∧ QRow wr w.heap.size w.heap.size n xs ∧ Below w.heap.size w wr ∧ Hid (Filled xs rs k)) (fun a4 _ => n - (intOf a4).toNat)
  case atStart => exact ⟨0, _, by omega, rfl, hrow1, hbel1, fun j hj => absurd hj (by omega)⟩
  case round =>
    clear hrow1 hbel1
    obtain ⟨k, xs, hk, rfl, hR, hB, HF⟩ := hrel
    by_cases hlt : k < n
    · obtain ⟨d0, d1, d2⟩ := HC.out k hlt
      have c0 := (hB.cell (p := ⟨b, off + k * 3, .none⟩) hbw).trans d0
      have c1 := (hB.cell (p := ⟨b, off + k * 3 + 1, .none⟩) hbw).trans d1
      have c2 := (hB.cell (p := ⟨b, off + k * 3 + 2, .none⟩) hbw).trans d2
      clear d0 d1 d2
      obtain ⟨v0, g0, _⟩ := hR.cell (k * 3) (by omega)
      obtain ⟨v1, g1, _⟩ := hR.cell (k * 3 + 1) (by omega)
      obtain ⟨v2, g2, _⟩ := hR.cell (k * 3 + 2) (by omega)
      have z0 := hR.fz (k * 3)
      have z1 := hR.fz (k * 3 + 1)
      have z2 := hR.fz (k * 3 + 2)
      have hR2 := hR.drew.put k (rqAt rs k)
      have hB2 := below_st3 (below_drewN hB 1) w.heap.size k (Nat.le_refl _) (rqAt rs k)
      have HF2 := hide (filled_step HF.out hR.2 hlt)
      unfold st3 at hR2 hB2
      go_wp2
      go_region
      all_goals go_wp2
      all_goals go_roundw
      case rel => exact ⟨k + 1, _, by omega, by go_num, hR2, hB2, HF2⟩
      case measure => simp [intOf]; omega
    · have ek : k = n := by omega
      rw [ek] at HF
      go_wp2
      go_ret
      exact ⟨rfl, hR.done HF.out HN.out, hB⟩
end Go.Proofs.Qxb6628341aDoor
