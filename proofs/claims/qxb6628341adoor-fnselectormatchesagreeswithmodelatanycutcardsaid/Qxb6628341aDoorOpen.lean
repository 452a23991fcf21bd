import Derived.Test.Qxb6628341aDoorOne
import Derived.Deep.Slices
import Derived.Deep.SlicePairs
import Derived.Deep.Strs
namespace Go.Proofs.Qxb6628341aDoor
open Go.ChangeShapes Go.WideShapes Go.ChangeAt Go.RowKit Go.Deep

theorem c9 : Tryd.prog.cellsOf 9 = 1 := by kernel_rfl
theorem c34 : Tryd.prog.cellsOf 34 = 1 := by kernel_rfl
theorem c36 : Tryd.prog.cellsOf 36 = 3 := by kernel_rfl
theorem c46 : Tryd.prog.cellsOf 46 = 2 := by kernel_rfl
instance : Inhabited Rq := ⟨Rq.none⟩
theorem getD_range {α : Type} (f : Nat → α) (n j : Nat) (d : α) (h : j < n) : ((List.range n).map f).getD j d = f j := by
  simp [List.getD_eq_getElem?_getD, h]
theorem spot_of {a : Addr} {w : World} {v : Value} (h : w.cell? a = some v) : a = ⟨a.block, a.off, none⟩ := by
  obtain ⟨b, off, s⟩ := a
  have := World.cell?_spot h
  simp only at this
  rw [this]
theorem block_lt {w : World} {a : Addr} {v : Value} (h : w.cell? a = some v) : a.block < w.heap.size := by
  unfold World.cell? at h
  split at h
  · rename_i c _ _ e
    exact (Array.getElem?_eq_some_iff.1 e).1
  · cases h
section
variable {H : Type} {enc : TypeId × Value → H} {w : World} {base : Nat} {spare : Nat → Bool} {held : Bool}
/-- A slice of strings opened. -/
theorem strs_open {a : Option Addr} {len cap fuel : Nat} {x : DataW H × List MemPlace} (h : DataW.trod enc Tryd.prog w base spare held fuel 34 [.slice a len cap] = some x) :
    ∃ vs : List ByteArray, vs.length = len ∧ StrsIn w a vs ∧ len ≤ maxLen := by
  rcases open_strs Tryd.underlying34 Tryd.underlying9 c9 h with ⟨h0, _⟩ | ⟨a', len', cap', m, Sx, h0, _, hl, hm, hmm, _, hx⟩
  · simp only [List.cons.injEq, Value.slice.injEq, and_true] at h0
    obtain ⟨rfl, rfl, rfl⟩ := h0
    exact ⟨[], rfl, fun h => absurd h (by simp), Nat.zero_le _⟩
  · simp only [List.cons.injEq, Value.slice.injEq, and_true] at h0
    obtain ⟨rfl, rfl, rfl⟩ := h0
    have hlm : len ≤ m := by rw [hmm]; split <;> omega
    refine ⟨(List.range len).map Sx, by simp, fun h0 => ?_, by omega⟩
    have h0' : 0 < len := by simpa using h0
    have q0 := (hx 0 (by omega)).1
    have e : a' = ⟨a'.block, a'.off, none⟩ := spot_of (by simpa [Addr.add] using q0)
    refine ⟨a'.block, a'.off, by rw [← e], block_lt (a := a') (by simpa [Addr.add] using q0), fun j hj => ?_⟩
    have hj' : j < len := by simpa using hj
    have q := (hx j (by omega)).1
    rw [e] at q
    unfold vAt
    rw [getD_range Sx len j _ hj', ← q]
    congr 1
    by_cases hz : j = 0
    · subst hz; simp [Addr.add]
    · simp [Addr.add, hz]
theorem add_at (a : Addr) (b off j : Nat) (e : a = ⟨b, off, none⟩) : a.add j = ⟨b, off + j, none⟩ := by
  subst e
  by_cases hz : j = 0
  · subst hz; simp [Addr.add]
  · simp [Addr.add, hz]
/-- A slice of labels opened. -/
theorem lbs_open {a : Option Addr} {len cap fuel : Nat} {x : DataW H × List MemPlace} (h : DataW.trod enc Tryd.prog w base spare held fuel 23 [.slice a len cap] = some x) :
    ∃ lb : List (ByteArray × ByteArray), lb.length = len ∧ LbsIn w a lb ∧ len ≤ maxLen := by
  rcases open_slice_pairs Tryd.underlying23 Tryd.underlying46 c46 rfl rfl c9 c9 h with ⟨h0, _⟩ | ⟨a', len', cap', m, n, V0, V1, D0, D1, P0, P1, h0, _, hl, hm, hmm, _, hx⟩
  · simp only [List.cons.injEq, Value.slice.injEq, and_true] at h0
    obtain ⟨rfl, rfl, rfl⟩ := h0
    exact ⟨[], rfl, fun h => absurd h (by simp), Nat.zero_le _⟩
  · simp only [List.cons.injEq, Value.slice.injEq, and_true] at h0
    obtain ⟨rfl, rfl, rfl⟩ := h0
    have hlm : len ≤ m := by rw [hmm]; split <;> omega
    obtain ⟨f, hf⟩ := choose_lt (α := ByteArray × ByteArray) (n := m) (p := fun i q => w.cell? (a'.add (i * 2)) = some (.string q.1) ∧ w.cell? (a'.add (i * 2 + 1)) = some (.string q.2)) (fun i hi => by
      obtain ⟨g0, g1, t0, t1⟩ := hx i hi
      obtain ⟨s0, e0, _, _⟩ := DataW.trod_string Tryd.underlying9 t0
      obtain ⟨s1, e1, _, _⟩ := DataW.trod_string Tryd.underlying9 t1
      simp only [List.cons.injEq, and_true] at e0 e1
      exact ⟨(s0, s1), by rw [g0, e0], by rw [g1, e1]⟩)
    refine ⟨(List.range len).map f, by simp, fun h0 => ?_, by omega⟩
    have h0' : 0 < len := by simpa using h0
    have q0 := (hf 0 (by omega)).1
    have q00 : w.cell? a' = some (.string (f 0).1) := by simpa [Addr.add] using q0
    have e : a' = ⟨a'.block, a'.off, none⟩ := spot_of q00
    refine ⟨a'.block, a'.off, by rw [← e], block_lt q00, fun j hj => ?_⟩
    have hj' : j < len := by simpa using hj
    obtain ⟨q1, q2⟩ := hf j (by omega)
    rw [add_at a' _ _ _ e] at q1 q2
    unfold lbAt
    rw [getD_range f len j _ hj']
    exact ⟨q1, by rw [Nat.add_assoc]; exact q2⟩
/-- A slice of requirements opened. -/
theorem rqs_open {a : Option Addr} {len cap fuel : Nat} {x : DataW H × List MemPlace} (h : DataW.trod enc Tryd.prog w base spare held fuel 22 [.slice a len cap] = some x) :
    ∃ rs : List Rq, rs.length = len ∧ RqsIn w a rs ∧ (∀ j, j < len → VsIn w (rqAt rs j)) ∧ len ≤ maxLen := by
  rcases open_slice Tryd.underlying22 h with ⟨h0, _⟩ | ⟨a', len', cap', m, n, D, Pl, h0, _, hl, hm, hmm, _, hx⟩
  · simp only [List.cons.injEq, Value.slice.injEq, and_true] at h0
    obtain ⟨rfl, rfl, rfl⟩ := h0
    exact ⟨[], rfl, fun h => absurd h (by simp), fun j hj => absurd hj (by omega), Nat.zero_le _⟩
  · simp only [List.cons.injEq, Value.slice.injEq, and_true] at h0
    obtain ⟨rfl, rfl, rfl⟩ := h0
    have hlm : len ≤ m := by rw [hmm]; split <;> omega
    obtain ⟨f, hf⟩ := choose_lt (α := Rq) (n := m) (p := fun i q => w.cell? (a'.add (i * 3)) = some (.string q.key) ∧ w.cell? (a'.add (i * 3 + 1)) = some (.string q.op) ∧ w.cell? (a'.add (i * 3 + 2)) = some (.slice q.ad q.len q.cap) ∧ VsIn w q) (fun i hi => by
      obtain ⟨cs', g, t⟩ := hx i hi
      rw [c36] at g
      obtain ⟨_, hlen, hcell⟩ := World.cells?_some g
      obtain ⟨y0, y1, y2, k, _, _, t0, t1, t2⟩ := trod_struct3 Tryd.underlying36 t
      match cs', hlen with
      | [u0, u1, u2], _ =>
        simp [c9, c34] at t0 t1 t2
        obtain ⟨s0, e0, _, _⟩ := DataW.trod_string Tryd.underlying9 t0
        obtain ⟨s1, e1, _, _⟩ := DataW.trod_string Tryd.underlying9 t1
        simp only [List.cons.injEq, and_true] at e0 e1
        have b0 := hcell 0 (by omega)
        have b1 := hcell 1 (by omega)
        have b2 := hcell 2 (by omega)
        rw [add_add] at b0 b1 b2
        obtain ⟨ad, ln, cp, e2⟩ : ∃ ad ln cp, u2 = .slice ad ln cp := by
          rcases open_slice Tryd.underlying34 t2 with ⟨e, _⟩ | ⟨ad, ln, cp, _, _, _, _, e, _⟩
          · exact ⟨none, 0, 0, by simpa using e⟩
          · exact ⟨some ad, ln, cp, by simpa using e⟩
        rw [e2] at t2
        obtain ⟨vs, v1, v2, _⟩ := strs_open t2
        refine ⟨⟨s0, s1, ad, ln, cp, vs⟩, ?_, ?_, ?_, v1, v2⟩
        · simpa [e0] using b0
        · simpa [e1] using b1
        · simpa [e2] using b2)
    refine ⟨(List.range len).map f, by simp, fun h0 => ?_, fun j hj => ?_, by omega⟩
    · have h0' : 0 < len := by simpa using h0
      have q0 := (hf 0 (by omega)).1
      have q00 : w.cell? a' = some (.string (f 0).key) := by simpa [Addr.add] using q0
      have e : a' = ⟨a'.block, a'.off, none⟩ := spot_of q00
      refine ⟨a'.block, a'.off, by rw [← e], block_lt q00, fun j hj => ?_⟩
      have hj' : j < len := by simpa using hj
      obtain ⟨q1, q2, q3, _⟩ := hf j (by omega)
      rw [add_at a' _ _ _ e] at q1 q2 q3
      unfold rqAt
      rw [getD_range f len j _ hj']
      exact ⟨q1, by rw [Nat.add_assoc]; exact q2, by rw [Nat.add_assoc]; exact q3⟩
    · unfold rqAt
      rw [getD_range f len j _ hj]
      exact (hf j (by omega)).2.2.2
end
end Go.Proofs.Qxb6628341aDoor
