import Derived.Test.Qxb6628341aDoorNum
namespace Go.Proofs.Qxb6628341aDoor
open Go.ChangeShapes Go.WideShapes Go.ChangeAt Go.RowKit

attribute [local go_sem ↓] Go.wp_at_zero Go.wp_at_succ
theorem box_new (w : World) (x : Rq) : BoxIs (w.alloc (.cells #[.string x.key, .string x.op, .slice x.ad x.len x.cap] 42)) w.heap.size x := heap_alloc_new _ _
set_option maxRecDepth 100000 in
set_option maxHeartbeats 1000000 in
theorem num_bad2 (key op u : ByteArray) (b off cap : Nat) (gt : Bool) (m n : Nat) (lb : List (ByteArray × ByteArray)) (w : World) (hM : MapIs w m n lb) (hk : key.size ≤ 1048576) (hw : Env w) (hq : OpNum op gt) (v : ByteArray) (hv : v.size ≤ 1048576) (ho : look lb key = some v)
    (hbw : b < w.heap.size) (hc : w.cell? ⟨b, off, .none⟩ = some (.string u)) (hu : u.size ≤ 1048576) (a : Int) (ha : num v = some a) (hb : num u = none) :
    Calls Tryd.prog 16 #[.agg #[.string key, .string op, .slice (some ⟨b, off, .none⟩) 1 cap], .map (some m)] w fun e w' => e = .returned (.bool (holds ⟨key, op, some ⟨b, off, .none⟩, 1, cap, [u]⟩ (some v))) ∧ Below w.heap.size w w' := by
  have HL := map_hit (hM.alloc (.cells #[.string key, .string op, .slice (some ⟨b, off, .none⟩) 1 cap] 42)) key v hk ho
  have hB := below_bx w ⟨key, op, some ⟨b, off, .none⟩, 1, cap, [u]⟩
  have HB := hide hB
  have HE : Hid (holds ⟨key, op, some ⟨b, off, .none⟩, 1, cap, [u]⟩ (some v) = false) := by
    show _ = _
    rw [holds_num _ gt hq (some v)]
    show (if (1 : Nat) = 1 then cmpN gt (num v) (num u) else false) = false
    rw [if_pos rfl, ha, hb]; rfl
  have HI := hide (int_ok v a (w.alloc (.cells #[.string key, .string op, .slice (some ⟨b, off, .none⟩) 1 cap] 42)) hv ha)
  have HX := hide (box_new w ⟨key, op, some ⟨b, off, .none⟩, 1, cap, [u]⟩)
  have HW := hide (hw.kept hB)
  have HJ : Hid (∀ w1, Below (w.alloc (.cells #[.string key, .string op, .slice (some ⟨b, off, .none⟩) 1 cap] 42)).heap.size (w.alloc (.cells #[.string key, .string op, .slice (some ⟨b, off, .none⟩) 1 cap] 42)) w1 →
      Below w.heap.size w w1 ∧ BoxIs w1 w.heap.size ⟨key, op, some ⟨b, off, .none⟩, 1, cap, [u]⟩ ∧ Env w1 ∧ w1.cell? ⟨b, off, .none⟩ = some (.string u)) := fun w1 h1 => by
    have h2 := hB.trans (h1.mono hB.size)
    exact ⟨h2, HX.out.kept h1, HW.out.kept h1, (h2.cell (p := ⟨b, off, .none⟩) hbw).trans hc⟩
  have HF : Hid (∀ w1, Env w1 → _) := fun w1 h => int_bad u w1 hu hb h
  obtain ⟨q1, q2, q3, q4, q5, q6⟩ := hq
  clear hM ho hw hB hc
  cases gt <;> simp only [Bool.not_true, Bool.not_false] at q6 <;>
  · go_enter Tryd.func16, Tryd.ntmps16
    go_wp2_with fail
    refine HI.out.mono ?_
    rintro e w1 ⟨rfl, hb1⟩
    obtain ⟨hb2, hx1, he1, hc1⟩ := HJ.out w1 hb1
    have x0 := hx1.c0
    have x1 := hx1.c1
    have x2 := hx1.c2
    have HB1 := hide hb2
    have HF1 := hide (HF.out w1 he1)
    clear HI HJ HF HL HX hx1
    go_wp2_with fail
    refine HF1.out.mono ?_
    rintro e w2 ⟨⟨c, N, rfl⟩, hb3⟩
    have HB2 := hide (HB1.out.trans (hb3.mono HB1.out.size))
    clear HF1
    go_wp2
    go_ret
    exact ⟨ret_bool HE.out.symm, HB2.out⟩
set_option maxRecDepth 100000 in
set_option maxHeartbeats 1000000 in
theorem num_good (key op u : ByteArray) (b off cap : Nat) (gt : Bool) (m n : Nat) (lb : List (ByteArray × ByteArray)) (w : World) (hM : MapIs w m n lb) (hk : key.size ≤ 1048576) (hq : OpNum op gt) (v : ByteArray) (hv : v.size ≤ 1048576) (ho : look lb key = some v)
    (hbw : b < w.heap.size) (hc : w.cell? ⟨b, off, .none⟩ = some (.string u)) (hu : u.size ≤ 1048576) (a c : Int) (ha : num v = some a) (hb : num u = some c) :
    Calls Tryd.prog 16 #[.agg #[.string key, .string op, .slice (some ⟨b, off, .none⟩) 1 cap], .map (some m)] w fun e w' => e = .returned (.bool (holds ⟨key, op, some ⟨b, off, .none⟩, 1, cap, [u]⟩ (some v))) ∧ Below w.heap.size w w' := by
  have HL := map_hit (hM.alloc (.cells #[.string key, .string op, .slice (some ⟨b, off, .none⟩) 1 cap] 42)) key v hk ho
  have hB := below_bx w ⟨key, op, some ⟨b, off, .none⟩, 1, cap, [u]⟩
  have HB := hide hB
  have HE : Hid (holds ⟨key, op, some ⟨b, off, .none⟩, 1, cap, [u]⟩ (some v) = if gt then decide (c < a) else decide (a < c)) := by
    show _ = _
    rw [holds_num _ gt hq (some v)]
    show (if (1 : Nat) = 1 then cmpN gt (num v) (num u) else false) = _
    rw [if_pos rfl, ha, hb]; rfl
  have HI := hide (int_ok v a (w.alloc (.cells #[.string key, .string op, .slice (some ⟨b, off, .none⟩) 1 cap] 42)) hv ha)
  have HX := hide (box_new w ⟨key, op, some ⟨b, off, .none⟩, 1, cap, [u]⟩)
  have HJ : Hid (∀ w1, Below (w.alloc (.cells #[.string key, .string op, .slice (some ⟨b, off, .none⟩) 1 cap] 42)).heap.size (w.alloc (.cells #[.string key, .string op, .slice (some ⟨b, off, .none⟩) 1 cap] 42)) w1 →
      Below w.heap.size w w1 ∧ BoxIs w1 w.heap.size ⟨key, op, some ⟨b, off, .none⟩, 1, cap, [u]⟩ ∧ w1.cell? ⟨b, off, .none⟩ = some (.string u)) := fun w1 h1 => by
    have h2 := hB.trans (h1.mono hB.size)
    exact ⟨h2, HX.out.kept h1, (h2.cell (p := ⟨b, off, .none⟩) hbw).trans hc⟩
  have HF : Hid (∀ w1, _) := fun w1 => int_ok u c w1 hu hb
  obtain ⟨q1, q2, q3, q4, q5, q6⟩ := hq
  clear hM ho hB hc
  by_cases hlt : c < a
  · have t1 : decide (c < a) = true := decide_eq_true hlt
    have t2 : decide (a < c) = false := decide_eq_false (by omega)
    rw [t1, t2] at HE
    cases gt <;> simp only [Bool.not_true, Bool.not_false] at q6 <;>
    · go_enter Tryd.func16, Tryd.ntmps16
      go_wp2_with fail
      refine HI.out.mono ?_
      rintro e w1 ⟨rfl, hb1⟩
      obtain ⟨hb2, hx1, hc1⟩ := HJ.out w1 hb1
      have x0 := hx1.c0
      have x1 := hx1.c1
      have x2 := hx1.c2
      have HB1 := hide hb2
      have HF1 := hide (HF.out w1)
      have HX1 := hide hx1
      clear HI HJ HF HL HX hx1
      go_wp2_with fail
      refine HF1.out.mono ?_
      rintro e w2 ⟨rfl, hb3⟩
      have HB2 := hide (HB1.out.trans (hb3.mono HB1.out.size))
      have hx2 := HX1.out.kept hb3
      have y0 := hx2.c0
      have y1 := hx2.c1
      have y2 := hx2.c2
      clear HF1 hx2
      go_wp2
      go_ret
      exact ⟨ret_bool HE.out.symm, HB2.out⟩
  · have t1 : decide (c < a) = false := decide_eq_false hlt
    rw [t1] at HE
    by_cases hlt2 : a < c
    · have t2 : decide (a < c) = true := decide_eq_true hlt2
      rw [t2] at HE
      cases gt <;> simp only [Bool.not_true, Bool.not_false] at q6 <;>
      · go_enter Tryd.func16, Tryd.ntmps16
        go_wp2_with fail
        refine HI.out.mono ?_
        rintro e w1 ⟨rfl, hb1⟩
        obtain ⟨hb2, hx1, hc1⟩ := HJ.out w1 hb1
        have x0 := hx1.c0
        have x1 := hx1.c1
        have x2 := hx1.c2
        have HB1 := hide hb2
        have HF1 := hide (HF.out w1)
        have HX1 := hide hx1
        clear HI HJ HF HL HX hx1
        go_wp2_with fail
        refine HF1.out.mono ?_
        rintro e w2 ⟨rfl, hb3⟩
        have HB2 := hide (HB1.out.trans (hb3.mono HB1.out.size))
        have hx2 := HX1.out.kept hb3
        have y0 := hx2.c0
        have y1 := hx2.c1
        have y2 := hx2.c2
        clear HF1 hx2
        go_wp2
        go_ret
        exact ⟨ret_bool HE.out.symm, HB2.out⟩
    · have t2 : decide (a < c) = false := decide_eq_false hlt2
      rw [t2] at HE
      cases gt <;> simp only [Bool.not_true, Bool.not_false] at q6 <;>
      · go_enter Tryd.func16, Tryd.ntmps16
        go_wp2_with fail
        refine HI.out.mono ?_
        rintro e w1 ⟨rfl, hb1⟩
        obtain ⟨hb2, hx1, hc1⟩ := HJ.out w1 hb1
        have x0 := hx1.c0
        have x1 := hx1.c1
        have x2 := hx1.c2
        have HB1 := hide hb2
        have HF1 := hide (HF.out w1)
        have HX1 := hide hx1
        clear HI HJ HF HL HX hx1
        go_wp2_with fail
        refine HF1.out.mono ?_
        rintro e w2 ⟨rfl, hb3⟩
        have HB2 := hide (HB1.out.trans (hb3.mono HB1.out.size))
        have hx2 := HX1.out.kept hb3
        have y0 := hx2.c0
        have y1 := hx2.c1
        have y2 := hx2.c2
        clear HF1 hx2
        go_wp2
        go_ret
        exact ⟨ret_bool HE.out.symm, HB2.out⟩
end Go.Proofs.Qxb6628341aDoor
