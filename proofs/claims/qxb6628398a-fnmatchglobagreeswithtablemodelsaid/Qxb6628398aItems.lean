import Derived.Test.Qxb6628398aRange
import Derived.Test.Qxb6628398aGlob
namespace Go.Proofs.Qxb6628398a
open Go.ChangeShapes Go.WideShapes Go.ChangeAt Go.RowKit
open Pl

theorem Try.info34 : (Try.prog.info? 34).map (fun i => (i.zero, i.size, i.bytes)) = some (some (.agg #[.bool false, .int .u64 0, .int .u64 0, .int .u64 0, .int .u64 0]), 5, 40) := by kernel_rfl

/-- An item as the law's own table holds it. -/
def cells5 (st : Bool) (S : S4) : List Value := [.bool st, .int .u64 (wd S.a), .int .u64 (wd S.b), .int .u64 (wd S.c), .int .u64 (wd S.d)]
def rowsOf (its : List (Bool × S4)) : List Value := its.flatMap (fun t => cells5 t.1 t.2)
theorem rowsOf_snoc (its : List (Bool × S4)) (st : Bool) (S : S4) : rowsOf its ++ cells5 st S = rowsOf (its ++ [(st, S)]) := by
  unfold rowsOf; rw [List.flatMap_append]; simp
/-- It says of every byte what the pattern's item says. -/
def Agree (t : Bool × S4) : Pl.Item → Prop
  | none => t.1 = true
  | some f => t.1 = false ∧ ∀ x : Nat, x < 256 → t.2.has x = f (x : Int)
def AgreeL : List (Bool × S4) → List Pl.Item → Prop
  | [], [] => True
  | t :: l, m :: r => Agree t m ∧ AgreeL l r
  | _, _ => False
theorem AgreeL.snoc : ∀ {l : List (Bool × S4)} {r : List Pl.Item} {t : Bool × S4} {m : Pl.Item}, AgreeL l r → Agree t m → AgreeL (l ++ [t]) (r ++ [m])
  | [], [], _, _, _, h => ⟨h, trivial⟩
  | _ :: _, _ :: _, _, _, ⟨h1, h2⟩, h => ⟨h1, AgreeL.snoc h2 h⟩
  | [], _ :: _, _, _, h0, _ => h0.elim
  | _ :: _, [], _, _, h0, _ => h0.elim

/-- What zzParse has read up to place p. -/
def Read (z : List Int) (its : List (Bool × S4)) (p : Nat) : Prop := ∃ D, parse z 0 = D ++ parse (z.drop p) 0 ∧ AgreeL its D
theorem read_start (z : List Int) : Read z [] 0 := ⟨[], by simp, trivial⟩
theorem read_end {z : List Int} {its : List (Bool × S4)} {p : Nat} (h : Read z its p) (hp : z.length ≤ p) : AgreeL its (parse z 0) := by
  obtain ⟨D, e, ha⟩ := h
  rw [List.drop_eq_nil_of_le hp, show parse [] 0 = [] from rfl, List.append_nil] at e
  rw [e]; exact ha
theorem read_step {z : List Int} {its : List (Bool × S4)} {p : Nat} {t : Bool × S4} (h : Read z its p) (hp : p < z.length)
    (ha : Agree t (if bt z p = 42 then none else some (itemOk (bt z p) (z.drop (p + 1))))) : Read z (its ++ [t]) (nextOf z p) := by
  obtain ⟨D, e, hd⟩ := h
  refine ⟨D ++ [if bt z p = 42 then none else some (itemOk (bt z p) (z.drop (p + 1)))], ?_, hd.snoc ha⟩
  rw [e, drop_cons z p hp, parse_cons, drop_next, List.append_assoc]; rfl
theorem next_star (z : List Int) (p : Nat) (h : bt z p = 42) (hp : p < z.length) : nextOf z p = p + 1 := by
  simp [nextOf, itemRest, h]; omega
theorem read_star {z : List Int} {its : List (Bool × S4)} {p : Nat} (S : S4) (h : Read z its p) (hp : p < z.length) (hb : bt z p = 42) : Read z (its ++ [(true, S)]) (p + 1) := by
  rw [← next_star z p hb hp]
  refine read_step h hp ?_
  rw [if_pos hb]; rfl
theorem read_some {z : List Int} {its : List (Bool × S4)} {p q : Nat} {S : S4} (h : Read z its p) (hp : p < z.length) (hb : bt z p ≠ 42) (hq : nextOf z p = q)
    (ha : ∀ x : Nat, x < 256 → S.has x = itemOk (bt z p) (z.drop (p + 1)) (x : Int)) : Read z (its ++ [(false, S)]) q := by
  rw [← hq]
  refine read_step h hp ?_
  rw [if_neg hb]; exact ⟨rfl, ha⟩
theorem put_has (S : S4) (b : Int) (x : Nat) (h0 : 0 ≤ b) (h1 : b < 256) (hx : x < 256) : (S.put b.toNat).has x = (S.has x || b == (x : Int)) := by
  rw [has_put S _ x (by omega) hx]
  apply orr; rw [Bool.eq_iff_iff]; simp; omega
theorem one_has (b : Int) (x : Nat) (h0 : 0 ≤ b) (h1 : b < 256) (hx : x < 256) : (S4.none.put b.toNat).has x = (b == (x : Int)) := by
  rw [put_has _ b x h0 h1 hx, has_none, Bool.false_or]

/-- An item lies in block g. -/
def ItIn (w : World) (g : Nat) (st : Bool) (S : S4) : Prop := w.heap[g]? = some (.cells (cells5 st S).toArray 34 (0, 0))
theorem ItIn.c0 {w : World} {g : Nat} {st : Bool} {S : S4} (h : ItIn w g st S) : w.cell? ⟨g, 0, none⟩ = some (.bool st) := by rw [cell_of_row w g 0 _ _ _ h]; rfl
theorem ItIn.c1 {w : World} {g : Nat} {st : Bool} {S : S4} (h : ItIn w g st S) : w.cell? ⟨g, 1, none⟩ = some (.int .u64 (wd S.a)) := by rw [cell_of_row w g 1 _ _ _ h]; rfl
theorem ItIn.c2 {w : World} {g : Nat} {st : Bool} {S : S4} (h : ItIn w g st S) : w.cell? ⟨g, 2, none⟩ = some (.int .u64 (wd S.b)) := by rw [cell_of_row w g 2 _ _ _ h]; rfl
theorem ItIn.c3 {w : World} {g : Nat} {st : Bool} {S : S4} (h : ItIn w g st S) : w.cell? ⟨g, 3, none⟩ = some (.int .u64 (wd S.c)) := by rw [cell_of_row w g 3 _ _ _ h]; rfl
theorem ItIn.c4 {w : World} {g : Nat} {st : Bool} {S : S4} (h : ItIn w g st S) : w.cell? ⟨g, 4, none⟩ = some (.int .u64 (wd S.d)) := by rw [cell_of_row w g 4 _ _ _ h]; rfl
theorem ItIn.fz {w : World} {g : Nat} {st : Bool} {S : S4} (h : ItIn w g st S) (j : Nat) : w.frozen? ⟨g, j, none⟩ = false := frozen_of_row w g j _ _ h
theorem ItIn.lt {w : World} {g : Nat} {st : Bool} {S : S4} (h : ItIn w g st S) : g < w.heap.size := (Array.getElem?_eq_some_iff.1 h).1
theorem ItIn.kept {w w' : World} {g B : Nat} {st : Bool} {S : S4} (h : ItIn w g st S) (hb : Below B w w') (hg : g < B) : ItIn w' g st S := (hb.block g hg).trans h
theorem ItIn.to {w w' : World} {g : Nat} {st : Bool} {S : S4} (h : ItIn w g st S) (hh : w'.heap[g]? = w.heap[g]?) : ItIn w' g st S := hh.trans h
theorem it_new (w : World) (st : Bool) (S : S4) : ItIn (w.alloc (.cells (cells5 st S).toArray 34)) w.heap.size st S := heap_alloc_new _ _
/-- A set stored into an item's cells. -/
def st5 (w : World) (g : Nat) (S : S4) : World :=
  (((w.setCell ⟨g, 1, none⟩ (.int .u64 (wd S.a))).setCell ⟨g, 2, none⟩ (.int .u64 (wd S.b))).setCell ⟨g, 3, none⟩ (.int .u64 (wd S.c))).setCell ⟨g, 4, none⟩ (.int .u64 (wd S.d))
theorem ItIn.st5 {w : World} {g : Nat} {st : Bool} {S : S4} (h : ItIn w g st S) (T : S4) : ItIn (st5 w g T) g st T := by
  have h1 := heap_setCell_same w g 1 _ _ (.int .u64 (wd T.a)) h
  have h2 := heap_setCell_same _ g 2 _ _ (.int .u64 (wd T.b)) h1
  have h3 := heap_setCell_same _ g 3 _ _ (.int .u64 (wd T.c)) h2
  exact heap_setCell_same _ g 4 _ _ (.int .u64 (wd T.d)) h3
theorem st5_other (w : World) (g k : Nat) (T : S4) (h : k ≠ g) : (st5 w g T).heap[k]? = w.heap[k]? := by
  unfold st5
  rw [heap_setCell_other _ _ _ _ h, heap_setCell_other _ _ _ _ h, heap_setCell_other _ _ _ _ h, heap_setCell_other _ _ _ _ h]
theorem st5_size (w : World) (g : Nat) (T : S4) : (st5 w g T).heap.size = w.heap.size := by unfold st5; simp
theorem below_st5 {B g : Nat} {a w : World} (h : Below B a w) (hg : B ≤ g) (T : S4) : Below B a (st5 w g T) :=
  (((h.setCell (p := ⟨g, 1, none⟩) hg _).setCell (p := ⟨g, 2, none⟩) hg _).setCell (p := ⟨g, 3, none⟩) hg _).setCell (p := ⟨g, 4, none⟩) hg _
/-- An owned row whose block is as it was. -/
theorem row_same {w w' : World} {base e size n cap g : Nat} {xs : List Value} (h : w.ownsRow base e size (.slice (some ⟨g, 0, none⟩) n cap) n xs) (hh : w'.heap[g]? = w.heap[g]?) : w'.ownsRow base e size (.slice (some ⟨g, 0, none⟩) n cap) n xs := by
  refine ⟨h.1, ?_⟩
  rcases h.2 with ⟨h', _⟩ | ⟨g', cap', cur, h', hb, hg, rest⟩
  · simp at h'
  · simp only [Value.slice.injEq, Option.some.injEq, Addr.mk.injEq, and_true, true_and] at h'
    obtain ⟨rfl, rfl⟩ := h'
    exact .inr ⟨g, cap, cur, rfl, hb, hh.trans hg, rest⟩
theorem new5 (w : World) (st : Bool) (S : S4) : ∀ j u, (cells5 st S)[j]? = some u → (w.alloc (.cells (cells5 st S).toArray 34)).cell? ((⟨w.heap.size, 0, none⟩ : Addr).add j) = some u := by
  intro j u hu
  have e : ((⟨w.heap.size, 0, none⟩ : Addr).add j) = ⟨w.heap.size, j, none⟩ := by simp [Addr.add]; exact Eq.symm
  rw [e, cell_of_row _ _ _ _ _ _ (heap_alloc_new _ _)]
  simpa using hu
theorem one5 (st : Bool) (S : S4) : ∀ u ∈ cells5 st S, u.oneCell' = true := by
  intro u hu
  simp only [cells5, List.mem_cons, List.not_mem_nil, or_false] at hu
  rcases hu with rfl | rfl | rfl | rfl | rfl <;> rfl
theorem owns_lt' {w : World} {base e size n cap g : Nat} {xs : List Value} (h : w.ownsRow base e size (.slice (some ⟨g, 0, none⟩) n cap) n xs) : g < w.heap.size := by
  rcases h.2 with ⟨h', _⟩ | ⟨g', cap', cur, h', _, hg, _⟩
  · simp at h'
  · simp only [Value.slice.injEq, Option.some.injEq, Addr.mk.injEq, and_true, true_and] at h'
    obtain ⟨rfl, rfl⟩ := h'
    exact (Array.getElem?_eq_some_iff.1 hg).1
theorem new_five (w : World) (a b c d e : Value) : ∀ j u, [a, b, c, d, e][j]? = some u → (w.alloc (.cells #[a, b, c, d, e] 34)).cell? ((⟨w.heap.size, 0, none⟩ : Addr).add j) = some u := by
  intro j u hu
  have e : ((⟨w.heap.size, 0, none⟩ : Addr).add j) = ⟨w.heap.size, j, none⟩ := by simp [Addr.add]; exact Eq.symm
  rw [e, cell_of_row _ _ _ _ _ _ (heap_alloc_new _ _)]
  simpa using hu
theorem new_five_at (w : World) (g : Nat) (a b c d e : Value) (hg : w.heap.size = g) : ∀ j u, [a, b, c, d, e][j]? = some u → (w.alloc (.cells #[a, b, c, d, e] 34)).cell? ((⟨g, 0, none⟩ : Addr).add j) = some u := by
  subst hg; exact new_five w a b c d e
theorem one_five (st : Bool) (a b c d : Int) : ∀ u ∈ [Value.bool st, .int .u64 a, .int .u64 b, .int .u64 c, .int .u64 d], u.oneCell' = true := by
  intro u hu
  simp only [List.mem_cons, List.not_mem_nil, or_false] at hu
  rcases hu with rfl | rfl | rfl | rfl | rfl <;> rfl
theorem fin_row {w2 : World} {its : List (Bool × S4)} {n g : Nat} {st : Bool} {S : S4} (h : w2.ownsRow g 34 5 (.slice (some ⟨g, 0, none⟩) (its.length + 1) n) (its.length + 1) (rowsOf its ++ cells5 st S)) :
    w2.ownsRow g 34 5 (.slice (some ⟨g, 0, none⟩) (its ++ [(st, S)]).length n) (its ++ [(st, S)]).length (rowsOf (its ++ [(st, S)])) := by
  rw [List.length_append, ← rowsOf_snoc]; exact h
theorem cells_star : cells5 true S4.none = [.bool true, .int .u64 0, .int .u64 0, .int .u64 0, .int .u64 0] := rfl
theorem slot_len (g n : Nat) (its : List (Bool × S4)) (t : Bool × S4) : Value.slice (some ⟨g, 0, none⟩) (its.length + 1) n = .slice (some ⟨g, 0, none⟩) (its ++ [t]).length n := by
  rw [List.length_append]; rfl
theorem below_app {B : Nat} {a w w' : World} {o : Obj} (h : Below B a w) (hB : B ≤ w.heap.size) (hg : (w.alloc o).grownBy w' (some B)) : Below B a w' :=
  (h.alloc hB o).grown hg (by simp; omega) (fun _ e => by cases e; exact Nat.le_refl _)
theorem cells_any : cells5 false S4.all = [.bool false, .int .u64 18446744073709551615, .int .u64 18446744073709551615, .int .u64 18446744073709551615, .int .u64 18446744073709551615] := by
  have e : wd (BitVec.allOnes 64) = 18446744073709551615 := by unfold wd; rw [BitVec.toNat_allOnes]; rfl
  unfold cells5 S4.all; simp only [e]
theorem with_zero (c : Int) (w : World) (h0 : 0 ≤ c) (h1 : c < 256) :
    Calls Try.prog 16 #[.agg #[.int .u64 0, .int .u64 0, .int .u64 0, .int .u64 0], .int .u8 c] w fun e w' =>
      e = .returned (.agg #[.int .u64 (wd (S4.none.put c.toNat).a), .int .u64 (wd (S4.none.put c.toNat).b), .int .u64 (wd (S4.none.put c.toNat).c), .int .u64 (wd (S4.none.put c.toNat).d)]) ∧ Below w.heap.size w w' :=
  with_any S4.none c w h0 h1
/-- The zero item that 'var it zzItem' lays. -/
def zeroIt : Obj := .cells #[.bool false, .int .u64 0, .int .u64 0, .int .u64 0, .int .u64 0] 34
theorem it_zero (w : World) : ItIn (w.alloc (.cells #[.bool false, .int .u64 0, .int .u64 0, .int .u64 0, .int .u64 0] 34)) w.heap.size false S4.none := heap_alloc_new _ _
theorem row_call {w w1 : World} {B n k : Nat} {xs : List Value} {o : Obj} (h : w.ownsRow B 34 5 (.slice (some ⟨B, 0, none⟩) k n) k xs) (hb : Below (w.heap.size + 1) (w.alloc o) w1) (T : S4) :
    (st5 w1 w.heap.size T).ownsRow B 34 5 (.slice (some ⟨B, 0, none⟩) k n) k xs := by
  have hl := owns_lt' h
  refine row_same h ?_
  rw [st5_other _ _ _ _ (by omega), hb.block B (by omega)]
  exact Below.heap_alloc _ _ _ hl
theorem bel_call {a w w1 : World} {B : Nat} {o : Obj} (h : Below B a w) (hB : B ≤ w.heap.size) (hb : Below (w.heap.size + 1) (w.alloc o) w1) (T : S4) : Below B a (st5 w1 w.heap.size T) :=
  below_st5 ((h.alloc hB o).trans (hb.mono (by omega))) hB T
theorem drew_call {W w1 : World} (h : Below W.drew.heap.size W.drew w1) : Below W.heap.size W w1 := ((Below.refl W.heap.size W).drew).trans h
theorem range_call (S : S4) (a b : Int) (w : World) (ha0 : 0 ≤ a) (ha : a < 256) (hb0 : 0 ≤ b) (hb : b < 256) :
    Calls Try.prog 17 #[.agg #[.int .u64 (wd S.a), .int .u64 (wd S.b), .int .u64 (wd S.c), .int .u64 (wd S.d)], .int .u8 a, .int .u8 b] w fun e w' =>
      ∃ S' : S4, e = .returned (.agg #[.int .u64 (wd S'.a), .int .u64 (wd S'.b), .int .u64 (wd S'.c), .int .u64 (wd S'.d)]) ∧ Hid (∀ x : Nat, x < 256 → S'.has x = (S.has x || inRange a b (x : Int))) ∧ Below w.heap.size w w' := by
  obtain ⟨m, rfl⟩ := Int.eq_ofNat_of_zero_le ha0
  obtain ⟨k, rfl⟩ := Int.eq_ofNat_of_zero_le hb0
  refine (range_any S m k w (by omega) (by omega)).mono ?_
  rintro e w' ⟨S', h1, h2, h3⟩
  refine ⟨S', h1, fun x hx => ?_, h3⟩
  rw [h2.out x hx]
  apply orr
  unfold inRange
  rw [Bool.eq_iff_iff]; simp; omega
theorem set_zero (w : World) (o : Obj) : SetIn ((w.alloc o).alloc (.cells #[.int .u64 0, .int .u64 0, .int .u64 0, .int .u64 0] 32)) (w.heap.size + 1) S4.none := heap_alloc2_new _ _ _
theorem it_zero2 (w : World) (o : Obj) : ItIn ((w.alloc (.cells #[.bool false, .int .u64 0, .int .u64 0, .int .u64 0, .int .u64 0] 34)).alloc o) w.heap.size false S4.none := heap_alloc2_old _ _ _
/-- What the bracket's loop has gathered up to place k: KK is where the bracket's inside begins. -/
def Gath (z : List Int) (KK k : Nat) (S : S4) : Prop := ∀ x : Nat, x < 256 → clsHas (x : Int) (z.drop k) 0 (S.has x) = clsHas (x : Int) (z.drop KK) 0 false ∧ clsRest (z.drop k) 0 = clsRest (z.drop KK) 0
theorem gath_start (z : List Int) (KK : Nat) : Gath z KK KK S4.none := fun x _ => by rw [has_none]; exact ⟨rfl, rfl⟩
theorem gath_esc {z : List Int} {KK k : Nat} {S : S4} (h : Gath z KK k S) (h1 : k + 1 < z.length) (hb : bt z k = 92) (h0 : 0 ≤ bt z (k + 1)) (h8 : bt z (k + 1) < 256) : Gath z KK (k + 2) (S.put (bt z (k + 1)).toNat) := fun x hx => by
  have := cls_esc (x : Int) z k (S.has x) h1 hb
  rw [put_has _ _ _ h0 h8 hx]
  exact ⟨this.1.symm.trans (h x hx).1, this.2.symm.trans (h x hx).2⟩
theorem gath_range {z : List Int} {KK k : Nat} {S S' : S4} (h : Gath z KK k S) (h2 : k + 2 < z.length) (h93 : bt z k ≠ 93) (h92 : bt z k ≠ 92) (h45 : bt z (k + 1) = 45) (hs : ∀ x : Nat, x < 256 → S'.has x = (S.has x || inRange (bt z k) (bt z (k + 2)) (x : Int))) : Gath z KK (k + 3) S' := fun x hx => by
  have := cls_range (x : Int) z k (S.has x) h2 h93 h92 h45
  rw [hs x hx]
  exact ⟨this.1.symm.trans (h x hx).1, this.2.symm.trans (h x hx).2⟩
theorem gath_one {z : List Int} {KK k : Nat} {S : S4} (h : Gath z KK k S) (h1 : k < z.length) (h93 : bt z k ≠ 93) (h92 : ¬ (bt z k = 92 ∧ k + 1 < z.length)) (h45 : ¬ (k + 2 < z.length ∧ bt z (k + 1) = 45)) (h0 : 0 ≤ bt z k) (h8 : bt z k < 256) : Gath z KK (k + 1) (S.put (bt z k).toNat) := fun x hx => by
  have := cls_one (x : Int) z k (S.has x) h1 h93 h92 h45
  rw [put_has _ _ _ h0 h8 hx]
  exact ⟨this.1.symm.trans (h x hx).1, this.2.symm.trans (h x hx).2⟩
theorem gath_close {z : List Int} {KK k : Nat} {S : S4} (h : Gath z KK k S) (h1 : k < z.length) (hb : bt z k = 93) : (∀ x : Nat, x < 256 → S.has x = clsHas (x : Int) (z.drop KK) 0 false) ∧ z.length - (clsRest (z.drop KK) 0).length = k + 1 := by
  refine ⟨fun x hx => ?_, ?_⟩
  · rw [← (h x hx).1, (cls_close (x : Int) z k _ h1 hb).1]
  · rw [← (h 0 (by omega)).2, (cls_close 0 z k false h1 hb).2, List.length_drop]; omega
theorem gath_end {z : List Int} {KK k : Nat} {S : S4} (h : Gath z KK k S) (h1 : z.length ≤ k) (h2 : k ≤ z.length) : (∀ x : Nat, x < 256 → S.has x = clsHas (x : Int) (z.drop KK) 0 false) ∧ z.length - (clsRest (z.drop KK) 0).length = k := by
  refine ⟨fun x hx => ?_, ?_⟩
  · rw [← (h x hx).1, (cls_end (x : Int) z k _ h1).1]
  · rw [← (h 0 (by omega)).2, (cls_end 0 z k false h1).2, List.length_nil]; omega
theorem read_pos {z : List Int} {its : List (Bool × S4)} {p q : Nat} {S : S4} (h : Read z its p) (hp : p < z.length) (h91 : bt z p = 91) (hn : ¬ (p + 1 < z.length ∧ bt z (p + 1) = 94))
    (hs : (∀ x : Nat, x < 256 → S.has x = clsHas (x : Int) (z.drop (p + 1)) 0 false) ∧ z.length - (clsRest (z.drop (p + 1)) 0).length = q) : Read z (its ++ [(false, S)]) q := by
  refine read_some h hp (by omega) ?_ (fun x hx => ?_)
  · rw [(item_cls z p 0 h91).2]; unfold clsEnd; rw [if_neg hn]; exact hs.2
  · rw [(item_cls z p x h91).1]; unfold clsOk; rw [if_neg hn]; exact hs.1 x hx
theorem read_neg {z : List Int} {its : List (Bool × S4)} {p q : Nat} {S : S4} (h : Read z its p) (hp : p < z.length) (h91 : bt z p = 91) (hn : p + 1 < z.length ∧ bt z (p + 1) = 94)
    (hs : (∀ x : Nat, x < 256 → S.has x = clsHas (x : Int) (z.drop (p + 2)) 0 false) ∧ z.length - (clsRest (z.drop (p + 2)) 0).length = q) : Read z (its ++ [(false, S.not)]) q := by
  refine read_some h hp (by omega) ?_ (fun x hx => ?_)
  · rw [(item_cls z p 0 h91).2]; unfold clsEnd; rw [if_pos hn]; exact hs.2
  · rw [(item_cls z p x h91).1]; unfold clsOk; rw [if_pos hn, has_not _ _ hx, hs.1 x hx]
theorem row_call4 {w wq w1 : World} {I : Nat} {B n k : Nat} {xs : List Value} (h : w.ownsRow B 34 5 (.slice (some ⟨B, 0, none⟩) k n) k xs) (hq : Below w.heap.size w wq) (hb : Below wq.heap.size wq w1) (T : S4) (hI : w.heap.size ≤ I) :
    (st5 w1 I T).ownsRow B 34 5 (.slice (some ⟨B, 0, none⟩) k n) k xs := by
  have hl := owns_lt' h
  refine row_same h ?_
  rw [st5_other _ _ _ _ (by omega), hb.block B (Nat.lt_of_lt_of_le hl hq.size), hq.block B hl]
theorem row_st5 {w wq : World} {B n k : Nat} {xs : List Value} (h : w.ownsRow B 34 5 (.slice (some ⟨B, 0, none⟩) k n) k xs) (hq : Below w.heap.size w wq) (T : S4) :
    (st5 wq w.heap.size T).ownsRow B 34 5 (.slice (some ⟨B, 0, none⟩) k n) k xs := by
  have hl := owns_lt' h
  refine row_same h ?_
  rw [st5_other _ _ _ _ (by omega), hq.block B hl]
theorem bel_st5 {a w wq : World} {B : Nat} (h : Below B a w) (hB : B ≤ w.heap.size) (hq : Below w.heap.size w wq) (T : S4) : Below B a (st5 wq w.heap.size T) :=
  below_st5 (h.trans (hq.mono hB)) hB T
end Go.Proofs.Qxb6628398a
