import Derived.Test.Qxb6628341aDoorSize
import Derived.Test.Qxb6628341aDoorBytesO
namespace Go.Proofs.Qxb6628341aDoor
open Go.ChangeShapes Go.WideShapes Go.ChangeAt Go.RowKit

attribute [local go_sem ↓] Go.wp_at_zero Go.wp_at_succ
/-- What the law's arguments are in memory. -/
structure In0 (w : World) (ra la : Option Addr) (n ln : Nat) (rs : List Rq) (lb : List (ByteArray × ByteArray)) : Prop where
  hn : rs.length = n
  hl : lb.length = ln
  hq : RqsIn w ra rs
  hv : ∀ j, j < n → VsIn w (rqAt rs j)
  hlb : LbsIn w la lb
theorem In0.kept {w w' : World} {ra la : Option Addr} {n ln : Nat} {rs : List Rq} {lb : List (ByteArray × ByteArray)} (h : In0 w ra la n ln rs lb) (hb : Below w.heap.size w w') : In0 w' ra la n ln rs lb :=
  ⟨h.hn, h.hl, h.hq.kept hb, fun j hj => ⟨(h.hv j hj).1, (h.hv j hj).2.kept hb⟩, h.hlb.kept hb⟩
theorem rd_of {w : World} {x : Rq} (h : VsIn w x) (hb : BdR x) : Rd w x := ⟨hb.1, h.1, hb.2.2.1, h.2, hb.2.2.2⟩
theorem look_mem (lb : List (ByteArray × ByteArray)) (k v : ByteArray) (h : look lb k = some v) : ∃ j, j < lb.length ∧ (lbAt lb j).2 = v := by
  unfold look at h
  rw [Option.map_eq_some_iff] at h
  obtain ⟨p, hp, rfl⟩ := h
  have := List.mem_of_find?_eq_some hp
  rw [List.mem_reverse] at this
  obtain ⟨j, hj, e⟩ := List.mem_iff_getElem.1 this
  exact ⟨j, hj, by simp [lbAt, List.getD_eq_getElem?_getD, hj, e]⟩
theorem look_size {n ln : Nat} {rs : List Rq} {lb : List (ByteArray × ByteArray)} (hln : lb.length = ln) (h : BdA n ln rs lb) (k v : ByteArray) (hk : look lb k = some v) : v.size ≤ 1048576 := by
  obtain ⟨j, hj, e⟩ := look_mem lb k v hk
  have := (h.2.2.2 j (by omega)).2
  rw [e] at this; exact this
theorem sel_ins (rs : List Rq) (pos : Nat) (x : Rq) (lb : List (ByteArray × ByteArray)) : sel (ins rs pos x) lb = (sel rs lb && holds x (look lb x.key)) := by
  unfold sel ins
  rw [List.all_append, List.all_cons]
  conv => rhs; arg 1; rw [← List.take_append_drop pos rs, List.all_append]
  cases (rs.take pos).all fun r => holds r (look lb r.key) <;> cases (rs.drop pos).all fun r => holds r (look lb r.key) <;> cases holds x (look lb x.key) <;> rfl
theorem sel_one (x : Rq) (lb : List (ByteArray × ByteArray)) : sel [x] lb = holds x (look lb x.key) := by simp [sel]

def xIn (key : ByteArray) (va : Option Addr) (vn vcap : Nat) (vs : List ByteArray) : Rq := ⟨key, ⟨#[73, 110]⟩, va, vn, vcap, vs⟩
def xNot (key : ByteArray) (va : Option Addr) (vn vcap : Nat) (vs : List ByteArray) : Rq := ⟨key, ⟨#[78, 111, 116, 73, 110]⟩, va, vn, vcap, vs⟩
def xBog (key : ByteArray) (va : Option Addr) (vn vcap : Nat) (vs : List ByteArray) : Rq := ⟨key, ⟨#[105, 110]⟩, va, vn, vcap, vs⟩
def xOp (key o : ByteArray) : Rq := ⟨key, o, none, 0, 0, []⟩
/-- The memory once the five requirements stand: the map in block m, the selector in block s, the requirements in g and behind it. -/
structure St1 (w X : World) (m s g n ln : Nat) (rs : List Rq) (lb : List (ByteArray × ByteArray)) (x1 x2 x3 x4 x5 : Rq) : Prop where
  hM : MapIs X m ln lb
  hQ : RqsIn X (some ⟨s, 0, none⟩) rs
  hR : ∀ j, j < n → Rd X (rqAt rs j)
  hE : Env X
  b1 : BoxIs X g x1
  b2 : BoxIs X (g + 1) x2
  b3 : BoxIs X (g + 1 + 1) x3
  b4 : BoxIs X (g + 1 + 1 + 1) x4
  b5 : BoxIs X (g + 1 + 1 + 1 + 1) x5
  r1 : Rd X x1
  r2 : Rd X x2
  r3 : Rd X x3
  r4 : Rd X x4
  r5 : Rd X x5
  hB : Below w.heap.size w X
theorem St1.kept {w X X' : World} {m s g n ln : Nat} {rs : List Rq} {lb : List (ByteArray × ByteArray)} {x1 x2 x3 x4 x5 : Rq} (h : St1 w X m s g n ln rs lb x1 x2 x3 x4 x5) (hb : Below X.heap.size X X') : St1 w X' m s g n ln rs lb x1 x2 x3 x4 x5 :=
  ⟨h.hM.kept hb, h.hQ.kept hb, fun j hj => (h.hR j hj).kept hb, h.hE.kept hb, h.b1.kept hb, h.b2.kept hb, h.b3.kept hb, h.b4.kept hb, h.b5.kept hb, h.r1.kept hb, h.r2.kept hb, h.r3.kept hb, h.r4.kept hb, h.r5.kept hb, h.hB.trans (hb.mono h.hB.size)⟩
theorem box_alloc {w : World} {g : Nat} {x : Rq} (h : BoxIs w g x) (o : Obj) : BoxIs (w.alloc o) g x := h.kept ((Below.refl _ _).alloc (Nat.le_refl _) _)
theorem box_at (w : World) (g : Nat) (x : Rq) (h : g = w.heap.size) : BoxIs (w.alloc (.cells #[.string x.key, .string x.op, .slice x.ad x.len x.cap] 42)) g x := by
  subst h; exact heap_alloc_new _ _
theorem st_boxes {w w4 : World} {m s n ln : Nat} {rs : List Rq} {lb : List (ByteArray × ByteArray)} (x1 x2 x3 x4 x5 : Rq)
    (hM : MapIs w4 m ln lb) (hQ : RqsIn w4 (some ⟨s, 0, none⟩) rs) (hR : ∀ j, j < n → Rd w4 (rqAt rs j)) (hE : Env w4) (r1 : Rd w4 x1) (r2 : Rd w4 x2) (r3 : Rd w4 x3) (r4 : Rd w4 x4) (r5 : Rd w4 x5) (hB : Below w.heap.size w w4) :
    St1 w (((((w4.alloc (.cells #[.string x1.key, .string x1.op, .slice x1.ad x1.len x1.cap] 42)).alloc (.cells #[.string x2.key, .string x2.op, .slice x2.ad x2.len x2.cap] 42)).alloc (.cells #[.string x3.key, .string x3.op, .slice x3.ad x3.len x3.cap] 42)).alloc (.cells #[.string x4.key, .string x4.op, .slice x4.ad x4.len x4.cap] 42)).alloc (.cells #[.string x5.key, .string x5.op, .slice x5.ad x5.len x5.cap] 42)) m s w4.heap.size n ln rs lb x1 x2 x3 x4 x5 := by
  have hb : Below w4.heap.size w4 (((((w4.alloc (.cells #[.string x1.key, .string x1.op, .slice x1.ad x1.len x1.cap] 42)).alloc (.cells #[.string x2.key, .string x2.op, .slice x2.ad x2.len x2.cap] 42)).alloc (.cells #[.string x3.key, .string x3.op, .slice x3.ad x3.len x3.cap] 42)).alloc (.cells #[.string x4.key, .string x4.op, .slice x4.ad x4.len x4.cap] 42)).alloc (.cells #[.string x5.key, .string x5.op, .slice x5.ad x5.len x5.cap] 42)) :=
    (((((Below.refl _ _).alloc (Nat.le_refl _) _).alloc (by simp) _).alloc (by simp; omega) _).alloc (by simp; omega) _).alloc (by simp; omega) _
  exact ⟨hM.kept hb, hQ.kept hb, fun j hj => (hR j hj).kept hb, hE.kept hb, box_alloc (box_alloc (box_alloc (box_alloc (box_at _ _ _ rfl) _) _) _) _, box_alloc (box_alloc (box_alloc (box_at _ _ _ (by simp)) _) _) _,
    box_alloc (box_alloc (box_at _ _ _ (by simp)) _) _, box_alloc (box_at _ _ _ (by simp)) _, box_at _ _ _ (by simp), r1.kept hb, r2.kept hb, r3.kept hb, r4.kept hb, r5.kept hb, hB.trans (hb.mono hB.size)⟩
theorem rqs_one {w : World} {g : Nat} {x : Rq} (h : BoxIs w g x) : RqsIn w (some ⟨g, 0, none⟩) [x] := fun _ => ⟨g, 0, rfl, (Array.getElem?_eq_some_iff.1 h).1, fun j hj => by
  have e : j = 0 := by simp at hj; exact hj
  subst e
  exact ⟨by simpa [rqAt] using h.c0, by simpa [rqAt] using h.c1, by simpa [rqAt] using h.c2⟩⟩
/-- Matches at a selector of one. -/
theorem match_box {w X : World} {m s g n ln : Nat} {rs : List Rq} {lb : List (ByteArray × ByteArray)} {x1 x2 x3 x4 x5 : Rq} (h : St1 w X m s g n ln rs lb x1 x2 x3 x4 x5) (hlb : ∀ k v, look lb k = some v → v.size ≤ 1048576) (x : Rq) (hx : Rd X x) (b : Bool) (hb : holds x (look lb x.key) = b) :
    Calls Tryd.prog 9 #[.slice (some ⟨X.heap.size, 0, none⟩) 1 1, .map (some m)] (X.alloc (.cells #[.string x.key, .string x.op, .slice x.ad x.len x.cap] 42)) fun e w' => e = .returned (.bool b) ∧ Below X.heap.size X w' := by
  have hB : Below X.heap.size X (X.alloc (.cells #[.string x.key, .string x.op, .slice x.ad x.len x.cap] 42)) := below_bx X x
  have h2 := h.kept hB
  have := match_any (some ⟨X.heap.size, 0, none⟩) 1 1 m ln [x] lb (X.alloc (.cells #[.string x.key, .string x.op, .slice x.ad x.len x.cap] 42)) rfl (by omega) h2.hM h2.hE hlb (fun j hj => by
    have e : j = 0 := by omega
    subst e
    exact hx.kept hB) (rqs_one (box_at X _ x rfl))
  rw [sel_one, hb] at this
  refine this.mono ?_
  rintro e w' ⟨rfl, h3⟩
  exact ⟨rfl, hB.trans (h3.mono hB.size)⟩
/-- Matches at the selector with one more. -/
theorem match_ins {w X : World} {m s g n ln pos : Nat} {rs : List Rq} {lb : List (ByteArray × ByteArray)} {x1 x2 x3 x4 x5 : Rq} (h : St1 w X m s g n ln rs lb x1 x2 x3 x4 x5) (hlb : ∀ k v, look lb k = some v → v.size ≤ 1048576) (x : Rq) (hx : Rd X x) (hn : rs.length = n) (hn2 : n ≤ 1048576) (hp : pos ≤ n)
    (g2 : Nat) (hi : RqsIn X (some ⟨g2, 0, none⟩) (ins rs pos x)) (b : Bool) (hb : (sel rs lb && holds x (look lb x.key)) = b) :
    Calls Tryd.prog 9 #[.slice (some ⟨g2, 0, none⟩) (n + 1 : Nat) (n + 1 : Nat), .map (some m)] X fun e w' => e = .returned (.bool b) ∧ Below X.heap.size X w' := by
  have := match_any (some ⟨g2, 0, none⟩) (n + 1) (n + 1) m ln (ins rs pos x) lb X (by rw [ins_len rs pos x (by omega), hn]) (by omega) h.hM h.hE hlb (fun j hj => by
    by_cases e1 : j < pos
    · rw [ins_before rs pos x (by omega) j e1]; exact h.hR j (by omega)
    · by_cases e2 : j = pos
      · subst e2; rw [ins_at rs j x (by omega)]; exact hx
      · obtain ⟨i, rfl⟩ : ∃ i, j = i + 1 := ⟨j - 1, by omega⟩
        rw [ins_behind rs pos x (by omega) i (by omega)]; exact h.hR i (by omega)) hi
  rw [sel_ins, hb] at this
  exact this
theorem op_in (key : ByteArray) (va : Option Addr) (vn vcap : Nat) (vs : List ByteArray) (o : Option ByteArray) : holds (xIn key va vn vcap vs) o = match o with | some v => hasV vs v | none => false := by
  rw [holds_of]; simp only [xIn, ByteArray.toList_eq]; rfl
theorem op_not (key : ByteArray) (va : Option Addr) (vn vcap : Nat) (vs : List ByteArray) (o : Option ByteArray) : holds (xNot key va vn vcap vs) o = match o with | some v => !(hasV vs v) | none => true := by
  rw [holds_of]; simp only [xNot, ByteArray.toList_eq]; rfl
theorem op_bog (key : ByteArray) (va : Option Addr) (vn vcap : Nat) (vs : List ByteArray) (o : Option ByteArray) : holds (xBog key va vn vcap vs) o = false := by
  rw [holds_of]; simp only [xBog, ByteArray.toList_eq]; rfl
theorem op_ex (key : ByteArray) (o : Option ByteArray) : holds (xOp key ⟨#[69, 120, 105, 115, 116, 115]⟩) o = o.isSome := by
  rw [holds_of]; simp only [xOp, ByteArray.toList_eq]; rfl
theorem op_dne (key : ByteArray) (o : Option ByteArray) : holds (xOp key ⟨#[68, 111, 101, 115, 78, 111, 116, 69, 120, 105, 115, 116]⟩) o = !o.isSome := by
  rw [holds_of]; simp only [xOp, ByteArray.toList_eq]; rfl

set_option maxRecDepth 100000 in
set_option maxHeartbeats 2000000 in
theorem one_walk (ra la va : Option Addr) (n rcap ln lcap vn vcap pos : Nat) (key : ByteArray) (vs : List ByteArray) (rs : List Rq) (lb : List (ByteArray × ByteArray)) (w : World)
    (hb : n < 9223372036854775808) (hb2 : ln < 9223372036854775808) (hb3 : vn < 9223372036854775808) (hvn : vs.length = vn) (hp : pos ≤ n)
    (h : In0 w ra la n ln rs lb) (hS : StrsIn w va vs) (hE : Env w) :
    Calls Tryd.prog 4 #[.slice ra n rcap, .slice la ln lcap, .string key, .slice va vn vcap, .int .i64 pos] w fun e w' => e = .returned (.bool true) ∧ Below w.heap.size w w' := by
  go_enter Tryd.func4, Tryd.ntmps4
  go_wp2_with fail
  refine (bytes_o ra la va n rcap ln lcap vn vcap pos key vs rs lb w h.hn h.hl hvn hb hb2 hb3 h.hq h.hv h.hlb hS).mono ?_
  rintro e w0 ⟨bl, rfl, rfl, hbl⟩
  cases bl
  · go_wp2
    go_ret
    exact ⟨rfl, Below.refl _ _⟩
  · obtain ⟨hA, hK, hV1, hV2⟩ := hbl rfl
    clear hbl
    go_wp2_with fail
    refine (size_any ra la va n rcap ln lcap vn vcap key vs rs lb w0 h.hn h.hl hvn hA hK hV1 hV2 h.hq h.hv h.hlb hS).mono ?_
    rintro e w1 ⟨bl, rfl, rfl, _⟩
    cases bl
    · go_wp2
      go_ret
      exact ⟨rfl, Below.refl _ _⟩
    · have hA1 := hA.1
      have hA3 := hA.2.2.1
      go_wp2_with fail
      refine (set_any la ln lcap lb w1 h.hl hA3 h.hlb (fun j hj => hA.2.2.2 j hj)).mono ?_
      rintro e w2 ⟨rfl, hM2, hB2⟩
      have h2 := h.kept hB2
      go_wp2_with fail
      refine (sel_any ra n rcap rs w2 h2.hn hA1 h2.hq).mono ?_
      rintro e w3 ⟨rfl, hQ3, hB3, hlt3⟩
      have h3 := h2.kept hB3
      go_wp2_with fail
      refine (look_any la ln lcap lb key w3 h3.hl hA3 h3.hlb).mono ?_
      rintro e w4 ⟨rfl, rfl⟩
      have hB14 : Below w1.heap.size w1 w4 := hB2.trans (hB3.mono hB2.size)
      have hSz := look_size h.hl hA
      have hS4 := hS.kept hB14
      have hE4 := hE.kept hB14
      have hM4 := hM2.kept hB3
      have hR4 : ∀ j, j < n → Rd w4 (rqAt rs j) := fun j hj => rd_of (h3.hv j hj) (hA.2.1 j hj)
      have rv : ∀ o, Rd w4 ⟨key, o, va, vn, vcap, vs⟩ := fun o => ⟨hK, hvn, hV1, hS4, hV2⟩
      have rn : ∀ o, Rd w4 (xOp key o) := fun o => ⟨hK, rfl, by show 0 ≤ _; omega, fun h0 => absurd h0 (by simp [xOp]), fun j hj => absurd hj (by simp [xOp])⟩
      obtain ⟨b0, hb0⟩ : ∃ b0, b0 = sel rs lb := ⟨_, rfl⟩
      have hn := h.hn
      cases ho : look lb key with
      | none =>
        have e1 : lookB lb key = false := by unfold lookB; rw [ho]; rfl
        have hst := st_boxes (s := w2.heap.size) (n := n) (xIn key va vn vcap vs) (xNot key va vn vcap vs) (xOp key ⟨#[68, 111, 101, 115, 78, 111, 116, 69, 120, 105, 115, 116]⟩) (xOp key ⟨#[69, 120, 105, 115, 116, 115]⟩) (xBog key va vn vcap vs) hM4 hQ3 hR4 hE4 (rv _) (rv _) (rn _) (rn _) (rv _) hB14
        have HST := hide hst
        have HSZ := hide hSz
        have HB0 := hide hb0
        have HN := hide hn
        have HOI : Hid (holds (xIn key va vn vcap vs) (look lb key) = false) := by show _ = _; rw [op_in, ho]
        have HON : Hid (holds (xNot key va vn vcap vs) (look lb key) = true) := by show _ = _; rw [op_not, ho]
        have HOH : Hid (holds (xOp key ⟨#[68, 111, 101, 115, 78, 111, 116, 69, 120, 105, 115, 116]⟩) (look lb key) = true) := by show _ = _; rw [op_dne, ho]; rfl
        have HOF : Hid (holds (xOp key ⟨#[69, 120, 105, 115, 116, 115]⟩) (look lb key) = false) := by show _ = _; rw [op_ex, ho]; rfl
        have HOB : Hid (holds (xBog key va vn vcap vs) (look lb key) = false) := op_bog _ _ _ _ _ _
        rw [e1]
        clear hst hSz hb0 hn h h2 h3 hS hE hS4 hE4 hM4 hR4 rv rn hM2 hB2 hQ3 hB3 hB14 hlt3 hA hV2 ho e1
        go_wp2_with fail
        refine (match_any _ n n _ ln rs lb _ HN.out (by omega) HST.out.hM HST.out.hE HSZ.out HST.out.hR HST.out.hQ).mono ?_
        rintro e X1 ⟨rfl, hb1⟩
        rw [← HB0.out]
        have HS1 := hide (HST.out.kept hb1)
        clear hb1 HST
        have a0 : X1.cell? ⟨w4.heap.size, 0, none⟩ = some (.string key) := HS1.out.b1.c0
        have a1 : X1.cell? ⟨w4.heap.size, 1, none⟩ = some (.string ⟨#[73, 110]⟩) := HS1.out.b1.c1
        have a2 : X1.cell? ⟨w4.heap.size, 2, none⟩ = some (.slice va vn vcap) := HS1.out.b1.c2
        go_wp2_with fail
        refine (match_box HS1.out HSZ.out (xIn key va vn vcap vs) HS1.out.r1 false HOI.out).mono ?_
        rintro e X2 ⟨rfl, hb2⟩
        have HS2 := hide (HS1.out.kept hb2)
        clear a0 a1 a2 hb2 HS1
        have a0 : X2.cell? ⟨w4.heap.size + 1, 0, none⟩ = some (.string key) := HS2.out.b2.c0
        have a1 : X2.cell? ⟨w4.heap.size + 1, 1, none⟩ = some (.string ⟨#[78, 111, 116, 73, 110]⟩) := HS2.out.b2.c1
        have a2 : X2.cell? ⟨w4.heap.size + 1, 2, none⟩ = some (.slice va vn vcap) := HS2.out.b2.c2
        go_wp2_with fail
        refine (match_box HS2.out HSZ.out (xNot key va vn vcap vs) HS2.out.r2 true HON.out).mono ?_
        rintro e X3 ⟨rfl, hb3⟩
        have HS3 := hide (HS2.out.kept hb3)
        clear a0 a1 a2 hb3 HS2
        have a0 : X3.cell? ⟨w4.heap.size + 1 + 1, 0, none⟩ = some (.string key) := HS3.out.b3.c0
        have a1 : X3.cell? ⟨w4.heap.size + 1 + 1, 1, none⟩ = some (.string ⟨#[68, 111, 101, 115, 78, 111, 116, 69, 120, 105, 115, 116]⟩) := HS3.out.b3.c1
        have a2 : X3.cell? ⟨w4.heap.size + 1 + 1, 2, none⟩ = some (.slice none 0 0) := HS3.out.b3.c2
        go_wp2_with fail
        refine (match_box HS3.out HSZ.out (xOp key ⟨#[68, 111, 101, 115, 78, 111, 116, 69, 120, 105, 115, 116]⟩) HS3.out.r3 true HOH.out).mono ?_
        rintro e X4 ⟨rfl, hb4⟩
        have HS4 := hide (HS3.out.kept hb4)
        clear a0 a1 a2 hb4 HS3
        have a0 : X4.cell? ⟨w4.heap.size + 1 + 1 + 1, 0, none⟩ = some (.string key) := HS4.out.b4.c0
        have a1 : X4.cell? ⟨w4.heap.size + 1 + 1 + 1, 1, none⟩ = some (.string ⟨#[69, 120, 105, 115, 116, 115]⟩) := HS4.out.b4.c1
        have a2 : X4.cell? ⟨w4.heap.size + 1 + 1 + 1, 2, none⟩ = some (.slice none 0 0) := HS4.out.b4.c2
        go_wp2_with fail
        refine (match_box HS4.out HSZ.out (xOp key ⟨#[69, 120, 105, 115, 116, 115]⟩) HS4.out.r4 false HOF.out).mono ?_
        rintro e X5 ⟨rfl, hb5⟩
        have HS5 := hide (HS4.out.kept hb5)
        clear a0 a1 a2 hb5 HS4
        have a0 : X5.cell? ⟨w4.heap.size, 0, none⟩ = some (.string key) := HS5.out.b1.c0
        have a1 : X5.cell? ⟨w4.heap.size, 1, none⟩ = some (.string ⟨#[73, 110]⟩) := HS5.out.b1.c1
        have a2 : X5.cell? ⟨w4.heap.size, 2, none⟩ = some (.slice va vn vcap) := HS5.out.b1.c2
        go_wp2_with fail
        refine (ins_any w2.heap.size 0 n n pos rs (xIn key va vn vcap vs) X5 HN.out (by omega) hp HS5.out.hQ).mono ?_
        rintro e X6 ⟨g2, rfl, hI, hb6⟩
        have HS6 := hide (HS5.out.kept hb6)
        have HI := hide hI
        clear a0 a1 a2 hb6 HS5 hI
        go_wp2_with fail
        refine (match_ins HS6.out HSZ.out (xIn key va vn vcap vs) HS6.out.r1 HN.out (by omega) hp g2 HI.out false (by show (sel rs lb && holds _ (look lb key)) = _; rw [HOI.out, ← HB0.out]; cases b0 <;> rfl)).mono ?_
        rintro e X7 ⟨rfl, hb7⟩
        have HS7 := hide (HS6.out.kept hb7)
        clear hb7 HS6 HI
        have a0 : X7.cell? ⟨w4.heap.size + 1 + 1, 0, none⟩ = some (.string key) := HS7.out.b3.c0
        have a1 : X7.cell? ⟨w4.heap.size + 1 + 1, 1, none⟩ = some (.string ⟨#[68, 111, 101, 115, 78, 111, 116, 69, 120, 105, 115, 116]⟩) := HS7.out.b3.c1
        have a2 : X7.cell? ⟨w4.heap.size + 1 + 1, 2, none⟩ = some (.slice none 0 0) := HS7.out.b3.c2
        go_wp2_with fail
        refine (ins_any w2.heap.size 0 n n pos rs (xOp key ⟨#[68, 111, 101, 115, 78, 111, 116, 69, 120, 105, 115, 116]⟩) X7 HN.out (by omega) hp HS7.out.hQ).mono ?_
        rintro e X8 ⟨g2, rfl, hI, hb8⟩
        have HS8 := hide (HS7.out.kept hb8)
        have HI := hide hI
        clear a0 a1 a2 hb8 HS7 hI
        go_wp2_with fail
        refine (match_ins HS8.out HSZ.out (xOp key ⟨#[68, 111, 101, 115, 78, 111, 116, 69, 120, 105, 115, 116]⟩) HS8.out.r3 HN.out (by omega) hp g2 HI.out b0 (by show (sel rs lb && holds _ (look lb key)) = _; rw [HOH.out, ← HB0.out]; cases b0 <;> rfl)).mono ?_
        rintro e X9 ⟨rfl, hb9⟩
        have HS9 := hide (HS8.out.kept hb9)
        clear hb9 HS8 HI
        have a0 : X9.cell? ⟨w4.heap.size + 1 + 1 + 1, 0, none⟩ = some (.string key) := HS9.out.b4.c0
        have a1 : X9.cell? ⟨w4.heap.size + 1 + 1 + 1, 1, none⟩ = some (.string ⟨#[69, 120, 105, 115, 116, 115]⟩) := HS9.out.b4.c1
        have a2 : X9.cell? ⟨w4.heap.size + 1 + 1 + 1, 2, none⟩ = some (.slice none 0 0) := HS9.out.b4.c2
        go_wp2_with fail
        refine (ins_any w2.heap.size 0 n n pos rs (xOp key ⟨#[69, 120, 105, 115, 116, 115]⟩) X9 HN.out (by omega) hp HS9.out.hQ).mono ?_
        rintro e X10 ⟨g2, rfl, hI, hb10⟩
        have HS10 := hide (HS9.out.kept hb10)
        have HI := hide hI
        clear a0 a1 a2 hb10 HS9 hI
        go_wp2_with fail
        refine (match_ins HS10.out HSZ.out (xOp key ⟨#[69, 120, 105, 115, 116, 115]⟩) HS10.out.r4 HN.out (by omega) hp g2 HI.out false (by show (sel rs lb && holds _ (look lb key)) = _; rw [HOF.out]; cases sel rs lb <;> rfl)).mono ?_
        rintro e X11 ⟨rfl, hb11⟩
        have HS11 := hide (HS10.out.kept hb11)
        clear hb11 HS10 HI
        have a0 : X11.cell? ⟨w4.heap.size + 1 + 1 + 1 + 1, 0, none⟩ = some (.string key) := HS11.out.b5.c0
        have a1 : X11.cell? ⟨w4.heap.size + 1 + 1 + 1 + 1, 1, none⟩ = some (.string ⟨#[105, 110]⟩) := HS11.out.b5.c1
        have a2 : X11.cell? ⟨w4.heap.size + 1 + 1 + 1 + 1, 2, none⟩ = some (.slice va vn vcap) := HS11.out.b5.c2
        go_wp2_with fail
        refine (ins_any w2.heap.size 0 n n pos rs (xBog key va vn vcap vs) X11 HN.out (by omega) hp HS11.out.hQ).mono ?_
        rintro e X12 ⟨g2, rfl, hI, hb12⟩
        have HS12 := hide (HS11.out.kept hb12)
        have HI := hide hI
        clear a0 a1 a2 hb12 HS11 hI
        go_wp2_with fail
        refine (match_ins HS12.out HSZ.out (xBog key va vn vcap vs) HS12.out.r5 HN.out (by omega) hp g2 HI.out false (by show (sel rs lb && holds _ (look lb key)) = _; rw [HOB.out]; cases sel rs lb <;> rfl)).mono ?_
        rintro e X13 ⟨rfl, hb13⟩
        have HS13 := hide (HS12.out.kept hb13)
        clear hb13 HS12 HI
        cases b0 <;>
        · go_wp2
          go_ret
          exact ⟨rfl, HS13.out.hB⟩
      | some v =>
        have e1 : lookB lb key = true := by unfold lookB; rw [ho]; rfl
        have e2 : lookV lb key = v := by unfold lookV; rw [ho]; rfl
        obtain ⟨q, hq⟩ : ∃ q, q = hasV vs v := ⟨_, rfl⟩
        have hst := st_boxes (s := w2.heap.size) (n := n) (xIn key va vn vcap vs) (xNot key va vn vcap vs) (xOp key ⟨#[69, 120, 105, 115, 116, 115]⟩) (xOp key ⟨#[68, 111, 101, 115, 78, 111, 116, 69, 120, 105, 115, 116]⟩) (xBog key va vn vcap vs) hM4 hQ3 hR4 hE4 (rv _) (rv _) (rn _) (rn _) (rv _) hB14
        have HST := hide hst
        have HSZ := hide hSz
        have HB0 := hide hb0
        have HN := hide hn
        have HQ := hide hq
        have HOI : Hid (holds (xIn key va vn vcap vs) (look lb key) = q) := by show _ = _; rw [op_in, ho, hq]
        have HON : Hid (holds (xNot key va vn vcap vs) (look lb key) = !q) := by show _ = _; rw [op_not, ho, hq]
        have HOH : Hid (holds (xOp key ⟨#[69, 120, 105, 115, 116, 115]⟩) (look lb key) = true) := by show _ = _; rw [op_ex, ho]; rfl
        have HOF : Hid (holds (xOp key ⟨#[68, 111, 101, 115, 78, 111, 116, 69, 120, 105, 115, 116]⟩) (look lb key) = false) := by show _ = _; rw [op_dne, ho]; rfl
        have HOB : Hid (holds (xBog key va vn vcap vs) (look lb key) = false) := op_bog _ _ _ _ _ _
        rw [e1, e2]
        clear hst hSz hb0 hn h h2 h3 hS hE hS4 hE4 hM4 hR4 rv rn hM2 hB2 hQ3 hB3 hB14 hlt3 hA hV2 ho e1 e2 hq
        go_wp2_with fail
        refine (match_any _ n n _ ln rs lb _ HN.out (by omega) HST.out.hM HST.out.hE HSZ.out HST.out.hR HST.out.hQ).mono ?_
        rintro e X1 ⟨rfl, hb1⟩
        rw [← HB0.out]
        have HS1 := hide (HST.out.kept hb1)
        clear hb1 HST
        have a0 : X1.cell? ⟨w4.heap.size, 0, none⟩ = some (.string key) := HS1.out.b1.c0
        have a1 : X1.cell? ⟨w4.heap.size, 1, none⟩ = some (.string ⟨#[73, 110]⟩) := HS1.out.b1.c1
        have a2 : X1.cell? ⟨w4.heap.size, 2, none⟩ = some (.slice va vn vcap) := HS1.out.b1.c2
        go_wp2_with fail
        refine (match_box HS1.out HSZ.out (xIn key va vn vcap vs) HS1.out.r1 q HOI.out).mono ?_
        rintro e X2 ⟨rfl, hb2⟩
        have HS2 := hide (HS1.out.kept hb2)
        clear a0 a1 a2 hb2 HS1
        have a0 : X2.cell? ⟨w4.heap.size + 1, 0, none⟩ = some (.string key) := HS2.out.b2.c0
        have a1 : X2.cell? ⟨w4.heap.size + 1, 1, none⟩ = some (.string ⟨#[78, 111, 116, 73, 110]⟩) := HS2.out.b2.c1
        have a2 : X2.cell? ⟨w4.heap.size + 1, 2, none⟩ = some (.slice va vn vcap) := HS2.out.b2.c2
        go_wp2_with fail
        refine (match_box HS2.out HSZ.out (xNot key va vn vcap vs) HS2.out.r2 (!q) HON.out).mono ?_
        rintro e X3 ⟨rfl, hb3⟩
        have HS3 := hide (HS2.out.kept hb3)
        clear a0 a1 a2 hb3 HS2
        have a0 : X3.cell? ⟨w4.heap.size + 1 + 1, 0, none⟩ = some (.string key) := HS3.out.b3.c0
        have a1 : X3.cell? ⟨w4.heap.size + 1 + 1, 1, none⟩ = some (.string ⟨#[69, 120, 105, 115, 116, 115]⟩) := HS3.out.b3.c1
        have a2 : X3.cell? ⟨w4.heap.size + 1 + 1, 2, none⟩ = some (.slice none 0 0) := HS3.out.b3.c2
        go_wp2_with fail
        refine (match_box HS3.out HSZ.out (xOp key ⟨#[69, 120, 105, 115, 116, 115]⟩) HS3.out.r3 true HOH.out).mono ?_
        rintro e X4 ⟨rfl, hb4⟩
        have HS4 := hide (HS3.out.kept hb4)
        clear a0 a1 a2 hb4 HS3
        have a0 : X4.cell? ⟨w4.heap.size + 1 + 1 + 1, 0, none⟩ = some (.string key) := HS4.out.b4.c0
        have a1 : X4.cell? ⟨w4.heap.size + 1 + 1 + 1, 1, none⟩ = some (.string ⟨#[68, 111, 101, 115, 78, 111, 116, 69, 120, 105, 115, 116]⟩) := HS4.out.b4.c1
        have a2 : X4.cell? ⟨w4.heap.size + 1 + 1 + 1, 2, none⟩ = some (.slice none 0 0) := HS4.out.b4.c2
        go_wp2_with fail
        refine (match_box HS4.out HSZ.out (xOp key ⟨#[68, 111, 101, 115, 78, 111, 116, 69, 120, 105, 115, 116]⟩) HS4.out.r4 false HOF.out).mono ?_
        rintro e X5 ⟨rfl, hb5⟩
        have HS5 := hide (HS4.out.kept hb5)
        clear a0 a1 a2 hb5 HS4
        have a0 : X5.cell? ⟨w4.heap.size, 0, none⟩ = some (.string key) := HS5.out.b1.c0
        have a1 : X5.cell? ⟨w4.heap.size, 1, none⟩ = some (.string ⟨#[73, 110]⟩) := HS5.out.b1.c1
        have a2 : X5.cell? ⟨w4.heap.size, 2, none⟩ = some (.slice va vn vcap) := HS5.out.b1.c2
        go_wp2_with fail
        refine (ins_any w2.heap.size 0 n n pos rs (xIn key va vn vcap vs) X5 HN.out (by omega) hp HS5.out.hQ).mono ?_
        rintro e X6 ⟨g2, rfl, hI, hb6⟩
        have HS6 := hide (HS5.out.kept hb6)
        have HI := hide hI
        clear a0 a1 a2 hb6 HS5 hI
        go_wp2_with fail
        refine (match_ins HS6.out HSZ.out (xIn key va vn vcap vs) HS6.out.r1 HN.out (by omega) hp g2 HI.out (b0 && q) (by show (sel rs lb && holds _ (look lb key)) = _; rw [HOI.out, ← HB0.out])).mono ?_
        rintro e X7 ⟨rfl, hb7⟩
        have HS7 := hide (HS6.out.kept hb7)
        clear hb7 HS6 HI
        have a0 : X7.cell? ⟨w4.heap.size + 1 + 1, 0, none⟩ = some (.string key) := HS7.out.b3.c0
        have a1 : X7.cell? ⟨w4.heap.size + 1 + 1, 1, none⟩ = some (.string ⟨#[69, 120, 105, 115, 116, 115]⟩) := HS7.out.b3.c1
        have a2 : X7.cell? ⟨w4.heap.size + 1 + 1, 2, none⟩ = some (.slice none 0 0) := HS7.out.b3.c2
        go_wp2_with fail
        refine (ins_any w2.heap.size 0 n n pos rs (xOp key ⟨#[69, 120, 105, 115, 116, 115]⟩) X7 HN.out (by omega) hp HS7.out.hQ).mono ?_
        rintro e X8 ⟨g2, rfl, hI, hb8⟩
        have HS8 := hide (HS7.out.kept hb8)
        have HI := hide hI
        clear a0 a1 a2 hb8 HS7 hI
        go_wp2_with fail
        refine (match_ins HS8.out HSZ.out (xOp key ⟨#[69, 120, 105, 115, 116, 115]⟩) HS8.out.r3 HN.out (by omega) hp g2 HI.out b0 (by show (sel rs lb && holds _ (look lb key)) = _; rw [HOH.out, ← HB0.out]; cases b0 <;> rfl)).mono ?_
        rintro e X9 ⟨rfl, hb9⟩
        have HS9 := hide (HS8.out.kept hb9)
        clear hb9 HS8 HI
        have a0 : X9.cell? ⟨w4.heap.size + 1 + 1 + 1, 0, none⟩ = some (.string key) := HS9.out.b4.c0
        have a1 : X9.cell? ⟨w4.heap.size + 1 + 1 + 1, 1, none⟩ = some (.string ⟨#[68, 111, 101, 115, 78, 111, 116, 69, 120, 105, 115, 116]⟩) := HS9.out.b4.c1
        have a2 : X9.cell? ⟨w4.heap.size + 1 + 1 + 1, 2, none⟩ = some (.slice none 0 0) := HS9.out.b4.c2
        go_wp2_with fail
        refine (ins_any w2.heap.size 0 n n pos rs (xOp key ⟨#[68, 111, 101, 115, 78, 111, 116, 69, 120, 105, 115, 116]⟩) X9 HN.out (by omega) hp HS9.out.hQ).mono ?_
        rintro e X10 ⟨g2, rfl, hI, hb10⟩
        have HS10 := hide (HS9.out.kept hb10)
        have HI := hide hI
        clear a0 a1 a2 hb10 HS9 hI
        go_wp2_with fail
        refine (match_ins HS10.out HSZ.out (xOp key ⟨#[68, 111, 101, 115, 78, 111, 116, 69, 120, 105, 115, 116]⟩) HS10.out.r4 HN.out (by omega) hp g2 HI.out false (by show (sel rs lb && holds _ (look lb key)) = _; rw [HOF.out]; cases sel rs lb <;> rfl)).mono ?_
        rintro e X11 ⟨rfl, hb11⟩
        have HS11 := hide (HS10.out.kept hb11)
        clear hb11 HS10 HI
        have a0 : X11.cell? ⟨w4.heap.size + 1 + 1 + 1 + 1, 0, none⟩ = some (.string key) := HS11.out.b5.c0
        have a1 : X11.cell? ⟨w4.heap.size + 1 + 1 + 1 + 1, 1, none⟩ = some (.string ⟨#[105, 110]⟩) := HS11.out.b5.c1
        have a2 : X11.cell? ⟨w4.heap.size + 1 + 1 + 1 + 1, 2, none⟩ = some (.slice va vn vcap) := HS11.out.b5.c2
        go_wp2_with fail
        refine (ins_any w2.heap.size 0 n n pos rs (xBog key va vn vcap vs) X11 HN.out (by omega) hp HS11.out.hQ).mono ?_
        rintro e X12 ⟨g2, rfl, hI, hb12⟩
        have HS12 := hide (HS11.out.kept hb12)
        have HI := hide hI
        clear a0 a1 a2 hb12 HS11 hI
        go_wp2_with fail
        refine (match_ins HS12.out HSZ.out (xBog key va vn vcap vs) HS12.out.r5 HN.out (by omega) hp g2 HI.out false (by show (sel rs lb && holds _ (look lb key)) = _; rw [HOB.out]; cases sel rs lb <;> rfl)).mono ?_
        rintro e X13 ⟨rfl, hb13⟩
        have HS13 := hide (HS12.out.kept hb13)
        clear hb13 HS12 HI
        cases b0 <;> cases q <;>
        · go_wp2_with fail
          refine (has_any va vn vcap vs v X13 hvn hV1 HS13.out.r1.strs).mono ?_
          rintro e X ⟨rfl, rfl⟩
          rw [← HQ.out]
          go_wp2
          go_ret
          exact ⟨rfl, HS13.out.hB⟩
end Go.Proofs.Qxb6628341aDoor
