namespace Go.Proofs.Qxb6628398a.Pl
set_option autoImplicit false

abbrev Item := Option (Int → Bool)

/-- Does the range from a to y, either way round, hold c? -/
def inRange (a y c : Int) : Bool := decide (min a y ≤ c) && decide (c ≤ max a y)

/-- What the inside of a bracket says of byte c, from here on; k: bytes to be skipped first; m: what was found so far. -/
def clsHas (c : Int) : List Int → Nat → Bool → Bool
  | [], _, m => m
  | _ :: r, k + 1, m => clsHas c r k m
  | a :: r, 0, m =>
    if a = 93 then m
    else if a = 92 ∧ 1 ≤ r.length then clsHas c r 1 (m || r.getD 0 0 == c)
    else if 2 ≤ r.length ∧ r.getD 0 0 = 45 then clsHas c r 2 (m || inRange a (r.getD 1 0) c)
    else clsHas c r 0 (m || a == c)

/-- What stands behind the bracket. -/
def clsRest : List Int → Nat → List Int
  | [], _ => []
  | _ :: r, k + 1 => clsRest r k
  | a :: r, 0 =>
    if a = 93 then r
    else if a = 92 ∧ 1 ≤ r.length then clsRest r 1
    else if 2 ≤ r.length ∧ r.getD 0 0 = 45 then clsRest r 2
    else clsRest r 0

/-- The item at the head of 'b :: r', b no star: what bytes it takes. -/
def itemOk (b : Int) (r : List Int) (c : Int) : Bool :=
  if b = 63 then true
  else if b = 92 then (if 1 ≤ r.length then r.getD 0 0 == c else 92 == c)
  else if b = 91 then (if 1 ≤ r.length ∧ r.getD 0 0 = 94 then !(clsHas c (r.drop 1) 0 false) else clsHas c r 0 false)
  else b == c

/-- What stands behind the item at the head of 'b :: r'. -/
def itemRest (b : Int) (r : List Int) : List Int :=
  if b = 92 then r.drop 1
  else if b = 91 then (if 1 ≤ r.length ∧ r.getD 0 0 = 94 then clsRest (r.drop 1) 0 else clsRest r 0)
  else r

/-- The pattern's items. k: bytes to be skipped first. -/
def parse : List Int → Nat → List Item
  | [], _ => []
  | _ :: r, k + 1 => parse r k
  | b :: r, 0 => (if b = 42 then none else some (itemOk b r)) :: parse r (r.length - (itemRest b r).length)

/-- Does p hold of t or of one of its ends? -/
def anyEnd (p : List Int → Bool) : List Int → Bool
  | [] => p []
  | c :: t => p (c :: t) || anyEnd p t

/-- Do the items match the text? -/
def mt : List Item → List Int → Bool
  | [], t => t.isEmpty
  | none :: is, t => anyEnd (mt is) t
  | some _ :: _, [] => false
  | some f :: is, c :: t => f c && mt is t

def glob (z t : List Int) : Bool := mt (parse z 0) t

theorem clsHas_skip (c : Int) : ∀ (l : List Int) (k : Nat) (m : Bool), clsHas c l k m = clsHas c (l.drop k) 0 m
  | [], k, m => by simp [clsHas]
  | a :: r, 0, m => by simp
  | a :: r, k + 1, m => by rw [clsHas, clsHas_skip c r k m]; simp
theorem clsRest_skip : ∀ (l : List Int) (k : Nat), clsRest l k = clsRest (l.drop k) 0
  | [], k => by simp [clsRest]
  | a :: r, 0 => by simp
  | a :: r, k + 1 => by rw [clsRest, clsRest_skip r k]; simp
theorem parse_skip : ∀ (l : List Int) (k : Nat), parse l k = parse (l.drop k) 0
  | [], k => by simp [parse]
  | a :: r, 0 => by simp
  | a :: r, k + 1 => by rw [parse, parse_skip r k]; simp

theorem clsRest_suffix : ∀ (l : List Int) (k : Nat), clsRest l k <:+ l
  | [], k => by simp [clsRest]
  | a :: r, k + 1 => by rw [clsRest]; exact (clsRest_suffix r k).trans (List.suffix_cons a r)
  | a :: r, 0 => by
    rw [clsRest]
    have := fun k => (clsRest_suffix r k).trans (List.suffix_cons a r)
    repeat' split
    · exact List.suffix_cons a r
    all_goals exact this _
theorem itemRest_suffix (b : Int) (r : List Int) : itemRest b r <:+ r := by
  unfold itemRest
  repeat' split
  · exact List.drop_suffix _ _
  · exact (clsRest_suffix _ _).trans (List.drop_suffix _ _)
  · exact clsRest_suffix _ _
  · exact List.suffix_refl _

theorem drop_of_suffix {l r : List Int} (h : l <:+ r) : r.drop (r.length - l.length) = l := by
  obtain ⟨t, rfl⟩ := h; simp

theorem parse_cons (b : Int) (r : List Int) : parse (b :: r) 0 = (if b = 42 then none else some (itemOk b r)) :: parse (itemRest b r) 0 := by
  rw [parse, parse_skip, drop_of_suffix (itemRest_suffix b r)]

theorem anyEnd_true {p : List Int → Bool} : ∀ {t : List Int}, anyEnd p t = true ↔ ∃ j, j ≤ t.length ∧ p (t.drop j) = true
  | [] => by simp [anyEnd]
  | c :: t => by
    rw [anyEnd, Bool.or_eq_true, anyEnd_true (t := t)]
    constructor
    · rintro (h | ⟨j, hj, h⟩)
      · exact ⟨0, by simp, by simpa using h⟩
      · exact ⟨j + 1, by simpa using hj, by simpa using h⟩
    · rintro ⟨j, hj, h⟩
      cases j with
      | zero => left; simpa using h
      | succ j => right; exact ⟨j, by simpa using hj, by simpa using h⟩


/-- The byte at place p (0 behind the end). -/
def bt (z : List Int) (p : Nat) : Int := z.getD p 0

theorem drop_cons (z : List Int) (p : Nat) (h : p < z.length) : z.drop p = bt z p :: z.drop (p + 1) := by
  rw [List.drop_eq_getElem_cons h]; simp [bt, h]
theorem bt_drop (z : List Int) (p k : Nat) : (z.drop p).getD k 0 = bt z (p + k) := by
  simp [bt, List.getD]

/-! ### the inside of a bracket, by places -/
theorem cls_end (c : Int) (z : List Int) (p : Nat) (m : Bool) (h : z.length ≤ p) : clsHas c (z.drop p) 0 m = m ∧ clsRest (z.drop p) 0 = [] := by
  rw [List.drop_eq_nil_of_le h]; exact ⟨rfl, rfl⟩
theorem cls_close (c : Int) (z : List Int) (p : Nat) (m : Bool) (h : p < z.length) (hb : bt z p = 93) : clsHas c (z.drop p) 0 m = m ∧ clsRest (z.drop p) 0 = z.drop (p + 1) := by
  rw [drop_cons z p h]; simp [clsHas, clsRest, hb]
theorem cls_esc (c : Int) (z : List Int) (p : Nat) (m : Bool) (h : p + 1 < z.length) (hb : bt z p = 92) :
    clsHas c (z.drop p) 0 m = clsHas c (z.drop (p + 2)) 0 (m || bt z (p + 1) == c) ∧ clsRest (z.drop p) 0 = clsRest (z.drop (p + 2)) 0 := by
  rw [drop_cons z p (by omega)]
  have h1 : 1 ≤ (z.drop (p + 1)).length := by simp; omega
  have e : (z.drop (p + 1)).drop 1 = z.drop (p + 2) := by simp
  have n3 : ¬ bt z p = 93 := by omega
  rw [clsHas, clsRest, if_neg n3, if_neg n3, if_pos ⟨hb, h1⟩, if_pos ⟨hb, h1⟩, clsHas_skip, clsRest_skip, e, bt_drop]
  exact ⟨rfl, rfl⟩
theorem cls_range (c : Int) (z : List Int) (p : Nat) (m : Bool) (h : p + 2 < z.length) (hb : bt z p ≠ 93) (hb2 : bt z p ≠ 92) (hd : bt z (p + 1) = 45) :
    clsHas c (z.drop p) 0 m = clsHas c (z.drop (p + 3)) 0 (m || inRange (bt z p) (bt z (p + 2)) c) ∧ clsRest (z.drop p) 0 = clsRest (z.drop (p + 3)) 0 := by
  rw [drop_cons z p (by omega)]
  have h1 : 2 ≤ (z.drop (p + 1)).length ∧ (z.drop (p + 1)).getD 0 0 = 45 := by rw [bt_drop]; exact ⟨by simp; omega, hd⟩
  have e : (z.drop (p + 1)).drop 2 = z.drop (p + 3) := by simp
  have n2 : ¬ (bt z p = 92 ∧ 1 ≤ (z.drop (p + 1)).length) := fun h => hb2 h.1
  rw [clsHas, clsRest, if_neg hb, if_neg hb, if_neg n2, if_neg n2, if_pos h1, if_pos h1, clsHas_skip, clsRest_skip, e, bt_drop]
  exact ⟨rfl, rfl⟩
theorem cls_one (c : Int) (z : List Int) (p : Nat) (m : Bool) (h : p < z.length) (hb : bt z p ≠ 93) (hb2 : ¬ (bt z p = 92 ∧ p + 1 < z.length)) (hd : ¬ (p + 2 < z.length ∧ bt z (p + 1) = 45)) :
    clsHas c (z.drop p) 0 m = clsHas c (z.drop (p + 1)) 0 (m || bt z p == c) ∧ clsRest (z.drop p) 0 = clsRest (z.drop (p + 1)) 0 := by
  rw [drop_cons z p (by omega)]
  have h0 : ¬ (bt z p = 92 ∧ 1 ≤ (z.drop (p + 1)).length) := by simp; intro a; omega
  have h1 : ¬ (2 ≤ (z.drop (p + 1)).length ∧ (z.drop (p + 1)).getD 0 0 = 45) := by
    rw [bt_drop]; rintro ⟨a, b⟩; simp at a; exact hd ⟨by omega, b⟩
  rw [clsHas, clsRest, if_neg hb, if_neg hb, if_neg h0, if_neg h0, if_neg h1, if_neg h1]
  exact ⟨rfl, rfl⟩

/-! ### the match from places p, i on -/
def G (z t : List Int) (p i : Nat) : Bool := mt (parse (z.drop p) 0) (t.drop i)

/-- Where the item behind the one at p starts. -/
def nextOf (z : List Int) (p : Nat) : Nat := z.length - (itemRest (bt z p) (z.drop (p + 1))).length

theorem drop_next (z : List Int) (p : Nat) : z.drop (nextOf z p) = itemRest (bt z p) (z.drop (p + 1)) := by
  unfold nextOf
  exact drop_of_suffix ((itemRest_suffix _ _).trans (List.drop_suffix _ _))
theorem next_le (z : List Int) (p : Nat) : nextOf z p ≤ z.length := by unfold nextOf; omega
theorem next_gt (z : List Int) (p : Nat) (h : p < z.length) : p < nextOf z p := by
  have := (itemRest_suffix (bt z p) (z.drop (p + 1))).length_le
  unfold nextOf; simp at this; omega

theorem G_end (z t : List Int) (p i : Nat) (h : z.length ≤ p) : G z t p i = decide (t.length ≤ i) := by
  unfold G; rw [List.drop_eq_nil_of_le h]; simp [parse, mt]
  rw [Bool.eq_iff_iff]; simp [List.isEmpty_iff, ← List.length_eq_zero_iff]; omega
theorem G_star (z t : List Int) (p i : Nat) (h : p < z.length) (hb : bt z p = 42) (hi : i ≤ t.length) :
    G z t p i = true ↔ ∃ j, i ≤ j ∧ j ≤ t.length ∧ G z t (p + 1) j = true := by
  unfold G
  have hr : itemRest 42 (z.drop (p + 1)) = z.drop (p + 1) := by simp [itemRest]
  rw [drop_cons z p h, parse_cons, if_pos hb, mt, anyEnd_true, hb, hr]
  constructor
  · rintro ⟨j, hj, hm⟩; refine ⟨i + j, by omega, by simp at hj; omega, ?_⟩; simpa [List.drop_drop] using hm
  · rintro ⟨j, h1, h2, hm⟩; refine ⟨j - i, by simp; omega, ?_⟩; rw [List.drop_drop, show i + (j - i) = j by omega]; exact hm
theorem G_item (z t : List Int) (p i : Nat) (h : p < z.length) (hb : bt z p ≠ 42) (hi : i < t.length) :
    G z t p i = (itemOk (bt z p) (z.drop (p + 1)) (bt t i) && G z t (nextOf z p) (i + 1)) := by
  unfold G
  rw [drop_next, drop_cons z p h, parse_cons, if_neg hb, drop_cons t i hi, mt]
theorem G_item_end (z t : List Int) (p i : Nat) (h : p < z.length) (hb : bt z p ≠ 42) (hi : t.length ≤ i) : G z t p i = false := by
  unfold G
  rw [drop_cons z p h, parse_cons, if_neg hb, List.drop_eq_nil_of_le hi, mt]
theorem G_stars (z t : List Int) (p k i : Nat) (hpk : p < k) (hk : k ≤ z.length) (hb : ∀ x, p ≤ x → x < k → bt z x = 42) (hi : i ≤ t.length) :
    G z t p i = true ↔ ∃ j, i ≤ j ∧ j ≤ t.length ∧ G z t k j = true := by
  induction k with
  | zero => omega
  | succ k ih =>
    by_cases e : p = k
    · subst e; exact G_star z t p i (by omega) (hb p (by omega) (by omega)) hi
    · rw [ih (by omega) (by omega) (fun x h1 h2 => hb x h1 (by omega))]
      constructor
      · rintro ⟨j, h1, h2, h3⟩
        obtain ⟨j', g1, g2, g3⟩ := (G_star z t k j (by omega) (hb k (by omega) (by omega)) h2).1 h3
        exact ⟨j', by omega, g2, g3⟩
      · rintro ⟨j, h1, h2, h3⟩
        exact ⟨j, h1, h2, (G_star z t k j (by omega) (hb k (by omega) (by omega)) h2).2 ⟨j, by omega, h2, h3⟩⟩

/-- What holds at the head of each round of MatchGlob's loop: no star was met so far. -/
def Inv0 (z t : List Int) (p i : Nat) : Prop := p ≤ z.length ∧ i ≤ t.length ∧ glob z t = G z t p i
/-- A star was met: the pattern goes on at st, tried from fr on. -/
def Inv1 (z t : List Int) (p i st fr : Nat) : Prop :=
  p ≤ z.length ∧ i ≤ t.length ∧ st ≤ p ∧ fr ≤ i ∧ (glob z t = true ↔ ∃ j, fr ≤ j ∧ j ≤ t.length ∧ G z t st j = true) ∧
  (∀ j, fr ≤ j → j ≤ t.length → G z t st j = true → j + (i - fr) ≤ t.length ∧ G z t p (j + (i - fr)) = true) ∧ (G z t p i = true → G z t st fr = true)

theorem inv0_start (z t : List Int) : Inv0 z t 0 0 := ⟨by omega, by omega, by simp [glob, G]⟩
theorem inv0_star {z t : List Int} {p i k : Nat} (h : Inv0 z t p i) (hpk : p < k) (hk : k ≤ z.length) (hb : ∀ x, p ≤ x → x < k → bt z x = 42) : Inv1 z t k i k i := by
  obtain ⟨h1, h2, h3⟩ := h
  refine ⟨hk, h2, Nat.le_refl _, Nat.le_refl _, ?_, ?_, fun h => h⟩
  · rw [h3]; exact G_stars z t p k i hpk hk hb h2
  · intro j g1 g2 g3; simp; exact ⟨g2, g3⟩
theorem inv1_star {z t : List Int} {p i st fr k : Nat} (h : Inv1 z t p i st fr) (hpk : p < k) (hk : k ≤ z.length) (hb : ∀ x, p ≤ x → x < k → bt z x = 42) : Inv1 z t k i k i := by
  obtain ⟨h1, h2, h3, h4, h5, h6, h7⟩ := h
  refine ⟨hk, h2, Nat.le_refl _, Nat.le_refl _, ?_, ?_, fun h => h⟩
  · rw [h5]
    constructor
    · rintro ⟨j, g1, g2, g3⟩
      obtain ⟨f1, f2⟩ := h6 j g1 g2 g3
      obtain ⟨j', e1, e2, e3⟩ := (G_stars z t p k _ hpk hk hb f1).1 f2
      exact ⟨j', by omega, e2, e3⟩
    · intro g
      exact ⟨fr, Nat.le_refl _, by omega, h7 ((G_stars z t p k i hpk hk hb h2).2 g)⟩
  · intro j g1 g2 g3; simp; exact ⟨g2, g3⟩
/-- A star at the very end takes all. -/
theorem inv1_all {z t : List Int} {i : Nat} (h : Inv1 z t z.length i z.length i) : glob z t = true := by
  obtain ⟨_, h2, _, _, h5, _, _⟩ := h
  exact h5.2 ⟨t.length, h2, Nat.le_refl _, by rw [G_end _ _ _ _ (Nat.le_refl _)]; simp⟩
theorem inv0_out {z t : List Int} {p : Nat} (h : Inv0 z t p t.length) (hb : p < z.length → bt z p ≠ 42) : glob z t = decide (p = z.length) := by
  obtain ⟨h1, h2, h3⟩ := h
  rw [h3]
  by_cases e : p = z.length
  · subst e; rw [G_end _ _ _ _ (Nat.le_refl _)]; simp
  · rw [G_item_end z t p _ (by omega) (hb (by omega)) (Nat.le_refl _)]; simp [e]
theorem inv1_out {z t : List Int} {p st fr : Nat} (h : Inv1 z t p t.length st fr) (hb : p < z.length → bt z p ≠ 42) : glob z t = decide (p = z.length) := by
  obtain ⟨h1, h2, h3, h4, h5, h6, h7⟩ := h
  by_cases e : p = z.length
  · subst e
    have := h7 (by rw [G_end _ _ _ _ (Nat.le_refl _)]; simp)
    simp; exact h5.2 ⟨fr, Nat.le_refl _, h4, this⟩
  · simp only [e, decide_false]
    cases hg : glob z t with
    | false => rfl
    | true =>
      obtain ⟨j, g1, g2, g3⟩ := h5.1 hg
      obtain ⟨f1, f2⟩ := h6 j g1 g2 g3
      rw [show j + (t.length - fr) = t.length by omega, G_item_end z t p _ (by omega) (hb (by omega)) (Nat.le_refl _)] at f2
      cases f2
theorem inv0_step {z t : List Int} {p i : Nat} (h : Inv0 z t p i) (hp : p < z.length) (hb : bt z p ≠ 42) (hi : i < t.length) (hok : itemOk (bt z p) (z.drop (p + 1)) (bt t i) = true) :
    Inv0 z t (nextOf z p) (i + 1) := by
  obtain ⟨h1, h2, h3⟩ := h
  exact ⟨next_le z p, hi, by rw [h3, G_item z t p i hp hb hi, hok, Bool.true_and]⟩
theorem inv1_step {z t : List Int} {p i st fr : Nat} (h : Inv1 z t p i st fr) (hp : p < z.length) (hb : bt z p ≠ 42) (hi : i < t.length) (hok : itemOk (bt z p) (z.drop (p + 1)) (bt t i) = true) :
    Inv1 z t (nextOf z p) (i + 1) st fr := by
  obtain ⟨h1, h2, h3, h4, h5, h6, h7⟩ := h
  have := next_gt z p hp
  refine ⟨next_le z p, hi, by omega, by omega, h5, ?_, ?_⟩
  · intro j g1 g2 g3
    obtain ⟨f1, f2⟩ := h6 j g1 g2 g3
    by_cases e : j + (i - fr) < t.length
    · rw [G_item z t p _ hp hb e, Bool.and_eq_true] at f2
      rw [show j + (i + 1 - fr) = j + (i - fr) + 1 by omega]
      exact ⟨e, f2.2⟩
    · rw [G_item_end z t p _ hp hb (by omega)] at f2; cases f2
  · intro g; apply h7; rw [G_item z t p i hp hb hi, hok, g]; rfl
/-- No item, or one that does not take the byte. -/
theorem G_miss {z t : List Int} {p i : Nat} (hi : i < t.length) (hp : p ≤ z.length) (hmiss : p < z.length → bt z p ≠ 42 ∧ itemOk (bt z p) (z.drop (p + 1)) (bt t i) = false) : G z t p i = false := by
  by_cases e : p < z.length
  · rw [G_item z t p i e (hmiss e).1 hi, (hmiss e).2, Bool.false_and]
  · rw [G_end _ _ _ _ (by omega)]; simp; omega
theorem inv0_miss {z t : List Int} {p i : Nat} (h : Inv0 z t p i) (hi : i < t.length) (hmiss : p < z.length → bt z p ≠ 42 ∧ itemOk (bt z p) (z.drop (p + 1)) (bt t i) = false) : glob z t = false := by
  obtain ⟨h1, h2, h3⟩ := h
  rw [h3, G_miss hi h1 hmiss]
theorem inv1_miss {z t : List Int} {p i st fr : Nat} (h : Inv1 z t p i st fr) (hi : i < t.length) (hmiss : p < z.length → bt z p ≠ 42 ∧ itemOk (bt z p) (z.drop (p + 1)) (bt t i) = false) :
    Inv1 z t st (fr + 1) st (fr + 1) := by
  obtain ⟨h1, h2, h3, h4, h5, h6, h7⟩ := h
  have hm := G_miss hi h1 hmiss
  refine ⟨by omega, by omega, Nat.le_refl _, Nat.le_refl _, ?_, ?_, fun h => h⟩
  · rw [h5]
    constructor
    · rintro ⟨j, g1, g2, g3⟩
      by_cases e : j = fr
      · subst e
        obtain ⟨f1, f2⟩ := h6 j g1 g2 g3
        rw [show j + (i - j) = i by omega, hm] at f2; cases f2
      · exact ⟨j, by omega, g2, g3⟩
    · rintro ⟨j, g1, g2, g3⟩; exact ⟨j, by omega, g2, g3⟩
  · intro j g1 g2 g3; simp; exact ⟨g2, g3⟩

end Go.Proofs.Qxb6628398a.Pl
