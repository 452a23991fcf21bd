import Derived.Test.Qxb6628398aEsc
namespace Go.Proofs.Qxb6628398a
open Go.ChangeShapes Go.WideShapes Go.ChangeAt Go.RowKit
open Pl

/-! ### THE PLAIN LAW: an escaped text is read literally -/
theorem escL_cons (c : Int) (t : List Int) : escL (c :: t) = 92 :: c :: escL t := by simp [escL]
theorem parse_esc (t u : List Int) : parse (escL t ++ u) 0 = t.map (fun c => some (fun x => c == x)) ++ parse u 0 := by
  induction t with
  | nil => rfl
  | cons c t ih =>
    rw [escL_cons, List.cons_append, List.cons_append, parse_cons, if_neg (by omega)]
    have e1 : itemRest 92 (c :: (escL t ++ u)) = escL t ++ u := by simp [itemRest]
    have e2 : itemOk 92 (c :: (escL t ++ u)) = fun x => c == x := by funext x; simp [itemOk]
    rw [e1, e2, ih]; rfl
theorem mt_lits (t s : List Int) (is : List Pl.Item) : Pl.mt (t.map (fun c => some (fun x => c == x)) ++ is) s = true ↔ t <+: s ∧ Pl.mt is (s.drop t.length) = true := by
  induction t generalizing s with
  | nil => simp
  | cons c t ih =>
    cases s with
    | nil => simp [Pl.mt]
    | cons x s =>
      rw [List.map_cons, List.cons_append, Pl.mt, Bool.and_eq_true, ih, List.cons_prefix_cons, List.length_cons, List.drop_succ_cons]
      simp [and_assoc]
theorem glob_lit (t s : List Int) : glob (escL t) s = true ↔ t = s := by
  unfold glob
  have := parse_esc t []
  rw [List.append_nil, show parse [] 0 = [] from rfl] at this
  rw [this, mt_lits, Pl.mt, List.isEmpty_iff]
  constructor
  · rintro ⟨⟨u, rfl⟩, h⟩
    simp at h; subst h; simp
  · rintro rfl; simp
theorem mt_star (s : List Int) : Pl.mt [none] s = true := by
  rw [Pl.mt, anyEnd_true]; exact ⟨s.length, Nat.le_refl _, by simp [Pl.mt]⟩
theorem parse_star (l : List Int) : parse (42 :: l) 0 = none :: parse l 0 := by
  rw [parse_cons, if_pos rfl]; rfl
/-- t stands in s at place st. -/
def At (s t : List Int) (st : Nat) : Prop := st + t.length ≤ s.length ∧ ∀ k, k < t.length → bt s (st + k) = bt t k
theorem at_iff (s t : List Int) (st : Nat) (hst : st ≤ s.length) : t <+: s.drop st ↔ At s t st := by
  unfold At
  constructor
  · rintro ⟨u, hu⟩
    have hl := congrArg List.length hu
    simp at hl
    refine ⟨by omega, fun k hk => ?_⟩
    have : bt (s.drop st) k = bt t k := by rw [← hu]; simp [bt, List.getElem?_append_left hk]
    rw [← this]; exact (bt_drop s st k).symm
  · rintro ⟨h1, h2⟩
    rw [List.prefix_iff_eq_take]
    apply List.ext_getElem
    · simp; omega
    · intro i hi hi2
      have hb := h2 i hi
      simp only [bt, List.getD_eq_getElem?_getD] at hb
      rw [List.getElem?_eq_getElem hi, List.getElem?_eq_getElem (by omega)] at hb
      simp at hb
      simp [hb]
theorem glob_pre (t s : List Int) : glob (escL t ++ [42]) s = true ↔ At s t 0 := by
  unfold glob
  rw [parse_esc, parse_star, show parse [] 0 = [] from rfl, mt_lits, mt_star, ← at_iff s t 0 (by omega)]
  simp
theorem glob_mid (t s : List Int) : glob (42 :: (escL t ++ [42])) s = true ↔ ∃ st, At s t st := by
  unfold glob
  rw [parse_star, Pl.mt, anyEnd_true, parse_esc, parse_star, show parse [] 0 = [] from rfl]
  constructor
  · rintro ⟨j, hj, h⟩
    rw [mt_lits] at h
    exact ⟨j, (at_iff s t j hj).1 h.1⟩
  · rintro ⟨j, h⟩
    have hj : j ≤ s.length := by have := h.1; omega
    exact ⟨j, hj, by rw [mt_lits]; exact ⟨(at_iff s t j hj).2 h, mt_star _⟩⟩
theorem tx_inj (s t : ByteArray) : tx s = tx t ↔ s.toList = t.toList := by
  rw [ByteArray.toList_eq, ByteArray.toList_eq]
  unfold tx
  constructor
  · intro h
    apply List.map_inj_right (f := fun b : UInt8 => (b.toNat : Int)) (fun a b e => UInt8.toNat_inj.1 (Int.ofNat.inj e)) |>.1 h
  · intro h; rw [h]

/-! ### zzHasPrefix, zzContains -/
theorem byte_ne (s t : ByteArray) (i k : Nat) (hi : i < s.size) (hk : k < t.size) : ((s[i].toNat : Int) != (t[k].toNat : Int)) = !(decide (bt (tx s) i = bt (tx t) k)) := by
  rw [tx_bt s i hi, tx_bt t k hk]; rw [Bool.eq_iff_iff]; simp

set_option maxHeartbeats 1000000 in
theorem pre_any (s t : ByteArray) (r : Bool) (w : World) (hs : s.size ≤ 1024) (ht : t.size ≤ 1024) (hr : r = true ↔ At (tx s) (tx t) 0) :
    Calls Try.prog 10 #[.string s, .string t] w fun e w' => e = .returned (.bool r) ∧ ∃ q, w' = w.drewN q := by
  have HR := hide hr
  have HS := hide (tx_len s)
  have HT := hide (tx_len t)
  clear hr
  by_cases hlen : t.size ≤ s.size
  · go_enter Try.func10, Try.ntmps10
    go_wp2
    go_loopw [5] (fun a5 wr => ∃ k q : Nat, k ≤ t.size ∧ a5 = .int .i64 k ∧ wr = w.drewN q ∧ Hid (∀ x, x < k → bt (tx s) (0 + x) = bt (tx t) x)) (fun a5 _ => t.size - (intOf a5).toNat)
    case atStart => exact ⟨0, 0, by omega, rfl, rfl, fun x hx => absurd hx (by omega)⟩
    case round =>
      obtain ⟨k, q, hk, rfl, rfl, HK⟩ := hrel
      by_cases hlt : k < t.size
      · have hx : k < s.size := by omega
        have hx1 : (k : Int) < (s.size : Int) := by omega
        have hx2 : (k : Int) < (t.size : Int) := by omega
        by_cases he : bt (tx s) k = bt (tx t) k
        · have tt : ((s[k].toNat : Int) != (t[k].toNat : Int)) = false := by rw [byte_ne s t k k hx hlt]; simp [he]
          have HK2 : Hid (∀ x, x < k + 1 → bt (tx s) (0 + x) = bt (tx t) x) := fun x h => if e : x = k then by rw [e, Nat.zero_add]; exact he else HK.out x (by omega)
          clear he
          go_wp2_with fail
          go_quiet (fail)
          go_wp2
          go_roundw
          case rel => exact ⟨k + 1, _, by omega, by go_num, rfl, HK2⟩
          case measure => simp [intOf]; omega
        · have tt : ((s[k].toNat : Int) != (t[k].toNat : Int)) = true := by rw [byte_ne s t k k hx hlt]; simp [he]
          have HF : Hid (r = false) := by
            cases e : r with
            | false => exact rfl
            | true => exact absurd (by simpa using (HR.out.1 e).2 k (by rw [HT.out]; exact hlt)) he
          clear he
          go_wp2_with fail
          go_quiet (fail)
          go_wp2
          go_ret
          exact ⟨ret_bool HF.out.symm, _, World.drewN_drewN _ _ _⟩
      · have HF : Hid (r = true) := HR.out.2 ⟨by rw [HS.out, HT.out]; omega, fun x hx => HK.out x (by rw [HT.out] at hx; omega)⟩
        go_wp2
        go_ret
        exact ⟨ret_bool HF.out.symm, _, rfl⟩
  · have HF : Hid (r = false) := by
      cases e : r with
      | false => exact rfl
      | true => have := (HR.out.1 e).1; rw [HS.out, HT.out] at this; omega
    have hl2 : s.size < t.size := by omega
    go_enter Try.func10, Try.ntmps10
    go_wp2
    go_ret
    exact ⟨ret_bool HF.out.symm, 0, rfl⟩
end Go.Proofs.Qxb6628398a
