import Derived.Test.Qxb6628341aDoorSmall
import Derived.Maps.Own
import Derived.Maps.OwnSet
import Derived.Maps.StringElems
import Derived.Maps.Views
import Derived.BigRegion
import Derived.StringKeys
namespace Go.Proofs.Qxb6628341aDoor
open Go.ChangeShapes Go.WideShapes Go.ChangeAt Go.RowKit Go.Maps Go.WideMaps

theorem law9 : Keyed Tryd.prog 9 := string_keyed Tryd.underlying9
theorem zero9 (w : World) : (zeroValue 9).run Tryd.prog w = .ok (.string ⟨#[]⟩) w := by kernel_rfl
/-- A string as a key of a datum. -/
def kl (k : ByteArray) : Lit := .string k.data.toList
theorem kl_ne {a b : ByteArray} (h : a ≠ b) : kl a ≠ kl b := fun e => h (bytes_inj (by simpa [kl] using e))

/-- Block m of w is a map that says what the labels say. -/
def MapIs (w : World) (m n : Nat) (lb : List (ByteArray × ByteArray)) : Prop := ∃ D : DataW Unit, w.ownsMap Tryd.prog 9 (plainElem Tryd.prog 9) m n D ∧ IsMap D ∧
  ∀ k, Maps.has D (kl k) = lookB lb k ∧ D.atKey (kl k) (.lit (.string [])) = .lit (kl (lookV lb k))
theorem MapIs.lt {w : World} {m n : Nat} {lb : List (ByteArray × ByteArray)} (h : MapIs w m n lb) : m < w.heap.size := by
  obtain ⟨D, h1, _⟩ := h
  exact h1.lt
theorem MapIs.keptBlock {w w' : World} {m n : Nat} {lb : List (ByteArray × ByteArray)} (h : MapIs w m n lb) (he : w'.heap[m]? = w.heap[m]?) : MapIs w' m n lb := by
  obtain ⟨D, ⟨es, clock, hb, F, hle, hD⟩, h2⟩ := h
  exact ⟨D, ⟨es, clock, he.trans hb, F, hle, hD⟩, h2⟩
theorem MapIs.kept {w w' : World} {m n : Nat} {lb : List (ByteArray × ByteArray)} (h : MapIs w m n lb) (hb : Below w.heap.size w w') : MapIs w' m n lb := h.keptBlock (hb.block m h.lt)
theorem MapIs.alloc {w : World} {m n : Nat} {lb : List (ByteArray × ByteArray)} (h : MapIs w m n lb) (o : Obj) : MapIs (w.alloc o) m n lb := by
  obtain ⟨D, h1, h2⟩ := h
  exact ⟨D, h1.alloc o, h2⟩
theorem mapIs_made (w : World) : MapIs (w.alloc (.map #[] 0)) w.heap.size 0 [] := ⟨.map [], World.ownsMap_made _ _ _ _, isMap_empty, fun _ => ⟨rfl, rfl⟩⟩
theorem MapIs.look {w : World} {m n : Nat} {lb : List (ByteArray × ByteArray)} (h : MapIs w m n lb) (k : ByteArray) (hk : k.size ≤ maxLen) :
    (Instr.lookup 27 (.map (some m)) (.string k) true).run Tryd.prog w = .ok (.tuple #[.string (lookV lb k), .bool (lookB lb k)]) w := by
  obtain ⟨D, h1, _, h2⟩ := h
  obtain ⟨v, ps, hrun, hv⟩ := h1.look_ok law9 Tryd.underlying27 (zero9 w) (plainElem_string Tryd.underlying9 (s := ⟨#[]⟩) (by decide)) (keyOf_string_mk Tryd.underlying9 hk)
  obtain ⟨val, rfl, hz, _⟩ := plainElem_string_inv Tryd.underlying9 hv
  have e1 : D.atKey (kl k) (.lit (.string [])) = .lit (.string val.data.toList) := congrArg Prod.fst hz
  rw [(h2 k).2] at e1
  have e2 : lookV lb k = val := bytes_inj (by simpa [kl] using e1)
  have e3 : Maps.has D (.string k.data.toList) = lookB lb k := (h2 k).1
  rw [hrun, e2, e3]
theorem MapIs.put {w : World} {m n : Nat} {lb : List (ByteArray × ByteArray)} (h : MapIs w m n lb) (k v : ByteArray) (hn : n < maxLen) (hk : k.size ≤ maxLen) (hv : v.size ≤ maxLen) :
    ∃ w', (Instr.mapUpdate 27 (.map (some m)) (.string k) (.string v)).run Tryd.prog w = .ok () w' ∧ MapIs w' m (n + 1) (lb ++ [(k, v)]) ∧ w.grownBy w' (some m) := by
  obtain ⟨D, h1, h2, h3⟩ := h
  obtain ⟨w', hrun, ho, hg⟩ := h1.update law9 Tryd.underlying27 hn (keyOf_string_mk Tryd.underlying9 hk) (plainElem_string Tryd.underlying9 hv)
  refine ⟨w', hrun, ⟨_, ho, h2.put _ _, fun x => ?_⟩, hg⟩
  unfold lookB lookV
  rw [look_snoc]
  by_cases e : k = x
  · subst e
    rw [(eqS_iff k k).2 rfl]
    have q : WideAt.IsKeyLit (kl k) := trivial
    exact ⟨has_put_same h2 q _, atKey_put_same h2 q _ _⟩
  · have : eqS k x = false := by
      cases hq : eqS k x
      · rfl
      · exact absurd ((eqS_iff k x).1 hq) e
    simp only [this]
    exact ⟨(has_put_other (kl_ne (fun q => e q.symm)) _).trans (h3 x).1, (atKey_put_other (kl_ne (fun q => e q.symm)) _ _).trans (h3 x).2⟩

theorem lbAt_take (lb : List (ByteArray × ByteArray)) (i : Nat) (h : i < lb.length) : lb.take (i + 1) = lb.take i ++ [((lbAt lb i).1, (lbAt lb i).2)] := by
  have e : lbAt lb i = lb[i] := by simp [lbAt, List.getD_eq_getElem?_getD, h]
  rw [List.take_succ_eq_append_getElem h, e]
theorem MapIs.drew {w : World} {m n : Nat} {lb : List (ByteArray × ByteArray)} (h : MapIs w m n lb) : MapIs w.drew m n lb := h

theorem make27 (n : Nat) (w : World) : (Instr.makeMap 27 (some (.int .i64 n))).run Tryd.prog w = .ok (.map (some w.heap.size)) (w.alloc (.map #[] 0)) := by
  simp [Instr.makeMap, asInt, asIntOf, Result.andThen]
set_option maxRecDepth 100000 in
theorem set_none (ad : Option Addr) (cap : Nat) (w : World) :
    Calls Tryd.prog 7 #[.slice ad 0 cap] w fun e w' => e = .returned (.map (some w.heap.size)) ∧ MapIs w' w.heap.size 0 [] ∧ Below w.heap.size w w' := by
  have hmm : (Instr.makeMap 27 (some (.int .i64 0))).run Tryd.prog w = .ok (.map (some w.heap.size)) (w.alloc (.map #[] 0)) := make27 0 w
  go_enter Tryd.func7, Tryd.ntmps7
  go_wp2
  refine wp_loop_rounds 1 ?_
  rw [rounds_succ]; go_wp2
  go_ret
  exact ⟨rfl, mapIs_made w, (Below.refl _ _).alloc (Nat.le_refl _) _⟩
set_option maxRecDepth 100000 in
set_option maxHeartbeats 400000 in
theorem set_some (b off n cap : Nat) (lb : List (ByteArray × ByteArray)) (w : World) (hn : lb.length = n) (hn2 : n ≤ 1048576) (hbw : b < w.heap.size)
    (hs : ∀ j, j < n → (lbAt lb j).1.size ≤ 1048576 ∧ (lbAt lb j).2.size ≤ 1048576)
    (hc : ∀ j, j < n → w.cell? ⟨b, off + j * 2, none⟩ = some (.string (lbAt lb j).1) ∧ w.cell? ⟨b, off + j * 2 + 1, none⟩ = some (.string (lbAt lb j).2)) :
    Calls Tryd.prog 7 #[.slice (some ⟨b, off, none⟩) n cap] w fun e w' => e = .returned (.map (some w.heap.size)) ∧ MapIs w' w.heap.size n lb ∧ Below w.heap.size w w' := by
  have HN := hide hn
  have HC := hide hc
  have HS := hide hs
  clear hn hc hs
  have hmm := make27 n w
  go_enter Tryd.func7, Tryd.ntmps7
  go_wp2
  go_loopw [4] (fun a4 wr => ∃ k : Nat, k ≤ n ∧ a4 = .int .i64 k ∧ MapIs wr w.heap.size k (lb.take k) ∧ Below w.heap.size w wr) (fun a4 _ => n - (intOf a4).toNat)
  case atStart => exact ⟨0, by omega, rfl, mapIs_made w, (Below.refl _ _).alloc (Nat.le_refl _) _⟩
  case round =>
    obtain ⟨k, hk, rfl, hM, hB⟩ := hrel
    by_cases hlt : k < n
    · have c0 := (hB.cell (p := ⟨b, off + k * 2, none⟩) hbw).trans (HC.out k hlt).1
      have c1 := (hB.cell (p := ⟨b, off + k * 2 + 1, none⟩) hbw).trans (HC.out k hlt).2
      obtain ⟨w2, hrun, hM2, hg⟩ := hM.drew.put (lbAt lb k).1 (lbAt lb k).2 (by unfold maxLen; omega) (by have := (HS.out k hlt).1; unfold maxLen; omega) (by have := (HS.out k hlt).2; unfold maxLen; omega)
      rw [← lbAt_take lb k (by rw [HN.out]; exact hlt)] at hM2
      have hB2 : Below w.heap.size w w2 := (below_drewN hB 1).grown hg hB.size (fun j hj => by cases hj; exact Nat.le_refl _)
      go_wp2
      go_region
      all_goals go_wp2
      all_goals go_roundw
      case rel => exact ⟨k + 1, by omega, by go_num, hM2, hB2⟩
      case measure => simp [intOf]; omega
    · have e : lb.take k = lb := List.take_of_length_le (by rw [HN.out]; omega)
      have ek : k = n := by omega
      rw [e, ek] at hM
      go_wp2
      go_ret
      exact ⟨rfl, hM, hB⟩
theorem set_any (ad : Option Addr) (n cap : Nat) (lb : List (ByteArray × ByteArray)) (w : World) (hn : lb.length = n) (hn2 : n ≤ 1048576) (h : LbsIn w ad lb)
    (hs : ∀ j, j < n → (lbAt lb j).1.size ≤ 1048576 ∧ (lbAt lb j).2.size ≤ 1048576) :
    Calls Tryd.prog 7 #[.slice ad n cap] w fun e w' => e = .returned (.map (some w.heap.size)) ∧ MapIs w' w.heap.size n lb ∧ Below w.heap.size w w' := by
  by_cases h0 : 0 < n
  · obtain ⟨b, off, rfl, hlt, hc⟩ := h (by omega)
    exact set_some b off n cap lb w hn hn2 hlt hs (fun j hj => hc j (by omega))
  · have e : n = 0 := by omega
    subst e
    have e2 : lb = [] := List.length_eq_zero_iff.1 hn
    subst e2
    exact set_none ad cap w
end Go.Proofs.Qxb6628341aDoor
