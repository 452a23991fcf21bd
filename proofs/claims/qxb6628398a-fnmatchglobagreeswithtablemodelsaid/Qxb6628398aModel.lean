import Derived.Test.Qxb6628398aBools
import Derived.Deep.RegionHeld3
import Derived.BigRegion
import Derived.Deep.DrawnRows
namespace Go.Proofs.Qxb6628398a
open Go.ChangeShapes Go.WideShapes Go.ChangeAt Go.RowKit
open Pl
attribute [local go_sem ↓] Go.wp_at_zero Go.wp_at_succ

set_option maxRecDepth 100000 in
set_option maxHeartbeats 4000000 in
theorem model_any (ad : Option Addr) (n cap : Nat) (z : List Int) (s : ByteArray) (w : World) (hs : s.size ≤ 1024) (hn : n ≤ 1048576)
    (HP : Hid (Calls Try.prog 13 #[.slice ad n cap] w fun e w' => ∃ its : List (Bool × S4), e = .returned (.slice (some ⟨w.heap.size, 0, none⟩) its.length n) ∧
      w'.ownsRow w.heap.size 34 5 (.slice (some ⟨w.heap.size, 0, none⟩) its.length n) its.length (rowsOf its) ∧ Hid (AgreeL its (parse z 0)) ∧ Below w.heap.size w w')) :
    Calls Try.prog 7 #[.slice ad n cap, .string s] w fun e w' => e = .returned (.bool (glob z (tx s))) ∧ Below w.heap.size w w' := by
  obtain ⟨i4, hi, hz0, hz1, hz2⟩ := info_parts Try.info4
  have hb1 : i4.bytes * (s.size + 1) ≤ 281474976710656 := by rw [hz2]; omega
  have HTL := hide (tx_len s)
  have tok : True := trivial
  go_enter Try.func7, Try.ntmps7
  go_wp2_with fail
  refine HP.out.mono ?_
  rintro e w1 ⟨its, rfl, hrow1, HA, b1⟩
  have hle := owns_le hrow1
  have hlt1 := owns_lt' hrow1
  go_wp2_with (first
    | (at_make; have _t := tok; refine wpList_make_full _ rfl _ _ 30 rfl w.heap.size 4 i4 (.bool false) 1 Try.underlying30 hi hz0 hz1 .i64 .i64 _ _ (s.size + 1) rfl rfl (by omega) (by omega) hb1 (by unfold maxLen; omega) (by omega) ?_; intro w2 hown2 hgrow2; clear tok)
    | (at_make; refine wpList_make_full _ rfl _ _ 30 rfl w.heap.size 4 i4 (.bool false) 1 Try.underlying30 hi hz0 hz1 .i64 .i64 _ _ (s.size + 1) rfl rfl (by omega) (by omega) hb1 (by unfold maxLen; omega) (by have := hgrow2.size; omega) ?_; intro w3 hown3 hgrow3; rw [made_bools] at hown2 hown3; have hc3 : BRow w3 w.heap.size w1.heap.size s.size (List.replicate (s.size + 1) false) := hown2.kept hgrow3 (.inr (by simp [Value.ownBlock])); have c0 := hc3.cell 0 (by omega); have f0 := hc3.fz 0))
  have hc0 := hc3.set 0 true
  have hSt0 : St w (w3.setCell ⟨w1.heap.size, 0, none⟩ (.bool true)) its n s.size w1.heap.size w2.heap.size ((List.replicate (s.size + 1) false).set 0 true) (List.replicate (s.size + 1) false) := by
    have g2 := hgrow2.size
    have g3 := hgrow3.size
    have l2 := owns_lt' hown2
    refine ⟨row_same hrow1 ?_, hc0, BRow.put hown3 _ _ (by omega), ?_, hlt1, by omega, by omega⟩
    · rw [heap_setCell_other _ _ _ _ (by simp; omega), hgrow3.block _ (by omega) (by simp), hgrow2.block _ hlt1 (by simp)]
    · exact (((b1.grown hgrow2 (by omega) (fun _ e => by cases e)).grown hgrow3 (by omega) (fun _ e => by cases e))).setCell (p := ⟨w1.heap.size, 0, none⟩) (by simp; omega) _
  clear hown2 hgrow2 hown3 hgrow3 hc3 c0 f0 hc0 hrow1 b1 _t
  go_loopw [7, 8, 9] (fun a7 a8 a9 wr => ∃ (k gc gn : Nat) (C N : List Bool), k ≤ its.length ∧ a9 = .int .i64 k ∧ a7 = .slice (some ⟨gc, 0, none⟩) (s.size + 1) (s.size + 1) ∧ a8 = .slice (some ⟨gn, 0, none⟩) (s.size + 1) (s.size + 1) ∧
      St w wr its n s.size gc gn C N ∧ Hid (DP (parse z 0) (tx s) k (fun i => C.getD i false))) (fun _ _ a9 _ => its.length - (intOf a9).toNat)
  case atStart => exact ⟨0, _, _, _, _, Nat.zero_le _, rfl, rfl, rfl, hSt0, dp_start _ _ _ (by rw [rep_set]; rfl) (fun i h0 _ => by rw [rep_set]; simp; omega)⟩
  case round =>
    clear hSt0
    obtain ⟨k, gc, gn, C, N, hk, rfl, rfl, rfl, hSt, HD⟩ := hrel
    obtain ⟨v, rfl⟩ : ∃ v, v = wr := ⟨_, rfl⟩
    have HLEN := hide HA.out.len
    by_cases hkl : k < its.length
    · have hkm : k < (parse z 0).length := by rw [← HLEN.out]; exact hkl
      have e0 := hSt.it k hkl 0 (by omega)
      have e1 := hSt.it k hkl 1 (by omega)
      have e2 := hSt.it k hkl 2 (by omega)
      have e3 := hSt.it k hkl 3 (by omega)
      have e4 := hSt.it k hkl 4 (by omega)
      generalize hit : its[k] = it at e0 e1 e2 e3 e4
      obtain ⟨st, S⟩ := it
      have e0' : v.cell? ⟨w.heap.size, k * 5, none⟩ = some (.bool st) := e0
      have e1' : v.cell? ⟨w.heap.size, k * 5 + 1, none⟩ = some (.int .u64 (wd S.a)) := e1
      have e2' : v.cell? ⟨w.heap.size, k * 5 + 2, none⟩ = some (.int .u64 (wd S.b)) := e2
      have e3' : v.cell? ⟨w.heap.size, k * 5 + 3, none⟩ = some (.int .u64 (wd S.c)) := e3
      have e4' : v.cell? ⟨w.heap.size, k * 5 + 4, none⟩ = some (.int .u64 (wd S.d)) := e4
      have hst0 : its[k] = (st, S) := hit
      clear e0 e1 e2 e3 e4 hit
      have HIT := hide hst0
      cases st
      · obtain ⟨f, hf, hfS⟩ : ∃ f, (parse z 0)[k]'(hkm) = some f ∧ ∀ x : Nat, x < 256 → S.has x = f (x : Int) := by
          have := HA.out.at k hkl hkm
          rw [hst0] at this
          cases e : (parse z 0)[k]'(hkm) with
          | none => rw [e] at this; exact absurd this (by unfold Agree; simp)
          | some f => rw [e] at this; exact ⟨f, rfl, this.2⟩
        have HF := hide hf
        have HFS := hide hfS
        clear hf hfS hst0
        have cz := hSt.nxt 0 (by omega)
        have fz := hSt.fz 0
        have hSt2 := hSt.put 0 false
        have HL0 := hide hSt.lenN
        go_wp2
        go_loopw [12] (fun a12 wq => ∃ (i : Nat) (N' : List Bool), i ≤ s.size ∧ a12 = .int .i64 i ∧ St w wq its n s.size gc gn C N' ∧ Hid (N'.getD 0 false = false ∧ ∀ j, j < i → N'.getD (j + 1) false = (C.getD j false && f (bt (tx s) j)))) (fun a12 _ => s.size - (intOf a12).toNat)
        case atStart => exact ⟨0, _, by omega, rfl, hSt2, by rw [set_getD _ _ _ _ (by rw [HL0.out]; omega), if_pos rfl], fun j hj => absurd hj (by omega)⟩
        case round =>
          obtain ⟨i, N', hi1, rfl, hSt', HN'⟩ := hrel
          by_cases hlt : i < s.size
          · have cc := hSt'.cur i (by omega)
            have cn := hSt'.nxt (i + 1) (by omega)
            have fn := hSt'.fz (i + 1)
            have HL := hide hSt'.lenN
            obtain ⟨r1, r2, r3, r4⟩ := hSt'.cells k hkl HIT.out
            have HV : Hid (∀ b : Bool, b = (C.getD i false && f (bt (tx s) i)) → (N'.set (i + 1) b).getD 0 false = false ∧ ∀ j, j < i + 1 → (N'.set (i + 1) b).getD (j + 1) false = (C.getD j false && f (bt (tx s) j))) := by
              intro b hb
              refine ⟨?_, fun j hj => ?_⟩
              · rw [set_getD _ _ _ _ (by rw [HL.out]; omega), if_neg (by omega)]; exact HN'.out.1
              · rw [set_getD _ _ _ _ (by rw [HL.out]; omega)]
                by_cases e : j = i
                · rw [if_pos (by omega), e]; exact hb
                · rw [if_neg (by omega)]; exact HN'.out.2 j (by omega)
            have y1 : (i : Int) < (s.size : Int) + 1 := by omega
            have y2 : (i : Int) + 1 < (s.size : Int) + 1 := by omega
            have y3 : (0 : Int) ≤ (i : Int) + 1 := by omega
            have y4 : ((i : Int) + 1).toNat = i + 1 := by omega
            have y5 : IntKind.i64.wrap ((i : Int) + 1) = (i : Int) + 1 := by rw [IntKind.wrap_i64]; omega
            have y6 : (i : Int) < (s.size : Int) := by omega
            have y7 : (k : Int) < (its.length : Int) := by omega
            cases hcur : C.getD i false
            · rw [hcur] at cc
              have hput := (hSt'.put (i + 1) false).drew
              have HV2 := hide (HV.out false (by rw [hcur, Bool.false_and]))
              clear hcur
              go_wp2_with fail
              go_region
              all_goals
                go_wp2
                go_roundw
                case rel => exact ⟨i + 1, _, by omega, by go_num, hput, HV2.out⟩
                case measure => simp [intOf]; omega
            · rw [hcur] at cc
              have hc0 : (0 : Int) ≤ (s[i].toNat : Int) := by omega
              have hc1 : (s[i].toNat : Int) < 256 := by have := s[i].toNat_lt; omega
              have HCUR := hide hcur
              have HV2 : Hid _ := HV.out (S.has s[i].toNat) (by rw [hcur, Bool.true_and, HFS.out _ (by omega), tx_bt s i hlt])
              clear hcur
              go_wp2_with fail
              go_region_held3 (fun w' => w'.cell? ⟨gc, i, none⟩ = some (.bool true) ∧ w'.cell? ⟨w.heap.size, k * 5 + 1, none⟩ = some (.int .u64 (wd S.a)) ∧ w'.cell? ⟨w.heap.size, k * 5 + 2, none⟩ = some (.int .u64 (wd S.b)) ∧ w'.cell? ⟨w.heap.size, k * 5 + 3, none⟩ = some (.int .u64 (wd S.c)) ∧ w'.cell? ⟨w.heap.size, k * 5 + 4, none⟩ = some (.int .u64 (wd S.d))) (first | exact keep_st hSt5 i (by omega) HCUR.out k hkl HIT.out | exact keep_st (hSt5.put (i + 1) (S.has s[i].toNat)) i (by omega) HCUR.out k hkl HIT.out | go_keep) (first | (go_at_call 14; refine (has_call S (s[i].toNat : Int) _ hc0 hc1).mono ?_; rintro e w5 ⟨rfl, hb0⟩; have hb5 := drew_call hb0; have hSt5 := hSt'.call hb5; have cn5 := hSt5.nxt (i + 1) (by omega); have fn5 := hSt5.fz (i + 1)))
              all_goals
                have hput := hSt5.put (i + 1) (S.has s[i].toNat)
                go_wp2
                go_roundw
                case rel => exact ⟨i + 1, _, by omega, by go_num, hput, HV2.out⟩
                case measure => simp [intOf]; omega
          · have HD2 : Hid (DP (parse z 0) (tx s) (k + 1) (fun i => N'.getD i false)) :=
              dp_some HD.out hkm HF.out HN'.out.1 (fun i hi => HN'.out.2 i (by rw [HTL.out] at hi; omega))
            have hsw := hSt'.swap
            go_wp2
            go_roundw
            case rel => exact ⟨k + 1, gn, gc, N', C, by omega, by go_num, rfl, rfl, hsw, HD2⟩
            case measure => simp [intOf]; omega
      · have hst : (its[k]).1 = true := by rw [hst0]
        clear hst0
        have hnone : (parse z 0)[k]'(hkm) = none := by
          have := HA.out.at k hkl hkm
          cases e : (parse z 0)[k]'(hkm) with
          | none => rfl
          | some f => rw [e] at this; exact absurd this.1 (by rw [hst]; simp)
        have HNONE := hide hnone
        clear hnone
        go_wp2
        go_loopw [10, 11] (fun a10 a11 wq => ∃ (i : Nat) (N' : List Bool), i ≤ s.size + 1 ∧ a11 = .int .i64 i ∧ a10 = .bool (accOf C i) ∧ St w wq its n s.size gc gn C N' ∧ Hid (∀ j, j < i → N'.getD j false = accOf C (j + 1))) (fun _ a11 _ => s.size + 1 - (intOf a11).toNat)
        case atStart => exact ⟨0, N, by omega, rfl, rfl, hSt, fun j hj => absurd hj (by omega)⟩
        case round =>
          obtain ⟨i, N', hi1, rfl, rfl, hSt', HN'⟩ := hrel
          by_cases hle2 : i ≤ s.size
          · have cc := hSt'.cur i hle2
            have cn := hSt'.nxt i hle2
            have fn := hSt'.fz i
            have HAS := hide (acc_succ C i (by rw [hSt'.lenC]; omega))
            have HL := hide hSt'.lenN
            have HN2 : Hid (∀ j, j < i + 1 → (N'.set i (accOf C (i + 1))).getD j false = accOf C (j + 1)) := fun j hj => by
              rw [set_getD _ _ _ _ (by rw [HL.out]; omega)]
              by_cases e : j = i
              · rw [if_pos e, e]
              · rw [if_neg e]; exact HN'.out j (by omega)
            have hput := hSt'.put i (accOf C (i + 1))
            have hltm : (i : Int) < (s.size : Int) + 1 := by omega
            cases hacc : accOf C i
            · cases hcur : C.getD i false
              all_goals
                have hnew := HAS.out
                rw [hacc, hcur] at hnew
                simp only [Bool.or_false, Bool.or_true] at hnew
                rw [hcur] at cc
                rw [hnew] at hput
                have HE := hide hnew
                clear hnew hcur
                go_wp2
                go_roundw
                case rel => exact ⟨i + 1, _, by omega, by go_num, by rw [HE.out], hput, by have h := HN2.out; rw [HE.out] at h; exact h⟩
                case measure => simp [intOf]; omega
            · have hnew := HAS.out
              rw [hacc] at hnew
              simp only [Bool.true_or] at hnew
              rw [hnew] at hput
              have HE := hide hnew
              clear hnew
              go_wp2
              go_roundw
              case rel => exact ⟨i + 1, _, by omega, by go_num, by rw [HE.out], hput, by have h := HN2.out; rw [HE.out] at h; exact h⟩
              case measure => simp [intOf]; omega
          · have HD2 : Hid (DP (parse z 0) (tx s) (k + 1) (fun i => N'.getD i false)) := by
              refine dp_star HD.out hkm HNONE.out (fun j hj => ?_)
              rw [HTL.out] at hj
              show N'.getD j false = true ↔ _
              rw [HN'.out j (by omega)]
              exact acc_iff C j (by rw [hSt'.lenC]; omega)
            have hsw := hSt'.swap
            go_wp2
            go_roundw
            case rel => exact ⟨k + 1, gn, gc, N', C, by omega, by go_num, rfl, rfl, hsw, HD2⟩
            case measure => simp [intOf]; omega
    · have HE : Hid (glob z (tx s) = C.getD s.size false) := by
        have h := dp_end HD.out (by rw [← HLEN.out]; omega)
        rw [HTL.out] at h
        exact h
      have cm := hSt.cur s.size (Nat.le_refl _)
      have hbel := hSt.2.2.2.1
      have y1 : (s.size : Int) < (s.size : Int) + 1 := by omega
      go_wp2
      go_ret
      exact ⟨congrArg (fun b => Ending.returned (.bool b)) HE.out.symm, hbel⟩
end Go.Proofs.Qxb6628398a
