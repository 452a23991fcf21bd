import Derived.Test.Qxb6628341aDoorHold2
import Derived.Test.Qxb6628341aDoorOne
namespace Go.Proofs.Qxb6628341aDoor
open Go.ChangeShapes Go.WideShapes Go.ChangeAt Go.RowKit

attribute [local go_sem ↓] Go.wp_at_zero Go.wp_at_succ
theorem sel_cut (rs : List Rq) (cut : Nat) (lb : List (ByteArray × ByteArray)) : sel rs lb = (sel (rs.take cut) lb && sel (rs.drop cut) lb) := by
  unfold sel
  conv => lhs; rw [← List.take_append_drop cut rs, List.all_append]
theorem rqAt_take (rs : List Rq) (cut j : Nat) (h : j < cut) : rqAt (rs.take cut) j = rqAt rs j := by
  unfold rqAt; rw [List.getD_eq_getElem?_getD, List.getD_eq_getElem?_getD, List.getElem?_take_of_lt h]
theorem rqAt_drop (rs : List Rq) (cut j : Nat) : rqAt (rs.drop cut) j = rqAt rs (cut + j) := by
  unfold rqAt; rw [List.getD_eq_getElem?_getD, List.getD_eq_getElem?_getD, List.getElem?_drop]
theorem RqsIn.take {w : World} {g off : Nat} {rs : List Rq} (h : RqsIn w (some ⟨g, off, none⟩) rs) (cut : Nat) : RqsIn w (some ⟨g, off, none⟩) (rs.take cut) := fun h0 => by
  have hl : (rs.take cut).length = min cut rs.length := List.length_take
  obtain ⟨b, off', e, hlt, hc⟩ := h (by omega)
  refine ⟨b, off', e, hlt, fun j hj => ?_⟩
  rw [rqAt_take rs cut j (by omega)]
  exact hc j (by omega)
theorem RqsIn.drop {w : World} {g off : Nat} {rs : List Rq} (h : RqsIn w (some ⟨g, off, none⟩) rs) (cut : Nat) : RqsIn w (some ⟨g, off + cut * 3, none⟩) (rs.drop cut) := fun h0 => by
  have hl : (rs.drop cut).length = rs.length - cut := List.length_drop
  obtain ⟨b, off', e, hlt, hc⟩ := h (by omega)
  cases e
  refine ⟨g, off + cut * 3, rfl, hlt, fun j hj => ?_⟩
  rw [rqAt_drop rs cut j]
  have := hc (cut + j) (by omega)
  have e : off + (cut + j) * 3 = off + cut * 3 + j * 3 := by omega
  rw [e] at this
  exact this
set_option maxRecDepth 100000 in
set_option maxHeartbeats 2000000 in
theorem cut_walk (ra la : Option Addr) (n rcap ln lcap cut : Nat) (rs : List Rq) (lb : List (ByteArray × ByteArray)) (w : World)
    (hb : n < 9223372036854775808) (hb2 : ln < 9223372036854775808) (hp : cut ≤ n)
    (h : In0 w ra la n ln rs lb) (hE : Env w) :
    Calls Tryd.prog 3 #[.slice ra n rcap, .slice la ln lcap, .int .i64 cut] w fun e w' => e = .returned (.bool true) ∧ Below w.heap.size w w' := by
  go_enter Tryd.func3, Tryd.ntmps3
  go_wp2_with fail
  refine (bytes_a ra la n rcap ln lcap cut rs lb w h.hn h.hl hb hb2 h.hq h.hv h.hlb).mono ?_
  rintro e w0 ⟨bl, rfl, rfl, hbl⟩
  cases bl
  · go_wp2
    go_ret
    exact ⟨rfl, Below.refl _ _⟩
  · have hA := hbl rfl
    clear hbl
    go_wp2_with fail
    refine (size_any ra la none n rcap ln lcap 0 0 ⟨#[]⟩ [] rs lb w0 h.hn h.hl rfl hA (by show 0 ≤ _; omega) (by omega) (fun j hj => absurd hj (by omega)) h.hq h.hv h.hlb (fun h0 => absurd h0 (by simp))).mono ?_
    rintro e w1 ⟨bl, rfl, rfl, _⟩
    cases bl
    · go_wp2
      go_ret
      exact ⟨rfl, Below.refl _ _⟩
    · have hA1 := hA.1
      have hA3 := hA.2.2.1
      go_wp2_with fail
      refine (set_any la ln lcap lb w1 h.hl hA3 h.hlb (fun j hj => hA.2.2.2 j hj)).mono ?_
      rintro e w2 ⟨rfl, hM2, hB2⟩
      have h2 := h.kept hB2
      go_wp2_with fail
      refine (sel_any ra n rcap rs w2 h2.hn hA1 h2.hq).mono ?_
      rintro e w3 ⟨rfl, hQ3, hB3, hlt3⟩
      have h3 := h2.kept hB3
      have hB13 : Below w1.heap.size w1 w3 := hB2.trans (hB3.mono hB2.size)
      have hSz := look_size h.hl hA
      have hM3 := hM2.kept hB3
      have hE3 := hE.kept hB13
      have hR3 : ∀ j, j < n → Rd w3 (rqAt rs j) := fun j hj => rd_of (h3.hv j hj) (hA.2.1 j hj)
      go_wp2_with fail
      refine (match_any _ n n _ ln rs lb w3 h3.hn (by omega) hM3 hE3 hSz hR3 hQ3).mono ?_
      rintro e w4 ⟨rfl, hB4⟩
      obtain ⟨P, hP⟩ : ∃ P, P = sel (rs.take cut) lb := ⟨_, rfl⟩
      obtain ⟨S, hS⟩ : ∃ S, S = sel (rs.drop cut) lb := ⟨_, rfl⟩
      have hW : sel rs lb = (P && S) := by rw [hP, hS]; exact sel_cut rs cut lb
      rw [hW]
      have HP := hide hP
      have HS := hide hS
      have HW := hide hW
      clear hP hS hW
      go_wp2_with fail
      have hn := h.hn
      have hM4 := hM3.kept hB4
      have hE4 := hE3.kept hB4
      have hQ4 := hQ3.kept hB4
      have hR4 : ∀ j, j < n → Rd w4 (rqAt rs j) := fun j hj => (hR3 j hj).kept hB4
      refine (match_any _ cut n _ ln (rs.take cut) lb w4 (by rw [List.length_take]; omega) (by omega) hM4 hE4 hSz (fun j hj => by rw [rqAt_take rs cut j hj]; exact hR4 j (by omega)) (hQ4.take cut)).mono ?_
      rintro e w5 ⟨rfl, hB5⟩
      have hM5 := hM4.kept hB5
      have hE5 := hE4.kept hB5
      have hQ5 := hQ4.kept hB5
      have hR5 : ∀ j, j < n → Rd w5 (rqAt rs j) := fun j hj => (hR4 j hj).kept hB5
      rw [← HP.out]
      have hBw4 := hB13.trans (hB4.mono hB13.size)
      have hBw5 := hBw4.trans (hB5.mono hBw4.size)
      by_cases hcn : cut < n
      · have hne : ¬ cut = n := by omega
        go_wp2_with fail
        refine (match_any (some ⟨w2.heap.size, cut * 3, none⟩) (n - cut) (n - cut) _ ln (rs.drop cut) lb w5 (by rw [List.length_drop]; omega) (by omega) hM5 hE5 hSz (fun j hj => by rw [rqAt_drop rs cut j]; exact hR5 _ (by omega)) (by have := hQ5.drop cut; rwa [Nat.zero_add] at this)).mono ?_
        rintro e w6 ⟨rfl, hB6'⟩
        rw [← HS.out]
        have hB6 := hBw5.trans (hB6'.mono hBw5.size)
        clear hB6' hBw4 hBw5 hB13
        have HH := hide h
        have HA := hide hA
        have HSZ := hide hSz
        clear HP HS hM2 hB2 h2 hQ3 hB3 hlt3 h3 hM3 hE3 hR3 hB4 hM4 hE4 hQ4 hR4 hB5 hM5 hE5 hQ5 hR5 hSz h hA hE
        go_wp2
        go_loopw [12, 13] (fun a12 a13 wr => ∃ k : Nat, k ≤ n ∧ a12 = .bool (sel (rs.take k) lb) ∧ a13 = .int .i64 k ∧ Below w1.heap.size w1 wr) (fun _ a13 _ => n - (intOf a13).toNat)
        case atStart => exact ⟨0, by omega, rfl, rfl, hB6⟩
        case round =>
          clear hB6
          obtain ⟨k, hk, rfl, rfl, hB⟩ := hrel
          by_cases hlt : k < n
          · obtain ⟨b, off, rfl, hbw, hc⟩ := HH.out.hq (by rw [HH.out.hn]; omega)
            obtain ⟨d0, d1, d2⟩ := hc k (by rw [HH.out.hn]; exact hlt)
            have c0 := (hB.cell (p := ⟨b, off + k * 3, .none⟩) hbw).trans d0
            have c1 := (hB.cell (p := ⟨b, off + k * 3 + 1, .none⟩) hbw).trans d1
            have c2 := (hB.cell (p := ⟨b, off + k * 3 + 2, .none⟩) hbw).trans d2
            clear d0 d1 d2 hc
            have HT := hide (sel_take_succ rs lb k (by rw [HH.out.hn]; exact hlt))
            have HC := hide (zh_any (rqAt rs k) la ln lcap lb wr HH.out.hl hA3 (HH.out.hlb.kept hB) (rd_of ((HH.out.kept hB).hv k hlt) (HA.out.2.1 k hlt)) (HSZ.out _))
            obtain ⟨x, hx⟩ : ∃ x, x = rqAt rs k := ⟨_, rfl⟩
            rw [← hx] at c0 c1 c2 HT HC
            clear hx
            obtain ⟨hv, hhv⟩ : ∃ hv, hv = holds x (look lb x.key) := ⟨_, rfl⟩
            rw [← hhv] at HT HC
            clear hhv
            cases hv
            · have HT2 : Hid (Value.bool false = .bool (sel (rs.take (k + 1)) lb)) := by show _ = _; rw [HT.out]; cases sel (rs.take k) lb <;> rfl
              go_wp2_with fail
              refine HC.out.mono ?_
              rintro e w7 ⟨rfl, hB7⟩
              have hB8 := hB.trans (hB7.mono hB.size)
              clear HC
              go_wp2
              go_roundw
              case rel => exact ⟨k + 1, by omega, HT2.out, by go_num, hB8⟩
              case measure => simp [intOf]; omega
            · have HT2 : Hid (Value.bool (sel (rs.take k) lb) = .bool (sel (rs.take (k + 1)) lb)) := by show _ = _; rw [HT.out]; cases sel (rs.take k) lb <;> rfl
              go_wp2_with fail
              refine HC.out.mono ?_
              rintro e w7 ⟨rfl, hB7⟩
              have hB8 := hB.trans (hB7.mono hB.size)
              clear HC
              go_wp2
              go_roundw
              case rel => exact ⟨k + 1, by omega, HT2.out, by go_num, hB8⟩
              case measure => simp [intOf]; omega
          · have e : sel (rs.take k) lb = (P && S) := by rw [List.take_of_length_le (by rw [HH.out.hn]; omega)]; exact HW.out
            rw [e]
            clear e
            cases P <;> cases S <;>
            · go_wp2
              go_ret
              exact ⟨rfl, hB⟩
      · have hcn2 : cut = n := by omega
        have hSt : S = true := by rw [HS.out, List.drop_eq_nil_of_le (by omega)]; rfl
        subst hcn2
        go_wp2_with fail
        refine (match_none (some ⟨w2.heap.size, 0, none⟩) 0 _ w5).mono ?_
        rintro e w6 ⟨rfl, hB6'⟩
        subst hSt
        have hB6 := hBw5.trans (hB6'.mono hBw5.size)
        clear hB6' hBw4 hBw5 hB13
        have HH := hide h
        have HA := hide hA
        have HSZ := hide hSz
        clear HP HS hM2 hB2 h2 hQ3 hB3 hlt3 h3 hM3 hE3 hR3 hB4 hM4 hE4 hQ4 hR4 hB5 hM5 hE5 hQ5 hR5 hSz h hA hE
        go_wp2
        go_loopw [12, 13] (fun a12 a13 wr => ∃ k : Nat, k ≤ cut ∧ a12 = .bool (sel (rs.take k) lb) ∧ a13 = .int .i64 k ∧ Below w1.heap.size w1 wr) (fun _ a13 _ => cut - (intOf a13).toNat)
        case atStart => exact ⟨0, by omega, rfl, rfl, hB6⟩
        case round =>
          clear hB6
          obtain ⟨k, hk, rfl, rfl, hB⟩ := hrel
          by_cases hlt : k < cut
          · obtain ⟨b, off, rfl, hbw, hc⟩ := HH.out.hq (by rw [HH.out.hn]; omega)
            obtain ⟨d0, d1, d2⟩ := hc k (by rw [HH.out.hn]; exact hlt)
            have c0 := (hB.cell (p := ⟨b, off + k * 3, .none⟩) hbw).trans d0
            have c1 := (hB.cell (p := ⟨b, off + k * 3 + 1, .none⟩) hbw).trans d1
            have c2 := (hB.cell (p := ⟨b, off + k * 3 + 2, .none⟩) hbw).trans d2
            clear d0 d1 d2 hc
            have HT := hide (sel_take_succ rs lb k (by rw [HH.out.hn]; exact hlt))
            have HC := hide (zh_any (rqAt rs k) la ln lcap lb wr HH.out.hl hA3 (HH.out.hlb.kept hB) (rd_of ((HH.out.kept hB).hv k hlt) (HA.out.2.1 k hlt)) (HSZ.out _))
            obtain ⟨x, hx⟩ : ∃ x, x = rqAt rs k := ⟨_, rfl⟩
            rw [← hx] at c0 c1 c2 HT HC
            clear hx
            obtain ⟨hv, hhv⟩ : ∃ hv, hv = holds x (look lb x.key) := ⟨_, rfl⟩
            rw [← hhv] at HT HC
            clear hhv
            cases hv
            · have HT2 : Hid (Value.bool false = .bool (sel (rs.take (k + 1)) lb)) := by show _ = _; rw [HT.out]; cases sel (rs.take k) lb <;> rfl
              go_wp2_with fail
              refine HC.out.mono ?_
              rintro e w7 ⟨rfl, hB7⟩
              have hB8 := hB.trans (hB7.mono hB.size)
              clear HC
              go_wp2
              go_roundw
              case rel => exact ⟨k + 1, by omega, HT2.out, by go_num, hB8⟩
              case measure => simp [intOf]; omega
            · have HT2 : Hid (Value.bool (sel (rs.take k) lb) = .bool (sel (rs.take (k + 1)) lb)) := by show _ = _; rw [HT.out]; cases sel (rs.take k) lb <;> rfl
              go_wp2_with fail
              refine HC.out.mono ?_
              rintro e w7 ⟨rfl, hB7⟩
              have hB8 := hB.trans (hB7.mono hB.size)
              clear HC
              go_wp2
              go_roundw
              case rel => exact ⟨k + 1, by omega, HT2.out, by go_num, hB8⟩
              case measure => simp [intOf]; omega
          · have e : sel (rs.take k) lb = (P && true) := by rw [List.take_of_length_le (by rw [HH.out.hn]; omega)]; exact HW.out
            rw [e]
            clear e
            cases P <;>
            · go_wp2
              go_ret
              exact ⟨rfl, hB⟩
end Go.Proofs.Qxb6628341aDoor
