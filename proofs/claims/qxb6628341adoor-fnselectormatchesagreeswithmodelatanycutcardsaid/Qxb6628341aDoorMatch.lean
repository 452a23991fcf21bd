import Derived.Test.Qxb6628341aDoorNum2
namespace Go.Proofs.Qxb6628341aDoor
open Go.ChangeShapes Go.WideShapes Go.ChangeAt Go.RowKit

theorem Rd.kept {w w' : World} {x : Rq} (h : Rd w x) (hb : Below w.heap.size w w') : Rd w' x := ⟨h.key, h.len, h.len2, h.strs.kept hb, h.vs⟩
theorem opNum_gt (op : ByteArray) (q : (op.toList == [71, 116]) = true) : OpNum op true := by
  have e : op.toList = [71, 116] := by simpa using q
  unfold OpNum
  rw [e]; decide
theorem opNum_lt (op : ByteArray) (q : (op.toList == [76, 116]) = true) : OpNum op false := by
  have e : op.toList = [76, 116] := by simpa using q
  unfold OpNum
  rw [e]; decide
theorem req_num (x : Rq) (gt : Bool) (m n : Nat) (lb : List (ByteArray × ByteArray)) (w : World) (hM : MapIs w m n lb) (hr : Rd w x) (hw : Env w) (hq : OpNum x.op gt) (hlb : ∀ v, look lb x.key = some v → v.size ≤ 1048576) :
    Calls Tryd.prog 16 #[.agg #[.string x.key, .string x.op, .slice x.ad x.len x.cap], .map (some m)] w fun e w' => e = .returned (.bool (holds x (look lb x.key))) ∧ Below w.heap.size w w' := by
  cases ho : look lb x.key with
  | none => exact num_none x gt m n lb w hM hr hq ho
  | some v =>
    have hv := hlb v ho
    by_cases hl : x.len = 1
    · cases ha : num v with
      | none => exact num_bad x gt m n lb w hM hr hw hq v hv ho hl ha
      | some a =>
        obtain ⟨key, op, ad, len, cap, vs⟩ := x
        simp only at hl hq ho
        subst hl
        have h1 := hr.len
        simp only at h1
        obtain ⟨u, rfl⟩ := List.length_eq_one_iff.1 h1
        obtain ⟨b, off, e, hbw, hc⟩ := hr.strs (by simp)
        simp only at e
        subst e
        have hc0 : w.cell? ⟨b, off, .none⟩ = some (.string u) := by simpa [vAt] using hc 0 (by simp)
        have hu : u.size ≤ 1048576 := by simpa [vAt] using hr.vs 0 (by simp)
        cases hb : num u with
        | none => exact num_bad2 key op u b off cap gt m n lb w hM hr.key hw hq v hv ho hbw hc0 hu a ha hb
        | some c => exact num_good key op u b off cap gt m n lb w hM hr.key hq v hv ho hbw hc0 hu a c ha hb
    · exact num_len x gt m n lb w hM hr hq v ho hl
theorem req_any (x : Rq) (m n : Nat) (lb : List (ByteArray × ByteArray)) (w : World) (hM : MapIs w m n lb) (hr : Rd w x) (hw : Env w) (hlb : ∀ v, look lb x.key = some v → v.size ≤ 1048576) :
    Calls Tryd.prog 16 #[.agg #[.string x.key, .string x.op, .slice x.ad x.len x.cap], .map (some m)] w fun e w' => e = .returned (.bool (holds x (look lb x.key))) ∧ Below w.heap.size w w' := by
  cases q5 : (x.op.toList == [71, 116])
  · cases q6 : (x.op.toList == [76, 116])
    · cases ho : look lb x.key with
      | none => exact req_plain0 x m n lb w hM hr ho q5 q6
      | some v => exact req_plain1 x m n lb w hM hr v ho q5 q6
    · exact req_num x false m n lb w hM hr hw (opNum_lt _ q6) hlb
  · exact req_num x true m n lb w hM hr hw (opNum_gt _ q5) hlb

theorem sel_take_succ (rs : List Rq) (lb : List (ByteArray × ByteArray)) (k : Nat) (h : k < rs.length) : sel (rs.take (k + 1)) lb = (sel (rs.take k) lb && holds (rqAt rs k) (look lb (rqAt rs k).key)) := by
  unfold sel
  rw [List.take_succ_eq_append_getElem h, List.all_append]
  simp [rqAt, List.getD_eq_getElem?_getD, h]
theorem sel_miss (rs : List Rq) (lb : List (ByteArray × ByteArray)) (k : Nat) (h : k < rs.length) (e : holds (rqAt rs k) (look lb (rqAt rs k).key) = false) : sel rs lb = false := by
  unfold sel
  rw [List.all_eq_false]
  have e2 : rqAt rs k = rs[k] := by simp [rqAt, List.getD_eq_getElem?_getD, h]
  rw [e2] at e
  exact ⟨rs[k], List.getElem_mem h, by simp [e]⟩

attribute [local go_sem ↓] Go.wp_at_zero Go.wp_at_succ
set_option maxRecDepth 100000 in
set_option maxHeartbeats 1000000 in
theorem match_none (ad : Option Addr) (cap m : Nat) (w : World) :
    Calls Tryd.prog 9 #[.slice ad 0 cap, .map (some m)] w fun e w' => e = .returned (.bool true) ∧ Below w.heap.size w w' := by
  go_enter Tryd.func9, Tryd.ntmps9
  go_wp2
  refine wp_loop_rounds 1 ?_
  rw [rounds_succ]; go_wp2
  go_ret
  exact ⟨rfl, Below.refl _ _⟩
set_option maxRecDepth 100000 in
set_option maxHeartbeats 1000000 in
theorem match_some (b off n cap m nm : Nat) (rs : List Rq) (lb : List (ByteArray × ByteArray)) (w : World) (hn : rs.length = n) (hn2 : n ≤ 1048577) (hM : MapIs w m nm lb) (hw : Env w) (hlb : ∀ k v, look lb k = some v → v.size ≤ 1048576) (hbw : b < w.heap.size)
    (hr : ∀ j, j < n → Rd w (rqAt rs j))
    (hc : ∀ j, j < n → w.cell? ⟨b, off + j * 3, .none⟩ = some (.string (rqAt rs j).key) ∧ w.cell? ⟨b, off + j * 3 + 1, .none⟩ = some (.string (rqAt rs j).op) ∧ w.cell? ⟨b, off + j * 3 + 2, .none⟩ = some (.slice (rqAt rs j).ad (rqAt rs j).len (rqAt rs j).cap)) :
    Calls Tryd.prog 9 #[.slice (some ⟨b, off, .none⟩) n cap, .map (some m)] w fun e w' => e = .returned (.bool (sel rs lb)) ∧ Below w.heap.size w w' := by
  have HN := hide hn
  have HC := hide hc
  have HR := hide hr
  have HM := hide hM
  have HW := hide hw
  have HLB := hide hlb
  clear hn hc hr hM hw hlb
  go_enter Tryd.func9, Tryd.ntmps9
  go_wp2
  go_loopw [9] (fun a9 wr => ∃ k : Nat, k ≤ n ∧ a9 = .int .i64 k ∧ Below w.heap.size w wr ∧ Hid (sel (rs.take k) lb = true)) (fun a9 _ => n - (intOf a9).toNat)
  case atStart => exact ⟨0, by omega, rfl, Below.refl _ _, rfl⟩
  case round =>
    obtain ⟨k, hk, rfl, hB, HK⟩ := hrel
    by_cases hlt : k < n
    · obtain ⟨d0, d1, d2⟩ := HC.out k hlt
      have c0 := (hB.cell (p := ⟨b, off + k * 3, .none⟩) hbw).trans d0
      have c1 := (hB.cell (p := ⟨b, off + k * 3 + 1, .none⟩) hbw).trans d1
      have c2 := (hB.cell (p := ⟨b, off + k * 3 + 2, .none⟩) hbw).trans d2
      clear d0 d1 d2
      have HB := hide hB
      obtain ⟨x, hx⟩ : ∃ x, x = rqAt rs k := ⟨_, rfl⟩
      have HT := hide (sel_take_succ rs lb k (by rw [HN.out]; exact hlt))
      have HMI := hide (sel_miss rs lb k (by rw [HN.out]; exact hlt))
      have HRK := hide (HR.out k hlt)
      rw [← hx] at c0 c1 c2 HT HMI HRK
      clear hx hB
      have hA := below_bx wr x
      have hAll := HB.out.trans (hA.mono HB.out.size)
      have HCALL := hide (req_any x m nm lb _ (HM.out.kept hAll) (HRK.out.kept hAll) (HW.out.kept hAll) (HLB.out x.key))
      have HAll := hide hAll
      clear hA hAll
      cases hh : holds x (look lb x.key)
      · have HF := hide (HMI.out hh)
        rw [hh] at HCALL
        clear hh
        go_wp2_with fail
        refine HCALL.out.mono ?_
        rintro e w1 ⟨rfl, hb1⟩
        have HB1 := hide (HAll.out.trans (hb1.mono HAll.out.size))
        clear HCALL
        go_wp2
        go_ret
        exact ⟨ret_bool HF.out.symm, HB1.out⟩
      · have HK2 : Hid (sel (rs.take (k + 1)) lb = true) := by show _ = _; rw [HT.out, HK.out, hh]; rfl
        rw [hh] at HCALL
        clear hh
        go_wp2_with fail
        refine HCALL.out.mono ?_
        rintro e w1 ⟨rfl, hb1⟩
        have hB1 := HAll.out.trans (hb1.mono HAll.out.size)
        clear HCALL
        go_wp2
        go_roundw
        case rel => exact ⟨k + 1, by omega, by go_num, hB1, HK2⟩
        case measure => simp [intOf]; omega
    · have HF : Hid (sel rs lb = true) := by
        have h := HK.out
        rw [List.take_of_length_le (by rw [HN.out]; omega)] at h
        exact h
      go_wp2
      go_ret
      exact ⟨ret_bool HF.out.symm, hB⟩
theorem match_any (ad : Option Addr) (n cap m nm : Nat) (rs : List Rq) (lb : List (ByteArray × ByteArray)) (w : World) (hn : rs.length = n) (hn2 : n ≤ 1048577) (hM : MapIs w m nm lb) (hw : Env w) (hlb : ∀ k v, look lb k = some v → v.size ≤ 1048576)
    (hr : ∀ j, j < n → Rd w (rqAt rs j)) (h : RqsIn w ad rs) :
    Calls Tryd.prog 9 #[.slice ad n cap, .map (some m)] w fun e w' => e = .returned (.bool (sel rs lb)) ∧ Below w.heap.size w w' := by
  by_cases h0 : 0 < n
  · obtain ⟨b, off, rfl, hlt, hc⟩ := h (by omega)
    exact match_some b off n cap m nm rs lb w hn hn2 hM hw hlb hlt hr (fun j hj => hc j (by omega))
  · have e : n = 0 := by omega
    subst e
    have e2 : rs = [] := List.length_eq_zero_iff.1 hn
    subst e2
    exact match_none ad cap m w
end Go.Proofs.Qxb6628341aDoor
