import Derived.Test.Qxb6628398aClass
import Derived.Deep.RegionWith
import Derived.Deep.DrawnRows
import Derived.Deep.DeepCutAuto
namespace Go.Proofs.Qxb6628398a
open Go.ChangeShapes Go.WideShapes Go.ChangeAt Go.RowKit
open Pl
attribute [local go_sem ↓] Go.wp_at_zero Go.wp_at_succ

theorem it_star (w : World) : ItIn (w.alloc (.cells #[.bool true, .int .u64 0, .int .u64 0, .int .u64 0, .int .u64 0] 34)) w.heap.size true S4.none := heap_alloc_new _ _
theorem it_all (w : World) : ItIn (w.alloc (.cells #[.bool false, .int .u64 18446744073709551615, .int .u64 18446744073709551615, .int .u64 18446744073709551615, .int .u64 18446744073709551615] 34)) w.heap.size false S4.all := by
  unfold ItIn
  rw [cells_any]
  exact heap_alloc_new _ _

set_option maxRecDepth 100000 in
set_option maxHeartbeats 4000000 in
theorem parse_any (b off n cap : Nat) (z : List Int) (w : World) (hz : z.length = n) (hn : n ≤ 1048576) (h8 : ∀ j, j < n → 0 ≤ bt z j ∧ bt z j < 256) (hbw : b < w.heap.size)
    (hcell : ∀ j, j < n → w.cell? ⟨b, off + j, none⟩ = some (.int .u8 (bt z j))) :
    Calls Try.prog 13 #[.slice (some ⟨b, off, none⟩) n cap] w fun e w' => ∃ its : List (Bool × S4), e = .returned (.slice (some ⟨w.heap.size, 0, none⟩) its.length n) ∧
      w'.ownsRow w.heap.size 34 5 (.slice (some ⟨w.heap.size, 0, none⟩) its.length n) its.length (rowsOf its) ∧ Hid (AgreeL its (parse z 0)) ∧ Below w.heap.size w w' := by
  obtain ⟨i1, hi, hz0, hz1, hz2⟩ := info_parts Try.info34
  have hb1 : i1.bytes * n ≤ 281474976710656 := by rw [hz2]; omega
  have HZ := hide hz
  have HC := hide hcell
  have H8 := hide h8
  clear hz hcell h8
  go_enter Try.func13, Try.ntmps13
  go_wp2_with (at_make; refine wpList_make_own _ rfl _ _ 28 rfl w.heap.size 34 i1 _ 5 Try.underlying28 hi hz0 hz1 .i64 .i64 _ n rfl rfl (by omega) hb1 (by unfold maxLen; omega) (Nat.le_refl _) ?_; intro w1 hown1 hgrow1)
  have hbel1 : Below w.heap.size w w1 := (Below.refl _ _).grown hgrow1 (Nat.le_refl _) (fun k h => by cases h)
  clear hgrow1
  go_loopw [4, 5] (fun a4 a5 wr => ∃ (p : Nat) (its : List (Bool × S4)), p ≤ n ∧ its.length ≤ p ∧ a5 = .int .i64 p ∧ a4 = .slice (some ⟨w.heap.size, 0, none⟩) its.length n ∧
      wr.ownsRow w.heap.size 34 5 (.slice (some ⟨w.heap.size, 0, none⟩) its.length n) its.length (rowsOf its) ∧ Below w.heap.size w wr ∧ w.heap.size < wr.heap.size ∧ Hid (Read z its p)) (fun _ a5 _ => n - (intOf a5).toNat)
  case atStart => exact ⟨0, [], by omega, Nat.le_refl _, rfl, rfl, hown1, hbel1, owns_lt' hown1, read_start z⟩
  case round =>
    clear hown1 hbel1
    obtain ⟨p, its, hp, hlen, rfl, rfl, hrow, hbel, hsz, HR⟩ := hrel
    by_cases hlt : p < n
    · have hc0 : wr.cell? ⟨b, off + p, none⟩ = some (.int .u8 (bt z p)) := (hbel.cell (p := ⟨b, off + p, none⟩) hbw).trans (HC.out p hlt)
      obtain ⟨v, rfl⟩ : ∃ v, v = wr := ⟨_, rfl⟩
      go_upto_if 25 with fail
      go_cut [5, 8, 9, 10, 11, 12] (fun a5 a8 a9 a10 a11 a12 wc => ∃ (q : Nat) (st : Bool) (S : S4), p < q ∧ q ≤ n ∧ a5 = .int .i64 q ∧ ItIn wc v.heap.size st S ∧ wc.ownsRow w.heap.size 34 5 (.slice (some ⟨w.heap.size, 0, none⟩) its.length n) its.length (rowsOf its) ∧ Below w.heap.size w wc ∧ Hid (Read z (its ++ [(st, S)]) q))
      case first =>
        by_cases h42 : bt z p = 42
        · have t42 : (bt z p == 42) = true := by simp [h42]
          have HN := hide (read_star S4.none HR.out (by rw [HZ.out]; exact hlt) h42)
          clear h42
          go_wp2
          go_meet
          case rel => exact ⟨p + 1, true, S4.none, by omega, by omega, by go_num, it_star _, hrow.alloc _, hbel.alloc (by omega) _, HN⟩
        · have t42 : (bt z p == 42) = false := by simp [h42]
          by_cases h63 : bt z p = 63
          · have t63 : (bt z p == 63) = true := by simp [h63]
            have HN : Hid (Read z (its ++ [(false, S4.all)]) (p + 1)) := read_some HR.out (by rw [HZ.out]; exact hlt) h42 (item_any z p 0 h63 (by rw [HZ.out]; exact hlt)).2 (fun x hx => by rw [has_all x hx, (item_any z p x h63 (by rw [HZ.out]; exact hlt)).1])
            clear h42 h63
            go_wp2
            refine wp_loop_rounds 5 ?_
            rw [rounds_succ]; go_wp2
            rw [rounds_succ]; go_wp2
            rw [rounds_succ]; go_wp2
            rw [rounds_succ]; go_wp2
            rw [rounds_succ]; go_wp2
            go_meet
            case rel => exact ⟨p + 1, false, S4.all, by omega, by omega, by go_num, it_all _, hrow.alloc _, hbel.alloc (by omega) _, HN⟩
          have t63 : (bt z p == 63) = false := by simp [h63]
          by_cases h92 : bt z p = 92
          · have t92 : (bt z p == 92) = true := by simp [h92]
            by_cases hp1 : p + 1 < n
            · have x8 := H8.out (p + 1) hp1
              have hbr : b < v.heap.size := Nat.lt_of_lt_of_le hbw hbel.size
              have hc1 : (v.alloc (.cells #[.bool false, .int .u64 0, .int .u64 0, .int .u64 0, .int .u64 0] 34)).cell? ⟨b, off + (p + 1), none⟩ = some (.int .u8 (bt z (p + 1))) := by
                rw [World.cell?_of_block (w := v) (Below.heap_alloc _ _ _ hbr)]
                exact (hbel.cell (p := ⟨b, off + (p + 1), none⟩) hbw).trans (HC.out (p + 1) hp1)
              have HN : Hid (Read z (its ++ [(false, S4.none.put (bt z (p + 1)).toNat)]) (p + 2)) := read_some HR.out (by rw [HZ.out]; exact hlt) h42 (item_esc z p 0 h92 (by rw [HZ.out]; exact hp1)).2 (fun x hx => by rw [one_has (bt z (p + 1)) x x8.1 x8.2 hx, (item_esc z p x h92 (by rw [HZ.out]; exact hp1)).1])
              have hit0 := it_zero v
              have g1 := hit0.c1
              have g2 := hit0.c2
              have g3 := hit0.c3
              have g4 := hit0.c4
              have y1 : (p : Int) + 1 < (n : Int) := by omega
              have y0 : (0 : Int) ≤ (p : Int) + 1 := by omega
              have y3 : ((p : Int) + 1).toNat = p + 1 := by omega
              have y4 : IntKind.i64.wrap ((p : Int) + 1) = (p : Int) + 1 := by rw [IntKind.wrap_i64]; omega
              clear h92 h42 h63
              go_wp2_with fail
              go_region_with (go_at_call 16; refine (with_call S4.none (bt z (p + 1)) _ x8.1 x8.2).mono ?_; rintro e w1 ⟨rfl, hb0⟩; have hb1 := drew_call hb0; have hit1 := (it_zero v).kept hb1 (by simp); have i0 := hit1.c0; have i1c := hit1.c1; have i2 := hit1.c2; have i3 := hit1.c3; have i4 := hit1.c4; have ifz := hit1.fz)
              all_goals
                have hit2 := hit1.st5 (S4.none.put (bt z (p + 1)).toNat)
                have hrow2 := row_call hrow (by simpa using hb1) (S4.none.put (bt z (p + 1)).toNat)
                have hbel2 := bel_call hbel (by omega) (by simpa using hb1) (S4.none.put (bt z (p + 1)).toNat)
                unfold st5 at hit2 hrow2 hbel2
                go_wp2
                go_meet
                case rel => exact ⟨p + 2, false, S4.none.put (bt z (p + 1)).toNat, by omega, by omega, by go_num, hit2, hrow2, hbel2, HN⟩
            · have it := item_last z p 0 h92 (by rw [HZ.out]; exact hlt) (by rw [HZ.out]; exact hp1)
              have HN : Hid (Read z (its ++ [(false, S4.none.put (92 : Int).toNat)]) (p + 1)) := read_some HR.out (by rw [HZ.out]; exact hlt) h42 it.2 (fun x hx => by rw [one_has 92 x (by omega) (by omega) hx, (item_last z p x h92 (by rw [HZ.out]; exact hlt) (by rw [HZ.out]; exact hp1)).1, h92])
              clear h42 h63 h92 it
              go_wp2_with fail
              refine (with_zero 92 _ (by omega) (by omega)).mono ?_
              rintro e w1 ⟨rfl, hb1⟩
              have hit1 := (it_zero v).kept hb1 (by simp)
              have i0 := hit1.c0
              have i1c := hit1.c1
              have i2 := hit1.c2
              have i3 := hit1.c3
              have i4 := hit1.c4
              have ifz := hit1.fz
              have hit2 := hit1.st5 (S4.none.put (92 : Int).toNat)
              have hrow2 := row_call hrow (by simpa using hb1) (S4.none.put (92 : Int).toNat)
              have hbel2 := bel_call hbel (by omega) (by simpa using hb1) (S4.none.put (92 : Int).toNat)
              unfold st5 at hit2 hrow2 hbel2
              go_wp2
              go_meet
              case rel => exact ⟨p + 1, false, S4.none.put (92 : Int).toNat, by omega, by omega, by go_num, hit2, hrow2, hbel2, HN⟩
          have t92 : (bt z p == 92) = false := by simp [h92]
          by_cases h91 : bt z p = 91
          · have t91 : (bt z p == 91) = true := by simp [h91]
            clear h42 h63 h92
            have hbr : b < v.heap.size := Nat.lt_of_lt_of_le hbw hbel.size
            have HCR : Hid (∀ j, j < n → v.cell? ⟨b, off + j, none⟩ = some (.int .u8 (bt z j))) := fun j hj => (hbel.cell (p := ⟨b, off + j, none⟩) hbw).trans (HC.out j hj)
            have H91 := hide h91
            by_cases hx : p + 1 < n
            · have cn := HCR.out (p + 1) hx
              have cn2 : (v.alloc (.cells #[.bool false, .int .u64 0, .int .u64 0, .int .u64 0, .int .u64 0] 34)).cell? ⟨b, off + (p + 1), none⟩ = some (.int .u8 (bt z (p + 1))) := by
                rw [World.cell?_of_block (w := v) (Below.heap_alloc _ _ _ hbr)]; exact cn
              obtain ⟨neg, hneg⟩ : ∃ neg, (bt z (p + 1) == 94) = neg := ⟨_, rfl⟩
              have HNB := hide hneg
              clear h91
              go_upto_if 76 with fail
              go_cut [9, 10] (fun a9 a10 wc => ∃ KK : Nat, p + 1 ≤ KK ∧ KK ≤ n ∧ a9 = .int .i64 KK ∧ a10 = .bool neg ∧ Hid (KK = if neg then p + 2 else p + 1) ∧ wc = v.alloc (.cells #[.bool false, .int .u64 0, .int .u64 0, .int .u64 0, .int .u64 0] 34))
              case first =>
                cases neg
                · go_wp2
                  go_meet
                  case rel => exact ⟨p + 1, by omega, by omega, by go_num, rfl, rfl, rfl⟩
                · go_wp2
                  go_meet
                  case rel => exact ⟨p + 2, by omega, by omega, by go_num, rfl, rfl, rfl⟩
              case rest =>
                obtain ⟨KK, hKK1, hKK2, rfl, rfl, HKK, rfl⟩ := hcut
                clear hneg cn cn2
                go_wp2
                refine class_loop b off n cap KK z v _ HZ hn H8 hbr HCR (by omega) (it_zero2 _ _) (set_zero _ _) (((Below.refl _ _).alloc (Nat.le_refl _) _).alloc (by simp) _) _ ?_
                intro k S wr e79 e80 e81 e82 e83 e84 e85 e86 e87 e88 e89 e90 e91 e92 e93 e94 e95 e96 e97 e98 e99 e100 e101 e102 e103 e104 e105 e106 e107 e108 e109 e110 e111 e112 e113 e114 e115 e116 e117 e118 e119 e120 e121 e122 e123 e124 e125 e126 e127 e128 e129 e130 e131 e132 e133 e134 e135 e136 e137 e138 e139 e140 e141 hk hpk0 hout hit hset hbq HG
                have hpk : p + 1 ≤ k := by omega
                have HCQ : Hid (∀ j, j < n → wr.cell? ⟨b, off + j, none⟩ = some (.int .u8 (bt z j))) := fun j hj => (hbq.cell (p := ⟨b, off + j, none⟩) hbr).trans (HCR.out j hj)
                cases neg
                · have hKKe : KK = p + 1 := by simpa using HKK.out
                  have HG1 : Hid (Gath z (p + 1) k S) := by rw [← hKKe]; exact HG.out
                  have HNEG : Hid (¬ (p + 1 < z.length ∧ bt z (p + 1) = 94)) := fun h => by have := HNB.out; simp [h.2] at this
                  clear hKKe
                  rcases hout with ⟨hkn, h93⟩ | hkn
                  · have HN := hide (read_pos HR.out (by rw [HZ.out]; exact hlt) H91.out HNEG.out (gath_close HG1.out (by rw [HZ.out]; exact hkn) h93))
                    have c0 := HCQ.out k hkn
                    clear h93
                    have i0 := hit.c0
                    have i1c := hit.c1
                    have i2 := hit.c2
                    have i3 := hit.c3
                    have i4 := hit.c4
                    have ifz := hit.fz
                    have s0 := hset.c0
                    have s1 := hset.c1
                    have s2 := hset.c2
                    have s3 := hset.c3
                    have hit2 := hit.st5 S
                    have hrow2 := row_st5 hrow hbq S
                    have hbel2 := bel_st5 hbel (by omega) hbq S
                    unfold st5 at hit2 hrow2 hbel2
                    go_wp2
                    go_meet
                    case rel => exact ⟨k + 1, false, S, by omega, by omega, by go_num, hit2, hrow2, hbel2, HN⟩
                  · have HN := hide (read_pos HR.out (by rw [HZ.out]; exact hlt) H91.out HNEG.out (gath_end HG1.out (by rw [HZ.out]; exact hkn) (by rw [HZ.out]; exact hk)))
                    have i0 := hit.c0
                    have i1c := hit.c1
                    have i2 := hit.c2
                    have i3 := hit.c3
                    have i4 := hit.c4
                    have ifz := hit.fz
                    have s0 := hset.c0
                    have s1 := hset.c1
                    have s2 := hset.c2
                    have s3 := hset.c3
                    have hit2 := hit.st5 S
                    have hrow2 := row_st5 hrow hbq S
                    have hbel2 := bel_st5 hbel (by omega) hbq S
                    unfold st5 at hit2 hrow2 hbel2
                    go_wp2
                    go_meet
                    case rel => exact ⟨k, false, S, by omega, by omega, by go_num, hit2, hrow2, hbel2, HN⟩
                · have hKKe : KK = p + 2 := by simpa using HKK.out
                  have HG1 : Hid (Gath z (p + 2) k S) := by rw [← hKKe]; exact HG.out
                  have HNEG : Hid (p + 1 < z.length ∧ bt z (p + 1) = 94) := ⟨by rw [HZ.out]; exact hx, by simpa using HNB.out⟩
                  clear hKKe
                  rcases hout with ⟨hkn, h93⟩ | hkn
                  · have HN := hide (read_neg HR.out (by rw [HZ.out]; exact hlt) H91.out HNEG.out (gath_close HG1.out (by rw [HZ.out]; exact hkn) h93))
                    have c0 := HCQ.out k hkn
                    clear h93
                    have s0 := hset.c0
                    have s1 := hset.c1
                    have s2 := hset.c2
                    have s3 := hset.c3
                    have sfz := hset.fz
                    have n0 := bits_not S.a
                    have n1 := bits_not S.b
                    have n2 := bits_not S.c
                    have n3 := bits_not S.d
                    go_wp2
                    refine wp_loop_rounds 5 ?_
                    rw [rounds_succ]; go_wp2
                    rw [rounds_succ]; go_wp2
                    rw [rounds_succ]; go_wp2
                    rw [rounds_succ]; go_wp2
                    have hset5 := hset.st4 S.not
                    have hit5 := hit.to (st4_other wr (v.heap.size + 1) v.heap.size S.not (by omega))
                    have hbq5 := below_st4 hbq (show v.heap.size ≤ v.heap.size + 1 by omega) S.not
                    obtain ⟨w5, hw5⟩ : ∃ w5, w5 = st4 wr (v.heap.size + 1) S.not := ⟨_, rfl⟩
                    rw [← hw5] at hset5 hit5 hbq5
                    unfold st4 S4.not at hw5
                    rw [← hw5]
                    clear hw5 s0 s1 s2 s3 sfz n0 n1 n2 n3 hset hit hbq
                    have i0 := hit5.c0
                    have i1c := hit5.c1
                    have i2 := hit5.c2
                    have i3 := hit5.c3
                    have i4 := hit5.c4
                    have ifz := hit5.fz
                    have s0 := hset5.c0
                    have s1 := hset5.c1
                    have s2 := hset5.c2
                    have s3 := hset5.c3
                    have hit2 := hit5.st5 S.not
                    have hrow2 := row_st5 hrow hbq5 S.not
                    have hbel2 := bel_st5 hbel (by omega) hbq5 S.not
                    unfold st5 at hit2 hrow2 hbel2
                    rw [rounds_succ]; go_wp2
                    go_meet
                    case rel => exact ⟨k + 1, false, S.not, by omega, by omega, by go_num, hit2, hrow2, hbel2, HN⟩
                  · have HN := hide (read_neg HR.out (by rw [HZ.out]; exact hlt) H91.out HNEG.out (gath_end HG1.out (by rw [HZ.out]; exact hkn) (by rw [HZ.out]; exact hk)))
                    have s0 := hset.c0
                    have s1 := hset.c1
                    have s2 := hset.c2
                    have s3 := hset.c3
                    have sfz := hset.fz
                    have n0 := bits_not S.a
                    have n1 := bits_not S.b
                    have n2 := bits_not S.c
                    have n3 := bits_not S.d
                    go_wp2
                    refine wp_loop_rounds 5 ?_
                    rw [rounds_succ]; go_wp2
                    rw [rounds_succ]; go_wp2
                    rw [rounds_succ]; go_wp2
                    rw [rounds_succ]; go_wp2
                    have hset5 := hset.st4 S.not
                    have hit5 := hit.to (st4_other wr (v.heap.size + 1) v.heap.size S.not (by omega))
                    have hbq5 := below_st4 hbq (show v.heap.size ≤ v.heap.size + 1 by omega) S.not
                    obtain ⟨w5, hw5⟩ : ∃ w5, w5 = st4 wr (v.heap.size + 1) S.not := ⟨_, rfl⟩
                    rw [← hw5] at hset5 hit5 hbq5
                    unfold st4 S4.not at hw5
                    rw [← hw5]
                    clear hw5 s0 s1 s2 s3 sfz n0 n1 n2 n3 hset hit hbq
                    have i0 := hit5.c0
                    have i1c := hit5.c1
                    have i2 := hit5.c2
                    have i3 := hit5.c3
                    have i4 := hit5.c4
                    have ifz := hit5.fz
                    have s0 := hset5.c0
                    have s1 := hset5.c1
                    have s2 := hset5.c2
                    have s3 := hset5.c3
                    have hit2 := hit5.st5 S.not
                    have hrow2 := row_st5 hrow hbq5 S.not
                    have hbel2 := bel_st5 hbel (by omega) hbq5 S.not
                    unfold st5 at hit2 hrow2 hbel2
                    rw [rounds_succ]; go_wp2
                    go_meet
                    case rel => exact ⟨k, false, S.not, by omega, by omega, by go_num, hit2, hrow2, hbel2, HN⟩
            · have HNEG : Hid (¬ (p + 1 < n ∧ bt z (p + 1) = 94)) := fun h => hx h.1
              clear h91
              go_wp2
              refine class_loop b off n cap (p + 1) z v _ HZ hn H8 hbr HCR (by omega) (it_zero2 _ _) (set_zero _ _) (((Below.refl _ _).alloc (Nat.le_refl _) _).alloc (by simp) _) _ ?_
              intro k S wr e79 e80 e81 e82 e83 e84 e85 e86 e87 e88 e89 e90 e91 e92 e93 e94 e95 e96 e97 e98 e99 e100 e101 e102 e103 e104 e105 e106 e107 e108 e109 e110 e111 e112 e113 e114 e115 e116 e117 e118 e119 e120 e121 e122 e123 e124 e125 e126 e127 e128 e129 e130 e131 e132 e133 e134 e135 e136 e137 e138 e139 e140 e141 hk hpk0 hout hit hset hbq HG
              have hpk : p + 1 ≤ k := hpk0
              have HN := hide (read_pos HR.out (by rw [HZ.out]; exact hlt) H91.out (by rw [HZ.out]; exact HNEG.out) (gath_end HG.out (by rw [HZ.out]; omega) (by rw [HZ.out]; exact hk)))
              have i0 := hit.c0
              have i1c := hit.c1
              have i2 := hit.c2
              have i3 := hit.c3
              have i4 := hit.c4
              have ifz := hit.fz
              have s0 := hset.c0
              have s1 := hset.c1
              have s2 := hset.c2
              have s3 := hset.c3
              have hit2 := hit.st5 S
              have hrow2 := row_st5 hrow hbq S
              have hbel2 := bel_st5 hbel (by omega) hbq S
              unfold st5 at hit2 hrow2 hbel2
              go_wp2
              go_meet
              case rel => exact ⟨k, false, S, by omega, by omega, by go_num, hit2, hrow2, hbel2, HN⟩
          have t91 : (bt z p == 91) = false := by simp [h91]
          have x8 := H8.out p hlt
          have HN : Hid (Read z (its ++ [(false, S4.none.put (bt z p).toNat)]) (p + 1)) := read_some HR.out (by rw [HZ.out]; exact hlt) h42 (item_lit z p 0 h92 h63 h91 (by rw [HZ.out]; exact hlt)).2 (fun x hx => by rw [one_has (bt z p) x x8.1 x8.2 hx, (item_lit z p x h92 h63 h91 (by rw [HZ.out]; exact hlt)).1])
          clear h42 h63 h92 h91
          go_wp2_with fail
          refine (with_zero (bt z p) _ x8.1 x8.2).mono ?_
          rintro e w1 ⟨rfl, hb1⟩
          have hit1 := (it_zero v).kept hb1 (by simp)
          have i0 := hit1.c0
          have i1c := hit1.c1
          have i2 := hit1.c2
          have i3 := hit1.c3
          have i4 := hit1.c4
          have ifz := hit1.fz
          have hit2 := hit1.st5 (S4.none.put (bt z p).toNat)
          have hrow2 := row_call hrow (by simpa using hb1) (S4.none.put (bt z p).toNat)
          have hbel2 := bel_call hbel (by omega) (by simpa using hb1) (S4.none.put (bt z p).toNat)
          unfold st5 at hit2 hrow2 hbel2
          go_wp2
          go_meet
          case rel => exact ⟨p + 1, false, S4.none.put (bt z p).toNat, by omega, by omega, by go_num, hit2, hrow2, hbel2, HN⟩
      case rest =>
        obtain ⟨q, st, S, hpq, hq, rfl, hit, hrow2, hbel2, HN⟩ := hcut
        clear hc0
        have k0 := hit.c0
        have k1 := hit.c1
        have k2 := hit.c2
        have k3 := hit.c3
        have k4 := hit.c4
        have hsz2 := hbel2.size
        go_wp2_with (at_builtin; refine wpList_append_fits _ rfl (.tmp 168) (.tmp 170) 28 rfl w.heap.size 34 i1 5 Try.underlying28 hi hz1 w.heap.size its.length n _ rfl (hrow2.alloc _) ⟨_, 0, none⟩ 1 1 [.bool st, .int .u64 (wd S.a), .int .u64 (wd S.b), .int .u64 (wd S.c), .int .u64 (wd S.d)] rfl rfl (new_five_at _ _ _ _ _ _ _ (by simp)) (one_five _ _ _ _ _) (by omega) ?_; intro w2 hown2 hgrow2)
        have hb2 := below_app hbel2 hsz2 hgrow2
        have hown3 := fin_row (st := st) (S := S) hown2
        clear hown2 hgrow2
        go_roundw
        case rel => exact ⟨q, its ++ [(st, S)], by omega, by simp; omega, rfl, slot_len _ _ _ _, hown3, hb2, owns_lt' hown3, HN⟩
        case measure => simp [intOf]; omega
    · go_wp2
      go_ret
      exact ⟨its, rfl, hrow, read_end HR.out (by rw [HZ.out]; omega), hbel⟩
end Go.Proofs.Qxb6628398a
