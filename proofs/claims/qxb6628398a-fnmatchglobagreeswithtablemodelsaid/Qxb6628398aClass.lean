import Derived.Test.Qxb6628398aItems
import Derived.Deep.RegionWith
import Derived.Deep.DrawnRows
namespace Go.Proofs.Qxb6628398a
open Go.ChangeShapes Go.WideShapes Go.ChangeAt Go.RowKit
open Pl
attribute [local go_sem ↓] Go.wp_at_zero Go.wp_at_succ

/-- The bodies of a text's loops, in the order in which they stand. -/
def loopsOf : Code → List Code
  | .loop c => c :: loopsOf c
  | .seq a b => loopsOf a ++ loopsOf b
  | .block _ c => loopsOf c
  | .scope c => loopsOf c
  | .cond _ a b => loopsOf a ++ loopsOf b
  | _ => []
/-- The loop that gathers a class. -/
noncomputable def body3 : Code := (((Try.f13.body.map loopsOf).getD [])[2]?).getD .skip

/-- The loop ends by its own way out alone. -/
def Qx (R : Act → World → Prop) (e : Exit) (a : Act) (w : World) : Prop :=
  match e with
  | .exit n => n = 4 ∧ R a w
  | _ => False

set_option maxRecDepth 100000 in
set_option maxHeartbeats 4000000 in
theorem class_loop_in (b off n cap KK : Nat) (z : List Int) (v v2 : World) (HZ : Hid (z.length = n)) (hn : n ≤ 1048576) (H8 : Hid (∀ j, j < n → 0 ≤ bt z j ∧ bt z j < 256)) (hbr : b < v.heap.size)
    (HCR : Hid (∀ j, j < n → v.cell? ⟨b, off + j, none⟩ = some (.int .u8 (bt z j)))) (hKK : KK ≤ n)
    (hit0 : ItIn v2 v.heap.size false S4.none) (hset0 : SetIn v2 (v.heap.size + 1) S4.none) (hbq0 : Below v.heap.size v v2)
    {d1 d2 d4 d5 d6 d7 d8 d10 d12 d13 d14 d15 d16 d17 d18 d19 d20 d21 d22 d23 d24 d25 d26 d27 d28 d29 d30 d31 d32 d33 d34 d35 d36 d37 d38 d39 d40 d41 d42 d43 d44 d45 d46 d47 d48 d49 d50 d51 d52 d53 d54 d55 d56 d57 d58 d59 d60 d61 d62 d63 d64 d65 d66 d67 d68 d69 d70 d71 d72 d73 d74 d75 d76 d77 d78 d142 d143 d144 d145 d146 d147 d148 d149 d150 d151 d152 d153 d154 d155 d156 d157 d158 d159 d160 d161 d162 d163 d164 d165 d166 d167 d168 d169 d170 d171 d172 : Value} {s79 s80 s81 s82 s83 s84 s85 s86 s87 s88 s89 s90 s91 s92 s93 s94 s95 s96 s97 s98 s99 s100 s101 s102 s103 s104 s105 s106 s107 s108 s109 s110 s111 s112 s113 s114 s115 s116 s117 s118 s119 s120 s121 s122 s123 s124 s125 s126 s127 s128 s129 s130 s131 s132 s133 s134 s135 s136 s137 s138 s139 s140 s141 : Value} (R : Act → World → Prop)
    (HX : Hid (∀ (k : Nat) (S : S4) (wq : World) (e79 e80 e81 e82 e83 e84 e85 e86 e87 e88 e89 e90 e91 e92 e93 e94 e95 e96 e97 e98 e99 e100 e101 e102 e103 e104 e105 e106 e107 e108 e109 e110 e111 e112 e113 e114 e115 e116 e117 e118 e119 e120 e121 e122 e123 e124 e125 e126 e127 e128 e129 e130 e131 e132 e133 e134 e135 e136 e137 e138 e139 e140 e141 : Value), k ≤ n → KK ≤ k → ((k < n ∧ bt z k = 93) ∨ n ≤ k) → ItIn wq v.heap.size false S4.none → SetIn wq (v.heap.size + 1) S → Below v.heap.size v wq → Hid (Gath z KK k S) →
      R ⟨(List.toArray (.slice (some ⟨b, off, none⟩) n cap :: d1 :: d2 :: .int .i64 n :: d4 :: d5 :: d6 :: d7 :: d8 :: .int .i64 k :: d10 :: .pointer (some ⟨v.heap.size + 1, 0, none⟩) :: d12 :: d13 :: d14 :: d15 :: d16 :: d17 :: d18 :: d19 :: d20 :: d21 :: d22 :: d23 :: d24 :: d25 :: d26 :: d27 :: d28 :: d29 :: d30 :: d31 :: d32 :: d33 :: d34 :: d35 :: d36 :: d37 :: d38 :: d39 :: d40 :: d41 :: d42 :: d43 :: d44 :: d45 :: d46 :: d47 :: d48 :: d49 :: d50 :: d51 :: d52 :: d53 :: d54 :: d55 :: d56 :: d57 :: d58 :: d59 :: d60 :: d61 :: d62 :: d63 :: d64 :: d65 :: d66 :: d67 :: d68 :: d69 :: d70 :: d71 :: d72 :: d73 :: d74 :: d75 :: d76 :: d77 :: d78 :: e79 :: e80 :: e81 :: e82 :: e83 :: e84 :: e85 :: e86 :: e87 :: e88 :: e89 :: e90 :: e91 :: e92 :: e93 :: e94 :: e95 :: e96 :: e97 :: e98 :: e99 :: e100 :: e101 :: e102 :: e103 :: e104 :: e105 :: e106 :: e107 :: e108 :: e109 :: e110 :: e111 :: e112 :: e113 :: e114 :: e115 :: e116 :: e117 :: e118 :: e119 :: e120 :: e121 :: e122 :: e123 :: e124 :: e125 :: e126 :: e127 :: e128 :: e129 :: e130 :: e131 :: e132 :: e133 :: e134 :: e135 :: e136 :: e137 :: e138 :: e139 :: e140 :: e141 :: d142 :: d143 :: d144 :: d145 :: d146 :: d147 :: d148 :: d149 :: d150 :: d151 :: d152 :: d153 :: d154 :: d155 :: d156 :: d157 :: d158 :: d159 :: d160 :: d161 :: d162 :: d163 :: d164 :: d165 :: d166 :: d167 :: d168 :: d169 :: d170 :: d171 :: d172 :: [])), []⟩ wq)) :
    Code.wp Try.prog (Code.loop body3) (Qx R) ⟨(List.toArray (.slice (some ⟨b, off, none⟩) n cap :: d1 :: d2 :: .int .i64 n :: d4 :: d5 :: d6 :: d7 :: d8 :: .int .i64 KK :: d10 :: .pointer (some ⟨v.heap.size + 1, 0, none⟩) :: d12 :: d13 :: d14 :: d15 :: d16 :: d17 :: d18 :: d19 :: d20 :: d21 :: d22 :: d23 :: d24 :: d25 :: d26 :: d27 :: d28 :: d29 :: d30 :: d31 :: d32 :: d33 :: d34 :: d35 :: d36 :: d37 :: d38 :: d39 :: d40 :: d41 :: d42 :: d43 :: d44 :: d45 :: d46 :: d47 :: d48 :: d49 :: d50 :: d51 :: d52 :: d53 :: d54 :: d55 :: d56 :: d57 :: d58 :: d59 :: d60 :: d61 :: d62 :: d63 :: d64 :: d65 :: d66 :: d67 :: d68 :: d69 :: d70 :: d71 :: d72 :: d73 :: d74 :: d75 :: d76 :: d77 :: d78 :: s79 :: s80 :: s81 :: s82 :: s83 :: s84 :: s85 :: s86 :: s87 :: s88 :: s89 :: s90 :: s91 :: s92 :: s93 :: s94 :: s95 :: s96 :: s97 :: s98 :: s99 :: s100 :: s101 :: s102 :: s103 :: s104 :: s105 :: s106 :: s107 :: s108 :: s109 :: s110 :: s111 :: s112 :: s113 :: s114 :: s115 :: s116 :: s117 :: s118 :: s119 :: s120 :: s121 :: s122 :: s123 :: s124 :: s125 :: s126 :: s127 :: s128 :: s129 :: s130 :: s131 :: s132 :: s133 :: s134 :: s135 :: s136 :: s137 :: s138 :: s139 :: s140 :: s141 :: d142 :: d143 :: d144 :: d145 :: d146 :: d147 :: d148 :: d149 :: d150 :: d151 :: d152 :: d153 :: d154 :: d155 :: d156 :: d157 :: d158 :: d159 :: d160 :: d161 :: d162 :: d163 :: d164 :: d165 :: d166 :: d167 :: d168 :: d169 :: d170 :: d171 :: d172 :: [])), []⟩ v2 := by
  conv => arg 2; arg 1; whnf
  go_loopw [9] (fun a9 wq => ∃ (k : Nat) (S : S4), k ≤ n ∧ KK ≤ k ∧ a9 = .int .i64 k ∧ ItIn wq v.heap.size false S4.none ∧ SetIn wq (v.heap.size + 1) S ∧ Below v.heap.size v wq ∧ Hid (Gath z KK k S)) (fun a9 _ => n - (intOf a9).toNat)
  case atStart => exact ⟨KK, S4.none, by omega, by omega, rfl, hit0, hset0, hbq0, gath_start z KK⟩
  case round =>
    clear hit0 hset0 hbq0
    obtain ⟨k, S, hk, hpk, rfl, hit, hset, hbq, HG⟩ := hrel
    have HCQ : Hid (∀ j, j < n → wr.cell? ⟨b, off + j, none⟩ = some (.int .u8 (bt z j))) := fun j hj => (hbq.cell (p := ⟨b, off + j, none⟩) hbr).trans (HCR.out j hj)
    by_cases hin : k < n ∧ bt z k ≠ 93
    · obtain ⟨hkn, h93⟩ := hin
      have c0 := HCQ.out k hkn
      have t93 : (bt z k != 93) = true := by simp [h93]
      have x8k := H8.out k hkn
      have y0a : (k : Int) < (n : Int) := by omega
      have s0 := hset.c0
      have s1 := hset.c1
      have s2 := hset.c2
      have s3 := hset.c3
      by_cases hesc : bt z k = 92 ∧ k + 1 < n
      · obtain ⟨k92, hk1⟩ := hesc
        have tk92 : (bt z k == 92) = true := by simp [k92]
        have c1 := HCQ.out (k + 1) hk1
        have x8 := H8.out (k + 1) hk1
        have H92 := hide k92
        have y1a : (k : Int) + 1 < (n : Int) := by omega
        have y1b : (0 : Int) ≤ (k : Int) + 1 := by omega
        have y1c : ((k : Int) + 1).toNat = k + 1 := by omega
        have y1d : IntKind.i64.wrap ((k : Int) + 1) = (k : Int) + 1 := by rw [IntKind.wrap_i64]; omega
        clear k92 h93
        go_wp2_with fail
        go_region_with (go_at_call 16; refine (with_call S (bt z (k + 1)) _ x8.1 x8.2).mono ?_; rintro e w1 ⟨rfl, hb0⟩; have hb1 := drew_call hb0; have hset1 := hset.kept hb1 hset.lt; have p0 := hset1.c0; have p1 := hset1.c1; have p2 := hset1.c2; have p3 := hset1.c3; have pf := hset1.fz)
        all_goals
          have hit2 : ItIn (st4 w1 (v.heap.size + 1) (S.put (bt z (k + 1)).toNat)) v.heap.size false S4.none := (hit.kept hb1 hit.lt).to (st4_other _ _ _ _ (by omega))
          have hset2 := hset1.st4 (S.put (bt z (k + 1)).toNat)
          have hbq2 := below_st4 (hbq.trans (hb1.mono hbq.size)) (show v.heap.size ≤ v.heap.size + 1 by omega) (S.put (bt z (k + 1)).toNat)
          have HG2 : Hid (Gath z KK (k + 2) (S.put (bt z (k + 1)).toNat)) := gath_esc HG.out (by rw [HZ.out]; exact hk1) H92.out x8.1 x8.2
          go_wp2
          go_roundw
          case rel => exact ⟨k + 2, S.put (bt z (k + 1)).toNat, by omega, by omega, by go_num, hit2, hset2, hbq2, HG2⟩
          case measure => simp [intOf]; omega
      · by_cases hrg : k + 2 < n ∧ bt z (k + 1) = 45
        · obtain ⟨hk2, k45⟩ := hrg
          have k92 : bt z k ≠ 92 := fun h => hesc ⟨h, by omega⟩
          have tk92 : (bt z k == 92) = false := by simp [k92]
          have tk45 : (bt z (k + 1) == 45) = true := by simp [k45]
          have c1 := HCQ.out (k + 1) (by omega)
          have c2 := HCQ.out (k + 2) hk2
          have x8 := x8k
          have z8 := H8.out (k + 2) hk2
          have H93 := hide h93
          have H92 := hide k92
          have H45 := hide k45
          have y2a : (k : Int) + 2 < (n : Int) := by omega
          have y2b : (0 : Int) ≤ (k : Int) + 2 := by omega
          have y2c : ((k : Int) + 2).toNat = k + 2 := by omega
          have y2d : IntKind.i64.wrap ((k : Int) + 2) = (k : Int) + 2 := by rw [IntKind.wrap_i64]; omega
          clear k92 h93 k45 hesc
          go_wp2_with fail
          go_region_with (go_at_call 17; refine (range_call S (bt z k) (bt z (k + 2)) _ x8.1 x8.2 z8.1 z8.2).mono ?_; rintro e w1 ⟨S', rfl, HS', hb0⟩; have hb1 := drew_call hb0; have hset1 := hset.kept hb1 hset.lt; have p0 := hset1.c0; have p1 := hset1.c1; have p2 := hset1.c2; have p3 := hset1.c3; have pf := hset1.fz)
          all_goals
            have hit2 : ItIn (st4 w1 (v.heap.size + 1) (S')) v.heap.size false S4.none := (hit.kept hb1 hit.lt).to (st4_other _ _ _ _ (by omega))
            have hset2 := hset1.st4 (S')
            have hbq2 := below_st4 (hbq.trans (hb1.mono hbq.size)) (show v.heap.size ≤ v.heap.size + 1 by omega) (S')
            have HG2 : Hid (Gath z KK (k + 3) (S')) := gath_range HG.out (by rw [HZ.out]; exact hk2) H93.out H92.out H45.out HS'.out
            go_wp2
            go_roundw
            case rel => exact ⟨k + 3, S', by omega, by omega, by go_num, hit2, hset2, hbq2, HG2⟩
            case measure => simp [intOf]; omega
        · have x8 := x8k
          have HG1 := hide (gath_one HG.out (by rw [HZ.out]; exact hkn) h93 (by rw [HZ.out]; exact hesc) (by rw [HZ.out]; exact hrg) x8.1 x8.2)
          have hways : (bt z k = 92 ∧ n ≤ k + 1) ∨ (bt z k ≠ 92 ∧ n ≤ k + 2) ∨ (bt z k ≠ 92 ∧ k + 2 < n ∧ bt z (k + 1) ≠ 45) := by omega
          clear h93 hesc hrg
          rcases hways with ⟨h92k, x1⟩ | ⟨h92k, x1⟩ | ⟨h92k, x1, h45⟩
          · have tk92 : (bt z k == 92) = true := by simp [h92k]
            clear h92k
            go_wp2_with fail
            go_region_with (go_at_call 16; refine (with_call S (bt z k) _ x8.1 x8.2).mono ?_; rintro e w1 ⟨rfl, hb0⟩; have hb1 := drew_call hb0; have hset1 := hset.kept hb1 hset.lt; have p0 := hset1.c0; have p1 := hset1.c1; have p2 := hset1.c2; have p3 := hset1.c3; have pf := hset1.fz)
            all_goals
              have hit2 : ItIn (st4 w1 (v.heap.size + 1) (S.put (bt z k).toNat)) v.heap.size false S4.none := (hit.kept hb1 hit.lt).to (st4_other _ _ _ _ (by omega))
              have hset2 := hset1.st4 (S.put (bt z k).toNat)
              have hbq2 := below_st4 (hbq.trans (hb1.mono hbq.size)) (show v.heap.size ≤ v.heap.size + 1 by omega) (S.put (bt z k).toNat)
              have HG2 : Hid (Gath z KK (k + 1) (S.put (bt z k).toNat)) := HG1
              go_wp2
              go_roundw
              case rel => exact ⟨k + 1, S.put (bt z k).toNat, by omega, by omega, by go_num, hit2, hset2, hbq2, HG2⟩
              case measure => simp [intOf]; omega
          · have tk92 : (bt z k == 92) = false := by simp [h92k]
            clear h92k
            go_wp2_with fail
            go_region_with (go_at_call 16; refine (with_call S (bt z k) _ x8.1 x8.2).mono ?_; rintro e w1 ⟨rfl, hb0⟩; have hb1 := drew_call hb0; have hset1 := hset.kept hb1 hset.lt; have p0 := hset1.c0; have p1 := hset1.c1; have p2 := hset1.c2; have p3 := hset1.c3; have pf := hset1.fz)
            all_goals
              have hit2 : ItIn (st4 w1 (v.heap.size + 1) (S.put (bt z k).toNat)) v.heap.size false S4.none := (hit.kept hb1 hit.lt).to (st4_other _ _ _ _ (by omega))
              have hset2 := hset1.st4 (S.put (bt z k).toNat)
              have hbq2 := below_st4 (hbq.trans (hb1.mono hbq.size)) (show v.heap.size ≤ v.heap.size + 1 by omega) (S.put (bt z k).toNat)
              have HG2 : Hid (Gath z KK (k + 1) (S.put (bt z k).toNat)) := HG1
              go_wp2
              go_roundw
              case rel => exact ⟨k + 1, S.put (bt z k).toNat, by omega, by omega, by go_num, hit2, hset2, hbq2, HG2⟩
              case measure => simp [intOf]; omega
          · have tk92 : (bt z k == 92) = false := by simp [h92k]
            have tk45 : (bt z (k + 1) == 45) = false := by simp [h45]
            have c1 := HCQ.out (k + 1) (by omega)
            clear h92k h45
            go_wp2_with fail
            go_region_with (go_at_call 16; refine (with_call S (bt z k) _ x8.1 x8.2).mono ?_; rintro e w1 ⟨rfl, hb0⟩; have hb1 := drew_call hb0; have hset1 := hset.kept hb1 hset.lt; have p0 := hset1.c0; have p1 := hset1.c1; have p2 := hset1.c2; have p3 := hset1.c3; have pf := hset1.fz)
            all_goals
              have hit2 : ItIn (st4 w1 (v.heap.size + 1) (S.put (bt z k).toNat)) v.heap.size false S4.none := (hit.kept hb1 hit.lt).to (st4_other _ _ _ _ (by omega))
              have hset2 := hset1.st4 (S.put (bt z k).toNat)
              have hbq2 := below_st4 (hbq.trans (hb1.mono hbq.size)) (show v.heap.size ≤ v.heap.size + 1 by omega) (S.put (bt z k).toNat)
              have HG2 : Hid (Gath z KK (k + 1) (S.put (bt z k).toNat)) := HG1
              go_wp2
              go_roundw
              case rel => exact ⟨k + 1, S.put (bt z k).toNat, by omega, by omega, by go_num, hit2, hset2, hbq2, HG2⟩
              case measure => simp [intOf]; omega
    · have hout : (k < n ∧ bt z k = 93) ∨ n ≤ k := by omega
      clear hin
      rcases hout with ⟨hkn, h93⟩ | hkn
      · have c0 := HCQ.out k hkn
        have t93 : (bt z k != 93) = false := by simp [h93]
        have H93 := hide h93
        clear h93
        go_wp2
        exact ⟨rfl, HX.out k S wr _ _ _ _ _ _ _ _ _ _ _ _ _ _ _ _ _ _ _ _ _ _ _ _ _ _ _ _ _ _ _ _ _ _ _ _ _ _ _ _ _ _ _ _ _ _ _ _ _ _ _ _ _ _ _ _ _ _ _ _ _ _ _ hk hpk (.inl ⟨hkn, H93.out⟩) hit hset hbq HG⟩
      · go_wp2
        exact ⟨rfl, HX.out k S wr _ _ _ _ _ _ _ _ _ _ _ _ _ _ _ _ _ _ _ _ _ _ _ _ _ _ _ _ _ _ _ _ _ _ _ _ _ _ _ _ _ _ _ _ _ _ _ _ _ _ _ _ _ _ _ _ _ _ _ _ _ _ _ hk hpk (.inr hkn) hit hset hbq HG⟩

set_option maxRecDepth 100000 in
set_option maxHeartbeats 4000000 in
theorem class_loop (b off n cap KK : Nat) (z : List Int) (v v2 : World) (HZ : Hid (z.length = n)) (hn : n ≤ 1048576) (H8 : Hid (∀ j, j < n → 0 ≤ bt z j ∧ bt z j < 256)) (hbr : b < v.heap.size)
    (HCR : Hid (∀ j, j < n → v.cell? ⟨b, off + j, none⟩ = some (.int .u8 (bt z j)))) (hKK : KK ≤ n)
    (hit0 : ItIn v2 v.heap.size false S4.none) (hset0 : SetIn v2 (v.heap.size + 1) S4.none) (hbq0 : Below v.heap.size v v2)
    {d1 d2 d4 d5 d6 d7 d8 d10 d12 d13 d14 d15 d16 d17 d18 d19 d20 d21 d22 d23 d24 d25 d26 d27 d28 d29 d30 d31 d32 d33 d34 d35 d36 d37 d38 d39 d40 d41 d42 d43 d44 d45 d46 d47 d48 d49 d50 d51 d52 d53 d54 d55 d56 d57 d58 d59 d60 d61 d62 d63 d64 d65 d66 d67 d68 d69 d70 d71 d72 d73 d74 d75 d76 d77 d78 d142 d143 d144 d145 d146 d147 d148 d149 d150 d151 d152 d153 d154 d155 d156 d157 d158 d159 d160 d161 d162 d163 d164 d165 d166 d167 d168 d169 d170 d171 d172 : Value} {s79 s80 s81 s82 s83 s84 s85 s86 s87 s88 s89 s90 s91 s92 s93 s94 s95 s96 s97 s98 s99 s100 s101 s102 s103 s104 s105 s106 s107 s108 s109 s110 s111 s112 s113 s114 s115 s116 s117 s118 s119 s120 s121 s122 s123 s124 s125 s126 s127 s128 s129 s130 s131 s132 s133 s134 s135 s136 s137 s138 s139 s140 s141 : Value} (Q0 : Exit → Act → World → Prop)
    (HX : Hid (∀ (k : Nat) (S : S4) (wq : World) (e79 e80 e81 e82 e83 e84 e85 e86 e87 e88 e89 e90 e91 e92 e93 e94 e95 e96 e97 e98 e99 e100 e101 e102 e103 e104 e105 e106 e107 e108 e109 e110 e111 e112 e113 e114 e115 e116 e117 e118 e119 e120 e121 e122 e123 e124 e125 e126 e127 e128 e129 e130 e131 e132 e133 e134 e135 e136 e137 e138 e139 e140 e141 : Value), k ≤ n → KK ≤ k → ((k < n ∧ bt z k = 93) ∨ n ≤ k) → ItIn wq v.heap.size false S4.none → SetIn wq (v.heap.size + 1) S → Below v.heap.size v wq → Hid (Gath z KK k S) →
      Q0 (.exit 4) ⟨(List.toArray (.slice (some ⟨b, off, none⟩) n cap :: d1 :: d2 :: .int .i64 n :: d4 :: d5 :: d6 :: d7 :: d8 :: .int .i64 k :: d10 :: .pointer (some ⟨v.heap.size + 1, 0, none⟩) :: d12 :: d13 :: d14 :: d15 :: d16 :: d17 :: d18 :: d19 :: d20 :: d21 :: d22 :: d23 :: d24 :: d25 :: d26 :: d27 :: d28 :: d29 :: d30 :: d31 :: d32 :: d33 :: d34 :: d35 :: d36 :: d37 :: d38 :: d39 :: d40 :: d41 :: d42 :: d43 :: d44 :: d45 :: d46 :: d47 :: d48 :: d49 :: d50 :: d51 :: d52 :: d53 :: d54 :: d55 :: d56 :: d57 :: d58 :: d59 :: d60 :: d61 :: d62 :: d63 :: d64 :: d65 :: d66 :: d67 :: d68 :: d69 :: d70 :: d71 :: d72 :: d73 :: d74 :: d75 :: d76 :: d77 :: d78 :: e79 :: e80 :: e81 :: e82 :: e83 :: e84 :: e85 :: e86 :: e87 :: e88 :: e89 :: e90 :: e91 :: e92 :: e93 :: e94 :: e95 :: e96 :: e97 :: e98 :: e99 :: e100 :: e101 :: e102 :: e103 :: e104 :: e105 :: e106 :: e107 :: e108 :: e109 :: e110 :: e111 :: e112 :: e113 :: e114 :: e115 :: e116 :: e117 :: e118 :: e119 :: e120 :: e121 :: e122 :: e123 :: e124 :: e125 :: e126 :: e127 :: e128 :: e129 :: e130 :: e131 :: e132 :: e133 :: e134 :: e135 :: e136 :: e137 :: e138 :: e139 :: e140 :: e141 :: d142 :: d143 :: d144 :: d145 :: d146 :: d147 :: d148 :: d149 :: d150 :: d151 :: d152 :: d153 :: d154 :: d155 :: d156 :: d157 :: d158 :: d159 :: d160 :: d161 :: d162 :: d163 :: d164 :: d165 :: d166 :: d167 :: d168 :: d169 :: d170 :: d171 :: d172 :: [])), []⟩ wq)) :
    Code.wp Try.prog (Code.loop body3) Q0 ⟨(List.toArray (.slice (some ⟨b, off, none⟩) n cap :: d1 :: d2 :: .int .i64 n :: d4 :: d5 :: d6 :: d7 :: d8 :: .int .i64 KK :: d10 :: .pointer (some ⟨v.heap.size + 1, 0, none⟩) :: d12 :: d13 :: d14 :: d15 :: d16 :: d17 :: d18 :: d19 :: d20 :: d21 :: d22 :: d23 :: d24 :: d25 :: d26 :: d27 :: d28 :: d29 :: d30 :: d31 :: d32 :: d33 :: d34 :: d35 :: d36 :: d37 :: d38 :: d39 :: d40 :: d41 :: d42 :: d43 :: d44 :: d45 :: d46 :: d47 :: d48 :: d49 :: d50 :: d51 :: d52 :: d53 :: d54 :: d55 :: d56 :: d57 :: d58 :: d59 :: d60 :: d61 :: d62 :: d63 :: d64 :: d65 :: d66 :: d67 :: d68 :: d69 :: d70 :: d71 :: d72 :: d73 :: d74 :: d75 :: d76 :: d77 :: d78 :: s79 :: s80 :: s81 :: s82 :: s83 :: s84 :: s85 :: s86 :: s87 :: s88 :: s89 :: s90 :: s91 :: s92 :: s93 :: s94 :: s95 :: s96 :: s97 :: s98 :: s99 :: s100 :: s101 :: s102 :: s103 :: s104 :: s105 :: s106 :: s107 :: s108 :: s109 :: s110 :: s111 :: s112 :: s113 :: s114 :: s115 :: s116 :: s117 :: s118 :: s119 :: s120 :: s121 :: s122 :: s123 :: s124 :: s125 :: s126 :: s127 :: s128 :: s129 :: s130 :: s131 :: s132 :: s133 :: s134 :: s135 :: s136 :: s137 :: s138 :: s139 :: s140 :: s141 :: d142 :: d143 :: d144 :: d145 :: d146 :: d147 :: d148 :: d149 :: d150 :: d151 :: d152 :: d153 :: d154 :: d155 :: d156 :: d157 :: d158 :: d159 :: d160 :: d161 :: d162 :: d163 :: d164 :: d165 :: d166 :: d167 :: d168 :: d169 :: d170 :: d171 :: d172 :: [])), []⟩ v2 := by
  refine Code.wp_mono (Q := Qx (fun a w => Q0 (.exit 4) a w)) ?_ (class_loop_in b off n cap KK z v v2 HZ hn H8 hbr HCR hKK hit0 hset0 hbq0 _ HX)
  intro e a w h
  cases e <;> first | exact h.elim | (obtain ⟨rfl, h⟩ := h; exact h)
end Go.Proofs.Qxb6628398a
