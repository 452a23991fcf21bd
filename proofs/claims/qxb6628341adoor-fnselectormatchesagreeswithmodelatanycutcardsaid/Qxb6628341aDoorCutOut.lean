import Derived.Test.Qxb6628341aDoorCut
namespace Go.Proofs.Qxb6628341aDoor
open Go.ChangeShapes Go.WideShapes Go.ChangeAt Go.RowKit

attribute [local go_sem ↓] Go.wp_at_zero Go.wp_at_succ
set_option maxRecDepth 100000 in
set_option maxHeartbeats 2000000 in
theorem cut_out (ra la : Option Addr) (n rcap ln lcap : Nat) (cut : Int) (rs : List Rq) (lb : List (ByteArray × ByteArray)) (w : World)
    (hb : n < 9223372036854775808) (hb2 : ln < 9223372036854775808) (hp : cut < 0 ∨ (n : Int) < cut)
    (h : In0 w ra la n ln rs lb) :
    Calls Tryd.prog 3 #[.slice ra n rcap, .slice la ln lcap, .int .i64 cut] w fun e w' => e = .returned (.bool true) ∧ Below w.heap.size w w' := by
  go_enter Tryd.func3, Tryd.ntmps3
  go_wp2_with fail
  refine (bytes_a ra la n rcap ln lcap cut rs lb w h.hn h.hl hb hb2 h.hq h.hv h.hlb).mono ?_
  rintro e w0 ⟨bl, rfl, rfl, hbl⟩
  cases bl
  · go_wp2
    go_ret
    exact ⟨rfl, Below.refl _ _⟩
  · have hA := hbl rfl
    clear hbl
    go_wp2_with fail
    refine (size_any ra la none n rcap ln lcap 0 0 ⟨#[]⟩ [] rs lb w0 h.hn h.hl rfl hA (by show 0 ≤ _; omega) (by omega) (fun j hj => absurd hj (by omega)) h.hq h.hv h.hlb (fun h0 => absurd h0 (by simp))).mono ?_
    rintro e w1 ⟨bl, rfl, rfl, _⟩
    have hA1 := hA.1
    cases bl
    · go_wp2
      go_ret
      exact ⟨rfl, Below.refl _ _⟩
    · rcases hp with hp | hp
      · go_wp2
        go_ret
        exact ⟨rfl, Below.refl _ _⟩
      · have hp0 : ¬ cut < 0 := by omega
        go_wp2
        go_ret
        exact ⟨rfl, Below.refl _ _⟩
theorem cut_any (ra la : Option Addr) (n rcap ln lcap : Nat) (cut : Int) (rs : List Rq) (lb : List (ByteArray × ByteArray)) (w : World)
    (hb : n < 9223372036854775808) (hb2 : ln < 9223372036854775808)
    (h : In0 w ra la n ln rs lb) (hE : Env w) :
    Calls Tryd.prog 3 #[.slice ra n rcap, .slice la ln lcap, .int .i64 cut] w fun e w' => e = .returned (.bool true) ∧ Below w.heap.size w w' := by
  by_cases hp : cut < 0 ∨ (n : Int) < cut
  · exact cut_out ra la n rcap ln lcap cut rs lb w hb hb2 hp h
  · obtain ⟨q, rfl⟩ : ∃ q : Nat, cut = q := ⟨cut.toNat, by omega⟩
    exact cut_walk ra la n rcap ln lcap q rs lb w hb hb2 (by omega) h hE
end Go.Proofs.Qxb6628341aDoor
