import Derived.Test.Qxb6628341aDoorOne
namespace Go.Proofs.Qxb6628341aDoor
open Go.ChangeShapes Go.WideShapes Go.ChangeAt Go.RowKit

attribute [local go_sem ↓] Go.wp_at_zero Go.wp_at_succ
set_option maxRecDepth 100000 in
set_option maxHeartbeats 2000000 in
theorem one_out (ra la va : Option Addr) (n rcap ln lcap vn vcap : Nat) (pos : Int) (key : ByteArray) (vs : List ByteArray) (rs : List Rq) (lb : List (ByteArray × ByteArray)) (w : World)
    (hb : n < 9223372036854775808) (hb2 : ln < 9223372036854775808) (hb3 : vn < 9223372036854775808) (hvn : vs.length = vn) (hp : pos < 0 ∨ (n : Int) < pos)
    (h : In0 w ra la n ln rs lb) (hS : StrsIn w va vs) :
    Calls Tryd.prog 4 #[.slice ra n rcap, .slice la ln lcap, .string key, .slice va vn vcap, .int .i64 pos] w fun e w' => e = .returned (.bool true) ∧ Below w.heap.size w w' := by
  go_enter Tryd.func4, Tryd.ntmps4
  go_wp2_with fail
  refine (bytes_o ra la va n rcap ln lcap vn vcap pos key vs rs lb w h.hn h.hl hvn hb hb2 hb3 h.hq h.hv h.hlb hS).mono ?_
  rintro e w0 ⟨bl, rfl, rfl, hbl⟩
  cases bl
  · go_wp2
    go_ret
    exact ⟨rfl, Below.refl _ _⟩
  · obtain ⟨hA, hK, hV1, hV2⟩ := hbl rfl
    clear hbl
    go_wp2_with fail
    refine (size_any ra la va n rcap ln lcap vn vcap key vs rs lb w0 h.hn h.hl hvn hA hK hV1 hV2 h.hq h.hv h.hlb hS).mono ?_
    rintro e w1 ⟨bl, rfl, rfl, _⟩
    have hA1 := hA.1
    cases bl
    · go_wp2
      go_ret
      exact ⟨rfl, Below.refl _ _⟩
    · rcases hp with hp | hp
      · go_wp2
        go_ret
        exact ⟨rfl, Below.refl _ _⟩
      · have hp0 : ¬ pos < 0 := by omega
        go_wp2
        go_ret
        exact ⟨rfl, Below.refl _ _⟩
theorem one_any (ra la va : Option Addr) (n rcap ln lcap vn vcap : Nat) (pos : Int) (key : ByteArray) (vs : List ByteArray) (rs : List Rq) (lb : List (ByteArray × ByteArray)) (w : World)
    (hb : n < 9223372036854775808) (hb2 : ln < 9223372036854775808) (hb3 : vn < 9223372036854775808) (hvn : vs.length = vn)
    (h : In0 w ra la n ln rs lb) (hS : StrsIn w va vs) (hE : Env w) :
    Calls Tryd.prog 4 #[.slice ra n rcap, .slice la ln lcap, .string key, .slice va vn vcap, .int .i64 pos] w fun e w' => e = .returned (.bool true) ∧ Below w.heap.size w w' := by
  by_cases hp : pos < 0 ∨ (n : Int) < pos
  · exact one_out ra la va n rcap ln lcap vn vcap pos key vs rs lb w hb hb2 hb3 hvn hp h hS
  · obtain ⟨q, rfl⟩ : ∃ q : Nat, pos = q := ⟨pos.toNat, by omega⟩
    exact one_walk ra la va n rcap ln lcap vn vcap q key vs rs lb w hb hb2 hb3 hvn (by omega) h hS hE
end Go.Proofs.Qxb6628341aDoor
