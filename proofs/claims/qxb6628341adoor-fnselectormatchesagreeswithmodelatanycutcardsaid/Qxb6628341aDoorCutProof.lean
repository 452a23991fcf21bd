import Derived.Test.Qxb6628341aDoorCutOut
import Derived.Test.Qxb6628341aDoorOpen
import Derived.Test.Qxb6628341aDoorTie
import Derived.Test.Qxb6628341aDoorCards
import Derived.ProofKit
import Derived.LaidMore
import Derived.LaidLaws
import Derived.OpenShut
import Derived.ShutString
import Derived.ChangeOld
import Derived.Below
import Derived.Stop.Joined
import Derived.SevenTiedAt
namespace Go.Proofs.Qxb6628341aDoor.fnSelectorMatchesAgreesWithModelAtAnyCut
open Go.ChangeShapes Go.WideShapes Go.ChangeAt Go.RowKit
open Go.ChangeMaps (open_string shut_string)
set_option linter.unusedVariables false

theorem own : ownKnob Tryd.prog.godebug = none := by kernel_rfl
theorem laidOut : laidOutB Tryd.prog = true := by kernel_rfl
theorem gSyn : Tryd.prog.globalNamed "strconv.ErrSyntax" = some 0 := by kernel_rfl
theorem gRan : Tryd.prog.globalNamed "strconv.ErrRange" = some 1 := by kernel_rfl
theorem tSyn : (Tryd.prog.globals[0]?).map (·.type) = some 52 := by kernel_rfl
theorem tRan : (Tryd.prog.globals[1]?).map (·.type) = some 52 := by kernel_rfl

/-- What the two variables' data give the walk. -/
theorem env_of {W : World} (h : laidMetH Tryd.prog Rows.fnSelectorMatchesAgreesWithModelAtAnyCutRow.laid W) : Env W := by
  rw [MakeChecks.laidMetH_plain _ _ _ (by kernel_rfl)] at h
  obtain ⟨ps, ⟨_, _, _, _, _, _, _, _, _, _, ⟨_, _, _, _, _, _, _, _, _, _, ⟨_, _, _, _, _, _, _, _, _, _, ⟨g3, t3, cs3, f3, p3, q3, hg3, ht3, hv3, hd3, ⟨g4, t4, cs4, f4, p4, q4, hg4, ht4, hv4, hd4, _, _⟩, _⟩, _⟩, _⟩, _⟩, _, _⟩ := h
  obtain rfl := Option.some.inj (gRan.symm.trans hg3)
  obtain rfl := Option.some.inj (gSyn.symm.trans hg4)
  obtain rfl := Option.some.inj (tRan.symm.trans ht3)
  obtain rfl := Option.some.inj (tSyn.symm.trans ht4)
  obtain ⟨_, u3, v3, e3, _, _⟩ := iface_of_trod Tryd.underlying52 hd3
  obtain ⟨_, u4, v4, e4, _, _⟩ := iface_of_trod Tryd.underlying52 hd4
  have k3 := World.var?_cell hg3 hv3 0
  have k4 := World.var?_cell hg4 hv4 0
  rw [Array.eq_one_of_toList e3] at k3
  rw [Array.eq_one_of_toList e4] at k4
  have k3' : W.cell? ⟨1, 0, none⟩ = some (.iface u3 v3) := by simpa using k3
  have k4' : W.cell? ⟨0, 0, none⟩ = some (.iface u4 v4) := by simpa using k4
  exact ⟨block_lt (a := ⟨1, 0, none⟩) k3', ⟨_, k4', .inr ⟨_, _, rfl⟩⟩, _, k3', .inr ⟨_, _, rfl⟩⟩

/-- The door's own heap meets the condition. -/
theorem door_met (os : Os) (args : Array Value) : laidMetH Tryd.prog Rows.fnSelectorMatchesAgreesWithModelAtAnyCutRow.laid ((World.doorLaid Tryd.prog 62 os).forCall (fun _ _ => 0) ⟨#[], args, []⟩).memory :=
  laidMetH_of_parts3 (fuel := 8) (laidMet_of_run' 8 (by kernel_rfl) (by kernel_rfl)) (by kernel_rfl) (by kernel_rfl)

set_option maxRecDepth 100000 in
theorem lifted (os : Os) (started : os.Started) (H : Type) (enc : TypeId × Value → H) :
    ReturnsInHanded {} Tryd.checked os 3 .any (fun w args => (Rows.fnSelectorMatchesAgreesWithModelAtAnyCutSpec.pre enc Tryd.prog Tryd.f3 [] false w args ∧ laidMetH Tryd.prog Rows.fnSelectorMatchesAgreesWithModelAtAnyCutRow.laid w) ∧ sizedMet enc Tryd.prog Tryd.f3 (OpenSpec.ofChange Rows.fnSelectorMatchesAgreesWithModelAtAnyCutSpec) false w args)
      (Rows.fnSelectorMatchesAgreesWithModelAtAnyCutSpec.post enc Tryd.prog Tryd.f3 false true false false) := by
  refine returnsInHanded_of_change_and (C := Tryd.checked) (X := fun w _ => laidMetH Tryd.prog Rows.fnSelectorMatchesAgreesWithModelAtAnyCutRow.laid w) (fun _ _ _ hh h => h.of_heap hh) own started (by kernel_rfl) Tryd.func3
    (ChangeSpec.witness_shaped (enc := enc) (C := Tryd.checked) (os := os) (X := fun w _ => laidMetH Tryd.prog Rows.fnSelectorMatchesAgreesWithModelAtAnyCutRow.laid w) false (World.doorLaid Tryd.prog 62 os) #[.slice none 0 0, .slice none 0 0, .int .i64 0] 8 rfl (World.shaped_of_RefB (by kernel_rfl) (by kernel_rfl)) (by kernel_rfl) (by kernel_rfl) (by kernel_rfl) (door_met os _)) ?_
  intro W base args ds gs before hval0 hW _ _ hL _
  have hval : ∀ (j : Nat) t v, Tryd.f3.params[j]? = some t → args[j]? = some v → Value.okWide Tryd.prog W .any base t v := hval0
  have hW' := hW
  obtain ⟨p, q, hA0, hV, rfl, hfz, hnd⟩ := hW
  have hA : DataW.TrodAll enc Tryd.prog W 0 (fun _ => true) true Tryd.f3.params.toList args.toList ds p := hA0
  rw [Tryd.params3] at hA hval
  obtain ⟨v0, vs0, d0, ds0, p0, q0, hargs, rfl, rfl, h0, r0⟩ := trodAll_cons hA
  obtain ⟨v1, vs1, d1, ds1, p1, q1, rfl, rfl, rfl, h1, r1⟩ := trodAll_cons r0
  obtain ⟨v2, vs2, d2, ds2, p2, q2, rfl, rfl, rfl, h2, r2⟩ := trodAll_cons r1
  obtain ⟨rfl, rfl, rfl⟩ := trodAll_nil r2
  obtain rfl : args = #[v0, v1, v2] := by cases args; simp_all
  obtain ⟨rfl, rfl⟩ := trodVars_none hV
  obtain ⟨a0, len0, cap0, rfl⟩ := okWide_slice Tryd.underlying22 (hval 0 22 v0 rfl rfl)
  obtain ⟨a1, len1, cap1, rfl⟩ := okWide_slice Tryd.underlying23 (hval 1 23 v1 rfl rfl)
  have k0 := h0
  have k1 := h1
  have lt0 : ∀ x ∈ p0, x.block < W.heap.size := by obtain ⟨m, hm⟩ := k0; exact DataW.trod_lt m _ _ _ hm
  have lt1 : ∀ x ∈ p1, x.block < W.heap.size := by obtain ⟨m, hm⟩ := k1; exact DataW.trod_lt m _ _ _ hm
  obtain ⟨rs, e0, w0, w0', m0⟩ : ∃ rs : List Rq, rs.length = len0 ∧ RqsIn W a0 rs ∧ (∀ j, j < len0 → VsIn W (rqAt rs j)) ∧ len0 ≤ maxLen := by
    obtain ⟨fuel, hf⟩ := h0
    exact rqs_open hf
  obtain ⟨lb, e1, w1, m1⟩ : ∃ lb : List (ByteArray × ByteArray), lb.length = len1 ∧ LbsIn W a1 lb ∧ len1 ≤ maxLen := by
    obtain ⟨fuel, hf⟩ := h1
    exact lbs_open hf
  obtain ⟨a2, rfl, rfl, rfl, w2⟩ := open_int Tryd.underlying3 (hval 2 3 v2 rfl rfl) h2
  clear hA0 hval0
  have mx : ∀ n, n ≤ maxLen → n < 9223372036854775808 := fun n h => by unfold maxLen at h; omega
  refine (cut_any a0 a1 len0 cap0 len1 cap1 a2 rs lb W (mx _ m0) (mx _ m1) ⟨e0, e1, w0, w0', w1⟩ (env_of hL)).mono fun e W' ⟨he, bel⟩ => ?_
  subst he
  simp only [List.append_nil] at hW'
  exact ⟨_, rfl, _, _, _, [], _, [], hW', trodAll_mk1 (shut_bool Tryd.underlying4 _), (trodAll_cons_mk (Below.trod laidOut (by kernel_rfl) (of_decide_eq_true (by kernel_rfl)) k0 bel lt0) (trodAll_cons_mk (Below.trod laidOut (by kernel_rfl) (of_decide_eq_true (by kernel_rfl)) k1 bel lt1) (trodAll_cons_mk (shut_int Tryd.underlying3 w2) trodAll_mk0))), rfl, bel.frame _, fun h => by cases h⟩

theorem row_holds : Rows.FnSelectorMatchesAgreesWithModelAtAnyCutSaid :=
  OpenClaim.holds_of_wide 3 Tryd.f3 rfl rfl rfl rfl rfl rfl rfl ⟨rfl, rfl, rfl, rfl, rfl⟩ rfl rfl rfl rfl rfl (by kernel_rfl) Tryd.func3 (by kernel_rfl)
    (of_decide_eq_true (by kernel_rfl)) (by unfold Func.isWrapper; first | (rw [if_pos (by decide +kernel)]; kernel_rfl) | (rw [if_neg (by decide +kernel)]; exact ⟨rfl, rfl⟩))
    (fun os started H enc _ => lifted os started H enc)

/-- THE TIED CARD. -/
theorem proved : Rows.FnSelectorMatchesAgreesWithModelAtAnyCutCardSaid :=
  Claim7.holds_tied_plain_at .later [] [.data, .data, .data, .sentinel, .sentinel] true Rows.fnSelectorMatchesAgreesWithModelAtAnyCutCard.stood.harness true
    row_holds (fun _ h => by cases h) (by kernel_rfl) (fun _ h => by cases h) fnSelectorMatchesAgreesWithModelAtAnyCut_row_tie rfl ⟨rfl, rfl⟩ (by kernel_rfl) rfl
    (fun f fn hf hfn => by
      obtain rfl : f = 3 := Option.some.inj ((show Tryd.prog.funcNamed Rows.fnSelectorMatchesAgreesWithModelAtAnyCutRow.func = some 3 by kernel_rfl).symm.trans hf) |>.symm
      obtain rfl : fn = Tryd.f3 := (Option.some.inj (Tryd.func3.symm.trans hfn)).symm
      exact ⟨by kernel_rfl, fun j t ht => by
        rw [Tryd.params3] at ht
        have hm : t ∈ [22, 23, 3] := by simpa using Array.mem_of_getElem? ht
        have hall : ([22, 23, 3].all fun u => !Tryd.prog.wantsStandIn u) = true := by kernel_rfl
        exact (show Tryd.prog.wantsStandIn t = false by simpa using List.all_eq_true.1 hall t hm)⟩)
    (by kernel_rfl)
end Go.Proofs.Qxb6628341aDoor.fnSelectorMatchesAgreesWithModelAtAnyCut
