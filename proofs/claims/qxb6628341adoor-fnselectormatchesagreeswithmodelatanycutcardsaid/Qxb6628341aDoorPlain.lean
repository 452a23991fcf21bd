import Derived.Test.Qxb6628341aDoorRows
import Derived.WalkKit
import Derived.ProofKit
import Derived.Deep.QuietTactic
import Derived.BigQuiet
import Derived.WalkSpells
import Derived.WalkSmall
import Derived.Lib.ParseIntB
namespace Go.Proofs.Qxb6628341aDoor
open Go.ChangeShapes Go.WideShapes Go.ChangeAt Go.RowKit

theorem hide {p : Prop} (h : p) : Hid p := h
theorem ret_bool {a b : Bool} (h : a = b) : Ending.returned (.bool a) = .returned (.bool b) := by rw [h]

/-- A requirement as it lies in memory: key, operator, the slice of its values, and what those are. -/
structure Rq where
  key : ByteArray
  op : ByteArray
  ad : Option Addr
  len : Nat
  cap : Nat
  vs : List ByteArray
/-- Two strings are one. -/
def eqS (a b : ByteArray) : Bool := a.toList == b.toList
/-- What a key is labelled with: the last pair stands. -/
def look (lb : List (ByteArray × ByteArray)) (k : ByteArray) : Option ByteArray := (lb.reverse.find? (fun p => eqS p.1 k)).map (·.2)
def hasV (vs : List ByteArray) (v : ByteArray) : Bool := vs.any (fun x => eqS x v)
/-- A text read as an int64. -/
def num (s : ByteArray) : Option Int := match Lib.parseIntB 64 s.data.toList with
  | .ok v => some v
  | _ => none
def cmpN (gt : Bool) (a b : Option Int) : Bool := match a, b with
  | some x, some y => if gt then decide (y < x) else decide (x < y)
  | _, _ => false
/-- The documented meaning of one requirement; o: what its key is labelled with. -/
def holds (r : Rq) (o : Option ByteArray) : Bool :=
  if eqS r.op ⟨#[73, 110]⟩ then (match o with | some v => hasV r.vs v | none => false)
  else if eqS r.op ⟨#[78, 111, 116, 73, 110]⟩ then (match o with | some v => !(hasV r.vs v) | none => true)
  else if eqS r.op ⟨#[69, 120, 105, 115, 116, 115]⟩ then o.isSome
  else if eqS r.op ⟨#[68, 111, 101, 115, 78, 111, 116, 69, 120, 105, 115, 116]⟩ then !o.isSome
  else if eqS r.op ⟨#[71, 116]⟩ then (match o with | some v => (if r.len = 1 then cmpN true (num v) (num (r.vs.getD 0 ByteArray.empty)) else false) | none => false)
  else if eqS r.op ⟨#[76, 116]⟩ then (match o with | some v => (if r.len = 1 then cmpN false (num v) (num (r.vs.getD 0 ByteArray.empty)) else false) | none => false)
  else false
/-- A selector's answer. -/
def sel (rs : List Rq) (lb : List (ByteArray × ByteArray)) : Bool := rs.all (fun r => holds r (look lb r.key))

/-! ### labels -/
theorem eqS_iff (a b : ByteArray) : eqS a b = true ↔ a = b := by
  unfold eqS
  rw [beq_iff_eq, ByteArray.toList_eq, ByteArray.toList_eq]
  constructor
  · exact bytes_inj
  · intro h; rw [h]
theorem look_snoc (lb : List (ByteArray × ByteArray)) (p : ByteArray × ByteArray) (k : ByteArray) : look (lb ++ [p]) k = if eqS p.1 k then some p.2 else look lb k := by
  unfold look
  rw [List.reverse_append, List.reverse_singleton, List.singleton_append, List.find?_cons]
  cases e : eqS p.1 k <;> simp
theorem look_nil (k : ByteArray) : look [] k = none := rfl

/-- The label at place i (empty behind the end). -/
def lbAt (lb : List (ByteArray × ByteArray)) (i : Nat) : ByteArray × ByteArray := lb.getD i (ByteArray.empty, ByteArray.empty)
/-- What the labels from place i on say, the last first. -/
theorem look_take_succ (lb : List (ByteArray × ByteArray)) (i : Nat) (h : i < lb.length) (k : ByteArray) : look (lb.take (i + 1)) k = if eqS (lbAt lb i).1 k then some (lbAt lb i).2 else look (lb.take i) k := by
  rw [List.take_succ_eq_append_getElem h, look_snoc]
  simp [lbAt, List.getD_eq_getElem?_getD, h]
def vAt (vs : List ByteArray) (i : Nat) : ByteArray := vs.getD i ByteArray.empty
theorem has_take_succ (vs : List ByteArray) (i : Nat) (h : i < vs.length) (v : ByteArray) : hasV (vs.take (i + 1)) v = (hasV (vs.take i) v || eqS (vAt vs i) v) := by
  unfold hasV
  rw [List.take_succ_eq_append_getElem h, List.any_append]
  simp [vAt, List.getD_eq_getElem?_getD, h]
theorem has_hit (vs : List ByteArray) (i : Nat) (h : i < vs.length) (v : ByteArray) (he : eqS (vAt vs i) v = true) : hasV vs v = true := by
  unfold hasV
  rw [List.any_eq_true]
  refine ⟨vs[i], List.getElem_mem h, ?_⟩
  have : vAt vs i = vs[i] := by simp [vAt, List.getD_eq_getElem?_getD, h]
  rw [← this]; exact he
end Go.Proofs.Qxb6628341aDoor
