/-
  What the rows' cell 'laid' gives the walks: strconv's two error variables hold values of type error. And the door's own heap meets the condition.
-/
import Derived.Test.Qxb6600857aDoorRows
import Derived.Test.Qxb6600857aDoorName
import Derived.ProofKit
import Derived.LaidMore
import Derived.OpenShut
import Derived.ShutString
import Derived.Stop.Joined
namespace Go.Proofs.Qxb6600857aDoor
open Go.ChangeShapes Go.WideShapes Go.ChangeAt Go.RowKit

theorem own : ownKnob Tryd.prog.godebug = none := by kernel_rfl
theorem gBad : Tryd.prog.globalNamed "strconv.ErrSyntax" = some 0 := by kernel_rfl
theorem gFar : Tryd.prog.globalNamed "strconv.ErrRange" = some 1 := by kernel_rfl
theorem tBad : (Tryd.prog.globals[0]?).map (·.type) = some 38 := by kernel_rfl
theorem tFar : (Tryd.prog.globals[1]?).map (·.type) = some 38 := by kernel_rfl

set_option maxRecDepth 100000 in
theorem door_met (os : Os) (args : Array Value) : laidMetH Tryd.prog Rows.fnParseNameReadsWhatHex16WritesRow.laid ((World.doorLaid Tryd.prog 62 os).forCall (fun _ _ => 0) ⟨#[], args, []⟩).memory :=
  laidMetH_of_parts3 (fuel := 8) (laidMet_of_run' 8 (by kernel_rfl) (by kernel_rfl)) (by kernel_rfl) (by kernel_rfl)

theorem of_laid {W : World} (h : laidMetH Tryd.prog Rows.fnParseNameReadsWhatHex16WritesRow.laid W) : IsErr W 0 ∧ IsErr W 1 := by
  rw [MakeChecks.laidMetH_plain _ _ _ (by kernel_rfl)] at h
  obtain ⟨ps, ⟨_, _, _, _, _, _, _, _, _, _, ⟨_, _, _, _, _, _, _, _, _, _, ⟨_, _, _, _, _, _, _, _, _, _, ⟨g1, t1, cs1, f1, p1, q1, hg1, ht1, hv1, hd1, ⟨g0, t0, cs0, f0, p0, q0, hg0, ht0, hv0, hd0, _, _⟩, _⟩, _⟩, _⟩, _⟩, _, _⟩ := h
  obtain rfl := Option.some.inj (gBad.symm.trans hg0)
  obtain rfl := Option.some.inj (gFar.symm.trans hg1)
  obtain rfl := Option.some.inj (tBad.symm.trans ht0)
  obtain rfl := Option.some.inj (tFar.symm.trans ht1)
  constructor
  · obtain ⟨_, u, v, hcs, _, _⟩ := iface_of_trod Tryd.underlying38 hd0
    have := World.var?_cell hg0 hv0 0
    rw [Array.eq_one_of_toList hcs] at this
    exact ⟨_, by simpa using this, .inr ⟨u, v, rfl⟩⟩
  · obtain ⟨_, u, v, hcs, _, _⟩ := iface_of_trod Tryd.underlying38 hd1
    have := World.var?_cell hg1 hv1 0
    rw [Array.eq_one_of_toList hcs] at this
    exact ⟨_, by simpa using this, .inr ⟨u, v, rfl⟩⟩
end Go.Proofs.Qxb6600857aDoor
