/-
  The condition on the listed variables ('laid'), which the five rows share: a start that meets it; what it gives the walks.
-/
import Derived.Test.Qxb6000604aDoorRows
import Derived.Test.Qxb6000604aDoorTie
import Derived.ProofKit
import Derived.LaidMore
import Derived.OpenShut
import Derived.Stop.Joined
import Derived.Stop.LaidErr
import Derived.Lib.LaidTab
namespace Go.Proofs.Qxb6000604aDoor
open Go.ChangeShapes Go.WideShapes Go.ChangeAt Go.RowKit

theorem own : ownKnob Tryd.prog.godebug = none := by kernel_rfl
theorem laidOut : laidOutB Tryd.prog = true := by kernel_rfl

/-- The list of the five rows: one and the same. -/
def laid5 : List (String × DataW Unit) := Rows.fnUnescapeRoundTripRow.laid

theorem door_met (os : Os) (args : Array Value) : laidMetH Tryd.prog laid5 ((World.doorLaid Tryd.prog 62 os).forCall (fun _ _ => 0) ⟨#[], args, []⟩).memory :=
  laidMetH_of_parts3 (fuel := 8) (laidMet_of_run' 8 (by kernel_rfl) (by kernel_rfl)) (by kernel_rfl) (by kernel_rfl)

theorem plain_of {W : World} (h : laidMetH Tryd.prog laid5 W) : laidMet Tryd.prog laid5 W := by
  rw [MakeChecks.laidMetH_plain _ _ _ (by kernel_rfl)] at h
  exact h

/-- strconv.ErrSyntax holds an interface value. -/
theorem errSyntax_of {W : World} (h : laidMetH Tryd.prog laid5 W) : ∃ te pe, W.cell? ⟨0, 0, none⟩ = some (.iface te pe) := by
  have hL := (plain_of h).tail.tail.tail.tail
  obtain ⟨a0, s0, hv0, -, -, -⟩ := laid_sentinel hL (g := 0) (tp := 66) (te := 68) (ti := 41) (by kernel_rfl) (by kernel_rfl) Tryd.underlying41 (fun u hu => typeName_ptr_named (nm := "errors.errorString") (tp := 66) (by kernel_rfl) (by kernel_rfl) (by decide) u (hu.trans (by decide))) Tryd.underlying66 Tryd.underlying68 rfl rfl Tryd.underlying9 (by kernel_rfl) (by kernel_rfl)
  exact ⟨_, _, by have h0 := World.var?_cell (g := 0) (by kernel_rfl) hv0 0; simpa using h0⟩

theorem range_of_wf {z : List Int} (h : ∀ n ∈ z, (Lit.int .u8 n).wf = true) : ∀ n ∈ z, 0 ≤ n ∧ n ≤ 255 := fun n hn => by
  have := h n hn
  have e1 : IntKind.u8.min = 0 := rfl
  have e2 : IntKind.u8.max = 255 := rfl
  simp [Lit.wf, e1, e2] at this
  omega
end Go.Proofs.Qxb6000604aDoor
