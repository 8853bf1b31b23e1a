/-
  What the condition on the listed variables gives the ParseInt laws: strconv.ErrRange, and the table of powers of ten.
-/
import Derived.Test.Qxb6000604aDoorLaid
import Derived.Test.Qxb6000604aDoorAppInt
namespace Go.Proofs.Qxb6000604aDoor
open Go.RowKit

theorem errRange_of {W : World} (h : laidMetH Tryd.prog laid5 W) : ∃ te pe, W.cell? ⟨1, 0, none⟩ = some (.iface te pe) := by
  have hL := (plain_of h).tail.tail.tail
  obtain ⟨a0, s0, hv0, -, -, -⟩ := laid_sentinel hL (g := 1) (tp := 66) (te := 68) (ti := 41) (by kernel_rfl) (by kernel_rfl) Tryd.underlying41 (fun u hu => typeName_ptr_named (nm := "errors.errorString") (tp := 66) (by kernel_rfl) (by kernel_rfl) (by decide) u (hu.trans (by decide))) Tryd.underlying66 Tryd.underlying68 rfl rfl Tryd.underlying9 (by kernel_rfl) (by kernel_rfl)
  exact ⟨_, _, by have h0 := World.var?_cell (g := 1) (by kernel_rfl) hv0 0; simpa using h0⟩

theorem tab_eq : (Rows.laid_internal_strconv_uint64pow10 : DataW Unit) = Lib.tabData .u64 Lib.pow10Tab := by kernel_rfl

theorem nd_of {W : World} (h : laidMetH Tryd.prog laid5 W) : ND W := by
  have hL := (plain_of h).tail.tail
  have hT := Lib.tabIs_of_head (P := Tryd.prog) (W := W) (k := .u64) (zs := Lib.pow10Tab) (g := 2) (t := 71) (e := 45) (n := 20) (by kernel_rfl) (by kernel_rfl) Tryd.underlying71 Tryd.underlying45 (by kernel_rfl) (by kernel_rfl) (by rw [← tab_eq]; exact hL)
  intro W' u h1 h2 hb
  exact Any.internal_strconv_numDigits Tryd.laysM284 u h1 h2 W' (Lib.tabBelow_of_tabIs hT W' hb)
end Go.Proofs.Qxb6000604aDoor
