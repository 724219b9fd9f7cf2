/-
  WHAT THE ROWS' CONDITION GIVES THE WALKS: the table of powers of ten; and that the door's own heap meets it.
-/
import Derived.Test.Qxb6602065aDoorRows
import Derived.Test.Qxb6602065aDoorFmt
import Derived.ProofKit
import Derived.LaidMore
import Derived.OpenShut
import Derived.ShutString
import Derived.Stop.Joined
import Derived.WalkSmall
namespace Go.Proofs.Qxb6602065aDoor
open Go.ChangeShapes Go.WideShapes Go.ChangeAt Go.RowKit
set_option linter.unusedVariables false

theorem own : ownKnob Tryd.prog.godebug = none := by kernel_rfl
theorem gPow : Tryd.prog.globalNamed tabName = some 0 := by kernel_rfl
theorem tPow : (Tryd.prog.globals[0]?).map (fun g => g.type) = some 62 := by kernel_rfl
theorem c22 : Tryd.prog.cellsOf 22 = 1 := by kernel_rfl
theorem c62 : Tryd.prog.cellsOf 62 = 20 := by kernel_rfl
theorem dPow : (Rows.laid_internal_strconv_uint64pow10 : DataW Unit) = Lib.tabData .u64 Lib.pow10Tab := by kernel_rfl

/-- The listed variables. -/
def laid3 : List (String × DataW Unit) := Rows.fnCutETagReadsETagRow.laid

theorem of_laid {W : World} (h : laidMetH Tryd.prog laid3 W) : Tab W := by
  rw [MakeChecks.laidMetH_plain _ _ _ (by kernel_rfl)] at h
  obtain ⟨ps, ⟨g0, t0, cs0, f0, p0, q0, hg0, ht0, hv0, hd0, ⟨g1, t1, cs1, f1, p1, q1, hg1, ht1, hv1, hd1, ⟨g2, t2, cs2, f2, p2, q2, hg2, ht2, hv2, hd2, _, _⟩, _⟩, _⟩, _, _⟩ := h
  obtain rfl := Option.some.inj (gPow.symm.trans hg2)
  obtain rfl := Option.some.inj (tPow.symm.trans ht2)
  rw [dPow] at hd2
  show W.var? Tryd.prog tabName = _
  rw [← Lib.cells_of_tab Tryd.underlying62 Tryd.underlying22 c22 c62 hd2]
  exact hv2

theorem Tab.below {W w : World} (h : Tab W) (hb : Below W.heap.size W w) : Tab w :=
  var?_below hb gPow (by
    rcases Nat.lt_or_ge 0 W.heap.size with h' | h'
    · exact h'
    · exfalso
      unfold Tab Lib.TabIs World.var? at h
      rw [gPow] at h
      simp only [Option.bind_some] at h
      rw [Array.getElem?_eq_none h'] at h
      cases h) h

end Go.Proofs.Qxb6602065aDoor
