/- What the rows' lists of package-level variables give the walks: the table of powers of ten lies in memory. -/
import Derived.Test.YthkmgjkajllemaaDoorRows
import Derived.Test.YthkmgjkajllemaaDoorFint
import Derived.ProofKit
import Derived.LaidMore
import Derived.Lib.LaidTab
namespace Go.Proofs.YthkmgjkajllemaaDoor.Laid
open Go.RowKit
theorem own : ownKnob Tryd.prog.godebug = none := by kernel_rfl
theorem laidOut : laidOutB Tryd.prog = true := by kernel_rfl
theorem gPow : Tryd.prog.globalNamed "given.example/pub-alexandrine/pub/govalues.pow10" = some 0 := by kernel_rfl
theorem gPowType : (Tryd.prog.globals[0]?).map (·.type) = some 112 := by kernel_rfl
theorem cells112 : Tryd.prog.cellsOf 112 = 20 := by kernel_rfl
theorem cells72 : Tryd.prog.cellsOf 72 = 1 := by kernel_rfl

/-- The table's numbers. -/
def zs : List Int := [1, 10, 100, 1000, 10000, 100000, 1000000, 10000000, 100000000, 1000000000, 10000000000, 100000000000, 1000000000000, 10000000000000, 100000000000000, 1000000000000000, 10000000000000000, 100000000000000000, 1000000000000000000, 10000000000000000000]
theorem zs_at (i : Nat) (h : i < 20) : zs.getD i 0 = Fint.p10 i :=
  (show ∀ i : Fin 20, zs.getD i.1 0 = Fint.p10 i.1 by unfold Fint.p10; decide +kernel) ⟨i, h⟩

/-- What the row's list gives the walks. -/
theorem powAt_of_head {W : World} {rest : List (String × DataW Unit)} (h : laidMet Tryd.prog (("given.example/pub-alexandrine/pub/govalues.pow10", Rows.laid_given_example_pub_alexandrine_pub_govalues_pow10) :: rest) W) : Fint.PowAt W := by
  have hT : Lib.TabIs Tryd.prog W "given.example/pub-alexandrine/pub/govalues.pow10" .u64 zs := Lib.tabIs_of_head gPow gPowType Tryd.underlying112 Tryd.underlying72 cells72 cells112 h
  intro i hi
  rw [← zs_at i hi]
  exact hT.cell gPow i hi

end Go.Proofs.YthkmgjkajllemaaDoor.Laid
