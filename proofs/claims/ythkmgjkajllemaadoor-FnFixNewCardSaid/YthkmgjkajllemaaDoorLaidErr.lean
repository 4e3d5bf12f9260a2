/- What the rows' lists of package-level variables give the walks: the package's two errors are none that is nil. -/
import Derived.Test.YthkmgjkajllemaaDoorRows
import Derived.Test.YthkmgjkajllemaaDoorMake
import Derived.ProofKit
import Derived.LaidMore
import Derived.Stop.LaidErr
namespace Go.Proofs.YthkmgjkajllemaaDoor.LaidErr
open Go.RowKit

theorem star : "*errors.errorString" = "*" ++ "errors.errorString" := rfl
theorem row140 (u : TypeId) (h : Tryd.prog.typeName? 3 u = some "*errors.errorString") : u = 140 :=
  typeName_ptr_named (nm := "errors.errorString") (by rw [← star]; kernel_rfl) (by kernel_rfl) (by decide) u (by rw [← star]; exact h)
theorem gRange : Tryd.prog.globalNamed "given.example/pub-alexandrine/pub/govalues.errScaleRange" = some 2 := by kernel_rfl
theorem gRangeType : (Tryd.prog.globals[2]?).map (·.type) = some 76 := by kernel_rfl
theorem gOver : Tryd.prog.globalNamed "given.example/pub-alexandrine/pub/govalues.errDecimalOverflow" = some 3 := by kernel_rfl
theorem gOverType : (Tryd.prog.globals[3]?).map (·.type) = some 76 := by kernel_rfl
theorem cells142 : Tryd.prog.cellsOf 142 = 1 := by kernel_rfl
theorem cells9 : Tryd.prog.cellsOf 9 = 1 := by kernel_rfl

theorem errAt_of_head {W : World} {rest : List (String × DataW Unit)}
    (h : laidMet Tryd.prog (("given.example/pub-alexandrine/pub/govalues.errDecimalOverflow", Rows.laid_given_example_pub_alexandrine_pub_govalues_errDecimalOverflow) :: ("given.example/pub-alexandrine/pub/govalues.errScaleRange", Rows.laid_given_example_pub_alexandrine_pub_govalues_errScaleRange) :: rest) W) : Make.ErrAt W := by
  obtain ⟨a0, s0, hv0, _, _, _⟩ := laid_sentinel h gOver gOverType Tryd.underlying76 row140 Tryd.underlying140 Tryd.underlying142 rfl rfl Tryd.underlying9 cells142 cells9
  obtain ⟨a1, s1, hv1, _, _, _⟩ := laid_sentinel h.tail gRange gRangeType Tryd.underlying76 row140 Tryd.underlying140 Tryd.underlying142 rfl rfl Tryd.underlying9 cells142 cells9
  have h3 := World.var?_cell gOver hv0 0
  have h2 := World.var?_cell gRange hv1 0
  exact ⟨⟨_, _, h2⟩, ⟨_, _, h3⟩, World.block_lt_of_cell? W _ h3⟩
end Go.Proofs.YthkmgjkajllemaaDoor.LaidErr
