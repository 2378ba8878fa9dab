/- What the rows of the three laws give their walks: io.EOF holds a pointer; and a world in which it does. -/
import Derived.Test.YthjecnbaconfjaaDoorRows
import Derived.Test.YthjecnbaconfjaaDoorWy
import Derived.ProofKit
import Derived.OpenShut
import Derived.Stop.LaidErr
import Derived.Deep.DeepHandedRow
namespace Go.Proofs.YthjecnbaconfjaaDoor
open Go.ChangeShapes Go.WideShapes Go.ChangeAt Go.RowKit

theorem own : ownKnob Tryd.prog.godebug = none := by kernel_rfl
theorem gEof : Tryd.prog.globalNamed "io.EOF" = some 0 := by kernel_rfl
theorem gEofT : (Tryd.prog.globals[0]?).map (·.type) = some 52 := by kernel_rfl
theorem cells93 : Tryd.prog.cellsOf 93 = 1 := by kernel_rfl
theorem cells9 : Tryd.prog.cellsOf 9 = 1 := by kernel_rfl
theorem star : "*" ++ "errors.errorString" = "*errors.errorString" := by decide
theorem row70 (u : TypeId) (h : Tryd.prog.typeName? 3 u = some "*errors.errorString") : u = 70 :=
  typeName_ptr_named (nm := "errors.errorString") (by rw [star]; kernel_rfl) (by kernel_rfl) (by decide) u (by rw [star]; exact h)

theorem eof_of_laid {W : World} (h : laidMetH Tryd.prog [("io.EOF", Rows.laid_io_EOF)] W) : ∃ ea, Eof ea W ∧ 0 < W.heap.size := by
  have h' : laidMet Tryd.prog [("io.EOF", Rows.laid_io_EOF)] W := h
  obtain ⟨ea, _, hv, _⟩ := laid_sentinel h' gEof gEofT Tryd.underlying52 row70 Tryd.underlying70 Tryd.underlying93 rfl rfl Tryd.underlying9 cells93 cells9
  have hc : W.cell? ⟨0, 0, none⟩ = some (.iface 70 (.pointer (some ea))) := by simpa using World.var?_cell gEof hv 0
  exact ⟨ea, hc, Nat.lt_of_le_of_lt (Nat.zero_le _) (World.block_lt_of_cell? W ⟨0, 0, none⟩ hc)⟩

/-- A world for the witness: the settled one, io.EOF holding what its initialiser lays. -/
noncomputable def low : Nat := (World.holding Tryd.prog default ⟨#[], #[], []⟩).heap.size
noncomputable def laidWorld (os : Os) : World :=
  let w0 := World.holding Tryd.prog os ⟨#[.cells #[.string ⟨#[69, 79, 70]⟩] 93], #[], []⟩
  { w0 with heap := w0.heap.modify 0 fun
      | .cells _ t frozen => .cells #[.iface 70 (.pointer (some ⟨low, 0, none⟩))] t frozen
      | o => o }
theorem laid_met (os : Os) (args : Array Value) : laidMet Tryd.prog [("io.EOF", Rows.laid_io_EOF)] ((laidWorld os).forCall (fun _ _ => 0) ⟨#[], args, []⟩).memory :=
  laidMet_of_run' 8 (by kernel_rfl) (by kernel_rfl)
end Go.Proofs.YthjecnbaconfjaaDoor
