/-
  What the listed variable hex.ErrLength holds when the call begins, and a world in which it holds that. No statement is proved here.
-/
import Derived.Test.YtlokpenjafhhfaaDoorRows
import Derived.WalkKit
import Derived.ProofKit
import Derived.Stop.LaidErr
import Derived.LaidLaws
import Derived.LaidHandle
import Derived.LaidMore
namespace Go.Proofs.YtlokpenjafhhfaaDoor.door
open Go.RowKit

theorem gE : Tryd.prog.globalNamed "encoding/hex.ErrLength" = some 2 := by kernel_rfl
theorem gEType : (Tryd.prog.globals[2]?).map (·.type) = some 52 := by kernel_rfl
theorem cellsS : Tryd.prog.cellsOf 92 = 1 := by kernel_rfl
theorem cells9 : Tryd.prog.cellsOf 9 = 1 := by kernel_rfl
theorem star : "*" ++ "errors.errorString" = "*errors.errorString" := by decide
theorem rowP (u : TypeId) (h : Tryd.prog.typeName? 3 u = some "*errors.errorString") : u = 73 :=
  typeName_ptr_named (nm := "errors.errorString") (by rw [star]; kernel_rfl) (by kernel_rfl) (by decide) u (by rw [star]; exact h)

/-- the variable's cell: an error that is a pointer to errors.errorString -/
theorem held {W : World} (h : laidMet Tryd.prog [("encoding/hex.ErrLength", Rows.laid_encoding_hex_ErrLength)] W) : ∃ a : Addr, W.cell? ⟨2, 0, none⟩ = some (.iface 73 (.pointer (some a))) := by
  obtain ⟨a, s, hv, _, _, _⟩ := laid_sentinel h gE gEType Tryd.underlying52 rowP Tryd.underlying73 Tryd.underlying92 rfl rfl Tryd.underlying9 cellsS cells9
  exact ⟨a, by simpa using World.var?_cell gE hv 0⟩

abbrev lengthS : ByteArray := { data := #[101, 110, 99, 111, 100, 105, 110, 103, 47, 104, 101, 120, 58, 32, 111, 100, 100, 32, 108, 101, 110, 103, 116, 104, 32, 104, 101, 120, 32, 115, 116, 114, 105, 110, 103] }
noncomputable def low : Nat := (World.holding Tryd.prog default ⟨#[], #[], []⟩).heap.size
noncomputable def laidWorld (os : Os) : World :=
  let w0 := World.holding Tryd.prog os ⟨#[.cells #[.string lengthS] 92], #[], []⟩
  { w0 with heap := w0.heap.modify 2 fun
      | .cells _ t frozen => .cells #[.iface 73 (.pointer (some ⟨low, 0, none⟩))] t frozen
      | o => o }
set_option maxRecDepth 100000 in
theorem laid_met (os : Os) (args : Array Value) : laidMet Tryd.prog [("encoding/hex.ErrLength", Rows.laid_encoding_hex_ErrLength)] ((laidWorld os).forCall (fun _ _ => 0) ⟨#[], args, []⟩).memory :=
  laidMet_of_run (ps := [.cell 2 0, .cell low 0]) 8 (by kernel_rfl) (by kernel_rfl) (by kernel_rfl)
end Go.Proofs.YtlokpenjafhhfaaDoor.door
