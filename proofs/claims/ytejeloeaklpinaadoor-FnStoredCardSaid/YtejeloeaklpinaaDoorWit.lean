/- A world that fits: the listed variables as their initialisers lay them. -/
import Derived.Test.YtejeloeaklpinaaDoorClose2
namespace Go.Proofs.YtejeloeaklpinaaDoor
open Go.ChangeShapes Go.WideShapes Go.ChangeAt Go.RowKit
theorem ownKn : ownKnob Tryd.prog.godebug = none := by kernel_rfl
/-- So many blocks has the settled world. -/
noncomputable def low : Nat := (World.holding Tryd.prog default ⟨#[], #[], []⟩).heap.size
noncomputable def laidWorld (os : Os) : World :=
  let w0 := World.holding Tryd.prog os ⟨#[.cells #[.string ⟨#[69, 79, 70]⟩] 150, .cells #[.string ⟨#[117, 110, 101, 120, 112, 101, 99, 116, 101, 100, 32, 69, 79, 70]⟩] 150, .cells #[.string ⟨#[115, 104, 111, 114, 116, 32, 98, 117, 102, 102, 101, 114]⟩] 150], #[], []⟩
  let put (g : Nat) (c : Array Value) (w : World) : World := { w with heap := w.heap.modify g fun
      | .cells _ t frozen => .cells c t frozen
      | o => o }
  put 0 #[.iface 131 (.pointer (some ⟨low, 0, none⟩))] (put 1 #[.iface 131 (.pointer (some ⟨low + 1, 0, none⟩))] (put 3 #[.iface 131 (.pointer (some ⟨low + 2, 0, none⟩))]
    (put 2 #[.int .i64 16, .int .i64 17, .int .i64 18, .int .i64 0, .int .i64 8, .int .i64 7, .int .i64 9, .int .i64 6, .int .i64 10, .int .i64 5, .int .i64 11, .int .i64 4, .int .i64 12, .int .i64 3, .int .i64 13, .int .i64 2, .int .i64 14, .int .i64 1, .int .i64 15] w0)))
theorem laid_met (os : Os) (args : Array Value) : laidMet Tryd.prog laidL ((laidWorld os).forCall (fun _ _ => 0) ⟨#[], args, []⟩).memory :=
  laidMet_of_run' 8 (by kernel_rfl) (by kernel_rfl)
end Go.Proofs.YtejeloeaklpinaaDoor
