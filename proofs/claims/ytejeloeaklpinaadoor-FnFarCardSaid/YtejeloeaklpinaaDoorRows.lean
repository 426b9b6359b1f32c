/-
  NARROWER THAN 'FOR EVERY INPUT', by the rows' own cells (each row's printed sentence says how): FnCuts: laid · FnFar: laid · FnInflate: laid · FnKind: laid · FnStored: laid · FnReset: laid.
  DERIVED. THE GIVEN ROWS OF THIS SEAT. 6 by the template 'for every input the law returns true; each argument reads behind the call as it read before'; 0 by the template 'total and deterministic' (their statements: YtejeloeaklpinaaDoorTotals.lean).
  GIVEN WITH THE SEED: the statements are not yours to turn. If you find one false, say at which input.
  Laid BY PROGRAM, IN A SANDBOX (cutbox-rows.mjs): the forced cells as the released guide's own fill.sh prints them over the translation 3ec8741edb2d2672… (all of the seat's roots in one cut). By AI agents, Wed Nov 11 2026. No macro, syntax, notation, axiom, sorry.
-/
import Derived.Test.YtejeloeaklpinaaDoorChecked
import GoSem.Claim
import GoSem.ClaimJoined
import GoSem.ClaimMapViews
import Derived.JoinedTies
import Derived.KernelRfl
namespace Go.Proofs.YtejeloeaklpinaaDoor
/- THE CELL 'sum', in the pinned program and in every row, IS THE sha256 OF THE DUMP (.gsa) THAT YtejeloeaklpinaaDoorProg.lean LOADS. Nothing in Lean hashes anything: it is a label: what it is worth is what the hold of that sum in a sandbox is worth. -/
noncomputable def Tryd.pinned : Pinned := { name := "ytejeloeaklpinaadoor", sum := "3ec8741edb2d26720b8d52881095c3da2c6f8ac8098d34508fb163c4fb1f101e", checked := Tryd.checked }
namespace Rows
def none {H : Type} : Left H := { results := [], args := [] }

/- WHAT THE LISTED PACKAGE-LEVEL VARIABLES READ AS WHEN THE CALL BEGINS. Each datum BY PROGRAM (the guide's laid-datum.mjs) off the statement by which the dump's own 'gosem.cut.vars' lays the variable. In a bare row this is a premise. The card (YtejeloeaklpinaaDoorCards.lean) ties it to the program's text. -/
def laid_io_ErrShortBuffer {H : Type} : DataW H := .iface "*errors.errorString" (.ptr (.agg [.lit (.string [115, 104, 111, 114, 116, 32, 98, 117, 102, 102, 101, 114])]))
def laid_io_EOF {H : Type} : DataW H := .iface "*errors.errorString" (.ptr (.agg [.lit (.string [69, 79, 70])]))
def laid_io_ErrUnexpectedEOF {H : Type} : DataW H := .iface "*errors.errorString" (.ptr (.agg [.lit (.string [117, 110, 101, 120, 112, 101, 99, 116, 101, 100, 32, 69, 79, 70])]))
def laid_loop_example_pub_g03122_pub_flate_codeOrder {H : Type} : DataW H := .agg [.lit (.int .i64 16), .lit (.int .i64 17), .lit (.int .i64 18), .lit (.int .i64 0), .lit (.int .i64 8), .lit (.int .i64 7), .lit (.int .i64 9), .lit (.int .i64 6), .lit (.int .i64 10), .lit (.int .i64 5), .lit (.int .i64 11), .lit (.int .i64 4), .lit (.int .i64 12), .lit (.int .i64 3), .lit (.int .i64 13), .lit (.int .i64 2), .lit (.int .i64 14), .lit (.int .i64 1), .lit (.int .i64 15)]

/-- 'laws.FnCuts': WHATEVER THE INPUT: true; the input reads as it did. -/
def fnCutsSpec : ChangeSpec := { name := "fnCuts", vars := ["loop.example/pub-g03122/pub/flate.codeOrder"], fn := fun _ => fun
  | [d1, d2, d3, g1] => { results := [.lit (.bool true)], args := [d1, d2, d3], vars := [g1] }
  | _ => none }
def fnCutsRow : OpenClaim := { program := "ytejeloeaklpinaadoor", sum := "3ec8741edb2d26720b8d52881095c3da2c6f8ac8098d34508fb163c4fb1f101e", func := "loop.example/pub-g03122/laws.FnCuts", spec := "fnCuts", unfollowed := true, recurses := true, named := ["io.EOF", "io.ErrUnexpectedEOF", "io.ErrShortBuffer", "loop.example/pub-g03122/pub/flate.codeOrder"], apart := false, laid := [("io.ErrShortBuffer", laid_io_ErrShortBuffer), ("io.EOF", laid_io_EOF), ("io.ErrUnexpectedEOF", laid_io_ErrUnexpectedEOF), ("loop.example/pub-g03122/pub/flate.codeOrder", laid_loop_example_pub_g03122_pub_flate_codeOrder)] }
def FnCutsSaid : Prop := fnCutsRow.holds Tryd.pinned (OpenSpec.ofChange fnCutsSpec)

/-- ITS FALSE NEIGHBOUR: 'it returns false'. Refute it at one input. -/
def fnCutsWrong : ChangeSpec := { name := "fnCuts", vars := ["loop.example/pub-g03122/pub/flate.codeOrder"], fn := fun _ => fun
  | [d1, d2, d3, g1] => { results := [.lit (.bool false)], args := [d1, d2, d3], vars := [g1] }
  | _ => none }
def FnCutsWrongFalsely : Prop := fnCutsRow.holds Tryd.pinned (OpenSpec.ofChange fnCutsWrong)

/-- 'laws.FnFar': WHATEVER THE INPUT: true; the input reads as it did. -/
def fnFarSpec : ChangeSpec := { name := "fnFar", vars := ["loop.example/pub-g03122/pub/flate.codeOrder"], fn := fun _ => fun
  | [d, g1] => { results := [.lit (.bool true)], args := [d], vars := [g1] }
  | _ => none }
def fnFarRow : OpenClaim := { program := "ytejeloeaklpinaadoor", sum := "3ec8741edb2d26720b8d52881095c3da2c6f8ac8098d34508fb163c4fb1f101e", func := "loop.example/pub-g03122/laws.FnFar", spec := "fnFar", unfollowed := true, recurses := true, named := ["io.EOF", "io.ErrUnexpectedEOF", "io.ErrShortBuffer", "loop.example/pub-g03122/pub/flate.codeOrder"], apart := false, laid := [("io.ErrShortBuffer", laid_io_ErrShortBuffer), ("io.EOF", laid_io_EOF), ("io.ErrUnexpectedEOF", laid_io_ErrUnexpectedEOF), ("loop.example/pub-g03122/pub/flate.codeOrder", laid_loop_example_pub_g03122_pub_flate_codeOrder)] }
def FnFarSaid : Prop := fnFarRow.holds Tryd.pinned (OpenSpec.ofChange fnFarSpec)

/-- ITS FALSE NEIGHBOUR: 'it returns false'. Refute it at one input. -/
def fnFarWrong : ChangeSpec := { name := "fnFar", vars := ["loop.example/pub-g03122/pub/flate.codeOrder"], fn := fun _ => fun
  | [d, g1] => { results := [.lit (.bool false)], args := [d], vars := [g1] }
  | _ => none }
def FnFarWrongFalsely : Prop := fnFarRow.holds Tryd.pinned (OpenSpec.ofChange fnFarWrong)

/-- 'laws.FnInflate': WHATEVER THE INPUT: true; the input reads as it did. -/
def fnInflateSpec : ChangeSpec := { name := "fnInflate", vars := ["loop.example/pub-g03122/pub/flate.codeOrder"], fn := fun _ => fun
  | [d1, d2, g1] => { results := [.lit (.bool true)], args := [d1, d2], vars := [g1] }
  | _ => none }
def fnInflateRow : OpenClaim := { program := "ytejeloeaklpinaadoor", sum := "3ec8741edb2d26720b8d52881095c3da2c6f8ac8098d34508fb163c4fb1f101e", func := "loop.example/pub-g03122/laws.FnInflate", spec := "fnInflate", unfollowed := true, recurses := true, named := ["io.EOF", "io.ErrUnexpectedEOF", "io.ErrShortBuffer", "loop.example/pub-g03122/pub/flate.codeOrder"], apart := false, laid := [("io.ErrShortBuffer", laid_io_ErrShortBuffer), ("io.EOF", laid_io_EOF), ("io.ErrUnexpectedEOF", laid_io_ErrUnexpectedEOF), ("loop.example/pub-g03122/pub/flate.codeOrder", laid_loop_example_pub_g03122_pub_flate_codeOrder)] }
def FnInflateSaid : Prop := fnInflateRow.holds Tryd.pinned (OpenSpec.ofChange fnInflateSpec)

/-- ITS FALSE NEIGHBOUR: 'it returns false'. Refute it at one input. -/
def fnInflateWrong : ChangeSpec := { name := "fnInflate", vars := ["loop.example/pub-g03122/pub/flate.codeOrder"], fn := fun _ => fun
  | [d1, d2, g1] => { results := [.lit (.bool false)], args := [d1, d2], vars := [g1] }
  | _ => none }
def FnInflateWrongFalsely : Prop := fnInflateRow.holds Tryd.pinned (OpenSpec.ofChange fnInflateWrong)

/-- 'laws.FnKind': WHATEVER THE INPUT: true; the input reads as it did. -/
def fnKindSpec : ChangeSpec := { name := "fnKind", vars := ["loop.example/pub-g03122/pub/flate.codeOrder"], fn := fun _ => fun
  | [d1, d2, g1] => { results := [.lit (.bool true)], args := [d1, d2], vars := [g1] }
  | _ => none }
def fnKindRow : OpenClaim := { program := "ytejeloeaklpinaadoor", sum := "3ec8741edb2d26720b8d52881095c3da2c6f8ac8098d34508fb163c4fb1f101e", func := "loop.example/pub-g03122/laws.FnKind", spec := "fnKind", unfollowed := true, recurses := true, named := ["io.EOF", "io.ErrUnexpectedEOF", "io.ErrShortBuffer", "loop.example/pub-g03122/pub/flate.codeOrder"], apart := false, laid := [("io.ErrShortBuffer", laid_io_ErrShortBuffer), ("io.EOF", laid_io_EOF), ("io.ErrUnexpectedEOF", laid_io_ErrUnexpectedEOF), ("loop.example/pub-g03122/pub/flate.codeOrder", laid_loop_example_pub_g03122_pub_flate_codeOrder)] }
def FnKindSaid : Prop := fnKindRow.holds Tryd.pinned (OpenSpec.ofChange fnKindSpec)

/-- ITS FALSE NEIGHBOUR: 'it returns false'. Refute it at one input. -/
def fnKindWrong : ChangeSpec := { name := "fnKind", vars := ["loop.example/pub-g03122/pub/flate.codeOrder"], fn := fun _ => fun
  | [d1, d2, g1] => { results := [.lit (.bool false)], args := [d1, d2], vars := [g1] }
  | _ => none }
def FnKindWrongFalsely : Prop := fnKindRow.holds Tryd.pinned (OpenSpec.ofChange fnKindWrong)

/-- 'laws.FnStored': WHATEVER THE INPUT: true; the input reads as it did. -/
def fnStoredSpec : ChangeSpec := { name := "fnStored", vars := ["loop.example/pub-g03122/pub/flate.codeOrder"], fn := fun _ => fun
  | [d1, d2, g1] => { results := [.lit (.bool true)], args := [d1, d2], vars := [g1] }
  | _ => none }
def fnStoredRow : OpenClaim := { program := "ytejeloeaklpinaadoor", sum := "3ec8741edb2d26720b8d52881095c3da2c6f8ac8098d34508fb163c4fb1f101e", func := "loop.example/pub-g03122/laws.FnStored", spec := "fnStored", unfollowed := true, recurses := true, named := ["io.EOF", "io.ErrUnexpectedEOF", "io.ErrShortBuffer", "loop.example/pub-g03122/pub/flate.codeOrder"], apart := false, laid := [("io.ErrShortBuffer", laid_io_ErrShortBuffer), ("io.EOF", laid_io_EOF), ("io.ErrUnexpectedEOF", laid_io_ErrUnexpectedEOF), ("loop.example/pub-g03122/pub/flate.codeOrder", laid_loop_example_pub_g03122_pub_flate_codeOrder)] }
def FnStoredSaid : Prop := fnStoredRow.holds Tryd.pinned (OpenSpec.ofChange fnStoredSpec)

/-- ITS FALSE NEIGHBOUR: 'it returns false'. Refute it at one input. -/
def fnStoredWrong : ChangeSpec := { name := "fnStored", vars := ["loop.example/pub-g03122/pub/flate.codeOrder"], fn := fun _ => fun
  | [d1, d2, g1] => { results := [.lit (.bool false)], args := [d1, d2], vars := [g1] }
  | _ => none }
def FnStoredWrongFalsely : Prop := fnStoredRow.holds Tryd.pinned (OpenSpec.ofChange fnStoredWrong)

/-- 'laws.FnReset': WHATEVER THE INPUT: true; the input reads as it did. -/
def fnResetSpec : ChangeSpec := { name := "fnReset", vars := ["loop.example/pub-g03122/pub/flate.codeOrder"], fn := fun _ => fun
  | [d1, d2, d3, g1] => { results := [.lit (.bool true)], args := [d1, d2, d3], vars := [g1] }
  | _ => none }
def fnResetRow : OpenClaim := { program := "ytejeloeaklpinaadoor", sum := "3ec8741edb2d26720b8d52881095c3da2c6f8ac8098d34508fb163c4fb1f101e", func := "loop.example/pub-g03122/laws.FnReset", spec := "fnReset", unfollowed := true, recurses := true, named := ["io.EOF", "io.ErrUnexpectedEOF", "io.ErrShortBuffer", "loop.example/pub-g03122/pub/flate.codeOrder"], apart := false, laid := [("io.ErrShortBuffer", laid_io_ErrShortBuffer), ("io.EOF", laid_io_EOF), ("io.ErrUnexpectedEOF", laid_io_ErrUnexpectedEOF), ("loop.example/pub-g03122/pub/flate.codeOrder", laid_loop_example_pub_g03122_pub_flate_codeOrder)] }
def FnResetSaid : Prop := fnResetRow.holds Tryd.pinned (OpenSpec.ofChange fnResetSpec)

/-- ITS FALSE NEIGHBOUR: 'it returns false'. Refute it at one input. -/
def fnResetWrong : ChangeSpec := { name := "fnReset", vars := ["loop.example/pub-g03122/pub/flate.codeOrder"], fn := fun _ => fun
  | [d1, d2, d3, g1] => { results := [.lit (.bool false)], args := [d1, d2, d3], vars := [g1] }
  | _ => none }
def FnResetWrongFalsely : Prop := fnResetRow.holds Tryd.pinned (OpenSpec.ofChange fnResetWrong)

/- THE SECOND FORM. 'bulk': how many values and letters a reading holds, each counted each time it is reached (what is shared counts as often as it is met; a slice's spare places count too). A statement '..UptoSaid' is the law's where the arguments, and the package variables that the reading takes, are together of bulk at most 1048576: NARROWER than '..Said'. Prove '..Said' where nothing that the law and all that it calls make is longer than what came in: it says more and counts as full. Else prove '..UptoSaid'. A law counts once. -/
mutual
def uptoBulk {H : Type} : DataW H → Nat
  | .lit (.string bytes) => bytes.length + 1
  | .lit _ => 1
  | .nil => 1
  | .ptr d => uptoBulk d + 1
  | .slice elems spare => uptoBulkAll elems + uptoBulkAll spare + 1
  | .agg parts => uptoBulkAll parts + 1
  | .iface _ d => uptoBulk d + 1
  | .map entries => uptoBulkEntries entries + 1
  | .held _ => 1
def uptoBulkAll {H : Type} : List (DataW H) → Nat
  | [] => 0
  | d :: r => uptoBulk d + uptoBulkAll r
def uptoBulkEntries {H : Type} : List (Lit × DataW H) → Nat
  | [] => 0
  | x :: r => uptoBulkEntry x + uptoBulkEntries r
def uptoBulkEntry {H : Type} : Lit × DataW H → Nat
  | (.string bytes, d) => bytes.length + uptoBulk d + 1
  | (_, d) => uptoBulk d + 1
 end
def uptoSmall : (H : Type) → List (DataW H) → Bool := fun _ ds => decide (uptoBulkAll ds ≤ 1048576)
def OpenSpec.upto (s : _root_.Go.ChangeSpec) : _root_.Go.OpenSpec := { _root_.Go.OpenSpec.ofChange s with cond := some uptoSmall }

/-- 'laws.FnCuts', WHERE WHAT IT READS IS OF BULK AT MOST 1048576: true; the input reads as it did. -/
def fnCutsUptoRow : OpenClaim := { program := "ytejeloeaklpinaadoor", sum := "3ec8741edb2d26720b8d52881095c3da2c6f8ac8098d34508fb163c4fb1f101e", func := "loop.example/pub-g03122/laws.FnCuts", spec := "fnCuts", unfollowed := true, recurses := true, named := ["io.EOF", "io.ErrUnexpectedEOF", "io.ErrShortBuffer", "loop.example/pub-g03122/pub/flate.codeOrder"], apart := false, laid := [("io.ErrShortBuffer", laid_io_ErrShortBuffer), ("io.EOF", laid_io_EOF), ("io.ErrUnexpectedEOF", laid_io_ErrUnexpectedEOF), ("loop.example/pub-g03122/pub/flate.codeOrder", laid_loop_example_pub_g03122_pub_flate_codeOrder)], narrowed := true }
def FnCutsUptoSaid : Prop := fnCutsUptoRow.holds Tryd.pinned (OpenSpec.upto fnCutsSpec)

/-- 'laws.FnFar', WHERE WHAT IT READS IS OF BULK AT MOST 1048576: true; the input reads as it did. -/
def fnFarUptoRow : OpenClaim := { program := "ytejeloeaklpinaadoor", sum := "3ec8741edb2d26720b8d52881095c3da2c6f8ac8098d34508fb163c4fb1f101e", func := "loop.example/pub-g03122/laws.FnFar", spec := "fnFar", unfollowed := true, recurses := true, named := ["io.EOF", "io.ErrUnexpectedEOF", "io.ErrShortBuffer", "loop.example/pub-g03122/pub/flate.codeOrder"], apart := false, laid := [("io.ErrShortBuffer", laid_io_ErrShortBuffer), ("io.EOF", laid_io_EOF), ("io.ErrUnexpectedEOF", laid_io_ErrUnexpectedEOF), ("loop.example/pub-g03122/pub/flate.codeOrder", laid_loop_example_pub_g03122_pub_flate_codeOrder)], narrowed := true }
def FnFarUptoSaid : Prop := fnFarUptoRow.holds Tryd.pinned (OpenSpec.upto fnFarSpec)

/-- 'laws.FnInflate', WHERE WHAT IT READS IS OF BULK AT MOST 1048576: true; the input reads as it did. -/
def fnInflateUptoRow : OpenClaim := { program := "ytejeloeaklpinaadoor", sum := "3ec8741edb2d26720b8d52881095c3da2c6f8ac8098d34508fb163c4fb1f101e", func := "loop.example/pub-g03122/laws.FnInflate", spec := "fnInflate", unfollowed := true, recurses := true, named := ["io.EOF", "io.ErrUnexpectedEOF", "io.ErrShortBuffer", "loop.example/pub-g03122/pub/flate.codeOrder"], apart := false, laid := [("io.ErrShortBuffer", laid_io_ErrShortBuffer), ("io.EOF", laid_io_EOF), ("io.ErrUnexpectedEOF", laid_io_ErrUnexpectedEOF), ("loop.example/pub-g03122/pub/flate.codeOrder", laid_loop_example_pub_g03122_pub_flate_codeOrder)], narrowed := true }
def FnInflateUptoSaid : Prop := fnInflateUptoRow.holds Tryd.pinned (OpenSpec.upto fnInflateSpec)

/-- 'laws.FnKind', WHERE WHAT IT READS IS OF BULK AT MOST 1048576: true; the input reads as it did. -/
def fnKindUptoRow : OpenClaim := { program := "ytejeloeaklpinaadoor", sum := "3ec8741edb2d26720b8d52881095c3da2c6f8ac8098d34508fb163c4fb1f101e", func := "loop.example/pub-g03122/laws.FnKind", spec := "fnKind", unfollowed := true, recurses := true, named := ["io.EOF", "io.ErrUnexpectedEOF", "io.ErrShortBuffer", "loop.example/pub-g03122/pub/flate.codeOrder"], apart := false, laid := [("io.ErrShortBuffer", laid_io_ErrShortBuffer), ("io.EOF", laid_io_EOF), ("io.ErrUnexpectedEOF", laid_io_ErrUnexpectedEOF), ("loop.example/pub-g03122/pub/flate.codeOrder", laid_loop_example_pub_g03122_pub_flate_codeOrder)], narrowed := true }
def FnKindUptoSaid : Prop := fnKindUptoRow.holds Tryd.pinned (OpenSpec.upto fnKindSpec)

/-- 'laws.FnStored', WHERE WHAT IT READS IS OF BULK AT MOST 1048576: true; the input reads as it did. -/
def fnStoredUptoRow : OpenClaim := { program := "ytejeloeaklpinaadoor", sum := "3ec8741edb2d26720b8d52881095c3da2c6f8ac8098d34508fb163c4fb1f101e", func := "loop.example/pub-g03122/laws.FnStored", spec := "fnStored", unfollowed := true, recurses := true, named := ["io.EOF", "io.ErrUnexpectedEOF", "io.ErrShortBuffer", "loop.example/pub-g03122/pub/flate.codeOrder"], apart := false, laid := [("io.ErrShortBuffer", laid_io_ErrShortBuffer), ("io.EOF", laid_io_EOF), ("io.ErrUnexpectedEOF", laid_io_ErrUnexpectedEOF), ("loop.example/pub-g03122/pub/flate.codeOrder", laid_loop_example_pub_g03122_pub_flate_codeOrder)], narrowed := true }
def FnStoredUptoSaid : Prop := fnStoredUptoRow.holds Tryd.pinned (OpenSpec.upto fnStoredSpec)

/-- 'laws.FnReset', WHERE WHAT IT READS IS OF BULK AT MOST 1048576: true; the input reads as it did. -/
def fnResetUptoRow : OpenClaim := { program := "ytejeloeaklpinaadoor", sum := "3ec8741edb2d26720b8d52881095c3da2c6f8ac8098d34508fb163c4fb1f101e", func := "loop.example/pub-g03122/laws.FnReset", spec := "fnReset", unfollowed := true, recurses := true, named := ["io.EOF", "io.ErrUnexpectedEOF", "io.ErrShortBuffer", "loop.example/pub-g03122/pub/flate.codeOrder"], apart := false, laid := [("io.ErrShortBuffer", laid_io_ErrShortBuffer), ("io.EOF", laid_io_EOF), ("io.ErrUnexpectedEOF", laid_io_ErrUnexpectedEOF), ("loop.example/pub-g03122/pub/flate.codeOrder", laid_loop_example_pub_g03122_pub_flate_codeOrder)], narrowed := true }
def FnResetUptoSaid : Prop := fnResetUptoRow.holds Tryd.pinned (OpenSpec.upto fnResetSpec)

end Rows
end Go.Proofs.YtejeloeaklpinaaDoor
