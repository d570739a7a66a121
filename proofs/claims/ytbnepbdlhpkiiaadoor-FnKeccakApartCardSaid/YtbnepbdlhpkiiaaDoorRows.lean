/-
  NARROWER THAN 'FOR EVERY INPUT', by the rows' own cells (each row's printed sentence says how): FnKeccakApart: laid · FnKeccakIs: laid · FnTurboIs: laid · FnTurboPrefix: laid · FnK12Is: laid · FnK12Pieces: laid · FnK12Again: laid · FnK12Short: laid · FnK12Clone: laid.
  DERIVED. THE GIVEN ROWS OF THIS SEAT. 9 by the template 'for every input the law returns true; each argument reads behind the call as it read before'; 0 by the template 'total and deterministic' (their statements: YtbnepbdlhpkiiaaDoorTotals.lean).
  GIVEN WITH THE SEED: the statements are not yours to turn. If you find one false, say at which input.
  Laid BY PROGRAM, IN A SANDBOX (cutbox-rows.mjs): the forced cells as the released guide's own fill.sh prints them over the translation ac6ac283dc6abe5c… (all of the seat's roots in one cut). By AI agents, Wed Nov 11 2026. No macro, syntax, notation, axiom, sorry.
-/
import Derived.Test.YtbnepbdlhpkiiaaDoorChecked
import GoSem.Claim
import GoSem.ClaimJoined
import GoSem.ClaimMapViews
import Derived.JoinedTies
import Derived.KernelRfl
namespace Go.Proofs.YtbnepbdlhpkiiaaDoor
/- THE CELL 'sum', in the pinned program and in every row, IS THE sha256 OF THE DUMP (.gsa) THAT YtbnepbdlhpkiiaaDoorProg.lean LOADS. Nothing in Lean hashes anything: it is a label: what it is worth is what the hold of that sum in a sandbox is worth. -/
noncomputable def Tryd.pinned : Pinned := { name := "ytbnepbdlhpkiiaadoor", sum := "ac6ac283dc6abe5cea891b81b1c802ea5f7d4fa6ac7d5837108416638df5517d", checked := Tryd.checked }
namespace Rows
def none {H : Type} : Left H := { results := [], args := [] }

/- WHAT THE LISTED PACKAGE-LEVEL VARIABLES READ AS WHEN THE CALL BEGINS. Each datum BY PROGRAM (the guide's laid-datum.mjs) off the statement by which the dump's own 'gosem.cut.vars' lays the variable. In a bare row this is a premise. The card (YtbnepbdlhpkiiaaDoorCards.lean) ties it to the program's text. -/
def laid_loop_example_pub_g03031_pub_circl_inner_sha3_RC {H : Type} : DataW H := .agg [.lit (.int .u64 1), .lit (.int .u64 32898), .lit (.int .u64 9223372036854808714), .lit (.int .u64 9223372039002292224), .lit (.int .u64 32907), .lit (.int .u64 2147483649), .lit (.int .u64 9223372039002292353), .lit (.int .u64 9223372036854808585), .lit (.int .u64 138), .lit (.int .u64 136), .lit (.int .u64 2147516425), .lit (.int .u64 2147483658), .lit (.int .u64 2147516555), .lit (.int .u64 9223372036854775947), .lit (.int .u64 9223372036854808713), .lit (.int .u64 9223372036854808579), .lit (.int .u64 9223372036854808578), .lit (.int .u64 9223372036854775936), .lit (.int .u64 32778), .lit (.int .u64 9223372039002259466), .lit (.int .u64 9223372039002292353), .lit (.int .u64 9223372036854808704), .lit (.int .u64 2147483649), .lit (.int .u64 9223372039002292232)]

/-- 'laws.FnKeccakApart': WHATEVER THE INPUT: true; the input reads as it did. -/
def fnKeccakApartSpec : ChangeSpec := { name := "fnKeccakApart", vars := ["loop.example/pub-g03031/pub/circl/inner/sha3.RC"], fn := fun _ => fun
  | [d1, d2, d3, g1] => { results := [.lit (.bool true)], args := [d1, d2, d3], vars := [g1] }
  | _ => none }
def fnKeccakApartRow : OpenClaim := { program := "ytbnepbdlhpkiiaadoor", sum := "ac6ac283dc6abe5cea891b81b1c802ea5f7d4fa6ac7d5837108416638df5517d", func := "loop.example/pub-g03031/laws.FnKeccakApart", spec := "fnKeccakApart", named := ["loop.example/pub-g03031/pub/circl/inner/sha3.RC"], apart := false, laid := [("loop.example/pub-g03031/pub/circl/inner/sha3.RC", laid_loop_example_pub_g03031_pub_circl_inner_sha3_RC)] }
def FnKeccakApartSaid : Prop := fnKeccakApartRow.holds Tryd.pinned (OpenSpec.ofChange fnKeccakApartSpec)

/-- ITS FALSE NEIGHBOUR: 'it returns false'. Refute it at one input. -/
def fnKeccakApartWrong : ChangeSpec := { name := "fnKeccakApart", vars := ["loop.example/pub-g03031/pub/circl/inner/sha3.RC"], fn := fun _ => fun
  | [d1, d2, d3, g1] => { results := [.lit (.bool false)], args := [d1, d2, d3], vars := [g1] }
  | _ => none }
def FnKeccakApartWrongFalsely : Prop := fnKeccakApartRow.holds Tryd.pinned (OpenSpec.ofChange fnKeccakApartWrong)

/-- 'laws.FnKeccakIs': WHATEVER THE INPUT: true; the input reads as it did. -/
def fnKeccakIsSpec : ChangeSpec := { name := "fnKeccakIs", vars := ["loop.example/pub-g03031/pub/circl/inner/sha3.RC"], fn := fun _ => fun
  | [d1, d2, g1] => { results := [.lit (.bool true)], args := [d1, d2], vars := [g1] }
  | _ => none }
def fnKeccakIsRow : OpenClaim := { program := "ytbnepbdlhpkiiaadoor", sum := "ac6ac283dc6abe5cea891b81b1c802ea5f7d4fa6ac7d5837108416638df5517d", func := "loop.example/pub-g03031/laws.FnKeccakIs", spec := "fnKeccakIs", named := ["loop.example/pub-g03031/pub/circl/inner/sha3.RC"], apart := false, laid := [("loop.example/pub-g03031/pub/circl/inner/sha3.RC", laid_loop_example_pub_g03031_pub_circl_inner_sha3_RC)] }
def FnKeccakIsSaid : Prop := fnKeccakIsRow.holds Tryd.pinned (OpenSpec.ofChange fnKeccakIsSpec)

/-- ITS FALSE NEIGHBOUR: 'it returns false'. Refute it at one input. -/
def fnKeccakIsWrong : ChangeSpec := { name := "fnKeccakIs", vars := ["loop.example/pub-g03031/pub/circl/inner/sha3.RC"], fn := fun _ => fun
  | [d1, d2, g1] => { results := [.lit (.bool false)], args := [d1, d2], vars := [g1] }
  | _ => none }
def FnKeccakIsWrongFalsely : Prop := fnKeccakIsRow.holds Tryd.pinned (OpenSpec.ofChange fnKeccakIsWrong)

/-- 'laws.FnTurboIs': WHATEVER THE INPUT: true; the input reads as it did. -/
def fnTurboIsSpec : ChangeSpec := { name := "fnTurboIs", vars := ["loop.example/pub-g03031/pub/circl/inner/sha3.RC"], fn := fun _ => fun
  | [d1, d2, d3, g1] => { results := [.lit (.bool true)], args := [d1, d2, d3], vars := [g1] }
  | _ => none }
def fnTurboIsRow : OpenClaim := { program := "ytbnepbdlhpkiiaadoor", sum := "ac6ac283dc6abe5cea891b81b1c802ea5f7d4fa6ac7d5837108416638df5517d", func := "loop.example/pub-g03031/laws.FnTurboIs", spec := "fnTurboIs", named := ["encoding/binary.LittleEndian", "loop.example/pub-g03031/pub/circl/inner/sha3.RC"], apart := false, laid := [("loop.example/pub-g03031/pub/circl/inner/sha3.RC", laid_loop_example_pub_g03031_pub_circl_inner_sha3_RC)] }
def FnTurboIsSaid : Prop := fnTurboIsRow.holds Tryd.pinned (OpenSpec.ofChange fnTurboIsSpec)

/-- ITS FALSE NEIGHBOUR: 'it returns false'. Refute it at one input. -/
def fnTurboIsWrong : ChangeSpec := { name := "fnTurboIs", vars := ["loop.example/pub-g03031/pub/circl/inner/sha3.RC"], fn := fun _ => fun
  | [d1, d2, d3, g1] => { results := [.lit (.bool false)], args := [d1, d2, d3], vars := [g1] }
  | _ => none }
def FnTurboIsWrongFalsely : Prop := fnTurboIsRow.holds Tryd.pinned (OpenSpec.ofChange fnTurboIsWrong)

/-- 'laws.FnTurboPrefix': WHATEVER THE INPUT: true; the input reads as it did. -/
def fnTurboPrefixSpec : ChangeSpec := { name := "fnTurboPrefix", vars := ["loop.example/pub-g03031/pub/circl/inner/sha3.RC"], fn := fun _ => fun
  | [d1, d2, d3, d4, g1] => { results := [.lit (.bool true)], args := [d1, d2, d3, d4], vars := [g1] }
  | _ => none }
def fnTurboPrefixRow : OpenClaim := { program := "ytbnepbdlhpkiiaadoor", sum := "ac6ac283dc6abe5cea891b81b1c802ea5f7d4fa6ac7d5837108416638df5517d", func := "loop.example/pub-g03031/laws.FnTurboPrefix", spec := "fnTurboPrefix", named := ["encoding/binary.LittleEndian", "loop.example/pub-g03031/pub/circl/inner/sha3.RC"], apart := false, laid := [("loop.example/pub-g03031/pub/circl/inner/sha3.RC", laid_loop_example_pub_g03031_pub_circl_inner_sha3_RC)] }
def FnTurboPrefixSaid : Prop := fnTurboPrefixRow.holds Tryd.pinned (OpenSpec.ofChange fnTurboPrefixSpec)

/-- ITS FALSE NEIGHBOUR: 'it returns false'. Refute it at one input. -/
def fnTurboPrefixWrong : ChangeSpec := { name := "fnTurboPrefix", vars := ["loop.example/pub-g03031/pub/circl/inner/sha3.RC"], fn := fun _ => fun
  | [d1, d2, d3, d4, g1] => { results := [.lit (.bool false)], args := [d1, d2, d3, d4], vars := [g1] }
  | _ => none }
def FnTurboPrefixWrongFalsely : Prop := fnTurboPrefixRow.holds Tryd.pinned (OpenSpec.ofChange fnTurboPrefixWrong)

/-- 'laws.FnK12Is': WHATEVER THE INPUT: true; the input reads as it did. -/
def fnK12IsSpec : ChangeSpec := { name := "fnK12Is", vars := ["loop.example/pub-g03031/pub/circl/inner/sha3.RC"], fn := fun _ => fun
  | [d1, d2, d3, g1] => { results := [.lit (.bool true)], args := [d1, d2, d3], vars := [g1] }
  | _ => none }
def fnK12IsRow : OpenClaim := { program := "ytbnepbdlhpkiiaadoor", sum := "ac6ac283dc6abe5cea891b81b1c802ea5f7d4fa6ac7d5837108416638df5517d", func := "loop.example/pub-g03031/laws.FnK12Is", spec := "fnK12Is", named := ["encoding/binary.LittleEndian", "loop.example/pub-g03031/pub/circl/inner/sha3.RC", "encoding/binary.BigEndian"], apart := false, laid := [("loop.example/pub-g03031/pub/circl/inner/sha3.RC", laid_loop_example_pub_g03031_pub_circl_inner_sha3_RC)] }
def FnK12IsSaid : Prop := fnK12IsRow.holds Tryd.pinned (OpenSpec.ofChange fnK12IsSpec)

/-- ITS FALSE NEIGHBOUR: 'it returns false'. Refute it at one input. -/
def fnK12IsWrong : ChangeSpec := { name := "fnK12Is", vars := ["loop.example/pub-g03031/pub/circl/inner/sha3.RC"], fn := fun _ => fun
  | [d1, d2, d3, g1] => { results := [.lit (.bool false)], args := [d1, d2, d3], vars := [g1] }
  | _ => none }
def FnK12IsWrongFalsely : Prop := fnK12IsRow.holds Tryd.pinned (OpenSpec.ofChange fnK12IsWrong)

/-- 'laws.FnK12Pieces': WHATEVER THE INPUT: true; the input reads as it did. -/
def fnK12PiecesSpec : ChangeSpec := { name := "fnK12Pieces", vars := ["loop.example/pub-g03031/pub/circl/inner/sha3.RC"], fn := fun _ => fun
  | [d1, d2, d3, d4, d5, g1] => { results := [.lit (.bool true)], args := [d1, d2, d3, d4, d5], vars := [g1] }
  | _ => none }
def fnK12PiecesRow : OpenClaim := { program := "ytbnepbdlhpkiiaadoor", sum := "ac6ac283dc6abe5cea891b81b1c802ea5f7d4fa6ac7d5837108416638df5517d", func := "loop.example/pub-g03031/laws.FnK12Pieces", spec := "fnK12Pieces", named := ["encoding/binary.LittleEndian", "loop.example/pub-g03031/pub/circl/inner/sha3.RC", "encoding/binary.BigEndian"], apart := false, laid := [("loop.example/pub-g03031/pub/circl/inner/sha3.RC", laid_loop_example_pub_g03031_pub_circl_inner_sha3_RC)] }
def FnK12PiecesSaid : Prop := fnK12PiecesRow.holds Tryd.pinned (OpenSpec.ofChange fnK12PiecesSpec)

/-- ITS FALSE NEIGHBOUR: 'it returns false'. Refute it at one input. -/
def fnK12PiecesWrong : ChangeSpec := { name := "fnK12Pieces", vars := ["loop.example/pub-g03031/pub/circl/inner/sha3.RC"], fn := fun _ => fun
  | [d1, d2, d3, d4, d5, g1] => { results := [.lit (.bool false)], args := [d1, d2, d3, d4, d5], vars := [g1] }
  | _ => none }
def FnK12PiecesWrongFalsely : Prop := fnK12PiecesRow.holds Tryd.pinned (OpenSpec.ofChange fnK12PiecesWrong)

/-- 'laws.FnK12Again': WHATEVER THE INPUT: true; the input reads as it did. -/
def fnK12AgainSpec : ChangeSpec := { name := "fnK12Again", vars := ["loop.example/pub-g03031/pub/circl/inner/sha3.RC"], fn := fun _ => fun
  | [d1, d2, d3, d4, d5, g1] => { results := [.lit (.bool true)], args := [d1, d2, d3, d4, d5], vars := [g1] }
  | _ => none }
def fnK12AgainRow : OpenClaim := { program := "ytbnepbdlhpkiiaadoor", sum := "ac6ac283dc6abe5cea891b81b1c802ea5f7d4fa6ac7d5837108416638df5517d", func := "loop.example/pub-g03031/laws.FnK12Again", spec := "fnK12Again", named := ["encoding/binary.LittleEndian", "loop.example/pub-g03031/pub/circl/inner/sha3.RC", "encoding/binary.BigEndian"], apart := false, laid := [("loop.example/pub-g03031/pub/circl/inner/sha3.RC", laid_loop_example_pub_g03031_pub_circl_inner_sha3_RC)] }
def FnK12AgainSaid : Prop := fnK12AgainRow.holds Tryd.pinned (OpenSpec.ofChange fnK12AgainSpec)

/-- ITS FALSE NEIGHBOUR: 'it returns false'. Refute it at one input. -/
def fnK12AgainWrong : ChangeSpec := { name := "fnK12Again", vars := ["loop.example/pub-g03031/pub/circl/inner/sha3.RC"], fn := fun _ => fun
  | [d1, d2, d3, d4, d5, g1] => { results := [.lit (.bool false)], args := [d1, d2, d3, d4, d5], vars := [g1] }
  | _ => none }
def FnK12AgainWrongFalsely : Prop := fnK12AgainRow.holds Tryd.pinned (OpenSpec.ofChange fnK12AgainWrong)

/-- 'laws.FnK12Short': WHATEVER THE INPUT: true; the input reads as it did. -/
def fnK12ShortSpec : ChangeSpec := { name := "fnK12Short", vars := ["loop.example/pub-g03031/pub/circl/inner/sha3.RC"], fn := fun _ => fun
  | [d1, d2, d3, g1] => { results := [.lit (.bool true)], args := [d1, d2, d3], vars := [g1] }
  | _ => none }
def fnK12ShortRow : OpenClaim := { program := "ytbnepbdlhpkiiaadoor", sum := "ac6ac283dc6abe5cea891b81b1c802ea5f7d4fa6ac7d5837108416638df5517d", func := "loop.example/pub-g03031/laws.FnK12Short", spec := "fnK12Short", named := ["encoding/binary.BigEndian", "encoding/binary.LittleEndian", "loop.example/pub-g03031/pub/circl/inner/sha3.RC"], apart := false, laid := [("loop.example/pub-g03031/pub/circl/inner/sha3.RC", laid_loop_example_pub_g03031_pub_circl_inner_sha3_RC)] }
def FnK12ShortSaid : Prop := fnK12ShortRow.holds Tryd.pinned (OpenSpec.ofChange fnK12ShortSpec)

/-- ITS FALSE NEIGHBOUR: 'it returns false'. Refute it at one input. -/
def fnK12ShortWrong : ChangeSpec := { name := "fnK12Short", vars := ["loop.example/pub-g03031/pub/circl/inner/sha3.RC"], fn := fun _ => fun
  | [d1, d2, d3, g1] => { results := [.lit (.bool false)], args := [d1, d2, d3], vars := [g1] }
  | _ => none }
def FnK12ShortWrongFalsely : Prop := fnK12ShortRow.holds Tryd.pinned (OpenSpec.ofChange fnK12ShortWrong)

/-- 'laws.FnK12Clone': WHATEVER THE INPUT: true; the input reads as it did. -/
def fnK12CloneSpec : ChangeSpec := { name := "fnK12Clone", vars := ["loop.example/pub-g03031/pub/circl/inner/sha3.RC"], fn := fun _ => fun
  | [d1, d2, d3, d4, g1] => { results := [.lit (.bool true)], args := [d1, d2, d3, d4], vars := [g1] }
  | _ => none }
def fnK12CloneRow : OpenClaim := { program := "ytbnepbdlhpkiiaadoor", sum := "ac6ac283dc6abe5cea891b81b1c802ea5f7d4fa6ac7d5837108416638df5517d", func := "loop.example/pub-g03031/laws.FnK12Clone", spec := "fnK12Clone", named := ["encoding/binary.LittleEndian", "loop.example/pub-g03031/pub/circl/inner/sha3.RC", "encoding/binary.BigEndian"], apart := false, laid := [("loop.example/pub-g03031/pub/circl/inner/sha3.RC", laid_loop_example_pub_g03031_pub_circl_inner_sha3_RC)] }
def FnK12CloneSaid : Prop := fnK12CloneRow.holds Tryd.pinned (OpenSpec.ofChange fnK12CloneSpec)

/-- ITS FALSE NEIGHBOUR: 'it returns false'. Refute it at one input. -/
def fnK12CloneWrong : ChangeSpec := { name := "fnK12Clone", vars := ["loop.example/pub-g03031/pub/circl/inner/sha3.RC"], fn := fun _ => fun
  | [d1, d2, d3, d4, g1] => { results := [.lit (.bool false)], args := [d1, d2, d3, d4], vars := [g1] }
  | _ => none }
def FnK12CloneWrongFalsely : Prop := fnK12CloneRow.holds Tryd.pinned (OpenSpec.ofChange fnK12CloneWrong)

/- THE SECOND FORM. 'bulk': how many values and letters a reading holds, each counted each time it is reached (what is shared counts as often as it is met; a slice's spare places count too). A statement '..UptoSaid' is the law's where the arguments, and the package variables that the reading takes, are together of bulk at most 1048576: NARROWER than '..Said'. Prove '..Said' where nothing that the law and all that it calls make is longer than what came in: it says more and counts as full. Else prove '..UptoSaid'. A law counts once. -/
mutual
def uptoBulk {H : Type} : DataW H → Nat
  | .lit (.string bytes) => bytes.length + 1
  | .lit _ => 1
  | .nil => 1
  | .ptr d => uptoBulk d + 1
  | .slice elems spare => uptoBulkAll elems + uptoBulkAll spare + 1
  | .agg parts => uptoBulkAll parts + 1
  | .iface _ d => uptoBulk d + 1
  | .map entries => uptoBulkEntries entries + 1
  | .held _ => 1
def uptoBulkAll {H : Type} : List (DataW H) → Nat
  | [] => 0
  | d :: r => uptoBulk d + uptoBulkAll r
def uptoBulkEntries {H : Type} : List (Lit × DataW H) → Nat
  | [] => 0
  | x :: r => uptoBulkEntry x + uptoBulkEntries r
def uptoBulkEntry {H : Type} : Lit × DataW H → Nat
  | (.string bytes, d) => bytes.length + uptoBulk d + 1
  | (_, d) => uptoBulk d + 1
 end
def uptoSmall : (H : Type) → List (DataW H) → Bool := fun _ ds => decide (uptoBulkAll ds ≤ 1048576)
def OpenSpec.upto (s : _root_.Go.ChangeSpec) : _root_.Go.OpenSpec := { _root_.Go.OpenSpec.ofChange s with cond := some uptoSmall }

/-- 'laws.FnKeccakApart', WHERE WHAT IT READS IS OF BULK AT MOST 1048576: true; the input reads as it did. -/
def fnKeccakApartUptoRow : OpenClaim := { program := "ytbnepbdlhpkiiaadoor", sum := "ac6ac283dc6abe5cea891b81b1c802ea5f7d4fa6ac7d5837108416638df5517d", func := "loop.example/pub-g03031/laws.FnKeccakApart", spec := "fnKeccakApart", named := ["loop.example/pub-g03031/pub/circl/inner/sha3.RC"], apart := false, laid := [("loop.example/pub-g03031/pub/circl/inner/sha3.RC", laid_loop_example_pub_g03031_pub_circl_inner_sha3_RC)], narrowed := true }
def FnKeccakApartUptoSaid : Prop := fnKeccakApartUptoRow.holds Tryd.pinned (OpenSpec.upto fnKeccakApartSpec)

/-- 'laws.FnKeccakIs', WHERE WHAT IT READS IS OF BULK AT MOST 1048576: true; the input reads as it did. -/
def fnKeccakIsUptoRow : OpenClaim := { program := "ytbnepbdlhpkiiaadoor", sum := "ac6ac283dc6abe5cea891b81b1c802ea5f7d4fa6ac7d5837108416638df5517d", func := "loop.example/pub-g03031/laws.FnKeccakIs", spec := "fnKeccakIs", named := ["loop.example/pub-g03031/pub/circl/inner/sha3.RC"], apart := false, laid := [("loop.example/pub-g03031/pub/circl/inner/sha3.RC", laid_loop_example_pub_g03031_pub_circl_inner_sha3_RC)], narrowed := true }
def FnKeccakIsUptoSaid : Prop := fnKeccakIsUptoRow.holds Tryd.pinned (OpenSpec.upto fnKeccakIsSpec)

/-- 'laws.FnTurboIs', WHERE WHAT IT READS IS OF BULK AT MOST 1048576: true; the input reads as it did. -/
def fnTurboIsUptoRow : OpenClaim := { program := "ytbnepbdlhpkiiaadoor", sum := "ac6ac283dc6abe5cea891b81b1c802ea5f7d4fa6ac7d5837108416638df5517d", func := "loop.example/pub-g03031/laws.FnTurboIs", spec := "fnTurboIs", named := ["encoding/binary.LittleEndian", "loop.example/pub-g03031/pub/circl/inner/sha3.RC"], apart := false, laid := [("loop.example/pub-g03031/pub/circl/inner/sha3.RC", laid_loop_example_pub_g03031_pub_circl_inner_sha3_RC)], narrowed := true }
def FnTurboIsUptoSaid : Prop := fnTurboIsUptoRow.holds Tryd.pinned (OpenSpec.upto fnTurboIsSpec)

/-- 'laws.FnTurboPrefix', WHERE WHAT IT READS IS OF BULK AT MOST 1048576: true; the input reads as it did. -/
def fnTurboPrefixUptoRow : OpenClaim := { program := "ytbnepbdlhpkiiaadoor", sum := "ac6ac283dc6abe5cea891b81b1c802ea5f7d4fa6ac7d5837108416638df5517d", func := "loop.example/pub-g03031/laws.FnTurboPrefix", spec := "fnTurboPrefix", named := ["encoding/binary.LittleEndian", "loop.example/pub-g03031/pub/circl/inner/sha3.RC"], apart := false, laid := [("loop.example/pub-g03031/pub/circl/inner/sha3.RC", laid_loop_example_pub_g03031_pub_circl_inner_sha3_RC)], narrowed := true }
def FnTurboPrefixUptoSaid : Prop := fnTurboPrefixUptoRow.holds Tryd.pinned (OpenSpec.upto fnTurboPrefixSpec)

/-- 'laws.FnK12Is', WHERE WHAT IT READS IS OF BULK AT MOST 1048576: true; the input reads as it did. -/
def fnK12IsUptoRow : OpenClaim := { program := "ytbnepbdlhpkiiaadoor", sum := "ac6ac283dc6abe5cea891b81b1c802ea5f7d4fa6ac7d5837108416638df5517d", func := "loop.example/pub-g03031/laws.FnK12Is", spec := "fnK12Is", named := ["encoding/binary.LittleEndian", "loop.example/pub-g03031/pub/circl/inner/sha3.RC", "encoding/binary.BigEndian"], apart := false, laid := [("loop.example/pub-g03031/pub/circl/inner/sha3.RC", laid_loop_example_pub_g03031_pub_circl_inner_sha3_RC)], narrowed := true }
def FnK12IsUptoSaid : Prop := fnK12IsUptoRow.holds Tryd.pinned (OpenSpec.upto fnK12IsSpec)

/-- 'laws.FnK12Pieces', WHERE WHAT IT READS IS OF BULK AT MOST 1048576: true; the input reads as it did. -/
def fnK12PiecesUptoRow : OpenClaim := { program := "ytbnepbdlhpkiiaadoor", sum := "ac6ac283dc6abe5cea891b81b1c802ea5f7d4fa6ac7d5837108416638df5517d", func := "loop.example/pub-g03031/laws.FnK12Pieces", spec := "fnK12Pieces", named := ["encoding/binary.LittleEndian", "loop.example/pub-g03031/pub/circl/inner/sha3.RC", "encoding/binary.BigEndian"], apart := false, laid := [("loop.example/pub-g03031/pub/circl/inner/sha3.RC", laid_loop_example_pub_g03031_pub_circl_inner_sha3_RC)], narrowed := true }
def FnK12PiecesUptoSaid : Prop := fnK12PiecesUptoRow.holds Tryd.pinned (OpenSpec.upto fnK12PiecesSpec)

/-- 'laws.FnK12Again', WHERE WHAT IT READS IS OF BULK AT MOST 1048576: true; the input reads as it did. -/
def fnK12AgainUptoRow : OpenClaim := { program := "ytbnepbdlhpkiiaadoor", sum := "ac6ac283dc6abe5cea891b81b1c802ea5f7d4fa6ac7d5837108416638df5517d", func := "loop.example/pub-g03031/laws.FnK12Again", spec := "fnK12Again", named := ["encoding/binary.LittleEndian", "loop.example/pub-g03031/pub/circl/inner/sha3.RC", "encoding/binary.BigEndian"], apart := false, laid := [("loop.example/pub-g03031/pub/circl/inner/sha3.RC", laid_loop_example_pub_g03031_pub_circl_inner_sha3_RC)], narrowed := true }
def FnK12AgainUptoSaid : Prop := fnK12AgainUptoRow.holds Tryd.pinned (OpenSpec.upto fnK12AgainSpec)

/-- 'laws.FnK12Short', WHERE WHAT IT READS IS OF BULK AT MOST 1048576: true; the input reads as it did. -/
def fnK12ShortUptoRow : OpenClaim := { program := "ytbnepbdlhpkiiaadoor", sum := "ac6ac283dc6abe5cea891b81b1c802ea5f7d4fa6ac7d5837108416638df5517d", func := "loop.example/pub-g03031/laws.FnK12Short", spec := "fnK12Short", named := ["encoding/binary.BigEndian", "encoding/binary.LittleEndian", "loop.example/pub-g03031/pub/circl/inner/sha3.RC"], apart := false, laid := [("loop.example/pub-g03031/pub/circl/inner/sha3.RC", laid_loop_example_pub_g03031_pub_circl_inner_sha3_RC)], narrowed := true }
def FnK12ShortUptoSaid : Prop := fnK12ShortUptoRow.holds Tryd.pinned (OpenSpec.upto fnK12ShortSpec)

/-- 'laws.FnK12Clone', WHERE WHAT IT READS IS OF BULK AT MOST 1048576: true; the input reads as it did. -/
def fnK12CloneUptoRow : OpenClaim := { program := "ytbnepbdlhpkiiaadoor", sum := "ac6ac283dc6abe5cea891b81b1c802ea5f7d4fa6ac7d5837108416638df5517d", func := "loop.example/pub-g03031/laws.FnK12Clone", spec := "fnK12Clone", named := ["encoding/binary.LittleEndian", "loop.example/pub-g03031/pub/circl/inner/sha3.RC", "encoding/binary.BigEndian"], apart := false, laid := [("loop.example/pub-g03031/pub/circl/inner/sha3.RC", laid_loop_example_pub_g03031_pub_circl_inner_sha3_RC)], narrowed := true }
def FnK12CloneUptoSaid : Prop := fnK12CloneUptoRow.holds Tryd.pinned (OpenSpec.upto fnK12CloneSpec)

end Rows
end Go.Proofs.YtbnepbdlhpkiiaaDoor
