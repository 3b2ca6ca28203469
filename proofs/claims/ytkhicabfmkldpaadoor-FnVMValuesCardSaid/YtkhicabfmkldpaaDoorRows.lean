/-
  NARROWER THAN 'FOR EVERY INPUT', by the rows' own cells (each row's printed sentence says how): FnVMCut: laid · FnVMHalts: laid · FnVMJoins: laid · FnVMLongs: laid · FnVMRuns: laid · FnVMValues: laid.
  DERIVED. THE GIVEN ROWS OF THIS SEAT. 6 by the template 'for every input the law returns true; each argument reads behind the call as it read before'; 0 by the template 'total and deterministic' (their statements: YtkhicabfmkldpaaDoorTotals.lean).
  GIVEN WITH THE SEED: the statements are not yours to turn. If you find one false, say at which input.
  Laid BY PROGRAM, IN A SANDBOX (cutbox-rows.mjs): the forced cells as the released guide's own fill.sh prints them over the translation 9c611b8d0069dd2a… (all of the seat's roots in one cut). By AI agents, Wed Nov 11 2026. No macro, syntax, notation, axiom, sorry.
-/
import Derived.Test.YtkhicabfmkldpaaDoorChecked
import GoSem.Claim
import GoSem.ClaimJoined
import GoSem.ClaimMapViews
import Derived.JoinedTies
import Derived.KernelRfl
namespace Go.Proofs.YtkhicabfmkldpaaDoor
/- THE CELL 'sum', in the pinned program and in every row, IS THE sha256 OF THE DUMP (.gsa) THAT YtkhicabfmkldpaaDoorProg.lean LOADS. Nothing in Lean hashes anything: it is a label: what it is worth is what the hold of that sum in a sandbox is worth. -/
noncomputable def Tryd.pinned : Pinned := { name := "ytkhicabfmkldpaadoor", sum := "9c611b8d0069dd2ad1cf015e8bbef66240f6a1c946511c3973846664bc3c56ff", checked := Tryd.checked }
namespace Rows
def none {H : Type} : Left H := { results := [], args := [] }

/- WHAT THE LISTED PACKAGE-LEVEL VARIABLES READ AS WHEN THE CALL BEGINS. Each datum BY PROGRAM (the guide's laid-datum.mjs) off the statement by which the dump's own 'gosem.cut.vars' lays the variable. In a bare row this is a premise. The card (YtkhicabfmkldpaaDoorCards.lean) ties it to the program's text. -/
def laid_io_ErrShortBuffer {H : Type} : DataW H := .iface "*errors.errorString" (.ptr (.agg [.lit (.string [115, 104, 111, 114, 116, 32, 98, 117, 102, 102, 101, 114])]))
def laid_io_EOF {H : Type} : DataW H := .iface "*errors.errorString" (.ptr (.agg [.lit (.string [69, 79, 70])]))
def laid_io_ErrUnexpectedEOF {H : Type} : DataW H := .iface "*errors.errorString" (.ptr (.agg [.lit (.string [117, 110, 101, 120, 112, 101, 99, 116, 101, 100, 32, 69, 79, 70])]))

/-- 'laws.FnVMCut': WHATEVER THE INPUT: true; the input reads as it did. -/
def fnVMCutSpec : ChangeSpec := { name := "fnVMCut", fn := fun _ => fun
  | [d1, d2, d3, d4] => { results := [.lit (.bool true)], args := [d1, d2, d3, d4] }
  | _ => none }
def fnVMCutRow : OpenClaim := { program := "ytkhicabfmkldpaadoor", sum := "9c611b8d0069dd2ad1cf015e8bbef66240f6a1c946511c3973846664bc3c56ff", func := "given.example/pub-tinsmith/laws.FnVMCut", spec := "fnVMCut", inPlace := ["math.Float32frombits", "math.Float64frombits"], unfollowed := true, recurses := true, named := ["io.ErrShortBuffer", "io.EOF", "io.ErrUnexpectedEOF", "encoding/binary.LittleEndian"], apart := false, laid := [("io.ErrShortBuffer", laid_io_ErrShortBuffer), ("io.EOF", laid_io_EOF), ("io.ErrUnexpectedEOF", laid_io_ErrUnexpectedEOF)] }
def FnVMCutSaid : Prop := fnVMCutRow.holds Tryd.pinned (OpenSpec.ofChange fnVMCutSpec)

/-- ITS FALSE NEIGHBOUR: 'it returns false'. Refute it at one input. -/
def fnVMCutWrong : ChangeSpec := { name := "fnVMCut", fn := fun _ => fun
  | [d1, d2, d3, d4] => { results := [.lit (.bool false)], args := [d1, d2, d3, d4] }
  | _ => none }
def FnVMCutWrongFalsely : Prop := fnVMCutRow.holds Tryd.pinned (OpenSpec.ofChange fnVMCutWrong)

/-- 'laws.FnVMHalts': WHATEVER THE INPUT: true; the input reads as it did. -/
def fnVMHaltsSpec : ChangeSpec := { name := "fnVMHalts", fn := fun _ => fun
  | [d1, d2, d3, d4] => { results := [.lit (.bool true)], args := [d1, d2, d3, d4] }
  | _ => none }
def fnVMHaltsRow : OpenClaim := { program := "ytkhicabfmkldpaadoor", sum := "9c611b8d0069dd2ad1cf015e8bbef66240f6a1c946511c3973846664bc3c56ff", func := "given.example/pub-tinsmith/laws.FnVMHalts", spec := "fnVMHalts", inPlace := ["math.Float32frombits", "math.Float64frombits"], unfollowed := true, recurses := true, named := ["io.ErrShortBuffer", "io.EOF", "io.ErrUnexpectedEOF", "encoding/binary.LittleEndian"], apart := false, laid := [("io.ErrShortBuffer", laid_io_ErrShortBuffer), ("io.EOF", laid_io_EOF), ("io.ErrUnexpectedEOF", laid_io_ErrUnexpectedEOF)] }
def FnVMHaltsSaid : Prop := fnVMHaltsRow.holds Tryd.pinned (OpenSpec.ofChange fnVMHaltsSpec)

/-- ITS FALSE NEIGHBOUR: 'it returns false'. Refute it at one input. -/
def fnVMHaltsWrong : ChangeSpec := { name := "fnVMHalts", fn := fun _ => fun
  | [d1, d2, d3, d4] => { results := [.lit (.bool false)], args := [d1, d2, d3, d4] }
  | _ => none }
def FnVMHaltsWrongFalsely : Prop := fnVMHaltsRow.holds Tryd.pinned (OpenSpec.ofChange fnVMHaltsWrong)

/-- 'laws.FnVMJoins': WHATEVER THE INPUT: true; the input reads as it did. -/
def fnVMJoinsSpec : ChangeSpec := { name := "fnVMJoins", fn := fun _ => fun
  | [d1, d2, d3, d4] => { results := [.lit (.bool true)], args := [d1, d2, d3, d4] }
  | _ => none }
def fnVMJoinsRow : OpenClaim := { program := "ytkhicabfmkldpaadoor", sum := "9c611b8d0069dd2ad1cf015e8bbef66240f6a1c946511c3973846664bc3c56ff", func := "given.example/pub-tinsmith/laws.FnVMJoins", spec := "fnVMJoins", inPlace := ["math.Float32frombits", "math.Float64frombits"], unfollowed := true, recurses := true, named := ["io.ErrShortBuffer", "io.EOF", "io.ErrUnexpectedEOF", "encoding/binary.LittleEndian"], apart := false, laid := [("io.ErrShortBuffer", laid_io_ErrShortBuffer), ("io.EOF", laid_io_EOF), ("io.ErrUnexpectedEOF", laid_io_ErrUnexpectedEOF)] }
def FnVMJoinsSaid : Prop := fnVMJoinsRow.holds Tryd.pinned (OpenSpec.ofChange fnVMJoinsSpec)

/-- ITS FALSE NEIGHBOUR: 'it returns false'. Refute it at one input. -/
def fnVMJoinsWrong : ChangeSpec := { name := "fnVMJoins", fn := fun _ => fun
  | [d1, d2, d3, d4] => { results := [.lit (.bool false)], args := [d1, d2, d3, d4] }
  | _ => none }
def FnVMJoinsWrongFalsely : Prop := fnVMJoinsRow.holds Tryd.pinned (OpenSpec.ofChange fnVMJoinsWrong)

/-- 'laws.FnVMLongs': WHATEVER THE INPUT: true; the input reads as it did. -/
def fnVMLongsSpec : ChangeSpec := { name := "fnVMLongs", fn := fun _ => fun
  | [d1, d2, d3, d4] => { results := [.lit (.bool true)], args := [d1, d2, d3, d4] }
  | _ => none }
def fnVMLongsRow : OpenClaim := { program := "ytkhicabfmkldpaadoor", sum := "9c611b8d0069dd2ad1cf015e8bbef66240f6a1c946511c3973846664bc3c56ff", func := "given.example/pub-tinsmith/laws.FnVMLongs", spec := "fnVMLongs", inPlace := ["math.Float32frombits", "math.Float64frombits"], unfollowed := true, recurses := true, named := ["io.ErrShortBuffer", "io.EOF", "io.ErrUnexpectedEOF", "encoding/binary.LittleEndian"], apart := false, laid := [("io.ErrShortBuffer", laid_io_ErrShortBuffer), ("io.EOF", laid_io_EOF), ("io.ErrUnexpectedEOF", laid_io_ErrUnexpectedEOF)] }
def FnVMLongsSaid : Prop := fnVMLongsRow.holds Tryd.pinned (OpenSpec.ofChange fnVMLongsSpec)

/-- ITS FALSE NEIGHBOUR: 'it returns false'. Refute it at one input. -/
def fnVMLongsWrong : ChangeSpec := { name := "fnVMLongs", fn := fun _ => fun
  | [d1, d2, d3, d4] => { results := [.lit (.bool false)], args := [d1, d2, d3, d4] }
  | _ => none }
def FnVMLongsWrongFalsely : Prop := fnVMLongsRow.holds Tryd.pinned (OpenSpec.ofChange fnVMLongsWrong)

/-- 'laws.FnVMRuns': WHATEVER THE INPUT: true; the input reads as it did. -/
def fnVMRunsSpec : ChangeSpec := { name := "fnVMRuns", fn := fun _ => fun
  | [d1, d2, d3] => { results := [.lit (.bool true)], args := [d1, d2, d3] }
  | _ => none }
def fnVMRunsRow : OpenClaim := { program := "ytkhicabfmkldpaadoor", sum := "9c611b8d0069dd2ad1cf015e8bbef66240f6a1c946511c3973846664bc3c56ff", func := "given.example/pub-tinsmith/laws.FnVMRuns", spec := "fnVMRuns", inPlace := ["math.Float32frombits", "math.Float64frombits"], unfollowed := true, recurses := true, named := ["io.ErrShortBuffer", "io.EOF", "io.ErrUnexpectedEOF", "encoding/binary.LittleEndian"], apart := false, laid := [("io.ErrShortBuffer", laid_io_ErrShortBuffer), ("io.EOF", laid_io_EOF), ("io.ErrUnexpectedEOF", laid_io_ErrUnexpectedEOF)] }
def FnVMRunsSaid : Prop := fnVMRunsRow.holds Tryd.pinned (OpenSpec.ofChange fnVMRunsSpec)

/-- ITS FALSE NEIGHBOUR: 'it returns false'. Refute it at one input. -/
def fnVMRunsWrong : ChangeSpec := { name := "fnVMRuns", fn := fun _ => fun
  | [d1, d2, d3] => { results := [.lit (.bool false)], args := [d1, d2, d3] }
  | _ => none }
def FnVMRunsWrongFalsely : Prop := fnVMRunsRow.holds Tryd.pinned (OpenSpec.ofChange fnVMRunsWrong)

/-- 'laws.FnVMValues': WHATEVER THE INPUT: true; the input reads as it did. -/
def fnVMValuesSpec : ChangeSpec := { name := "fnVMValues", fn := fun _ => fun
  | [d1, d2, d3] => { results := [.lit (.bool true)], args := [d1, d2, d3] }
  | _ => none }
def fnVMValuesRow : OpenClaim := { program := "ytkhicabfmkldpaadoor", sum := "9c611b8d0069dd2ad1cf015e8bbef66240f6a1c946511c3973846664bc3c56ff", func := "given.example/pub-tinsmith/laws.FnVMValues", spec := "fnVMValues", inPlace := ["math.Float32frombits", "math.Float64frombits"], unfollowed := true, recurses := true, named := ["io.ErrShortBuffer", "io.EOF", "io.ErrUnexpectedEOF", "encoding/binary.LittleEndian"], apart := false, laid := [("io.ErrShortBuffer", laid_io_ErrShortBuffer), ("io.EOF", laid_io_EOF), ("io.ErrUnexpectedEOF", laid_io_ErrUnexpectedEOF)] }
def FnVMValuesSaid : Prop := fnVMValuesRow.holds Tryd.pinned (OpenSpec.ofChange fnVMValuesSpec)

/-- ITS FALSE NEIGHBOUR: 'it returns false'. Refute it at one input. -/
def fnVMValuesWrong : ChangeSpec := { name := "fnVMValues", fn := fun _ => fun
  | [d1, d2, d3] => { results := [.lit (.bool false)], args := [d1, d2, d3] }
  | _ => none }
def FnVMValuesWrongFalsely : Prop := fnVMValuesRow.holds Tryd.pinned (OpenSpec.ofChange fnVMValuesWrong)

/- THE SECOND FORM. 'bulk': how many values and letters a reading holds, each counted each time it is reached (what is shared counts as often as it is met; a slice's spare places count too). A statement '..UptoSaid' is the law's where the arguments, and the package variables that the reading takes, are together of bulk at most 1048576: NARROWER than '..Said'. Prove '..Said' where nothing that the law and all that it calls make is longer than what came in: it says more and counts as full. Else prove '..UptoSaid'. A law counts once. -/
mutual
def uptoBulk {H : Type} : DataW H → Nat
  | .lit (.string bytes) => bytes.length + 1
  | .lit _ => 1
  | .nil => 1
  | .ptr d => uptoBulk d + 1
  | .slice elems spare => uptoBulkAll elems + uptoBulkAll spare + 1
  | .agg parts => uptoBulkAll parts + 1
  | .iface _ d => uptoBulk d + 1
  | .map entries => uptoBulkEntries entries + 1
  | .held _ => 1
def uptoBulkAll {H : Type} : List (DataW H) → Nat
  | [] => 0
  | d :: r => uptoBulk d + uptoBulkAll r
def uptoBulkEntries {H : Type} : List (Lit × DataW H) → Nat
  | [] => 0
  | x :: r => uptoBulkEntry x + uptoBulkEntries r
def uptoBulkEntry {H : Type} : Lit × DataW H → Nat
  | (.string bytes, d) => bytes.length + uptoBulk d + 1
  | (_, d) => uptoBulk d + 1
 end
def uptoSmall : (H : Type) → List (DataW H) → Bool := fun _ ds => decide (uptoBulkAll ds ≤ 1048576)
def OpenSpec.upto (s : _root_.Go.ChangeSpec) : _root_.Go.OpenSpec := { _root_.Go.OpenSpec.ofChange s with cond := some uptoSmall }

/-- 'laws.FnVMCut', WHERE WHAT IT READS IS OF BULK AT MOST 1048576: true; the input reads as it did. -/
def fnVMCutUptoRow : OpenClaim := { program := "ytkhicabfmkldpaadoor", sum := "9c611b8d0069dd2ad1cf015e8bbef66240f6a1c946511c3973846664bc3c56ff", func := "given.example/pub-tinsmith/laws.FnVMCut", spec := "fnVMCut", inPlace := ["math.Float32frombits", "math.Float64frombits"], unfollowed := true, recurses := true, named := ["io.ErrShortBuffer", "io.EOF", "io.ErrUnexpectedEOF", "encoding/binary.LittleEndian"], apart := false, laid := [("io.ErrShortBuffer", laid_io_ErrShortBuffer), ("io.EOF", laid_io_EOF), ("io.ErrUnexpectedEOF", laid_io_ErrUnexpectedEOF)], narrowed := true }
def FnVMCutUptoSaid : Prop := fnVMCutUptoRow.holds Tryd.pinned (OpenSpec.upto fnVMCutSpec)

/-- 'laws.FnVMHalts', WHERE WHAT IT READS IS OF BULK AT MOST 1048576: true; the input reads as it did. -/
def fnVMHaltsUptoRow : OpenClaim := { program := "ytkhicabfmkldpaadoor", sum := "9c611b8d0069dd2ad1cf015e8bbef66240f6a1c946511c3973846664bc3c56ff", func := "given.example/pub-tinsmith/laws.FnVMHalts", spec := "fnVMHalts", inPlace := ["math.Float32frombits", "math.Float64frombits"], unfollowed := true, recurses := true, named := ["io.ErrShortBuffer", "io.EOF", "io.ErrUnexpectedEOF", "encoding/binary.LittleEndian"], apart := false, laid := [("io.ErrShortBuffer", laid_io_ErrShortBuffer), ("io.EOF", laid_io_EOF), ("io.ErrUnexpectedEOF", laid_io_ErrUnexpectedEOF)], narrowed := true }
def FnVMHaltsUptoSaid : Prop := fnVMHaltsUptoRow.holds Tryd.pinned (OpenSpec.upto fnVMHaltsSpec)

/-- 'laws.FnVMJoins', WHERE WHAT IT READS IS OF BULK AT MOST 1048576: true; the input reads as it did. -/
def fnVMJoinsUptoRow : OpenClaim := { program := "ytkhicabfmkldpaadoor", sum := "9c611b8d0069dd2ad1cf015e8bbef66240f6a1c946511c3973846664bc3c56ff", func := "given.example/pub-tinsmith/laws.FnVMJoins", spec := "fnVMJoins", inPlace := ["math.Float32frombits", "math.Float64frombits"], unfollowed := true, recurses := true, named := ["io.ErrShortBuffer", "io.EOF", "io.ErrUnexpectedEOF", "encoding/binary.LittleEndian"], apart := false, laid := [("io.ErrShortBuffer", laid_io_ErrShortBuffer), ("io.EOF", laid_io_EOF), ("io.ErrUnexpectedEOF", laid_io_ErrUnexpectedEOF)], narrowed := true }
def FnVMJoinsUptoSaid : Prop := fnVMJoinsUptoRow.holds Tryd.pinned (OpenSpec.upto fnVMJoinsSpec)

/-- 'laws.FnVMLongs', WHERE WHAT IT READS IS OF BULK AT MOST 1048576: true; the input reads as it did. -/
def fnVMLongsUptoRow : OpenClaim := { program := "ytkhicabfmkldpaadoor", sum := "9c611b8d0069dd2ad1cf015e8bbef66240f6a1c946511c3973846664bc3c56ff", func := "given.example/pub-tinsmith/laws.FnVMLongs", spec := "fnVMLongs", inPlace := ["math.Float32frombits", "math.Float64frombits"], unfollowed := true, recurses := true, named := ["io.ErrShortBuffer", "io.EOF", "io.ErrUnexpectedEOF", "encoding/binary.LittleEndian"], apart := false, laid := [("io.ErrShortBuffer", laid_io_ErrShortBuffer), ("io.EOF", laid_io_EOF), ("io.ErrUnexpectedEOF", laid_io_ErrUnexpectedEOF)], narrowed := true }
def FnVMLongsUptoSaid : Prop := fnVMLongsUptoRow.holds Tryd.pinned (OpenSpec.upto fnVMLongsSpec)

/-- 'laws.FnVMRuns', WHERE WHAT IT READS IS OF BULK AT MOST 1048576: true; the input reads as it did. -/
def fnVMRunsUptoRow : OpenClaim := { program := "ytkhicabfmkldpaadoor", sum := "9c611b8d0069dd2ad1cf015e8bbef66240f6a1c946511c3973846664bc3c56ff", func := "given.example/pub-tinsmith/laws.FnVMRuns", spec := "fnVMRuns", inPlace := ["math.Float32frombits", "math.Float64frombits"], unfollowed := true, recurses := true, named := ["io.ErrShortBuffer", "io.EOF", "io.ErrUnexpectedEOF", "encoding/binary.LittleEndian"], apart := false, laid := [("io.ErrShortBuffer", laid_io_ErrShortBuffer), ("io.EOF", laid_io_EOF), ("io.ErrUnexpectedEOF", laid_io_ErrUnexpectedEOF)], narrowed := true }
def FnVMRunsUptoSaid : Prop := fnVMRunsUptoRow.holds Tryd.pinned (OpenSpec.upto fnVMRunsSpec)

/-- 'laws.FnVMValues', WHERE WHAT IT READS IS OF BULK AT MOST 1048576: true; the input reads as it did. -/
def fnVMValuesUptoRow : OpenClaim := { program := "ytkhicabfmkldpaadoor", sum := "9c611b8d0069dd2ad1cf015e8bbef66240f6a1c946511c3973846664bc3c56ff", func := "given.example/pub-tinsmith/laws.FnVMValues", spec := "fnVMValues", inPlace := ["math.Float32frombits", "math.Float64frombits"], unfollowed := true, recurses := true, named := ["io.ErrShortBuffer", "io.EOF", "io.ErrUnexpectedEOF", "encoding/binary.LittleEndian"], apart := false, laid := [("io.ErrShortBuffer", laid_io_ErrShortBuffer), ("io.EOF", laid_io_EOF), ("io.ErrUnexpectedEOF", laid_io_ErrUnexpectedEOF)], narrowed := true }
def FnVMValuesUptoSaid : Prop := fnVMValuesUptoRow.holds Tryd.pinned (OpenSpec.upto fnVMValuesSpec)

end Rows
end Go.Proofs.YtkhicabfmkldpaaDoor
