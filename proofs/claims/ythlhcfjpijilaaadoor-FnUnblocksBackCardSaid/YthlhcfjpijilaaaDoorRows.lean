/-
  NARROWER THAN 'FOR EVERY INPUT', by the rows' own cells (each row's printed sentence says how): FnUninterlace: laid · FnUninterlaceBack: laid · FnReadTable: laid · FnUnblocks: ifaces, laid · FnUnblocksBack: ifaces, laid · FnTableBack: laid.
  DERIVED. THE GIVEN ROWS OF THIS SEAT. 6 by the template 'for every input the law returns true; each argument reads behind the call as it read before'; 0 by the template 'total and deterministic' (their statements: YthlhcfjpijilaaaDoorTotals.lean).
  GIVEN WITH THE SEED: the statements are not yours to turn. If you find one false, say at which input.
  Laid BY PROGRAM, IN A SANDBOX (cutbox-rows.mjs): the forced cells as the released guide's own fill.sh prints them over the translation aa1da29b0d75e12c… (all of the seat's roots in one cut). By AI agents, Wed Nov 11 2026. No macro, syntax, notation, axiom, sorry.
-/
import Derived.Test.YthlhcfjpijilaaaDoorChecked
import GoSem.Claim
import GoSem.ClaimJoined
import GoSem.ClaimMapViews
import Derived.JoinedTies
import Derived.KernelRfl
namespace Go.Proofs.YthlhcfjpijilaaaDoor
/- THE CELL 'sum', in the pinned program and in every row, IS THE sha256 OF THE DUMP (.gsa) THAT YthlhcfjpijilaaaDoorProg.lean LOADS. Nothing in Lean hashes anything: it is a label: what it is worth is what the hold of that sum in a sandbox is worth. -/
noncomputable def Tryd.pinned : Pinned := { name := "ythlhcfjpijilaaadoor", sum := "aa1da29b0d75e12cfbfd4823e6b0fcb60587dbeec7857e455590f760a5bf18ab", checked := Tryd.checked }
namespace Rows
def none {H : Type} : Left H := { results := [], args := [] }

/- WHAT THE LISTED PACKAGE-LEVEL VARIABLES READ AS WHEN THE CALL BEGINS. Each datum BY PROGRAM (the guide's laid-datum.mjs) off the statement by which the dump's own 'gosem.cut.vars' lays the variable. In a bare row this is a premise. The card (YthlhcfjpijilaaaDoorCards.lean) ties it to the program's text. -/
def laid_loop_example_pub_g03427_pub_gif_interlacing {H : Type} : DataW H := .slice [.agg [.lit (.int .i64 8), .lit (.int .i64 0)], .agg [.lit (.int .i64 8), .lit (.int .i64 4)], .agg [.lit (.int .i64 4), .lit (.int .i64 2)], .agg [.lit (.int .i64 2), .lit (.int .i64 1)]] []
def laid_io_ErrShortBuffer {H : Type} : DataW H := .iface "*errors.errorString" (.ptr (.agg [.lit (.string [115, 104, 111, 114, 116, 32, 98, 117, 102, 102, 101, 114])]))
def laid_io_EOF {H : Type} : DataW H := .iface "*errors.errorString" (.ptr (.agg [.lit (.string [69, 79, 70])]))
def laid_io_ErrUnexpectedEOF {H : Type} : DataW H := .iface "*errors.errorString" (.ptr (.agg [.lit (.string [117, 110, 101, 120, 112, 101, 99, 116, 101, 100, 32, 69, 79, 70])]))
def laid_loop_example_pub_g03427_pub_gif_errTooMuch {H : Type} : DataW H := .iface "*errors.errorString" (.ptr (.agg [.lit (.string [103, 105, 102, 58, 32, 116, 111, 111, 32, 109, 117, 99, 104, 32, 105, 109, 97, 103, 101, 32, 100, 97, 116, 97])]))

/-- 'laws.FnUninterlace': WHATEVER THE INPUT: true; the input reads as it did. -/
def fnUninterlaceSpec : ChangeSpec := { name := "fnUninterlace", vars := ["loop.example/pub-g03427/pub/gif.interlacing"], fn := fun _ => fun
  | [d1, d2, d3, g1] => { results := [.lit (.bool true)], args := [d1, d2, d3], vars := [g1] }
  | _ => none }
def fnUninterlaceRow : OpenClaim := { program := "ythlhcfjpijilaaadoor", sum := "aa1da29b0d75e12cfbfd4823e6b0fcb60587dbeec7857e455590f760a5bf18ab", func := "loop.example/pub-g03427/laws.FnUninterlace", spec := "fnUninterlace", named := ["loop.example/pub-g03427/pub/gif.interlacing"], apart := false, laid := [("loop.example/pub-g03427/pub/gif.interlacing", laid_loop_example_pub_g03427_pub_gif_interlacing)] }
def FnUninterlaceSaid : Prop := fnUninterlaceRow.holds Tryd.pinned (OpenSpec.ofChange fnUninterlaceSpec)

/-- ITS FALSE NEIGHBOUR: 'it returns false'. Refute it at one input. -/
def fnUninterlaceWrong : ChangeSpec := { name := "fnUninterlace", vars := ["loop.example/pub-g03427/pub/gif.interlacing"], fn := fun _ => fun
  | [d1, d2, d3, g1] => { results := [.lit (.bool false)], args := [d1, d2, d3], vars := [g1] }
  | _ => none }
def FnUninterlaceWrongFalsely : Prop := fnUninterlaceRow.holds Tryd.pinned (OpenSpec.ofChange fnUninterlaceWrong)

/-- 'laws.FnUninterlaceBack': WHATEVER THE INPUT: true; the input reads as it did. -/
def fnUninterlaceBackSpec : ChangeSpec := { name := "fnUninterlaceBack", vars := ["loop.example/pub-g03427/pub/gif.interlacing"], fn := fun _ => fun
  | [d1, d2, d3, g1] => { results := [.lit (.bool true)], args := [d1, d2, d3], vars := [g1] }
  | _ => none }
def fnUninterlaceBackRow : OpenClaim := { program := "ythlhcfjpijilaaadoor", sum := "aa1da29b0d75e12cfbfd4823e6b0fcb60587dbeec7857e455590f760a5bf18ab", func := "loop.example/pub-g03427/laws.FnUninterlaceBack", spec := "fnUninterlaceBack", named := ["loop.example/pub-g03427/pub/gif.interlacing"], apart := false, laid := [("loop.example/pub-g03427/pub/gif.interlacing", laid_loop_example_pub_g03427_pub_gif_interlacing)] }
def FnUninterlaceBackSaid : Prop := fnUninterlaceBackRow.holds Tryd.pinned (OpenSpec.ofChange fnUninterlaceBackSpec)

/-- ITS FALSE NEIGHBOUR: 'it returns false'. Refute it at one input. -/
def fnUninterlaceBackWrong : ChangeSpec := { name := "fnUninterlaceBack", vars := ["loop.example/pub-g03427/pub/gif.interlacing"], fn := fun _ => fun
  | [d1, d2, d3, g1] => { results := [.lit (.bool false)], args := [d1, d2, d3], vars := [g1] }
  | _ => none }
def FnUninterlaceBackWrongFalsely : Prop := fnUninterlaceBackRow.holds Tryd.pinned (OpenSpec.ofChange fnUninterlaceBackWrong)

/-- 'laws.FnReadTable': WHATEVER THE INPUT: true; the input reads as it did. -/
def fnReadTableSpec : ChangeSpec := { name := "fnReadTable", fn := fun _ => fun
  | [d1, d2] => { results := [.lit (.bool true)], args := [d1, d2] }
  | _ => none }
def fnReadTableRow : OpenClaim := { program := "ythlhcfjpijilaaadoor", sum := "aa1da29b0d75e12cfbfd4823e6b0fcb60587dbeec7857e455590f760a5bf18ab", func := "loop.example/pub-g03427/laws.FnReadTable", spec := "fnReadTable", unfollowed := true, recurses := true, named := ["io.EOF", "io.ErrUnexpectedEOF", "io.ErrShortBuffer"], apart := false, laid := [("io.ErrShortBuffer", laid_io_ErrShortBuffer), ("io.EOF", laid_io_EOF), ("io.ErrUnexpectedEOF", laid_io_ErrUnexpectedEOF)] }
def FnReadTableSaid : Prop := fnReadTableRow.holds Tryd.pinned (OpenSpec.ofChange fnReadTableSpec)

/-- ITS FALSE NEIGHBOUR: 'it returns false'. Refute it at one input. -/
def fnReadTableWrong : ChangeSpec := { name := "fnReadTable", fn := fun _ => fun
  | [d1, d2] => { results := [.lit (.bool false)], args := [d1, d2] }
  | _ => none }
def FnReadTableWrongFalsely : Prop := fnReadTableRow.holds Tryd.pinned (OpenSpec.ofChange fnReadTableWrong)

/-- 'laws.FnUnblocks': WHATEVER THE INPUT: true; the input reads as it did. -/
def fnUnblocksSpec : ChangeSpec := { name := "fnUnblocks", vars := ["loop.example/pub-g03427/pub/gif.errTooMuch"], fn := fun _ => fun
  | [d1, d2, g1] => { results := [.lit (.bool true)], args := [d1, d2], vars := [g1] }
  | _ => none }
def fnUnblocksRow : OpenClaim := { program := "ythlhcfjpijilaaadoor", sum := "aa1da29b0d75e12cfbfd4823e6b0fcb60587dbeec7857e455590f760a5bf18ab", func := "loop.example/pub-g03427/laws.FnUnblocks", spec := "fnUnblocks", unfollowed := true, recurses := true, named := ["io.EOF", "io.ErrUnexpectedEOF", "io.ErrShortBuffer", "loop.example/pub-g03427/pub/gif.errTooMuch"], ifaces := true, apart := false, laid := [("io.ErrShortBuffer", laid_io_ErrShortBuffer), ("io.EOF", laid_io_EOF), ("io.ErrUnexpectedEOF", laid_io_ErrUnexpectedEOF), ("loop.example/pub-g03427/pub/gif.errTooMuch", laid_loop_example_pub_g03427_pub_gif_errTooMuch)] }
def FnUnblocksSaid : Prop := fnUnblocksRow.holds Tryd.pinned (OpenSpec.ofChange fnUnblocksSpec)

/-- ITS FALSE NEIGHBOUR: 'it returns false'. Refute it at one input. -/
def fnUnblocksWrong : ChangeSpec := { name := "fnUnblocks", vars := ["loop.example/pub-g03427/pub/gif.errTooMuch"], fn := fun _ => fun
  | [d1, d2, g1] => { results := [.lit (.bool false)], args := [d1, d2], vars := [g1] }
  | _ => none }
def FnUnblocksWrongFalsely : Prop := fnUnblocksRow.holds Tryd.pinned (OpenSpec.ofChange fnUnblocksWrong)

/-- 'laws.FnUnblocksBack': WHATEVER THE INPUT: true; the input reads as it did. -/
def fnUnblocksBackSpec : ChangeSpec := { name := "fnUnblocksBack", vars := ["loop.example/pub-g03427/pub/gif.errTooMuch"], fn := fun _ => fun
  | [d1, d2, d3, g1] => { results := [.lit (.bool true)], args := [d1, d2, d3], vars := [g1] }
  | _ => none }
def fnUnblocksBackRow : OpenClaim := { program := "ythlhcfjpijilaaadoor", sum := "aa1da29b0d75e12cfbfd4823e6b0fcb60587dbeec7857e455590f760a5bf18ab", func := "loop.example/pub-g03427/laws.FnUnblocksBack", spec := "fnUnblocksBack", unfollowed := true, recurses := true, named := ["io.EOF", "io.ErrUnexpectedEOF", "io.ErrShortBuffer", "loop.example/pub-g03427/pub/gif.errTooMuch"], ifaces := true, apart := false, laid := [("io.ErrShortBuffer", laid_io_ErrShortBuffer), ("io.EOF", laid_io_EOF), ("io.ErrUnexpectedEOF", laid_io_ErrUnexpectedEOF), ("loop.example/pub-g03427/pub/gif.errTooMuch", laid_loop_example_pub_g03427_pub_gif_errTooMuch)] }
def FnUnblocksBackSaid : Prop := fnUnblocksBackRow.holds Tryd.pinned (OpenSpec.ofChange fnUnblocksBackSpec)

/-- ITS FALSE NEIGHBOUR: 'it returns false'. Refute it at one input. -/
def fnUnblocksBackWrong : ChangeSpec := { name := "fnUnblocksBack", vars := ["loop.example/pub-g03427/pub/gif.errTooMuch"], fn := fun _ => fun
  | [d1, d2, d3, g1] => { results := [.lit (.bool false)], args := [d1, d2, d3], vars := [g1] }
  | _ => none }
def FnUnblocksBackWrongFalsely : Prop := fnUnblocksBackRow.holds Tryd.pinned (OpenSpec.ofChange fnUnblocksBackWrong)

/-- 'laws.FnTableBack': WHATEVER THE INPUT: true; the input reads as it did. -/
def fnTableBackSpec : ChangeSpec := { name := "fnTableBack", fn := fun _ => fun
  | [d] => { results := [.lit (.bool true)], args := [d] }
  | _ => none }
def fnTableBackRow : OpenClaim := { program := "ythlhcfjpijilaaadoor", sum := "aa1da29b0d75e12cfbfd4823e6b0fcb60587dbeec7857e455590f760a5bf18ab", func := "loop.example/pub-g03427/laws.FnTableBack", spec := "fnTableBack", unfollowed := true, recurses := true, named := ["io.EOF", "io.ErrUnexpectedEOF", "io.ErrShortBuffer"], apart := false, laid := [("io.ErrShortBuffer", laid_io_ErrShortBuffer), ("io.EOF", laid_io_EOF), ("io.ErrUnexpectedEOF", laid_io_ErrUnexpectedEOF)] }
def FnTableBackSaid : Prop := fnTableBackRow.holds Tryd.pinned (OpenSpec.ofChange fnTableBackSpec)

/-- ITS FALSE NEIGHBOUR: 'it returns false'. Refute it at one input. -/
def fnTableBackWrong : ChangeSpec := { name := "fnTableBack", fn := fun _ => fun
  | [d] => { results := [.lit (.bool false)], args := [d] }
  | _ => none }
def FnTableBackWrongFalsely : Prop := fnTableBackRow.holds Tryd.pinned (OpenSpec.ofChange fnTableBackWrong)

/- THE SECOND FORM. 'bulk': how many values and letters a reading holds, each counted each time it is reached (what is shared counts as often as it is met; a slice's spare places count too). A statement '..UptoSaid' is the law's where the arguments, and the package variables that the reading takes, are together of bulk at most 1048576: NARROWER than '..Said'. Prove '..Said' where nothing that the law and all that it calls make is longer than what came in: it says more and counts as full. Else prove '..UptoSaid'. A law counts once. -/
mutual
def uptoBulk {H : Type} : DataW H → Nat
  | .lit (.string bytes) => bytes.length + 1
  | .lit _ => 1
  | .nil => 1
  | .ptr d => uptoBulk d + 1
  | .slice elems spare => uptoBulkAll elems + uptoBulkAll spare + 1
  | .agg parts => uptoBulkAll parts + 1
  | .iface _ d => uptoBulk d + 1
  | .map entries => uptoBulkEntries entries + 1
  | .held _ => 1
def uptoBulkAll {H : Type} : List (DataW H) → Nat
  | [] => 0
  | d :: r => uptoBulk d + uptoBulkAll r
def uptoBulkEntries {H : Type} : List (Lit × DataW H) → Nat
  | [] => 0
  | x :: r => uptoBulkEntry x + uptoBulkEntries r
def uptoBulkEntry {H : Type} : Lit × DataW H → Nat
  | (.string bytes, d) => bytes.length + uptoBulk d + 1
  | (_, d) => uptoBulk d + 1
 end
def uptoSmall : (H : Type) → List (DataW H) → Bool := fun _ ds => decide (uptoBulkAll ds ≤ 1048576)
def OpenSpec.upto (s : _root_.Go.ChangeSpec) : _root_.Go.OpenSpec := { _root_.Go.OpenSpec.ofChange s with cond := some uptoSmall }

/-- 'laws.FnUninterlace', WHERE WHAT IT READS IS OF BULK AT MOST 1048576: true; the input reads as it did. -/
def fnUninterlaceUptoRow : OpenClaim := { program := "ythlhcfjpijilaaadoor", sum := "aa1da29b0d75e12cfbfd4823e6b0fcb60587dbeec7857e455590f760a5bf18ab", func := "loop.example/pub-g03427/laws.FnUninterlace", spec := "fnUninterlace", named := ["loop.example/pub-g03427/pub/gif.interlacing"], apart := false, laid := [("loop.example/pub-g03427/pub/gif.interlacing", laid_loop_example_pub_g03427_pub_gif_interlacing)], narrowed := true }
def FnUninterlaceUptoSaid : Prop := fnUninterlaceUptoRow.holds Tryd.pinned (OpenSpec.upto fnUninterlaceSpec)

/-- 'laws.FnUninterlaceBack', WHERE WHAT IT READS IS OF BULK AT MOST 1048576: true; the input reads as it did. -/
def fnUninterlaceBackUptoRow : OpenClaim := { program := "ythlhcfjpijilaaadoor", sum := "aa1da29b0d75e12cfbfd4823e6b0fcb60587dbeec7857e455590f760a5bf18ab", func := "loop.example/pub-g03427/laws.FnUninterlaceBack", spec := "fnUninterlaceBack", named := ["loop.example/pub-g03427/pub/gif.interlacing"], apart := false, laid := [("loop.example/pub-g03427/pub/gif.interlacing", laid_loop_example_pub_g03427_pub_gif_interlacing)], narrowed := true }
def FnUninterlaceBackUptoSaid : Prop := fnUninterlaceBackUptoRow.holds Tryd.pinned (OpenSpec.upto fnUninterlaceBackSpec)

/-- 'laws.FnReadTable', WHERE WHAT IT READS IS OF BULK AT MOST 1048576: true; the input reads as it did. -/
def fnReadTableUptoRow : OpenClaim := { program := "ythlhcfjpijilaaadoor", sum := "aa1da29b0d75e12cfbfd4823e6b0fcb60587dbeec7857e455590f760a5bf18ab", func := "loop.example/pub-g03427/laws.FnReadTable", spec := "fnReadTable", unfollowed := true, recurses := true, named := ["io.EOF", "io.ErrUnexpectedEOF", "io.ErrShortBuffer"], apart := false, laid := [("io.ErrShortBuffer", laid_io_ErrShortBuffer), ("io.EOF", laid_io_EOF), ("io.ErrUnexpectedEOF", laid_io_ErrUnexpectedEOF)], narrowed := true }
def FnReadTableUptoSaid : Prop := fnReadTableUptoRow.holds Tryd.pinned (OpenSpec.upto fnReadTableSpec)

/-- 'laws.FnUnblocks', WHERE WHAT IT READS IS OF BULK AT MOST 1048576: true; the input reads as it did. -/
def fnUnblocksUptoRow : OpenClaim := { program := "ythlhcfjpijilaaadoor", sum := "aa1da29b0d75e12cfbfd4823e6b0fcb60587dbeec7857e455590f760a5bf18ab", func := "loop.example/pub-g03427/laws.FnUnblocks", spec := "fnUnblocks", unfollowed := true, recurses := true, named := ["io.EOF", "io.ErrUnexpectedEOF", "io.ErrShortBuffer", "loop.example/pub-g03427/pub/gif.errTooMuch"], ifaces := true, apart := false, laid := [("io.ErrShortBuffer", laid_io_ErrShortBuffer), ("io.EOF", laid_io_EOF), ("io.ErrUnexpectedEOF", laid_io_ErrUnexpectedEOF), ("loop.example/pub-g03427/pub/gif.errTooMuch", laid_loop_example_pub_g03427_pub_gif_errTooMuch)], narrowed := true }
def FnUnblocksUptoSaid : Prop := fnUnblocksUptoRow.holds Tryd.pinned (OpenSpec.upto fnUnblocksSpec)

/-- 'laws.FnUnblocksBack', WHERE WHAT IT READS IS OF BULK AT MOST 1048576: true; the input reads as it did. -/
def fnUnblocksBackUptoRow : OpenClaim := { program := "ythlhcfjpijilaaadoor", sum := "aa1da29b0d75e12cfbfd4823e6b0fcb60587dbeec7857e455590f760a5bf18ab", func := "loop.example/pub-g03427/laws.FnUnblocksBack", spec := "fnUnblocksBack", unfollowed := true, recurses := true, named := ["io.EOF", "io.ErrUnexpectedEOF", "io.ErrShortBuffer", "loop.example/pub-g03427/pub/gif.errTooMuch"], ifaces := true, apart := false, laid := [("io.ErrShortBuffer", laid_io_ErrShortBuffer), ("io.EOF", laid_io_EOF), ("io.ErrUnexpectedEOF", laid_io_ErrUnexpectedEOF), ("loop.example/pub-g03427/pub/gif.errTooMuch", laid_loop_example_pub_g03427_pub_gif_errTooMuch)], narrowed := true }
def FnUnblocksBackUptoSaid : Prop := fnUnblocksBackUptoRow.holds Tryd.pinned (OpenSpec.upto fnUnblocksBackSpec)

/-- 'laws.FnTableBack', WHERE WHAT IT READS IS OF BULK AT MOST 1048576: true; the input reads as it did. -/
def fnTableBackUptoRow : OpenClaim := { program := "ythlhcfjpijilaaadoor", sum := "aa1da29b0d75e12cfbfd4823e6b0fcb60587dbeec7857e455590f760a5bf18ab", func := "loop.example/pub-g03427/laws.FnTableBack", spec := "fnTableBack", unfollowed := true, recurses := true, named := ["io.EOF", "io.ErrUnexpectedEOF", "io.ErrShortBuffer"], apart := false, laid := [("io.ErrShortBuffer", laid_io_ErrShortBuffer), ("io.EOF", laid_io_EOF), ("io.ErrUnexpectedEOF", laid_io_ErrUnexpectedEOF)], narrowed := true }
def FnTableBackUptoSaid : Prop := fnTableBackUptoRow.holds Tryd.pinned (OpenSpec.upto fnTableBackSpec)

end Rows
end Go.Proofs.YthlhcfjpijilaaaDoor
