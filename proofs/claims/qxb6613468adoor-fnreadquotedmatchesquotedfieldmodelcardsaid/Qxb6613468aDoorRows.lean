/-
  NARROWER THAN 'FOR EVERY INPUT', by the rows' own cells (each row's printed sentence says how): FnReadQuotedMatchesQuotedFieldModel: laid · FnReadQuotedLineBreakJoinsNextLine: laid.
  DERIVED. THE GIVEN ROWS OF THIS SEAT. 2 by the template 'for every input the law returns true; each argument reads behind the call as it read before'; 0 by the template 'total and deterministic' (their statements: Qxb6613468aDoorTotals.lean).
  GIVEN WITH THE SEED: the statements are not yours to turn. If you find one false, say at which input.
  Laid BY PROGRAM, IN A SANDBOX (cutbox-rows.mjs): the forced cells as the released guide's own fill.sh prints them over the translation 662b4b6a89825b86… (all of the seat's roots in one cut). By AI agents, Wed Nov 11 2026. No macro, syntax, notation, axiom, sorry.
-/
import Derived.Test.Qxb6613468aDoorChecked
import GoSem.Claim
import GoSem.ClaimJoined
import GoSem.ClaimMapViews
import Derived.JoinedTies
import Derived.KernelRfl
namespace Go.Proofs.Qxb6613468aDoor
/- THE CELL 'sum', in the pinned program and in every row, IS THE sha256 OF THE DUMP (.gsa) THAT Qxb6613468aDoorProg.lean LOADS. Nothing in Lean hashes anything: it is a label: what it is worth is what the hold of that sum in a sandbox is worth. -/
noncomputable def Tryd.pinned : Pinned := { name := "qxb6613468adoor", sum := "662b4b6a89825b864c7687aed7abb0a97641393526fbed6259fcd4f781290cda", checked := Tryd.checked }
namespace Rows
def none {H : Type} : Left H := { results := [], args := [] }

/- WHAT THE LISTED PACKAGE-LEVEL VARIABLES READ AS WHEN THE CALL BEGINS. Each datum BY PROGRAM (the guide's laid-datum.mjs) off the statement by which the dump's own 'gosem.cut.vars' lays the variable. In a bare row this is a premise. The card (Qxb6613468aDoorCards.lean) ties it to the program's text. -/
def laid_io_EOF {H : Type} : DataW H := .iface "*errors.errorString" (.ptr (.agg [.lit (.string [69, 79, 70])]))
def laid_io_ErrNoProgress {H : Type} : DataW H := .iface "*errors.errorString" (.ptr (.agg [.lit (.string [109, 117, 108, 116, 105, 112, 108, 101, 32, 82, 101, 97, 100, 32, 99, 97, 108, 108, 115, 32, 114, 101, 116, 117, 114, 110, 32, 110, 111, 32, 100, 97, 116, 97, 32, 111, 114, 32, 101, 114, 114, 111, 114])]))
def laid_bufio_ErrBufferFull {H : Type} : DataW H := .iface "*errors.errorString" (.ptr (.agg [.lit (.string [98, 117, 102, 105, 111, 58, 32, 98, 117, 102, 102, 101, 114, 32, 102, 117, 108, 108])]))
def laid_bufio_errNegativeRead {H : Type} : DataW H := .iface "*errors.errorString" (.ptr (.agg [.lit (.string [98, 117, 102, 105, 111, 58, 32, 114, 101, 97, 100, 101, 114, 32, 114, 101, 116, 117, 114, 110, 101, 100, 32, 110, 101, 103, 97, 116, 105, 118, 101, 32, 99, 111, 117, 110, 116, 32, 102, 114, 111, 109, 32, 82, 101, 97, 100])]))
def laid_encoding_csv_ErrQuote {H : Type} : DataW H := .iface "*errors.errorString" (.ptr (.agg [.lit (.string [101, 120, 116, 114, 97, 110, 101, 111, 117, 115, 32, 111, 114, 32, 109, 105, 115, 115, 105, 110, 103, 32, 34, 32, 105, 110, 32, 113, 117, 111, 116, 101, 100, 45, 102, 105, 101, 108, 100])]))

/-- 'zzlaws_root_b1.FnReadQuotedMatchesQuotedFieldModel': WHATEVER THE INPUT: true; the input reads as it did. -/
def fnReadQuotedMatchesQuotedFieldModelSpec : ChangeSpec := { name := "fnReadQuotedMatchesQuotedFieldModel", fn := fun _ => fun
  | [d1, d2, d3] => { results := [.lit (.bool true)], args := [d1, d2, d3] }
  | _ => none }
def fnReadQuotedMatchesQuotedFieldModelRow : OpenClaim := { program := "qxb6613468adoor", sum := "662b4b6a89825b864c7687aed7abb0a97641393526fbed6259fcd4f781290cda", func := "example.com/tessera/tessera/zzlaws_root_b1.FnReadQuotedMatchesQuotedFieldModel", spec := "fnReadQuotedMatchesQuotedFieldModel", inPlace := ["internal/bytealg.IndexByte"], unfollowed := true, recurses := true, named := ["io.EOF", "encoding/csv.ErrQuote", "bufio.ErrBufferFull", "bufio.errNegativeRead", "io.ErrNoProgress"], apart := false, laid := [("io.EOF", laid_io_EOF), ("io.ErrNoProgress", laid_io_ErrNoProgress), ("bufio.ErrBufferFull", laid_bufio_ErrBufferFull), ("bufio.errNegativeRead", laid_bufio_errNegativeRead), ("encoding/csv.ErrQuote", laid_encoding_csv_ErrQuote)] }
def FnReadQuotedMatchesQuotedFieldModelSaid : Prop := fnReadQuotedMatchesQuotedFieldModelRow.holds Tryd.pinned (OpenSpec.ofChange fnReadQuotedMatchesQuotedFieldModelSpec)

/-- ITS FALSE NEIGHBOUR: 'it returns false'. Refute it at one input. -/
def fnReadQuotedMatchesQuotedFieldModelWrong : ChangeSpec := { name := "fnReadQuotedMatchesQuotedFieldModel", fn := fun _ => fun
  | [d1, d2, d3] => { results := [.lit (.bool false)], args := [d1, d2, d3] }
  | _ => none }
def FnReadQuotedMatchesQuotedFieldModelWrongFalsely : Prop := fnReadQuotedMatchesQuotedFieldModelRow.holds Tryd.pinned (OpenSpec.ofChange fnReadQuotedMatchesQuotedFieldModelWrong)

/-- 'zzlaws_root_b1.FnReadQuotedLineBreakJoinsNextLine': WHATEVER THE INPUT: true; the input reads as it did. -/
def fnReadQuotedLineBreakJoinsNextLineSpec : ChangeSpec := { name := "fnReadQuotedLineBreakJoinsNextLine", fn := fun _ => fun
  | [d1, d2, d3, d4] => { results := [.lit (.bool true)], args := [d1, d2, d3, d4] }
  | _ => none }
def fnReadQuotedLineBreakJoinsNextLineRow : OpenClaim := { program := "qxb6613468adoor", sum := "662b4b6a89825b864c7687aed7abb0a97641393526fbed6259fcd4f781290cda", func := "example.com/tessera/tessera/zzlaws_root_b1.FnReadQuotedLineBreakJoinsNextLine", spec := "fnReadQuotedLineBreakJoinsNextLine", inPlace := ["internal/bytealg.IndexByte"], unfollowed := true, recurses := true, named := ["io.EOF", "encoding/csv.ErrQuote", "bufio.ErrBufferFull", "bufio.errNegativeRead", "io.ErrNoProgress"], apart := false, laid := [("io.EOF", laid_io_EOF), ("io.ErrNoProgress", laid_io_ErrNoProgress), ("bufio.ErrBufferFull", laid_bufio_ErrBufferFull), ("bufio.errNegativeRead", laid_bufio_errNegativeRead), ("encoding/csv.ErrQuote", laid_encoding_csv_ErrQuote)] }
def FnReadQuotedLineBreakJoinsNextLineSaid : Prop := fnReadQuotedLineBreakJoinsNextLineRow.holds Tryd.pinned (OpenSpec.ofChange fnReadQuotedLineBreakJoinsNextLineSpec)

/-- ITS FALSE NEIGHBOUR: 'it returns false'. Refute it at one input. -/
def fnReadQuotedLineBreakJoinsNextLineWrong : ChangeSpec := { name := "fnReadQuotedLineBreakJoinsNextLine", fn := fun _ => fun
  | [d1, d2, d3, d4] => { results := [.lit (.bool false)], args := [d1, d2, d3, d4] }
  | _ => none }
def FnReadQuotedLineBreakJoinsNextLineWrongFalsely : Prop := fnReadQuotedLineBreakJoinsNextLineRow.holds Tryd.pinned (OpenSpec.ofChange fnReadQuotedLineBreakJoinsNextLineWrong)

end Rows
end Go.Proofs.Qxb6613468aDoor
