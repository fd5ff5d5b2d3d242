/-
  NARROWER THAN 'FOR EVERY INPUT', by the rows' own cells (each row's printed sentence says how): FnReadHashText: laid · FnVarBytes: laid.
  DERIVED. THE GIVEN ROWS OF THIS SEAT. 2 by the template 'for every input the law returns true; each argument reads behind the call as it read before'; 0 by the template 'total and deterministic' (their statements: YtpogfbompljkkaaDoorTotals.lean).
  GIVEN WITH THE SEED: the statements are not yours to turn. If you find one false, say at which input.
  Laid BY PROGRAM, IN A SANDBOX (cutbox-rows.mjs): the forced cells as the released guide's own fill.sh prints them over the translation 4c97b517522fed6a… (all of the seat's roots in one cut). By AI agents, Wed Nov 11 2026. No macro, syntax, notation, axiom, sorry.
-/
import Derived.Test.YtpogfbompljkkaaDoorChecked
import GoSem.Claim
import GoSem.ClaimJoined
import GoSem.ClaimMapViews
import Derived.JoinedTies
import Derived.KernelRfl
namespace Go.Proofs.YtpogfbompljkkaaDoor
/- THE CELL 'sum', in the pinned program and in every row, IS THE sha256 OF THE DUMP (.gsa) THAT YtpogfbompljkkaaDoorProg.lean LOADS. Nothing in Lean hashes anything: it is a label: what it is worth is what the hold of that sum in a sandbox is worth. -/
noncomputable def Tryd.pinned : Pinned := { name := "ytpogfbompljkkaadoor", sum := "4c97b517522fed6ac93ba42f3b856236ee5f8ce534d254e24c42596aae63d213", checked := Tryd.checked }
namespace Rows
def none {H : Type} : Left H := { results := [], args := [] }

/- WHAT THE LISTED PACKAGE-LEVEL VARIABLES READ AS WHEN THE CALL BEGINS. Each datum BY PROGRAM (the guide's laid-datum.mjs) off the statement by which the dump's own 'gosem.cut.vars' lays the variable. In a bare row this is a premise. The card (YtpogfbompljkkaaDoorCards.lean) ties it to the program's text. -/
def laid_encoding_hex_ErrLength {H : Type} : DataW H := .iface "*errors.errorString" (.ptr (.agg [.lit (.string [101, 110, 99, 111, 100, 105, 110, 103, 47, 104, 101, 120, 58, 32, 111, 100, 100, 32, 108, 101, 110, 103, 116, 104, 32, 104, 101, 120, 32, 115, 116, 114, 105, 110, 103])]))
def laid_pub_mintmark_pub_btcdchainhash_ErrHashStrSize {H : Type} : DataW H := .iface "*errors.errorString" (.ptr (.agg [.lit (.string [109, 97, 120, 32, 104, 97, 115, 104, 32, 115, 116, 114, 105, 110, 103, 32, 108, 101, 110, 103, 116, 104, 32, 105, 115, 32, 37, 118, 32, 98, 121, 116, 101, 115])]))
def laid_io_ErrShortBuffer {H : Type} : DataW H := .iface "*errors.errorString" (.ptr (.agg [.lit (.string [115, 104, 111, 114, 116, 32, 98, 117, 102, 102, 101, 114])]))
def laid_io_EOF {H : Type} : DataW H := .iface "*errors.errorString" (.ptr (.agg [.lit (.string [69, 79, 70])]))
def laid_io_ErrUnexpectedEOF {H : Type} : DataW H := .iface "*errors.errorString" (.ptr (.agg [.lit (.string [117, 110, 101, 120, 112, 101, 99, 116, 101, 100, 32, 69, 79, 70])]))

/-- 'laws.FnReadHashText': WHATEVER THE INPUT: true; the input reads as it did. -/
def fnReadHashTextSpec : ChangeSpec := { name := "fnReadHashText", fn := fun _ => fun
  | [d] => { results := [.lit (.bool true)], args := [d] }
  | _ => none }
def fnReadHashTextRow : OpenClaim := { program := "ytpogfbompljkkaadoor", sum := "4c97b517522fed6ac93ba42f3b856236ee5f8ce534d254e24c42596aae63d213", func := "pub-mintmark/laws.FnReadHashText", spec := "fnReadHashText", named := ["pub-mintmark/pub/btcdchainhash.ErrHashStrSize", "encoding/hex.ErrLength"], apart := false, laid := [("encoding/hex.ErrLength", laid_encoding_hex_ErrLength), ("pub-mintmark/pub/btcdchainhash.ErrHashStrSize", laid_pub_mintmark_pub_btcdchainhash_ErrHashStrSize)] }
def FnReadHashTextSaid : Prop := fnReadHashTextRow.holds Tryd.pinned (OpenSpec.ofChange fnReadHashTextSpec)

/-- ITS FALSE NEIGHBOUR: 'it returns false'. Refute it at one input. -/
def fnReadHashTextWrong : ChangeSpec := { name := "fnReadHashText", fn := fun _ => fun
  | [d] => { results := [.lit (.bool false)], args := [d] }
  | _ => none }
def FnReadHashTextWrongFalsely : Prop := fnReadHashTextRow.holds Tryd.pinned (OpenSpec.ofChange fnReadHashTextWrong)

/-- 'laws.FnVarBytes': WHATEVER THE INPUT: true; the input reads as it did. -/
def fnVarBytesSpec : ChangeSpec := { name := "fnVarBytes", fn := fun _ => fun
  | [d1, d2] => { results := [.lit (.bool true)], args := [d1, d2] }
  | _ => none }
def fnVarBytesRow : OpenClaim := { program := "ytpogfbompljkkaadoor", sum := "4c97b517522fed6ac93ba42f3b856236ee5f8ce534d254e24c42596aae63d213", func := "pub-mintmark/laws.FnVarBytes", spec := "fnVarBytes", unfollowed := true, recurses := true, named := ["encoding/binary.LittleEndian", "io.ErrShortBuffer", "io.EOF", "io.ErrUnexpectedEOF"], apart := false, laid := [("io.ErrShortBuffer", laid_io_ErrShortBuffer), ("io.EOF", laid_io_EOF), ("io.ErrUnexpectedEOF", laid_io_ErrUnexpectedEOF)] }
def FnVarBytesSaid : Prop := fnVarBytesRow.holds Tryd.pinned (OpenSpec.ofChange fnVarBytesSpec)

/-- ITS FALSE NEIGHBOUR: 'it returns false'. Refute it at one input. -/
def fnVarBytesWrong : ChangeSpec := { name := "fnVarBytes", fn := fun _ => fun
  | [d1, d2] => { results := [.lit (.bool false)], args := [d1, d2] }
  | _ => none }
def FnVarBytesWrongFalsely : Prop := fnVarBytesRow.holds Tryd.pinned (OpenSpec.ofChange fnVarBytesWrong)

/- THE SECOND FORM. 'bulk': how many values and letters a reading holds, each counted each time it is reached (what is shared counts as often as it is met; a slice's spare places count too). A statement '..UptoSaid' is the law's where the arguments, and the package variables that the reading takes, are together of bulk at most 1048576: NARROWER than '..Said'. Prove '..Said' where nothing that the law and all that it calls make is longer than what came in: it says more and counts as full. Else prove '..UptoSaid'. A law counts once. -/
mutual
def uptoBulk {H : Type} : DataW H → Nat
  | .lit (.string bytes) => bytes.length + 1
  | .lit _ => 1
  | .nil => 1
  | .ptr d => uptoBulk d + 1
  | .slice elems spare => uptoBulkAll elems + uptoBulkAll spare + 1
  | .agg parts => uptoBulkAll parts + 1
  | .iface _ d => uptoBulk d + 1
  | .map entries => uptoBulkEntries entries + 1
  | .held _ => 1
def uptoBulkAll {H : Type} : List (DataW H) → Nat
  | [] => 0
  | d :: r => uptoBulk d + uptoBulkAll r
def uptoBulkEntries {H : Type} : List (Lit × DataW H) → Nat
  | [] => 0
  | x :: r => uptoBulkEntry x + uptoBulkEntries r
def uptoBulkEntry {H : Type} : Lit × DataW H → Nat
  | (.string bytes, d) => bytes.length + uptoBulk d + 1
  | (_, d) => uptoBulk d + 1
 end
def uptoSmall : (H : Type) → List (DataW H) → Bool := fun _ ds => decide (uptoBulkAll ds ≤ 1048576)
def OpenSpec.upto (s : _root_.Go.ChangeSpec) : _root_.Go.OpenSpec := { _root_.Go.OpenSpec.ofChange s with cond := some uptoSmall }

/-- 'laws.FnReadHashText', WHERE WHAT IT READS IS OF BULK AT MOST 1048576: true; the input reads as it did. -/
def fnReadHashTextUptoRow : OpenClaim := { program := "ytpogfbompljkkaadoor", sum := "4c97b517522fed6ac93ba42f3b856236ee5f8ce534d254e24c42596aae63d213", func := "pub-mintmark/laws.FnReadHashText", spec := "fnReadHashText", named := ["pub-mintmark/pub/btcdchainhash.ErrHashStrSize", "encoding/hex.ErrLength"], apart := false, laid := [("encoding/hex.ErrLength", laid_encoding_hex_ErrLength), ("pub-mintmark/pub/btcdchainhash.ErrHashStrSize", laid_pub_mintmark_pub_btcdchainhash_ErrHashStrSize)], narrowed := true }
def FnReadHashTextUptoSaid : Prop := fnReadHashTextUptoRow.holds Tryd.pinned (OpenSpec.upto fnReadHashTextSpec)

/-- 'laws.FnVarBytes', WHERE WHAT IT READS IS OF BULK AT MOST 1048576: true; the input reads as it did. -/
def fnVarBytesUptoRow : OpenClaim := { program := "ytpogfbompljkkaadoor", sum := "4c97b517522fed6ac93ba42f3b856236ee5f8ce534d254e24c42596aae63d213", func := "pub-mintmark/laws.FnVarBytes", spec := "fnVarBytes", unfollowed := true, recurses := true, named := ["encoding/binary.LittleEndian", "io.ErrShortBuffer", "io.EOF", "io.ErrUnexpectedEOF"], apart := false, laid := [("io.ErrShortBuffer", laid_io_ErrShortBuffer), ("io.EOF", laid_io_EOF), ("io.ErrUnexpectedEOF", laid_io_ErrUnexpectedEOF)], narrowed := true }
def FnVarBytesUptoSaid : Prop := fnVarBytesUptoRow.holds Tryd.pinned (OpenSpec.upto fnVarBytesSpec)

end Rows
end Go.Proofs.YtpogfbompljkkaaDoor
