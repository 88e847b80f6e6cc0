/-
  NARROWER THAN 'FOR EVERY INPUT', by the rows' own cells (each row's printed sentence says how): FnDamaged: laid · FnRaw: laid.
  DERIVED. THE GIVEN ROWS OF THIS SEAT. 2 by the template 'for every input the law returns true; each argument reads behind the call as it read before'; 0 by the template 'total and deterministic' (their statements: YtpbahgddoamhgaaGreatDoorTotals.lean).
  GIVEN WITH THE SEED: the statements are not yours to turn. If you find one false, say at which input.
  Laid BY PROGRAM, IN A SANDBOX (cutbox-rows.mjs): the forced cells as the released guide's own fill.sh prints them over the translation eb06825a067f0771… (all of the seat's roots in one cut). By AI agents, Wed Nov 11 2026. No macro, syntax, notation, axiom, sorry.
-/
import Derived.Test.YtpbahgddoamhgaaGreatDoorChecked
import GoSem.Claim
import GoSem.ClaimJoined
import GoSem.ClaimMapViews
import Derived.JoinedTies
import Derived.KernelRfl
namespace Go.Proofs.YtpbahgddoamhgaaGreatDoor
/- THE CELL 'sum', in the pinned program and in every row, IS THE sha256 OF THE DUMP (.gsa) THAT YtpbahgddoamhgaaGreatDoorProg.lean LOADS. Nothing in Lean hashes anything: it is a label: what it is worth is what the hold of that sum in a sandbox is worth. -/
noncomputable def Tryz.pinned : Pinned := { name := "ytpbahgddoamhgaagreatdoor", sum := "eb06825a067f07717137e5fa95be1ffa1014e5481a44a9425dda15708408cddc", checked := Tryz.checked }
namespace Rows
def none {H : Type} : Left H := { results := [], args := [] }

/- WHAT THE LISTED PACKAGE-LEVEL VARIABLES READ AS WHEN THE CALL BEGINS. Each datum BY PROGRAM (the guide's laid-datum.mjs) off the statement by which the dump's own 'gosem.cut.vars' lays the variable. In a bare row this is a premise. The card (YtpbahgddoamhgaaGreatDoorCards.lean) ties it to the program's text. -/
def laid_io_ErrShortBuffer {H : Type} : DataW H := .iface "*errors.errorString" (.ptr (.agg [.lit (.string [115, 104, 111, 114, 116, 32, 98, 117, 102, 102, 101, 114])]))
def laid_io_EOF {H : Type} : DataW H := .iface "*errors.errorString" (.ptr (.agg [.lit (.string [69, 79, 70])]))
def laid_io_ErrUnexpectedEOF {H : Type} : DataW H := .iface "*errors.errorString" (.ptr (.agg [.lit (.string [117, 110, 101, 120, 112, 101, 99, 116, 101, 100, 32, 69, 79, 70])]))
def laid_cratestrap_pub_flate_codeOrder {H : Type} : DataW H := .agg [.lit (.int .i64 16), .lit (.int .i64 17), .lit (.int .i64 18), .lit (.int .i64 0), .lit (.int .i64 8), .lit (.int .i64 7), .lit (.int .i64 9), .lit (.int .i64 6), .lit (.int .i64 10), .lit (.int .i64 5), .lit (.int .i64 11), .lit (.int .i64 4), .lit (.int .i64 12), .lit (.int .i64 3), .lit (.int .i64 13), .lit (.int .i64 2), .lit (.int .i64 14), .lit (.int .i64 1), .lit (.int .i64 15)]
def laid_cratestrap_pub_zlib_ErrChecksum {H : Type} : DataW H := .iface "*errors.errorString" (.ptr (.agg [.lit (.string [122, 108, 105, 98, 58, 32, 105, 110, 118, 97, 108, 105, 100, 32, 99, 104, 101, 99, 107, 115, 117, 109])]))
def laid_cratestrap_pub_zlib_ErrDictionary {H : Type} : DataW H := .iface "*errors.errorString" (.ptr (.agg [.lit (.string [122, 108, 105, 98, 58, 32, 105, 110, 118, 97, 108, 105, 100, 32, 100, 105, 99, 116, 105, 111, 110, 97, 114, 121])]))
def laid_cratestrap_pub_zlib_ErrHeader {H : Type} : DataW H := .iface "*errors.errorString" (.ptr (.agg [.lit (.string [122, 108, 105, 98, 58, 32, 105, 110, 118, 97, 108, 105, 100, 32, 104, 101, 97, 100, 101, 114])]))

/-- 'laws.FnDamaged': WHATEVER THE INPUT: true; the input reads as it did. -/
def fnDamagedSpec : ChangeSpec := { name := "fnDamaged", fn := fun _ => fun
  | [d1, d2, d3, d4] => { results := [.lit (.bool true)], args := [d1, d2, d3, d4] }
  | _ => none }
def fnDamagedRow : OpenClaim := { program := "ytpbahgddoamhgaagreatdoor", sum := "eb06825a067f07717137e5fa95be1ffa1014e5481a44a9425dda15708408cddc", func := "cratestrap/laws.FnDamaged", spec := "fnDamaged", inPlace := ["internal/reflectlite.TypeOf"], unfollowed := true, recurses := true, named := ["io.EOF", "io.ErrUnexpectedEOF", "encoding/binary.BigEndian", "cratestrap/pub/zlib.ErrHeader", "cratestrap/pub/zlib.ErrDictionary", "io.ErrShortBuffer", "cratestrap/pub/flate.codeOrder", "cratestrap/pub/zlib.ErrChecksum"], plainKeys := false, apart := false, laid := [("io.ErrShortBuffer", laid_io_ErrShortBuffer), ("io.EOF", laid_io_EOF), ("io.ErrUnexpectedEOF", laid_io_ErrUnexpectedEOF), ("cratestrap/pub/flate.codeOrder", laid_cratestrap_pub_flate_codeOrder), ("cratestrap/pub/zlib.ErrChecksum", laid_cratestrap_pub_zlib_ErrChecksum), ("cratestrap/pub/zlib.ErrDictionary", laid_cratestrap_pub_zlib_ErrDictionary), ("cratestrap/pub/zlib.ErrHeader", laid_cratestrap_pub_zlib_ErrHeader)] }
def FnDamagedSaid : Prop := fnDamagedRow.holds Tryz.pinned (OpenSpec.ofChange fnDamagedSpec)

/-- ITS FALSE NEIGHBOUR: 'it returns false'. Refute it at one input. -/
def fnDamagedWrong : ChangeSpec := { name := "fnDamaged", fn := fun _ => fun
  | [d1, d2, d3, d4] => { results := [.lit (.bool false)], args := [d1, d2, d3, d4] }
  | _ => none }
def FnDamagedWrongFalsely : Prop := fnDamagedRow.holds Tryz.pinned (OpenSpec.ofChange fnDamagedWrong)

/-- 'laws.FnRaw': WHATEVER THE INPUT: true; the input reads as it did. -/
def fnRawSpec : ChangeSpec := { name := "fnRaw", fn := fun _ => fun
  | [d] => { results := [.lit (.bool true)], args := [d] }
  | _ => none }
def fnRawRow : OpenClaim := { program := "ytpbahgddoamhgaagreatdoor", sum := "eb06825a067f07717137e5fa95be1ffa1014e5481a44a9425dda15708408cddc", func := "cratestrap/laws.FnRaw", spec := "fnRaw", inPlace := ["internal/reflectlite.TypeOf"], unfollowed := true, recurses := true, named := ["io.EOF", "io.ErrUnexpectedEOF", "encoding/binary.BigEndian", "cratestrap/pub/zlib.ErrHeader", "cratestrap/pub/zlib.ErrDictionary", "io.ErrShortBuffer", "cratestrap/pub/flate.codeOrder", "cratestrap/pub/zlib.ErrChecksum"], plainKeys := false, apart := false, laid := [("io.ErrShortBuffer", laid_io_ErrShortBuffer), ("io.EOF", laid_io_EOF), ("io.ErrUnexpectedEOF", laid_io_ErrUnexpectedEOF), ("cratestrap/pub/flate.codeOrder", laid_cratestrap_pub_flate_codeOrder), ("cratestrap/pub/zlib.ErrChecksum", laid_cratestrap_pub_zlib_ErrChecksum), ("cratestrap/pub/zlib.ErrDictionary", laid_cratestrap_pub_zlib_ErrDictionary), ("cratestrap/pub/zlib.ErrHeader", laid_cratestrap_pub_zlib_ErrHeader)] }
def FnRawSaid : Prop := fnRawRow.holds Tryz.pinned (OpenSpec.ofChange fnRawSpec)

/-- ITS FALSE NEIGHBOUR: 'it returns false'. Refute it at one input. -/
def fnRawWrong : ChangeSpec := { name := "fnRaw", fn := fun _ => fun
  | [d] => { results := [.lit (.bool false)], args := [d] }
  | _ => none }
def FnRawWrongFalsely : Prop := fnRawRow.holds Tryz.pinned (OpenSpec.ofChange fnRawWrong)

/- THE SECOND FORM. 'bulk': how many values and letters a reading holds, each counted each time it is reached (what is shared counts as often as it is met; a slice's spare places count too). A statement '..UptoSaid' is the law's where the arguments, and the package variables that the reading takes, are together of bulk at most 1048576: NARROWER than '..Said'. Prove '..Said' where nothing that the law and all that it calls make is longer than what came in: it says more and counts as full. Else prove '..UptoSaid'. A law counts once. -/
mutual
def uptoBulk {H : Type} : DataW H → Nat
  | .lit (.string bytes) => bytes.length + 1
  | .lit _ => 1
  | .nil => 1
  | .ptr d => uptoBulk d + 1
  | .slice elems spare => uptoBulkAll elems + uptoBulkAll spare + 1
  | .agg parts => uptoBulkAll parts + 1
  | .iface _ d => uptoBulk d + 1
  | .map entries => uptoBulkEntries entries + 1
  | .held _ => 1
def uptoBulkAll {H : Type} : List (DataW H) → Nat
  | [] => 0
  | d :: r => uptoBulk d + uptoBulkAll r
def uptoBulkEntries {H : Type} : List (Lit × DataW H) → Nat
  | [] => 0
  | x :: r => uptoBulkEntry x + uptoBulkEntries r
def uptoBulkEntry {H : Type} : Lit × DataW H → Nat
  | (.string bytes, d) => bytes.length + uptoBulk d + 1
  | (_, d) => uptoBulk d + 1
 end
def uptoSmall : (H : Type) → List (DataW H) → Bool := fun _ ds => decide (uptoBulkAll ds ≤ 1048576)
def OpenSpec.upto (s : _root_.Go.ChangeSpec) : _root_.Go.OpenSpec := { _root_.Go.OpenSpec.ofChange s with cond := some uptoSmall }

/-- 'laws.FnDamaged', WHERE WHAT IT READS IS OF BULK AT MOST 1048576: true; the input reads as it did. -/
def fnDamagedUptoRow : OpenClaim := { program := "ytpbahgddoamhgaagreatdoor", sum := "eb06825a067f07717137e5fa95be1ffa1014e5481a44a9425dda15708408cddc", func := "cratestrap/laws.FnDamaged", spec := "fnDamaged", inPlace := ["internal/reflectlite.TypeOf"], unfollowed := true, recurses := true, named := ["io.EOF", "io.ErrUnexpectedEOF", "encoding/binary.BigEndian", "cratestrap/pub/zlib.ErrHeader", "cratestrap/pub/zlib.ErrDictionary", "io.ErrShortBuffer", "cratestrap/pub/flate.codeOrder", "cratestrap/pub/zlib.ErrChecksum"], plainKeys := false, apart := false, laid := [("io.ErrShortBuffer", laid_io_ErrShortBuffer), ("io.EOF", laid_io_EOF), ("io.ErrUnexpectedEOF", laid_io_ErrUnexpectedEOF), ("cratestrap/pub/flate.codeOrder", laid_cratestrap_pub_flate_codeOrder), ("cratestrap/pub/zlib.ErrChecksum", laid_cratestrap_pub_zlib_ErrChecksum), ("cratestrap/pub/zlib.ErrDictionary", laid_cratestrap_pub_zlib_ErrDictionary), ("cratestrap/pub/zlib.ErrHeader", laid_cratestrap_pub_zlib_ErrHeader)], narrowed := true }
def FnDamagedUptoSaid : Prop := fnDamagedUptoRow.holds Tryz.pinned (OpenSpec.upto fnDamagedSpec)

/-- 'laws.FnRaw', WHERE WHAT IT READS IS OF BULK AT MOST 1048576: true; the input reads as it did. -/
def fnRawUptoRow : OpenClaim := { program := "ytpbahgddoamhgaagreatdoor", sum := "eb06825a067f07717137e5fa95be1ffa1014e5481a44a9425dda15708408cddc", func := "cratestrap/laws.FnRaw", spec := "fnRaw", inPlace := ["internal/reflectlite.TypeOf"], unfollowed := true, recurses := true, named := ["io.EOF", "io.ErrUnexpectedEOF", "encoding/binary.BigEndian", "cratestrap/pub/zlib.ErrHeader", "cratestrap/pub/zlib.ErrDictionary", "io.ErrShortBuffer", "cratestrap/pub/flate.codeOrder", "cratestrap/pub/zlib.ErrChecksum"], plainKeys := false, apart := false, laid := [("io.ErrShortBuffer", laid_io_ErrShortBuffer), ("io.EOF", laid_io_EOF), ("io.ErrUnexpectedEOF", laid_io_ErrUnexpectedEOF), ("cratestrap/pub/flate.codeOrder", laid_cratestrap_pub_flate_codeOrder), ("cratestrap/pub/zlib.ErrChecksum", laid_cratestrap_pub_zlib_ErrChecksum), ("cratestrap/pub/zlib.ErrDictionary", laid_cratestrap_pub_zlib_ErrDictionary), ("cratestrap/pub/zlib.ErrHeader", laid_cratestrap_pub_zlib_ErrHeader)], narrowed := true }
def FnRawUptoSaid : Prop := fnRawUptoRow.holds Tryz.pinned (OpenSpec.upto fnRawSpec)

end Rows
end Go.Proofs.YtpbahgddoamhgaaGreatDoor
