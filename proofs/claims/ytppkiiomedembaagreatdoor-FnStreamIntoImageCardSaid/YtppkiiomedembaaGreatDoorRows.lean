/-
  NARROWER THAN 'FOR EVERY INPUT', by the rows' own cells (each row's printed sentence says how): FnStreamIntoImage: laid.
  DERIVED. THE GIVEN ROWS OF THIS SEAT. 1 by the template 'for every input the law returns true; each argument reads behind the call as it read before'; 0 by the template 'total and deterministic' (their statements: YtppkiiomedembaaGreatDoorTotals.lean).
  GIVEN WITH THE SEED: the statements are not yours to turn. If you find one false, say at which input.
  Laid BY PROGRAM, IN A SANDBOX (cutbox-rows.mjs): the forced cells as the released guide's own fill.sh prints them over the translation cd132d59f1871a30… (all of the seat's roots in one cut). By AI agents, Wed Nov 11 2026. No macro, syntax, notation, axiom, sorry.
-/
import Derived.Test.YtppkiiomedembaaGreatDoorChecked
import GoSem.Claim
import GoSem.ClaimJoined
import GoSem.ClaimMapViews
import Derived.JoinedTies
import Derived.KernelRfl
namespace Go.Proofs.YtppkiiomedembaaGreatDoor
/- THE CELL 'sum', in the pinned program and in every row, IS THE sha256 OF THE DUMP (.gsa) THAT YtppkiiomedembaaGreatDoorProg.lean LOADS. Nothing in Lean hashes anything: it is a label: what it is worth is what the hold of that sum in a sandbox is worth. -/
noncomputable def Tryz.pinned : Pinned := { name := "ytppkiiomedembaagreatdoor", sum := "cd132d59f1871a3073d523e6917cdb074840acec1946e6104410d1f6b04097ce", checked := Tryz.checked }
namespace Rows
def none {H : Type} : Left H := { results := [], args := [] }

/- WHAT THE LISTED PACKAGE-LEVEL VARIABLES READ AS WHEN THE CALL BEGINS. Each datum BY PROGRAM (the guide's laid-datum.mjs) off the statement by which the dump's own 'gosem.cut.vars' lays the variable. In a bare row this is a premise. The card (YtppkiiomedembaaGreatDoorCards.lean) ties it to the program's text. -/
def laid_pub_marram_pub_afero_inner_os_ErrExist {H : Type} : DataW H := .iface "*errors.errorString" (.ptr (.agg [.lit (.string [102, 105, 108, 101, 32, 97, 108, 114, 101, 97, 100, 121, 32, 101, 120, 105, 115, 116, 115])]))
def laid_pub_marram_pub_afero_inner_os_ErrNotExist {H : Type} : DataW H := .iface "*errors.errorString" (.ptr (.agg [.lit (.string [102, 105, 108, 101, 32, 100, 111, 101, 115, 32, 110, 111, 116, 32, 101, 120, 105, 115, 116])]))
def laid_pub_marram_pub_afero_inner_os_ENOENT {H : Type} : DataW H := .iface "*errors.errorString" (.ptr (.agg [.lit (.string [110, 111, 32, 115, 117, 99, 104, 32, 102, 105, 108, 101, 32, 111, 114, 32, 100, 105, 114, 101, 99, 116, 111, 114, 121])]))
def laid_pub_marram_pub_afero_inner_os_ENOTDIR {H : Type} : DataW H := .iface "*errors.errorString" (.ptr (.agg [.lit (.string [110, 111, 116, 32, 97, 32, 100, 105, 114, 101, 99, 116, 111, 114, 121])]))
def laid_pub_marram_pub_afero_inner_os_EPERM {H : Type} : DataW H := .iface "*errors.errorString" (.ptr (.agg [.lit (.string [111, 112, 101, 114, 97, 116, 105, 111, 110, 32, 110, 111, 116, 32, 112, 101, 114, 109, 105, 116, 116, 101, 100])]))
def laid_pub_marram_pub_afero_inner_os_EIO {H : Type} : DataW H := .iface "*errors.errorString" (.ptr (.agg [.lit (.string [105, 110, 112, 117, 116, 47, 111, 117, 116, 112, 117, 116, 32, 101, 114, 114, 111, 114])]))
def laid_pub_marram_pub_afero_inner_os_EBADFD {H : Type} : DataW H := .iface "*errors.errorString" (.ptr (.agg [.lit (.string [102, 105, 108, 101, 32, 100, 101, 115, 99, 114, 105, 112, 116, 111, 114, 32, 105, 110, 32, 98, 97, 100, 32, 115, 116, 97, 116, 101])]))
def laid_io_EOF {H : Type} : DataW H := .iface "*errors.errorString" (.ptr (.agg [.lit (.string [69, 79, 70])]))
def laid_io_ErrUnexpectedEOF {H : Type} : DataW H := .iface "*errors.errorString" (.ptr (.agg [.lit (.string [117, 110, 101, 120, 112, 101, 99, 116, 101, 100, 32, 69, 79, 70])]))
def laid_pub_marram_pub_afero_mem_ErrFileClosed {H : Type} : DataW H := .iface "*errors.errorString" (.ptr (.agg [.lit (.string [70, 105, 108, 101, 32, 105, 115, 32, 99, 108, 111, 115, 101, 100])]))
def laid_pub_marram_pub_afero_mem_ErrOutOfRange {H : Type} : DataW H := .iface "*errors.errorString" (.ptr (.agg [.lit (.string [111, 117, 116, 32, 111, 102, 32, 114, 97, 110, 103, 101])]))
def laid_pub_marram_pub_hcsshim_ext4_inner_compactext4_xattrPrefixes {H : Type} : DataW H := .agg [.agg [.lit (.int .u8 2), .lit (.string [115, 121, 115, 116, 101, 109, 46, 112, 111, 115, 105, 120, 95, 97, 99, 108, 95, 97, 99, 99, 101, 115, 115])], .agg [.lit (.int .u8 3), .lit (.string [115, 121, 115, 116, 101, 109, 46, 112, 111, 115, 105, 120, 95, 97, 99, 108, 95, 100, 101, 102, 97, 117, 108, 116])], .agg [.lit (.int .u8 8), .lit (.string [115, 121, 115, 116, 101, 109, 46, 114, 105, 99, 104, 97, 99, 108])], .agg [.lit (.int .u8 7), .lit (.string [115, 121, 115, 116, 101, 109, 46])], .agg [.lit (.int .u8 1), .lit (.string [117, 115, 101, 114, 46])], .agg [.lit (.int .u8 4), .lit (.string [116, 114, 117, 115, 116, 101, 100, 46])], .agg [.lit (.int .u8 6), .lit (.string [115, 101, 99, 117, 114, 105, 116, 121, 46])]]

/-- 'laws.FnStreamIntoImage': WHATEVER THE INPUT: true; the input reads as it did. -/
def fnStreamIntoImageSpec : ChangeSpec := { name := "fnStreamIntoImage", fn := fun _ => fun
  | [d1, d2, d3] => { results := [.lit (.bool true)], args := [d1, d2, d3] }
  | _ => none }
def fnStreamIntoImageRow : OpenClaim := { program := "ytppkiiomedembaagreatdoor", sum := "cd132d59f1871a3073d523e6917cdb074840acec1946e6104410d1f6b04097ce", func := "pub-marram/laws.FnStreamIntoImage", spec := "fnStreamIntoImage", inPlace := ["internal/bytealg.IndexByteString"], unfollowed := true, recurses := true, named := ["pub-marram/pub/afero/inner/os.ErrNotExist", "pub-marram/pub/afero/inner/os.ErrExist", "pub-marram/pub/afero/inner/os.ENOENT", "pub-marram/pub/afero/mem.ErrFileClosed", "pub-marram/pub/afero/mem.ErrOutOfRange", "io.EOF", "io.ErrUnexpectedEOF", "pub-marram/pub/afero/inner/os.ENOTDIR", "pub-marram/pub/afero/inner/os.EPERM", "pub-marram/pub/afero/inner/os.EBADFD", "pub-marram/pub/afero/inner/os.EIO", "pub-marram/pub/hcsshim/ext4/inner/compactext4.xattrPrefixes"], apart := false, laid := [("pub-marram/pub/afero/inner/os.ErrExist", laid_pub_marram_pub_afero_inner_os_ErrExist), ("pub-marram/pub/afero/inner/os.ErrNotExist", laid_pub_marram_pub_afero_inner_os_ErrNotExist), ("pub-marram/pub/afero/inner/os.ENOENT", laid_pub_marram_pub_afero_inner_os_ENOENT), ("pub-marram/pub/afero/inner/os.ENOTDIR", laid_pub_marram_pub_afero_inner_os_ENOTDIR), ("pub-marram/pub/afero/inner/os.EPERM", laid_pub_marram_pub_afero_inner_os_EPERM), ("pub-marram/pub/afero/inner/os.EIO", laid_pub_marram_pub_afero_inner_os_EIO), ("pub-marram/pub/afero/inner/os.EBADFD", laid_pub_marram_pub_afero_inner_os_EBADFD), ("io.EOF", laid_io_EOF), ("io.ErrUnexpectedEOF", laid_io_ErrUnexpectedEOF), ("pub-marram/pub/afero/mem.ErrFileClosed", laid_pub_marram_pub_afero_mem_ErrFileClosed), ("pub-marram/pub/afero/mem.ErrOutOfRange", laid_pub_marram_pub_afero_mem_ErrOutOfRange), ("pub-marram/pub/hcsshim/ext4/inner/compactext4.xattrPrefixes", laid_pub_marram_pub_hcsshim_ext4_inner_compactext4_xattrPrefixes)] }
def FnStreamIntoImageSaid : Prop := fnStreamIntoImageRow.holds Tryz.pinned (OpenSpec.ofChange fnStreamIntoImageSpec)

/-- ITS FALSE NEIGHBOUR: 'it returns false'. Refute it at one input. -/
def fnStreamIntoImageWrong : ChangeSpec := { name := "fnStreamIntoImage", fn := fun _ => fun
  | [d1, d2, d3] => { results := [.lit (.bool false)], args := [d1, d2, d3] }
  | _ => none }
def FnStreamIntoImageWrongFalsely : Prop := fnStreamIntoImageRow.holds Tryz.pinned (OpenSpec.ofChange fnStreamIntoImageWrong)

/- THE SECOND FORM. 'bulk': how many values and letters a reading holds, each counted each time it is reached (what is shared counts as often as it is met; a slice's spare places count too). A statement '..UptoSaid' is the law's where the arguments, and the package variables that the reading takes, are together of bulk at most 1048576: NARROWER than '..Said'. Prove '..Said' where nothing that the law and all that it calls make is longer than what came in: it says more and counts as full. Else prove '..UptoSaid'. A law counts once. -/
mutual
def uptoBulk {H : Type} : DataW H → Nat
  | .lit (.string bytes) => bytes.length + 1
  | .lit _ => 1
  | .nil => 1
  | .ptr d => uptoBulk d + 1
  | .slice elems spare => uptoBulkAll elems + uptoBulkAll spare + 1
  | .agg parts => uptoBulkAll parts + 1
  | .iface _ d => uptoBulk d + 1
  | .map entries => uptoBulkEntries entries + 1
  | .held _ => 1
def uptoBulkAll {H : Type} : List (DataW H) → Nat
  | [] => 0
  | d :: r => uptoBulk d + uptoBulkAll r
def uptoBulkEntries {H : Type} : List (Lit × DataW H) → Nat
  | [] => 0
  | x :: r => uptoBulkEntry x + uptoBulkEntries r
def uptoBulkEntry {H : Type} : Lit × DataW H → Nat
  | (.string bytes, d) => bytes.length + uptoBulk d + 1
  | (_, d) => uptoBulk d + 1
 end
def uptoSmall : (H : Type) → List (DataW H) → Bool := fun _ ds => decide (uptoBulkAll ds ≤ 1048576)
def OpenSpec.upto (s : _root_.Go.ChangeSpec) : _root_.Go.OpenSpec := { _root_.Go.OpenSpec.ofChange s with cond := some uptoSmall }

/-- 'laws.FnStreamIntoImage', WHERE WHAT IT READS IS OF BULK AT MOST 1048576: true; the input reads as it did. -/
def fnStreamIntoImageUptoRow : OpenClaim := { program := "ytppkiiomedembaagreatdoor", sum := "cd132d59f1871a3073d523e6917cdb074840acec1946e6104410d1f6b04097ce", func := "pub-marram/laws.FnStreamIntoImage", spec := "fnStreamIntoImage", inPlace := ["internal/bytealg.IndexByteString"], unfollowed := true, recurses := true, named := ["pub-marram/pub/afero/inner/os.ErrNotExist", "pub-marram/pub/afero/inner/os.ErrExist", "pub-marram/pub/afero/inner/os.ENOENT", "pub-marram/pub/afero/mem.ErrFileClosed", "pub-marram/pub/afero/mem.ErrOutOfRange", "io.EOF", "io.ErrUnexpectedEOF", "pub-marram/pub/afero/inner/os.ENOTDIR", "pub-marram/pub/afero/inner/os.EPERM", "pub-marram/pub/afero/inner/os.EBADFD", "pub-marram/pub/afero/inner/os.EIO", "pub-marram/pub/hcsshim/ext4/inner/compactext4.xattrPrefixes"], apart := false, laid := [("pub-marram/pub/afero/inner/os.ErrExist", laid_pub_marram_pub_afero_inner_os_ErrExist), ("pub-marram/pub/afero/inner/os.ErrNotExist", laid_pub_marram_pub_afero_inner_os_ErrNotExist), ("pub-marram/pub/afero/inner/os.ENOENT", laid_pub_marram_pub_afero_inner_os_ENOENT), ("pub-marram/pub/afero/inner/os.ENOTDIR", laid_pub_marram_pub_afero_inner_os_ENOTDIR), ("pub-marram/pub/afero/inner/os.EPERM", laid_pub_marram_pub_afero_inner_os_EPERM), ("pub-marram/pub/afero/inner/os.EIO", laid_pub_marram_pub_afero_inner_os_EIO), ("pub-marram/pub/afero/inner/os.EBADFD", laid_pub_marram_pub_afero_inner_os_EBADFD), ("io.EOF", laid_io_EOF), ("io.ErrUnexpectedEOF", laid_io_ErrUnexpectedEOF), ("pub-marram/pub/afero/mem.ErrFileClosed", laid_pub_marram_pub_afero_mem_ErrFileClosed), ("pub-marram/pub/afero/mem.ErrOutOfRange", laid_pub_marram_pub_afero_mem_ErrOutOfRange), ("pub-marram/pub/hcsshim/ext4/inner/compactext4.xattrPrefixes", laid_pub_marram_pub_hcsshim_ext4_inner_compactext4_xattrPrefixes)], narrowed := true }
def FnStreamIntoImageUptoSaid : Prop := fnStreamIntoImageUptoRow.holds Tryz.pinned (OpenSpec.upto fnStreamIntoImageSpec)

end Rows
end Go.Proofs.YtppkiiomedembaaGreatDoor
