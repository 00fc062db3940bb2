/-
  NARROWER THAN 'FOR EVERY INPUT', by the rows' own cells (each row's printed sentence says how): FnTableComesBack: laid.
  DERIVED. THE GIVEN ROWS OF THIS SEAT. 1 by the template 'for every input the law returns true; each argument reads behind the call as it read before'; 0 by the template 'total and deterministic' (their statements: YtmkdpjicgjhhjaaGreatDoorTotals.lean).
  GIVEN WITH THE SEED: the statements are not yours to turn. If you find one false, say at which input.
  Laid BY PROGRAM, IN A SANDBOX (cutbox-rows.mjs): the forced cells as the released guide's own fill.sh prints them over the translation 0d3141cab687aca1… (all of the seat's roots in one cut). By AI agents, Wed Nov 11 2026. No macro, syntax, notation, axiom, sorry.
-/
import Derived.Test.YtmkdpjicgjhhjaaGreatDoorChecked
import GoSem.Claim
import GoSem.ClaimJoined
import GoSem.ClaimMapViews
import Derived.JoinedTies
import Derived.KernelRfl
namespace Go.Proofs.YtmkdpjicgjhhjaaGreatDoor
/- THE CELL 'sum', in the pinned program and in every row, IS THE sha256 OF THE DUMP (.gsa) THAT YtmkdpjicgjhhjaaGreatDoorProg.lean LOADS. Nothing in Lean hashes anything: it is a label: what it is worth is what the hold of that sum in a sandbox is worth. -/
noncomputable def Tryz.pinned : Pinned := { name := "ytmkdpjicgjhhjaagreatdoor", sum := "0d3141cab687aca1d3905dafee255ad2089e6f293d3f36c5f3b4288e6d7ed100", checked := Tryz.checked }
namespace Rows
def none {H : Type} : Left H := { results := [], args := [] }

/- WHAT THE LISTED PACKAGE-LEVEL VARIABLES READ AS WHEN THE CALL BEGINS. Each datum BY PROGRAM (the guide's laid-datum.mjs) off the statement by which the dump's own 'gosem.cut.vars' lays the variable. In a bare row this is a premise. The card (YtmkdpjicgjhhjaaGreatDoorCards.lean) ties it to the program's text. -/
def laid_io_EOF {H : Type} : DataW H := .iface "*errors.errorString" (.ptr (.agg [.lit (.string [69, 79, 70])]))
def laid_bytes_ErrTooLarge {H : Type} : DataW H := .iface "*errors.errorString" (.ptr (.agg [.lit (.string [98, 121, 116, 101, 115, 46, 66, 117, 102, 102, 101, 114, 58, 32, 116, 111, 111, 32, 108, 97, 114, 103, 101])]))
def laid_logsandtables_pub_goleveldb_leveldb_comparer_DefaultComparer {H : Type} : DataW H := .agg []
def laid_logsandtables_pub_goleveldb_leveldb_opt_DefaultBlockRestartInterval {H : Type} : DataW H := .lit (.int .i64 16)
def laid_logsandtables_pub_goleveldb_leveldb_opt_DefaultBlockSize {H : Type} : DataW H := .lit (.int .i64 4096)
def laid_logsandtables_pub_goleveldb_leveldb_opt_DefaultCompressionType {H : Type} : DataW H := .lit (.int .u64 2)

/-- 'laws.FnTableComesBack': WHATEVER THE INPUT: true; the input reads as it did. -/
def fnTableComesBackSpec : ChangeSpec := { name := "fnTableComesBack", fn := fun _ => fun
  | [d1, d2, d3] => { results := [.lit (.bool true)], args := [d1, d2, d3] }
  | _ => none }
def fnTableComesBackRow : OpenClaim := { program := "ytmkdpjicgjhhjaagreatdoor", sum := "0d3141cab687aca1d3905dafee255ad2089e6f293d3f36c5f3b4288e6d7ed100", func := "logsandtables/laws.FnTableComesBack", spec := "fnTableComesBack", unfollowed := true, recurses := true, named := ["logsandtables/pub/goleveldb/leveldb/comparer.DefaultComparer", "logsandtables/pub/goleveldb/leveldb/opt.DefaultCompressionType", "logsandtables/pub/goleveldb/leveldb/opt.DefaultBlockSize", "logsandtables/pub/goleveldb/leveldb/opt.DefaultBlockRestartInterval", "bytes.ErrTooLarge", "encoding/binary.LittleEndian", "io.EOF"], apart := false, laid := [("io.EOF", laid_io_EOF), ("bytes.ErrTooLarge", laid_bytes_ErrTooLarge), ("logsandtables/pub/goleveldb/leveldb/comparer.DefaultComparer", laid_logsandtables_pub_goleveldb_leveldb_comparer_DefaultComparer), ("logsandtables/pub/goleveldb/leveldb/opt.DefaultBlockRestartInterval", laid_logsandtables_pub_goleveldb_leveldb_opt_DefaultBlockRestartInterval), ("logsandtables/pub/goleveldb/leveldb/opt.DefaultBlockSize", laid_logsandtables_pub_goleveldb_leveldb_opt_DefaultBlockSize), ("logsandtables/pub/goleveldb/leveldb/opt.DefaultCompressionType", laid_logsandtables_pub_goleveldb_leveldb_opt_DefaultCompressionType)] }
def FnTableComesBackSaid : Prop := fnTableComesBackRow.holds Tryz.pinned (OpenSpec.ofChange fnTableComesBackSpec)

/-- ITS FALSE NEIGHBOUR: 'it returns false'. Refute it at one input. -/
def fnTableComesBackWrong : ChangeSpec := { name := "fnTableComesBack", fn := fun _ => fun
  | [d1, d2, d3] => { results := [.lit (.bool false)], args := [d1, d2, d3] }
  | _ => none }
def FnTableComesBackWrongFalsely : Prop := fnTableComesBackRow.holds Tryz.pinned (OpenSpec.ofChange fnTableComesBackWrong)

/- THE SECOND FORM. 'bulk': how many values and letters a reading holds, each counted each time it is reached (what is shared counts as often as it is met; a slice's spare places count too). A statement '..UptoSaid' is the law's where the arguments, and the package variables that the reading takes, are together of bulk at most 1048576: NARROWER than '..Said'. Prove '..Said' where nothing that the law and all that it calls make is longer than what came in: it says more and counts as full. Else prove '..UptoSaid'. A law counts once. -/
mutual
def uptoBulk {H : Type} : DataW H → Nat
  | .lit (.string bytes) => bytes.length + 1
  | .lit _ => 1
  | .nil => 1
  | .ptr d => uptoBulk d + 1
  | .slice elems spare => uptoBulkAll elems + uptoBulkAll spare + 1
  | .agg parts => uptoBulkAll parts + 1
  | .iface _ d => uptoBulk d + 1
  | .map entries => uptoBulkEntries entries + 1
  | .held _ => 1
def uptoBulkAll {H : Type} : List (DataW H) → Nat
  | [] => 0
  | d :: r => uptoBulk d + uptoBulkAll r
def uptoBulkEntries {H : Type} : List (Lit × DataW H) → Nat
  | [] => 0
  | x :: r => uptoBulkEntry x + uptoBulkEntries r
def uptoBulkEntry {H : Type} : Lit × DataW H → Nat
  | (.string bytes, d) => bytes.length + uptoBulk d + 1
  | (_, d) => uptoBulk d + 1
 end
def uptoSmall : (H : Type) → List (DataW H) → Bool := fun _ ds => decide (uptoBulkAll ds ≤ 1048576)
def OpenSpec.upto (s : _root_.Go.ChangeSpec) : _root_.Go.OpenSpec := { _root_.Go.OpenSpec.ofChange s with cond := some uptoSmall }

/-- 'laws.FnTableComesBack', WHERE WHAT IT READS IS OF BULK AT MOST 1048576: true; the input reads as it did. -/
def fnTableComesBackUptoRow : OpenClaim := { program := "ytmkdpjicgjhhjaagreatdoor", sum := "0d3141cab687aca1d3905dafee255ad2089e6f293d3f36c5f3b4288e6d7ed100", func := "logsandtables/laws.FnTableComesBack", spec := "fnTableComesBack", unfollowed := true, recurses := true, named := ["logsandtables/pub/goleveldb/leveldb/comparer.DefaultComparer", "logsandtables/pub/goleveldb/leveldb/opt.DefaultCompressionType", "logsandtables/pub/goleveldb/leveldb/opt.DefaultBlockSize", "logsandtables/pub/goleveldb/leveldb/opt.DefaultBlockRestartInterval", "bytes.ErrTooLarge", "encoding/binary.LittleEndian", "io.EOF"], apart := false, laid := [("io.EOF", laid_io_EOF), ("bytes.ErrTooLarge", laid_bytes_ErrTooLarge), ("logsandtables/pub/goleveldb/leveldb/comparer.DefaultComparer", laid_logsandtables_pub_goleveldb_leveldb_comparer_DefaultComparer), ("logsandtables/pub/goleveldb/leveldb/opt.DefaultBlockRestartInterval", laid_logsandtables_pub_goleveldb_leveldb_opt_DefaultBlockRestartInterval), ("logsandtables/pub/goleveldb/leveldb/opt.DefaultBlockSize", laid_logsandtables_pub_goleveldb_leveldb_opt_DefaultBlockSize), ("logsandtables/pub/goleveldb/leveldb/opt.DefaultCompressionType", laid_logsandtables_pub_goleveldb_leveldb_opt_DefaultCompressionType)], narrowed := true }
def FnTableComesBackUptoSaid : Prop := fnTableComesBackUptoRow.holds Tryz.pinned (OpenSpec.upto fnTableComesBackSpec)

end Rows
end Go.Proofs.YtmkdpjicgjhhjaaGreatDoor
