/-
  NARROWER THAN 'FOR EVERY INPUT', by the rows' own cells (each row's printed sentence says how): LawS1271CUnlink: laid.
  DERIVED. THE GIVEN ROWS OF THIS SEAT. 2 by the template 'for every input the law returns true; each argument reads behind the call as it read before'; 0 by the template 'total and deterministic' (their statements: YbulkzhkFmtTotals.lean).
  GIVEN WITH THE SEED: the statements are not yours to turn. If you find one false, say at which input.
  Laid BY PROGRAM, IN A SANDBOX (cutbox-rows.mjs): the forced cells as the released guide's own fill.sh prints them over the translation 266e14de0019c909… (all of the seat's roots in one cut). By AI agents, Wed Nov 11 2026. No macro, syntax, notation, axiom, sorry.
-/
import Derived.Test.YbulkzhkFmtChecked
import GoSem.Claim
import GoSem.ClaimJoined
import GoSem.ClaimMapViews
import Derived.JoinedTies
import Derived.KernelRfl
namespace Go.Proofs.YbulkzhkFmt
/- THE CELL 'sum', in the pinned program and in every row, IS THE sha256 OF THE DUMP (.gsa) THAT YbulkzhkFmtProg.lean LOADS. Nothing in Lean hashes anything: it is a label: what it is worth is what the hold of that sum in a sandbox is worth. -/
noncomputable def Ybaf.pinned : Pinned := { name := "ybulkzhkfmt", sum := "266e14de0019c9097ecf8929bafc4b998c69f1835a3f4f48abae312e605cbc82", checked := Ybaf.checked }
namespace Rows
def none {H : Type} : Left H := { results := [], args := [] }

/- WHAT THE LISTED PACKAGE-LEVEL VARIABLES READ AS WHEN THE CALL BEGINS. Each datum BY PROGRAM (the guide's laid-datum.mjs) off the statement by which the dump's own 'gosem.cut.vars' lays the variable. In a bare row this is a premise. The card (YbulkzhkFmtCards.lean) ties it to the program's text. -/
def laid_io_EOF {H : Type} : DataW H := .iface "*errors.errorString" (.ptr (.agg [.lit (.string [69, 79, 70])]))
def laid_io_ErrUnexpectedEOF {H : Type} : DataW H := .iface "*errors.errorString" (.ptr (.agg [.lit (.string [117, 110, 101, 120, 112, 101, 99, 116, 101, 100, 32, 69, 79, 70])]))
def laid_syscall_errEAGAIN {H : Type} : DataW H := .iface "syscall.Errno" (.lit (.int .u64 11))
def laid_syscall_errEINVAL {H : Type} : DataW H := .iface "syscall.Errno" (.lit (.int .u64 22))
def laid_syscall_errENOENT {H : Type} : DataW H := .iface "syscall.Errno" (.lit (.int .u64 2))
def laid_internal_poll_ErrNetClosing {H : Type} : DataW H := .agg []
def laid_internal_poll_ErrFileClosing {H : Type} : DataW H := .iface "*errors.errorString" (.ptr (.agg [.lit (.string [117, 115, 101, 32, 111, 102, 32, 99, 108, 111, 115, 101, 100, 32, 102, 105, 108, 101])]))
def laid_os_ErrInvalid {H : Type} : DataW H := .iface "*errors.errorString" (.ptr (.agg [.lit (.string [105, 110, 118, 97, 108, 105, 100, 32, 97, 114, 103, 117, 109, 101, 110, 116])]))
def laid_os_ErrClosed {H : Type} : DataW H := .iface "*errors.errorString" (.ptr (.agg [.lit (.string [102, 105, 108, 101, 32, 97, 108, 114, 101, 97, 100, 121, 32, 99, 108, 111, 115, 101, 100])]))
def laid_os_errWriteAtInAppendMode {H : Type} : DataW H := .iface "*errors.errorString" (.ptr (.agg [.lit (.string [111, 115, 58, 32, 105, 110, 118, 97, 108, 105, 100, 32, 117, 115, 101, 32, 111, 102, 32, 87, 114, 105, 116, 101, 65, 116, 32, 111, 110, 32, 102, 105, 108, 101, 32, 111, 112, 101, 110, 101, 100, 32, 119, 105, 116, 104, 32, 79, 95, 65, 80, 80, 69, 78, 68])]))
def laid_os_checkWrapErr {H : Type} : DataW H := .lit (.bool false)

/-- 'server.LawS1271BPrimary': WHATEVER THE INPUT: true; the input reads as it did. -/
def lawS1271BPrimarySpec : ChangeSpec := { name := "lawS1271BPrimary", fn := fun _ => fun
  | [d] => { results := [.lit (.bool true)], args := [d] }
  | _ => none }
def lawS1271BPrimaryRow : OpenClaim := { program := "ybulkzhkfmt", sum := "266e14de0019c9097ecf8929bafc4b998c69f1835a3f4f48abae312e605cbc82", func := "example.com/lockstep/lockstep/pkg/server.LawS1271BPrimary", spec := "lawS1271BPrimary", stops := ["fmt.Sprintf", "fmt.errorf"], inPlace := ["fmt.Sprintf"], apart := false }
/-- NO THEOREM (fmt's text is open here; it may be false): for the released tool's asking of the row's closed facts alone. THE STATEMENT IS 'LawS1271BPrimaryToldSaid' (YbulkzhkFmtCards.lean). -/
def LawS1271BPrimaryFormAsk : Prop := lawS1271BPrimaryRow.holds Ybaf.pinned (OpenSpec.ofChange lawS1271BPrimarySpec)

/-- ITS FALSE NEIGHBOUR: 'it returns false'. Refute it at one input. -/
def lawS1271BPrimaryWrong : ChangeSpec := { name := "lawS1271BPrimary", fn := fun _ => fun
  | [d] => { results := [.lit (.bool false)], args := [d] }
  | _ => none }
def LawS1271BPrimaryWrongFormAsk : Prop := lawS1271BPrimaryRow.holds Ybaf.pinned (OpenSpec.ofChange lawS1271BPrimaryWrong)

/-- 'store.LawS1271CUnlink': WHATEVER THE INPUT: true; the input reads as it did. -/
def lawS1271CUnlinkSpec : ChangeSpec := { name := "lawS1271CUnlink", fn := fun _ => fun
  | [d1, d2, d3, d4, d5, d6, d7, d8, d9] => { results := [.lit (.bool true)], args := [d1, d2, d3, d4, d5, d6, d7, d8, d9] }
  | _ => none }
def lawS1271CUnlinkRow : OpenClaim := { program := "ybulkzhkfmt", sum := "266e14de0019c9097ecf8929bafc4b998c69f1835a3f4f48abae312e605cbc82", func := "example.com/lockstep/lockstep/pkg/store.LawS1271CUnlink", spec := "lawS1271CUnlink", stops := ["fmt.Sprintf", "fmt.errorf"], inPlace := ["sync/atomic.LoadUint64", "sync/atomic.CompareAndSwapUint64", "internal/poll.runtime_pollClose", "internal/poll.runtime_Semrelease", "internal/race.ReleaseMerge", "syscall.runtime_entersyscall", "internal/runtime/syscall/linux.Syscall6", "syscall.runtime_exitsyscall", "internal/race.ReadRange", "runtime.KeepAlive", "internal/reflectlite.TypeOf", "fmt.errorf"], unfollowed := true, recurses := true, named := ["encoding/binary.LittleEndian", "os.errWriteAtInAppendMode", "os.ErrInvalid", "io.ErrUnexpectedEOF", "internal/poll.ErrFileClosing", "internal/poll.ErrNetClosing", "internal/poll.CloseFunc", "syscall.ioSync", "syscall._zero", "syscall.errEAGAIN", "syscall.errEINVAL", "syscall.errENOENT", "io.EOF", "os.ErrClosed", "os.checkWrapErr"], apart := false, laid := [("io.EOF", laid_io_EOF), ("io.ErrUnexpectedEOF", laid_io_ErrUnexpectedEOF), ("syscall.errEAGAIN", laid_syscall_errEAGAIN), ("syscall.errEINVAL", laid_syscall_errEINVAL), ("syscall.errENOENT", laid_syscall_errENOENT), ("internal/poll.ErrNetClosing", laid_internal_poll_ErrNetClosing), ("internal/poll.ErrFileClosing", laid_internal_poll_ErrFileClosing), ("os.ErrInvalid", laid_os_ErrInvalid), ("os.ErrClosed", laid_os_ErrClosed), ("os.errWriteAtInAppendMode", laid_os_errWriteAtInAppendMode), ("os.checkWrapErr", laid_os_checkWrapErr)] }
/-- NO THEOREM (fmt's text is open here; it may be false): for the released tool's asking of the row's closed facts alone. THE STATEMENT IS 'LawS1271CUnlinkToldSaid' (YbulkzhkFmtCards.lean). -/
def LawS1271CUnlinkFormAsk : Prop := lawS1271CUnlinkRow.holds Ybaf.pinned (OpenSpec.ofChange lawS1271CUnlinkSpec)

/-- ITS FALSE NEIGHBOUR: 'it returns false'. Refute it at one input. -/
def lawS1271CUnlinkWrong : ChangeSpec := { name := "lawS1271CUnlink", fn := fun _ => fun
  | [d1, d2, d3, d4, d5, d6, d7, d8, d9] => { results := [.lit (.bool false)], args := [d1, d2, d3, d4, d5, d6, d7, d8, d9] }
  | _ => none }
def LawS1271CUnlinkWrongFormAsk : Prop := lawS1271CUnlinkRow.holds Ybaf.pinned (OpenSpec.ofChange lawS1271CUnlinkWrong)

end Rows
end Go.Proofs.YbulkzhkFmt
