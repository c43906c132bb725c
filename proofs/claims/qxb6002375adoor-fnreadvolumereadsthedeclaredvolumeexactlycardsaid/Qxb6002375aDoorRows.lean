/-
  NARROWER THAN 'FOR EVERY INPUT', by the rows' own cells (each row's printed sentence says how): FnReadVolumeReadsTheDeclaredVolumeExactly: laid · FnReadVolumeIsAFixpoint: laid · FnReadVolumeIgnoresHowTheStreamIsChunked: laid.
  DERIVED. THE GIVEN ROWS OF THIS SEAT. 3 by the template 'for every input the law returns true; each argument reads behind the call as it read before'; 0 by the template 'total and deterministic' (their statements: Qxb6002375aDoorTotals.lean).
  GIVEN WITH THE SEED: the statements are not yours to turn. If you find one false, say at which input.
  Laid BY PROGRAM, IN A SANDBOX (cutbox-rows.mjs): the forced cells as the released guide's own fill.sh prints them over the translation be9c84e24fba8844… (all of the seat's roots in one cut). By AI agents, Wed Nov 11 2026. No macro, syntax, notation, axiom, sorry.
-/
import Derived.Test.Qxb6002375aDoorChecked
import GoSem.Claim
import GoSem.ClaimJoined
import GoSem.ClaimMapViews
import Derived.JoinedTies
import Derived.KernelRfl
namespace Go.Proofs.Qxb6002375aDoor
/- THE CELL 'sum', in the pinned program and in every row, IS THE sha256 OF THE DUMP (.gsa) THAT Qxb6002375aDoorProg.lean LOADS. Nothing in Lean hashes anything: it is a label: what it is worth is what the hold of that sum in a sandbox is worth. -/
noncomputable def Tryd.pinned : Pinned := { name := "qxb6002375adoor", sum := "be9c84e24fba88444a9d71ed3aa1bd029cc249dd5603e761a20bdd1936799f40", checked := Tryd.checked }
namespace Rows
def none {H : Type} : Left H := { results := [], args := [] }

/- WHAT THE LISTED PACKAGE-LEVEL VARIABLES READ AS WHEN THE CALL BEGINS. Each datum BY PROGRAM (the guide's laid-datum.mjs) off the statement by which the dump's own 'gosem.cut.vars' lays the variable. In a bare row this is a premise. The card (Qxb6002375aDoorCards.lean) ties it to the program's text. -/
def laid_io_ErrShortBuffer {H : Type} : DataW H := .iface "*errors.errorString" (.ptr (.agg [.lit (.string [115, 104, 111, 114, 116, 32, 98, 117, 102, 102, 101, 114])]))
def laid_io_EOF {H : Type} : DataW H := .iface "*errors.errorString" (.ptr (.agg [.lit (.string [69, 79, 70])]))
def laid_io_ErrUnexpectedEOF {H : Type} : DataW H := .iface "*errors.errorString" (.ptr (.agg [.lit (.string [117, 110, 101, 120, 112, 101, 99, 116, 101, 100, 32, 69, 79, 70])]))

/-- 'zzlaws_varstore_g1.FnReadVolumeReadsTheDeclaredVolumeExactly': WHATEVER THE INPUT: true; the input reads as it did. -/
def fnReadVolumeReadsTheDeclaredVolumeExactlySpec : ChangeSpec := { name := "fnReadVolumeReadsTheDeclaredVolumeExactly", fn := fun _ => fun
  | [d] => { results := [.lit (.bool true)], args := [d] }
  | _ => none }
def fnReadVolumeReadsTheDeclaredVolumeExactlyRow : OpenClaim := { program := "qxb6002375adoor", sum := "be9c84e24fba88444a9d71ed3aa1bd029cc249dd5603e761a20bdd1936799f40", func := "example.com/firmrudder/firmrudder/zzlaws_varstore_g1.FnReadVolumeReadsTheDeclaredVolumeExactly", spec := "fnReadVolumeReadsTheDeclaredVolumeExactly", unfollowed := true, recurses := true, named := ["io.EOF", "io.ErrUnexpectedEOF", "io.ErrShortBuffer", "encoding/binary.LittleEndian"], apart := false, laid := [("io.ErrShortBuffer", laid_io_ErrShortBuffer), ("io.EOF", laid_io_EOF), ("io.ErrUnexpectedEOF", laid_io_ErrUnexpectedEOF)] }
def FnReadVolumeReadsTheDeclaredVolumeExactlySaid : Prop := fnReadVolumeReadsTheDeclaredVolumeExactlyRow.holds Tryd.pinned (OpenSpec.ofChange fnReadVolumeReadsTheDeclaredVolumeExactlySpec)

/-- ITS FALSE NEIGHBOUR: 'it returns false'. Refute it at one input. -/
def fnReadVolumeReadsTheDeclaredVolumeExactlyWrong : ChangeSpec := { name := "fnReadVolumeReadsTheDeclaredVolumeExactly", fn := fun _ => fun
  | [d] => { results := [.lit (.bool false)], args := [d] }
  | _ => none }
def FnReadVolumeReadsTheDeclaredVolumeExactlyWrongFalsely : Prop := fnReadVolumeReadsTheDeclaredVolumeExactlyRow.holds Tryd.pinned (OpenSpec.ofChange fnReadVolumeReadsTheDeclaredVolumeExactlyWrong)

/-- 'zzlaws_varstore_g1.FnReadVolumeIsAFixpoint': WHATEVER THE INPUT: true; the input reads as it did. -/
def fnReadVolumeIsAFixpointSpec : ChangeSpec := { name := "fnReadVolumeIsAFixpoint", fn := fun _ => fun
  | [d] => { results := [.lit (.bool true)], args := [d] }
  | _ => none }
def fnReadVolumeIsAFixpointRow : OpenClaim := { program := "qxb6002375adoor", sum := "be9c84e24fba88444a9d71ed3aa1bd029cc249dd5603e761a20bdd1936799f40", func := "example.com/firmrudder/firmrudder/zzlaws_varstore_g1.FnReadVolumeIsAFixpoint", spec := "fnReadVolumeIsAFixpoint", unfollowed := true, recurses := true, named := ["io.EOF", "io.ErrUnexpectedEOF", "io.ErrShortBuffer", "encoding/binary.LittleEndian"], apart := false, laid := [("io.ErrShortBuffer", laid_io_ErrShortBuffer), ("io.EOF", laid_io_EOF), ("io.ErrUnexpectedEOF", laid_io_ErrUnexpectedEOF)] }
def FnReadVolumeIsAFixpointSaid : Prop := fnReadVolumeIsAFixpointRow.holds Tryd.pinned (OpenSpec.ofChange fnReadVolumeIsAFixpointSpec)

/-- ITS FALSE NEIGHBOUR: 'it returns false'. Refute it at one input. -/
def fnReadVolumeIsAFixpointWrong : ChangeSpec := { name := "fnReadVolumeIsAFixpoint", fn := fun _ => fun
  | [d] => { results := [.lit (.bool false)], args := [d] }
  | _ => none }
def FnReadVolumeIsAFixpointWrongFalsely : Prop := fnReadVolumeIsAFixpointRow.holds Tryd.pinned (OpenSpec.ofChange fnReadVolumeIsAFixpointWrong)

/-- 'zzlaws_varstore_g1.FnReadVolumeIgnoresHowTheStreamIsChunked': WHATEVER THE INPUT: true; the input reads as it did. -/
def fnReadVolumeIgnoresHowTheStreamIsChunkedSpec : ChangeSpec := { name := "fnReadVolumeIgnoresHowTheStreamIsChunked", fn := fun _ => fun
  | [d1, d2, d3] => { results := [.lit (.bool true)], args := [d1, d2, d3] }
  | _ => none }
def fnReadVolumeIgnoresHowTheStreamIsChunkedRow : OpenClaim := { program := "qxb6002375adoor", sum := "be9c84e24fba88444a9d71ed3aa1bd029cc249dd5603e761a20bdd1936799f40", func := "example.com/firmrudder/firmrudder/zzlaws_varstore_g1.FnReadVolumeIgnoresHowTheStreamIsChunked", spec := "fnReadVolumeIgnoresHowTheStreamIsChunked", unfollowed := true, recurses := true, named := ["io.EOF", "io.ErrUnexpectedEOF", "io.ErrShortBuffer", "encoding/binary.LittleEndian"], apart := false, laid := [("io.ErrShortBuffer", laid_io_ErrShortBuffer), ("io.EOF", laid_io_EOF), ("io.ErrUnexpectedEOF", laid_io_ErrUnexpectedEOF)] }
def FnReadVolumeIgnoresHowTheStreamIsChunkedSaid : Prop := fnReadVolumeIgnoresHowTheStreamIsChunkedRow.holds Tryd.pinned (OpenSpec.ofChange fnReadVolumeIgnoresHowTheStreamIsChunkedSpec)

/-- ITS FALSE NEIGHBOUR: 'it returns false'. Refute it at one input. -/
def fnReadVolumeIgnoresHowTheStreamIsChunkedWrong : ChangeSpec := { name := "fnReadVolumeIgnoresHowTheStreamIsChunked", fn := fun _ => fun
  | [d1, d2, d3] => { results := [.lit (.bool false)], args := [d1, d2, d3] }
  | _ => none }
def FnReadVolumeIgnoresHowTheStreamIsChunkedWrongFalsely : Prop := fnReadVolumeIgnoresHowTheStreamIsChunkedRow.holds Tryd.pinned (OpenSpec.ofChange fnReadVolumeIgnoresHowTheStreamIsChunkedWrong)

end Rows
end Go.Proofs.Qxb6002375aDoor
