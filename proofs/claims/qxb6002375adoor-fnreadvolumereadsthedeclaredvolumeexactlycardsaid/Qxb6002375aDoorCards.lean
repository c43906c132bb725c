/-
  DERIVED. GIVEN WITH THE SEED: THE CARDS: each row of Qxb6002375aDoorRows.lean that lists a variable, with what it lists TIED to the program's text (the seventh form; the later family's looks); each row that meets fmt, with fmt's text TOLD by the authors' own Lean function (tested against real Go, not proved from fmt's source: count such statements apart). THE CARD IS WHAT COUNTS. Prove the row's statement (the work); the ties are given (Qxb6002375aDoorTie.lean); close each card by the builder's one call (the guide's Derived/Test/ToyasCard.lean, 'card_holds'). Laid BY PROGRAM, IN A SANDBOX (cutbox-door.mjs). By AI agents, Wed Nov 11 2026. No macro, syntax, notation, axiom, sorry.
-/
import Derived.Test.Qxb6002375aDoorRows
import GoSem.ClaimSeven
namespace Go.Proofs.Qxb6002375aDoor
namespace Rows

/-- THE TIED CARD OF 'zzlaws_varstore_g1.FnReadVolumeReadsTheDeclaredVolumeExactly'. -/
def fnReadVolumeReadsTheDeclaredVolumeExactlyCard : Claim7 := { stood := { row := fnReadVolumeReadsTheDeclaredVolumeExactlyRow, standIns := [], harness := (true, "79fdec7fc5c00d650c07687b0c6b10a7db1c572431dcae1a54875fe04043f068"), looks := true }, kinds := [], alts := [], laidByText := true, laidKinds := [.sentinel, .sentinel, .sentinel], laidTests := true, laidLooks := .later }
def FnReadVolumeReadsTheDeclaredVolumeExactlyCardSaid : Prop := Claim7.holds Tryd.pinned (.plain (OpenSpec.ofChange fnReadVolumeReadsTheDeclaredVolumeExactlySpec)) fnReadVolumeReadsTheDeclaredVolumeExactlyCard

/-- THE TIED CARD OF 'zzlaws_varstore_g1.FnReadVolumeIsAFixpoint'. -/
def fnReadVolumeIsAFixpointCard : Claim7 := { stood := { row := fnReadVolumeIsAFixpointRow, standIns := [], harness := (true, "79fdec7fc5c00d650c07687b0c6b10a7db1c572431dcae1a54875fe04043f068"), looks := true }, kinds := [], alts := [], laidByText := true, laidKinds := [.sentinel, .sentinel, .sentinel], laidTests := true, laidLooks := .later }
def FnReadVolumeIsAFixpointCardSaid : Prop := Claim7.holds Tryd.pinned (.plain (OpenSpec.ofChange fnReadVolumeIsAFixpointSpec)) fnReadVolumeIsAFixpointCard

/-- THE TIED CARD OF 'zzlaws_varstore_g1.FnReadVolumeIgnoresHowTheStreamIsChunked'. -/
def fnReadVolumeIgnoresHowTheStreamIsChunkedCard : Claim7 := { stood := { row := fnReadVolumeIgnoresHowTheStreamIsChunkedRow, standIns := [], harness := (true, "79fdec7fc5c00d650c07687b0c6b10a7db1c572431dcae1a54875fe04043f068"), looks := true }, kinds := [], alts := [], laidByText := true, laidKinds := [.sentinel, .sentinel, .sentinel], laidTests := true, laidLooks := .later }
def FnReadVolumeIgnoresHowTheStreamIsChunkedCardSaid : Prop := Claim7.holds Tryd.pinned (.plain (OpenSpec.ofChange fnReadVolumeIgnoresHowTheStreamIsChunkedSpec)) fnReadVolumeIgnoresHowTheStreamIsChunkedCard
end Rows
end Go.Proofs.Qxb6002375aDoor
