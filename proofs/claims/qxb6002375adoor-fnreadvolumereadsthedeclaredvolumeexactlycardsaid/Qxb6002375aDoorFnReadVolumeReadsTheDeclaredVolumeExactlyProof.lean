import Derived.Test.Qxb6002375aDoorRow
import Derived.Test.Qxb6002375aDoorTie
import Derived.Test.Qxb6002375aDoorCards
import Derived.SevenTiedAt
namespace Go.Proofs.Qxb6002375aDoor.fnReadVolumeReadsTheDeclaredVolumeExactly
open Go

/-- ████ THE STATEMENT ████ -/
theorem proved : Rows.FnReadVolumeReadsTheDeclaredVolumeExactlyCardSaid :=
  Claim7.holds_tied_plain_at .later [] [.sentinel, .sentinel, .sentinel] true (true, "79fdec7fc5c00d650c07687b0c6b10a7db1c572431dcae1a54875fe04043f068") true
    rv.row_holds (fun _ h => by cases h) (by kernel_rfl) (fun _ h => by cases h) fnReadVolumeReadsTheDeclaredVolumeExactly_row_tie rfl ⟨rfl, rfl⟩ (by kernel_rfl) rfl
    (fun f fn hf hfn => by
      obtain rfl : f = 3 := Option.some.inj ((show Tryd.prog.funcNamed "example.com/firmrudder/firmrudder/zzlaws_varstore_g1.FnReadVolumeReadsTheDeclaredVolumeExactly" = some 3 by kernel_rfl).symm.trans hf) |>.symm
      obtain rfl : fn = Tryd.f3 := (Option.some.inj (Tryd.func3.symm.trans hfn)).symm
      exact ⟨by kernel_rfl, fun j t ht => by
        rw [Tryd.params3] at ht
        have h3 : t = 22 := by
          rcases j with _ | j
          · simpa using ht.symm
          · simp at ht
        subst h3
        exact (show Tryd.prog.wantsStandIn 22 = false by kernel_rfl)⟩)
    (by kernel_rfl)
end Go.Proofs.Qxb6002375aDoor.fnReadVolumeReadsTheDeclaredVolumeExactly
