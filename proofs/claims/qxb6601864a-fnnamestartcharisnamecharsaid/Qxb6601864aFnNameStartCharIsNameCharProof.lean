/-
  THE SHELL OF A PROOF OF 'Rows.FnNameStartCharIsNameCharSaid' ('example.com/attestant/attestant/zzlaws_internal_xmldsig_b1.FnNameStartCharIsNameChar'), WRITTEN BY PROGRAM (proof-skeleton.mjs) off the guide's own print for that function. Not trusted: Lean checks it.
  The hole is filled.
-/
import Derived.Test.Qxb6601864aRows
import Derived.WalkKit
import Derived.ProofKit
import Derived.OpenShut
import Derived.ShutString
import Derived.Test.Qxb6601864aName
namespace Go.Proofs.Qxb6601864a.fnNameStartCharIsNameChar
open Go.ChangeShapes Go.WideShapes Go.ChangeAt Go.RowKit
open Go.ChangeMaps (open_string shut_string)
set_option linter.unusedVariables false      -- a walk need not use every 'w<i>' (that an integer argument fits its kind)

theorem own : ownKnob Try.prog.godebug = none := by kernel_rfl

/-! ### STEP 1: THE WALK: the Go text returns true. 'Grown w w'': the world has at most new blocks (Derived/RowKit3.lean). Part the cases AHEAD of 'go_enter' where a test parts the walk; take each callee by a contract of your own. -/
/-- the cases: e1, e2: what the two calls answer; the tests of 'onlyInside' decided -/
theorem walk_at (r : Int) (b1 b2 c1 c2 c3 c4 c5 : Bool) (e1 : name.nameB r true = b1) (e2 : name.nameB r false = b2)
    (t1 : (r == 183) = c1) (t2 : decide (768 ≤ r) = c2) (t3 : decide (r ≤ 879) = c3) (t4 : decide (8255 ≤ r) = c4) (t5 : decide (r ≤ 8256) = c5)
    (hlaw : (b1 && !b2) = false ∧ (b2 && !b1) = (c1 || c2 && c3 || c4 && c5)) (w : World) :
    Calls Try.prog 4 #[.int .i32 r] w fun e w' => e = .returned (.bool true) ∧ w' = w := by
  cases b1 <;> cases b2 <;> cases c1 <;> cases c2 <;> cases c3 <;> cases c4 <;> cases c5
  all_goals first
    | (exfalso; revert hlaw; decide)
    | (clear hlaw
       go_enter Try.func4, Try.ntmps4
       go_wp2_with (go_at_call 9; refine (name.zz_any _ _ _).mono ?_; rintro e w' ⟨rfl, rfl⟩)
       go_ret
       exact ⟨rfl, rfl⟩)

theorem plain (r : Int) : (name.nameB r true && !name.nameB r false) = false ∧
    (name.nameB r false && !name.nameB r true) = ((r == 183) || decide (768 ≤ r) && decide (r ≤ 879) || decide (8255 ≤ r) && decide (r ≤ 8256)) := by
  have hi : ((r == 183) || decide (768 ≤ r) && decide (r ≤ 879) || decide (8255 ≤ r) && decide (r ≤ 8256)) = name.insideB r := rfl
  have hd : name.startB r = true → name.insideB r = false := by
    rw [name.startB_true, name.insideB_false]; unfold name.Start name.Inside; omega
  rw [hi]
  unfold name.nameB
  generalize name.startB r = s at *
  generalize name.insideB r = i at *
  cases s <;> cases i <;> simp_all

theorem walk (a0 : Int) (w0 : (Lit.int .i32 a0).wf = true) (w : World) :
    Calls Try.prog 4 #[.int .i32 a0] w fun e w' => e = .returned (.bool true) ∧ Grown w w' :=
  (walk_at a0 _ _ _ _ _ _ _ rfl rfl rfl rfl rfl rfl rfl (plain a0) w).mono fun e w' h => ⟨h.1, by rw [h.2]; exact Grown.refl _⟩

/-! ### THE ROW's STEP: WRITTEN OUT: LEAVE IT -/
set_option maxRecDepth 100000 in
theorem lifted (os : Os) (started : os.Started) (H : Type) (enc : TypeId × Value → H) :
    ReturnsInHanded {} Try.checked os 4 .any (Rows.fnNameStartCharIsNameCharSpec.pre6 enc Try.prog Try.f4 Rows.fnNameStartCharIsNameCharRow.domain false) (Rows.fnNameStartCharIsNameCharSpec.post enc Try.prog Try.f4 false true false false) := by
  refine returnsInHanded_of_change (C := Try.checked) own started (by kernel_rfl) Try.func4
    (ChangeSpec.witness6 (enc := enc) (C := Try.checked) false ⟨#[], #[.int .i32 0], []⟩ 8 (by kernel_rfl) (by kernel_rfl) (by kernel_rfl) (by kernel_rfl)) ?_
  intro W base args ds gs before hval0 hW hcnd _
  have hval : ∀ (j : Nat) t v, Try.f4.params[j]? = some t → args[j]? = some v → Value.okWide Try.prog W .any base t v := hval0
  have hW' := hW
  obtain ⟨p, q, hA0, hV, rfl, hfz, hnd⟩ := hW
  have hA : DataW.TrodAll enc Try.prog W 0 (fun _ => true) true Try.f4.params.toList args.toList ds p := hA0
  rw [Try.params4] at hA hval
  obtain ⟨v0, vs0, d0, ds0, p0, q0, hargs, rfl, rfl, h0, r0⟩ := trodAll_cons hA
  obtain ⟨rfl, rfl, rfl⟩ := trodAll_nil r0
  obtain rfl : args = #[v0] := by cases args; simp_all
  obtain ⟨rfl, rfl⟩ := trodVars_none hV
  obtain ⟨a0, rfl, rfl, rfl, w0⟩ := open_int Try.underlying21 (hval 0 21 v0 rfl rfl) h0
  clear hA0 hval0
  simp only [List.append_nil] at hW'
  refine (walk a0 w0 W).mono fun e W' ⟨he, hg⟩ => ?_
  subst he
  exact ⟨_, rfl, post_of_same (pa := []) (pv := []) hW' (fun _ _ _ => (trodAll_cons_mk (shut_bool Try.underlying4 _) trodAll_mk0)) (fun sp _ => (trodAll_cons_mk (shut_int Try.underlying21 w0) trodAll_mk0)) (fun _ _ => rfl) rfl
    (hg.frame _) hg.2.1 (ok_one (by kernel_rfl) rfl (okWide_bool_mk Try.underlying4 _))⟩

theorem over : Rows.fnNameStartCharIsNameCharRow.holds Try.pinned (OpenSpec.ofChange Rows.fnNameStartCharIsNameCharSpec) :=
  OpenClaim.holds_of_wide 4 Try.f4 rfl rfl rfl rfl rfl rfl rfl ⟨rfl, rfl, rfl, rfl, rfl⟩ rfl rfl rfl rfl rfl (by kernel_rfl) Try.func4 (by kernel_rfl)
    (of_decide_eq_true (by kernel_rfl)) (by unfold Func.isWrapper; first | (rw [if_pos (by decide +kernel)]; kernel_rfl) | (rw [if_neg (by decide +kernel)]; exact ⟨rfl, rfl⟩))
    (fun os started H enc _ => lifted os started H enc)

/-- ████ THE STATEMENT ████ -/
theorem proved : Rows.FnNameStartCharIsNameCharSaid :=
  over
end Go.Proofs.Qxb6601864a.fnNameStartCharIsNameChar
