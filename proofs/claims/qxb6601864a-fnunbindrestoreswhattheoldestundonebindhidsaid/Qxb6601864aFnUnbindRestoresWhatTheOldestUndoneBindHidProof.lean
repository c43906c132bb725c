import Derived.Test.Qxb6601864aRestore
namespace Go.Proofs.Qxb6601864a.fnUnbindRestoresWhatTheOldestUndoneBindHid
open Go.ChangeShapes Go.WideShapes Go.ChangeAt Go.RowKit
set_option linter.unusedVariables false

theorem own : ownKnob Try.prog.godebug = none := by kernel_rfl
theorem laidOut : laidOutB Try.prog = true := by kernel_rfl

/-- an input that the law does not look at: too long -/
theorem walk_big {w : World} {a0 a1 : Option Addr} {len0 cap0 len1 cap1 : Nat} {ps : List (ByteArray × ByteArray)} {hs : List bd.Hd} (h0 : bd.IsP w a0 len0 ps) (h1 : bd.IsH w a1 len1 hs) (hl0 : len0 ≤ maxLen) (hl1 : len1 ≤ maxLen) (m : Int)
    (hbig : 4096 < len0 ∨ 4096 < len1) :
    Calls Try.prog 6 #[.slice a0 len0 cap0, .slice a1 len1 cap1, .int .i64 m] w fun e w' => e = .returned (.bool true) ∧ Below w.heap.size w w' := by
  go_enter Try.func6, Try.ntmps6
  go_wp2_with fail
  refine (bd.zb6_any h0 h1 hl0 hl1 m).mono ?_
  rintro e w1 ⟨⟨r, rfl⟩, hw⟩
  rw [hw]; clear hw
  unfold maxLen at hl0 hl1
  clear h0 h1
  cases r
  · go_wp2_with fail
    go_ret
    exact ⟨rfl, Below.refl _ _⟩
  by_cases g0 : 4096 < len0
  · clear hbig
    go_wp2_with fail
    go_ret
    exact ⟨rfl, Below.refl _ _⟩
  have g1 : 4096 < len1 := by omega
  clear hbig
  go_wp2_with fail
  go_ret
  exact ⟨rfl, Below.refl _ _⟩

/-- a negative mark -/
theorem walk_neg {w : World} {a0 a1 : Option Addr} {len0 cap0 len1 cap1 : Nat} {ps : List (ByteArray × ByteArray)} {hs : List bd.Hd} (h0 : bd.IsP w a0 len0 ps) (h1 : bd.IsH w a1 len1 hs) (hl0 : len0 ≤ 4096) (hl1 : len1 ≤ 4096) (m : Int) (hm : m < 0) :
    Calls Try.prog 6 #[.slice a0 len0 cap0, .slice a1 len1 cap1, .int .i64 m] w fun e w' => e = .returned (.bool true) ∧ Below w.heap.size w w' := by
  go_enter Try.func6, Try.ntmps6
  go_wp2_with fail
  refine (bd.zb6_any h0 h1 (by unfold maxLen; omega) (by unfold maxLen; omega) m).mono ?_
  rintro e w1 ⟨⟨r, rfl⟩, hw⟩
  rw [hw]; clear hw
  cases r
  · go_wp2_with fail
    go_ret
    exact ⟨rfl, Below.refl _ _⟩
  go_wp2_with fail
  refine (bd.pairBytes_any h0 (by omega)).mono ?_
  rintro e w2 ⟨⟨r0, rfl⟩, hb2⟩
  go_wp2_with fail
  refine (bd.hidBytes_any (h1.below hb2) (by omega)).mono ?_
  rintro e w3 ⟨⟨r1, rfl⟩, hb3⟩
  have hb3' := hb2.trans (hb3.mono hb2.size)
  clear hb2 hb3
  go_wp2_with fail
  all_goals go_ret
  all_goals exact ⟨rfl, hb3'⟩

theorem walk {w : World} {a0 a1 : Option Addr} {len0 cap0 len1 cap1 : Nat} {ps : List (ByteArray × ByteArray)} {hs : List bd.Hd} (h0 : bd.IsP w a0 len0 ps) (h1 : bd.IsH w a1 len1 hs) (hl0 : len0 ≤ maxLen) (hl1 : len1 ≤ maxLen) (m : Int) (hm : m ≤ 9223372036854775807) :
    Calls Try.prog 6 #[.slice a0 len0 cap0, .slice a1 len1 cap1, .int .i64 m] w fun e w' => e = .returned (.bool true) ∧ Below w.heap.size w w' := by
  by_cases hbig : 4096 < len0 ∨ 4096 < len1
  · exact walk_big h0 h1 hl0 hl1 m hbig
  · by_cases hneg : m < 0
    · exact walk_neg h0 h1 (by omega) (by omega) m hneg
    · obtain ⟨n, rfl⟩ := Int.eq_ofNat_of_zero_le (show 0 ≤ m by omega)
      exact bd.restore_small h0 h1 (by omega) (by omega) n (by omega)

/-! ### THE ROW's STEP -/
set_option maxRecDepth 100000 in
theorem lifted (os : Os) (started : os.Started) (H : Type) (enc : TypeId × Value → H) :
    ReturnsInHanded {} Try.checked os 6 .any (Rows.fnUnbindRestoresWhatTheOldestUndoneBindHidSpec.pre6 enc Try.prog Try.f6 Rows.fnUnbindRestoresWhatTheOldestUndoneBindHidRow.domain false) (Rows.fnUnbindRestoresWhatTheOldestUndoneBindHidSpec.post enc Try.prog Try.f6 false true false false) := by
  refine returnsInHanded_of_change (C := Try.checked) own started (by kernel_rfl) Try.func6
    (ChangeSpec.witness6 (enc := enc) (C := Try.checked) false ⟨#[], #[.slice none 0 0, .slice none 0 0, .int .i64 0], []⟩ 8 (by kernel_rfl) (by kernel_rfl) (by kernel_rfl) (by kernel_rfl)) ?_
  intro W base args ds gs before hval0 hW hcnd _
  have hval : ∀ (j : Nat) t v, Try.f6.params[j]? = some t → args[j]? = some v → Value.okWide Try.prog W .any base t v := hval0
  have hW' := hW
  obtain ⟨p, q, hA0, hV, rfl, hfz, hnd⟩ := hW
  have hA : DataW.TrodAll enc Try.prog W 0 (fun _ => true) true Try.f6.params.toList args.toList ds p := hA0
  rw [Try.params6] at hA hval
  obtain ⟨v0, vs0, d0, ds0, p0, q0, hargs, rfl, rfl, h0, r0⟩ := trodAll_cons hA
  obtain ⟨v1, vs1, d1, ds1, p1, q1, rfl, rfl, rfl, h1, r1⟩ := trodAll_cons r0
  obtain ⟨v2, vs2, d2, ds2, p2, q2, rfl, rfl, rfl, h2, r2⟩ := trodAll_cons r1
  obtain ⟨rfl, rfl, rfl⟩ := trodAll_nil r2
  obtain rfl : args = #[v0, v1, v2] := by cases args; simp_all
  obtain ⟨rfl, rfl⟩ := trodVars_none hV
  obtain ⟨a0, len0, cap0, rfl⟩ := okWide_slice Try.underlying24 (hval 0 24 v0 rfl rfl)
  obtain ⟨a1, len1, cap1, rfl⟩ := okWide_slice Try.underlying25 (hval 1 25 v1 rfl rfl)
  obtain ⟨a2, rfl, rfl, rfl, w2⟩ := open_int Try.underlying3 (hval 2 3 v2 rfl rfl) h2
  have k0 := h0
  have k1 := h1
  have lt0 : ∀ x ∈ p0, x.block < W.heap.size := by obtain ⟨m, hm⟩ := k0; exact DataW.trod_lt m _ _ _ hm
  have lt1 : ∀ x ∈ p1, x.block < W.heap.size := by obtain ⟨m, hm⟩ := k1; exact DataW.trod_lt m _ _ _ hm
  obtain ⟨f0, hf0⟩ := h0
  obtain ⟨f1, hf1⟩ := h1
  obtain ⟨ps, w0, m0⟩ := bd.isP_of (by simpa [Value.cells] using hf0)
  obtain ⟨hs, w1, m1⟩ := bd.isH_of (by simpa [Value.cells] using hf1)
  clear hA0 hval0
  refine (walk w0 w1 m0 m1 a2 (bounds_i64 w2).2).mono fun e W' ⟨he, bel⟩ => ?_
  subst he
  exact ⟨_, rfl, _, _, _, [], _, [], hW', trodAll_mk1 (shut_bool Try.underlying4 _), (trodAll_cons_mk (Below.trod laidOut (by kernel_rfl) (of_decide_eq_true (by kernel_rfl)) k0 bel lt0) (trodAll_cons_mk (Below.trod laidOut (by kernel_rfl) (of_decide_eq_true (by kernel_rfl)) k1 bel lt1) (trodAll_cons_mk (shut_int Try.underlying3 w2) trodAll_mk0))), rfl, bel.frame _, fun h => by cases h⟩

theorem over : Rows.fnUnbindRestoresWhatTheOldestUndoneBindHidRow.holds Try.pinned (OpenSpec.ofChange Rows.fnUnbindRestoresWhatTheOldestUndoneBindHidSpec) :=
  OpenClaim.holds_of_wide 6 Try.f6 rfl rfl rfl rfl rfl rfl rfl ⟨rfl, rfl, rfl, rfl, rfl⟩ rfl rfl rfl rfl rfl (by kernel_rfl) Try.func6 (by kernel_rfl)
    (of_decide_eq_true (by kernel_rfl)) (by unfold Func.isWrapper; first | (rw [if_pos (by decide +kernel)]; kernel_rfl) | (rw [if_neg (by decide +kernel)]; exact ⟨rfl, rfl⟩))
    (fun os started H enc _ => lifted os started H enc)

/-- THE STATEMENT -/
theorem proved : Rows.FnUnbindRestoresWhatTheOldestUndoneBindHidSaid :=
  over
end Go.Proofs.Qxb6601864a.fnUnbindRestoresWhatTheOldestUndoneBindHid
