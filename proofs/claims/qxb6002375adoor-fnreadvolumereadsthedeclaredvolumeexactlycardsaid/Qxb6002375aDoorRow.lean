import Derived.Test.Qxb6002375aDoorLaw
import Derived.LaidMore
import Derived.Stop.Joined
import Derived.ChangeOld
import Derived.Below
namespace Go.Proofs.Qxb6002375aDoor.rv
open Go.ChangeShapes Go.WideShapes Go.ChangeAt Go.RowKit
set_option linter.unusedVariables false
set_option linter.unusedSimpArgs false

theorem own : ownKnob Tryd.prog.godebug = none := by kernel_rfl
theorem laidOut : laidOutB Tryd.prog = true := by kernel_rfl

/-- WHAT THE WALK IS TOLD OF A SLICE OF INTEGERS THAT CAME IN -/
def IsRow (k : IntKind) (w : World) (a : Option Addr) (len cap : Nat) (zs : List Int) : Prop :=
  (a = none ∧ len = 0 ∧ cap = 0 ∧ zs = []) ∨
  ∃ x, a = some x ∧ len ≤ cap ∧ cap ≤ maxLen ∧ zs.length = cap ∧ (∀ i, i < zs.length → w.cell? (x.add i) = some (.int k (zs.getD i 0))) ∧ ∀ n ∈ zs, (Lit.int k n).wf = true

theorem small_take (zs : List Int) (n : Nat) (hw : ∀ x ∈ zs, (Lit.int .u8 x).wf = true) : Small (zs.take n) := fun j => by
  unfold bt
  rw [List.getD_eq_getElem?_getD]
  cases h : (zs.take n)[j]? with
  | none => simp
  | some x =>
    have hm : x ∈ zs := List.mem_of_mem_take (List.mem_of_getElem? h)
    have := hw x hm
    simp [Lit.wf, IntKind.min, IntKind.max, IntKind.bits, IntKind.signed] at this
    simp
    omega

theorem walk (a0 : Option Addr) (len0 cap0 : Nat) (z0 : List Int) (b0 b1 : Addr) (w : World) (w0 : IsRow .u8 w a0 len0 cap0 z0) (G : Glob w.heap.size b0 b1 w) :
    Calls Tryd.prog 3 #[.slice a0 len0 cap0] w fun e w' => e = .returned (.bool true) ∧ Below w.heap.size w w' := by
  by_cases hbig : len0 ≤ 1048576
  · rcases w0 with ⟨rfl, rfl, rfl, rfl⟩ | ⟨x, rfl, hl, hm, hz, hcell, hwz⟩
    · refine law_any [] none none 0 0 0 b0 b1 w G (fun j => by simp [bt]) rfl (by omega) ((copy_nil w).mono ?_)
      rintro e w' ⟨rfl, hw⟩
      rw [hw]
      exact ⟨rfl, .inl rfl, by have := G.n1; omega, Below.refl _ w⟩
    · by_cases h0 : len0 = 0
      · subst h0
        refine law_any [] (some x) (some ⟨w.heap.size, 0, none⟩) w.heap.size 0 cap0 b0 b1 w G (fun j => by simp [bt]) rfl (by omega) ((copy_empty x cap0 w).mono ?_)
        rintro e w' ⟨rfl, hb, hlt⟩
        exact ⟨rfl, .inl rfl, hlt, hb⟩
      · obtain ⟨b, off, spot⟩ := x
        have hc := hcell 0 (by omega)
        have hspot : spot = none := by simpa [Addr.add] using World.cell?_spot hc
        subst hspot
        have hbw : b < w.heap.size := by
          rcases Nat.lt_or_ge b w.heap.size with h1 | h1
          · exact h1
          · exfalso
            rw [addr_add] at hc
            simp [World.cell?, Array.getElem?_eq_none h1] at hc
        refine law_any (z0.take len0) _ (some ⟨w.heap.size, 0, none⟩) w.heap.size len0 cap0 b0 b1 w G (small_take _ _ hwz) (by simp; omega) hbig ((copy_some (z0.take len0) b off len0 cap0 w (by simp; omega) hbig (fun j hj => ?_) hbw).mono ?_)
        · have h1 := hcell j (by omega)
          rw [addr_add] at h1
          rw [h1]
          simp [bt, List.getD_eq_getElem?_getD, List.getElem?_take, hj]
        · rintro e w' ⟨rfl, hh, hb⟩
          exact ⟨rfl, .inr ⟨rfl, hh⟩, lt_of_heap hh, hb⟩
  · exact law_big a0 len0 cap0 w hbig

theorem cells78 : Tryd.prog.cellsOf 78 = 1 := by kernel_rfl
theorem cells9 : Tryd.prog.cellsOf 9 = 1 := by kernel_rfl
theorem star : "*" ++ "errors.errorString" = "*errors.errorString" := by decide
theorem row59 (u : TypeId) (h : Tryd.prog.typeName? 3 u = some "*errors.errorString") : u = 59 :=
  typeName_ptr_named (nm := "errors.errorString") (by rw [star]; kernel_rfl) (by kernel_rfl) (by decide) u (by rw [star]; exact h)

theorem sent {r : List (String × DataW Unit)} {W : World} {n : String} {text : List UInt8} {g : Nat}
    (h : laidMet Tryd.prog ((n, .iface "*errors.errorString" (.ptr (.agg [.lit (.string text)]))) :: r) W)
    (hg : Tryd.prog.globalNamed n = some g) (ht : (Tryd.prog.globals[g]?).map (·.type) = some 28) :
    ∃ a : Addr, W.cell? ⟨g, 0, none⟩ = some (.iface 59 (.pointer (some a))) ∧ ∃ c t, W.heap[a.block]? = some (.cells c t (0, 0)) := by
  obtain ⟨ps, ⟨g0, t0, cs0, f0, p0, q0, hg0, ht0, hv0, hd0, _, e0⟩, _, hrows⟩ := h
  obtain rfl := Option.some.inj (hg.symm.trans hg0)
  obtain rfl := Option.some.inj (ht.symm.trans ht0)
  subst e0
  obtain ⟨l0⟩ := cs0
  have ok0 : ∀ u v, l0 = [.iface u v] → Value.okWide Tryd.prog W .any 0 u v := fun u v e => by
    subst e
    exact (hrows g 0 (by simp [MemPlace.row])).2 u v (by simpa using World.var?_cell hg0 hv0 0)
  obtain ⟨a0, s0, rfl, hc0, hs0, hz0, rfl⟩ := errorString_of_trod Tryd.underlying28 row59 Tryd.underlying59 Tryd.underlying78 rfl rfl Tryd.underlying9 cells78 cells9 hd0 ok0
  obtain ⟨c0, t0, hb0⟩ := (hrows a0.block a0.off (by simp [MemPlace.row])).1
  exact ⟨a0, by simpa using World.var?_cell hg0 hv0 0, c0, t0, hb0⟩

theorem gEOF : Tryd.prog.globalNamed "io.EOF" = some 0 := by kernel_rfl
theorem gUEOF : Tryd.prog.globalNamed "io.ErrUnexpectedEOF" = some 1 := by kernel_rfl
theorem tEOF : (Tryd.prog.globals[0]?).map (·.type) = some 28 := by kernel_rfl
theorem tUEOF : (Tryd.prog.globals[1]?).map (·.type) = some 28 := by kernel_rfl

theorem of_laid {W : World} (h : laidMetH Tryd.prog Rows.fnReadVolumeReadsTheDeclaredVolumeExactlyRow.laid W) : ∃ a0 a1, Glob W.heap.size a0 a1 W := by
  rw [MakeChecks.laidMetH_plain _ _ _ (by kernel_rfl)] at h
  have h1 := laidMet.tail h
  have h2 := laidMet.tail h1
  obtain ⟨a0, c0, b0⟩ := sent h1 gEOF tEOF
  obtain ⟨a1, c1, b1⟩ := sent h2 gUEOF tUEOF
  refine ⟨a0, a1, c0, c1, b0, b1, ?_, ?_, ?_⟩
  · obtain ⟨_, _, h⟩ := b0; exact lt_of_heap h
  · obtain ⟨_, _, h⟩ := b1; exact lt_of_heap h
  · rcases Nat.lt_or_ge 1 W.heap.size with h1 | h1
    · exact h1
    · simp [World.cell?, Array.getElem?_eq_none h1] at c1

/-- The door's own heap meets the condition. -/
theorem door_met (os : Os) (args : Array Value) : laidMetH Tryd.prog Rows.fnReadVolumeReadsTheDeclaredVolumeExactlyRow.laid ((World.doorLaid Tryd.prog 400 os).forCall (fun _ _ => 0) ⟨#[], args, []⟩).memory :=
  laidMetH_of_parts3 (fuel := 8) (laidMet_of_run' 8 (by kernel_rfl) (by kernel_rfl)) (by kernel_rfl) (by kernel_rfl)

set_option maxRecDepth 100000 in
theorem lifted (os : Os) (started : os.Started) (H : Type) (enc : TypeId × Value → H) :
    ReturnsInHanded {} Tryd.checked os 3 .any (fun w args => (Rows.fnReadVolumeReadsTheDeclaredVolumeExactlySpec.pre enc Tryd.prog Tryd.f3 [] false w args ∧ laidMetH Tryd.prog Rows.fnReadVolumeReadsTheDeclaredVolumeExactlyRow.laid w) ∧ sizedMet enc Tryd.prog Tryd.f3 (OpenSpec.ofChange Rows.fnReadVolumeReadsTheDeclaredVolumeExactlySpec) false w args)
      (Rows.fnReadVolumeReadsTheDeclaredVolumeExactlySpec.post enc Tryd.prog Tryd.f3 false true false false) := by
  refine returnsInHanded_of_change_and (C := Tryd.checked) (X := fun w _ => laidMetH Tryd.prog Rows.fnReadVolumeReadsTheDeclaredVolumeExactlyRow.laid w) (fun _ _ _ hh h => h.of_heap hh) own started (by kernel_rfl) Tryd.func3
    (ChangeSpec.witness_shaped (enc := enc) (C := Tryd.checked) (os := os) (X := fun w _ => laidMetH Tryd.prog Rows.fnReadVolumeReadsTheDeclaredVolumeExactlyRow.laid w) false (World.doorLaid Tryd.prog 400 os) #[.slice none 0 0] 8 rfl (World.shaped_of_RefB (by kernel_rfl) (by kernel_rfl)) (by kernel_rfl) (by kernel_rfl) (by kernel_rfl) (door_met os _)) ?_
  intro W base args ds gs before hval0 hW _ _ hL _
  have hval : ∀ (j : Nat) t v, Tryd.f3.params[j]? = some t → args[j]? = some v → Value.okWide Tryd.prog W .any base t v := hval0
  have hW' := hW
  obtain ⟨p, q, hA0, hV, rfl, hfz, hnd⟩ := hW
  have hA : DataW.TrodAll enc Tryd.prog W 0 (fun _ => true) true Tryd.f3.params.toList args.toList ds p := hA0
  rw [Tryd.params3] at hA hval
  obtain ⟨v0, vs0, d0, ds0, p0, q0, hargs, rfl, rfl, h0, r0⟩ := trodAll_cons hA
  obtain ⟨rfl, rfl, rfl⟩ := trodAll_nil r0
  obtain rfl : args = #[v0] := by cases args; simp_all
  obtain ⟨rfl, rfl⟩ := trodVars_none hV
  obtain ⟨a0, len0, cap0, rfl⟩ := okWide_slice Tryd.underlying22 (hval 0 22 v0 rfl rfl)
  have k0 := h0
  have lt0 : ∀ x ∈ p0, x.block < W.heap.size := by obtain ⟨m, hm⟩ := k0; exact DataW.trod_lt m _ _ _ hm
  obtain ⟨z0, w0⟩ : ∃ zs, IsRow .u8 W a0 len0 cap0 zs := by
    obtain ⟨fuel, hf⟩ := h0
    rcases open_ints Tryd.underlying22 Tryd.underlying5 (by kernel_rfl) hf with ⟨hcs, _⟩ | ⟨x, l, c, zs, hcs, _, hl, hm, hz, _, hcell, hwz⟩
    · simp [Value.cells] at hcs
      obtain ⟨rfl, rfl, rfl⟩ := hcs
      exact ⟨[], .inl ⟨rfl, rfl, rfl, rfl⟩⟩
    · simp [Value.cells] at hcs
      obtain ⟨rfl, rfl, rfl⟩ := hcs
      exact ⟨zs, .inr ⟨_, rfl, hl, hm, by simpa using hz, hcell, hwz⟩⟩
  obtain ⟨b0, b1, G⟩ := of_laid hL
  clear hA0 hval0
  refine (walk a0 len0 cap0 z0 b0 b1 W w0 G).mono fun e W' ⟨he, bel⟩ => ?_
  subst he
  exact ⟨_, rfl, _, _, _, [], _, [], hW', trodAll_mk1 (shut_bool Tryd.underlying4 _), (trodAll_cons_mk (Below.trod laidOut (by kernel_rfl) (of_decide_eq_true (by kernel_rfl)) k0 bel lt0) trodAll_mk0), rfl, bel.frame _, fun h => by cases h⟩

theorem row_holds : Rows.FnReadVolumeReadsTheDeclaredVolumeExactlySaid :=
  OpenClaim.holds_of_wide 3 Tryd.f3 rfl rfl rfl rfl rfl rfl rfl ⟨rfl, rfl, rfl, rfl, rfl⟩ rfl rfl rfl rfl rfl (by kernel_rfl) Tryd.func3 (by kernel_rfl)
    (of_decide_eq_true (by kernel_rfl)) (by unfold Func.isWrapper; first | (rw [if_pos (by decide +kernel)]; kernel_rfl) | (rw [if_neg (by decide +kernel)]; exact ⟨rfl, rfl⟩))
    (fun os started H enc _ => lifted os started H enc)
end Go.Proofs.Qxb6002375aDoor.rv
