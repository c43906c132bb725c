import Derived.Test.Qxb6002375aDoorAt
import Derived.Lib.Walk
import Derived.Lib.SliceRun
import Derived.Lib.AppendZerosOnto
namespace Go.Proofs.Qxb6002375aDoor.rv
open Go.ChangeShapes Go.WideShapes Go.ChangeAt Go.RowKit Go.Lib
set_option linter.unusedVariables false
set_option linter.unusedSimpArgs false

theorem addr_add (h o j : Nat) : (⟨h, o, none⟩ : Addr).add j = ⟨h, o + j, none⟩ := by unfold Addr.add; split <;> simp_all

/-- slices.Grow where there is no room -/
def Grew (w : World) (n : Nat) (cs : List Value) (e : Ending) (w' : World) : Prop := ∃ (G : Nat) (zs : List Value), 56 + n ≤ G ∧ G ≤ 9223372036854775807 ∧ (cs ++ zs).length = G ∧ e = .returned (.slice (some ⟨w.heap.size, 0, none⟩) 56 G) ∧ w' = w.drew.alloc (.cells (cs ++ zs).toArray 5)

set_option maxHeartbeats 4000000 in
set_option maxRecDepth 100000 in
theorem grow_any (h n : Nat) (cs : List Value) (w : World) (hn : 0 < n) (hn2 : n ≤ 100000000) (hcl : cs.length = 56) (hh : w.heap[h]? = some (.cells cs.toArray 5)) :
    Calls Tryd.prog 18 #[.slice (some ⟨h, 0, none⟩) 56 56, .int .i64 n] w fun e w' => Grew w n cs e w' := by
  have i5 : Tryd.prog.info? 5 = some (Tryd.prog.info? 5).get! := by kernel_rfl
  have i5s : (Tryd.prog.info? 5).get!.size = 1 := by kernel_rfl
  have hold : (Builtin.firstCells 1 56 (.slice (some ⟨h, 0, none⟩) 56 56)).run Tryd.prog w.drew = .ok cs.toArray w.drew :=
    run_firstCells_some w.drew 1 56 ⟨h, 0, none⟩ 56 56 cs (by omega) (fun j v hj => by
      rw [addr_add h 0 j, Nat.zero_add]
      show w.cell? _ = _
      simp only [World.cell?, hh]
      simpa using hj)
  obtain ⟨G, hG⟩ : ∃ G, G = grownCap w (56 + n) 56 5 := ⟨_, rfl⟩
  have hrz : ∀ ty, (Builtin.append_ #[22, 3] ty #[.slice (some ⟨h, 0, none⟩) 56 56, .int .i64 (n : Int)]).run Tryd.prog w =
      .ok (.slice (some ⟨w.heap.size, 0, none⟩) (56 + n) (grownCap w (56 + n) 56 5)) (w.drew.alloc (.cells (cs.toArray ++ Builtin.zeroCells (Value.int .u8 0).cells n ++ Builtin.zeroCells (Value.int .u8 0).cells (grownCap w (56 + n) 56 5 - (56 + n))) 5)) := fun ty =>
    Lib.run_append_grow_zeros w 22 3 ty 5 (Tryd.prog.info? 5).get! (.int .u8 0) .i64 .i64 Tryd.underlying22 Tryd.underlying3 i5 (by kernel_rfl) (some ⟨h, 0, none⟩) 56 56 cs hold n (by omega) (by rw [i5s]; omega) (by omega) (by omega)
      (by have : (Tryd.prog.info? 5).get!.bytes = 1 := by kernel_rfl
          rw [this]; omega)
      (growslice_fits (by omega) (by have : (Tryd.prog.info? 5).get!.bytes = 1 := by kernel_rfl
                                     rw [this]; omega))
  have hGn : 56 + n ≤ grownCap w (56 + n) 56 5 := grownCap_ge w _ _ _
  have hG63 : grownCap w (56 + n) 56 5 ≤ 9223372036854775807 := by
    have := grownCap_le_maxLen w (56 + n) 56 5 (by unfold maxLen; omega)
    unfold maxLen at this
    omega
  rw [← hG] at hrz hGn hG63
  have Hz : Hid (∃ zs : List Value, zs.length = G - 56 ∧ cs.toArray ++ Builtin.zeroCells (Value.int .u8 0).cells n ++ Builtin.zeroCells (Value.int .u8 0).cells (G - (56 + n)) = (cs ++ zs).toArray) := by
    refine ⟨(Builtin.zeroCells (Value.int .u8 0).cells n).toList ++ (Builtin.zeroCells (Value.int .u8 0).cells (G - (56 + n))).toList, ?_, ?_⟩
    · have hz : ∀ m, (Builtin.zeroCells (Value.int .u8 0).cells m).size = m := fun m => by
        have h1 : (Value.int .u8 0).cells.size = 1 := by rfl
        first
          | (rw [Builtin.zeroCells_size, h1]; omega)
          | simp [Builtin.zeroCells, h1]
      simp [hz]
      omega
    · apply Array.toList_inj.1
      simp
  clear hold hG
  have h1 : ¬ ((n : Int) < 0) := by omega
  have h4 : (0 : Int) < (n : Int) := by omega
  have h5 : (56 : Int) ≤ ((56 + n : Nat) : Int) := by omega
  have h6 : (56 : Int) ≤ (G : Int) := by omega
  go_enter Tryd.func18, Tryd.ntmps18
  go_wp2_with (at_builtin; refine Lib.wpList_append_run _ rfl _ _ _ _ rfl _ _ rfl rfl _ _ (hrz _) ?_)
  all_goals
    go_ret
    obtain ⟨zs, hz1, hz2⟩ := Hz.out
    refine ⟨G, zs, hGn, hG63, by simp [hcl]; omega, rfl, ?_⟩
    have hz3 : cs.toArray ++ (Builtin.zeroCells #[Value.int .u8 0] n ++ Builtin.zeroCells #[Value.int .u8 0] (G - (56 + n))) = (cs ++ zs).toArray := by rw [← Array.append_assoc]; exact hz2
    rw [hz3]
    rfl

/-- bytes.NewReader -/
theorem new_any (v : Value) (a : Option Addr) (n c : Nat) (w : World) (hv : v = .slice a n c) :
    Calls Tryd.prog 8 #[v] w fun e w' => e = .returned (.pointer (some ⟨w.heap.size, 0, none⟩)) ∧ w' = w.alloc (.cells #[v, .int .i64 0, .int .i64 (-1)] 39) := by
  subst hv
  go_enter Tryd.func8, Tryd.ntmps8
  go_wp2
  go_ret
  exact ⟨rfl, rfl⟩

/-- (*bytes.Reader).Len -/
theorem len_any (D : List Int) (a : Option Addr) (g R i : Nat) (w : World) (hD : D.length ≤ 1048576) (hR : Rd D a g R i w) :
    Calls Tryd.prog 12 #[.pointer (some ⟨R, 0, none⟩)] w fun e w' => e = .returned (.int .i64 ((D.length - i : Nat) : Int)) ∧ Below w.heap.size w w' := by
  obtain ⟨q, hq⟩ := hR.rd
  have hle := hR.le
  have c0 := r0 hq
  have c1 := r1 hq
  clear hq hR
  generalize D.length = n at hD hle c0 ⊢
  by_cases hi : i < n
  · have q1 : ¬ (n : Int) ≤ (i : Int) := by omega
    go_enter Tryd.func12, Tryd.ntmps12
    go_wp2
    go_quiet (fail)
    go_wp2
    go_quiet (fail)
    go_wp2
    go_ret
    refine ⟨?_, (Below.refl _ w).trans ⟨rfl, rfl, rfl, Nat.le_refl _, fun _ _ => rfl⟩⟩
    show Ending.returned (Value.int .i64 _) = _
    congr 2
    first | go_num | omega
  · have q1 : (n : Int) ≤ (i : Int) := by omega
    go_enter Tryd.func12, Tryd.ntmps12
    go_wp2
    go_quiet (fail)
    go_wp2
    go_ret
    refine ⟨?_, (Below.refl _ w).trans ⟨rfl, rfl, rfl, Nat.le_refl _, fun _ _ => rfl⟩⟩
    show Ending.returned (Value.int .i64 _) = _
    congr 2
    omega
end Go.Proofs.Qxb6002375aDoor.rv
