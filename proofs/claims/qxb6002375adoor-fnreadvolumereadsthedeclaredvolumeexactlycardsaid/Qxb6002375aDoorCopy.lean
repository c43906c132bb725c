import Derived.Test.Qxb6002375aDoorLens
import Derived.Deep.OwnRows
import Derived.Lib.SliceRun
import Derived.Laws.OwnMore
namespace Go.Proofs.Qxb6002375aDoor.rv
open Go.ChangeShapes Go.WideShapes Go.ChangeAt Go.RowKit
set_option linter.unusedVariables false
set_option linter.unusedSimpArgs false

theorem info5' : (Tryd.prog.info? 5).map (fun i => (i.zero, i.size, i.bytes)) = some (some (.int .u8 0), 1, 1) := by kernel_rfl

theorem made_eq (n : Nat) : madeCells #[Value.int .u8 0] n = (List.replicate n (Value.int .u8 0)).toArray := Array.toList_inj.1 (by rw [toList_madeCells_one])

theorem heap_new (w : World) (o : Obj) : (w.alloc o).heap[w.heap.size]? = some o := by unfold World.alloc; simp

theorem set_step (xs : List Value) (n j : Nat) (z v : Value) (hj : j < n) (hl : xs.length = n) (hv : xs[j]? = some v) : (xs.take j ++ List.replicate (n - j) z).set j v = xs.take (j + 1) ++ List.replicate (n - (j + 1)) z := by
  obtain ⟨k, hk⟩ : ∃ k, n - j = k + 1 := ⟨n - j - 1, by omega⟩
  rw [hk, List.replicate_succ, List.set_append_right _ _ (by simp; omega)]
  have h1 : j - (xs.take j).length = 0 := by simp; omega
  rw [h1, List.set_cons_zero, List.take_add_one, hv]
  have h2 : n - (j + 1) = k := by omega
  rw [h2]
  simp

theorem copy_nil (w : World) : Calls Tryd.prog 7 #[.slice none 0 0] w fun e w' => e = .returned (.slice none 0 0) ∧ w' = w := by
  have qn : ∀ (w : World) (a : Option Addr) (n c n' c' : Nat), (binOp .eql 22 (.slice a n c) (.slice none n' c')).run Tryd.prog w = .ok (.bool a.isNone) w := fun w a n c n' c' => Lib.run_eql_slice_nil w _ _ a n c n' c' Tryd.underlying22
  go_enter Tryd.func7, Tryd.ntmps7
  go_wp2
  go_ret
  exact ⟨rfl, rfl⟩

theorem copy_empty (x : Addr) (c : Nat) (w : World) : Calls Tryd.prog 7 #[.slice (some x) 0 c] w fun e w' => e = .returned (.slice (some ⟨w.heap.size, 0, none⟩) 0 0) ∧ Below w.heap.size w w' ∧ w.heap.size < w'.heap.size := by
  have hmk : ∀ w : World, (Instr.makeSlice 22 (.int .i64 0) (.int .i64 0)).run Tryd.prog w = _ := run_make_row' 22 5 (.int .u8 0) 1 Tryd.underlying22 info5' rfl .i64 .i64 0 (by omega) (by omega)
  have qn : ∀ (w : World) (a : Option Addr) (n c n' c' : Nat), (binOp .eql 22 (.slice a n c) (.slice none n' c')).run Tryd.prog w = .ok (.bool a.isNone) w := fun w a n c n' c' => Lib.run_eql_slice_nil w _ _ a n c n' c' Tryd.underlying22
  go_enter Tryd.func7, Tryd.ntmps7
  go_wp2_with fail
  go_loopw [4] (fun i wr => i = .int .i64 0 ∧ Below w.heap.size w wr ∧ w.heap.size < wr.heap.size) (fun _ _ => 0)
  case atStart => exact ⟨rfl, (Below.refl _ w).alloc (Nat.le_refl _) _, by simp⟩
  case round =>
    obtain ⟨rfl, h1, h2⟩ := hrel
    go_wp2_with fail
    go_ret
    exact ⟨rfl, h1, h2⟩

set_option maxHeartbeats 1000000 in
theorem copy_some (D : List Int) (b off n c : Nat) (w : World) (hn : D.length = n) (hD : n ≤ 1048576) (hc : ∀ j, j < n → w.cell? ⟨b, off + j, none⟩ = some (.int .u8 (bt D j))) (hbw : b < w.heap.size) :
    Calls Tryd.prog 7 #[.slice (some ⟨b, off, none⟩) n c] w fun e w' => e = .returned (.slice (some ⟨w.heap.size, 0, none⟩) n n) ∧ w'.heap[w.heap.size]? = some (.cells (nums D).toArray 5) ∧ Below w.heap.size w w' := by
  have hmk : ∀ w : World, (Instr.makeSlice 22 (.int .i64 (n : Int)) (.int .i64 (n : Int))).run Tryd.prog w = _ := run_make_row' 22 5 (.int .u8 0) 1 Tryd.underlying22 info5' rfl .i64 .i64 n (by omega) (by omega)
  have hln : (nums D).length = n := by rw [nums_length, hn]
  have Hln : Hid ((nums D).length = n) := hln
  have Hc : Hid (∀ j, j < n → w.cell? ⟨b, off + j, none⟩ = some (.int .u8 (bt D j))) := hc
  have Hn : Hid (D.length = n) := hn
  clear hc hn hln
  have qn : ∀ (w : World) (a : Option Addr) (n c n' c' : Nat), (binOp .eql 22 (.slice a n c) (.slice none n' c')).run Tryd.prog w = .ok (.bool a.isNone) w := fun w a n c n' c' => Lib.run_eql_slice_nil w _ _ a n c n' c' Tryd.underlying22
  go_enter Tryd.func7, Tryd.ntmps7
  go_wp2_with fail
  go_loopw [4] (fun i wr => ∃ j : Nat, j ≤ n ∧ i = .int .i64 j ∧ wr.heap[w.heap.size]? = some (.cells ((nums D).take j ++ List.replicate (n - j) (Value.int .u8 0)).toArray 5) ∧ Below w.heap.size w wr) (fun i _ => n - (intOf i).toNat)
  case atStart =>
    refine ⟨0, Nat.zero_le _, rfl, ?_, (Below.refl _ w).alloc (Nat.le_refl _) _⟩
    rw [List.take_zero, Nat.sub_zero, List.nil_append, ← made_eq]
    exact heap_new w _
  case round =>
    obtain ⟨j, hj, rfl, hB, hbel⟩ := hrel
    clear hmk
    by_cases hjn : j < n
    · have hjn' : (j : Int) < (n : Int) := by omega
      have hj0 : (0 : Int) ≤ (j : Int) := by omega
      have d : wr.cell? ⟨b, off + j, none⟩ = some (.int .u8 (bt D j)) := by rw [← Hc.out j hjn]; unfold World.cell?; rw [hbel.block b hbw]
      have e : ∃ v, wr.cell? ⟨w.heap.size, j, none⟩ = some v := by
        have hsz : j < ((nums D).take j ++ List.replicate (n - j) (Value.int .u8 0)).length := by have := Hln.out; simp; omega
        refine ⟨((nums D).take j ++ List.replicate (n - j) (Value.int .u8 0))[j], ?_⟩
        simp only [World.cell?, hB]
        simp [List.getElem?_eq_getElem hsz]
      obtain ⟨v, e⟩ := e
      have f : wr.frozen? ⟨w.heap.size, j, none⟩ = false := by simp [World.frozen?, hB]
      have Hst : Hid ((wr.setCell ⟨w.heap.size, j, none⟩ (.int .u8 (bt D j))).heap[w.heap.size]? = some (.cells ((nums D).take (j + 1) ++ List.replicate (n - (j + 1)) (Value.int .u8 0)).toArray 5)) := by
        have h := Lib.heap_setCell_same (i := j) hB (.int .u8 (bt D j))
        show (wr.setCell ⟨w.heap.size, j, none⟩ (.int .u8 (bt D j))).heap[w.heap.size]? = _
        rw [h, ← set_step (nums D) n j (.int .u8 0) (.int .u8 (bt D j)) hjn Hln.out (by
          have := Hn.out
          simp only [nums, List.getElem?_map, bt]
          rw [List.getElem?_eq_getElem (by omega)]
          simp [List.getD, List.getElem?_eq_getElem (show j < D.length by omega)])]
        simp
      clear hB
      go_wp2_with fail
      go_roundw
      case rel => exact ⟨j + 1, by omega, by go_num, Hst.out, hbel.setCell (Nat.le_refl _) _⟩
      case measure => simp [intOf]; omega
    · have q1 : decide ((j : Int) < (n : Int)) = false := by simp; omega
      have q2 : decide (j < n) = false := by simp; omega
      have Hjn : Hid (j = n) := by show j = n; omega
      go_wp2_with fail
      go_ret
      refine ⟨rfl, ?_, hbel⟩
      have h1 := Hjn.out
      have h2 := Hln.out
      rw [h1, Nat.sub_self, List.take_of_length_le (by omega)] at hB
      simpa using hB

theorem bytes_any (a : Option Addr) (n c : Nat) (w : World) (hn : n ≤ 1048576) :
    Calls Tryd.prog 6 #[.slice a n c] w fun e w' => e = .returned (.bool true) ∧ w' = w := by
  have q1 : ¬ (1048576 : Int) < (n : Int) := by omega
  go_enter Tryd.func6, Tryd.ntmps6
  go_wp2
  go_ret
  exact ⟨rfl, rfl⟩
theorem bytes_big (a : Option Addr) (n c : Nat) (w : World) (hn : ¬ n ≤ 1048576) :
    Calls Tryd.prog 6 #[.slice a n c] w fun e w' => e = .returned (.bool false) ∧ w' = w := by
  have q1 : (1048576 : Int) < (n : Int) := by omega
  go_enter Tryd.func6, Tryd.ntmps6
  go_wp2
  go_ret
  exact ⟨rfl, rfl⟩

theorem pre_zero (p a : Option Addr) (c n c2 : Nat) (w : World) : Calls Tryd.prog 10 #[.slice p 0 c, .slice a n c2] w fun e w' => e = .returned (.bool true) ∧ w' = w := by
  have q : ¬ (n : Int) < 0 := by omega
  go_enter Tryd.func10, Tryd.ntmps10
  go_wp2_with fail
  go_loop [5] (fun i => i = .int .i64 0) (fun _ => 0)
  case atStart => rfl
  case round =>
    subst hrel
    go_wp2_with fail
    go_ret
    exact ⟨rfl, rfl⟩

set_option maxHeartbeats 1000000 in
theorem pre_any (D : List Int) (h g k c n c2 : Nat) (w : World) (hk : k ≤ n) (hp : Byt D w h k) (hs : Byt D w g n) (hh : h < w.heap.size) (hg : g < w.heap.size) (hb : n ≤ 1048576) :
    Calls Tryd.prog 10 #[.slice (some ⟨h, 0, none⟩) k c, .slice (some ⟨g, 0, none⟩) n c2] w fun e w' => e = .returned (.bool true) ∧ Below w.heap.size w w' := by
  have q : ¬ (n : Int) < (k : Int) := by omega
  have q' : ¬ n < k := by omega
  have Hp : Hid (Byt D w h k) := hp
  have Hs : Hid (Byt D w g n) := hs
  clear hp hs
  go_enter Tryd.func10, Tryd.ntmps10
  go_wp2_with fail
  go_loopw [5] (fun i wr => ∃ j : Nat, j ≤ k ∧ i = .int .i64 j ∧ Below w.heap.size w wr) (fun i _ => k - (intOf i).toNat)
  case atStart => exact ⟨0, Nat.zero_le _, rfl, Below.refl _ w⟩
  case round =>
    obtain ⟨j, hj, rfl, hbel⟩ := hrel
    by_cases hjk : j < k
    · have q1 : (j : Int) < (k : Int) := by omega
      have q2 : (j : Int) < (n : Int) := by omega
      have q3 : (0 : Int) ≤ (j : Int) := by omega
      have q4 : j < n := by omega
      have d1 := byt_below Hp.out hbel hh j hjk
      have d2 := byt_below Hs.out hbel hg j q4
      go_wp2_with fail
      go_quiet (fail)
      go_wp2_with fail
      go_roundw
      case rel => exact ⟨j + 1, by omega, by go_num, hbel.trans ⟨rfl, rfl, rfl, Nat.le_refl _, fun _ _ => rfl⟩⟩
      case measure => simp [intOf]; omega
    · have q1 : decide ((j : Int) < (k : Int)) = false := by simp; omega
      have q2 : decide (j < k) = false := by simp; omega
      go_wp2_with fail
      go_ret
      exact ⟨rfl, hbel⟩
end Go.Proofs.Qxb6002375aDoor.rv
