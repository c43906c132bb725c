import Derived.Test.Qxb6601864aMark
import Derived.ChangeOld
import Derived.Deep.SlicePairs
import Derived.Deep.Strs
namespace Go.Proofs.Qxb6601864a.bd
open Go.ChangeShapes Go.WideShapes Go.ChangeAt Go.RowKit Go.Maps Go.Deep
set_option linter.unusedVariables false

theorem cells46 : Try.prog.cellsOf 46 = 2 := by kernel_rfl
theorem cells36 : Try.prog.cellsOf 36 = 3 := by kernel_rfl
theorem cells9 : Try.prog.cellsOf 9 = 1 := by kernel_rfl
theorem cells4 : Try.prog.cellsOf 4 = 1 := by kernel_rfl

theorem cell_lt {w : World} {b o : Nat} {v : Value} (h : w.cell? ⟨b, o, none⟩ = some v) : b < w.heap.size := by
  rcases Nat.lt_or_ge b w.heap.size with h1 | h1
  · exact h1
  · have : w.heap[b]? = none := Array.getElem?_eq_none h1
    simp [World.cell?, this] at h

theorem add_none (b off i : Nat) : (⟨b, off, none⟩ : Addr).add i = ⟨b, off + i, none⟩ := by
  unfold Addr.add
  split
  · simp_all
  · rfl

theorem isP_of {H : Type} {enc : TypeId × Value → H} {W : World} {sp : Nat → Bool} {held : Bool} {fuel : Nat} {a : Option Addr} {len cap : Nat} {x : DataW H × List MemPlace} (h : DataW.trod enc Try.prog W 0 sp held fuel 24 [.slice a len cap] = some x) :
    ∃ ps, IsP W a len ps ∧ len ≤ maxLen := by
  rcases open_slice_pairs Try.underlying24 Try.underlying46 cells46 rfl rfl cells9 cells9 h with ⟨hcs, _⟩ | ⟨a', len', cap', m, n, V0, V1, D0, D1, P0, P1, hcs, _, hl, hm, hmm, _, hc⟩
  · cases hcs
    exact ⟨[], ⟨rfl, by simp, by simp⟩, Nat.zero_le _⟩
  · cases hcs
    have hlm : len ≤ m := by rw [hmm]; split <;> omega
    have each : ∀ i, i < len → ∃ q : ByteArray × ByteArray, W.cell? (a'.add (i * 2)) = some (.string q.1) ∧ W.cell? (a'.add (i * 2 + 1)) = some (.string q.2) ∧ q.1.size ≤ maxLen ∧ q.2.size ≤ maxLen := by
      intro i hi
      obtain ⟨c0, c1, t0, t1⟩ := hc i (by omega)
      obtain ⟨s0, e0, _, z0⟩ := DataW.trod_string Try.underlying9 t0
      obtain ⟨s1, e1, _, z1⟩ := DataW.trod_string Try.underlying9 t1
      simp at e0 e1
      rw [e0] at c0
      rw [e1] at c1
      exact ⟨(s0, s1), c0, c1, z0, z1⟩
    obtain ⟨f, hf⟩ := choose_lt each
    refine ⟨(List.range len).map f, ⟨by simp, ?_, ?_⟩, by omega⟩
    · intro q hq
      obtain ⟨i, hi, rfl⟩ := List.mem_map.1 hq
      exact (hf i (List.mem_range.1 hi)).2.2
    · intro hpos
      obtain ⟨b, off, spot⟩ := a'
      have hspot : spot = none := by
        have := World.cell?_spot (hf 0 hpos).1
        simpa [Addr.add] using this
      subst hspot
      have h0 := (hf 0 hpos).1
      rw [add_none] at h0
      refine ⟨b, off, rfl, cell_lt h0, fun k hk => ?_⟩
      have hk' : k < len := by simpa using hk
      obtain ⟨g0, g1, _⟩ := hf k hk'
      rw [add_none] at g0 g1
      simp only [List.getElem_map, List.getElem_range]
      exact ⟨g0, g1⟩


theorem isH_of {H : Type} {enc : TypeId × Value → H} {W : World} {sp : Nat → Bool} {held : Bool} {fuel : Nat} {a : Option Addr} {len cap : Nat} {x : DataW H × List MemPlace} (h : DataW.trod enc Try.prog W 0 sp held fuel 25 [.slice a len cap] = some x) :
    ∃ hs, IsH W a len hs ∧ len ≤ maxLen := by
  rcases open_slice Try.underlying25 h with ⟨hcs, _⟩ | ⟨a', len', cap', m, n, D, Pl, hcs, _, hl, hm, hmm, _, hc⟩
  · cases hcs
    exact ⟨[], ⟨rfl, fine_nil, by simp⟩, Nat.zero_le _⟩
  · cases hcs
    rw [cells36] at hc
    have hlm : len ≤ m := by rw [hmm]; split <;> omega
    have each : ∀ i, i < len → ∃ q : ByteArray × ByteArray × Bool, W.cell? (a'.add (i * 3)) = some (.string q.1) ∧ W.cell? (a'.add (i * 3 + 1)) = some (.string q.2.1) ∧ W.cell? (a'.add (i * 3 + 2)) = some (.bool q.2.2) ∧ q.1.size ≤ maxLen ∧ q.2.1.size ≤ maxLen := by
      intro i hi
      obtain ⟨cs, hcells, ht⟩ := hc i (by omega)
      obtain ⟨_, hlen, hcell⟩ := World.cells?_some hcells
      obtain ⟨y0, y1, y2, n', _, _, t0, t1, t2⟩ := trod_struct3 Try.underlying36 ht
      match cs, hlen with
      | [v0, v1, v2], _ =>
        simp only [cells9, cells4, List.drop_zero, List.drop_succ_cons, List.take_succ_cons, List.take_zero] at t0 t1 t2
        obtain ⟨s0, e0, _, z0⟩ := DataW.trod_string Try.underlying9 t0
        obtain ⟨s1, e1, _, z1⟩ := DataW.trod_string Try.underlying9 t1
        obtain ⟨b2, e2, _⟩ := DataW.trod_bool Try.underlying4 t2
        simp at e0 e1 e2
        have c0 := hcell 0 (by omega)
        have c1 := hcell 1 (by omega)
        have c2 := hcell 2 (by omega)
        rw [add_add] at c0 c1 c2
        simp [e0] at c0
        simp [e1] at c1
        simp [e2] at c2
        exact ⟨(s0, s1, b2), c0, c1, c2, z0, z1⟩
    obtain ⟨f, hf⟩ := choose_lt each
    refine ⟨(List.range len).map (fun i => ⟨(f i).1, (f i).2.1, (f i).2.2⟩), ⟨by simp, ?_, ?_⟩, by omega⟩
    · intro q hq
      obtain ⟨i, hi, rfl⟩ := List.mem_map.1 hq
      exact ⟨(hf i (List.mem_range.1 hi)).2.2.2.1, (hf i (List.mem_range.1 hi)).2.2.2.2⟩
    · intro hpos
      obtain ⟨b, off, spot⟩ := a'
      have hspot : spot = none := by
        have := World.cell?_spot (hf 0 hpos).1
        simpa [Addr.add] using this
      subst hspot
      have h0 := (hf 0 hpos).1
      rw [add_none] at h0
      refine ⟨b, off, rfl, cell_lt h0, fun k hk => ?_⟩
      have hk' : k < len := by simpa using hk
      obtain ⟨g0, g1, g2, _⟩ := hf k hk'
      rw [add_none] at g0 g1 g2
      simp only [List.getElem_map, List.getElem_range]
      exact ⟨g0, g1, g2⟩
end Go.Proofs.Qxb6601864a.bd
