import Derived.Test.Qxb6602169aTake
import Derived.Lib.BufferMore
namespace Go.Proofs.Qxb6602169a.take
open Go.ChangeShapes Go.WideShapes Go.ChangeAt Go.RowKit
set_option linter.unusedVariables false

theorem cell0 {w : World} {B : Nat} {x y : Value} {t : TypeId} (h : w.heap[B]? = some (.cells #[x, y] t)) : w.cell? ⟨B, 0, none⟩ = some x := by simp [World.cell?, h]
theorem cell1 {w : World} {B : Nat} {x y : Value} {t : TypeId} (h : w.heap[B]? = some (.cells #[x, y] t)) : w.cell? ⟨B, 1, none⟩ = some y := by simp [World.cell?, h]
theorem frozen1 {w : World} {B : Nat} {x y : Value} {t : TypeId} (h : w.heap[B]? = some (.cells #[x, y] t)) (o : Nat) : w.frozen? ⟨B, o, none⟩ = false := by simp [World.frozen?, h]
theorem heap_set1 {w : World} {B : Nat} {x y : Value} {t : TypeId} (h : w.heap[B]? = some (.cells #[x, y] t)) (u : Value) : (w.setCell ⟨B, 1, none⟩ u).heap[B]? = some (.cells #[x, u] t) := by
  have := Lib.heap_setCell_same (i := 1) h u
  simpa using this
theorem grown_setCell (w : World) (a : Addr) (u : Value) : w.grownBy (w.setCell a u) (some a.block) :=
  ⟨rfl, rfl, rfl, by simp [World.setCell], fun k _ hk => Below.heap_setCell _ _ _ _ (fun e => hk (by rw [e]))⟩
theorem grown_drewN {w w' : World} {row : Option Nat} (h : w.grownBy w' row) (n : Nat) : w.grownBy (w'.drewN n) row := ⟨h.os, h.tape, h.output, h.size, h.block⟩
theorem grown_refl (w : World) (row : Option Nat) : w.grownBy w row := ⟨rfl, rfl, rfl, Nat.le_refl _, fun _ _ _ => rfl⟩
theorem grown_trans {a b c : World} {row : Option Nat} (h : a.grownBy b row) (k : b.grownBy c row) : a.grownBy c row :=
  ⟨k.os.trans h.os, k.tape.trans h.tape, k.output.trans h.output, Nat.le_trans h.size k.size, fun i hi hr => (k.block i (Nat.lt_of_lt_of_le hi h.size) hr).trans (h.block i hi hr)⟩

def SomeBool (e : Ending) : Prop := ∃ r, e = .returned (.bool r)

/-- 'r.take' at an offset inside the text: the offset moves to d -/
theorem take_to (t : ByteArray) (k d : Nat) (c : Int) (B : Nat) (w : World) (hs : t.size ≤ maxLen) (hB : w.heap[B]? = some (.cells #[.string t, .int .i64 k] 35)) (hk : k < t.size)
    (hd : (((t[k].toNat : Int) == c) = true ∧ d = k + 1) ∨ (((t[k].toNat : Int) == c) = false ∧ d = k)) :
    Calls Try.prog 21 #[.pointer (some ⟨B, 0, none⟩), .int .u8 c] w fun e w' => SomeBool e ∧ w'.heap[B]? = some (.cells #[.string t, .int .i64 d] 35) ∧ w.grownBy w' (some B) := by
  rcases hd with ⟨hc, rfl⟩ | ⟨hc, rfl⟩
  · refine (take_hit t k c B w hs (cell0 hB) (cell1 hB) (frozen1 hB 1) hk hc).mono ?_
    rintro e w' ⟨rfl, n, rfl⟩
    refine ⟨⟨_, rfl⟩, ?_, grown_drewN (grown_setCell w ⟨B, 1, none⟩ _) n⟩
    have := heap_set1 hB (.int .i64 ((k : Int) + 1))
    show (w.setCell ⟨B, 1, none⟩ (.int .i64 ((k : Int) + 1))).heap[B]? = _
    rw [this]
    rfl
  · refine (take_miss t _ c B w hs (cell0 hB) (cell1 hB) hk hc).mono ?_
    rintro e w' ⟨rfl, n, rfl⟩
    exact ⟨⟨_, rfl⟩, hB, grown_drewN (grown_refl _ _) n⟩

def offOf (w : World) (B : Nat) : Nat := match w.cell? ⟨B, 1, none⟩ with | some (.int _ q) => q.toNat | _ => 0

/-- the run of digits from d on ends at e -/
structure Run (t : ByteArray) (d e : Nat) : Prop where
  le : d ≤ e
  le' : e ≤ t.size
  dig : ∀ j, d ≤ j → j < e → ∃ h : j < t.size, 48 ≤ (t[j].toNat : Int) ∧ (t[j].toNat : Int) ≤ 57
  stop : e = t.size ∨ ∃ h : e < t.size, (t[e].toNat : Int) < 48 ∨ 57 < (t[e].toNat : Int)

set_option maxHeartbeats 2000000 in
theorem integer_in (t : ByteArray) (o d e : Nat) (B : Nat) (w : World) (hs : t.size ≤ maxLen) (hB : w.heap[B]? = some (.cells #[.string t, .int .i64 o] 35)) (ho : o < t.size)
    (hd : (((t[o].toNat : Int) == 45) = true ∧ d = o + 1) ∨ (((t[o].toNat : Int) == 45) = false ∧ d = o)) (hr : Run t d e) (r : ByteArray × Bool)
    (hres : (d = e ∧ r = (⟨#[]⟩, false)) ∨ (∃ h : d < t.size, d < e ∧ (((t[d].toNat : Int) == 48) = true ∧ d + 1 < e ∧ r = (⟨#[]⟩, false) ∨ ((t[d].toNat : Int) == 48) = true ∧ d + 1 = e ∧ r = (t.extract o e, true) ∨ ((t[d].toNat : Int) == 48) = false ∧ r = (t.extract o e, true)))) :
    Calls Try.prog 20 #[.pointer (some ⟨B, 0, none⟩)] w fun e' w' => e' = .returned (.tuple #[.string r.1, .bool r.2]) ∧ w'.heap[B]? = some (.cells #[.string t, .int .i64 e] 35) ∧ w.grownBy w' (some B) := by
  have hs' := hs
  unfold maxLen at hs'
  have c0 := cell0 hB
  have c1 := cell1 hB
  go_enter Try.func20, Try.ntmps20
  go_wp2_with fail
  refine (take_to t o d 45 B w hs hB ho hd).mono ?_
  rintro e' w1 ⟨⟨rb, rfl⟩, hB1, hg1⟩
  have k0 := cell0 hB1
  have k1 := cell1 hB1
  clear c0 c1
  go_wp2_with fail
  go_loopw [16] (fun _ wr => ∃ j : Nat, d ≤ j ∧ j ≤ e ∧ wr.heap[B]? = some (.cells #[.string t, .int .i64 j] 35) ∧ w.grownBy wr (some B)) (fun _ wr => t.size - offOf wr B)
  case atStart => exact ⟨d, Nat.le_refl _, hr.le, hB1, hg1⟩
  case round =>
    obtain ⟨j, hj1, hj2, hBj, hgj⟩ := hrel
    have m0 := cell0 hBj
    have m1 := cell1 hBj
    have mf := frozen1 hBj 1
    clear k0 k1 hB1 hg1
    by_cases hje : j < e
    · obtain ⟨hjt, g1, g2⟩ := hr.dig j hj1 hje
      have hji : (j : Int) < (t.size : Int) := by omega
      have hj0 : (0 : Int) ≤ (j : Int) := by omega
      go_wp2_with fail
      go_quiet (fail)
      go_wp2_with fail
      go_roundw
      case rel => exact ⟨j + 1, by omega, by omega, heap_set1 hBj _, grown_trans hgj (grown_drewN (grown_setCell wr ⟨B, 1, none⟩ _) _)⟩
      case measure =>
        have q1 : offOf ((wr.drewN nq).setCell ⟨B, 1, none⟩ (.int .i64 ((j : Int) + 1))) B = j + 1 := by
          have := cell1 (heap_set1 (w := wr.drewN nq) hBj (.int .i64 ((j : Int) + 1)))
          unfold offOf
          rw [this]
          show ((j : Int) + 1).toNat = j + 1
          omega
        have q2 : offOf wr B = j := by unfold offOf; rw [m1]; rfl
        rw [q1, q2]
        omega
    · have hje' : j = e := by omega
      subst hje'
      have hde := hr.le
      have hle := hr.le'
      have hoj : o ≤ j := by rcases hd with ⟨_, h⟩ | ⟨_, h⟩ <;> omega
      have ho0 : (0 : Int) ≤ (o : Int) := by omega
      have hoji : (o : Int) ≤ (j : Int) := by omega
      have hlei : (j : Int) ≤ (t.size : Int) := by omega
      have hcase : (decide ((j : Int) < (t.size : Int)) = false) ∨ (∃ h : j < t.size, decide ((48 : Int) ≤ (t[j].toNat : Int)) = false) ∨ (∃ h : j < t.size, (48 : Int) ≤ (t[j].toNat : Int) ∧ decide ((t[j].toNat : Int) ≤ 57) = false) := by
        rcases hr.stop with h | ⟨h, h1⟩
        · left; simp; omega
        · by_cases h2 : (48 : Int) ≤ (t[j].toNat : Int)
          · right; right; exact ⟨h, h2, by simp; omega⟩
          · right; left; exact ⟨h, by simp; omega⟩
      rcases hcase with hx | ⟨hjt, hx⟩ | ⟨hjt, hx, hy⟩
      · have hxn : decide (j < t.size) = false := by simp at hx ⊢; omega
        go_wp2_with fail
        go_quiet (fail)
        rcases hres with ⟨h1, rfl⟩ | ⟨hdt, hlt, ⟨g1, g2, rfl⟩ | ⟨g1, g2, rfl⟩ | ⟨g1, rfl⟩⟩
        · have q1 : ((j : Int) == (d : Int)) = true := beq_iff_eq.2 (by omega)
          clear h1
          go_wp2_with fail
          go_ret2
          exact ⟨rfl, hBj, grown_drewN hgj _⟩
        · have q1 : ((j : Int) == (d : Int)) = false := beq_eq_false_iff_ne.2 (by omega)
          have q2 : (d : Int) + 1 < (j : Int) := by omega
          have q3 : (d : Int) < (t.size : Int) := by omega
          go_wp2_with fail
          go_ret2
          exact ⟨rfl, hBj, grown_drewN hgj _⟩
        · have q1 : ((j : Int) == (d : Int)) = false := beq_eq_false_iff_ne.2 (by omega)
          have q2 : ¬ (d : Int) + 1 < (j : Int) := by omega
          have q3 : (d : Int) < (t.size : Int) := by omega
          clear g2
          go_wp2_with fail
          go_quiet (fail)
          go_wp2_with fail
          go_ret2
          exact ⟨rfl, hBj, grown_drewN hgj _⟩
        · have q1 : ((j : Int) == (d : Int)) = false := beq_eq_false_iff_ne.2 (by omega)
          have q3 : (d : Int) < (t.size : Int) := by omega
          go_wp2_with fail
          go_quiet (fail)
          go_wp2_with fail
          go_ret2
          exact ⟨rfl, hBj, grown_drewN hgj _⟩
      · have hji : (j : Int) < (t.size : Int) := by omega
        go_wp2_with fail
        go_quiet (fail)
        rcases hres with ⟨h1, rfl⟩ | ⟨hdt, hlt, ⟨g1, g2, rfl⟩ | ⟨g1, g2, rfl⟩ | ⟨g1, rfl⟩⟩
        · have q1 : ((j : Int) == (d : Int)) = true := beq_iff_eq.2 (by omega)
          clear h1
          go_wp2_with fail
          go_ret2
          exact ⟨rfl, hBj, grown_drewN hgj _⟩
        · have q1 : ((j : Int) == (d : Int)) = false := beq_eq_false_iff_ne.2 (by omega)
          have q2 : (d : Int) + 1 < (j : Int) := by omega
          have q3 : (d : Int) < (t.size : Int) := by omega
          go_wp2_with fail
          go_ret2
          exact ⟨rfl, hBj, grown_drewN hgj _⟩
        · have q1 : ((j : Int) == (d : Int)) = false := beq_eq_false_iff_ne.2 (by omega)
          have q2 : ¬ (d : Int) + 1 < (j : Int) := by omega
          have q3 : (d : Int) < (t.size : Int) := by omega
          clear g2
          go_wp2_with fail
          go_quiet (fail)
          go_wp2_with fail
          go_ret2
          exact ⟨rfl, hBj, grown_drewN hgj _⟩
        · have q1 : ((j : Int) == (d : Int)) = false := beq_eq_false_iff_ne.2 (by omega)
          have q3 : (d : Int) < (t.size : Int) := by omega
          go_wp2_with fail
          go_quiet (fail)
          go_wp2_with fail
          go_ret2
          exact ⟨rfl, hBj, grown_drewN hgj _⟩
      · have hji : (j : Int) < (t.size : Int) := by omega
        go_wp2_with fail
        go_quiet (fail)
        rcases hres with ⟨h1, rfl⟩ | ⟨hdt, hlt, ⟨g1, g2, rfl⟩ | ⟨g1, g2, rfl⟩ | ⟨g1, rfl⟩⟩
        · have q1 : ((j : Int) == (d : Int)) = true := beq_iff_eq.2 (by omega)
          clear h1
          go_wp2_with fail
          go_ret2
          exact ⟨rfl, hBj, grown_drewN hgj _⟩
        · have q1 : ((j : Int) == (d : Int)) = false := beq_eq_false_iff_ne.2 (by omega)
          have q2 : (d : Int) + 1 < (j : Int) := by omega
          have q3 : (d : Int) < (t.size : Int) := by omega
          go_wp2_with fail
          go_ret2
          exact ⟨rfl, hBj, grown_drewN hgj _⟩
        · have q1 : ((j : Int) == (d : Int)) = false := beq_eq_false_iff_ne.2 (by omega)
          have q2 : ¬ (d : Int) + 1 < (j : Int) := by omega
          have q3 : (d : Int) < (t.size : Int) := by omega
          clear g2
          go_wp2_with fail
          go_quiet (fail)
          go_wp2_with fail
          go_ret2
          exact ⟨rfl, hBj, grown_drewN hgj _⟩
        · have q1 : ((j : Int) == (d : Int)) = false := beq_eq_false_iff_ne.2 (by omega)
          have q3 : (d : Int) < (t.size : Int) := by omega
          go_wp2_with fail
          go_quiet (fail)
          go_wp2_with fail
          go_ret2
          exact ⟨rfl, hBj, grown_drewN hgj _⟩

theorem take_to_end (t : ByteArray) (k c : Int) (B : Nat) (w : World) (hs : t.size ≤ maxLen) (hB : w.heap[B]? = some (.cells #[.string t, .int .i64 k] 35)) (hk : (t.size : Int) ≤ k) :
    Calls Try.prog 21 #[.pointer (some ⟨B, 0, none⟩), .int .u8 c] w fun e w' => SomeBool e ∧ w'.heap[B]? = some (.cells #[.string t, .int .i64 k] 35) ∧ w.grownBy w' (some B) := by
  refine (take_end t k c B w hs (cell0 hB) (cell1 hB) hk).mono ?_
  rintro e w' ⟨rfl, n, rfl⟩
  exact ⟨⟨_, rfl⟩, hB, grown_drewN (grown_refl _ _) n⟩

set_option maxHeartbeats 1000000 in
theorem integer_end (t : ByteArray) (o : Int) (B : Nat) (w : World) (hs : t.size ≤ maxLen) (hB : w.heap[B]? = some (.cells #[.string t, .int .i64 o] 35)) (ho : (t.size : Int) ≤ o) :
    Calls Try.prog 20 #[.pointer (some ⟨B, 0, none⟩)] w fun e' w' => e' = .returned (.tuple #[.string ⟨#[]⟩, .bool false]) ∧ w'.heap[B]? = some (.cells #[.string t, .int .i64 o] 35) ∧ w.grownBy w' (some B) := by
  have c0 := cell0 hB
  have c1 := cell1 hB
  go_enter Try.func20, Try.ntmps20
  go_wp2_with fail
  refine (take_to_end t o 45 B w hs hB ho).mono ?_
  rintro e' w1 ⟨⟨rb, rfl⟩, hB1, hg1⟩
  have k0 := cell0 hB1
  have k1 := cell1 hB1
  clear c0 c1
  go_wp2_with fail
  go_loopw [16] (fun _ wr => wr.heap[B]? = some (.cells #[.string t, .int .i64 o] 35) ∧ w.grownBy wr (some B)) (fun _ wr => 0)
  case atStart => exact ⟨hB1, hg1⟩
  case round =>
    obtain ⟨hBj, hgj⟩ := hrel
    have m0 := cell0 hBj
    have m1 := cell1 hBj
    have hx : decide (o < (t.size : Int)) = false := by simp; omega
    clear k0 k1 hB1 hg1
    go_wp2_with fail
    go_quiet (fail)
    go_wp2_with fail
    go_ret2
    exact ⟨rfl, hBj, grown_drewN hgj _⟩

/-- what ZZInteger answers -/
theorem zzInt_in (t : ByteArray) (o d e : Nat) (w : World) (hs : t.size ≤ maxLen) (ho : o < t.size)
    (hd : (((t[o].toNat : Int) == 45) = true ∧ d = o + 1) ∨ (((t[o].toNat : Int) == 45) = false ∧ d = o)) (hr : Run t d e) (r : ByteArray × Bool)
    (hres : (d = e ∧ r = (⟨#[]⟩, false)) ∨ (∃ h : d < t.size, d < e ∧ (((t[d].toNat : Int) == 48) = true ∧ d + 1 < e ∧ r = (⟨#[]⟩, false) ∨ ((t[d].toNat : Int) == 48) = true ∧ d + 1 = e ∧ r = (t.extract o e, true) ∨ ((t[d].toNat : Int) == 48) = false ∧ r = (t.extract o e, true)))) :
    Calls Try.prog 9 #[.string t, .int .i64 o] w fun e' w' => e' = .returned (.tuple #[.string r.1, .bool r.2, .int .i64 e]) ∧ Below w.heap.size w w' := by
  have H := integer_in t o d e w.heap.size (w.alloc (.cells #[.string t, .int .i64 o] 35)) hs (heap_alloc_new _ _) ho hd hr r hres
  clear hres hr hd
  go_enter Try.func9, Try.ntmps9
  go_wp2_with fail
  refine H.mono ?_
  rintro e' w1 ⟨rfl, hB1, hg1⟩
  have k1 := cell1 hB1
  clear H
  go_wp2_with fail
  go_quiet (fail)
  go_wp2_with fail
  go_ret3
  exact ⟨rfl, below_drewN (((Below.refl _ _).alloc (Nat.le_refl _) _).grown hg1 (by simp) (fun k hk => by simp at hk; omega)) _⟩

theorem zzInt_end (t : ByteArray) (o : Int) (w : World) (hs : t.size ≤ maxLen) (ho : (t.size : Int) ≤ o) :
    Calls Try.prog 9 #[.string t, .int .i64 o] w fun e' w' => e' = .returned (.tuple #[.string ⟨#[]⟩, .bool false, .int .i64 o]) ∧ Below w.heap.size w w' := by
  have H := integer_end t o w.heap.size (w.alloc (.cells #[.string t, .int .i64 o] 35)) hs (heap_alloc_new _ _) ho
  go_enter Try.func9, Try.ntmps9
  go_wp2_with fail
  refine H.mono ?_
  rintro e' w1 ⟨rfl, hB1, hg1⟩
  have k1 := cell1 hB1
  clear H
  go_wp2_with fail
  go_quiet (fail)
  go_wp2_with fail
  go_ret3
  exact ⟨rfl, below_drewN (((Below.refl _ _).alloc (Nat.le_refl _) _).grown hg1 (by simp) (fun k hk => by simp at hk; omega)) _⟩
end Go.Proofs.Qxb6602169a.take
