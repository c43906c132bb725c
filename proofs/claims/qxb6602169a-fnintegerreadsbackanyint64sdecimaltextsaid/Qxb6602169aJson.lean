import Derived.Test.Qxb6602169aInt
namespace Go.Proofs.Qxb6602169a.take
open Go.ChangeShapes Go.WideShapes Go.ChangeAt Go.RowKit
set_option linter.unusedVariables false

theorem dig_yes (c : Int) (w : World) (h1 : 48 ≤ c) (h2 : c ≤ 57) : Calls Try.prog 10 #[.int .u8 c] w fun e w' => e = .returned (.bool true) ∧ w' = w := by
  go_enter Try.func10, Try.ntmps10
  go_wp2
  go_ret
  exact ⟨rfl, rfl⟩
theorem dig_no (c : Int) (w : World) (h : c < 48 ∨ 57 < c) : Calls Try.prog 10 #[.int .u8 c] w fun e w' => e = .returned (.bool false) ∧ w' = w := by
  by_cases h1 : 48 ≤ c
  · have h2 : ¬ c ≤ 57 := by omega
    clear h
    go_enter Try.func10, Try.ntmps10
    go_wp2
    go_ret
    exact ⟨rfl, rfl⟩
  · clear h
    go_enter Try.func10, Try.ntmps10
    go_wp2
    go_ret
    exact ⟨rfl, rfl⟩

/-- where the digits of s begin -/
def Sign (s : ByteArray) (i : Nat) : Prop := (∃ h : 0 < s.size, ((s[0].toNat : Int) == 45) = true ∧ i = 1) ∨ (s.size = 0 ∧ i = 0) ∨ (∃ h : 0 < s.size, ((s[0].toNat : Int) == 45) = false ∧ i = 0)

set_option maxHeartbeats 2000000 in
theorem json_any (s : ByteArray) (i : Nat) (b : Bool) (w : World) (hs : s.size ≤ 1000000) (hi : Sign s i)
    (hb : (i = s.size ∧ b = false) ∨ (∃ h : i < s.size, ((s[i].toNat : Int) == 48) = true ∧ i + 1 = s.size ∧ b = true) ∨ (∃ h : i < s.size, ((s[i].toNat : Int) == 48) = true ∧ ¬ i + 1 = s.size ∧ b = false) ∨ (∃ h : i < s.size, ((s[i].toNat : Int) == 48) = false ∧ b = true ∧ ∀ j, i ≤ j → (h : j < s.size) → 48 ≤ (s[j].toNat : Int) ∧ (s[j].toNat : Int) ≤ 57)) :
    Calls Try.prog 11 #[.string s] w fun e w' => e = .returned (.bool b) ∧ w' = w := by
  rcases hi with ⟨h0, h1, rfl⟩ | ⟨h0, rfl⟩ | ⟨h0, h1, rfl⟩
  · have h0i : (0 : Int) < (s.size : Int) := by omega
    rcases hb with ⟨g, rfl⟩ | ⟨g, g1, g3, rfl⟩ | ⟨g, g1, g3, rfl⟩ | ⟨g, g1, rfl, g2⟩
    · have q1 : ((1 : Int) == (s.size : Int)) = true := beq_iff_eq.2 (by omega)
      clear g
      go_enter Try.func11, Try.ntmps11
      go_wp2
      go_ret
      exact ⟨rfl, rfl⟩
    · have q1 : ((1 : Int) == (s.size : Int)) = false := beq_eq_false_iff_ne.2 (by omega)
      have q2 : (1 : Int) < (s.size : Int) := by omega
      have q3 : ((2 : Int) == (s.size : Int)) = true := beq_iff_eq.2 (by omega)
      clear g3
      go_enter Try.func11, Try.ntmps11
      go_wp2
      go_ret
      exact ⟨rfl, rfl⟩
    · have q1 : ((1 : Int) == (s.size : Int)) = false := beq_eq_false_iff_ne.2 (by omega)
      have q2 : (1 : Int) < (s.size : Int) := by omega
      have q3 : ((2 : Int) == (s.size : Int)) = false := beq_eq_false_iff_ne.2 (by omega)
      clear g3
      go_enter Try.func11, Try.ntmps11
      go_wp2
      go_ret
      exact ⟨rfl, rfl⟩
    · have q1 : ((1 : Int) == (s.size : Int)) = false := beq_eq_false_iff_ne.2 (by omega)
      have q2 : (1 : Int) < (s.size : Int) := by omega
      have G2 : Hid (∀ j, 1 ≤ j → (h : j < s.size) → 48 ≤ (s[j].toNat : Int) ∧ (s[j].toNat : Int) ≤ 57) := g2
      clear g2
      go_enter Try.func11, Try.ntmps11
      go_wp2_with fail
      go_loop [4] (fun x => ∃ j : Nat, 1 ≤ j ∧ j ≤ s.size ∧ x = .int .i64 j) (fun x => s.size - (intOf x).toNat)
      case atStart => exact ⟨1, Nat.le_refl _, by omega, rfl⟩
      case round =>
        obtain ⟨j, hj1, hj2, rfl⟩ := hrel
        by_cases hlt : j < s.size
        · obtain ⟨k1, k2⟩ := G2.out j hj1 hlt
          have hji : (j : Int) < (s.size : Int) := by omega
          go_wp2_with (go_at_call 10; refine (dig_yes _ _ k1 k2).mono ?_; rintro e w' ⟨rfl, rfl⟩)
          go_round
          case rel => exact ⟨j + 1, by omega, by omega, by go_num⟩
          case measure => simp [intOf]; omega
        · go_wp2_with fail
          go_ret
          exact ⟨rfl, rfl⟩
  · rcases hb with ⟨g, rfl⟩ | ⟨g, _⟩ | ⟨g, _⟩ | ⟨g, _⟩
    · have h0i : (s.size : Int) = 0 := by omega
      clear g h0
      go_enter Try.func11, Try.ntmps11
      go_wp2
      go_ret
      exact ⟨rfl, rfl⟩
    · omega
    · omega
    · omega
  · have h0i : (0 : Int) < (s.size : Int) := by omega
    rcases hb with ⟨g, rfl⟩ | ⟨g, g1, g3, rfl⟩ | ⟨g, g1, g3, rfl⟩ | ⟨g, g1, rfl, g2⟩
    · have q1 : ((0 : Int) == (s.size : Int)) = true := beq_iff_eq.2 (by omega)
      clear g
      go_enter Try.func11, Try.ntmps11
      go_wp2
      go_ret
      exact ⟨rfl, rfl⟩
    · have q1 : ((0 : Int) == (s.size : Int)) = false := beq_eq_false_iff_ne.2 (by omega)
      have q2 : (0 : Int) < (s.size : Int) := by omega
      have q3 : ((1 : Int) == (s.size : Int)) = true := beq_iff_eq.2 (by omega)
      clear g3
      go_enter Try.func11, Try.ntmps11
      go_wp2
      go_ret
      exact ⟨rfl, rfl⟩
    · have q1 : ((0 : Int) == (s.size : Int)) = false := beq_eq_false_iff_ne.2 (by omega)
      have q2 : (0 : Int) < (s.size : Int) := by omega
      have q3 : ((1 : Int) == (s.size : Int)) = false := beq_eq_false_iff_ne.2 (by omega)
      clear g3
      go_enter Try.func11, Try.ntmps11
      go_wp2
      go_ret
      exact ⟨rfl, rfl⟩
    · have q1 : ((0 : Int) == (s.size : Int)) = false := beq_eq_false_iff_ne.2 (by omega)
      have q2 : (0 : Int) < (s.size : Int) := by omega
      have G2 : Hid (∀ j, 0 ≤ j → (h : j < s.size) → 48 ≤ (s[j].toNat : Int) ∧ (s[j].toNat : Int) ≤ 57) := g2
      clear g2
      go_enter Try.func11, Try.ntmps11
      go_wp2_with fail
      go_loop [4] (fun x => ∃ j : Nat, 0 ≤ j ∧ j ≤ s.size ∧ x = .int .i64 j) (fun x => s.size - (intOf x).toNat)
      case atStart => exact ⟨0, Nat.le_refl _, by omega, rfl⟩
      case round =>
        obtain ⟨j, hj1, hj2, rfl⟩ := hrel
        by_cases hlt : j < s.size
        · obtain ⟨k1, k2⟩ := G2.out j hj1 hlt
          have hji : (j : Int) < (s.size : Int) := by omega
          go_wp2_with (go_at_call 10; refine (dig_yes _ _ k1 k2).mono ?_; rintro e w' ⟨rfl, rfl⟩)
          go_round
          case rel => exact ⟨j + 1, by omega, by omega, by go_num⟩
          case measure => simp [intOf]; omega
        · go_wp2_with fail
          go_ret
          exact ⟨rfl, rfl⟩

theorem sign_of (t : ByteArray) (o d e : Nat) (ho : o < t.size) (hd : (((t[o].toNat : Int) == 45) = true ∧ d = o + 1) ∨ (((t[o].toNat : Int) == 45) = false ∧ d = o)) (h1 : d ≤ e) (h2 : e ≤ t.size) : Sign (t.extract o e) (d - o) := by
  have hsz : (t.extract o e).size = e - o := by rw [ByteArray.size_extract, Nat.min_eq_left h2]
  rcases hd with ⟨hc, rfl⟩ | ⟨hc, rfl⟩
  · left
    refine ⟨by omega, ?_, by omega⟩
    rw [ByteArray.getElem_extract]
    exact hc
  · by_cases hz : e = d
    · right; left; exact ⟨by omega, by omega⟩
    · right; right
      refine ⟨by omega, ?_, by omega⟩
      rw [ByteArray.getElem_extract]
      exact hc

/-- a run of digits ends somewhere -/
theorem run_exists (t : ByteArray) : ∀ (n d : Nat), t.size - d = n → d ≤ t.size → ∃ e, Run t d e
  | 0, d, h, hd => ⟨d, ⟨Nat.le_refl _, hd, fun j h1 h2 => by omega, Or.inl (by omega)⟩⟩
  | n + 1, d, h, hd => by
    have hlt : d < t.size := by omega
    by_cases hc : 48 ≤ (t[d].toNat : Int) ∧ (t[d].toNat : Int) ≤ 57
    · obtain ⟨e, he⟩ := run_exists t n (d + 1) (by omega) (by omega)
      refine ⟨e, ⟨by have := he.le; omega, he.le', fun j h1 h2 => ?_, he.stop⟩⟩
      by_cases e' : j = d
      · subst e'; exact ⟨hlt, hc⟩
      · exact he.dig j (by omega) h2
    · exact ⟨d, ⟨Nat.le_refl _, hd, fun j h1 h2 => by omega, Or.inr ⟨hlt, by omega⟩⟩⟩
end Go.Proofs.Qxb6602169a.take
