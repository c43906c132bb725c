import Derived.Test.Qxb6002375aDoorRead
import Derived.Lib.EndianBits
import Derived.Stop.LaidErr
namespace Go.Proofs.Qxb6002375aDoor.rv
open Go.ChangeShapes Go.WideShapes Go.ChangeAt Go.RowKit
set_option linter.unusedVariables false
set_option linter.unusedSimpArgs false

def bt (D : List Int) (j : Nat) : Int := D.getD j 0
def num16 (D : List Int) (o : Nat) : Int := bt D o + bt D (o + 1) * 256
def num64 (D : List Int) (o : Nat) : Int := bt D o + bt D (o + 1) * 256 + bt D (o + 2) * 65536 + bt D (o + 3) * 16777216 + bt D (o + 4) * 4294967296 + bt D (o + 5) * 1099511627776 + bt D (o + 6) * 281474976710656 + bt D (o + 7) * 72057594037927936
/-- block h holds the first m bytes of D -/
def Byt (D : List Int) (w : World) (h m : Nat) : Prop := ∀ j, j < m → w.cell? ⟨h, j, none⟩ = some (.int .u8 (bt D j))
def Small (D : List Int) : Prop := ∀ j, 0 ≤ bt D j ∧ bt D j < 256

theorem num16_le {D : List Int} (hs : Small D) (o : Nat) : 0 ≤ num16 D o ∧ num16 D o < 65536 := by
  have h0 := hs o
  have h1 := hs (o + 1)
  unfold num16; omega
theorem num64_le {D : List Int} (hs : Small D) (o : Nat) : 0 ≤ num64 D o ∧ num64 D o < 18446744073709551616 := by
  have h0 := hs o
  have h1 := hs (o + 1)
  have h2 := hs (o + 2)
  have h3 := hs (o + 3)
  have h4 := hs (o + 4)
  have h5 := hs (o + 5)
  have h6 := hs (o + 6)
  have h7 := hs (o + 7)
  unfold num64; omega

theorem u16_any (D : List Int) (h o n c m : Nat) (w : World) (hs : Small D) (hn : 2 ≤ n) (hm : o + 2 ≤ m) (hb : Byt D w h m) :
    Calls Tryd.prog 22 #[.agg #[], .slice (some ⟨h, o, none⟩) n c] w fun e w' => e = .returned (.int .u16 (num16 D o)) ∧ Below w.heap.size w w' := by
  have d0 := cell?_alloc_old (.cells #[] 53) (hb o (by omega))
  have d1 := cell?_alloc_old (.cells #[] 53) (hb (o + 1) (by omega))
  have h0 := hs o
  have h1 := hs (o + 1)
  have Hv : Hid (num16 D o = bt D o + bt D (o + 1) * 256) := rfl
  generalize num16 D o = v at Hv ⊢
  generalize bt D o = b0 at d0 h0 Hv
  generalize bt D (o + 1) = b1 at d1 h1 Hv
  clear hb hs
  have q0 : 0 < n := by omega
  have q1 : (1 : Int) < (n : Int) := by omega
  go_enter Tryd.func22, Tryd.ntmps22
  go_wp2
  go_quiet (fail)
  go_wp2
  go_ret
  refine ⟨?_, ((Below.refl _ w).alloc (Nat.le_refl _) _).trans ⟨rfl, rfl, rfl, Nat.le_refl _, fun _ _ => rfl⟩⟩
  simp (disch := omega) only [u16_wrap_id, u16_or8]
  rw [Hv.out]
  rfl

set_option maxHeartbeats 8000000 in
set_option maxRecDepth 100000 in
theorem u64_any (D : List Int) (h o n c m : Nat) (w : World) (hs : Small D) (hn : 8 ≤ n) (hm : o + 8 ≤ m) (hb : Byt D w h m) :
    Calls Tryd.prog 23 #[.agg #[], .slice (some ⟨h, o, none⟩) n c] w fun e w' => e = .returned (.int .u64 (num64 D o)) ∧ Below w.heap.size w w' := by
  have d0 := cell?_alloc_old (.cells #[] 53) (hb o (by omega))
  have h0 := hs o
  have d1 := cell?_alloc_old (.cells #[] 53) (hb (o + 1) (by omega))
  have h1 := hs (o + 1)
  have d2 := cell?_alloc_old (.cells #[] 53) (hb (o + 2) (by omega))
  have h2 := hs (o + 2)
  have d3 := cell?_alloc_old (.cells #[] 53) (hb (o + 3) (by omega))
  have h3 := hs (o + 3)
  have d4 := cell?_alloc_old (.cells #[] 53) (hb (o + 4) (by omega))
  have h4 := hs (o + 4)
  have d5 := cell?_alloc_old (.cells #[] 53) (hb (o + 5) (by omega))
  have h5 := hs (o + 5)
  have d6 := cell?_alloc_old (.cells #[] 53) (hb (o + 6) (by omega))
  have h6 := hs (o + 6)
  have d7 := cell?_alloc_old (.cells #[] 53) (hb (o + 7) (by omega))
  have h7 := hs (o + 7)
  have Hv : Hid (num64 D o = bt D o + bt D (o + 1) * 256 + bt D (o + 2) * 65536 + bt D (o + 3) * 16777216 + bt D (o + 4) * 4294967296 + bt D (o + 5) * 1099511627776 + bt D (o + 6) * 281474976710656 + bt D (o + 7) * 72057594037927936) := rfl
  generalize num64 D o = v at Hv ⊢
  generalize bt D o = b0 at d0 h0 Hv
  generalize bt D (o + 1) = b1 at d1 h1 Hv
  generalize bt D (o + 2) = b2 at d2 h2 Hv
  generalize bt D (o + 3) = b3 at d3 h3 Hv
  generalize bt D (o + 4) = b4 at d4 h4 Hv
  generalize bt D (o + 5) = b5 at d5 h5 Hv
  generalize bt D (o + 6) = b6 at d6 h6 Hv
  generalize bt D (o + 7) = b7 at d7 h7 Hv
  clear hb hs
  have q0 : 0 < n := by omega
  have q1 : (1 : Int) < (n : Int) := by omega
  have q2 : (2 : Int) < (n : Int) := by omega
  have q3 : (3 : Int) < (n : Int) := by omega
  have q4 : (4 : Int) < (n : Int) := by omega
  have q5 : (5 : Int) < (n : Int) := by omega
  have q6 : (6 : Int) < (n : Int) := by omega
  have q7 : (7 : Int) < (n : Int) := by omega
  go_enter Tryd.func23, Tryd.ntmps23
  go_wp2
  go_quiet (fail)
  go_wp2
  go_ret
  refine ⟨?_, ((Below.refl _ w).alloc (Nat.le_refl _) _).trans ⟨rfl, rfl, rfl, Nat.le_refl _, fun _ _ => rfl⟩⟩
  simp (disch := omega) only [u64_wrap_id, u64_or8, u64_or16, u64_or24, u64_or32, u64_or40, u64_or48, u64_or56]
  rw [Hv.out]
  rfl

theorem i64_or8 (y x : Int) (hy₀ : 0 ≤ y) (hy : y < 256) (hx₀ : 0 ≤ x) (hx : x % 256 = 0) (hx₁ : x < 9223372036854775808) : bits .or .i64 y x = y + x :=
  bits_join_low .i64 63 (by decide) (fun n h0 h1 => by first | go_num | (simp [IntKind.wrap, IntKind.bits, IntKind.signed]; omega)) 8 y x hy₀ hy (by omega) hx₀ hx hx₁

/-- zzLE16 at 48 -/
theorem le16_any (D : List Int) (g n c m : Nat) (w : World) (hs : Small D) (hn : 56 ≤ n) (hm : 56 ≤ m) (hb : Byt D w g m) :
    Calls Tryd.prog 19 #[.slice (some ⟨g, 0, none⟩) n c, .int .i64 48] w fun e w' => e = .returned (.int .i64 (num16 D 48)) ∧ Below w.heap.size w w' := by
  have d0 := hb 48 (by omega)
  have d1 := hb 49 (by omega)
  have h0 := hs 48
  have h1 := hs 49
  have Hv : Hid (num16 D 48 = bt D 48 + bt D 49 * 256) := rfl
  generalize num16 D 48 = v at Hv ⊢
  generalize bt D 48 = b0 at d0 h0 Hv
  generalize bt D 49 = b1 at d1 h1 Hv
  clear hb hs
  have q0 : (48 : Int) < (n : Int) := by omega
  have q1 : (49 : Int) < (n : Int) := by omega
  go_enter Tryd.func19, Tryd.ntmps19
  go_wp2
  go_quiet (fail)
  go_wp2
  go_ret
  refine ⟨?_, (Below.refl _ w).trans ⟨rfl, rfl, rfl, Nat.le_refl _, fun _ _ => rfl⟩⟩
  simp (disch := omega) only [i64_or8]
  rw [Hv.out]
  rfl

theorem u64_hi8 (y x : Int) (hy₀ : 0 ≤ y) (hy : y < 256) (hx₀ : 0 ≤ x) (hx : x % 256 = 0) (hx₁ : x < 18446744073709551616) : bits .or .u64 x y = x + y :=
  bits_join .u64 64 (by decide) wraps_u64 8 x y hx₀ hx hx₁ hy₀ hy (by omega)

/-- the number that the bytes from o + j up to o + 7 spell -/
def part64 (D : List Int) (o : Nat) : Nat → Int
  | 0 => 0
  | t + 1 => part64 D o t * 256 + bt D (o + (7 - t))
theorem part64_le {D : List Int} (hs : Small D) (o : Nat) : ∀ t, 0 ≤ part64 D o t ∧ part64 D o t < 256 ^ t
  | 0 => by simp [part64]
  | t + 1 => by
    have ih := part64_le hs o t
    have h0 := hs (o + (7 - t))
    have : (256 : Int) ^ (t + 1) = 256 ^ t * 256 := by rw [Int.pow_succ]
    rw [this]
    simp only [part64]
    omega
theorem part64_all (D : List Int) (o : Nat) : part64 D o 8 = num64 D o := by
  simp only [part64, num64]
  simp
  omega

set_option maxHeartbeats 1000000 in
/-- zzLE64 at 32 -/
theorem le64_any (D : List Int) (g n c m : Nat) (w : World) (hs : Small D) (hn : 56 ≤ n) (hm : 56 ≤ m) (hb : Byt D w g m) :
    Calls Tryd.prog 20 #[.slice (some ⟨g, 0, none⟩) n c, .int .i64 32] w fun e w' => e = .returned (.int .u64 (num64 D 32)) ∧ w' = w := by
  have Hb : Hid (Byt D w g m) := hb
  have Hs : Hid (Small D) := hs
  clear hb hs
  go_enter Tryd.func20, Tryd.ntmps20
  go_wp2
  go_loop [5, 6] (fun x y => ∃ t : Nat, t ≤ 8 ∧ x = .int .u64 (part64 D 32 t) ∧ y = .int .i64 (7 - (t : Int))) (fun _ y => (intOf y + 1).toNat)
  case atStart => exact ⟨0, by omega, rfl, rfl⟩
  case round =>
    obtain ⟨t, ht, rfl, rfl⟩ := hrel
    by_cases h8 : t = 8
    · subst h8
      go_wp2_with fail
      go_ret
      exact ⟨by rw [part64_all]; rfl, rfl⟩
    · have htl : t < 8 := by omega
      clear h8 ht
      have d := Hb.out (32 + (7 - t)) (by omega)
      have hp := part64_le Hs.out 32 t
      have hp7 : (256 : Int) ^ t ≤ 256 ^ 7 := by
        have : t = 0 ∨ t = 1 ∨ t = 2 ∨ t = 3 ∨ t = 4 ∨ t = 5 ∨ t = 6 ∨ t = 7 := by omega
        rcases this with rfl | rfl | rfl | rfl | rfl | rfl | rfl | rfl <;> decide
      have hp8 : part64 D 32 t < 72057594037927936 := by have : (256 : Int) ^ 7 = 72057594037927936 := by decide
                                                         omega
      have hbt := Hs.out (32 + (7 - t))
      have Hn : Hid (part64 D 32 (t + 1) = part64 D 32 t * 256 + bt D (32 + (7 - t))) := rfl
      obtain ⟨u, hu⟩ : ∃ u : Nat, u = 7 - t := ⟨_, rfl⟩
      have Hu : Hid (u + t = 7) := by show u + t = 7; omega
      have hut : (7 : Int) - (t : Int) = (u : Int) := by have := Hu.out; omega
      rw [← hu] at d hbt Hn
      rw [hut]
      have Hx : Hid (part64 D 32 (t + 1) = part64 D 32 t * 256 + bt D (32 + u)) := Hn.out
      clear Hn hu hp hp7
      have hp0 := (part64_le Hs.out 32 t).1
      generalize part64 D 32 t = v at hp8 hp0 Hx ⊢
      generalize bt D (32 + u) = b at d hbt Hx
      have hu7 : u ≤ 7 := by have := Hu.out; omega
      have q0 : (0 : Int) ≤ (u : Int) := by omega
      have q1 : (32 : Int) + (u : Int) < (n : Int) := by omega
      have q2 : 32 + u < n := by omega
      clear hut
      go_wp2_with fail
      go_round
      case rel =>
        refine ⟨t + 1, by omega, ?_, ?_⟩
        · rw [Hx.out]
          simp (disch := omega) only [u64_wrap_id, u64_hi8]
        · have := Hu.out
          go_num
      case measure => simp [intOf]
end Go.Proofs.Qxb6002375aDoor.rv
