import Derived.Test.Qxb6601864aName
namespace Go.Proofs.Qxb6601864a.name
open Go.ChangeShapes Go.WideShapes Go.ChangeAt Go.RowKit

/-- the table, by kind and place -/
def tab : Bool → List (Int × Int)
  | false => [(58, 58), (65, 90), (95, 95), (97, 122), (192, 214), (216, 246), (248, 767), (880, 893), (895, 8191), (8204, 8205), (8304, 8591), (11264, 12271), (12289, 55295), (63744, 64975), (65008, 65533), (65536, 983039)]
  | true => [(45, 46), (48, 57), (183, 183), (768, 879), (8255, 8256)]
def cnt (e : Bool) : Nat := (tab e).length
def lo (e : Bool) (k : Nat) : Int := ((tab e).getD k (0, 0)).1
def hi (e : Bool) (k : Nat) : Int := ((tab e).getD k (0, 0)).2
def inB (e : Bool) (r : Int) : Bool := (tab e).any fun q => decide (q.1 ≤ r) && decide (r ≤ q.2)

theorem rng_false0 (w : World) : Calls Try.prog 33 #[.bool false, .int .i64 0] w fun e w' => e = .returned (.tuple #[.int .i32 58, .int .i32 58]) ∧ w' = w := by
  go_enter Try.func33, Try.ntmps33
  go_wp2
  go_ret2
  exact ⟨rfl, rfl⟩
theorem rng_false1 (w : World) : Calls Try.prog 33 #[.bool false, .int .i64 1] w fun e w' => e = .returned (.tuple #[.int .i32 65, .int .i32 90]) ∧ w' = w := by
  go_enter Try.func33, Try.ntmps33
  go_wp2
  go_ret2
  exact ⟨rfl, rfl⟩
theorem rng_false2 (w : World) : Calls Try.prog 33 #[.bool false, .int .i64 2] w fun e w' => e = .returned (.tuple #[.int .i32 95, .int .i32 95]) ∧ w' = w := by
  go_enter Try.func33, Try.ntmps33
  go_wp2
  go_ret2
  exact ⟨rfl, rfl⟩
theorem rng_false3 (w : World) : Calls Try.prog 33 #[.bool false, .int .i64 3] w fun e w' => e = .returned (.tuple #[.int .i32 97, .int .i32 122]) ∧ w' = w := by
  go_enter Try.func33, Try.ntmps33
  go_wp2
  go_ret2
  exact ⟨rfl, rfl⟩
theorem rng_false4 (w : World) : Calls Try.prog 33 #[.bool false, .int .i64 4] w fun e w' => e = .returned (.tuple #[.int .i32 192, .int .i32 214]) ∧ w' = w := by
  go_enter Try.func33, Try.ntmps33
  go_wp2
  go_ret2
  exact ⟨rfl, rfl⟩
theorem rng_false5 (w : World) : Calls Try.prog 33 #[.bool false, .int .i64 5] w fun e w' => e = .returned (.tuple #[.int .i32 216, .int .i32 246]) ∧ w' = w := by
  go_enter Try.func33, Try.ntmps33
  go_wp2
  go_ret2
  exact ⟨rfl, rfl⟩
theorem rng_false6 (w : World) : Calls Try.prog 33 #[.bool false, .int .i64 6] w fun e w' => e = .returned (.tuple #[.int .i32 248, .int .i32 767]) ∧ w' = w := by
  go_enter Try.func33, Try.ntmps33
  go_wp2
  go_ret2
  exact ⟨rfl, rfl⟩
theorem rng_false7 (w : World) : Calls Try.prog 33 #[.bool false, .int .i64 7] w fun e w' => e = .returned (.tuple #[.int .i32 880, .int .i32 893]) ∧ w' = w := by
  go_enter Try.func33, Try.ntmps33
  go_wp2
  go_ret2
  exact ⟨rfl, rfl⟩
theorem rng_false8 (w : World) : Calls Try.prog 33 #[.bool false, .int .i64 8] w fun e w' => e = .returned (.tuple #[.int .i32 895, .int .i32 8191]) ∧ w' = w := by
  go_enter Try.func33, Try.ntmps33
  go_wp2
  go_ret2
  exact ⟨rfl, rfl⟩
theorem rng_false9 (w : World) : Calls Try.prog 33 #[.bool false, .int .i64 9] w fun e w' => e = .returned (.tuple #[.int .i32 8204, .int .i32 8205]) ∧ w' = w := by
  go_enter Try.func33, Try.ntmps33
  go_wp2
  go_ret2
  exact ⟨rfl, rfl⟩
theorem rng_false10 (w : World) : Calls Try.prog 33 #[.bool false, .int .i64 10] w fun e w' => e = .returned (.tuple #[.int .i32 8304, .int .i32 8591]) ∧ w' = w := by
  go_enter Try.func33, Try.ntmps33
  go_wp2
  go_ret2
  exact ⟨rfl, rfl⟩
theorem rng_false11 (w : World) : Calls Try.prog 33 #[.bool false, .int .i64 11] w fun e w' => e = .returned (.tuple #[.int .i32 11264, .int .i32 12271]) ∧ w' = w := by
  go_enter Try.func33, Try.ntmps33
  go_wp2
  go_ret2
  exact ⟨rfl, rfl⟩
theorem rng_false12 (w : World) : Calls Try.prog 33 #[.bool false, .int .i64 12] w fun e w' => e = .returned (.tuple #[.int .i32 12289, .int .i32 55295]) ∧ w' = w := by
  go_enter Try.func33, Try.ntmps33
  go_wp2
  go_ret2
  exact ⟨rfl, rfl⟩
theorem rng_false13 (w : World) : Calls Try.prog 33 #[.bool false, .int .i64 13] w fun e w' => e = .returned (.tuple #[.int .i32 63744, .int .i32 64975]) ∧ w' = w := by
  go_enter Try.func33, Try.ntmps33
  go_wp2
  go_ret2
  exact ⟨rfl, rfl⟩
theorem rng_false14 (w : World) : Calls Try.prog 33 #[.bool false, .int .i64 14] w fun e w' => e = .returned (.tuple #[.int .i32 65008, .int .i32 65533]) ∧ w' = w := by
  go_enter Try.func33, Try.ntmps33
  go_wp2
  go_ret2
  exact ⟨rfl, rfl⟩
theorem rng_false15 (w : World) : Calls Try.prog 33 #[.bool false, .int .i64 15] w fun e w' => e = .returned (.tuple #[.int .i32 65536, .int .i32 983039]) ∧ w' = w := by
  go_enter Try.func33, Try.ntmps33
  go_wp2
  go_ret2
  exact ⟨rfl, rfl⟩
theorem rng_true0 (w : World) : Calls Try.prog 33 #[.bool true, .int .i64 0] w fun e w' => e = .returned (.tuple #[.int .i32 45, .int .i32 46]) ∧ w' = w := by
  go_enter Try.func33, Try.ntmps33
  go_wp2
  go_ret2
  exact ⟨rfl, rfl⟩
theorem rng_true1 (w : World) : Calls Try.prog 33 #[.bool true, .int .i64 1] w fun e w' => e = .returned (.tuple #[.int .i32 48, .int .i32 57]) ∧ w' = w := by
  go_enter Try.func33, Try.ntmps33
  go_wp2
  go_ret2
  exact ⟨rfl, rfl⟩
theorem rng_true2 (w : World) : Calls Try.prog 33 #[.bool true, .int .i64 2] w fun e w' => e = .returned (.tuple #[.int .i32 183, .int .i32 183]) ∧ w' = w := by
  go_enter Try.func33, Try.ntmps33
  go_wp2
  go_ret2
  exact ⟨rfl, rfl⟩
theorem rng_true3 (w : World) : Calls Try.prog 33 #[.bool true, .int .i64 3] w fun e w' => e = .returned (.tuple #[.int .i32 768, .int .i32 879]) ∧ w' = w := by
  go_enter Try.func33, Try.ntmps33
  go_wp2
  go_ret2
  exact ⟨rfl, rfl⟩
theorem rng_true4 (w : World) : Calls Try.prog 33 #[.bool true, .int .i64 4] w fun e w' => e = .returned (.tuple #[.int .i32 8255, .int .i32 8256]) ∧ w' = w := by
  go_enter Try.func33, Try.ntmps33
  go_wp2
  go_ret2
  exact ⟨rfl, rfl⟩
theorem rng_any (b : Bool) (i : Int) (w : World) (h0 : 0 ≤ i) (h1 : i < cnt b) :
    Calls Try.prog 33 #[.bool b, .int .i64 i] w fun e w' => e = .returned (.tuple #[.int .i32 (lo b i.toNat), .int .i32 (hi b i.toNat)]) ∧ w' = w := by
  cases b
  · have hc : (cnt false : Int) = 16 := rfl
    have : i = 0 ∨ i = 1 ∨ i = 2 ∨ i = 3 ∨ i = 4 ∨ i = 5 ∨ i = 6 ∨ i = 7 ∨ i = 8 ∨ i = 9 ∨ i = 10 ∨ i = 11 ∨ i = 12 ∨ i = 13 ∨ i = 14 ∨ i = 15 := by omega
    rcases this with rfl | rfl | rfl | rfl | rfl | rfl | rfl | rfl | rfl | rfl | rfl | rfl | rfl | rfl | rfl | rfl
    · exact rng_false0 w
    · exact rng_false1 w
    · exact rng_false2 w
    · exact rng_false3 w
    · exact rng_false4 w
    · exact rng_false5 w
    · exact rng_false6 w
    · exact rng_false7 w
    · exact rng_false8 w
    · exact rng_false9 w
    · exact rng_false10 w
    · exact rng_false11 w
    · exact rng_false12 w
    · exact rng_false13 w
    · exact rng_false14 w
    · exact rng_false15 w
  · have hc : (cnt true : Int) = 5 := rfl
    have : i = 0 ∨ i = 1 ∨ i = 2 ∨ i = 3 ∨ i = 4 := by omega
    rcases this with rfl | rfl | rfl | rfl | rfl
    · exact rng_true0 w
    · exact rng_true1 w
    · exact rng_true2 w
    · exact rng_true3 w
    · exact rng_true4 w
theorem cnt_any (b : Bool) (w : World) : Calls Try.prog 32 #[.bool b] w fun e w' => e = .returned (.int .i64 (cnt b)) ∧ w' = w := by
  cases b
  · go_enter Try.func32, Try.ntmps32
    go_wp2
    go_ret
    exact ⟨rfl, rfl⟩
  · go_enter Try.func32, Try.ntmps32
    go_wp2
    go_ret
    exact ⟨rfl, rfl⟩

/-- THE PLAIN LAW of the binary search: the last range that begins at or below r decides -/
theorem inB_zero (e : Bool) (r : Int) (h : r < lo e 0) : inB e r = false := by
  cases e
  · have : lo false 0 = 58 := rfl
    simp only [inB, tab, List.any_cons, List.any_nil, Bool.or_false, Bool.or_eq_false_iff, Bool.and_eq_false_iff, decide_eq_false_iff_not]; omega
  · have : lo true 0 = 45 := rfl
    simp only [inB, tab, List.any_cons, List.any_nil, Bool.or_false, Bool.or_eq_false_iff, Bool.and_eq_false_iff, decide_eq_false_iff_not]; omega

theorem inB_false0 (r : Int) (h1 : 58 ≤ r) (h2 : r < 65) : inB false r = decide (r ≤ 58) := by
  rw [Bool.eq_iff_iff]
  simp only [inB, tab, List.any_cons, List.any_nil, Bool.or_false, Bool.or_eq_true, Bool.and_eq_true, decide_eq_true_eq]; omega
theorem inB_false1 (r : Int) (h1 : 65 ≤ r) (h2 : r < 95) : inB false r = decide (r ≤ 90) := by
  rw [Bool.eq_iff_iff]
  simp only [inB, tab, List.any_cons, List.any_nil, Bool.or_false, Bool.or_eq_true, Bool.and_eq_true, decide_eq_true_eq]; omega
theorem inB_false2 (r : Int) (h1 : 95 ≤ r) (h2 : r < 97) : inB false r = decide (r ≤ 95) := by
  rw [Bool.eq_iff_iff]
  simp only [inB, tab, List.any_cons, List.any_nil, Bool.or_false, Bool.or_eq_true, Bool.and_eq_true, decide_eq_true_eq]; omega
theorem inB_false3 (r : Int) (h1 : 97 ≤ r) (h2 : r < 192) : inB false r = decide (r ≤ 122) := by
  rw [Bool.eq_iff_iff]
  simp only [inB, tab, List.any_cons, List.any_nil, Bool.or_false, Bool.or_eq_true, Bool.and_eq_true, decide_eq_true_eq]; omega
theorem inB_false4 (r : Int) (h1 : 192 ≤ r) (h2 : r < 216) : inB false r = decide (r ≤ 214) := by
  rw [Bool.eq_iff_iff]
  simp only [inB, tab, List.any_cons, List.any_nil, Bool.or_false, Bool.or_eq_true, Bool.and_eq_true, decide_eq_true_eq]; omega
theorem inB_false5 (r : Int) (h1 : 216 ≤ r) (h2 : r < 248) : inB false r = decide (r ≤ 246) := by
  rw [Bool.eq_iff_iff]
  simp only [inB, tab, List.any_cons, List.any_nil, Bool.or_false, Bool.or_eq_true, Bool.and_eq_true, decide_eq_true_eq]; omega
theorem inB_false6 (r : Int) (h1 : 248 ≤ r) (h2 : r < 880) : inB false r = decide (r ≤ 767) := by
  rw [Bool.eq_iff_iff]
  simp only [inB, tab, List.any_cons, List.any_nil, Bool.or_false, Bool.or_eq_true, Bool.and_eq_true, decide_eq_true_eq]; omega
theorem inB_false7 (r : Int) (h1 : 880 ≤ r) (h2 : r < 895) : inB false r = decide (r ≤ 893) := by
  rw [Bool.eq_iff_iff]
  simp only [inB, tab, List.any_cons, List.any_nil, Bool.or_false, Bool.or_eq_true, Bool.and_eq_true, decide_eq_true_eq]; omega
theorem inB_false8 (r : Int) (h1 : 895 ≤ r) (h2 : r < 8204) : inB false r = decide (r ≤ 8191) := by
  rw [Bool.eq_iff_iff]
  simp only [inB, tab, List.any_cons, List.any_nil, Bool.or_false, Bool.or_eq_true, Bool.and_eq_true, decide_eq_true_eq]; omega
theorem inB_false9 (r : Int) (h1 : 8204 ≤ r) (h2 : r < 8304) : inB false r = decide (r ≤ 8205) := by
  rw [Bool.eq_iff_iff]
  simp only [inB, tab, List.any_cons, List.any_nil, Bool.or_false, Bool.or_eq_true, Bool.and_eq_true, decide_eq_true_eq]; omega
theorem inB_false10 (r : Int) (h1 : 8304 ≤ r) (h2 : r < 11264) : inB false r = decide (r ≤ 8591) := by
  rw [Bool.eq_iff_iff]
  simp only [inB, tab, List.any_cons, List.any_nil, Bool.or_false, Bool.or_eq_true, Bool.and_eq_true, decide_eq_true_eq]; omega
theorem inB_false11 (r : Int) (h1 : 11264 ≤ r) (h2 : r < 12289) : inB false r = decide (r ≤ 12271) := by
  rw [Bool.eq_iff_iff]
  simp only [inB, tab, List.any_cons, List.any_nil, Bool.or_false, Bool.or_eq_true, Bool.and_eq_true, decide_eq_true_eq]; omega
theorem inB_false12 (r : Int) (h1 : 12289 ≤ r) (h2 : r < 63744) : inB false r = decide (r ≤ 55295) := by
  rw [Bool.eq_iff_iff]
  simp only [inB, tab, List.any_cons, List.any_nil, Bool.or_false, Bool.or_eq_true, Bool.and_eq_true, decide_eq_true_eq]; omega
theorem inB_false13 (r : Int) (h1 : 63744 ≤ r) (h2 : r < 65008) : inB false r = decide (r ≤ 64975) := by
  rw [Bool.eq_iff_iff]
  simp only [inB, tab, List.any_cons, List.any_nil, Bool.or_false, Bool.or_eq_true, Bool.and_eq_true, decide_eq_true_eq]; omega
theorem inB_false14 (r : Int) (h1 : 65008 ≤ r) (h2 : r < 65536) : inB false r = decide (r ≤ 65533) := by
  rw [Bool.eq_iff_iff]
  simp only [inB, tab, List.any_cons, List.any_nil, Bool.or_false, Bool.or_eq_true, Bool.and_eq_true, decide_eq_true_eq]; omega
theorem inB_false15 (r : Int) (h1 : 65536 ≤ r) : inB false r = decide (r ≤ 983039) := by
  rw [Bool.eq_iff_iff]
  simp only [inB, tab, List.any_cons, List.any_nil, Bool.or_false, Bool.or_eq_true, Bool.and_eq_true, decide_eq_true_eq]; omega
theorem inB_true0 (r : Int) (h1 : 45 ≤ r) (h2 : r < 48) : inB true r = decide (r ≤ 46) := by
  rw [Bool.eq_iff_iff]
  simp only [inB, tab, List.any_cons, List.any_nil, Bool.or_false, Bool.or_eq_true, Bool.and_eq_true, decide_eq_true_eq]; omega
theorem inB_true1 (r : Int) (h1 : 48 ≤ r) (h2 : r < 183) : inB true r = decide (r ≤ 57) := by
  rw [Bool.eq_iff_iff]
  simp only [inB, tab, List.any_cons, List.any_nil, Bool.or_false, Bool.or_eq_true, Bool.and_eq_true, decide_eq_true_eq]; omega
theorem inB_true2 (r : Int) (h1 : 183 ≤ r) (h2 : r < 768) : inB true r = decide (r ≤ 183) := by
  rw [Bool.eq_iff_iff]
  simp only [inB, tab, List.any_cons, List.any_nil, Bool.or_false, Bool.or_eq_true, Bool.and_eq_true, decide_eq_true_eq]; omega
theorem inB_true3 (r : Int) (h1 : 768 ≤ r) (h2 : r < 8255) : inB true r = decide (r ≤ 879) := by
  rw [Bool.eq_iff_iff]
  simp only [inB, tab, List.any_cons, List.any_nil, Bool.or_false, Bool.or_eq_true, Bool.and_eq_true, decide_eq_true_eq]; omega
theorem inB_true4 (r : Int) (h1 : 8255 ≤ r) : inB true r = decide (r ≤ 8256) := by
  rw [Bool.eq_iff_iff]
  simp only [inB, tab, List.any_cons, List.any_nil, Bool.or_false, Bool.or_eq_true, Bool.and_eq_true, decide_eq_true_eq]; omega
theorem inB_succ (e : Bool) (r : Int) (a : Nat) (ha : a < cnt e) (h1 : lo e a ≤ r) (h2 : a + 1 < cnt e → r < lo e (a + 1)) : inB e r = decide (r ≤ hi e a) := by
  cases e
  · have hc : cnt false = 16 := rfl
    have : a = 0 ∨ a = 1 ∨ a = 2 ∨ a = 3 ∨ a = 4 ∨ a = 5 ∨ a = 6 ∨ a = 7 ∨ a = 8 ∨ a = 9 ∨ a = 10 ∨ a = 11 ∨ a = 12 ∨ a = 13 ∨ a = 14 ∨ a = 15 := by omega
    rcases this with rfl | rfl | rfl | rfl | rfl | rfl | rfl | rfl | rfl | rfl | rfl | rfl | rfl | rfl | rfl | rfl
    · exact inB_false0 r h1 (h2 (by decide))
    · exact inB_false1 r h1 (h2 (by decide))
    · exact inB_false2 r h1 (h2 (by decide))
    · exact inB_false3 r h1 (h2 (by decide))
    · exact inB_false4 r h1 (h2 (by decide))
    · exact inB_false5 r h1 (h2 (by decide))
    · exact inB_false6 r h1 (h2 (by decide))
    · exact inB_false7 r h1 (h2 (by decide))
    · exact inB_false8 r h1 (h2 (by decide))
    · exact inB_false9 r h1 (h2 (by decide))
    · exact inB_false10 r h1 (h2 (by decide))
    · exact inB_false11 r h1 (h2 (by decide))
    · exact inB_false12 r h1 (h2 (by decide))
    · exact inB_false13 r h1 (h2 (by decide))
    · exact inB_false14 r h1 (h2 (by decide))
    · exact inB_false15 r h1
  · have hc : cnt true = 5 := rfl
    have : a = 0 ∨ a = 1 ∨ a = 2 ∨ a = 3 ∨ a = 4 := by omega
    rcases this with rfl | rfl | rfl | rfl | rfl
    · exact inB_true0 r h1 (h2 (by decide))
    · exact inB_true1 r h1 (h2 (by decide))
    · exact inB_true2 r h1 (h2 (by decide))
    · exact inB_true3 r h1 (h2 (by decide))
    · exact inB_true4 r h1

theorem cnt_pos (e : Bool) : 0 < cnt e ∧ cnt e ≤ 16 := by cases e <;> decide

set_option maxHeartbeats 1000000 in
theorem inr_any (b : Bool) (r : Int) (w : World) :
    Calls Try.prog 29 #[.bool b, .int .i32 r] w fun e w' => e = .returned (.bool (inB b r)) ∧ w' = w := by
  have hcp := cnt_pos b
  go_enter Try.func29, Try.ntmps29
  go_wp2_with (go_at_call 32; refine (cnt_any _ _).mono ?_; rintro e w' ⟨rfl, rfl⟩)
  go_loop [5, 6] (fun x y => ∃ a z : Nat, a ≤ z ∧ z ≤ cnt b ∧ x = .int .i64 a ∧ y = .int .i64 z ∧ (0 < a → lo b (a - 1) ≤ r) ∧ (z < cnt b → r < lo b z)) (fun x y => (intOf y).toNat - (intOf x).toNat)
  case atStart => exact ⟨0, cnt b, Nat.zero_le _, Nat.le_refl _, rfl, rfl, fun h => absurd h (by decide), fun h => absurd h (Nat.lt_irrefl _)⟩
  case round =>
    obtain ⟨a, z, haz, hz, rfl, rfl, hlo, hhi⟩ := hrel
    by_cases hlt : a < z
    · have hm : ((a : Int) + ((z : Int) - a) / 2).toNat = a + (z - a) / 2 := by omega
      by_cases hc : lo b (a + (z - a) / 2) ≤ r
      · have Hm : Hid (((a : Int) + ((z : Int) - a) / 2).toNat = a + (z - a) / 2) := hm
        clear hm
        go_wp2_with fail
        refine (rng_any _ _ _ (by omega) (by omega)).mono ?_
        rintro e w' ⟨rfl, rfl⟩
        rw [Hm]
        go_wp2_with fail
        go_round
        case rel => exact ⟨a + (z - a) / 2 + 1, z, by omega, by omega, by go_num, rfl, fun _ => hc, hhi⟩
        case measure => simp [intOf]; omega
      · have Hm : Hid (((a : Int) + ((z : Int) - a) / 2).toNat = a + (z - a) / 2) := hm
        clear hm
        go_wp2_with fail
        refine (rng_any _ _ _ (by omega) (by omega)).mono ?_
        rintro e w' ⟨rfl, rfl⟩
        rw [Hm]
        go_wp2_with fail
        go_round
        case rel => exact ⟨a, a + (z - a) / 2, by omega, by omega, rfl, by go_num, hlo, fun _ => by omega⟩
        case measure => simp [intOf]; omega
    · have hez : a = z := by omega
      subst hez
      by_cases h0 : a = 0
      · have h1 : ((a : Int) == 0) = true := beq_iff_eq.2 (by omega)
        have Hr : Hid (inB b r = false) := inB_zero b r (by rw [h0] at hhi; exact hhi hcp.1)
        clear h0
        go_wp2_with fail
        go_ret
        exact ⟨by rw [Hr]; rfl, rfl⟩
      · have h1 : ((a : Int) == 0) = false := beq_eq_false_iff_ne.2 (by omega)
        have Hm : Hid (((a : Int) - 1).toNat = a - 1) := by show _ = _; omega
        have Hr : Hid (inB b r = decide (r ≤ hi b (a - 1))) :=
          inB_succ b r (a - 1) (by omega) (hlo (by omega)) (fun _ => by rw [show a - 1 + 1 = a from by omega]; exact hhi (by omega))
        go_wp2_with fail
        refine (rng_any _ _ _ (by omega) (by omega)).mono ?_
        rintro e w' ⟨rfl, rfl⟩
        rw [Hm]
        go_wp2_with fail
        all_goals go_ret
        all_goals exact ⟨by rw [Hr]; simp [*], rfl⟩

theorem start_any (r : Int) (w : World) :
    Calls Try.prog 10 #[.int .i32 r] w fun e w' => e = .returned (.bool (inB false r)) ∧ w' = w := by
  go_enter Try.func10, Try.ntmps10
  go_wp2_with (go_at_call 29; refine (inr_any _ _ _).mono ?_; rintro e w' ⟨rfl, rfl⟩)
  go_ret
  exact ⟨rfl, rfl⟩

theorem char_any (r : Int) (w : World) :
    Calls Try.prog 11 #[.int .i32 r] w fun e w' => e = .returned (.bool (inB false r || inB true r)) ∧ w' = w := by
  cases h : inB false r
  · go_enter Try.func11, Try.ntmps11
    go_wp2_with (go_at_call 29; refine (inr_any _ _ _).mono ?_; rintro e w' ⟨rfl, rfl⟩)
    go_ret
    exact ⟨rfl, rfl⟩
  · go_enter Try.func11, Try.ntmps11
    go_wp2_with (go_at_call 29; refine (inr_any _ _ _).mono ?_; rintro e w' ⟨rfl, rfl⟩)
    go_ret
    exact ⟨rfl, rfl⟩

/-! ### the plain law: beyond ASCII the two tables are the Go text's ranges -/
theorem small_no (r : Int) (b : Bool) (h : r < 128) : nameB r b = false :=
  nameB_no b (by unfold Start; omega) (by unfold Inside; omega)
theorem first_is (r : Int) (h : 128 ≤ r) : nameB r true = inB false r := by
  rw [Bool.eq_iff_iff]
  simp only [nameB, startB, inB, tab, List.any_cons, List.any_nil, Bool.or_false, Bool.or_eq_true, Bool.and_eq_true, decide_eq_true_eq, Bool.not_true, Bool.false_and]
  omega
theorem char_is (r : Int) (h : 128 ≤ r) : nameB r false = (inB false r || inB true r) := by
  rw [Bool.eq_iff_iff]
  simp only [nameB, startB, insideB, inB, tab, List.any_cons, List.any_nil, Bool.or_false, Bool.or_eq_true, Bool.and_eq_true, decide_eq_true_eq, Bool.not_false, Bool.true_and]
  omega
end Go.Proofs.Qxb6601864a.name

