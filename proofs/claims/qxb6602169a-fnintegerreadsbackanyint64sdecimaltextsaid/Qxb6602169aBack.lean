import Derived.Test.Qxb6602169aDecimal
namespace Go.Proofs.Qxb6602169a.take
open Go.ChangeShapes Go.WideShapes Go.ChangeAt Go.RowKit
set_option linter.unusedVariables false

theorem bytes12_any (n : Int) (a b : ByteArray) (w : World) (ha : a.size ≤ maxLen) (hb : b.size ≤ maxLen) :
    Calls Try.prog 12 #[.int .i64 n, .string a, .string b] w fun e w' => SomeBool e ∧ w' = w := by
  unfold maxLen at ha hb
  by_cases h1 : 1048576 < a.size
  · go_enter Try.func12, Try.ntmps12
    go_wp2
    go_ret
    exact ⟨⟨_, rfl⟩, rfl⟩
  · by_cases h2 : 1048576 < b.size
    · go_enter Try.func12, Try.ntmps12
      go_wp2
      go_ret
      exact ⟨⟨_, rfl⟩, rfl⟩
    · by_cases h3 : 1048576 < a.size + b.size
      · go_enter Try.func12, Try.ntmps12
        go_wp2
        go_ret
        exact ⟨⟨_, rfl⟩, rfl⟩
      · go_enter Try.func12, Try.ntmps12
        go_wp2
        go_ret
        exact ⟨⟨_, rfl⟩, rfl⟩

theorem joined_at (p s t : ByteArray) (j : Nat) (h : j < s.size) : ∃ h2 : p.size + j < (p ++ s ++ t).size, (p ++ s ++ t)[p.size + j] = s[j] := by
  have h2 : p.size + j < (p ++ s ++ t).size := by rw [ByteArray.size_append, ByteArray.size_append]; omega
  refine ⟨h2, ?_⟩
  rw [ByteArray.getElem_append_left (by rw [ByteArray.size_append]; omega), ByteArray.getElem_append_right (by omega)]
  simp only [show p.size + j - p.size = j from by omega]
theorem joined_tail (p s t : ByteArray) (h : 0 < t.size) : ∃ h2 : p.size + s.size < (p ++ s ++ t).size, (p ++ s ++ t)[p.size + s.size] = t[0] := by
  have h2 : p.size + s.size < (p ++ s ++ t).size := by rw [ByteArray.size_append, ByteArray.size_append]; omega
  refine ⟨h2, ?_⟩
  rw [ByteArray.getElem_append_right (by rw [ByteArray.size_append]; omega)]
  simp only [ByteArray.size_append, Nat.sub_self]
theorem joined_cut (p s t : ByteArray) : (p ++ s ++ t).extract p.size (p.size + s.size) = s := by
  refine bytes_inj ?_
  rw [ByteArray.data_extract, ByteArray.data_append, ByteArray.data_append]
  show ((p.data ++ s.data ++ t.data).extract p.data.size (p.data.size + s.data.size)).toList = s.data.toList
  rw [Array.toList_extract, List.extract_eq_take_drop]
  simp only [Array.toList_append, List.append_assoc]
  rw [← Array.length_toList, List.drop_left, Nat.add_sub_cancel_left, ← Array.length_toList, List.take_left]

/-- what ZZInteger answers at a decimal text between a prefix and a tail that does not go on with a digit -/
theorem zzInt_back (p s t : ByteArray) (w : World) (hp : p.size ≤ 65536) (ht : t.size ≤ 65536) (hs : Dec s) (hno : t.size = 0 ∨ ∃ h : 0 < t.size, (t[0].toNat : Int) < 48 ∨ 57 < (t[0].toNat : Int)) :
    Calls Try.prog 9 #[.string (p ++ s ++ t), .int .i64 p.size] w fun e' w' => e' = .returned (.tuple #[.string s, .bool true, .int .i64 (p.size + s.size)]) ∧ Below w.heap.size w w' := by
  obtain ⟨sg, h1, h2, h3, h4, h5, h6⟩ := hs
  have hsz : (p ++ s ++ t).size = p.size + s.size + t.size := by rw [ByteArray.size_append, ByteArray.size_append]
  obtain ⟨g0, g1⟩ := joined_at p s t 0 (by omega)
  have hsign : ((((p ++ s ++ t)[p.size]'(by omega)).toNat : Int) == 45) = true ∧ p.size + sg = p.size + 1 ∨ ((((p ++ s ++ t)[p.size]'(by omega)).toNat : Int) == 45) = false ∧ p.size + sg = p.size := by
    have e0 : (p ++ s ++ t)[p.size]'(by omega) = s[0] := g1
    rcases (show sg = 0 ∨ sg = 1 from by omega) with rfl | rfl
    · right
      refine ⟨?_, rfl⟩
      rw [e0]
      have := h5 0 (by omega) (by omega)
      exact beq_eq_false_iff_ne.2 (by omega)
    · left
      refine ⟨?_, rfl⟩
      rw [e0]
      exact (h4 rfl).2
  have hrun : Run (p ++ s ++ t) (p.size + sg) (p.size + s.size) := by
    refine ⟨by omega, by omega, fun j k1 k2 => ?_, ?_⟩
    · obtain ⟨q1, q2⟩ := joined_at p s t (j - p.size) (by omega)
      have hj : p.size + (j - p.size) = j := by omega
      simp only [hj] at q1 q2
      refine ⟨q1, ?_⟩
      rw [q2]
      exact h5 (j - p.size) (by omega) (by omega)
    · rcases hno with h | ⟨h, h'⟩
      · left; omega
      · right
        obtain ⟨q1, q2⟩ := joined_tail p s t h
        refine ⟨q1, ?_⟩
        rw [q2]
        exact h'
  have hc := joined_cut p s t
  have H := zzInt_in (p ++ s ++ t) p.size (p.size + sg) (p.size + s.size) w (by unfold maxLen; omega) (by omega) hsign hrun ((p ++ s ++ t).extract p.size (p.size + s.size), true) (by
    right
    obtain ⟨q1, q2⟩ := joined_at p s t sg h2
    refine ⟨q1, by omega, ?_⟩
    rw [q2]
    rcases h6 with ⟨_, h6⟩ | h6
    · right; right; exact ⟨h6, rfl⟩
    · cases hb : ((s[sg].toNat : Int) == 48)
      · right; right; exact ⟨rfl, rfl⟩
      · right; left; exact ⟨rfl, by omega, rfl⟩)
  rw [hc] at H
  refine H.mono ?_
  rintro e w' ⟨rfl, hb⟩
  exact ⟨rfl, hb⟩

set_option maxHeartbeats 1000000 in
theorem back_in (n : Int) (p t : ByteArray) (w : World) (h1 : -9223372036854775808 ≤ n) (h2 : n ≤ 9223372036854775807) (hp : p.size ≤ 65536) (ht : t.size ≤ 65536) (hno : t.size = 0 ∨ ∃ h : 0 < t.size, (t[0].toNat : Int) < 48 ∨ 57 < (t[0].toNat : Int)) :
    Calls Try.prog 4 #[.int .i64 n, .string p, .string t] w fun e w' => e = .returned (.bool true) ∧ Below w.heap.size w w' := by
  go_enter Try.func4, Try.ntmps4
  go_wp2_with fail
  refine (bytes12_any n p t w (by unfold maxLen; omega) (by unfold maxLen; omega)).mono ?_
  rintro e' w1 ⟨⟨rb, rfl⟩, hw⟩
  rw [hw]; clear hw
  cases rb
  · go_wp2_with fail
    go_ret
    exact ⟨rfl, Below.refl _ _⟩
  have Hno : Hid (t.size = 0 ∨ ∃ h : 0 < t.size, (t[0].toNat : Int) < 48 ∨ 57 < (t[0].toNat : Int)) := hno
  rcases hno with h0 | ⟨h0, hd⟩
  · have h0i : ¬ (0 : Int) < (t.size : Int) := by omega
    clear h0
    go_wp2_with fail
    refine (decimal_any n w h1 h2).mono ?_
    rintro e' w2 ⟨⟨s, rfl, hs⟩, hb2⟩
    have hs20 : s.size ≤ 20 := by obtain ⟨_, _, _, h, _⟩ := hs; exact h
    go_wp2_with fail
    refine (zzInt_back p s t w2 hp ht hs Hno.out).mono ?_
    rintro e' w3 ⟨rfl, hb3⟩
    go_wp2_with fail
    go_ret
    exact ⟨by simp, hb2.trans (hb3.mono hb2.size)⟩
  · have h0i : (0 : Int) < (t.size : Int) := by omega
    go_wp2_with fail
    refine (dig_no _ _ hd).mono ?_
    rintro e' w' ⟨rfl, hw'⟩
    rw [hw']; clear hw'
    go_wp2_with fail
    refine (decimal_any n w h1 h2).mono ?_
    rintro e' w2 ⟨⟨s, rfl, hs⟩, hb2⟩
    have hs20 : s.size ≤ 20 := by obtain ⟨_, _, _, h, _⟩ := hs; exact h
    go_wp2_with fail
    refine (zzInt_back p s t w2 hp ht hs Hno.out).mono ?_
    rintro e' w3 ⟨rfl, hb3⟩
    go_wp2_with fail
    go_ret
    exact ⟨by simp, hb2.trans (hb3.mono hb2.size)⟩

theorem back_digit (n : Int) (p t : ByteArray) (w : World) (hp : p.size ≤ 65536) (ht : t.size ≤ 65536) (h0 : 0 < t.size) (hd : 48 ≤ (t[0].toNat : Int)) (hd2 : (t[0].toNat : Int) ≤ 57) :
    Calls Try.prog 4 #[.int .i64 n, .string p, .string t] w fun e w' => e = .returned (.bool true) ∧ Below w.heap.size w w' := by
  have h0i : (0 : Int) < (t.size : Int) := by omega
  go_enter Try.func4, Try.ntmps4
  go_wp2_with fail
  refine (bytes12_any n p t w (by unfold maxLen; omega) (by unfold maxLen; omega)).mono ?_
  rintro e' w1 ⟨⟨rb, rfl⟩, hw⟩
  rw [hw]; clear hw
  cases rb
  · go_wp2_with fail
    go_ret
    exact ⟨rfl, Below.refl _ _⟩
  go_wp2_with fail
  refine (dig_yes _ _ hd hd2).mono ?_
  rintro e' w' ⟨rfl, hw'⟩
  rw [hw']; clear hw'
  go_wp2_with fail
  go_ret
  exact ⟨rfl, Below.refl _ _⟩

theorem back_early (n : Int) (p t : ByteArray) (w : World) (hp : p.size ≤ maxLen) (ht : t.size ≤ maxLen) (h : 65536 < p.size ∨ 65536 < t.size) :
    Calls Try.prog 4 #[.int .i64 n, .string p, .string t] w fun e w' => e = .returned (.bool true) ∧ Below w.heap.size w w' := by
  have hp' := hp
  have ht' := ht
  unfold maxLen at hp' ht'
  go_enter Try.func4, Try.ntmps4
  go_wp2_with fail
  refine (bytes12_any n p t w hp ht).mono ?_
  rintro e' w1 ⟨⟨rb, rfl⟩, hw⟩
  rw [hw]; clear hw
  cases rb
  · go_wp2_with fail
    go_ret
    exact ⟨rfl, Below.refl _ _⟩
  by_cases h1 : 65536 < p.size
  · clear h
    go_wp2_with fail
    go_ret
    exact ⟨rfl, Below.refl _ _⟩
  · have h2 : 65536 < t.size := by omega
    clear h
    go_wp2_with fail
    go_ret
    exact ⟨rfl, Below.refl _ _⟩

theorem back_any (n : Int) (p t : ByteArray) (w : World) (h1 : -9223372036854775808 ≤ n) (h2 : n ≤ 9223372036854775807) (hp : p.size ≤ maxLen) (ht : t.size ≤ maxLen) :
    Calls Try.prog 4 #[.int .i64 n, .string p, .string t] w fun e w' => e = .returned (.bool true) ∧ Below w.heap.size w w' := by
  by_cases h : 65536 < p.size ∨ 65536 < t.size
  · exact back_early n p t w hp ht h
  · by_cases h0 : 0 < t.size
    · by_cases hd : 48 ≤ (t[0].toNat : Int) ∧ (t[0].toNat : Int) ≤ 57
      · exact back_digit n p t w (by omega) (by omega) h0 hd.1 hd.2
      · exact back_in n p t w h1 h2 (by omega) (by omega) (Or.inr ⟨h0, by omega⟩)
    · exact back_in n p t w h1 h2 (by omega) (by omega) (Or.inl (by omega))
end Go.Proofs.Qxb6602169a.take
