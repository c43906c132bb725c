import Derived.Test.Qxb6602169aTake
namespace Go.Proofs.Qxb6602169a.take
open Go.ChangeShapes Go.WideShapes Go.ChangeAt Go.RowKit
set_option linter.unusedVariables false

theorem wrap_in (a : Int) (m : Nat) (h : a = m) (hm : m ≤ 1000000000) : IntKind.i64.wrap a = (m : Int) := by
  rw [IntWalk.i64_in _ ⟨by omega, by omega⟩]; exact h

set_option maxHeartbeats 2000000 in
theorem script_in (t s : ByteArray) (o : Nat) (w : World) (ht : t.size ≤ 65536) (hs : s.size ≤ 65536) (ho : o ≤ t.size) :
    Calls Try.prog 5 #[.string t, .int .i64 o, .string s] w fun e w' => e = .returned (.bool true) ∧ Below w.heap.size w w' := by
  have hts : t.size ≤ maxLen := by unfold maxLen; omega
  go_enter Try.func5, Try.ntmps5
  go_wp2_with (go_at_call 14; refine (bytes_any _ _ _ _ ht hs).mono ?_; rintro e w' ⟨rfl, rfl⟩)
  go_loopw [7] (fun c wr => ∃ k : Nat, k ≤ s.size ∧ o + k ≤ t.size ∧ c = .int .i64 k ∧ Below w'.heap.size w' wr ∧ (∀ j, (h : j < k) → ∃ h1 : o + j < t.size, ∃ h2 : j < s.size, ((t[o + j].toNat : Int) == (s[j].toNat : Int)) = true)) (fun c _ => s.size - (intOf c).toNat)
  case atStart => exact ⟨0, by omega, by omega, rfl, Below.refl _ _, fun j h => absurd h (by omega)⟩
  case round =>
    obtain ⟨k, hk, hok, rfl, hb, hag⟩ := hrel
    have HA : Hid (∀ j, (h : j < k) → ∃ h1 : o + j < t.size, ∃ h2 : j < s.size, ((t[o + j].toNat : Int) == (s[j].toNat : Int)) = true) := hag
    clear hag
    obtain ⟨m, hm⟩ : ∃ m, m = o + k := ⟨_, rfl⟩
    have hmw := wrap_in ((o : Int) + (k : Int)) m (by omega) (by omega)
    have HM : Hid (m = o + k) := hm
    by_cases hc : ∃ h1 : m < t.size, ∃ h2 : k < s.size, ((t[m].toNat : Int) == (s[k].toNat : Int)) = true
    · obtain ⟨h1, h2, h3⟩ := hc
      have hl : (m : Int) < (t.size : Int) := by omega
      have hl2 : (k : Int) < (s.size : Int) := by omega
      clear hm
      go_wp2_with fail
      go_quiet (fail)
      go_wp2_with fail
      go_roundw
      case rel =>
        refine ⟨k + 1, by omega, by have := HM.out; omega, by go_num, below_drewN hb _, fun j hj => ?_⟩
        by_cases e : j = k
        · subst e; have := HM.out; subst this; exact ⟨h1, h2, h3⟩
        · exact HA.out j (by omega)
      case measure => simp [intOf]; omega
    · have HS : Hid ((h : k < s.size) → t.size ≤ m ∨ ∃ h1 : m < t.size, ((t[m].toNat : Int) == (s[k].toNat : Int)) = false) := by
        intro h
        by_cases h1 : m < t.size
        · exact Or.inr ⟨h1, by simpa [h1, h] using hc⟩
        · exact Or.inl (by omega)
      have hcase : (¬ k < s.size) ∨ (k < s.size ∧ ¬ m < t.size) ∨ (∃ h1 : m < t.size, ∃ h2 : k < s.size, ((t[m].toNat : Int) == (s[k].toNat : Int)) = false) := by
        by_cases h : k < s.size
        · rcases HS.out h with h1 | ⟨h1, h2⟩
          · exact Or.inr (Or.inl ⟨h, by omega⟩)
          · exact Or.inr (Or.inr ⟨h1, h, h2⟩)
        · exact Or.inl h
      clear hc hm
      have hmle : m ≤ t.size := by have := HM.out; omega
      have hmo : o ≤ m := by have := HM.out; omega
      rcases hcase with h2 | ⟨h2, h1⟩ | ⟨h1, h2, h3⟩
      · have hl2 : decide ((k : Int) < (s.size : Int)) = false := by simp; omega
        go_wp2_with fail
        go_quiet (fail)
        go_wp2_with fail
        go_loopw [8, 9] (fun cu i wr => ∃ c j : Nat, j ≤ k ∧ c = o + j ∧ cu = .int .i64 c ∧ i = .int .i64 j ∧ Below w'.heap.size w' wr) (fun _ i _ => s.size - (intOf i).toNat)
        case atStart => exact ⟨o, 0, by omega, by omega, rfl, rfl, below_drewN hb _⟩
        case round =>
          rename_i wr2
          obtain ⟨c, j, hjk, hcj, rfl, rfl, hb2⟩ := hrel
          have HC : Hid (c = o + j) := hcj
          have hcle : c ≤ 65536 := by omega
          clear hcj
          by_cases hj : j < k
          · obtain ⟨g1, g2, g3⟩ : ∃ h1 : c < t.size, ∃ h2 : j < s.size, ((t[c].toNat : Int) == (s[j].toNat : Int)) = true := by
              have := HC.out; subst this; exact HA.out j hj
            have gl : (j : Int) < (s.size : Int) := by omega
            go_wp2_with fail
            refine (zz_hit t c _ _ hts g1 g3).mono ?_
            rintro e w2 ⟨rfl, hb3⟩
            go_wp2_with fail
            go_roundw
            case rel => exact ⟨c + 1, j + 1, by omega, by have := HC.out; omega, by go_num, by go_num, hb2.trans (hb3.mono hb2.size)⟩
            case measure => simp [intOf]; omega
          · have hjk' : j = k := by omega
            subst hjk'
            have HE : Hid (c = m) := by have h1 := HC.out; have h2 := HM.out; show c = m; omega
            by_cases hend : j < s.size
            · have gl : (j : Int) < (s.size : Int) := by omega
              rcases HS.out hend with g1 | ⟨g1, g3⟩
              · go_wp2_with fail
                refine (zz_end t c _ _ hts (by have := HE.out; omega)).mono ?_
                rintro e w2 ⟨rfl, hb3⟩
                go_wp2_with fail
                go_ret
                exact ⟨by have h1 := HC.out; have h2 := HM.out; simp; omega, hb2.trans (hb3.mono hb2.size)⟩
              · obtain ⟨g1', g3'⟩ : ∃ h1 : c < t.size, ((t[c].toNat : Int) == (s[j].toNat : Int)) = false := by
                  have := HE.out; subst this; exact ⟨g1, g3⟩
                clear g1 g3
                go_wp2_with fail
                refine (zz_miss t c _ _ hts g1' g3').mono ?_
                rintro e w2 ⟨rfl, hb3⟩
                go_wp2_with fail
                go_ret
                exact ⟨by have h1 := HC.out; have h2 := HM.out; simp; omega, hb2.trans (hb3.mono hb2.size)⟩
            · go_wp2_with fail
              go_ret
              exact ⟨by have h1 := HC.out; have h2 := HM.out; simp; omega, hb2⟩
      · have hl2 : (k : Int) < (s.size : Int) := by omega
        have hl : decide ((m : Int) < (t.size : Int)) = false := by simp; omega
        go_wp2_with fail
        go_quiet (fail)
        go_wp2_with fail
        go_loopw [8, 9] (fun cu i wr => ∃ c j : Nat, j ≤ k ∧ c = o + j ∧ cu = .int .i64 c ∧ i = .int .i64 j ∧ Below w'.heap.size w' wr) (fun _ i _ => s.size - (intOf i).toNat)
        case atStart => exact ⟨o, 0, by omega, by omega, rfl, rfl, below_drewN hb _⟩
        case round =>
          rename_i wr2
          obtain ⟨c, j, hjk, hcj, rfl, rfl, hb2⟩ := hrel
          have HC : Hid (c = o + j) := hcj
          have hcle : c ≤ 65536 := by omega
          clear hcj
          by_cases hj : j < k
          · obtain ⟨g1, g2, g3⟩ : ∃ h1 : c < t.size, ∃ h2 : j < s.size, ((t[c].toNat : Int) == (s[j].toNat : Int)) = true := by
              have := HC.out; subst this; exact HA.out j hj
            have gl : (j : Int) < (s.size : Int) := by omega
            go_wp2_with fail
            refine (zz_hit t c _ _ hts g1 g3).mono ?_
            rintro e w2 ⟨rfl, hb3⟩
            go_wp2_with fail
            go_roundw
            case rel => exact ⟨c + 1, j + 1, by omega, by have := HC.out; omega, by go_num, by go_num, hb2.trans (hb3.mono hb2.size)⟩
            case measure => simp [intOf]; omega
          · have hjk' : j = k := by omega
            subst hjk'
            have HE : Hid (c = m) := by have h1 := HC.out; have h2 := HM.out; show c = m; omega
            by_cases hend : j < s.size
            · have gl : (j : Int) < (s.size : Int) := by omega
              rcases HS.out hend with g1 | ⟨g1, g3⟩
              · go_wp2_with fail
                refine (zz_end t c _ _ hts (by have := HE.out; omega)).mono ?_
                rintro e w2 ⟨rfl, hb3⟩
                go_wp2_with fail
                go_ret
                exact ⟨by have h1 := HC.out; have h2 := HM.out; simp; omega, hb2.trans (hb3.mono hb2.size)⟩
              · obtain ⟨g1', g3'⟩ : ∃ h1 : c < t.size, ((t[c].toNat : Int) == (s[j].toNat : Int)) = false := by
                  have := HE.out; subst this; exact ⟨g1, g3⟩
                clear g1 g3
                go_wp2_with fail
                refine (zz_miss t c _ _ hts g1' g3').mono ?_
                rintro e w2 ⟨rfl, hb3⟩
                go_wp2_with fail
                go_ret
                exact ⟨by have h1 := HC.out; have h2 := HM.out; simp; omega, hb2.trans (hb3.mono hb2.size)⟩
            · exact absurd h2 hend
      · have hl2 : (k : Int) < (s.size : Int) := by omega
        have hl : (m : Int) < (t.size : Int) := by omega
        go_wp2_with fail
        go_quiet (fail)
        go_wp2_with fail
        go_loopw [8, 9] (fun cu i wr => ∃ c j : Nat, j ≤ k ∧ c = o + j ∧ cu = .int .i64 c ∧ i = .int .i64 j ∧ Below w'.heap.size w' wr) (fun _ i _ => s.size - (intOf i).toNat)
        case atStart => exact ⟨o, 0, by omega, by omega, rfl, rfl, below_drewN hb _⟩
        case round =>
          rename_i wr2
          obtain ⟨c, j, hjk, hcj, rfl, rfl, hb2⟩ := hrel
          have HC : Hid (c = o + j) := hcj
          have hcle : c ≤ 65536 := by omega
          clear hcj
          by_cases hj : j < k
          · obtain ⟨g1, g2, g3⟩ : ∃ h1 : c < t.size, ∃ h2 : j < s.size, ((t[c].toNat : Int) == (s[j].toNat : Int)) = true := by
              have := HC.out; subst this; exact HA.out j hj
            have gl : (j : Int) < (s.size : Int) := by omega
            go_wp2_with fail
            refine (zz_hit t c _ _ hts g1 g3).mono ?_
            rintro e w2 ⟨rfl, hb3⟩
            go_wp2_with fail
            go_roundw
            case rel => exact ⟨c + 1, j + 1, by omega, by have := HC.out; omega, by go_num, by go_num, hb2.trans (hb3.mono hb2.size)⟩
            case measure => simp [intOf]; omega
          · have hjk' : j = k := by omega
            subst hjk'
            have HE : Hid (c = m) := by have h1 := HC.out; have h2 := HM.out; show c = m; omega
            by_cases hend : j < s.size
            · have gl : (j : Int) < (s.size : Int) := by omega
              rcases HS.out hend with g1 | ⟨g1, g3⟩
              · go_wp2_with fail
                refine (zz_end t c _ _ hts (by have := HE.out; omega)).mono ?_
                rintro e w2 ⟨rfl, hb3⟩
                go_wp2_with fail
                go_ret
                exact ⟨by have h1 := HC.out; have h2 := HM.out; simp; omega, hb2.trans (hb3.mono hb2.size)⟩
              · obtain ⟨g1', g3'⟩ : ∃ h1 : c < t.size, ((t[c].toNat : Int) == (s[j].toNat : Int)) = false := by
                  have := HE.out; subst this; exact ⟨g1, g3⟩
                clear g1 g3
                go_wp2_with fail
                refine (zz_miss t c _ _ hts g1' g3').mono ?_
                rintro e w2 ⟨rfl, hb3⟩
                go_wp2_with fail
                go_ret
                exact ⟨by have h1 := HC.out; have h2 := HM.out; simp; omega, hb2.trans (hb3.mono hb2.size)⟩
            · exact absurd h2 hend

set_option maxHeartbeats 1000000 in
theorem script_out (t s : ByteArray) (o : Int) (w : World) (ht : t.size ≤ 65536) (hs : s.size ≤ 65536) (ho : (t.size : Int) < o) (hm : o ≤ 9223372036854775807) :
    Calls Try.prog 5 #[.string t, .int .i64 o, .string s] w fun e w' => e = .returned (.bool true) ∧ Below w.heap.size w w' := by
  have hts : t.size ≤ maxLen := by unfold maxLen; omega
  go_enter Try.func5, Try.ntmps5
  go_wp2_with (go_at_call 14; refine (bytes_any _ _ _ _ ht hs).mono ?_; rintro e w' ⟨rfl, rfl⟩)
  go_loopw [8, 9] (fun cu i wr => cu = .int .i64 o ∧ i = .int .i64 0 ∧ Below w'.heap.size w' wr) (fun _ i _ => s.size - (intOf i).toNat)
  case atStart => exact ⟨rfl, rfl, Below.refl _ _⟩
  case round =>
    obtain ⟨rfl, rfl, hb⟩ := hrel
    by_cases h0 : 0 < s.size
    · have gl : (0 : Int) < (s.size : Int) := by omega
      go_wp2_with fail
      refine (zz_end t o _ _ hts (by omega)).mono ?_
      rintro e w2 ⟨rfl, hb3⟩
      go_wp2_with fail
      go_ret
      exact ⟨by simp, hb.trans (hb3.mono hb.size)⟩
    · have gl : (s.size : Int) = 0 := by omega
      go_wp2_with fail
      go_ret
      exact ⟨by simp, hb⟩

theorem bytes_ex (a b : ByteArray) (k : Int) (w : World) (ha : a.size ≤ maxLen) (hb : b.size ≤ maxLen) :
    Calls Try.prog 14 #[.string a, .int .i64 k, .string b] w fun e w' => ∃ r, e = .returned (.bool r) ∧ w' = w := by
  unfold maxLen at ha hb
  by_cases h1 : 1048576 < a.size
  · go_enter Try.func14, Try.ntmps14
    go_wp2
    go_ret
    exact ⟨_, rfl, rfl⟩
  · by_cases h2 : 1048576 < b.size
    · go_enter Try.func14, Try.ntmps14
      go_wp2
      go_ret
      exact ⟨_, rfl, rfl⟩
    · by_cases h3 : 1048576 < a.size + b.size
      · go_enter Try.func14, Try.ntmps14
        go_wp2
        go_ret
        exact ⟨_, rfl, rfl⟩
      · go_enter Try.func14, Try.ntmps14
        go_wp2
        go_ret
        exact ⟨_, rfl, rfl⟩

theorem script_early (t s : ByteArray) (o : Int) (w : World) (ht : t.size ≤ maxLen) (hs : s.size ≤ maxLen) (h : 65536 < t.size ∨ 65536 < s.size ∨ o < 0) :
    Calls Try.prog 5 #[.string t, .int .i64 o, .string s] w fun e w' => e = .returned (.bool true) ∧ w' = w := by
  have ht' := ht
  have hs' := hs
  unfold maxLen at ht' hs'
  go_enter Try.func5, Try.ntmps5
  go_wp2_with fail
  refine (bytes_ex _ _ _ _ ht hs).mono ?_
  rintro e w' ⟨r, rfl, rfl⟩
  cases r
  · go_wp2
    go_ret
    exact ⟨rfl, rfl⟩
  · by_cases h1 : 65536 < t.size
    · clear h
      go_wp2
      go_ret
      exact ⟨rfl, rfl⟩
    · by_cases h2 : 65536 < s.size
      · clear h
        go_wp2
        go_ret
        exact ⟨rfl, rfl⟩
      · have h3 : o < 0 := by omega
        clear h
        go_wp2
        go_ret
        exact ⟨rfl, rfl⟩

theorem script_any (t s : ByteArray) (o : Int) (w : World) (ht : t.size ≤ maxLen) (hs : s.size ≤ maxLen) (hm : o ≤ 9223372036854775807) :
    Calls Try.prog 5 #[.string t, .int .i64 o, .string s] w fun e w' => e = .returned (.bool true) ∧ Below w.heap.size w w' := by
  by_cases h : 65536 < t.size ∨ 65536 < s.size ∨ o < 0
  · exact (script_early t s o w ht hs h).mono fun e w' h => ⟨h.1, by rw [h.2]; exact Below.refl _ _⟩
  · by_cases h2 : (t.size : Int) < o
    · exact script_out t s o w (by omega) (by omega) h2 hm
    · obtain ⟨n, rfl⟩ := Int.eq_ofNat_of_zero_le (show 0 ≤ o by omega)
      exact script_in t s n w (by omega) (by omega) (by omega)
end Go.Proofs.Qxb6602169a.take
