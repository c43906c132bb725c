import Derived.Test.Qxb6602169aJson
namespace Go.Proofs.Qxb6602169a.take
open Go.ChangeShapes Go.WideShapes Go.ChangeAt Go.RowKit
set_option linter.unusedVariables false

theorem bytes8_any (a : ByteArray) (k : Int) (w : World) (ha : a.size ≤ maxLen) :
    Calls Try.prog 8 #[.string a, .int .i64 k] w fun e w' => SomeBool e ∧ w' = w := by
  unfold maxLen at ha
  by_cases h1 : 1048576 < a.size
  · go_enter Try.func8, Try.ntmps8
    go_wp2
    go_ret
    exact ⟨⟨_, rfl⟩, rfl⟩
  · go_enter Try.func8, Try.ntmps8
    go_wp2
    go_ret
    exact ⟨⟨_, rfl⟩, rfl⟩

set_option maxHeartbeats 2000000 in
theorem consume_in (t : ByteArray) (o d e : Nat) (w : World) (ht : t.size ≤ 65536) (ho : o < t.size)
    (hd : (((t[o].toNat : Int) == 45) = true ∧ d = o + 1) ∨ (((t[o].toNat : Int) == 45) = false ∧ d = o)) (hr : Run t d e) (r : ByteArray × Bool) (b : Bool)
    (hres : (d = e ∧ r = (⟨#[]⟩, false)) ∨ (∃ h : d < t.size, d < e ∧ (((t[d].toNat : Int) == 48) = true ∧ d + 1 < e ∧ r = (⟨#[]⟩, false) ∨ ((t[d].toNat : Int) == 48) = true ∧ d + 1 = e ∧ r = (t.extract o e, true) ∨ ((t[d].toNat : Int) == 48) = false ∧ r = (t.extract o e, true))))
    (hjs : ∀ w : World, Calls Try.prog 11 #[.string (t.extract o e)] w fun e w' => e = .returned (.bool b) ∧ w' = w)
    (hbr : (b = true ∧ r = (t.extract o e, true)) ∨ (b = false ∧ r = (⟨#[]⟩, false))) :
    Calls Try.prog 3 #[.string t, .int .i64 o] w fun e w' => e = .returned (.bool true) ∧ Below w.heap.size w w' := by
  have hts : t.size ≤ maxLen := by unfold maxLen; omega
  have HZ : Hid (∀ w : World, Calls Try.prog 9 #[.string t, .int .i64 o] w fun e' w' => e' = .returned (.tuple #[.string r.1, .bool r.2, .int .i64 e]) ∧ Below w.heap.size w w') := fun w => zzInt_in t o d e w hts ho hd hr r hres
  have HJ : Hid (∀ w : World, Calls Try.prog 11 #[.string (t.extract o e)] w fun e w' => e = .returned (.bool b) ∧ w' = w) := hjs
  have hde := hr.le
  have hle := hr.le'
  have Hr : Hid (Run t d e) := hr
  clear hres hjs hr
  have hoi : (o : Int) < (t.size : Int) := by omega
  have hoi1 : decide ((t.size : Int) ≤ (o : Int)) = false := by simp; omega
  have hoi2 : decide (t.size ≤ o) = false := by simp; omega
  have hoe : o ≤ e := by rcases hd with ⟨_, h⟩ | ⟨_, h⟩ <;> omega
  have hoei : (o : Int) ≤ (e : Int) := by omega
  have hlei : (e : Int) ≤ (t.size : Int) := by omega
  go_enter Try.func3, Try.ntmps3
  go_wp2_with fail
  refine (bytes8_any t _ w hts).mono ?_
  rintro e' w1 ⟨⟨rb, rfl⟩, hw⟩
  rw [hw]; clear hw
  cases rb
  · go_wp2_with fail
    go_ret
    exact ⟨rfl, Below.refl _ _⟩
  go_wp2_with fail
  refine (HZ.out w).mono ?_
  rintro e' w2 ⟨rfl, hb2⟩
  clear HZ
  rcases hd with ⟨hc, hd1⟩ | ⟨hc, hd1⟩
  · have Hd : Hid (d = o + 1) := hd1
    clear hd1
    go_wp2_with fail
    go_loopw [8] (fun x wr => ∃ j : Nat, d ≤ j ∧ j ≤ e ∧ x = .int .i64 j ∧ Below w.heap.size w wr) (fun x _ => t.size - (intOf x).toNat)
    case atStart => exact ⟨d, Nat.le_refl _, hde, by first | (rw [Hd.out]; done) | (rw [Hd.out]; go_num), hb2⟩
    case round =>
      clear hb2
      obtain ⟨j, hj1, hj2, rfl, hb2⟩ := hrel
      by_cases hje : j < e
      · obtain ⟨hjt, g1, g2⟩ := Hr.out.dig j hj1 hje
        have hji : (j : Int) < (t.size : Int) := by omega
        go_wp2_with fail
        refine (dig_yes _ _ g1 g2).mono ?_
        rintro e' w' ⟨rfl, hw'⟩
        rw [hw']; clear hw'
        go_wp2_with fail
        go_roundw
        case rel => exact ⟨j + 1, by omega, by omega, by go_num, hb2⟩
        case measure => simp [intOf]; omega
      · have hcase : (e = t.size) ∨ (∃ h : e < t.size, (t[e].toNat : Int) < 48 ∨ 57 < (t[e].toNat : Int)) := Hr.out.stop
        have hje' : j = e := by omega
        subst hje'
        rcases hcase with hx | ⟨hjt, hx⟩
        · have hjn : ¬ (j : Int) < (t.size : Int) := by omega
          clear hx
          rcases hbr with ⟨rfl, rfl⟩ | ⟨rfl, rfl⟩
          all_goals
            go_wp2_with fail
            refine (HJ.out _).mono ?_
            rintro e' w' ⟨rfl, hw'⟩
            rw [hw']; clear hw'
            go_wp2_with fail
            go_ret
            exact ⟨by simp, hb2⟩
        · have hji : (j : Int) < (t.size : Int) := by omega
          rcases hbr with ⟨rfl, rfl⟩ | ⟨rfl, rfl⟩
          all_goals
            go_wp2_with fail
            refine (dig_no _ _ hx).mono ?_
            rintro e' w' ⟨rfl, hw'⟩
            rw [hw']; clear hw'
            go_wp2_with fail
            refine (HJ.out _).mono ?_
            rintro e' w' ⟨rfl, hw'⟩
            rw [hw']; clear hw'
            go_wp2_with fail
            go_ret
            exact ⟨by simp, hb2⟩
  · have Hd : Hid (d = o) := hd1
    clear hd1
    go_wp2_with fail
    go_loopw [8] (fun x wr => ∃ j : Nat, d ≤ j ∧ j ≤ e ∧ x = .int .i64 j ∧ Below w.heap.size w wr) (fun x _ => t.size - (intOf x).toNat)
    case atStart => exact ⟨d, Nat.le_refl _, hde, by first | (rw [Hd.out]; done) | (rw [Hd.out]; go_num), hb2⟩
    case round =>
      clear hb2
      obtain ⟨j, hj1, hj2, rfl, hb2⟩ := hrel
      by_cases hje : j < e
      · obtain ⟨hjt, g1, g2⟩ := Hr.out.dig j hj1 hje
        have hji : (j : Int) < (t.size : Int) := by omega
        go_wp2_with fail
        refine (dig_yes _ _ g1 g2).mono ?_
        rintro e' w' ⟨rfl, hw'⟩
        rw [hw']; clear hw'
        go_wp2_with fail
        go_roundw
        case rel => exact ⟨j + 1, by omega, by omega, by go_num, hb2⟩
        case measure => simp [intOf]; omega
      · have hcase : (e = t.size) ∨ (∃ h : e < t.size, (t[e].toNat : Int) < 48 ∨ 57 < (t[e].toNat : Int)) := Hr.out.stop
        have hje' : j = e := by omega
        subst hje'
        rcases hcase with hx | ⟨hjt, hx⟩
        · have hjn : ¬ (j : Int) < (t.size : Int) := by omega
          clear hx
          rcases hbr with ⟨rfl, rfl⟩ | ⟨rfl, rfl⟩
          all_goals
            go_wp2_with fail
            refine (HJ.out _).mono ?_
            rintro e' w' ⟨rfl, hw'⟩
            rw [hw']; clear hw'
            go_wp2_with fail
            go_ret
            exact ⟨by simp, hb2⟩
        · have hji : (j : Int) < (t.size : Int) := by omega
          rcases hbr with ⟨rfl, rfl⟩ | ⟨rfl, rfl⟩
          all_goals
            go_wp2_with fail
            refine (dig_no _ _ hx).mono ?_
            rintro e' w' ⟨rfl, hw'⟩
            rw [hw']; clear hw'
            go_wp2_with fail
            refine (HJ.out _).mono ?_
            rintro e' w' ⟨rfl, hw'⟩
            rw [hw']; clear hw'
            go_wp2_with fail
            go_ret
            exact ⟨by simp, hb2⟩

theorem consume_end (t : ByteArray) (o : Int) (w : World) (ht : t.size ≤ 65536) (ho : (t.size : Int) ≤ o) :
    Calls Try.prog 3 #[.string t, .int .i64 o] w fun e w' => e = .returned (.bool true) ∧ Below w.heap.size w w' := by
  have hts : t.size ≤ maxLen := by unfold maxLen; omega
  go_enter Try.func3, Try.ntmps3
  go_wp2_with fail
  refine (bytes8_any t _ w hts).mono ?_
  rintro e' w1 ⟨⟨rb, rfl⟩, hw⟩
  rw [hw]; clear hw
  cases rb
  · go_wp2_with fail
    go_ret
    exact ⟨rfl, Below.refl _ _⟩
  go_wp2_with fail
  refine (zzInt_end t o w hts ho).mono ?_
  rintro e' w2 ⟨rfl, hb2⟩
  go_wp2_with fail
  go_ret
  exact ⟨by simp, hb2⟩

theorem consume_early (t : ByteArray) (o : Int) (w : World) (ht : t.size ≤ maxLen) (h : 65536 < t.size ∨ o < 0) :
    Calls Try.prog 3 #[.string t, .int .i64 o] w fun e w' => e = .returned (.bool true) ∧ Below w.heap.size w w' := by
  have ht' := ht
  unfold maxLen at ht'
  go_enter Try.func3, Try.ntmps3
  go_wp2_with fail
  refine (bytes8_any t _ w ht).mono ?_
  rintro e' w1 ⟨⟨rb, rfl⟩, hw⟩
  rw [hw]; clear hw
  cases rb
  · go_wp2_with fail
    go_ret
    exact ⟨rfl, Below.refl _ _⟩
  by_cases h1 : 65536 < t.size
  · clear h
    go_wp2_with fail
    go_ret
    exact ⟨rfl, Below.refl _ _⟩
  · have h2 : o < 0 := by omega
    clear h
    go_wp2_with fail
    go_ret
    exact ⟨rfl, Below.refl _ _⟩

theorem consume_any (t : ByteArray) (o : Int) (w : World) (ht : t.size ≤ maxLen) :
    Calls Try.prog 3 #[.string t, .int .i64 o] w fun e w' => e = .returned (.bool true) ∧ Below w.heap.size w w' := by
  by_cases h : 65536 < t.size ∨ o < 0
  · exact consume_early t o w ht h
  · by_cases h2 : (t.size : Int) ≤ o
    · exact consume_end t o w (by omega) h2
    · obtain ⟨n, rfl⟩ := Int.eq_ofNat_of_zero_le (show 0 ≤ o by omega)
      have hn : n < t.size := by omega
      obtain ⟨d, hd⟩ : ∃ d, (((t[n].toNat : Int) == 45) = true ∧ d = n + 1) ∨ (((t[n].toNat : Int) == 45) = false ∧ d = n) := by
        cases hc : ((t[n].toNat : Int) == 45)
        · exact ⟨n, Or.inr ⟨rfl, rfl⟩⟩
        · exact ⟨n + 1, Or.inl ⟨rfl, rfl⟩⟩
      have hnd : n ≤ d := by rcases hd with ⟨_, h⟩ | ⟨_, h⟩ <;> omega
      obtain ⟨e, he⟩ := run_exists t _ d rfl (by rcases hd with ⟨_, h⟩ | ⟨_, h⟩ <;> omega)
      have hle := he.le
      have hle' := he.le'
      have hsz : (t.extract n e).size = e - n := by rw [ByteArray.size_extract, Nat.min_eq_left hle']
      have hsg := sign_of t n d e hn hd hle hle'
      have hat : ∀ j, (h : j < (t.extract n e).size) → ∃ h2 : n + j < t.size, (t.extract n e)[j] = t[n + j] := fun j h => ⟨by omega, ByteArray.getElem_extract h⟩
      by_cases hde : d = e
      · refine consume_in t n d e w (by omega) hn hd he (⟨#[]⟩, false) false (Or.inl ⟨hde, rfl⟩) (fun w => json_any _ (d - n) false w (by omega) hsg (Or.inl ⟨by omega, rfl⟩)) (Or.inr ⟨rfl, rfl⟩)
      · have hdt : d < t.size := by omega
        have hix : d - n < (t.extract n e).size := by omega
        have hel : ((t.extract n e)[d - n].toNat : Int) = (t[d].toNat : Int) := by
          obtain ⟨_, h4⟩ := hat (d - n) hix
          rw [h4]
          simp only [show n + (d - n) = d from by omega]
        cases hc : ((t[d].toNat : Int) == 48)
        · refine consume_in t n d e w (by omega) hn hd he (t.extract n e, true) true (Or.inr ⟨hdt, by omega, Or.inr (Or.inr ⟨hc, rfl⟩)⟩) (fun w => json_any _ (d - n) true w (by omega) hsg (Or.inr (Or.inr (Or.inr ⟨hix, by rw [hel]; exact hc, rfl, fun j h1 h2 => ?_⟩)))) (Or.inl ⟨rfl, rfl⟩)
          obtain ⟨h3, h4⟩ := hat j h2
          rw [h4]
          obtain ⟨_, g⟩ := he.dig (n + j) (by omega) (by omega)
          exact g
        · by_cases h1 : d + 1 < e
          · refine consume_in t n d e w (by omega) hn hd he (⟨#[]⟩, false) false (Or.inr ⟨hdt, by omega, Or.inl ⟨hc, h1, rfl⟩⟩) (fun w => json_any _ (d - n) false w (by omega) hsg (Or.inr (Or.inr (Or.inl ⟨hix, by rw [hel]; exact hc, by omega, rfl⟩)))) (Or.inr ⟨rfl, rfl⟩)
          · refine consume_in t n d e w (by omega) hn hd he (t.extract n e, true) true (Or.inr ⟨hdt, by omega, Or.inr (Or.inl ⟨hc, by omega, rfl⟩)⟩) (fun w => json_any _ (d - n) true w (by omega) hsg (Or.inr (Or.inl ⟨hix, by rw [hel]; exact hc, by omega, rfl⟩))) (Or.inl ⟨rfl, rfl⟩)
end Go.Proofs.Qxb6602169a.take
