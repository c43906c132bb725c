import Derived.Test.Qxb6601864aKeys
namespace Go.Proofs.Qxb6601864a.bd
open Go.ChangeShapes Go.WideShapes Go.ChangeAt Go.RowKit Go.Maps
set_option linter.unusedVariables false

/-- the first place at which k stands; the length where it stands nowhere -/
def firstIdx (l : List ByteArray) (k : ByteArray) : Nat := l.findIdx (fun x => decide (x = k))

theorem s_true {x k : ByteArray} (h : x = k) : (x.toList == k.toList) = true := by rw [h]; simp
theorem s_false {x k : ByteArray} (h : ¬ x = k) : (x.toList == k.toList) = false := by
  rw [beq_eq_false_iff_ne]
  intro e
  rw [ByteArray.toList_eq, ByteArray.toList_eq] at e
  exact h (bytes_inj e)

theorem zzUnbind_any {Own : Nat → Prop} {w : World} {B bm N : Nat} {D : DataW Unit} {hs : List Hd} (h : Bd Own w B bm N D hs) (hO : ∀ k, w.heap.size ≤ k → Own k) (m : Nat) (hm : hs.length ≤ 1000000) (hN : N ≤ 1000000) (hf : Fine hs) :
    Calls Try.prog 17 #[.pointer (some ⟨B, 0, none⟩), .int .i64 m] w fun e w' => e = .returned (.tuple #[]) ∧ (∃ N', N' ≤ N + hs.length ∧ Bd Own w' B bm N' (undoAll (hs.drop m) D) (hs.take m)) ∧ Touch Own w w' := by
  go_enter Try.func17, Try.ntmps17
  go_wp2_with fail
  refine (unbind_any h hO m hm hN hf).mono ?_
  rintro e w' ⟨rfl, hx, ht⟩
  go_wp2_with fail
  go_end0
  exact ⟨rfl, hx, ht⟩

set_option maxHeartbeats 1000000 in
theorem first_any {w : World} {base n : Nat} {v : Value} {l : List ByteArray} (h : w.ownsRow base 9 1 v n (strsOf l)) (k : ByteArray) (hn : n ≤ 1000000) :
    Calls Try.prog 23 #[v, .string k] w fun e w' => e = .returned (.int .i64 (firstIdx l k)) ∧ w' = w := by
  have hl : l.length = n := by have := h.1; simpa [strsOf] using this
  obtain ⟨a, cap, rfl⟩ := ownsRow_form h
  go_enter Try.func23, Try.ntmps23
  go_wp2_with fail
  go_loop [5] (fun i => ∃ j : Nat, j ≤ n ∧ i = .int .i64 j ∧ ∀ t, (ht : t < j) → ∃ h2 : t < l.length, ¬ l[t] = k) (fun i => n - (intOf i).toNat)
  case atStart => exact ⟨0, Nat.zero_le _, rfl, fun t ht => absurd ht (by omega)⟩
  case round =>
    obtain ⟨j, hj, rfl, hno⟩ := hrel
    have Hl : Hid (l.length = n) := hl
    clear hl
    have Hno : Hid (∀ t, (ht : t < j) → ∃ h2 : t < l.length, ¬ l[t] = k) := hno
    clear hno
    by_cases hlt : j < n
    · have hl := Hl.out
      obtain ⟨g, cap', hv, _, hg⟩ := h.form (by omega)
      obtain ⟨rfl, rfl⟩ : a = some ⟨g, 0, none⟩ ∧ cap = cap' := by simpa using hv
      have e0 := h.cellAt j (by omega)
      have e1 : (strsOf l)[j]? = some (.string l[j]) := by simp [strsOf, List.getElem?_eq_getElem (show j < l.length by omega)]
      rw [e1] at e0
      have hji : (j : Int) < (n : Int) := by omega
      clear e1 h hv
      obtain ⟨x, hx⟩ : ∃ x, x = l[j] := ⟨_, rfl⟩
      rw [← hx] at e0
      have Hx : Hid (l[j]? = some x) := by show _ = _; rw [hx, List.getElem?_eq_getElem (show j < l.length by omega)]
      clear hx hl
      by_cases hc : x = k
      rotate_left
      · have hc' := s_false hc
        have Hc : Hid (¬ x = k) := hc
        clear hc
        go_wp2_with fail
        go_round
        case rel =>
          have hl := Hl.out
          refine ⟨j + 1, by omega, by go_num, fun t ht => ?_⟩
          by_cases e : t = j
          · subst e
            have := Hx.out
            rw [List.getElem?_eq_getElem (show t < l.length by omega)] at this
            cases this
            exact ⟨by omega, Hc.out⟩
          · exact Hno.out t (by omega)
        case measure => simp [intOf]; omega
      · have hc' := s_true hc
        have Hc : Hid (x = k) := hc
        clear hc
        go_wp2_with fail
        go_ret
        have hl := Hl.out
        have hf : firstIdx l k = j := by
          unfold firstIdx
          rw [List.findIdx_eq (show j < l.length by omega)]
          have := Hx.out
          rw [List.getElem?_eq_getElem (show j < l.length by omega)] at this
          cases this
          exact ⟨by simpa using Hc.out, fun t ht => by simpa using (Hno.out t ht).2⟩
        exact ⟨by rw [hf]; rfl, rfl⟩
    · go_wp2_with fail
      go_ret
      have hl := Hl.out
      have hf : firstIdx l k = n := by
        unfold firstIdx
        rw [← hl, List.findIdx_eq_length]
        intro x hx
        obtain ⟨t, ht, rfl⟩ := List.getElem_of_mem hx
        have := (Hno.out t (by omega)).2
        simpa using this
      exact ⟨by rw [hf]; rfl, rfl⟩

/-- what the pairs leave at k: the last pair of that key -/
def lastOf (ps : List (ByteArray × ByteArray)) (k : ByteArray) : ByteArray × Bool :=
  match ps.reverse.find? (fun q => decide (q.1 = k)) with | some q => (q.2, true) | none => (⟨#[]⟩, false)
/-- what stands at k when the entries l are undone: the first of them that names k, else what the pairs left -/
def expOf (ps : List (ByteArray × ByteArray)) (l : List Hd) (k : ByteArray) : ByteArray × Bool :=
  match l.find? (fun h => decide (h.p = k)) with | some h => (h.s, h.b) | none => lastOf ps k

theorem expOf_hit {ps : List (ByteArray × ByteArray)} {hs : List Hd} {k : ByteArray} {m j : Nat} {h : Hd} (hm : m ≤ j) (hj : hs[j]? = some h) (hk : h.p = k) (hno : ∀ t, m ≤ t → t < j → ∀ x, hs[t]? = some x → ¬ x.p = k) : expOf ps (hs.drop m) k = (h.s, h.b) := by
  have hl : j < hs.length := by
    rcases Nat.lt_or_ge j hs.length with h1 | h1
    · exact h1
    · rw [List.getElem?_eq_none h1] at hj; cases hj
  have : (hs.drop m).find? (fun h => decide (h.p = k)) = some h := by
    rw [List.find?_eq_some_iff_getElem]
    refine ⟨by simpa using hk, j - m, by simp; omega, ?_, ?_⟩
    · rw [List.getElem_drop]
      rw [List.getElem?_eq_getElem hl] at hj
      simp only [show m + (j - m) = j from by omega]
      exact Option.some.inj hj
    · intro t ht
      rw [List.getElem_drop]
      have := hno (m + t) (by omega) (by omega) _ (List.getElem?_eq_getElem (by omega))
      simpa using this
  unfold expOf
  rw [this]

theorem expOf_miss {ps : List (ByteArray × ByteArray)} {hs : List Hd} {k : ByteArray} {m : Nat} (hno : ∀ t, m ≤ t → t < hs.length → ∀ x, hs[t]? = some x → ¬ x.p = k) : expOf ps (hs.drop m) k = lastOf ps k := by
  have : (hs.drop m).find? (fun h => decide (h.p = k)) = none := by
    rw [List.find?_eq_none]
    intro x hx
    obtain ⟨t, ht, rfl⟩ := List.getElem_of_mem hx
    rw [List.getElem_drop]
    simp at ht
    have := hno (m + t) (by omega) (by omega) _ (List.getElem?_eq_getElem (by omega))
    simpa using this
  unfold expOf
  rw [this]

theorem lastOf_hit {ps : List (ByteArray × ByteArray)} {k : ByteArray} {j : Nat} {q : ByteArray × ByteArray} (hj : ps[j]? = some q) (hk : q.1 = k) (hno : ∀ t, j < t → ∀ x, ps[t]? = some x → ¬ x.1 = k) : lastOf ps k = (q.2, true) := by
  have hl : j < ps.length := by
    rcases Nat.lt_or_ge j ps.length with h1 | h1
    · exact h1
    · rw [List.getElem?_eq_none h1] at hj; cases hj
  have : ps.reverse.find? (fun q => decide (q.1 = k)) = some q := by
    rw [List.find?_eq_some_iff_getElem]
    refine ⟨by simpa using hk, ps.length - 1 - j, by simp; omega, ?_, ?_⟩
    · rw [List.getElem_reverse]
      rw [List.getElem?_eq_getElem hl] at hj
      simp only [show ps.length - 1 - (ps.length - 1 - j) = j from by omega]
      exact Option.some.inj hj
    · intro t ht
      rw [List.getElem_reverse]
      have := hno (ps.length - 1 - t) (by omega) _ (List.getElem?_eq_getElem (by omega))
      simpa using this
  unfold lastOf
  rw [this]

theorem lastOf_miss {ps : List (ByteArray × ByteArray)} {k : ByteArray} (hno : ∀ (t : Nat) (x : ByteArray × ByteArray), ps[t]? = some x → ¬ x.1 = k) : lastOf ps k = (⟨#[]⟩, false) := by
  have : ps.reverse.find? (fun q => decide (q.1 = k)) = none := by
    rw [List.find?_eq_none]
    intro x hx
    rw [List.mem_reverse] at hx
    obtain ⟨t, ht, rfl⟩ := List.getElem_of_mem hx
    simpa using hno t _ (List.getElem?_eq_getElem ht)
  unfold lastOf
  rw [this]

set_option maxHeartbeats 2000000 in
theorem expected_any {w : World} {a0 a1 : Option Addr} {len0 cap0 len1 cap1 : Nat} {ps : List (ByteArray × ByteArray)} {hs : List Hd} (h0 : IsP w a0 len0 ps) (h1 : IsH w a1 len1 hs) (hl0 : len0 ≤ 4096) (hl1 : len1 ≤ 4096) (m : Nat) (k : ByteArray) :
    Calls Try.prog 22 #[.slice a0 len0 cap0, .slice a1 len1 cap1, .int .i64 m, .string k] w fun e w' => e = .returned (.tuple #[.string (expOf ps (hs.drop m) k).1, .bool (expOf ps (hs.drop m) k).2]) ∧ Below w.heap.size w w' := by
  go_enter Try.func22, Try.ntmps22
  go_wp2_with fail
  go_loop [10] (fun i => ∃ j : Nat, i = .int .i64 j ∧ m ≤ j ∧ ∀ t, m ≤ t → t < j → ∀ x, hs[t]? = some x → ¬ x.p = k) (fun i => len1 - (intOf i).toNat)
  case atStart => exact ⟨m, rfl, Nat.le_refl _, fun t h1 h2 => absurd h2 (by omega)⟩
  case round =>
    obtain ⟨j, rfl, hmj, hno⟩ := hrel
    have Hno : Hid (∀ t, m ≤ t → t < j → ∀ x, hs[t]? = some x → ¬ x.p = k) := hno
    clear hno
    by_cases hlt : j < len1
    · obtain ⟨hlen, hsz, hA⟩ := h1
      obtain ⟨b, off, rfl, hblt, hc⟩ := hA (by omega)
      obtain ⟨e0, e1, e2⟩ := hc j (by omega)
      obtain ⟨q, hq⟩ : ∃ q, q = hs[j] := ⟨_, rfl⟩
      have Hq : Hid (hs[j]? = some q) := by show _ = _; rw [hq]; exact List.getElem?_eq_getElem (by omega)
      rw [← hq] at e0 e1 e2
      have hki : (j : Int) < (len1 : Int) := by omega
      clear hc hA hsz hq h0 hlen
      by_cases hx : q.p = k
      · have hc' := s_true hx
        have Hr : Hid (expOf ps (hs.drop m) k = (q.s, q.b)) := expOf_hit hmj Hq.out hx Hno.out
        clear hx
        go_wp2_with fail
        go_quiet (fail)
        go_wp2_with fail
        go_ret2
        exact ⟨by rw [Hr.out]; rfl, below_drewN (Below.refl _ _) _⟩
      · have hc' := s_false hx
        have Hx : Hid (¬ q.p = k) := hx
        clear hx
        go_wp2_with fail
        go_round
        case rel =>
          refine ⟨j + 1, by go_num, by omega, fun t g1 g2 x g3 => ?_⟩
          by_cases e : t = j
          · subst e
            rw [Hq.out] at g3
            cases g3
            exact Hx.out
          · exact Hno.out t g1 (by omega) x g3
        case measure => simp [intOf]; omega
    · have Hr : Hid (expOf ps (hs.drop m) k = lastOf ps k) := expOf_miss (fun t g1 g2 x g3 => Hno.out t g1 (by have := h1.1; omega) x g3)
      clear h1
      go_wp2_with fail
      go_loop [11] (fun i => ∃ n : Nat, n ≤ len0 ∧ i = .int .i64 ((n : Int) - 1) ∧ ∀ t, n ≤ t → ∀ x, ps[t]? = some x → ¬ x.1 = k) (fun i => (intOf i + 1).toNat)
      case atStart => exact ⟨len0, Nat.le_refl _, rfl, fun t g1 x g2 => by rw [List.getElem?_eq_none (by rw [h0.1]; exact g1)] at g2; cases g2⟩
      case round =>
        obtain ⟨n, hn, rfl, hno2⟩ := hrel
        have Hno2 : Hid (∀ t, n ≤ t → ∀ x, ps[t]? = some x → ¬ x.1 = k) := hno2
        clear hno2
        by_cases hz : 0 < n
        · obtain ⟨hlen, hsz, hA⟩ := h0
          obtain ⟨b, off, rfl, hblt, hc⟩ := hA (by omega)
          obtain ⟨e0, e1⟩ := hc (n - 1) (by omega)
          obtain ⟨q, hq⟩ : ∃ q, q = ps[n - 1] := ⟨_, rfl⟩
          have Hq : Hid (ps[n - 1]? = some q) := by show _ = _; rw [hq]; exact List.getElem?_eq_getElem (by omega)
          rw [← hq] at e0 e1
          have hz0 : (0 : Int) ≤ (n : Int) - 1 := by omega
          have hz1 : (n : Int) - 1 < (len0 : Int) := by omega
          clear hc hA hsz hq hlen
          by_cases hx : q.1 = k
          · have hc' := s_true hx
            have Hr2 : Hid (lastOf ps k = (q.2, true)) := lastOf_hit Hq.out hx (fun t g1 x g2 => Hno2.out t (by omega) x g2)
            clear hx
            go_wp2_with fail
            go_ret2
            exact ⟨by rw [Hr.out, Hr2.out]; rfl, Below.refl _ _⟩
          · have hc' := s_false hx
            have Hx : Hid (¬ q.1 = k) := hx
            clear hx
            go_wp2_with fail
            go_round
            case rel =>
              refine ⟨n - 1, by omega, by go_num, fun t g1 x g3 => ?_⟩
              by_cases e : t = n - 1
              · subst e
                rw [Hq.out] at g3
                cases g3
                exact Hx.out
              · exact Hno2.out t (by omega) x g3
            case measure => simp [intOf]; omega
        · have Hr2 : Hid (lastOf ps k = (⟨#[]⟩, false)) := lastOf_miss (fun t x g2 => Hno2.out t (by omega) x g2)
          have hz0 : (n : Int) - 1 < 0 := by omega
          go_wp2_with fail
          go_ret2
          exact ⟨by rw [Hr.out, Hr2.out]; rfl, Below.refl _ _⟩
end Go.Proofs.Qxb6601864a.bd
