import Derived.Test.Qxb6602169aJson
import Derived.Laws.BytesArg
namespace Go.Proofs.Qxb6602169a.take
open Go.ChangeShapes Go.WideShapes Go.ChangeAt Go.RowKit
set_option linter.unusedVariables false

/-- a decimal text: a sign or none, digits, no needless nought ahead -/
def Dec (s : ByteArray) : Prop := ∃ sg, sg ≤ 1 ∧ sg < s.size ∧ s.size ≤ 20 ∧ (sg = 1 → ∃ h : 0 < s.size, ((s[0].toNat : Int) == 45) = true) ∧ (∀ j, sg ≤ j → (h : j < s.size) → 48 ≤ (s[j].toNat : Int) ∧ (s[j].toNat : Int) ≤ 57) ∧
  ((∃ h : sg < s.size, ((s[sg].toNat : Int) == 48) = false) ∨ s.size = sg + 1)
def SomeDec (e : Ending) : Prop := ∃ s, e = .returned (.string s) ∧ Dec s

theorem num_at (S : List Int) (j : Nat) (h : j < (strOfNums S).size) (h2 : j < S.length) (h3 : 0 ≤ S[j] ∧ S[j] ≤ 255) : ((strOfNums S)[j].toNat : Int) = S[j] := by
  have : (strOfNums S)[j] = UInt8.ofNat S[j].toNat := by
    show (strOfNums S).data[j]'_ = _
    simp [strOfNums]
  rw [this]
  simp only [UInt8.toNat_ofNat']
  omega

theorem dec_of (sg : Nat) (T : List Int) (S : List Int) (hT : T = if sg = 1 then 45 :: S else S) (hsg : sg ≤ 1) (h1 : 1 ≤ S.length) (h2 : S.length ≤ 19) (h3 : ∀ y ∈ S, 48 ≤ y ∧ y ≤ 57) (h4 : S.length = 1 ∨ ∃ y, S[0]? = some y ∧ y ≠ 48) : Dec (strOfNums T) := by
  have hsz := strOfNums_size T
  have hlen : T.length = S.length + sg := by
    subst hT
    rcases (show sg = 0 ∨ sg = 1 from by omega) with rfl | rfl <;> simp
  have hat : ∀ j, (h : sg ≤ j) → (h' : j < T.length) → ∃ h2 : j - sg < S.length, T[j] = S[j - sg] := by
    intro j h h'
    subst hT
    rcases (show sg = 0 ∨ sg = 1 from by omega) with rfl | rfl
    · exact ⟨by simpa using h', by simp⟩
    · refine ⟨by simp at h'; omega, ?_⟩
      obtain ⟨k, rfl⟩ : ∃ k, j = k + 1 := ⟨j - 1, by omega⟩
      simp
  have hd : ∀ j, sg ≤ j → (h : j < (strOfNums T).size) → ∃ h2 : j - sg < S.length, ((strOfNums T)[j].toNat : Int) = S[j - sg] := by
    intro j g h
    obtain ⟨g2, g3⟩ := hat j g (by omega)
    refine ⟨g2, ?_⟩
    have hr := h3 _ (List.getElem_mem g2)
    rw [num_at T j h (by omega) (by rw [g3]; omega), g3]
  refine ⟨sg, hsg, by omega, by omega, ?_, ?_, ?_⟩
  · intro e
    subst e
    refine ⟨by omega, ?_⟩
    have e0 : T[0]'(by omega) = 45 := by subst hT; simp
    rw [num_at T 0 (by omega) (by omega) (by rw [e0]; omega), e0]
    rfl
  · intro j g h
    obtain ⟨g2, g3⟩ := hd j g h
    rw [g3]
    exact h3 _ (List.getElem_mem g2)
  · rcases h4 with h4 | ⟨y, hy, hne⟩
    · right; omega
    · left
      refine ⟨by omega, ?_⟩
      obtain ⟨g2, g3⟩ := hd sg (Nat.le_refl _) (by omega)
      rw [g3]
      simp only [Nat.sub_self]
      rw [List.getElem?_eq_getElem (show 0 < S.length by omega)] at hy
      cases hy
      exact beq_eq_false_iff_ne.2 hne

/-- the buffer: from place i on it holds S -/
structure Buf (w wr : World) (B i : Nat) (S : List Int) : Prop where
  len : i + S.length = 20
  there : ∀ j, j < 20 → ∃ v, wr.cell? ⟨B, j, none⟩ = some v
  free : ∀ j, wr.frozen? ⟨B, j, none⟩ = false
  cells : ∀ j, (h : j < S.length) → wr.cell? ⟨B, i + j, none⟩ = some (.int .u8 S[j])
  base : w.heap.size ≤ B
  bel : Below w.heap.size w wr

theorem buf_push {w wr : World} {B i p : Nat} {S : List Int} (h : Buf w wr B i S) (hp : i = p + 1) (v : Int) : Buf w (wr.setCell ⟨B, p, none⟩ (.int .u8 v)) B p (v :: S) := by
  subst hp
  have hl := h.len
  obtain ⟨u, hu⟩ := h.there p (by omega)
  refine ⟨by simp; omega, fun j hj => ?_, fun j => by rw [World.frozen?_setCell]; exact h.free j, fun j hj => ?_, h.base, h.bel.setCell h.base _⟩
  · by_cases e : j = p
    · subst e; exact ⟨_, World.cell?_setCell_same wr _ _ hu⟩
    · rw [World.cell?_setCell_other wr _ _ _ (fun e' => e (by cases e'; rfl))]; exact h.there j hj
  · cases j with
    | zero => exact World.cell?_setCell_same wr _ _ hu
    | succ k =>
      rw [World.cell?_setCell_other wr _ _ _ (fun e' => by simp at e')]
      have := h.cells k (by simpa using hj)
      rw [show p + (k + 1) = p + 1 + k from by omega]
      simpa using this

theorem buf_start (w : World) (v : Int) : Buf w (w.alloc (.cells #[.int .u8 0, .int .u8 0, .int .u8 0, .int .u8 0, .int .u8 0, .int .u8 0, .int .u8 0, .int .u8 0, .int .u8 0, .int .u8 0, .int .u8 0, .int .u8 0, .int .u8 0, .int .u8 0, .int .u8 0, .int .u8 0, .int .u8 0, .int .u8 0, .int .u8 0, .int .u8 v] 39)) w.heap.size 19 [v] := by
  have hn := heap_alloc_new w (.cells #[.int .u8 0, .int .u8 0, .int .u8 0, .int .u8 0, .int .u8 0, .int .u8 0, .int .u8 0, .int .u8 0, .int .u8 0, .int .u8 0, .int .u8 0, .int .u8 0, .int .u8 0, .int .u8 0, .int .u8 0, .int .u8 0, .int .u8 0, .int .u8 0, .int .u8 0, .int .u8 v] 39)
  refine ⟨rfl, fun j hj => ?_, fun j => ?_, fun j hj => ?_, Nat.le_refl _, (Below.refl _ _).alloc (Nat.le_refl _) _⟩
  · simp only [World.cell?, hn]
    exact ⟨_, Array.getElem?_eq_getElem (by simpa using hj)⟩
  · unfold World.frozen?
    simp only [hn]
    simp
  · have : j = 0 := by simpa using hj
    subst this
    simp only [World.cell?, hn]
    rfl

theorem buf_conv {w wr : World} {B i : Nat} {S : List Int} (h : Buf w wr B i S) (src e : TypeId) (hs : Try.prog.underlying src = some (.slice e)) (he : Try.prog.underlying e = some (.int .u8)) :
    (convert src 9 (.slice (some ⟨B, i, none⟩) (20 - i) (20 - i))).run Try.prog wr = .ok (.string (strOfNums S)) wr := by
  have hl := h.len
  exact run_convert_bytes_arg wr src e hs he B i (20 - i) (20 - i) S (by omega) (fun j hj => by
    rw [h.cells j (by omega)]
    simp [List.getD, List.getElem?_eq_getElem (show j < S.length by omega)]) 9 Try.underlying9

set_option maxHeartbeats 2000000 in
theorem decimal_neg (n : Int) (w : World) (h1 : -9223372036854775808 ≤ n) (h2 : n < 0) :
    Calls Try.prog 13 #[.int .i64 n] w fun e w' => SomeDec e ∧ Below w.heap.size w w' := by
  go_enter Try.func13, Try.ntmps13
  go_wp2_with fail
  go_loopw [3, 5] (fun m x wr => ∃ (M i : Nat) (S : List Int), m = .int .u64 M ∧ x = .int .i64 i ∧ Buf w wr w.heap.size i S ∧ (1 ≤ S.length ∧ S.length ≤ 19 ∧ M < 10 ^ (19 - S.length) ∧ (∀ y ∈ S, 48 ≤ y ∧ y ≤ 57) ∧ (M = 0 → S.length = 1 ∨ ∃ y, S[0]? = some y ∧ y ≠ 48))) (fun m _ _ => (intOf m).toNat)
  case atStart =>
    refine ⟨((-(n + 1) + 1) / 10).toNat, 19, [48 + (-(n + 1) + 1) % 10], by rw [Int.toNat_of_nonneg (by omega)], rfl, buf_start _ _, by simp, by simp, ?_, ?_, by simp⟩
    · have : (10 : Nat) ^ (19 - 1) = 1000000000000000000 := by decide
      simp only [List.length_singleton, this]; omega
    · intro y hy; simp at hy; omega
  case round =>
    obtain ⟨M, i, S, rfl, rfl, hb, hS⟩ := hrel
    by_cases hM : 0 < M
    · have hMi : (0 : Int) < (M : Int) := by omega
      have hlen : S.length ≤ 18 := by
        rcases Nat.lt_or_ge S.length 19 with h | h
        · omega
        · have : 19 - S.length = 0 := by omega
          rw [this] at hS
          have := hS.2.2.1
          simp at this
          omega
      have hMb : (M : Int) ≤ 1000000000000000000 := by
        have h1 : 10 ^ (19 - S.length) ≤ (10 : Nat) ^ 18 := Nat.pow_le_pow_right (by decide) (by omega)
        have h2 : (10 : Nat) ^ 18 = 1000000000000000000 := by decide
        have := hS.2.2.1
        omega
      have hbl := hb.len
      obtain ⟨p, hp⟩ : ∃ p, i = p + 1 := ⟨i - 1, by omega⟩
      obtain ⟨v0, hv0⟩ := hb.there (i - 1) (by omega)
      have hfz := hb.free (i - 1)
      have hii : (0 : Int) ≤ (i : Int) - 1 := by omega
      have hii2 : (i : Int) - 1 < 20 := by omega
      have Hp : Hid (i = p + 1) := hp
      clear hp
      go_wp2_with fail
      go_roundw
      case rel =>
        have hp := Hp.out
        refine ⟨M / 10, i - 1, (48 + (M : Int) % 10) :: S, by go_num, by go_num, ?_, by simp, by simp; omega, ?_, ?_, ?_⟩
        · have := buf_push hb hp (48 + (M : Int) % 10)
          rw [show p = i - 1 from by omega] at this
          exact this
        · have h1 : (10 : Nat) ^ (19 - S.length) = 10 * 10 ^ (19 - (S.length + 1)) := by
            rw [show 19 - S.length = (19 - (S.length + 1)) + 1 from by omega, Nat.pow_succ, Nat.mul_comm]
          have := hS.2.2.1
          simp only [List.length_cons]
          omega
        · intro y hy
          rcases List.mem_cons.1 hy with rfl | hy
          · omega
          · exact hS.2.2.2.1 y hy
        · intro h0
          right
          exact ⟨_, rfl, by omega⟩
      case measure => simp [intOf]; omega
    · have hMi : ¬ (0 : Int) < (M : Int) := by omega
      have hM0 : M = 0 := by omega
      subst hM0
      have Hdec : Hid (1 ≤ S.length ∧ S.length ≤ 19 ∧ (∀ y ∈ S, 48 ≤ y ∧ y ≤ 57) ∧ (S.length = 1 ∨ ∃ y, S[0]? = some y ∧ y ≠ 48)) := ⟨hS.1, hS.2.1, hS.2.2.2.1, hS.2.2.2.2 rfl⟩
      have hS2 := hS.2.1
      have hS1 := hS.1
      clear hS
      have hi1 : i ≤ 19 := by have := hb.len; omega
      have hi0 : 0 < i := by have := hb.len; omega
      obtain ⟨p, hp⟩ : ∃ p, i = p + 1 := ⟨i - 1, by omega⟩
      subst hp
      obtain ⟨v0, hv0⟩ := hb.there p (by omega)
      have hfz := hb.free p
      have hii : (0 : Int) ≤ (p : Int) := by omega
      have hii2 : (p : Int) < 20 := by omega
      have hii3 : (p : Int) ≤ 20 := by omega
      have hb' := buf_push hb rfl 45
      have hcv := buf_conv hb' (40 : TypeId) 5 Try.underlying40 Try.underlying5
      have Hb : Hid (Below w.heap.size w (wr.setCell ⟨w.heap.size, p, none⟩ (.int .u8 45))) := hb'.bel
      clear hb'
      go_wp2_with fail
      go_ret
      exact ⟨⟨_, rfl, dec_of 1 (45 :: S) S (by simp) (by omega) Hdec.out.1 Hdec.out.2.1 Hdec.out.2.2.1 Hdec.out.2.2.2⟩, Hb.out⟩

set_option maxHeartbeats 2000000 in
theorem decimal_pos (n : Int) (w : World) (h1 : 0 ≤ n) (h2 : n ≤ 9223372036854775807) :
    Calls Try.prog 13 #[.int .i64 n] w fun e w' => SomeDec e ∧ Below w.heap.size w w' := by
  go_enter Try.func13, Try.ntmps13
  go_wp2_with fail
  go_loopw [3, 5] (fun m x wr => ∃ (M i : Nat) (S : List Int), m = .int .u64 M ∧ x = .int .i64 i ∧ Buf w wr w.heap.size i S ∧ (1 ≤ S.length ∧ S.length ≤ 19 ∧ M < 10 ^ (19 - S.length) ∧ (∀ y ∈ S, 48 ≤ y ∧ y ≤ 57) ∧ (M = 0 → S.length = 1 ∨ ∃ y, S[0]? = some y ∧ y ≠ 48))) (fun m _ _ => (intOf m).toNat)
  case atStart =>
    refine ⟨((n) / 10).toNat, 19, [48 + (n) % 10], by rw [Int.toNat_of_nonneg (by omega)], rfl, buf_start _ _, by simp, by simp, ?_, ?_, by simp⟩
    · have : (10 : Nat) ^ (19 - 1) = 1000000000000000000 := by decide
      simp only [List.length_singleton, this]; omega
    · intro y hy; simp at hy; omega
  case round =>
    obtain ⟨M, i, S, rfl, rfl, hb, hS⟩ := hrel
    by_cases hM : 0 < M
    · have hMi : (0 : Int) < (M : Int) := by omega
      have hlen : S.length ≤ 18 := by
        rcases Nat.lt_or_ge S.length 19 with h | h
        · omega
        · have : 19 - S.length = 0 := by omega
          rw [this] at hS
          have := hS.2.2.1
          simp at this
          omega
      have hMb : (M : Int) ≤ 1000000000000000000 := by
        have h1 : 10 ^ (19 - S.length) ≤ (10 : Nat) ^ 18 := Nat.pow_le_pow_right (by decide) (by omega)
        have h2 : (10 : Nat) ^ 18 = 1000000000000000000 := by decide
        have := hS.2.2.1
        omega
      have hbl := hb.len
      obtain ⟨p, hp⟩ : ∃ p, i = p + 1 := ⟨i - 1, by omega⟩
      obtain ⟨v0, hv0⟩ := hb.there (i - 1) (by omega)
      have hfz := hb.free (i - 1)
      have hii : (0 : Int) ≤ (i : Int) - 1 := by omega
      have hii2 : (i : Int) - 1 < 20 := by omega
      have Hp : Hid (i = p + 1) := hp
      clear hp
      go_wp2_with fail
      go_roundw
      case rel =>
        have hp := Hp.out
        refine ⟨M / 10, i - 1, (48 + (M : Int) % 10) :: S, by go_num, by go_num, ?_, by simp, by simp; omega, ?_, ?_, ?_⟩
        · have := buf_push hb hp (48 + (M : Int) % 10)
          rw [show p = i - 1 from by omega] at this
          exact this
        · have h1 : (10 : Nat) ^ (19 - S.length) = 10 * 10 ^ (19 - (S.length + 1)) := by
            rw [show 19 - S.length = (19 - (S.length + 1)) + 1 from by omega, Nat.pow_succ, Nat.mul_comm]
          have := hS.2.2.1
          simp only [List.length_cons]
          omega
        · intro y hy
          rcases List.mem_cons.1 hy with rfl | hy
          · omega
          · exact hS.2.2.2.1 y hy
        · intro h0
          right
          exact ⟨_, rfl, by omega⟩
      case measure => simp [intOf]; omega
    · have hMi : ¬ (0 : Int) < (M : Int) := by omega
      have hM0 : M = 0 := by omega
      subst hM0
      have Hdec : Hid (1 ≤ S.length ∧ S.length ≤ 19 ∧ (∀ y ∈ S, 48 ≤ y ∧ y ≤ 57) ∧ (S.length = 1 ∨ ∃ y, S[0]? = some y ∧ y ≠ 48)) := ⟨hS.1, hS.2.1, hS.2.2.2.1, hS.2.2.2.2 rfl⟩
      have hS2 := hS.2.1
      have hS1 := hS.1
      clear hS
      have hi1 : i ≤ 19 := by have := hb.len; omega
      have hcv := buf_conv hb (40 : TypeId) 5 Try.underlying40 Try.underlying5
      have hii : (0 : Int) ≤ (i : Int) := by omega
      have hii2 : (i : Int) ≤ 20 := by omega
      go_wp2_with fail
      go_ret
      exact ⟨⟨_, rfl, dec_of 0 S S (by simp) (by omega) Hdec.out.1 Hdec.out.2.1 Hdec.out.2.2.1 Hdec.out.2.2.2⟩, hb.bel⟩

theorem decimal_any (n : Int) (w : World) (h1 : -9223372036854775808 ≤ n) (h2 : n ≤ 9223372036854775807) :
    Calls Try.prog 13 #[.int .i64 n] w fun e w' => SomeDec e ∧ Below w.heap.size w w' := by
  by_cases h : n < 0
  · exact decimal_neg n w h1 h
  · exact decimal_pos n w (by omega) h2
end Go.Proofs.Qxb6602169a.take
