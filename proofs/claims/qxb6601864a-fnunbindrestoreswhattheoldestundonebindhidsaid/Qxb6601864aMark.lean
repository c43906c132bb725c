import Derived.Test.Qxb6601864aPlain
namespace Go.Proofs.Qxb6601864a.bd
open Go.ChangeShapes Go.WideShapes Go.ChangeAt Go.RowKit Go.Maps
set_option linter.unusedVariables false

theorem look_str' {w : World} {bm N : Nat} {D : DataW Unit} (h : w.ownsMap Try.prog 9 (plainElem Try.prog 9) bm N D) {x : ByteArray} (hx : x.size ≤ maxLen) :
    ∃ s : ByteArray, (Instr.lookup 37 (.map (some bm)) (.string x) true).run Try.prog w = .ok (.tuple #[.string s, .bool (Maps.has D (KS x))]) w ∧ D.atKey (KS x) (VS ⟨#[]⟩) = VS s ∧ s.size ≤ maxLen := by
  obtain ⟨v, ps, hrun, hv⟩ := h.look_ok law Try.underlying37 (zeroE w) (plainElem_string Try.underlying9 (s := ⟨#[]⟩) (by decide)) (WideMaps.keyOf_string_mk Try.underlying9 hx)
  obtain ⟨s, rfl, hz, hs⟩ := plainElem_string_inv Try.underlying9 hv
  exact ⟨s, hrun, congrArg Prod.fst hz, hs⟩

theorem keys_fine {ps qs : List (ByteArray × ByteArray)} {hs : List Hd} (h0 : ∀ q ∈ ps, q.1.size ≤ maxLen ∧ q.2.size ≤ maxLen) (h1 : Fine hs) (h2 : ∀ q ∈ qs, q.1.size ≤ maxLen ∧ q.2.size ≤ maxLen) : ∀ x ∈ keysOf ps hs qs, x.size ≤ maxLen := by
  intro x hx
  unfold keysOf at hx
  rcases List.mem_append.1 hx with hx | hx
  · rcases List.mem_append.1 hx with hx | hx
    · obtain ⟨q, hq, rfl⟩ := List.mem_map.1 hx; exact (h0 q hq).1
    · obtain ⟨q, hq, rfl⟩ := List.mem_map.1 hx; exact (h1 q hq).1
  · obtain ⟨q, hq, rfl⟩ := List.mem_map.1 hx; exact (h2 q hq).1
theorem fine_nil : Fine [] := fun h hh => by cases hh
theorem fine_snoc {l : List Hd} (h : Fine l) {a : Hd} (hp : a.p.size ≤ maxLen) (hs : a.s.size ≤ maxLen) : Fine (l ++ [a]) := fun x hx => by
  rcases List.mem_append.1 hx with hx | hx
  · exact h x hx
  · simp at hx; subst hx; exact ⟨hp, hs⟩
theorem fine_append {l l' : List Hd} (h : Fine l) (h' : Fine l') : Fine (l ++ l') := fun x hx => by
  rcases List.mem_append.1 hx with hx | hx
  · exact h x hx
  · exact h' x hx

set_option maxHeartbeats 2000000 in
/-- the law behind its guards: small inputs -/
theorem mark_small {w : World} {a0 a1 a2 : Option Addr} {len0 cap0 len1 cap1 len2 cap2 : Nat} {ps qs : List (ByteArray × ByteArray)} {hs : List Hd} (h0 : IsP w a0 len0 ps) (h1 : IsH w a1 len1 hs) (h2 : IsP w a2 len2 qs) (hl0 : len0 ≤ 4096) (hl1 : len1 ≤ 4096) (hl2 : len2 ≤ 4096) :
    Calls Try.prog 7 #[.slice a0 len0 cap0, .slice a1 len1 cap1, .slice a2 len2 cap2] w fun e w' => e = .returned (.bool true) ∧ Below w.heap.size w w' := by
  go_enter Try.func7, Try.ntmps7
  go_wp2_with fail
  refine (zb7_any h0 h1 h2 (by unfold maxLen; omega) (by unfold maxLen; omega) (by unfold maxLen; omega)).mono ?_
  rintro e w1 ⟨⟨r, rfl⟩, hw⟩
  rw [hw]; clear hw
  cases r
  · go_wp2_with fail
    go_ret
    exact ⟨rfl, Below.refl _ _⟩
  go_wp2_with fail
  refine (pairBytes_any h0 (by omega)).mono ?_
  rintro e w2 ⟨⟨r0, rfl⟩, hb2⟩
  go_wp2_with fail
  refine (hidBytes_any (h1.below hb2) (by omega)).mono ?_
  rintro e w3 ⟨⟨r1, rfl⟩, hb3⟩
  have hb3' := hb2.trans (hb3.mono hb2.size)
  go_wp2_with fail
  refine (pairBytes_any (h2.below hb3') (by omega)).mono ?_
  rintro e w4 ⟨⟨r2, rfl⟩, hb4⟩
  have hb4' := hb3'.trans (hb4.mono hb3'.size)
  clear hb2 hb3 hb4 hb3'
  go_wp2_with fail
  · go_ret
    exact ⟨rfl, hb4'⟩
  refine (newOf_any (h0.below hb4') (h1.below hb4') hl0 hl1).mono ?_
  rintro e w5 ⟨rfl, hbd5, hb5⟩
  have hb5' := hb4'.trans (hb5.mono hb4'.size)
  go_wp2_with fail
  refine (newOf_any (h0.below hb5') (h1.below hb5') hl0 hl1).mono ?_
  rintro e w6 ⟨rfl, hbd6, hb6⟩
  have hb6' := hb5'.trans (hb6.mono hb5'.size)
  obtain ⟨O1, O2, hOnew, hOold, hOref, hx6, hy6⟩ : ∃ O1 O2 : Nat → Prop, (∀ k, w6.heap.size ≤ k → O1 k) ∧ (∀ k, k < w.heap.size → ¬ O1 k) ∧ (∀ k, k < w6.heap.size → O2 k → ¬ O1 k) ∧
      Bd O1 w6 (w4.heap.size + 1) w4.heap.size len0 (newMap ps) hs ∧ Bd O2 w6 (w5.heap.size + 1) w5.heap.size len0 (newMap ps) hs := by
    refine ⟨fun k => (w4.heap.size ≤ k ∧ k < w5.heap.size) ∨ w6.heap.size ≤ k, fun k => w5.heap.size ≤ k ∧ k < w6.heap.size, fun k h => Or.inr h, fun k h => ?_, fun k h g => ?_, ?_, ?_⟩
    · have := hb4'.size; have := hb6'.size; omega
    · omega
    · exact (hbd5.mono (fun k hk ho => Or.inl ⟨ho, hk⟩)).below hb6
    · exact hbd6.mono (fun k hk ho => ⟨ho, hk⟩)
  have hfh : Fine hs := h1.2.1
  have hlh : hs.length = len1 := h1.1
  have Hlh : Hid (hs.length = len1) := hlh
  clear hlh
  go_wp2_with fail
  refine (hlen_any hx6).mono ?_
  rintro e w7 ⟨rfl, hw⟩
  rw [hw]; clear hw
  go_wp2_with fail
  refine (bound_any hx6).mono ?_
  rintro e w8 ⟨rfl, hw⟩
  rw [hw]; clear hw
  go_wp2_with fail
  go_loopw [11] (fun i wr => ∃ (k : Nat) (D : DataW Unit) (rec : List Hd), k ≤ len2 ∧ i = .int .i64 k ∧ rec.length = k ∧ Fine rec ∧ Alike (undoAll rec D) (newMap ps) ∧ Bd O1 wr (w4.heap.size + 1) w4.heap.size (len0 + k) D (hs ++ rec) ∧ Touch O1 w6 wr) (fun i _ => len2 - (intOf i).toNat)
  case atStart => exact ⟨0, newMap ps, [], Nat.zero_le _, rfl, rfl, fine_nil, Alike.refl _, by simpa using hx6, Touch.refl _ _⟩
  case round =>
    obtain ⟨k, D, rec, hk, rfl, hrl, hfr, hal, hbd, ht⟩ := hrel
    have hb := hb6'.trans (ht.below hb6'.size hOold)
    have Hrl : Hid (rec.length = k) := hrl
    clear hrl
    by_cases hlt : k < len2
    · obtain ⟨hlen, hsz, hA⟩ := h2
      obtain ⟨b, off, rfl, hblt, hc⟩ := hA (by omega)
      obtain ⟨e0, e1⟩ := hc k (by omega)
      obtain ⟨s0, s1⟩ := hsz _ (List.getElem_mem (show k < qs.length by omega))
      obtain ⟨q, hq⟩ : ∃ q, q = qs[k] := ⟨_, rfl⟩
      rw [← hq] at e0 e1 s0 s1
      have g0 := (hb.cell (p := ⟨b, off + k * 2, none⟩) hblt).trans e0
      have hki : (k : Int) < (len2 : Int) := by omega
      clear hc hA hsz hq hlen
      have hbdc := hbd
      obtain ⟨v, hB, hM, hr⟩ := hbd
      obtain ⟨old, hlk, hold, holds⟩ := look_str' hM s0
      clear hr hB
      go_wp2_with fail
      refine (push_any hbdc (fun k h => hOnew k (Nat.le_trans ht.size h)) q.1 old (Maps.has D (KS q.1)) (by have h3 := Hrl.out; have h4 := Hlh.out; simp; omega)).mono ?_
      rintro e w9 ⟨rfl, hbd9, ht9⟩
      have hb9 := hb.trans (ht9.below hb.size hOold)
      have g1 := (hb9.cell (p := ⟨b, off + k * 2, none⟩) hblt).trans e0
      have g2 := (hb9.cell (p := ⟨b, off + k * 2 + 1, none⟩) hblt).trans e1
      clear hlk g0
      have hbd9c := hbd9
      obtain ⟨v', hB', hM', hr', hoB, hom, hog⟩ := hbd9
      obtain ⟨w10, hrun, hM10, hturn⟩ := hM'.drew.store law Try.underlying37 (by unfold maxLen; omega) (WideMaps.keyOf_string_mk Try.underlying9 s0) (plainElem_string Try.underlying9 s1)
      go_wp2_with fail
      go_region
      go_wp2_with fail
      go_roundw
      case rel =>
        obtain ⟨q1, q2⟩ := Bd_turned hB' hr' hoB hom hog hturn hM10
        refine ⟨k + 1, _, _, by omega, by go_num, ?_, ?_, undo_step hbdc.isMap hal (VS q.2) hold, ?_, (ht.trans ht9).drew.trans q2⟩
        · have := Hrl.out; simp; omega
        · exact fine_snoc hfr s0 holds
        · rw [← List.append_assoc, ← Nat.add_assoc]; exact q1
      case measure => simp [intOf]; omega
    · go_wp2_with fail
      refine (zzUnbind_any hbd (fun k h => hOnew k (Nat.le_trans ht.size h)) hs.length (by have h3 := Hrl.out; have h4 := Hlh.out; simp; omega) (by omega) (fine_append hfh hfr)).mono ?_
      rintro e w9 ⟨rfl, ⟨N9, hN9, hbd9⟩, ht9⟩
      have hb9 := hb.trans (ht9.below hb.size hOold)
      rw [List.drop_left, List.take_left] at hbd9
      have hy9 : Bd O2 w9 (w5.heap.size + 1) w5.heap.size len0 (newMap ps) hs := hy6.kept (fun k g1 g2 => (ht.trans ht9).block k g1 (hOref k g1 g2))
      have heq := hal.eq hbd9.canon hy9.canon
      rw [heq] at hbd9
      clear heq
      go_wp2_with fail
      refine (allKeys_any (h0.below hb9) (h1.below hb9) (h2.below hb9) hl0 hl1 hl2).mono ?_
      rintro e w10 ⟨v10, rfl, hv10, hb10⟩
      go_wp2_with fail
      refine (same_any (hbd9.below hb10) (hy9.below hb10) hv10 (by have h4 := Hlh.out; omega) (by omega) ?_).mono ?_
      · intro x hx
        exact keys_fine h0.2.1 hfh h2.2.1 x hx
      rintro e w11 ⟨rfl, hb11⟩
      go_wp2_with fail
      go_ret
      have hb10' := hb9.trans (hb10.mono hb9.size)
      exact ⟨rfl, hb10'.trans (hb11.mono hb10'.size)⟩
end Go.Proofs.Qxb6601864a.bd
