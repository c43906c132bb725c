import Derived.Test.Qxb6601864aBd
namespace Go.Proofs.Qxb6601864a.bd
open Go.ChangeShapes Go.WideShapes Go.ChangeAt Go.RowKit Go.Maps
set_option linter.unusedVariables false

def SomeInt (e : Ending) : Prop := ∃ r, e = .returned (.int .i64 r)
def SomeBool (e : Ending) : Prop := ∃ r, e = .returned (.bool r)

/-- a slice of pairs that came in -/
def IsP (w : World) (a : Option Addr) (len : Nat) (ps : List (ByteArray × ByteArray)) : Prop :=
  ps.length = len ∧ (∀ q ∈ ps, q.1.size ≤ maxLen ∧ q.2.size ≤ maxLen) ∧ (0 < len → ∃ b off, a = some ⟨b, off, none⟩ ∧ b < w.heap.size ∧
    ∀ k, (h : k < ps.length) → w.cell? ⟨b, off + k * 2, none⟩ = some (.string ps[k].1) ∧ w.cell? ⟨b, off + k * 2 + 1, none⟩ = some (.string ps[k].2))
/-- a slice of hidden entries that came in -/
def IsH (w : World) (a : Option Addr) (len : Nat) (hs : List Hd) : Prop :=
  hs.length = len ∧ Fine hs ∧ (0 < len → ∃ b off, a = some ⟨b, off, none⟩ ∧ b < w.heap.size ∧
    ∀ k, (h : k < hs.length) → w.cell? ⟨b, off + k * 3, none⟩ = some (.string hs[k].p) ∧ w.cell? ⟨b, off + k * 3 + 1, none⟩ = some (.string hs[k].s) ∧ w.cell? ⟨b, off + k * 3 + 2, none⟩ = some (.bool hs[k].b))

theorem IsP.below {w w' : World} {a : Option Addr} {len : Nat} {ps : List (ByteArray × ByteArray)} (h : IsP w a len ps) (hb : Below w.heap.size w w') : IsP w' a len ps := by
  refine ⟨h.1, h.2.1, fun hl => ?_⟩
  obtain ⟨b, off, ha, hlt, hc⟩ := h.2.2 hl
  exact ⟨b, off, ha, Nat.lt_of_lt_of_le hlt hb.size, fun k hk => ⟨by rw [hb.cell (p := ⟨b, off + k * 2, none⟩) hlt]; exact (hc k hk).1, by rw [hb.cell (p := ⟨b, off + k * 2 + 1, none⟩) hlt]; exact (hc k hk).2⟩⟩
theorem IsH.below {w w' : World} {a : Option Addr} {len : Nat} {hs : List Hd} (h : IsH w a len hs) (hb : Below w.heap.size w w') : IsH w' a len hs := by
  refine ⟨h.1, h.2.1, fun hl => ?_⟩
  obtain ⟨b, off, ha, hlt, hc⟩ := h.2.2 hl
  exact ⟨b, off, ha, Nat.lt_of_lt_of_le hlt hb.size, fun k hk => ⟨by rw [hb.cell (p := ⟨b, off + k * 3, none⟩) hlt]; exact (hc k hk).1, by rw [hb.cell (p := ⟨b, off + k * 3 + 1, none⟩) hlt]; exact (hc k hk).2.1, by rw [hb.cell (p := ⟨b, off + k * 3 + 2, none⟩) hlt]; exact (hc k hk).2.2⟩⟩

set_option maxHeartbeats 1000000 in
theorem pairBytes_any {w : World} {a : Option Addr} {len cap : Nat} {ps : List (ByteArray × ByteArray)} (h : IsP w a len ps) (hl : len ≤ 1048576) :
    Calls Try.prog 14 #[.slice a len cap] w fun e w' => SomeInt e ∧ Below w.heap.size w w' := by
  go_enter Try.func14, Try.ntmps14
  go_wp2_with fail
  go_loopw [3, 4] (fun n i wr => ∃ (k : Nat) (r : Int), k ≤ len ∧ i = .int .i64 k ∧ n = .int .i64 r ∧ Below w.heap.size w wr) (fun _ i _ => len - (intOf i).toNat)
  case atStart => exact ⟨0, 0, Nat.zero_le _, rfl, rfl, Below.refl _ _⟩
  case round =>
    obtain ⟨k, r, hk, rfl, rfl, hb⟩ := hrel
    have h' := h.below hb
    obtain ⟨hlen, hsz, hA⟩ := h'
    clear h
    by_cases hlt : k < len
    · obtain ⟨b, off, rfl, hblt, hc⟩ := hA (by omega)
      obtain ⟨e0, e1⟩ := hc k (by omega)
      obtain ⟨s0, s1⟩ := hsz _ (List.getElem_mem (show k < ps.length by omega))
      obtain ⟨q, hq⟩ : ∃ q, q = ps[k] := ⟨_, rfl⟩
      rw [← hq] at e0 e1 s0 s1
      unfold maxLen at s0 s1
      have hki : (k : Int) < (len : Int) := by omega
      clear hc hA hsz hq
      by_cases h1 : 1048576 < q.1.size
      · go_wp2_with fail
        go_ret
        exact ⟨⟨_, rfl⟩, hb⟩
      · by_cases h2 : 1048576 < q.2.size
        · go_wp2_with fail
          go_ret
          exact ⟨⟨_, rfl⟩, hb⟩
        · go_wp2_with fail
          go_quiet (fail)
          go_wp2
          · go_ret
            exact ⟨⟨_, rfl⟩, below_drewN hb _⟩
          · go_roundw
            case rel => exact ⟨k + 1, _, by omega, by go_num, rfl, below_drewN hb _⟩
            case measure => simp [intOf]; omega
    · go_wp2_with fail
      go_ret
      exact ⟨⟨_, rfl⟩, hb⟩
set_option maxHeartbeats 1000000 in
theorem hidBytes_any {w : World} {a : Option Addr} {len cap : Nat} {hs : List Hd} (h : IsH w a len hs) (hl : len ≤ 1048576) :
    Calls Try.prog 15 #[.slice a len cap] w fun e w' => SomeInt e ∧ Below w.heap.size w w' := by
  go_enter Try.func15, Try.ntmps15
  go_wp2_with fail
  go_loopw [3, 4] (fun n i wr => ∃ (k : Nat) (r : Int), k ≤ len ∧ i = .int .i64 k ∧ n = .int .i64 r ∧ Below w.heap.size w wr) (fun _ i _ => len - (intOf i).toNat)
  case atStart => exact ⟨0, 0, Nat.zero_le _, rfl, rfl, Below.refl _ _⟩
  case round =>
    obtain ⟨k, r, hk, rfl, rfl, hb⟩ := hrel
    have h' := h.below hb
    obtain ⟨hlen, hsz, hA⟩ := h'
    clear h
    by_cases hlt : k < len
    · obtain ⟨b, off, rfl, hblt, hc⟩ := hA (by omega)
      obtain ⟨e0, e1, e2⟩ := hc k (by omega)
      obtain ⟨s0, s1⟩ := hsz _ (List.getElem_mem (show k < hs.length by omega))
      obtain ⟨q, hq⟩ : ∃ q, q = hs[k] := ⟨_, rfl⟩
      rw [← hq] at e0 e1 e2 s0 s1
      unfold maxLen at s0 s1
      have hki : (k : Int) < (len : Int) := by omega
      clear hc hA hsz hq
      by_cases h1 : 1048576 < q.p.size
      · go_wp2_with fail
        go_ret
        exact ⟨⟨_, rfl⟩, hb⟩
      · by_cases h2 : 1048576 < q.s.size
        · go_wp2_with fail
          go_ret
          exact ⟨⟨_, rfl⟩, hb⟩
        · go_wp2_with fail
          go_quiet (fail)
          go_wp2
          · go_ret
            exact ⟨⟨_, rfl⟩, below_drewN hb _⟩
          · go_roundw
            case rel => exact ⟨k + 1, _, by omega, by go_num, rfl, below_drewN hb _⟩
            case measure => simp [intOf]; omega
    · go_wp2_with fail
      go_ret
      exact ⟨⟨_, rfl⟩, hb⟩

set_option maxRecDepth 100000 in
set_option maxHeartbeats 4000000 in
theorem zb6_any {w : World} {a0 a1 : Option Addr} {len0 cap0 len1 cap1 : Nat} {ps : List (ByteArray × ByteArray)} {hs : List Hd} (h0 : IsP w a0 len0 ps) (h1 : IsH w a1 len1 hs) (hl0 : len0 ≤ maxLen) (hl1 : len1 ≤ maxLen) (m : Int) :
    Calls Try.prog 13 #[.slice a0 len0 cap0, .slice a1 len1 cap1, .int .i64 m] w fun e w' => SomeBool e ∧ w' = w := by
  unfold maxLen at hl0 hl1
  by_cases hbig : 1048576 < len0
  · go_enter Try.func13, Try.ntmps13
    go_wp2_with fail
    go_ret
    exact ⟨⟨_, rfl⟩, rfl⟩
  · go_enter Try.func13, Try.ntmps13
    go_wp2_with fail
    go_loop [7, 8] (fun n i => ∃ (k : Nat) (r : Int), k ≤ len0 ∧ i = .int .i64 k ∧ n = .int .i64 r) (fun _ i => len0 - (intOf i).toNat)
    case atStart => exact ⟨0, _, Nat.zero_le _, rfl, rfl⟩
    case round =>
      obtain ⟨k, r, hk, rfl, rfl⟩ := hrel
      by_cases hlt : k < len0
      · obtain ⟨hlen, hsz, hA⟩ := h0
        obtain ⟨b, off, rfl, hblt, hc⟩ := hA (by omega)
        obtain ⟨e0, e1⟩ := hc k (by omega)
        obtain ⟨s0, s1⟩ := hsz _ (List.getElem_mem (show k < _ by omega))
        obtain ⟨q, hq⟩ : ∃ q, q = ps[k] := ⟨_, rfl⟩
        rw [← hq] at e0 e1 s0 s1
        unfold maxLen at s0 s1
        have hki : (k : Int) < (len0 : Int) := by omega
        clear hc hA hsz hq
        go_wp2
        all_goals first
          | (go_ret; exact ⟨⟨_, rfl⟩, rfl⟩)
          | (go_round
             case rel => exact ⟨k + 1, _, by omega, by go_num, rfl⟩
             case measure => simp [intOf]; omega)
      · by_cases hbiglen1 : 1048576 < len1
        · go_wp2_with fail
          go_ret
          exact ⟨⟨_, rfl⟩, rfl⟩
        · by_cases hsum : 1048576 < wrap64 (r + len1)
          · go_wp2_with fail
            go_ret
            exact ⟨⟨_, rfl⟩, rfl⟩
          · go_wp2_with fail
            go_loop [7, 9] (fun n i => ∃ (k : Nat) (r : Int), k ≤ len1 ∧ i = .int .i64 k ∧ n = .int .i64 r) (fun _ i => len1 - (intOf i).toNat)
            case atStart => exact ⟨0, _, Nat.zero_le _, rfl, rfl⟩
            case round =>
              obtain ⟨k, r, hk, rfl, rfl⟩ := hrel
              by_cases hlt : k < len1
              · obtain ⟨hlen, hsz, hA⟩ := h1
                obtain ⟨b, off, rfl, hblt, hc⟩ := hA (by omega)
                obtain ⟨e0, e1, e2⟩ := hc k (by omega)
                obtain ⟨s0, s1⟩ := hsz _ (List.getElem_mem (show k < _ by omega))
                obtain ⟨q, hq⟩ : ∃ q, q = hs[k] := ⟨_, rfl⟩
                rw [← hq] at e0 e1 e2 s0 s1
                unfold maxLen at s0 s1
                have hki : (k : Int) < (len1 : Int) := by omega
                clear hc hA hsz hq
                go_wp2
                all_goals first
                  | (go_ret; exact ⟨⟨_, rfl⟩, rfl⟩)
                  | (go_round
                     case rel => exact ⟨k + 1, _, by omega, by go_num, rfl⟩
                     case measure => simp [intOf]; omega)
              · go_wp2_with fail
                go_ret
                exact ⟨⟨_, rfl⟩, rfl⟩

set_option maxRecDepth 100000 in
set_option maxHeartbeats 4000000 in
theorem zb7_any {w : World} {a0 a1 a2 : Option Addr} {len0 cap0 len1 cap1 len2 cap2 : Nat} {ps qs : List (ByteArray × ByteArray)} {hs : List Hd} (h0 : IsP w a0 len0 ps) (h1 : IsH w a1 len1 hs) (h2 : IsP w a2 len2 qs) (hl0 : len0 ≤ maxLen) (hl1 : len1 ≤ maxLen) (hl2 : len2 ≤ maxLen) :
    Calls Try.prog 24 #[.slice a0 len0 cap0, .slice a1 len1 cap1, .slice a2 len2 cap2] w fun e w' => SomeBool e ∧ w' = w := by
  unfold maxLen at hl0 hl1 hl2
  by_cases hbig : 1048576 < len0
  · go_enter Try.func24, Try.ntmps24
    go_wp2_with fail
    go_ret
    exact ⟨⟨_, rfl⟩, rfl⟩
  · go_enter Try.func24, Try.ntmps24
    go_wp2_with fail
    go_loop [7, 8] (fun n i => ∃ (k : Nat) (r : Int), k ≤ len0 ∧ i = .int .i64 k ∧ n = .int .i64 r) (fun _ i => len0 - (intOf i).toNat)
    case atStart => exact ⟨0, _, Nat.zero_le _, rfl, rfl⟩
    case round =>
      obtain ⟨k, r, hk, rfl, rfl⟩ := hrel
      by_cases hlt : k < len0
      · obtain ⟨hlen, hsz, hA⟩ := h0
        obtain ⟨b, off, rfl, hblt, hc⟩ := hA (by omega)
        obtain ⟨e0, e1⟩ := hc k (by omega)
        obtain ⟨s0, s1⟩ := hsz _ (List.getElem_mem (show k < _ by omega))
        obtain ⟨q, hq⟩ : ∃ q, q = ps[k] := ⟨_, rfl⟩
        rw [← hq] at e0 e1 s0 s1
        unfold maxLen at s0 s1
        have hki : (k : Int) < (len0 : Int) := by omega
        clear hc hA hsz hq
        go_wp2
        all_goals first
          | (go_ret; exact ⟨⟨_, rfl⟩, rfl⟩)
          | (go_round
             case rel => exact ⟨k + 1, _, by omega, by go_num, rfl⟩
             case measure => simp [intOf]; omega)
      · by_cases hbiglen1 : 1048576 < len1
        · go_wp2_with fail
          go_ret
          exact ⟨⟨_, rfl⟩, rfl⟩
        · by_cases hsum : 1048576 < wrap64 (r + len1)
          · go_wp2_with fail
            go_ret
            exact ⟨⟨_, rfl⟩, rfl⟩
          · go_wp2_with fail
            go_loop [7, 9] (fun n i => ∃ (k : Nat) (r : Int), k ≤ len1 ∧ i = .int .i64 k ∧ n = .int .i64 r) (fun _ i => len1 - (intOf i).toNat)
            case atStart => exact ⟨0, _, Nat.zero_le _, rfl, rfl⟩
            case round =>
              obtain ⟨k, r, hk, rfl, rfl⟩ := hrel
              by_cases hlt : k < len1
              · obtain ⟨hlen, hsz, hA⟩ := h1
                obtain ⟨b, off, rfl, hblt, hc⟩ := hA (by omega)
                obtain ⟨e0, e1, e2⟩ := hc k (by omega)
                obtain ⟨s0, s1⟩ := hsz _ (List.getElem_mem (show k < _ by omega))
                obtain ⟨q, hq⟩ : ∃ q, q = hs[k] := ⟨_, rfl⟩
                rw [← hq] at e0 e1 e2 s0 s1
                unfold maxLen at s0 s1
                have hki : (k : Int) < (len1 : Int) := by omega
                clear hc hA hsz hq
                go_wp2
                all_goals first
                  | (go_ret; exact ⟨⟨_, rfl⟩, rfl⟩)
                  | (go_round
                     case rel => exact ⟨k + 1, _, by omega, by go_num, rfl⟩
                     case measure => simp [intOf]; omega)
              · by_cases hbiglen2 : 1048576 < len2
                · go_wp2_with fail
                  go_ret
                  exact ⟨⟨_, rfl⟩, rfl⟩
                · by_cases hsum : 1048576 < wrap64 (r + len2)
                  · go_wp2_with fail
                    go_ret
                    exact ⟨⟨_, rfl⟩, rfl⟩
                  · go_wp2_with fail
                    go_loop [7, 10] (fun n i => ∃ (k : Nat) (r : Int), k ≤ len2 ∧ i = .int .i64 k ∧ n = .int .i64 r) (fun _ i => len2 - (intOf i).toNat)
                    case atStart => exact ⟨0, _, Nat.zero_le _, rfl, rfl⟩
                    case round =>
                      obtain ⟨k, r, hk, rfl, rfl⟩ := hrel
                      by_cases hlt : k < len2
                      · obtain ⟨hlen, hsz, hA⟩ := h2
                        obtain ⟨b, off, rfl, hblt, hc⟩ := hA (by omega)
                        obtain ⟨e0, e1⟩ := hc k (by omega)
                        obtain ⟨s0, s1⟩ := hsz _ (List.getElem_mem (show k < _ by omega))
                        obtain ⟨q, hq⟩ : ∃ q, q = qs[k] := ⟨_, rfl⟩
                        rw [← hq] at e0 e1 s0 s1
                        unfold maxLen at s0 s1
                        have hki : (k : Int) < (len2 : Int) := by omega
                        clear hc hA hsz hq
                        go_wp2
                        all_goals first
                          | (go_ret; exact ⟨⟨_, rfl⟩, rfl⟩)
                          | (go_round
                             case rel => exact ⟨k + 1, _, by omega, by go_num, rfl⟩
                             case measure => simp [intOf]; omega)
                      · go_wp2_with fail
                        go_ret
                        exact ⟨⟨_, rfl⟩, rfl⟩

end Go.Proofs.Qxb6601864a.bd
