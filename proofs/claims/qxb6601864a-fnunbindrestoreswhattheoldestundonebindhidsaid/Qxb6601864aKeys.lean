import Derived.Test.Qxb6601864aNew
namespace Go.Proofs.Qxb6601864a.bd
open Go.ChangeShapes Go.WideShapes Go.ChangeAt Go.RowKit Go.Maps
set_option linter.unusedVariables false

def strsOf (l : List ByteArray) : List Value := l.map Value.string
theorem info9 : (Try.prog.info? 9).map (fun i => (i.zero, i.size, i.bytes)) = some (some (.string ⟨#[]⟩), 1, 16) := by kernel_rfl

/-- every key that the laws look at -/
def keysOf (ps : List (ByteArray × ByteArray)) (hs : List Hd) (qs : List (ByteArray × ByteArray)) : List ByteArray := ps.map (·.1) ++ hs.map (·.p) ++ qs.map (·.1)

theorem keys_step {w : World} {base n : Nat} {v : Value} {pre xs : List ByteArray} {k : Nat} {x : ByteArray} (h : w.ownsRow base 9 1 v n (strsOf (pre ++ xs.take k) ++ [.string x])) (hx : xs[k]? = some x) : w.ownsRow base 9 1 v n (strsOf (pre ++ xs.take (k + 1))) := by
  rw [List.take_add_one, hx]
  simpa [strsOf] using h

set_option maxHeartbeats 2000000 in
theorem allKeys_any {w : World} {a0 a1 a2 : Option Addr} {len0 cap0 len1 cap1 len2 cap2 : Nat} {ps qs : List (ByteArray × ByteArray)} {hs : List Hd} (h0 : IsP w a0 len0 ps) (h1 : IsH w a1 len1 hs) (h2 : IsP w a2 len2 qs) (hl0 : len0 ≤ 4096) (hl1 : len1 ≤ 4096) (hl2 : len2 ≤ 4096) :
    Calls Try.prog 21 #[.slice a0 len0 cap0, .slice a1 len1 cap1, .slice a2 len2 cap2] w fun e w' =>
      ∃ v, e = .returned v ∧ w'.ownsRow w.heap.size 9 1 v (len0 + len1 + len2) (strsOf (keysOf ps hs qs)) ∧ Below w.heap.size w w' := by
  obtain ⟨i0, hi, hz0, hz1, hz2⟩ := info_parts info9
  go_enter Try.func21, Try.ntmps21
  go_wp2_with (at_make; refine wpList_make_own _ rfl _ _ 39 rfl w.heap.size 9 i0 (.string ⟨#[]⟩) 1 Try.underlying39 hi hz0 hz1 _ _ _ (len0 + len1 + len2) rfl rfl (by omega) ?b2 ?b3 (Nat.le_refl _) ?_)
  case b2 => rw [hz2]; omega
  case b3 => unfold maxLen; omega
  intro w0 hown0 hgrow0
  go_wp2_with fail
  go_loopw [7, 8] (fun ks i wr => ∃ k : Nat, k ≤ len0 ∧ i = .int .i64 k ∧ wr.ownsRow w.heap.size 9 1 ks k (strsOf ([] ++ (ps.map (·.1)).take k)) ∧ Below w.heap.size w wr) (fun _ i _ => len0 - (intOf i).toNat)
  case atStart => exact ⟨0, Nat.zero_le _, rfl, hown0, (Below.refl _ _).grown hgrow0 (Nat.le_refl _) (fun k h => by cases h)⟩
  case round =>
    obtain ⟨k, hk, rfl, hown, hb⟩ := hrel
    by_cases hlt : k < len0
    · have h' := h0.below hb
      obtain ⟨hlen, hsz, hA⟩ := h'
      obtain ⟨b, off, rfl, hblt, hc⟩ := hA (by omega)
      obtain ⟨e0, e1⟩ := hc k (by omega)
      obtain ⟨q, hq⟩ : ∃ q, q = ps[k] := ⟨_, rfl⟩
      have Hq : Hid ((ps.map (·.1))[k]? = some q.1) := by show _ = _; rw [hq, List.getElem?_map, List.getElem?_eq_getElem (by omega)]; rfl
      rw [← hq] at e0 e1
      have hki : (k : Int) < (len0 : Int) := by omega
      clear hc hA hsz hq
      go_wp2_with (at_builtin; refine wpList_append_lies _ rfl _ _ 39 rfl w.heap.size 9 i0 _ 1 16 Try.underlying39 hi hz0 hz1 hz2 rfl (by omega) _ k _ rfl (hown.alloc _) ⟨wr.heap.size, 0, none⟩ 1 1 [.string q.1] rfl rfl (World.news_of_block (heap_alloc_new wr _)) (by simp [Value.oneCell']) (by omega) (by unfold maxLen; omega) (by omega) (Nat.le_trans hb.size (by simp)) (wr.heap.size + 1) (by simp) ?_; intro g cap w1 hown1 hgrow hat hlt1)
      go_roundw
      case rel =>
        exact ⟨k + 1, by omega, by go_num, keys_step hown1 Hq.out, (hb.alloc hb.size _).grown hgrow (Nat.le_trans hb.size (by simp)) (fun j hj => (hown.lt j hj).1)⟩
      case measure => simp [intOf]; omega
    · rw [List.take_of_length_le (by simp [h0.1]; omega), show k = len0 from by omega] at hown
      go_wp2_with fail
      go_loopw [7, 9] (fun ks i wr => ∃ k : Nat, k ≤ len1 ∧ i = .int .i64 k ∧ wr.ownsRow w.heap.size 9 1 ks (len0 + k) (strsOf ((ps.map (·.1)) ++ (hs.map (·.p)).take k)) ∧ Below w.heap.size w wr) (fun _ i _ => len1 - (intOf i).toNat)
      case atStart => exact ⟨0, Nat.zero_le _, rfl, by simpa using hown, hb⟩
      case round =>
        clear hown hb
        obtain ⟨k, hk, rfl, hown, hb⟩ := hrel
        by_cases hlt : k < len1
        · have h' := h1.below hb
          obtain ⟨hlen, hsz, hA⟩ := h'
          obtain ⟨b, off, rfl, hblt, hc⟩ := hA (by omega)
          obtain ⟨e0, e1, e2⟩ := hc k (by omega)
          obtain ⟨q, hq⟩ : ∃ q, q = hs[k] := ⟨_, rfl⟩
          have Hq : Hid ((hs.map (·.p))[k]? = some q.p) := by show _ = _; rw [hq, List.getElem?_map, List.getElem?_eq_getElem (by omega)]; rfl
          rw [← hq] at e0 e1 e2
          have hki : (k : Int) < (len1 : Int) := by omega
          clear hc hA hsz hq
          go_wp2_with (at_builtin; refine wpList_append_lies _ rfl _ _ 39 rfl w.heap.size 9 i0 _ 1 16 Try.underlying39 hi hz0 hz1 hz2 rfl (by omega) _ (len0 + k) _ rfl (hown.alloc _) ⟨wr.heap.size, 0, none⟩ 1 1 [.string q.p] rfl rfl (World.news_of_block (heap_alloc_new wr _)) (by simp [Value.oneCell']) (by omega) (by unfold maxLen; omega) (by omega) (Nat.le_trans hb.size (by simp)) (wr.heap.size + 1) (by simp) ?_; intro g cap w1 hown1 hgrow hat hlt1)
          go_roundw
          case rel =>
            exact ⟨k + 1, by omega, by go_num, keys_step hown1 Hq.out, (hb.alloc hb.size _).grown hgrow (Nat.le_trans hb.size (by simp)) (fun j hj => (hown.lt j hj).1)⟩
          case measure => simp [intOf]; omega
        · rw [List.take_of_length_le (by simp [h1.1]; omega), show k = len1 from by omega] at hown
          go_wp2_with fail
          go_loopw [7, 10] (fun ks i wr => ∃ k : Nat, k ≤ len2 ∧ i = .int .i64 k ∧ wr.ownsRow w.heap.size 9 1 ks (len0 + len1 + k) (strsOf ((ps.map (·.1) ++ hs.map (·.p)) ++ (qs.map (·.1)).take k)) ∧ Below w.heap.size w wr) (fun _ i _ => len2 - (intOf i).toNat)
          case atStart => exact ⟨0, Nat.zero_le _, rfl, by simpa using hown, hb⟩
          case round =>
            clear hown hb
            obtain ⟨k, hk, rfl, hown, hb⟩ := hrel
            by_cases hlt : k < len2
            · have h' := h2.below hb
              obtain ⟨hlen, hsz, hA⟩ := h'
              obtain ⟨b, off, rfl, hblt, hc⟩ := hA (by omega)
              obtain ⟨e0, e1⟩ := hc k (by omega)
              obtain ⟨q, hq⟩ : ∃ q, q = qs[k] := ⟨_, rfl⟩
              have Hq : Hid ((qs.map (·.1))[k]? = some q.1) := by show _ = _; rw [hq, List.getElem?_map, List.getElem?_eq_getElem (by omega)]; rfl
              rw [← hq] at e0 e1
              have hki : (k : Int) < (len2 : Int) := by omega
              clear hc hA hsz hq
              go_wp2_with (at_builtin; refine wpList_append_lies _ rfl _ _ 39 rfl w.heap.size 9 i0 _ 1 16 Try.underlying39 hi hz0 hz1 hz2 rfl (by omega) _ (len0 + len1 + k) _ rfl (hown.alloc _) ⟨wr.heap.size, 0, none⟩ 1 1 [.string q.1] rfl rfl (World.news_of_block (heap_alloc_new wr _)) (by simp [Value.oneCell']) (by omega) (by unfold maxLen; omega) (by omega) (Nat.le_trans hb.size (by simp)) (wr.heap.size + 1) (by simp) ?_; intro g cap w1 hown1 hgrow hat hlt1)
              go_roundw
              case rel =>
                exact ⟨k + 1, by omega, by go_num, keys_step hown1 Hq.out, (hb.alloc hb.size _).grown hgrow (Nat.le_trans hb.size (by simp)) (fun j hj => (hown.lt j hj).1)⟩
              case measure => simp [intOf]; omega
            · rw [List.take_of_length_le (by simp [h2.1]; omega), show k = len2 from by omega] at hown
              go_wp2_with fail
              go_ret
              exact ⟨_, rfl, hown, hb⟩
end Go.Proofs.Qxb6601864a.bd
