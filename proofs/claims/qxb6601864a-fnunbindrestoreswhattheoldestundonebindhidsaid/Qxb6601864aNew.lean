import Derived.Test.Qxb6601864aArgs
import Derived.Deep.RegionHeld3
import Derived.Deep.DrawnRows
namespace Go.Proofs.Qxb6601864a.bd
open Go.ChangeShapes Go.WideShapes Go.ChangeAt Go.RowKit Go.Maps
set_option linter.unusedVariables false
attribute [local go_sem ↓] Go.wp_at_zero Go.wp_at_succ

/-- the map that the pairs make -/
def newMap (ps : List (ByteArray × ByteArray)) : DataW Unit := ps.foldl (fun D q => D.put (KS q.1) (VS q.2)) (.map [])
theorem newMap_take {ps : List (ByteArray × ByteArray)} {q : ByteArray × ByteArray} {k : Nat} (h : ps[k]? = some q) : newMap (ps.take (k + 1)) = (newMap (ps.take k)).put (KS q.1) (VS q.2) := by
  rw [List.take_add_one, h]
  simp [newMap, List.foldl_append]

theorem Bd.drew {Own : Nat → Prop} {w : World} {B bm N : Nat} {D : DataW Unit} {hs : List Hd} (h : Bd Own w B bm N D hs) : Bd Own w.drew B bm N D hs := h

set_option maxHeartbeats 2000000 in
theorem newOf_any {w : World} {a0 a1 : Option Addr} {len0 cap0 len1 cap1 : Nat} {ps : List (ByteArray × ByteArray)} {hs : List Hd} (h0 : IsP w a0 len0 ps) (h1 : IsH w a1 len1 hs) (hl0 : len0 ≤ 4096) (hl1 : len1 ≤ 4096) :
    Calls Try.prog 16 #[.slice a0 len0 cap0, .slice a1 len1 cap1] w fun e w' => e = .returned (.pointer (some ⟨w.heap.size + 1, 0, none⟩)) ∧ Bd (fun k => w.heap.size ≤ k) w' (w.heap.size + 1) w.heap.size len0 (newMap ps) hs ∧ Below w.heap.size w w' := by
  go_enter Try.func16, Try.ntmps16
  go_wp2_with fail
  refine new_any.mono ?_
  rintro e w1 ⟨rfl, hbd1, hb1⟩
  go_wp2_with fail
  refine (bound_any hbd1).mono ?_
  rintro e w2 ⟨rfl, hw2⟩
  rw [hw2]
  clear hw2
  go_wp2_with fail
  go_loopw [7] (fun i wr => ∃ k : Nat, k ≤ len0 ∧ i = .int .i64 k ∧ Bd (fun k => w.heap.size ≤ k) wr (w.heap.size + 1) w.heap.size k (newMap (ps.take k)) [] ∧ Below w.heap.size w wr) (fun i _ => len0 - (intOf i).toNat)
  case atStart => exact ⟨0, Nat.zero_le _, rfl, hbd1, hb1⟩
  case round =>
    obtain ⟨k, hk, rfl, hbd, hb⟩ := hrel
    clear hbd1 hb1
    by_cases hlt : k < len0
    · have h0' := h0.below hb
      obtain ⟨hlen, hsz, hA⟩ := h0'
      clear h0
      obtain ⟨b, off, rfl, hblt, hc⟩ := hA (by omega)
      obtain ⟨e0, e1⟩ := hc k (by omega)
      obtain ⟨s0, s1⟩ := hsz _ (List.getElem_mem (show k < ps.length by omega))
      obtain ⟨q, hq⟩ : ∃ q, q = ps[k] := ⟨_, rfl⟩
      have Hq : Hid (ps[k]? = some q) := by rw [hq]; exact List.getElem?_eq_getElem (by omega)
      rw [← hq] at e0 e1 s0 s1
      have hki : (k : Int) < (len0 : Int) := by omega
      clear hc hA hsz hq
      obtain ⟨v', hB', hM', hr', _, _, hog'⟩ := hbd
      obtain ⟨w5, hrun, hM5, hturn⟩ := hM'.drew.store law Try.underlying37 (by unfold maxLen; omega) (WideMaps.keyOf_string_mk Try.underlying9 s0) (plainElem_string Try.underlying9 s1)
      go_wp2_with fail
      go_region
      go_wp2_with fail
      go_roundw
      case rel =>
        obtain ⟨q1, q2⟩ := Bd_turned (hs := []) hB' hr' (Nat.le_succ _) (Nat.le_refl _) hog' hturn hM5
        refine ⟨k + 1, by omega, by go_num, ?_, hb.drew.trans (q2.below (Own := fun k => w.heap.size ≤ k) hb.size (fun k h1 h2 => by omega))⟩
        rw [newMap_take Hq.out]
        exact q1
      case measure => simp [intOf]; omega
    · have hkl : k = len0 := by omega
      subst hkl
      have Hps : Hid (ps.take k = ps) := List.take_of_length_le (by rw [h0.1]; exact Nat.le_refl _)
      go_wp2_with fail
      go_loopw [8] (fun i wr => ∃ k' : Nat, k' ≤ len1 ∧ i = .int .i64 k' ∧ Bd (fun k => w.heap.size ≤ k) wr (w.heap.size + 1) w.heap.size k (newMap ps) (hs.take k') ∧ Below w.heap.size w wr) (fun i _ => len1 - (intOf i).toNat)
      case atStart => exact ⟨0, Nat.zero_le _, rfl, by rw [Hps.out] at hbd; exact hbd, hb⟩
      case round =>
        obtain ⟨j, hj, rfl, hbd2, hb2⟩ := hrel
        clear hbd hb h0
        by_cases hlt1 : j < len1
        · obtain ⟨hlen, hsz, hA⟩ := h1
          obtain ⟨b, off, rfl, hblt, hc⟩ := hA (by omega)
          obtain ⟨e0, e1, e2⟩ := hc j (by omega)
          rw [← hb2.cell (p := ⟨b, off + j * 3, none⟩) hblt] at e0
          rw [← hb2.cell (p := ⟨b, off + j * 3 + 1, none⟩) hblt] at e1
          rw [← hb2.cell (p := ⟨b, off + j * 3 + 2, none⟩) hblt] at e2
          obtain ⟨q, hq⟩ : ∃ q, q = hs[j] := ⟨_, rfl⟩
          have Hq : Hid (hs[j]? = some q) := by rw [hq]; exact List.getElem?_eq_getElem (by omega)
          rw [← hq] at e0 e1 e2
          have hki : (j : Int) < (len1 : Int) := by omega
          have hk0 : (0 : Int) ≤ (j : Int) := by omega
          have hll : (hs.take j).length ≤ 1000000 := by rw [List.length_take]; omega
          have hOO : ∀ k, wr.heap.size ≤ k → w.heap.size ≤ k := fun k h => Nat.le_trans hb2.size h
          clear hc hA hsz hq
          have Hbd : Hid (Bd (fun k => w.heap.size ≤ k) wr.drew (w.heap.size + 1) w.heap.size k (newMap ps) (hs.take j)) := hbd2.drew
          clear hbd2
          go_wp2_with fail
          go_region_held3 (fun w' => w'.cell? ⟨b, off + j * 3, none⟩ = some (.string q.p) ∧ w'.cell? ⟨b, off + j * 3 + 1, none⟩ = some (.string q.s) ∧ w'.cell? ⟨b, off + j * 3 + 2, none⟩ = some (.bool q.b)) (go_keep) ((go_at_call 25; refine (push_any (Own := fun k => w.heap.size ≤ k) Hbd.out hOO q.p q.s q.b hll).mono ?_; rintro e w6 ⟨rfl, hbd6, ht6⟩; have hk6 : Below w.heap.size wr.drew w6 := ht6.below hb2.size (fun k h1 h2 => by omega); have g0 := (hk6.cell (p := ⟨b, off + j * 3, none⟩) hblt).trans e0; have g1 := (hk6.cell (p := ⟨b, off + j * 3 + 1, none⟩) hblt).trans e1; have g2 := (hk6.cell (p := ⟨b, off + j * 3 + 2, none⟩) hblt).trans e2))
          go_wp2_with fail
          go_roundw
          case rel =>
            refine ⟨j + 1, by omega, by go_num, ?_, hb2.drew.trans hk6⟩
            rw [List.take_add_one, Hq.out]
            exact hbd6
          case measure => simp [intOf]; omega
        · have hjl : j = len1 := by omega
          subst hjl
          have Hhs : Hid (hs.take j = hs) := List.take_of_length_le (by rw [h1.1]; exact Nat.le_refl _)
          have Hbd : Hid (Bd (fun k => w.heap.size ≤ k) wr (w.heap.size + 1) w.heap.size k (newMap ps) hs) := by rw [Hhs.out] at hbd2; exact hbd2
          clear hbd2
          go_wp2_with fail
          go_ret
          exact ⟨rfl, Hbd.out, hb2⟩
end Go.Proofs.Qxb6601864a.bd
