import Derived.Test.Qxb6002375aDoorFull
import Derived.Test.Qxb6002375aDoorMisc
import Derived.Test.Qxb6002375aDoorCopy
namespace Go.Proofs.Qxb6002375aDoor.rv
open Go.ChangeShapes Go.WideShapes Go.ChangeAt Go.RowKit
set_option linter.unusedVariables false
set_option linter.unusedSimpArgs false

/-- what ReadVolume leaves: the promised bytes, and the reader behind them -/
def Vol (D : List Int) (a : Option Addr) (g R : Nat) (w : World) (e : Ending) (w' : World) : Prop :=
  ∃ h c, e = .returned (.tuple #[.slice (some ⟨h, 0, none⟩) (wantLen D) c, .nilIface]) ∧ Rd D a g R (wantLen D) w' ∧ Byt D w' h (wantLen D) ∧ h < w'.heap.size ∧ Touch (fun b => b = R ∨ w.heap.size ≤ b) w w'

theorem nums_get (D : List Int) (j : Nat) (hj : j < D.length) : (nums D)[j]? = some (.int .u8 (bt D j)) := by
  simp only [nums, List.getElem?_map, bt]
  rw [List.getElem?_eq_getElem hj]
  simp [List.getD, List.getElem?_eq_getElem hj]

/-- block h holds the first m bytes of D where its cells begin so -/
theorem byt_of {D : List Int} {h m : Nat} {w : World} {cs : List Value} (hh : w.heap[h]? = some (.cells cs.toArray 5)) (hc : ∀ j, j < m → cs[j]? = (nums D)[j]?) (hm : m ≤ D.length) : Byt D w h m := fun j hj => by
  simp only [World.cell?, hh]
  have := hc j hj
  rw [nums_get D j (by omega)] at this
  simpa using this

theorem Rd.keep {D : List Int} {a : Option Addr} {g R i : Nat} {w w' : World} {N : Nat} (h : Rd D a g R i w) (hb : Below N w w') (hR : R < N) (hg : D = [] ∨ g < N) : Rd D a g R i w' where
  rd := by obtain ⟨q, hq⟩ := h.rd; exact ⟨q, by rw [hb.block R hR]; exact hq⟩
  dat := by
    rcases h.dat with h1 | ⟨h1, h2⟩
    · exact .inl h1
    · rcases hg with hg | hg
      · exact .inl hg
      · exact .inr ⟨h1, by rw [hb.block g hg]; exact h2⟩
  le := h.le

theorem Rd.lt {D : List Int} {a : Option Addr} {g R i : Nat} {w : World} (h : Rd D a g R i w) : R < w.heap.size := by obtain ⟨q, hq⟩ := h.rd; exact lt_of_heap hq
theorem Rd.glt {D : List Int} {a : Option Addr} {g R i : Nat} {w : World} (h : Rd D a g R i w) : D = [] ∨ g < w.heap.size := by
  rcases h.dat with h1 | ⟨_, h2⟩
  · exact .inl h1
  · exact .inr (lt_of_heap h2)

theorem touch_of_below {Own : Nat → Prop} {w w' : World} {N : Nat} (h : Below N w w') (hN : ∀ k, k < w.heap.size → ¬ Own k → k < N) : Touch Own w w' := ⟨h.os, h.tape, h.output, h.size, fun k hk ho => h.block k (hN k hk ho)⟩

theorem over_get_lo (cur cs : List Value) (o j : Nat) (hj : j < o) (ho : o ≤ cur.length) : (over cur o cs)[j]? = cur[j]? := by
  unfold over
  rw [List.append_assoc, List.getElem?_append_left (by simp; omega), List.getElem?_take, if_pos hj]
theorem over_get_mid (cur cs : List Value) (o j : Nat) (hj : o ≤ j) (hj2 : j < o + cs.length) (ho : o ≤ cur.length) : (over cur o cs)[j]? = cs[j - o]? := by
  unfold over
  rw [List.getElem?_append_left (by simp; omega), List.getElem?_append_right (by simp; omega)]
  have : (cur.take o).length = o := by simp; omega
  rw [this]
theorem drop_take_get (xs : List Value) (i k j : Nat) (hj : j < k) : ((xs.drop i).take k)[j]? = xs[i + j]? := by
  rw [List.getElem?_take, if_pos hj, List.getElem?_drop]

theorem touch_first {w w1 w2 : World} {R : Nat} (hb1 : Below w.heap.size w w1) (ht2 : Touch (fun b => b = R ∨ b = w.heap.size) w1 w2) : Touch (fun b => b = R ∨ w.heap.size ≤ b) w w2 :=
  (touch_of_below hb1 (fun k hk _ => hk)).trans (ht2.mono (fun k hk => by rcases hk with h | h <;> omega))

theorem byt_head {D : List Int} {h m : Nat} {w : World} {cur : List Value} (hh : w.heap[h]? = some (.cells (over cur 0 ((nums D).drop 0 |>.take m)).toArray 5)) (hm : m ≤ D.length) : Byt D w h m :=
  byt_of hh (fun j hj => by rw [over_get_mid _ _ _ _ (Nat.zero_le _) (by simp [nums_length]; omega) (Nat.zero_le _), Nat.sub_zero, drop_take_get _ _ _ _ hj, Nat.zero_add]) hm

theorem vol_short (D : List Int) (a : Option Addr) (g R N : Nat) (a0 a1 : Addr) (w : World)
    (G : Glob N a0 a1 w) (hN : N ≤ w.heap.size) (hNR : N ≤ R) (hR : Rd D a g R 0 w) (hgw : g < w.heap.size) (hn : D.length < 56) :
    Calls Tryd.prog 9 #[.iface 25 (.pointer (some ⟨R, 0, none⟩))] w fun e w' => Vol D a g R w e w' := by
  have HG : Hid (Glob N a0 a1 w) := G
  have HR : Hid (Rd D a g R 0 w) := hR
  have hRw := hR.lt
  clear G hR
  have Hv : Hid (wantLen D = D.length) := by show wantLen D = D.length; rw [wantLen, if_pos hn]
  have hmk : ∀ w : World, (Instr.makeSlice 22 (.int .i64 56) (.int .i64 56)).run Tryd.prog w = _ := run_make_row' 22 5 (.int .u8 0) 1 Tryd.underlying22 info5' rfl .i64 .i64 56 (by omega) (by omega)
  have q1 : (D.length : Int) < 56 := by omega
  go_enter Tryd.func9, Tryd.ntmps9
  go_wp2_with fail
  go_at_call 16
  have hb1 : Below w.heap.size w (w.alloc (.cells (madeCells #[Value.int .u8 0] 56) 5)) := (Below.refl _ w).alloc (Nat.le_refl _) _
  have hh1 : (w.alloc (.cells (madeCells #[Value.int .u8 0] 56) 5)).heap[w.heap.size]? = some (.cells (List.replicate 56 (Value.int .u8 0)).toArray 5) := by rw [← made_eq]; exact heap_new w _
  refine (readFull_any D a g R w.heap.size 0 D.length 0 56 56 N a0 a1 (List.replicate 56 (Value.int .u8 0)) _ (HG.out.below ⟨hb1.os, hb1.tape, hb1.output, hb1.size, fun k hk => hb1.block k (by omega)⟩) (Nat.le_trans hN hb1.size) hNR hN (HR.out.keep hb1 hRw (.inr hgw)) hh1 (by omega) (by omega) (by simp) (by omega) (by omega) (by omega) (by omega)).mono ?_
  rintro e w2 ⟨rfl, hr2, hh2, ht2⟩
  clear hmk hh1
  go_wp2_with fail
  go_ret2
  refine ⟨w.heap.size, 56, ?_, ?_, ?_, lt_of_heap hh2, touch_first hb1 ht2⟩
  · rw [Hv.out]; rfl
  · rw [Hv.out]; rw [Nat.zero_add] at hr2; exact hr2
  · rw [Hv.out]; exact byt_head hh2 (Nat.le_refl _)

set_option maxHeartbeats 2000000 in
theorem vol_long (D : List Int) (a : Option Addr) (g R N : Nat) (a0 a1 : Addr) (w : World)
    (G : Glob N a0 a1 w) (hN : N ≤ w.heap.size) (hNR : N ≤ R) (hR : Rd D a g R 0 w) (hs : Small D) (hgw : g < w.heap.size) (hD : D.length ≤ 1048576) (hn : ¬ D.length < 56) :
    Calls Tryd.prog 9 #[.iface 25 (.pointer (some ⟨R, 0, none⟩))] w fun e w' => Vol D a g R w e w' := by
  have HG : Hid (Glob N a0 a1 w) := G
  have HR : Hid (Rd D a g R 0 w) := hR
  have Hs : Hid (Small D) := hs
  have hRw := hR.lt
  have hH := num16_le hs 48
  have hV := num64_le hs 32
  have Hv : Hid (wantLen D = if 4194304 < num64 D 32 then 56 else min (max 56 (max (num16 D 48).toNat (num64 D 32).toNat)) D.length) := by
    show wantLen D = _
    rw [wantLen, if_neg hn]
  clear G hR hs
  have hmk : ∀ w : World, (Instr.makeSlice 22 (.int .i64 56) (.int .i64 56)).run Tryd.prog w = _ := run_make_row' 22 5 (.int .u8 0) 1 Tryd.underlying22 info5' rfl .i64 .i64 56 (by omega) (by omega)
  go_enter Tryd.func9, Tryd.ntmps9
  go_wp2_with fail
  go_at_call 16
  have hb1 : Below w.heap.size w (w.alloc (.cells (madeCells #[Value.int .u8 0] 56) 5)) := (Below.refl _ w).alloc (Nat.le_refl _) _
  have hh1 : (w.alloc (.cells (madeCells #[Value.int .u8 0] 56) 5)).heap[w.heap.size]? = some (.cells (List.replicate 56 (Value.int .u8 0)).toArray 5) := by rw [← made_eq]; exact heap_new w _
  refine (readFull_any D a g R w.heap.size 0 56 0 56 56 N a0 a1 (List.replicate 56 (Value.int .u8 0)) _ (HG.out.below ⟨hb1.os, hb1.tape, hb1.output, hb1.size, fun k hk => hb1.block k (by omega)⟩) (Nat.le_trans hN hb1.size) hNR hN (HR.out.keep hb1 hRw (.inr hgw)) hh1 (by omega) hD (by simp) (by omega) (by omega) (by omega) (by omega)).mono ?_
  rintro e w2 ⟨rfl, hr2, hh2, ht2⟩
  clear hmk hh1
  have Hr2 : Hid (Rd D a g R 56 w2) := by rw [Nat.zero_add] at hr2; exact hr2
  have hby2 : Byt D w2 w.heap.size 56 := byt_head hh2 (by omega)
  have ht2' : Touch (fun b => b = R ∨ w.heap.size ≤ b) w w2 := touch_first hb1 ht2
  have hlt2 : w.heap.size < w2.heap.size := lt_of_heap hh2
  have Hh2 : Hid (w2.heap[w.heap.size]? = some (.cells (over (List.replicate 56 (Value.int .u8 0)) 0 ((nums D).drop 0 |>.take 56)).toArray 5)) := hh2
  have Hl : Hid (Calls Tryd.prog 17 #[.slice (some ⟨w.heap.size, 0, none⟩) 56 56] w2 fun e w' => e = .returned (.tuple #[.int .i64 (num16 D 48), .int .u64 (num64 D 32)]) ∧ Below w2.heap.size w2 w') := lens_any D w.heap.size w2 Hs.out hlt2 hby2
  have Hby2 : Hid (Byt D w2 w.heap.size 56) := hby2
  clear hby2 hr2 hh2 hb1 ht2
  go_wp2_with fail
  go_at_call 17
  refine Hl.out.mono ?_
  rintro e w3 ⟨rfl, hb3⟩
  clear Hl
  generalize num16 D 48 = H at hH Hv ⊢
  generalize num64 D 32 = V at hV Hv ⊢
  have ht3 : Touch (fun b => b = R ∨ w.heap.size ≤ b) w w3 := ht2'.trans (touch_of_below hb3 (fun k hk _ => hk))
  have Hr3 : Hid (Rd D a g R 56 w3) := Hr2.out.keep hb3 (Nat.lt_of_lt_of_le hRw ht2'.size) (.inr (Nat.lt_of_lt_of_le hgw ht2'.size))
  have Hby3 : Hid (Byt D w3 w.heap.size 56) := byt_below Hby2.out hb3 hlt2
  have hlt3 : w.heap.size < w3.heap.size := Nat.lt_of_lt_of_le hlt2 hb3.size
  have Hh3 : Hid (w3.heap[w.heap.size]? = some (.cells (over (List.replicate 56 (Value.int .u8 0)) 0 ((nums D).drop 0 |>.take 56)).toArray 5)) := by
    show w3.heap[w.heap.size]? = _
    rw [hb3.block _ hlt2]; exact Hh2.out
  by_cases q2 : 4194304 < V
  · go_wp2_with fail
    go_ret2
    have hw : wantLen D = 56 := by rw [Hv.out, if_pos q2]
    refine ⟨w.heap.size, 56, ?_, ?_, ?_, hlt3, ht3⟩
    · rw [hw]; rfl
    · rw [hw]; exact Hr3.out
    · rw [hw]; exact Hby3.out
  · rw [if_neg q2] at Hv
    have wV : IntKind.i64.wrap V = V := i64_id _ (by omega) (by omega)
    obtain ⟨S, hS⟩ : ∃ S : Nat, max H V = (S : Int) := ⟨(max H V).toNat, by omega⟩
    have HS : Hid (max H.toNat V.toNat = S ∧ S ≤ 4194304) := by show _ ∧ _; omega
    have hS4 : S ≤ 4194304 := HS.out.2
    clear hH hV
    by_cases q3 : S ≤ 56
    · have q4 : (S : Int) ≤ 56 := by omega
      have hw : wantLen D = 56 := by have h1 := HS.out.1; rw [Hv.out, h1]; omega
      have Hw : Hid (wantLen D = 56) := hw
      clear hw
      go_wp2_with fail
      go_ret2
      refine ⟨w.heap.size, 56, ?_, ?_, ?_, hlt3, ht3⟩
      · rw [Hw.out]; rfl
      · rw [Hw.out]; exact Hr3.out
      · rw [Hw.out]; exact Hby3.out
    · have q4 : ¬ (S : Int) ≤ 56 := by omega
      obtain ⟨cs, hcs⟩ : ∃ cs, cs = over (List.replicate 56 (Value.int .u8 0)) 0 ((nums D).drop 0 |>.take 56) := ⟨_, rfl⟩
      have Hcl : Hid (cs.length = 56) := by
        show cs.length = 56
        rw [hcs, over_length _ _ _ (by simp; omega)]; simp
      have Hcg : Hid (∀ j, j < 56 → cs[j]? = (nums D)[j]?) := fun j hj => by
        rw [hcs, over_get_mid _ _ _ _ (Nat.zero_le _) (by simp [nums_length]; omega) (Nat.zero_le _), Nat.sub_zero, drop_take_get _ _ _ _ hj, Nat.zero_add]
      have Hg : Hid (Calls Tryd.prog 18 #[.slice (some ⟨w.heap.size, 0, none⟩) 56 56, .int .i64 ((S - 56 : Nat) : Int)] w3 fun e w' => Grew w3 (S - 56) cs e w') :=
        grow_any w.heap.size (S - 56) cs w3 (by omega) (by omega) Hcl.out (by rw [hcs]; exact Hh3.out)
      clear hcs
      go_wp2_with fail
      go_at_call 18
      rw [show (S : Int) - 56 = ((S - 56 : Nat) : Int) from by omega]
      refine Hg.out.mono ?_
      rintro e w4 ⟨G, zs, hG1, hG2, hG3, rfl, hw4⟩
      have hw4b : Below w3.heap.size w3 w4 := by rw [hw4]; exact (Below.refl _ w3).drew.alloc (Nat.le_refl _) _
      have hh4 : w4.heap[w3.heap.size]? = some (.cells (cs ++ zs).toArray 5) := by rw [hw4]; exact heap_new w3.drew _
      obtain ⟨k, hk⟩ : ∃ k, k = min (S - 56) (D.length - 56) := ⟨_, rfl⟩
      have Hk : Hid (k = min (S - 56) (D.length - 56)) := hk
      have hkS : 56 + k ≤ G := by omega
      have hkn : 56 + k ≤ D.length := by omega
      have Hf : Hid (Calls Tryd.prog 16 #[.iface 25 (.pointer (some ⟨R, 0, none⟩)), .slice (some ⟨w3.heap.size, 56, none⟩) (S - 56) (G - 56)] w4 fun e w' =>
          e = .returned (.tuple #[.slice (some ⟨w3.heap.size, 56, none⟩) k (G - 56), .nilIface]) ∧ Rd D a g R (56 + k) w' ∧ w'.heap[w3.heap.size]? = some (.cells (over (cs ++ zs) 56 ((nums D).drop 56 |>.take k)).toArray 5) ∧ Touch (fun b => b = R ∨ b = w3.heap.size) w4 w') :=
        readFull_any D a g R w3.heap.size 56 k 56 (S - 56) (G - 56) N a0 a1 (cs ++ zs) w4
          ((HG.out.below (ht3.below hN (fun k hk => by rintro (h | h) <;> omega))).below ⟨hw4b.os, hw4b.tape, hw4b.output, hw4b.size, fun k hk => hw4b.block k (by omega)⟩)
          (by have := hw4b.size; omega) hNR (by omega) (Hr3.out.keep hw4b (by omega) (.inr (by omega))) hh4 (by omega) hD (by rw [hG3]; omega) (by omega) (by omega) (by omega) hk
      have ht4 : Touch (fun b => b = R ∨ w.heap.size ≤ b) w w4 := ht3.trans (touch_of_below hw4b (fun k hk _ => hk))
      have HG3 : Hid ((cs ++ zs).length = G) := hG3
      have Hw : Hid (wantLen D = 56 + k) := by show wantLen D = 56 + k; have h1 := HS.out.1; rw [Hv.out, h1]; omega
      have hGS : (S : Int) ≤ (G : Int) := by omega
      have hS0 : (0 : Int) ≤ (S : Int) := by omega
      have hG56 : ¬ G = 56 := by omega
      have h56S : (56 : Int) ≤ (S : Int) := by omega
      have hk0 : (0 : Int) ≤ 56 + (k : Int) := by omega
      have hkG : 56 + (k : Int) ≤ (G : Int) := by omega
      clear Hg hk hw4 hh4 hG3 hw4b
      go_wp2_with fail
      go_at_call 16
      refine Hf.out.mono ?_
      rintro e w5 ⟨rfl, hr5, hh5, ht5⟩
      clear Hf
      go_wp2_with fail
      go_ret2
      refine ⟨w3.heap.size, G, ?_, ?_, ?_, lt_of_heap hh5, ht4.trans (ht5.mono (fun k hk => by rcases hk with h | h <;> omega))⟩
      · rw [Hw.out]; rfl
      · rw [Hw.out]; exact hr5
      · rw [Hw.out]
        refine byt_of hh5 (fun j hj => ?_) hkn
        have h1 := Hcl.out
        have h2 := HG3.out
        rcases Nat.lt_or_ge j 56 with h3 | h3
        · rw [over_get_lo _ _ _ _ h3 (by omega), List.getElem?_append_left (by omega)]; exact Hcg.out j h3
        · rw [over_get_mid _ _ _ _ h3 (by simp [nums_length]; omega) (by omega), drop_take_get _ _ _ _ (by omega)]
          congr 1
          omega
end Go.Proofs.Qxb6002375aDoor.rv
