import Derived.Test.Qxb6002375aDoorVol
namespace Go.Proofs.Qxb6002375aDoor.rv
open Go.ChangeShapes Go.WideShapes Go.ChangeAt Go.RowKit
set_option linter.unusedVariables false
set_option linter.unusedSimpArgs false

theorem wantLen_le (D : List Int) : wantLen D ≤ D.length := by
  unfold wantLen
  split
  · omega
  · split <;> omega

/-- the data as a reader holds it -/
def Dat (D : List Int) (a : Option Addr) (g : Nat) (w : World) : Prop := D = [] ∨ (a = some ⟨g, 0, none⟩ ∧ w.heap[g]? = some (.cells (nums D).toArray 5))

theorem byt_all {D : List Int} {g : Nat} {w : World} (h : w.heap[g]? = some (.cells (nums D).toArray 5)) : Byt D w g D.length := byt_of h (fun _ _ => rfl) (Nat.le_refl _)

theorem pre_all (D : List Int) (a : Option Addr) (g h c : Nat) (w : World) (hd : Dat D a g w) (hD : D.length ≤ 1048576) (hp : Byt D w h (wantLen D)) (hh : h < w.heap.size) :
    Calls Tryd.prog 10 #[.slice (some ⟨h, 0, none⟩) (wantLen D) c, .slice a D.length D.length] w fun e w' => e = .returned (.bool true) ∧ Below w.heap.size w w' := by
  have hle := wantLen_le D
  rcases hd with rfl | ⟨rfl, h2⟩
  · have h0 : wantLen [] = 0 := by simp at hle; exact hle
    rw [h0]
    refine (pre_zero _ a c _ _ w).mono ?_
    rintro e w' ⟨rfl, hw⟩
    rw [hw]
    exact ⟨rfl, Below.refl _ w⟩
  · exact pre_any D h g (wantLen D) c D.length D.length w hle hp (byt_all h2) hh (lt_of_heap h2) hD

theorem want_all (D : List Int) (a : Option Addr) (g : Nat) (w : World) (hd : Dat D a g w) (hs : Small D) (hD : D.length ≤ 1048576) :
    Calls Tryd.prog 11 #[.slice a D.length D.length] w fun e w' => e = .returned (.int .i64 (wantLen D)) ∧ Below w.heap.size w w' := by
  by_cases hn : D.length < 56
  · refine (wantLen_short D a D.length w hn).mono ?_
    rintro e w' ⟨rfl, hw⟩
    rw [hw]
    exact ⟨rfl, Below.refl _ w⟩
  · rcases hd with rfl | ⟨rfl, h2⟩
    · simp at hn
    · exact wantLen_any D g D.length w hs hn hD (lt_of_heap h2) (byt_all h2)

theorem vol_all (D : List Int) (a : Option Addr) (g R N : Nat) (a0 a1 : Addr) (w : World)
    (G : Glob N a0 a1 w) (hN : N ≤ w.heap.size) (hNR : N ≤ R) (hR : Rd D a g R 0 w) (hs : Small D) (hgw : g < w.heap.size) (hD : D.length ≤ 1048576) :
    Calls Tryd.prog 9 #[.iface 25 (.pointer (some ⟨R, 0, none⟩))] w fun e w' => Vol D a g R w e w' := by
  by_cases hn : D.length < 56
  · exact vol_short D a g R N a0 a1 w G hN hNR hR hgw hn
  · exact vol_long D a g R N a0 a1 w G hN hNR hR hs hgw hD hn

theorem below_le {N M : Nat} {w w' : World} (h : Below N w w') (hM : M ≤ N) : Below M w w' := ⟨h.os, h.tape, h.output, h.size, fun k hk => h.block k (by omega)⟩

set_option maxHeartbeats 2000000 in
theorem law_any (D : List Int) (x a : Option Addr) (g n c : Nat) (a0 a1 : Addr) (w : World) (G : Glob w.heap.size a0 a1 w) (hs : Small D) (hn : D.length = n) (hD : n ≤ 1048576)
    (hcopy : Calls Tryd.prog 7 #[.slice x n c] w fun e w' => e = .returned (.slice a n n) ∧ Dat D a g w' ∧ g < w'.heap.size ∧ Below w.heap.size w w') :
    Calls Tryd.prog 3 #[.slice x n c] w fun e w' => e = .returned (.bool true) ∧ Below w.heap.size w w' := by
  have HG : Hid (Glob w.heap.size a0 a1 w) := G
  have Hs : Hid (Small D) := hs
  have Hn : Hid (D.length = n) := hn
  have Hc : Hid (Calls Tryd.prog 7 #[.slice x n c] w fun e w' => e = .returned (.slice a n n) ∧ Dat D a g w' ∧ g < w'.heap.size ∧ Below w.heap.size w w') := hcopy
  have Hwl : Hid (wantLen D ≤ n) := by show wantLen D ≤ n; rw [← hn]; exact wantLen_le D
  have hDn : D.length ≤ 1048576 := by omega
  clear G hs hn hcopy
  have q1 : ¬ (1048576 : Int) < (n : Int) := by omega
  go_enter Tryd.func3, Tryd.ntmps3
  go_wp2_with fail
  go_at_call 6
  refine (bytes_any x n c w hD).mono ?_
  rintro e w' ⟨rfl, hw⟩
  rw [hw]
  clear hw w'
  go_wp2_with fail
  go_at_call 7
  refine Hc.out.mono ?_
  rintro e w1 ⟨rfl, hd1, hg1, hb1⟩
  clear Hc
  go_wp2_with fail
  go_at_call 8
  refine (new_any _ a n n w1 rfl).mono ?_
  rintro e w2 ⟨rfl, hw2⟩
  have hb2 : Below w1.heap.size w1 w2 := by rw [hw2]; exact (Below.refl _ w1).alloc (Nat.le_refl _) _
  have hR2 : Rd D a g w1.heap.size 0 w2 := by
    refine ⟨⟨-1, ?_⟩, ?_, Nat.zero_le _⟩
    · rw [hw2, Hn.out]; exact heap_new w1 _
    · rcases hd1 with h | ⟨h, h2⟩
      · exact .inl h
      · exact .inr ⟨h, by rw [hb2.block g hg1]; exact h2⟩
  have hs2 := hb2.size
  have hs1 := hb1.size
  have Hv : Hid (Calls Tryd.prog 9 #[.iface 25 (.pointer (some ⟨w1.heap.size, 0, none⟩))] w2 fun e w' => Vol D a g w1.heap.size w2 e w') :=
    vol_all D a g w1.heap.size w.heap.size a0 a1 w2 ((HG.out.below hb1).below (below_le hb2 hs1)) (by omega) hs1 hR2 Hs.out (by omega) hDn
  clear hw2 hR2
  go_wp2_with fail
  go_at_call 9
  refine Hv.out.mono ?_
  rintro e w3 ⟨h, hc, rfl, hR3, hby3, hlt3, ht3⟩
  clear Hv
  have hb3 : Below w1.heap.size w2 w3 := ht3.below hs2 (fun k hk => by rintro (e | e) <;> omega)
  have hd3 : Dat D a g w3 := by
    rcases hd1 with h | ⟨h, h2⟩
    · exact .inl h
    · exact .inr ⟨h, by rw [hb3.block g hg1, hb2.block g hg1]; exact h2⟩
  have Hp : Hid (Calls Tryd.prog 10 #[.slice (some ⟨h, 0, none⟩) (wantLen D) hc, .slice a n n] w3 fun e w' => e = .returned (.bool true) ∧ Below w3.heap.size w3 w') := by
    have := pre_all D a g h hc w3 hd3 hDn hby3 hlt3
    rw [Hn.out] at this; exact this
  have hsz3 := hb3.size
  have Hb3 : Hid (Below w.heap.size w w3) := (hb1.trans (below_le hb2 hs1)).trans (below_le hb3 hs1)
  have HR3 : Hid (Rd D a g w1.heap.size (wantLen D) w3) := hR3
  have Hd3 : Hid (Dat D a g w3) := hd3
  clear hd3 hR3 hby3 hb3 ht3 hd1 hb1 hb2
  go_wp2_with fail
  go_at_call 10
  refine Hp.out.mono ?_
  rintro e w4 ⟨rfl, hb4⟩
  clear Hp
  have hg3 : D = [] ∨ g < w3.heap.size := .inr (by omega)
  have Hd4 : Hid (Dat D a g w4) := by
    rcases Hd3.out with h | ⟨h, h2⟩
    · exact .inl h
    · exact .inr ⟨h, by rw [hb4.block g (by omega)]; exact h2⟩
  have HR4 : Hid (Rd D a g w1.heap.size (wantLen D) w4) := HR3.out.keep hb4 HR3.out.lt hg3
  have Hw : Hid (Calls Tryd.prog 11 #[.slice a n n] w4 fun e w' => e = .returned (.int .i64 (wantLen D)) ∧ Below w4.heap.size w4 w') := by
    have := want_all D a g w4 Hd4.out Hs.out hDn
    rw [Hn.out] at this; exact this
  go_wp2_with fail
  go_at_call 11
  refine Hw.out.mono ?_
  rintro e w5 ⟨rfl, hb5⟩
  clear Hw
  have hs4 := hb4.size
  have HR5 : Hid (Rd D a g w1.heap.size (wantLen D) w5) := HR4.out.keep hb5 HR4.out.lt (.inr (by omega))
  have Hl : Hid (Calls Tryd.prog 12 #[.pointer (some ⟨w1.heap.size, 0, none⟩)] w5 fun e w' => e = .returned (.int .i64 ((n - wantLen D : Nat) : Int)) ∧ Below w5.heap.size w5 w') := by
    have := len_any D a g w1.heap.size (wantLen D) w5 hDn HR5.out
    rw [Hn.out] at this; exact this
  have hs5 := hb5.size
  have Hb5 : Hid (Below w.heap.size w w5) := (Hb3.out.trans (below_le hb4 (by omega))).trans (below_le hb5 (by omega))
  clear hb4 hb5 Hd3 Hd4 HR3 HR4 HR5 Hb3
  have hwl : wantLen D ≤ n := Hwl.out
  clear Hwl
  generalize wantLen D = m at hwl Hl ⊢
  go_wp2_with fail
  go_at_call 12
  refine Hl.out.mono ?_
  rintro e w6 ⟨rfl, hb6⟩
  clear Hl
  obtain ⟨d, hd⟩ : ∃ d : Nat, d = n - m := ⟨_, rfl⟩
  rw [← hd]
  have hdi : (n : Int) - (m : Int) = (d : Int) := by omega
  clear hd
  go_wp2_with fail
  go_ret
  refine ⟨by first | rfl | simp, Hb5.out.trans (below_le hb6 (by omega))⟩

theorem law_big (x : Option Addr) (n c : Nat) (w : World) (hn : ¬ n ≤ 1048576) :
    Calls Tryd.prog 3 #[.slice x n c] w fun e w' => e = .returned (.bool true) ∧ Below w.heap.size w w' := by
  go_enter Tryd.func3, Tryd.ntmps3
  go_wp2_with (go_at_call 6; refine (bytes_big x n c w hn).mono ?_; rintro e w' ⟨rfl, hw⟩; rw [hw])
  go_ret
  exact ⟨rfl, Below.refl _ w⟩
end Go.Proofs.Qxb6002375aDoor.rv
