import Derived.Test.Qxb6002375aDoorNum
namespace Go.Proofs.Qxb6002375aDoor.rv
open Go.ChangeShapes Go.WideShapes Go.ChangeAt Go.RowKit
set_option linter.unusedVariables false
set_option linter.unusedSimpArgs false

theorem i64_id (x : Int) (h0 : 0 ≤ x) (h1 : x < 9223372036854775808) : IntKind.i64.wrap x = x := by first | go_num | (simp [IntKind.wrap, IntKind.bits, IntKind.signed]; omega)

def KB (D : List Int) (h : Nat) (w w' : World) : Prop := Below w.heap.size w w' ∧ Byt D w' h 56 ∧ h < w.heap.size
theorem byt_below {D : List Int} {h m : Nat} {w w' : World} {N : Nat} (hb : Byt D w h m) (hB : Below N w w') (hl : h < N) : Byt D w' h m := fun j hj => by
  rw [← hb j hj]; unfold World.cell?; rw [hB.block h hl]
theorem KB.step {D : List Int} {h : Nat} {w w1 w2 : World} (k : KB D h w w1) (hb : Below w1.heap.size w1 w2) : KB D h w w2 :=
  ⟨k.1.trans ⟨hb.os, hb.tape, hb.output, hb.size, fun i hi => hb.block i (Nat.lt_of_lt_of_le hi k.1.size)⟩, byt_below k.2.1 hb (Nat.lt_of_lt_of_le k.2.2 k.1.size), k.2.2⟩
theorem KB.byt {D : List Int} {h : Nat} {w w1 : World} (k : KB D h w w1) : Byt D w1 h 56 := k.2.1
theorem KB.drew {D : List Int} {h : Nat} {w w1 : World} (k : KB D h w w1) : KB D h w w1.drew := ⟨k.1.drew, k.2.1, k.2.2⟩

set_option maxHeartbeats 1000000 in
theorem lens_any (D : List Int) (h : Nat) (w : World) (hs : Small D) (hh : h < w.heap.size) (hb : Byt D w h 56) :
    Calls Tryd.prog 17 #[.slice (some ⟨h, 0, none⟩) 56 56] w fun e w' => e = .returned (.tuple #[.int .i64 (num16 D 48), .int .u64 (num64 D 32)]) ∧ Below w.heap.size w w' := by
  have hKB : KB D h w w := ⟨Below.refl _ w, hb, hh⟩
  have Hs : Hid (Small D) := hs
  have hn16 := num16_le hs 48
  have hwr : IntKind.i64.wrap (num16 D 48) = num16 D 48 := i64_id _ (by omega) (by omega)
  clear hb hs
  go_enter Tryd.func17, Tryd.ntmps17
  go_wp2
  have hKB' := hKB.drew
  go_region_held3 (fun w' => KB D h w w') (first | assumption | exact KB.drew (by assumption)) (first | (go_at_call 22; refine (u16_any D h 48 8 8 56 _ Hs.out (by omega) (by omega) (KB.byt (by assumption))).mono ?_; rintro e w6 ⟨rfl, hb6⟩; have hkb6 := KB.step (by assumption) hb6) | (go_at_call 23; refine (u64_any D h 32 24 24 56 _ Hs.out (by omega) (by omega) (KB.byt (by assumption))).mono ?_; rintro e w6 ⟨rfl, hb6⟩; have hkb6 := KB.step (by assumption) hb6))
  go_wp2
  go_ret2
  exact ⟨rfl, hkb6.1⟩

/-- how many bytes the documentation promises -/
def wantLen (D : List Int) : Nat := if D.length < 56 then D.length else if 4194304 < num64 D 32 then 56 else min (max 56 (max (num16 D 48).toNat (num64 D 32).toNat)) D.length

theorem wantLen_short (D : List Int) (a : Option Addr) (c : Nat) (w : World) (hn : D.length < 56) :
    Calls Tryd.prog 11 #[.slice a D.length c] w fun e w' => e = .returned (.int .i64 (wantLen D)) ∧ w' = w := by
  have Hv : Hid (wantLen D = D.length) := by show wantLen D = D.length; rw [wantLen, if_pos hn]
  generalize wantLen D = v at Hv ⊢
  have q1 : (D.length : Int) < 56 := by omega
  go_enter Tryd.func11, Tryd.ntmps11
  go_wp2
  go_ret
  exact ⟨by rw [Hv.out]; rfl, rfl⟩

set_option maxHeartbeats 2000000 in
theorem wantLen_any (D : List Int) (g c : Nat) (w : World) (hs : Small D) (hn : ¬ D.length < 56) (hD : D.length ≤ 1048576) (hg : g < w.heap.size) (hb : Byt D w g D.length) :
    Calls Tryd.prog 11 #[.slice (some ⟨g, 0, none⟩) D.length c] w fun e w' => e = .returned (.int .i64 (wantLen D)) ∧ Below w.heap.size w w' := by
  have hH := num16_le hs 48
  have hV := num64_le hs 32
  have Hv : Hid (wantLen D = if 4194304 < num64 D 32 then 56 else min (max 56 (max (num16 D 48).toNat (num64 D 32).toNat)) D.length) := by
    show wantLen D = _
    rw [wantLen, if_neg hn]
  generalize wantLen D = v at Hv ⊢
  have H16 : Hid (Calls Tryd.prog 19 #[.slice (some ⟨g, 0, none⟩) D.length c, .int .i64 48] w fun e w' => e = .returned (.int .i64 (num16 D 48)) ∧ Below w.heap.size w w') := le16_any D g D.length c D.length w hs (by omega) (by omega) hb
  have H64 : ∀ w6, Below w.heap.size w w6 → Hid (Calls Tryd.prog 20 #[.slice (some ⟨g, 0, none⟩) D.length c, .int .i64 32] w6 fun e w' => e = .returned (.int .u64 (num64 D 32)) ∧ w' = w6) := fun w6 h6 => le64_any D g D.length c D.length w6 hs (by omega) (by omega) (byt_below hb h6 hg)
  clear hb
  generalize num16 D 48 = H at hH Hv H16
  generalize num64 D 32 = V at hV Hv H64
  generalize D.length = n at hn hD Hv H16 H64 ⊢
  have q1 : ¬ (n : Int) < 56 := by omega
  by_cases q2 : 4194304 < V
  · go_enter Tryd.func11, Tryd.ntmps11
    go_wp2_with (first | (go_at_call 19; refine H16.out.mono ?_; rintro e w6 ⟨rfl, hb6⟩) | (go_at_call 20; refine (H64 _ hb6).out.mono ?_; rintro e w7 ⟨rfl, h7⟩; rw [h7]))
    go_ret
    exact ⟨by rw [Hv.out, if_pos q2]; rfl, hb6⟩
  · have wV : IntKind.i64.wrap V = V := i64_id _ (by omega) (by omega)
    have wH : IntKind.u64.wrap H = H := by rw [IntKind.wrap_u64]; omega
    rw [if_neg q2] at Hv
    have hc : (56 < H ∨ ¬ 56 < H) := by omega
    rcases hc with a1 | a1
    · have hc : (H < V ∨ ¬ H < V) := by omega
      rcases hc with a2 | a2
      · have hc : ((n : Int) < V ∨ ¬ (n : Int) < V) := by omega
        rcases hc with a3 | a3
        all_goals
          go_enter Tryd.func11, Tryd.ntmps11
          go_wp2_with (first | (go_at_call 19; refine H16.out.mono ?_; rintro e w6 ⟨rfl, hb6⟩) | (go_at_call 20; refine (H64 _ hb6).out.mono ?_; rintro e w7 ⟨rfl, h7⟩; rw [h7]))
          go_ret
          refine ⟨?_, hb6⟩
          show Ending.returned (Value.int .i64 _) = _
          congr 2
          have := Hv.out
          omega
      · have hc : ((n : Int) < H ∨ ¬ (n : Int) < H) := by omega
        rcases hc with a3 | a3
        all_goals
          go_enter Tryd.func11, Tryd.ntmps11
          go_wp2_with (first | (go_at_call 19; refine H16.out.mono ?_; rintro e w6 ⟨rfl, hb6⟩) | (go_at_call 20; refine (H64 _ hb6).out.mono ?_; rintro e w7 ⟨rfl, h7⟩; rw [h7]))
          go_ret
          refine ⟨?_, hb6⟩
          show Ending.returned (Value.int .i64 _) = _
          congr 2
          have := Hv.out
          omega
    · have hc : (56 < V ∨ ¬ 56 < V) := by omega
      rcases hc with a2 | a2
      · have hc : ((n : Int) < V ∨ ¬ (n : Int) < V) := by omega
        rcases hc with a3 | a3
        all_goals
          go_enter Tryd.func11, Tryd.ntmps11
          go_wp2_with (first | (go_at_call 19; refine H16.out.mono ?_; rintro e w6 ⟨rfl, hb6⟩) | (go_at_call 20; refine (H64 _ hb6).out.mono ?_; rintro e w7 ⟨rfl, h7⟩; rw [h7]))
          go_ret
          refine ⟨?_, hb6⟩
          show Ending.returned (Value.int .i64 _) = _
          congr 2
          have := Hv.out
          omega
      · have a3 : ¬ (n : Int) < 56 := by omega
        go_enter Tryd.func11, Tryd.ntmps11
        go_wp2_with (first | (go_at_call 19; refine H16.out.mono ?_; rintro e w6 ⟨rfl, hb6⟩) | (go_at_call 20; refine (H64 _ hb6).out.mono ?_; rintro e w7 ⟨rfl, h7⟩; rw [h7]))
        go_ret
        refine ⟨?_, hb6⟩
        show Ending.returned (Value.int .i64 _) = _
        congr 2
        have := Hv.out
        omega
end Go.Proofs.Qxb6002375aDoor.rv
