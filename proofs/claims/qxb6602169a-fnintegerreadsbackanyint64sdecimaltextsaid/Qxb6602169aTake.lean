import Derived.Test.Qxb6602169aRows
import Derived.WalkKit
import Derived.ProofKit
import Derived.OpenShut
import Derived.Deep.QuietTactic
import Derived.BigQuiet
import Derived.WalkSmall
namespace Go.Proofs.Qxb6602169a.take
open Go.ChangeShapes Go.WideShapes Go.ChangeAt Go.RowKit
set_option linter.unusedVariables false

theorem take_end (t : ByteArray) (k c : Int) (B : Nat) (w : World) (hs : t.size ≤ maxLen)
    (h0 : w.cell? ⟨B, 0, none⟩ = some (.string t)) (h1 : w.cell? ⟨B, 1, none⟩ = some (.int .i64 k)) (hk : (t.size : Int) ≤ k) :
    Calls Try.prog 21 #[.pointer (some ⟨B, 0, none⟩), .int .u8 c] w fun e w' => e = .returned (.bool false) ∧ ∃ n, w' = w.drewN n := by
  unfold maxLen at hs
  have hd : decide (k < (t.size : Int)) = false := by simp; omega
  go_enter Try.func21, Try.ntmps21
  go_wp2_with fail
  go_quiet (fail)
  go_wp2
  go_ret
  exact ⟨rfl, _, rfl⟩

theorem take_miss (t : ByteArray) (k : Nat) (c : Int) (B : Nat) (w : World) (hs : t.size ≤ maxLen)
    (h0 : w.cell? ⟨B, 0, none⟩ = some (.string t)) (h1 : w.cell? ⟨B, 1, none⟩ = some (.int .i64 k)) (hk : k < t.size) (hc : ((t[k].toNat : Int) == c) = false) :
    Calls Try.prog 21 #[.pointer (some ⟨B, 0, none⟩), .int .u8 c] w fun e w' => e = .returned (.bool false) ∧ ∃ n, w' = w.drewN n := by
  unfold maxLen at hs
  have hd : (k : Int) < (t.size : Int) := by omega
  go_enter Try.func21, Try.ntmps21
  go_wp2_with fail
  go_quiet (fail)
  go_wp2
  go_ret
  exact ⟨rfl, _, rfl⟩

theorem take_hit (t : ByteArray) (k : Nat) (c : Int) (B : Nat) (w : World) (hs : t.size ≤ maxLen)
    (h0 : w.cell? ⟨B, 0, none⟩ = some (.string t)) (h1 : w.cell? ⟨B, 1, none⟩ = some (.int .i64 k)) (hf : w.frozen? ⟨B, 1, none⟩ = false) (hk : k < t.size) (hc : ((t[k].toNat : Int) == c) = true) :
    Calls Try.prog 21 #[.pointer (some ⟨B, 0, none⟩), .int .u8 c] w fun e w' => e = .returned (.bool true) ∧ ∃ n, w' = (w.setCell ⟨B, 1, none⟩ (.int .i64 (k + 1))).drewN n := by
  unfold maxLen at hs
  have hd : (k : Int) < (t.size : Int) := by omega
  go_enter Try.func21, Try.ntmps21
  go_wp2_with fail
  go_quiet (fail)
  go_wp2
  go_ret
  exact ⟨rfl, _, rfl⟩

theorem zz_end (t : ByteArray) (k c : Int) (w : World) (hs : t.size ≤ maxLen) (hk : (t.size : Int) ≤ k) :
    Calls Try.prog 15 #[.string t, .int .i64 k, .int .u8 c] w fun e w' => e = .returned (.tuple #[.bool false, .int .i64 k]) ∧ Below w.heap.size w w' := by
  go_enter Try.func15, Try.ntmps15
  go_wp2_with fail
  refine (take_end t k c w.heap.size _ hs (by go_simp) (by go_simp) hk).mono ?_
  rintro e w' ⟨rfl, n, rfl⟩
  go_wp2_with fail
  go_quiet (fail)
  go_wp2
  go_ret2
  exact ⟨rfl, below_drewN (below_drewN ((Below.refl _ _).alloc (Nat.le_refl _) _) _) _⟩

theorem zz_miss (t : ByteArray) (k : Nat) (c : Int) (w : World) (hs : t.size ≤ maxLen) (hk : k < t.size) (hc : ((t[k].toNat : Int) == c) = false) :
    Calls Try.prog 15 #[.string t, .int .i64 k, .int .u8 c] w fun e w' => e = .returned (.tuple #[.bool false, .int .i64 k]) ∧ Below w.heap.size w w' := by
  go_enter Try.func15, Try.ntmps15
  go_wp2_with fail
  refine (take_miss t k c w.heap.size _ hs (by go_simp) (by go_simp) hk hc).mono ?_
  rintro e w' ⟨rfl, n, rfl⟩
  go_wp2_with fail
  go_quiet (fail)
  go_wp2
  go_ret2
  exact ⟨rfl, below_drewN (below_drewN ((Below.refl _ _).alloc (Nat.le_refl _) _) _) _⟩

theorem zz_hit (t : ByteArray) (k : Nat) (c : Int) (w : World) (hs : t.size ≤ maxLen) (hk : k < t.size) (hc : ((t[k].toNat : Int) == c) = true) :
    Calls Try.prog 15 #[.string t, .int .i64 k, .int .u8 c] w fun e w' => e = .returned (.tuple #[.bool true, .int .i64 (k + 1)]) ∧ Below w.heap.size w w' := by
  go_enter Try.func15, Try.ntmps15
  go_wp2_with fail
  refine (take_hit t k c w.heap.size _ hs (by go_simp) (by go_simp) (by go_simp) hk hc).mono ?_
  rintro e w' ⟨rfl, n, rfl⟩
  go_wp2_with fail
  go_quiet (fail)
  go_wp2
  go_ret2
  exact ⟨rfl, below_drewN (below_drewN ((Below.refl _ _).alloc (Nat.le_refl _) _) _) _⟩

theorem bytes_any (a b : ByteArray) (k : Int) (w : World) (ha : a.size ≤ 65536) (hb : b.size ≤ 65536) :
    Calls Try.prog 14 #[.string a, .int .i64 k, .string b] w fun e w' => e = .returned (.bool true) ∧ w' = w := by
  go_enter Try.func14, Try.ntmps14
  go_wp2
  go_ret
  exact ⟨rfl, rfl⟩
end Go.Proofs.Qxb6602169a.take
