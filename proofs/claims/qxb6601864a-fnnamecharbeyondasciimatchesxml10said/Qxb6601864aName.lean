import Derived.Test.Qxb6601864aRows
import Derived.WalkKit
import Derived.ProofKit
import Derived.OpenShut
namespace Go.Proofs.Qxb6601864a.name
open Go.ChangeShapes Go.WideShapes Go.ChangeAt Go.RowKit

/-- the twelve ranges of the Go text -/
def Start (r : Int) : Prop :=
  (192 ≤ r ∧ r ≤ 214) ∨ (216 ≤ r ∧ r ≤ 246) ∨ (248 ≤ r ∧ r ≤ 767) ∨ (880 ≤ r ∧ r ≤ 893) ∨ (895 ≤ r ∧ r ≤ 8191) ∨ (8204 ≤ r ∧ r ≤ 8205) ∨ (8304 ≤ r ∧ r ≤ 8591) ∨ (11264 ≤ r ∧ r ≤ 12271) ∨ (12289 ≤ r ∧ r ≤ 55295) ∨ (63744 ≤ r ∧ r ≤ 64975) ∨ (65008 ≤ r ∧ r ≤ 65533) ∨ (65536 ≤ r ∧ r ≤ 983039)
/-- what may stand in a name but not begin one -/
def Inside (r : Int) : Prop := r = 183 ∨ (768 ≤ r ∧ r ≤ 879) ∨ (8255 ≤ r ∧ r ≤ 8256)
/-- the same as Bools -/
def startB (r : Int) : Bool := (decide (192 ≤ r) && decide (r ≤ 214)) || (decide (216 ≤ r) && decide (r ≤ 246)) || (decide (248 ≤ r) && decide (r ≤ 767)) || (decide (880 ≤ r) && decide (r ≤ 893)) || (decide (895 ≤ r) && decide (r ≤ 8191)) || (decide (8204 ≤ r) && decide (r ≤ 8205)) || (decide (8304 ≤ r) && decide (r ≤ 8591)) || (decide (11264 ≤ r) && decide (r ≤ 12271)) || (decide (12289 ≤ r) && decide (r ≤ 55295)) || (decide (63744 ≤ r) && decide (r ≤ 64975)) || (decide (65008 ≤ r) && decide (r ≤ 65533)) || (decide (65536 ≤ r) && decide (r ≤ 983039))
def insideB (r : Int) : Bool := decide (r = 183) || (decide (768 ≤ r) && decide (r ≤ 879)) || (decide (8255 ≤ r) && decide (r ≤ 8256))
theorem startB_true {r : Int} : startB r = true ↔ Start r := by unfold startB Start; simp only [Bool.or_eq_true, Bool.and_eq_true, decide_eq_true_eq]; omega
theorem insideB_true {r : Int} : insideB r = true ↔ Inside r := by unfold insideB Inside; simp only [Bool.or_eq_true, Bool.and_eq_true, decide_eq_true_eq]; omega

set_option maxRecDepth 100000 in
set_option maxHeartbeats 1000000 in
theorem yes0 (r : Int) (b : Bool) (h1 : 192 ≤ r) (h2 : r ≤ 214) (w : World) :
    Calls Try.prog 28 #[.int .i32 r, .bool b] w fun e w' => e = .returned (.bool true) ∧ w' = w := by
  go_enter Try.func28, Try.ntmps28
  simp only [List.append]
  go_wp2
  go_ret
  exact ⟨rfl, rfl⟩

set_option maxRecDepth 100000 in
set_option maxHeartbeats 1000000 in
theorem yes1 (r : Int) (b : Bool) (h1 : 216 ≤ r) (h2 : r ≤ 246) (w : World) :
    Calls Try.prog 28 #[.int .i32 r, .bool b] w fun e w' => e = .returned (.bool true) ∧ w' = w := by
  have t1 : 192 ≤ r := by omega
  have t2 : ¬ r ≤ 214 := by omega
  go_enter Try.func28, Try.ntmps28
  simp only [List.append]
  go_wp2
  go_ret
  exact ⟨rfl, rfl⟩

set_option maxRecDepth 100000 in
set_option maxHeartbeats 1000000 in
theorem yes2 (r : Int) (b : Bool) (h1 : 248 ≤ r) (h2 : r ≤ 767) (w : World) :
    Calls Try.prog 28 #[.int .i32 r, .bool b] w fun e w' => e = .returned (.bool true) ∧ w' = w := by
  have t1 : 192 ≤ r := by omega
  have t2 : ¬ r ≤ 214 := by omega
  have t3 : 216 ≤ r := by omega
  have t4 : ¬ r ≤ 246 := by omega
  go_enter Try.func28, Try.ntmps28
  simp only [List.append]
  go_wp2
  go_ret
  exact ⟨rfl, rfl⟩

set_option maxRecDepth 100000 in
set_option maxHeartbeats 1000000 in
theorem yes3 (r : Int) (b : Bool) (h1 : 880 ≤ r) (h2 : r ≤ 893) (w : World) :
    Calls Try.prog 28 #[.int .i32 r, .bool b] w fun e w' => e = .returned (.bool true) ∧ w' = w := by
  have t1 : 192 ≤ r := by omega
  have t2 : ¬ r ≤ 214 := by omega
  have t3 : 216 ≤ r := by omega
  have t4 : ¬ r ≤ 246 := by omega
  have t5 : 248 ≤ r := by omega
  have t6 : ¬ r ≤ 767 := by omega
  go_enter Try.func28, Try.ntmps28
  simp only [List.append]
  go_wp2
  go_ret
  exact ⟨rfl, rfl⟩

set_option maxRecDepth 100000 in
set_option maxHeartbeats 1000000 in
theorem yes4 (r : Int) (b : Bool) (h1 : 895 ≤ r) (h2 : r ≤ 8191) (w : World) :
    Calls Try.prog 28 #[.int .i32 r, .bool b] w fun e w' => e = .returned (.bool true) ∧ w' = w := by
  have t1 : 192 ≤ r := by omega
  have t2 : ¬ r ≤ 214 := by omega
  have t3 : 216 ≤ r := by omega
  have t4 : ¬ r ≤ 246 := by omega
  have t5 : 248 ≤ r := by omega
  have t6 : ¬ r ≤ 767 := by omega
  have t7 : 880 ≤ r := by omega
  have t8 : ¬ r ≤ 893 := by omega
  go_enter Try.func28, Try.ntmps28
  simp only [List.append]
  go_wp2
  go_ret
  exact ⟨rfl, rfl⟩

set_option maxRecDepth 100000 in
set_option maxHeartbeats 1000000 in
theorem yes5 (r : Int) (b : Bool) (h1 : 8204 ≤ r) (h2 : r ≤ 8205) (w : World) :
    Calls Try.prog 28 #[.int .i32 r, .bool b] w fun e w' => e = .returned (.bool true) ∧ w' = w := by
  have t1 : 192 ≤ r := by omega
  have t2 : ¬ r ≤ 214 := by omega
  have t3 : 216 ≤ r := by omega
  have t4 : ¬ r ≤ 246 := by omega
  have t5 : 248 ≤ r := by omega
  have t6 : ¬ r ≤ 767 := by omega
  have t7 : 880 ≤ r := by omega
  have t8 : ¬ r ≤ 893 := by omega
  have t9 : 895 ≤ r := by omega
  have t10 : ¬ r ≤ 8191 := by omega
  go_enter Try.func28, Try.ntmps28
  simp only [List.append]
  go_wp2
  go_ret
  exact ⟨rfl, rfl⟩

set_option maxRecDepth 100000 in
set_option maxHeartbeats 1000000 in
theorem yes6 (r : Int) (b : Bool) (h1 : 8304 ≤ r) (h2 : r ≤ 8591) (w : World) :
    Calls Try.prog 28 #[.int .i32 r, .bool b] w fun e w' => e = .returned (.bool true) ∧ w' = w := by
  have t1 : 192 ≤ r := by omega
  have t2 : ¬ r ≤ 214 := by omega
  have t3 : 216 ≤ r := by omega
  have t4 : ¬ r ≤ 246 := by omega
  have t5 : 248 ≤ r := by omega
  have t6 : ¬ r ≤ 767 := by omega
  have t7 : 880 ≤ r := by omega
  have t8 : ¬ r ≤ 893 := by omega
  have t9 : 895 ≤ r := by omega
  have t10 : ¬ r ≤ 8191 := by omega
  have t11 : 8204 ≤ r := by omega
  have t12 : ¬ r ≤ 8205 := by omega
  go_enter Try.func28, Try.ntmps28
  simp only [List.append]
  go_wp2
  go_ret
  exact ⟨rfl, rfl⟩

set_option maxRecDepth 100000 in
set_option maxHeartbeats 1000000 in
theorem yes7 (r : Int) (b : Bool) (h1 : 11264 ≤ r) (h2 : r ≤ 12271) (w : World) :
    Calls Try.prog 28 #[.int .i32 r, .bool b] w fun e w' => e = .returned (.bool true) ∧ w' = w := by
  have t1 : 192 ≤ r := by omega
  have t2 : ¬ r ≤ 214 := by omega
  have t3 : 216 ≤ r := by omega
  have t4 : ¬ r ≤ 246 := by omega
  have t5 : 248 ≤ r := by omega
  have t6 : ¬ r ≤ 767 := by omega
  have t7 : 880 ≤ r := by omega
  have t8 : ¬ r ≤ 893 := by omega
  have t9 : 895 ≤ r := by omega
  have t10 : ¬ r ≤ 8191 := by omega
  have t11 : 8204 ≤ r := by omega
  have t12 : ¬ r ≤ 8205 := by omega
  have t13 : 8304 ≤ r := by omega
  have t14 : ¬ r ≤ 8591 := by omega
  go_enter Try.func28, Try.ntmps28
  simp only [List.append]
  go_wp2
  go_ret
  exact ⟨rfl, rfl⟩

set_option maxRecDepth 100000 in
set_option maxHeartbeats 1000000 in
theorem yes8 (r : Int) (b : Bool) (h1 : 12289 ≤ r) (h2 : r ≤ 55295) (w : World) :
    Calls Try.prog 28 #[.int .i32 r, .bool b] w fun e w' => e = .returned (.bool true) ∧ w' = w := by
  have t1 : 192 ≤ r := by omega
  have t2 : ¬ r ≤ 214 := by omega
  have t3 : 216 ≤ r := by omega
  have t4 : ¬ r ≤ 246 := by omega
  have t5 : 248 ≤ r := by omega
  have t6 : ¬ r ≤ 767 := by omega
  have t7 : 880 ≤ r := by omega
  have t8 : ¬ r ≤ 893 := by omega
  have t9 : 895 ≤ r := by omega
  have t10 : ¬ r ≤ 8191 := by omega
  have t11 : 8204 ≤ r := by omega
  have t12 : ¬ r ≤ 8205 := by omega
  have t13 : 8304 ≤ r := by omega
  have t14 : ¬ r ≤ 8591 := by omega
  have t15 : 11264 ≤ r := by omega
  have t16 : ¬ r ≤ 12271 := by omega
  go_enter Try.func28, Try.ntmps28
  simp only [List.append]
  go_wp2
  go_ret
  exact ⟨rfl, rfl⟩

set_option maxRecDepth 100000 in
set_option maxHeartbeats 1000000 in
theorem yes9 (r : Int) (b : Bool) (h1 : 63744 ≤ r) (h2 : r ≤ 64975) (w : World) :
    Calls Try.prog 28 #[.int .i32 r, .bool b] w fun e w' => e = .returned (.bool true) ∧ w' = w := by
  have t1 : 192 ≤ r := by omega
  have t2 : ¬ r ≤ 214 := by omega
  have t3 : 216 ≤ r := by omega
  have t4 : ¬ r ≤ 246 := by omega
  have t5 : 248 ≤ r := by omega
  have t6 : ¬ r ≤ 767 := by omega
  have t7 : 880 ≤ r := by omega
  have t8 : ¬ r ≤ 893 := by omega
  have t9 : 895 ≤ r := by omega
  have t10 : ¬ r ≤ 8191 := by omega
  have t11 : 8204 ≤ r := by omega
  have t12 : ¬ r ≤ 8205 := by omega
  have t13 : 8304 ≤ r := by omega
  have t14 : ¬ r ≤ 8591 := by omega
  have t15 : 11264 ≤ r := by omega
  have t16 : ¬ r ≤ 12271 := by omega
  have t17 : 12289 ≤ r := by omega
  have t18 : ¬ r ≤ 55295 := by omega
  go_enter Try.func28, Try.ntmps28
  simp only [List.append]
  go_wp2
  go_ret
  exact ⟨rfl, rfl⟩

set_option maxRecDepth 100000 in
set_option maxHeartbeats 1000000 in
theorem yes10 (r : Int) (b : Bool) (h1 : 65008 ≤ r) (h2 : r ≤ 65533) (w : World) :
    Calls Try.prog 28 #[.int .i32 r, .bool b] w fun e w' => e = .returned (.bool true) ∧ w' = w := by
  have t1 : 192 ≤ r := by omega
  have t2 : ¬ r ≤ 214 := by omega
  have t3 : 216 ≤ r := by omega
  have t4 : ¬ r ≤ 246 := by omega
  have t5 : 248 ≤ r := by omega
  have t6 : ¬ r ≤ 767 := by omega
  have t7 : 880 ≤ r := by omega
  have t8 : ¬ r ≤ 893 := by omega
  have t9 : 895 ≤ r := by omega
  have t10 : ¬ r ≤ 8191 := by omega
  have t11 : 8204 ≤ r := by omega
  have t12 : ¬ r ≤ 8205 := by omega
  have t13 : 8304 ≤ r := by omega
  have t14 : ¬ r ≤ 8591 := by omega
  have t15 : 11264 ≤ r := by omega
  have t16 : ¬ r ≤ 12271 := by omega
  have t17 : 12289 ≤ r := by omega
  have t18 : ¬ r ≤ 55295 := by omega
  have t19 : 63744 ≤ r := by omega
  have t20 : ¬ r ≤ 64975 := by omega
  go_enter Try.func28, Try.ntmps28
  simp only [List.append]
  go_wp2
  go_ret
  exact ⟨rfl, rfl⟩

set_option maxRecDepth 100000 in
set_option maxHeartbeats 1000000 in
theorem yes11 (r : Int) (b : Bool) (h1 : 65536 ≤ r) (h2 : r ≤ 983039) (w : World) :
    Calls Try.prog 28 #[.int .i32 r, .bool b] w fun e w' => e = .returned (.bool true) ∧ w' = w := by
  have t1 : 192 ≤ r := by omega
  have t2 : ¬ r ≤ 214 := by omega
  have t3 : 216 ≤ r := by omega
  have t4 : ¬ r ≤ 246 := by omega
  have t5 : 248 ≤ r := by omega
  have t6 : ¬ r ≤ 767 := by omega
  have t7 : 880 ≤ r := by omega
  have t8 : ¬ r ≤ 893 := by omega
  have t9 : 895 ≤ r := by omega
  have t10 : ¬ r ≤ 8191 := by omega
  have t11 : 8204 ≤ r := by omega
  have t12 : ¬ r ≤ 8205 := by omega
  have t13 : 8304 ≤ r := by omega
  have t14 : ¬ r ≤ 8591 := by omega
  have t15 : 11264 ≤ r := by omega
  have t16 : ¬ r ≤ 12271 := by omega
  have t17 : 12289 ≤ r := by omega
  have t18 : ¬ r ≤ 55295 := by omega
  have t19 : 63744 ≤ r := by omega
  have t20 : ¬ r ≤ 64975 := by omega
  have t21 : 65008 ≤ r := by omega
  have t22 : ¬ r ≤ 65533 := by omega
  go_enter Try.func28, Try.ntmps28
  simp only [List.append]
  go_wp2
  go_ret
  exact ⟨rfl, rfl⟩

set_option maxRecDepth 100000 in
set_option maxHeartbeats 1000000 in
theorem fno0 (r : Int) (h1 : r ≤ 191) (w : World) :
    Calls Try.prog 28 #[.int .i32 r, .bool true] w fun e w' => e = .returned (.bool false) ∧ w' = w := by
  have t1 : ¬ 192 ≤ r := by omega
  have t2 : ¬ 216 ≤ r := by omega
  have t3 : ¬ 248 ≤ r := by omega
  have t4 : ¬ 880 ≤ r := by omega
  have t5 : ¬ 895 ≤ r := by omega
  have t6 : ¬ 8204 ≤ r := by omega
  have t7 : ¬ 8304 ≤ r := by omega
  have t8 : ¬ 11264 ≤ r := by omega
  have t9 : ¬ 12289 ≤ r := by omega
  have t10 : ¬ 63744 ≤ r := by omega
  have t11 : ¬ 65008 ≤ r := by omega
  have t12 : ¬ 65536 ≤ r := by omega
  go_enter Try.func28, Try.ntmps28
  simp only [List.append]
  go_wp2
  go_ret
  exact ⟨rfl, rfl⟩

set_option maxRecDepth 100000 in
set_option maxHeartbeats 1000000 in
theorem fno1 (r : Int) (h1 : 215 ≤ r) (h2 : r ≤ 215) (w : World) :
    Calls Try.prog 28 #[.int .i32 r, .bool true] w fun e w' => e = .returned (.bool false) ∧ w' = w := by
  have t1 : 192 ≤ r := by omega
  have t2 : ¬ r ≤ 214 := by omega
  have t3 : ¬ 216 ≤ r := by omega
  have t4 : ¬ 248 ≤ r := by omega
  have t5 : ¬ 880 ≤ r := by omega
  have t6 : ¬ 895 ≤ r := by omega
  have t7 : ¬ 8204 ≤ r := by omega
  have t8 : ¬ 8304 ≤ r := by omega
  have t9 : ¬ 11264 ≤ r := by omega
  have t10 : ¬ 12289 ≤ r := by omega
  have t11 : ¬ 63744 ≤ r := by omega
  have t12 : ¬ 65008 ≤ r := by omega
  have t13 : ¬ 65536 ≤ r := by omega
  go_enter Try.func28, Try.ntmps28
  simp only [List.append]
  go_wp2
  go_ret
  exact ⟨rfl, rfl⟩

set_option maxRecDepth 100000 in
set_option maxHeartbeats 1000000 in
theorem fno2 (r : Int) (h1 : 247 ≤ r) (h2 : r ≤ 247) (w : World) :
    Calls Try.prog 28 #[.int .i32 r, .bool true] w fun e w' => e = .returned (.bool false) ∧ w' = w := by
  have t1 : 192 ≤ r := by omega
  have t2 : ¬ r ≤ 214 := by omega
  have t3 : 216 ≤ r := by omega
  have t4 : ¬ r ≤ 246 := by omega
  have t5 : ¬ 248 ≤ r := by omega
  have t6 : ¬ 880 ≤ r := by omega
  have t7 : ¬ 895 ≤ r := by omega
  have t8 : ¬ 8204 ≤ r := by omega
  have t9 : ¬ 8304 ≤ r := by omega
  have t10 : ¬ 11264 ≤ r := by omega
  have t11 : ¬ 12289 ≤ r := by omega
  have t12 : ¬ 63744 ≤ r := by omega
  have t13 : ¬ 65008 ≤ r := by omega
  have t14 : ¬ 65536 ≤ r := by omega
  go_enter Try.func28, Try.ntmps28
  simp only [List.append]
  go_wp2
  go_ret
  exact ⟨rfl, rfl⟩

set_option maxRecDepth 100000 in
set_option maxHeartbeats 1000000 in
theorem fno3 (r : Int) (h1 : 768 ≤ r) (h2 : r ≤ 879) (w : World) :
    Calls Try.prog 28 #[.int .i32 r, .bool true] w fun e w' => e = .returned (.bool false) ∧ w' = w := by
  have t1 : 192 ≤ r := by omega
  have t2 : ¬ r ≤ 214 := by omega
  have t3 : 216 ≤ r := by omega
  have t4 : ¬ r ≤ 246 := by omega
  have t5 : 248 ≤ r := by omega
  have t6 : ¬ r ≤ 767 := by omega
  have t7 : ¬ 880 ≤ r := by omega
  have t8 : ¬ 895 ≤ r := by omega
  have t9 : ¬ 8204 ≤ r := by omega
  have t10 : ¬ 8304 ≤ r := by omega
  have t11 : ¬ 11264 ≤ r := by omega
  have t12 : ¬ 12289 ≤ r := by omega
  have t13 : ¬ 63744 ≤ r := by omega
  have t14 : ¬ 65008 ≤ r := by omega
  have t15 : ¬ 65536 ≤ r := by omega
  go_enter Try.func28, Try.ntmps28
  simp only [List.append]
  go_wp2
  go_ret
  exact ⟨rfl, rfl⟩

set_option maxRecDepth 100000 in
set_option maxHeartbeats 1000000 in
theorem fno4 (r : Int) (h1 : 894 ≤ r) (h2 : r ≤ 894) (w : World) :
    Calls Try.prog 28 #[.int .i32 r, .bool true] w fun e w' => e = .returned (.bool false) ∧ w' = w := by
  have t1 : 192 ≤ r := by omega
  have t2 : ¬ r ≤ 214 := by omega
  have t3 : 216 ≤ r := by omega
  have t4 : ¬ r ≤ 246 := by omega
  have t5 : 248 ≤ r := by omega
  have t6 : ¬ r ≤ 767 := by omega
  have t7 : 880 ≤ r := by omega
  have t8 : ¬ r ≤ 893 := by omega
  have t9 : ¬ 895 ≤ r := by omega
  have t10 : ¬ 8204 ≤ r := by omega
  have t11 : ¬ 8304 ≤ r := by omega
  have t12 : ¬ 11264 ≤ r := by omega
  have t13 : ¬ 12289 ≤ r := by omega
  have t14 : ¬ 63744 ≤ r := by omega
  have t15 : ¬ 65008 ≤ r := by omega
  have t16 : ¬ 65536 ≤ r := by omega
  go_enter Try.func28, Try.ntmps28
  simp only [List.append]
  go_wp2
  go_ret
  exact ⟨rfl, rfl⟩

set_option maxRecDepth 100000 in
set_option maxHeartbeats 1000000 in
theorem fno5 (r : Int) (h1 : 8192 ≤ r) (h2 : r ≤ 8203) (w : World) :
    Calls Try.prog 28 #[.int .i32 r, .bool true] w fun e w' => e = .returned (.bool false) ∧ w' = w := by
  have t1 : 192 ≤ r := by omega
  have t2 : ¬ r ≤ 214 := by omega
  have t3 : 216 ≤ r := by omega
  have t4 : ¬ r ≤ 246 := by omega
  have t5 : 248 ≤ r := by omega
  have t6 : ¬ r ≤ 767 := by omega
  have t7 : 880 ≤ r := by omega
  have t8 : ¬ r ≤ 893 := by omega
  have t9 : 895 ≤ r := by omega
  have t10 : ¬ r ≤ 8191 := by omega
  have t11 : ¬ 8204 ≤ r := by omega
  have t12 : ¬ 8304 ≤ r := by omega
  have t13 : ¬ 11264 ≤ r := by omega
  have t14 : ¬ 12289 ≤ r := by omega
  have t15 : ¬ 63744 ≤ r := by omega
  have t16 : ¬ 65008 ≤ r := by omega
  have t17 : ¬ 65536 ≤ r := by omega
  go_enter Try.func28, Try.ntmps28
  simp only [List.append]
  go_wp2
  go_ret
  exact ⟨rfl, rfl⟩

set_option maxRecDepth 100000 in
set_option maxHeartbeats 1000000 in
theorem fno6 (r : Int) (h1 : 8206 ≤ r) (h2 : r ≤ 8303) (w : World) :
    Calls Try.prog 28 #[.int .i32 r, .bool true] w fun e w' => e = .returned (.bool false) ∧ w' = w := by
  have t1 : 192 ≤ r := by omega
  have t2 : ¬ r ≤ 214 := by omega
  have t3 : 216 ≤ r := by omega
  have t4 : ¬ r ≤ 246 := by omega
  have t5 : 248 ≤ r := by omega
  have t6 : ¬ r ≤ 767 := by omega
  have t7 : 880 ≤ r := by omega
  have t8 : ¬ r ≤ 893 := by omega
  have t9 : 895 ≤ r := by omega
  have t10 : ¬ r ≤ 8191 := by omega
  have t11 : 8204 ≤ r := by omega
  have t12 : ¬ r ≤ 8205 := by omega
  have t13 : ¬ 8304 ≤ r := by omega
  have t14 : ¬ 11264 ≤ r := by omega
  have t15 : ¬ 12289 ≤ r := by omega
  have t16 : ¬ 63744 ≤ r := by omega
  have t17 : ¬ 65008 ≤ r := by omega
  have t18 : ¬ 65536 ≤ r := by omega
  go_enter Try.func28, Try.ntmps28
  simp only [List.append]
  go_wp2
  go_ret
  exact ⟨rfl, rfl⟩

set_option maxRecDepth 100000 in
set_option maxHeartbeats 1000000 in
theorem fno7 (r : Int) (h1 : 8592 ≤ r) (h2 : r ≤ 11263) (w : World) :
    Calls Try.prog 28 #[.int .i32 r, .bool true] w fun e w' => e = .returned (.bool false) ∧ w' = w := by
  have t1 : 192 ≤ r := by omega
  have t2 : ¬ r ≤ 214 := by omega
  have t3 : 216 ≤ r := by omega
  have t4 : ¬ r ≤ 246 := by omega
  have t5 : 248 ≤ r := by omega
  have t6 : ¬ r ≤ 767 := by omega
  have t7 : 880 ≤ r := by omega
  have t8 : ¬ r ≤ 893 := by omega
  have t9 : 895 ≤ r := by omega
  have t10 : ¬ r ≤ 8191 := by omega
  have t11 : 8204 ≤ r := by omega
  have t12 : ¬ r ≤ 8205 := by omega
  have t13 : 8304 ≤ r := by omega
  have t14 : ¬ r ≤ 8591 := by omega
  have t15 : ¬ 11264 ≤ r := by omega
  have t16 : ¬ 12289 ≤ r := by omega
  have t17 : ¬ 63744 ≤ r := by omega
  have t18 : ¬ 65008 ≤ r := by omega
  have t19 : ¬ 65536 ≤ r := by omega
  go_enter Try.func28, Try.ntmps28
  simp only [List.append]
  go_wp2
  go_ret
  exact ⟨rfl, rfl⟩

set_option maxRecDepth 100000 in
set_option maxHeartbeats 1000000 in
theorem fno8 (r : Int) (h1 : 12272 ≤ r) (h2 : r ≤ 12288) (w : World) :
    Calls Try.prog 28 #[.int .i32 r, .bool true] w fun e w' => e = .returned (.bool false) ∧ w' = w := by
  have t1 : 192 ≤ r := by omega
  have t2 : ¬ r ≤ 214 := by omega
  have t3 : 216 ≤ r := by omega
  have t4 : ¬ r ≤ 246 := by omega
  have t5 : 248 ≤ r := by omega
  have t6 : ¬ r ≤ 767 := by omega
  have t7 : 880 ≤ r := by omega
  have t8 : ¬ r ≤ 893 := by omega
  have t9 : 895 ≤ r := by omega
  have t10 : ¬ r ≤ 8191 := by omega
  have t11 : 8204 ≤ r := by omega
  have t12 : ¬ r ≤ 8205 := by omega
  have t13 : 8304 ≤ r := by omega
  have t14 : ¬ r ≤ 8591 := by omega
  have t15 : 11264 ≤ r := by omega
  have t16 : ¬ r ≤ 12271 := by omega
  have t17 : ¬ 12289 ≤ r := by omega
  have t18 : ¬ 63744 ≤ r := by omega
  have t19 : ¬ 65008 ≤ r := by omega
  have t20 : ¬ 65536 ≤ r := by omega
  go_enter Try.func28, Try.ntmps28
  simp only [List.append]
  go_wp2
  go_ret
  exact ⟨rfl, rfl⟩

set_option maxRecDepth 100000 in
set_option maxHeartbeats 1000000 in
theorem fno9 (r : Int) (h1 : 55296 ≤ r) (h2 : r ≤ 63743) (w : World) :
    Calls Try.prog 28 #[.int .i32 r, .bool true] w fun e w' => e = .returned (.bool false) ∧ w' = w := by
  have t1 : 192 ≤ r := by omega
  have t2 : ¬ r ≤ 214 := by omega
  have t3 : 216 ≤ r := by omega
  have t4 : ¬ r ≤ 246 := by omega
  have t5 : 248 ≤ r := by omega
  have t6 : ¬ r ≤ 767 := by omega
  have t7 : 880 ≤ r := by omega
  have t8 : ¬ r ≤ 893 := by omega
  have t9 : 895 ≤ r := by omega
  have t10 : ¬ r ≤ 8191 := by omega
  have t11 : 8204 ≤ r := by omega
  have t12 : ¬ r ≤ 8205 := by omega
  have t13 : 8304 ≤ r := by omega
  have t14 : ¬ r ≤ 8591 := by omega
  have t15 : 11264 ≤ r := by omega
  have t16 : ¬ r ≤ 12271 := by omega
  have t17 : 12289 ≤ r := by omega
  have t18 : ¬ r ≤ 55295 := by omega
  have t19 : ¬ 63744 ≤ r := by omega
  have t20 : ¬ 65008 ≤ r := by omega
  have t21 : ¬ 65536 ≤ r := by omega
  go_enter Try.func28, Try.ntmps28
  simp only [List.append]
  go_wp2
  go_ret
  exact ⟨rfl, rfl⟩

set_option maxRecDepth 100000 in
set_option maxHeartbeats 1000000 in
theorem fno10 (r : Int) (h1 : 64976 ≤ r) (h2 : r ≤ 65007) (w : World) :
    Calls Try.prog 28 #[.int .i32 r, .bool true] w fun e w' => e = .returned (.bool false) ∧ w' = w := by
  have t1 : 192 ≤ r := by omega
  have t2 : ¬ r ≤ 214 := by omega
  have t3 : 216 ≤ r := by omega
  have t4 : ¬ r ≤ 246 := by omega
  have t5 : 248 ≤ r := by omega
  have t6 : ¬ r ≤ 767 := by omega
  have t7 : 880 ≤ r := by omega
  have t8 : ¬ r ≤ 893 := by omega
  have t9 : 895 ≤ r := by omega
  have t10 : ¬ r ≤ 8191 := by omega
  have t11 : 8204 ≤ r := by omega
  have t12 : ¬ r ≤ 8205 := by omega
  have t13 : 8304 ≤ r := by omega
  have t14 : ¬ r ≤ 8591 := by omega
  have t15 : 11264 ≤ r := by omega
  have t16 : ¬ r ≤ 12271 := by omega
  have t17 : 12289 ≤ r := by omega
  have t18 : ¬ r ≤ 55295 := by omega
  have t19 : 63744 ≤ r := by omega
  have t20 : ¬ r ≤ 64975 := by omega
  have t21 : ¬ 65008 ≤ r := by omega
  have t22 : ¬ 65536 ≤ r := by omega
  go_enter Try.func28, Try.ntmps28
  simp only [List.append]
  go_wp2
  go_ret
  exact ⟨rfl, rfl⟩

set_option maxRecDepth 100000 in
set_option maxHeartbeats 1000000 in
theorem fno11 (r : Int) (h1 : 65534 ≤ r) (h2 : r ≤ 65535) (w : World) :
    Calls Try.prog 28 #[.int .i32 r, .bool true] w fun e w' => e = .returned (.bool false) ∧ w' = w := by
  have t1 : 192 ≤ r := by omega
  have t2 : ¬ r ≤ 214 := by omega
  have t3 : 216 ≤ r := by omega
  have t4 : ¬ r ≤ 246 := by omega
  have t5 : 248 ≤ r := by omega
  have t6 : ¬ r ≤ 767 := by omega
  have t7 : 880 ≤ r := by omega
  have t8 : ¬ r ≤ 893 := by omega
  have t9 : 895 ≤ r := by omega
  have t10 : ¬ r ≤ 8191 := by omega
  have t11 : 8204 ≤ r := by omega
  have t12 : ¬ r ≤ 8205 := by omega
  have t13 : 8304 ≤ r := by omega
  have t14 : ¬ r ≤ 8591 := by omega
  have t15 : 11264 ≤ r := by omega
  have t16 : ¬ r ≤ 12271 := by omega
  have t17 : 12289 ≤ r := by omega
  have t18 : ¬ r ≤ 55295 := by omega
  have t19 : 63744 ≤ r := by omega
  have t20 : ¬ r ≤ 64975 := by omega
  have t21 : 65008 ≤ r := by omega
  have t22 : ¬ r ≤ 65533 := by omega
  have t23 : ¬ 65536 ≤ r := by omega
  go_enter Try.func28, Try.ntmps28
  simp only [List.append]
  go_wp2
  go_ret
  exact ⟨rfl, rfl⟩

set_option maxRecDepth 100000 in
set_option maxHeartbeats 1000000 in
theorem fno12 (r : Int) (h1 : 983040 ≤ r) (w : World) :
    Calls Try.prog 28 #[.int .i32 r, .bool true] w fun e w' => e = .returned (.bool false) ∧ w' = w := by
  have t1 : 192 ≤ r := by omega
  have t2 : ¬ r ≤ 214 := by omega
  have t3 : 216 ≤ r := by omega
  have t4 : ¬ r ≤ 246 := by omega
  have t5 : 248 ≤ r := by omega
  have t6 : ¬ r ≤ 767 := by omega
  have t7 : 880 ≤ r := by omega
  have t8 : ¬ r ≤ 893 := by omega
  have t9 : 895 ≤ r := by omega
  have t10 : ¬ r ≤ 8191 := by omega
  have t11 : 8204 ≤ r := by omega
  have t12 : ¬ r ≤ 8205 := by omega
  have t13 : 8304 ≤ r := by omega
  have t14 : ¬ r ≤ 8591 := by omega
  have t15 : 11264 ≤ r := by omega
  have t16 : ¬ r ≤ 12271 := by omega
  have t17 : 12289 ≤ r := by omega
  have t18 : ¬ r ≤ 55295 := by omega
  have t19 : 63744 ≤ r := by omega
  have t20 : ¬ r ≤ 64975 := by omega
  have t21 : 65008 ≤ r := by omega
  have t22 : ¬ r ≤ 65533 := by omega
  have t23 : 65536 ≤ r := by omega
  have t24 : ¬ r ≤ 983039 := by omega
  go_enter Try.func28, Try.ntmps28
  simp only [List.append]
  go_wp2
  go_ret
  exact ⟨rfl, rfl⟩

set_option maxRecDepth 100000 in
set_option maxHeartbeats 1000000 in
theorem iyes1 (r : Int) (h1 : 768 ≤ r) (h2 : r ≤ 879) (w : World) :
    Calls Try.prog 28 #[.int .i32 r, .bool false] w fun e w' => e = .returned (.bool true) ∧ w' = w := by
  have t1 : 192 ≤ r := by omega
  have t2 : ¬ r ≤ 214 := by omega
  have t3 : 216 ≤ r := by omega
  have t4 : ¬ r ≤ 246 := by omega
  have t5 : 248 ≤ r := by omega
  have t6 : ¬ r ≤ 767 := by omega
  have t7 : ¬ 880 ≤ r := by omega
  have t8 : ¬ 895 ≤ r := by omega
  have t9 : ¬ 8204 ≤ r := by omega
  have t10 : ¬ 8304 ≤ r := by omega
  have t11 : ¬ 11264 ≤ r := by omega
  have t12 : ¬ 12289 ≤ r := by omega
  have t13 : ¬ 63744 ≤ r := by omega
  have t14 : ¬ 65008 ≤ r := by omega
  have t15 : ¬ 65536 ≤ r := by omega
  have t16 : (r == 183) = false := beq_eq_false_iff_ne.2 (by omega)
  go_enter Try.func28, Try.ntmps28
  simp only [List.append]
  go_wp2
  go_ret
  exact ⟨rfl, rfl⟩

set_option maxRecDepth 100000 in
set_option maxHeartbeats 1000000 in
theorem iyes2 (r : Int) (h1 : 8255 ≤ r) (h2 : r ≤ 8256) (w : World) :
    Calls Try.prog 28 #[.int .i32 r, .bool false] w fun e w' => e = .returned (.bool true) ∧ w' = w := by
  have t1 : 192 ≤ r := by omega
  have t2 : ¬ r ≤ 214 := by omega
  have t3 : 216 ≤ r := by omega
  have t4 : ¬ r ≤ 246 := by omega
  have t5 : 248 ≤ r := by omega
  have t6 : ¬ r ≤ 767 := by omega
  have t7 : 880 ≤ r := by omega
  have t8 : ¬ r ≤ 893 := by omega
  have t9 : 895 ≤ r := by omega
  have t10 : ¬ r ≤ 8191 := by omega
  have t11 : 8204 ≤ r := by omega
  have t12 : ¬ r ≤ 8205 := by omega
  have t13 : ¬ 8304 ≤ r := by omega
  have t14 : ¬ 11264 ≤ r := by omega
  have t15 : ¬ 12289 ≤ r := by omega
  have t16 : ¬ 63744 ≤ r := by omega
  have t17 : ¬ 65008 ≤ r := by omega
  have t18 : ¬ 65536 ≤ r := by omega
  have t19 : (r == 183) = false := beq_eq_false_iff_ne.2 (by omega)
  have t20 : 768 ≤ r := by omega
  have t21 : ¬ r ≤ 879 := by omega
  go_enter Try.func28, Try.ntmps28
  simp only [List.append]
  go_wp2
  go_ret
  exact ⟨rfl, rfl⟩

set_option maxRecDepth 100000 in
set_option maxHeartbeats 1000000 in
theorem iyes0 (w : World) :
    Calls Try.prog 28 #[.int .i32 183, .bool false] w fun e w' => e = .returned (.bool true) ∧ w' = w := by
  go_enter Try.func28, Try.ntmps28
  simp only [List.append]
  go_wp2
  go_ret
  exact ⟨rfl, rfl⟩

set_option maxRecDepth 100000 in
set_option maxHeartbeats 1000000 in
theorem ino0 (r : Int) (h1 : r ≤ 182) (w : World) :
    Calls Try.prog 28 #[.int .i32 r, .bool false] w fun e w' => e = .returned (.bool false) ∧ w' = w := by
  have t1 : ¬ 192 ≤ r := by omega
  have t2 : ¬ 216 ≤ r := by omega
  have t3 : ¬ 248 ≤ r := by omega
  have t4 : ¬ 880 ≤ r := by omega
  have t5 : ¬ 895 ≤ r := by omega
  have t6 : ¬ 8204 ≤ r := by omega
  have t7 : ¬ 8304 ≤ r := by omega
  have t8 : ¬ 11264 ≤ r := by omega
  have t9 : ¬ 12289 ≤ r := by omega
  have t10 : ¬ 63744 ≤ r := by omega
  have t11 : ¬ 65008 ≤ r := by omega
  have t12 : ¬ 65536 ≤ r := by omega
  have t13 : (r == 183) = false := beq_eq_false_iff_ne.2 (by omega)
  have t14 : ¬ 768 ≤ r := by omega
  have t15 : ¬ 8255 ≤ r := by omega
  go_enter Try.func28, Try.ntmps28
  simp only [List.append]
  go_wp2
  go_ret
  exact ⟨rfl, rfl⟩

set_option maxRecDepth 100000 in
set_option maxHeartbeats 1000000 in
theorem ino1 (r : Int) (h1 : 184 ≤ r) (h2 : r ≤ 191) (w : World) :
    Calls Try.prog 28 #[.int .i32 r, .bool false] w fun e w' => e = .returned (.bool false) ∧ w' = w := by
  have t1 : ¬ 192 ≤ r := by omega
  have t2 : ¬ 216 ≤ r := by omega
  have t3 : ¬ 248 ≤ r := by omega
  have t4 : ¬ 880 ≤ r := by omega
  have t5 : ¬ 895 ≤ r := by omega
  have t6 : ¬ 8204 ≤ r := by omega
  have t7 : ¬ 8304 ≤ r := by omega
  have t8 : ¬ 11264 ≤ r := by omega
  have t9 : ¬ 12289 ≤ r := by omega
  have t10 : ¬ 63744 ≤ r := by omega
  have t11 : ¬ 65008 ≤ r := by omega
  have t12 : ¬ 65536 ≤ r := by omega
  have t13 : (r == 183) = false := beq_eq_false_iff_ne.2 (by omega)
  have t14 : ¬ 768 ≤ r := by omega
  have t15 : ¬ 8255 ≤ r := by omega
  go_enter Try.func28, Try.ntmps28
  simp only [List.append]
  go_wp2
  go_ret
  exact ⟨rfl, rfl⟩

set_option maxRecDepth 100000 in
set_option maxHeartbeats 1000000 in
theorem ino2 (r : Int) (h1 : 215 ≤ r) (h2 : r ≤ 215) (w : World) :
    Calls Try.prog 28 #[.int .i32 r, .bool false] w fun e w' => e = .returned (.bool false) ∧ w' = w := by
  have t1 : 192 ≤ r := by omega
  have t2 : ¬ r ≤ 214 := by omega
  have t3 : ¬ 216 ≤ r := by omega
  have t4 : ¬ 248 ≤ r := by omega
  have t5 : ¬ 880 ≤ r := by omega
  have t6 : ¬ 895 ≤ r := by omega
  have t7 : ¬ 8204 ≤ r := by omega
  have t8 : ¬ 8304 ≤ r := by omega
  have t9 : ¬ 11264 ≤ r := by omega
  have t10 : ¬ 12289 ≤ r := by omega
  have t11 : ¬ 63744 ≤ r := by omega
  have t12 : ¬ 65008 ≤ r := by omega
  have t13 : ¬ 65536 ≤ r := by omega
  have t14 : (r == 183) = false := beq_eq_false_iff_ne.2 (by omega)
  have t15 : ¬ 768 ≤ r := by omega
  have t16 : ¬ 8255 ≤ r := by omega
  go_enter Try.func28, Try.ntmps28
  simp only [List.append]
  go_wp2
  go_ret
  exact ⟨rfl, rfl⟩

set_option maxRecDepth 100000 in
set_option maxHeartbeats 1000000 in
theorem ino3 (r : Int) (h1 : 247 ≤ r) (h2 : r ≤ 247) (w : World) :
    Calls Try.prog 28 #[.int .i32 r, .bool false] w fun e w' => e = .returned (.bool false) ∧ w' = w := by
  have t1 : 192 ≤ r := by omega
  have t2 : ¬ r ≤ 214 := by omega
  have t3 : 216 ≤ r := by omega
  have t4 : ¬ r ≤ 246 := by omega
  have t5 : ¬ 248 ≤ r := by omega
  have t6 : ¬ 880 ≤ r := by omega
  have t7 : ¬ 895 ≤ r := by omega
  have t8 : ¬ 8204 ≤ r := by omega
  have t9 : ¬ 8304 ≤ r := by omega
  have t10 : ¬ 11264 ≤ r := by omega
  have t11 : ¬ 12289 ≤ r := by omega
  have t12 : ¬ 63744 ≤ r := by omega
  have t13 : ¬ 65008 ≤ r := by omega
  have t14 : ¬ 65536 ≤ r := by omega
  have t15 : (r == 183) = false := beq_eq_false_iff_ne.2 (by omega)
  have t16 : ¬ 768 ≤ r := by omega
  have t17 : ¬ 8255 ≤ r := by omega
  go_enter Try.func28, Try.ntmps28
  simp only [List.append]
  go_wp2
  go_ret
  exact ⟨rfl, rfl⟩

set_option maxRecDepth 100000 in
set_option maxHeartbeats 1000000 in
theorem ino4 (r : Int) (h1 : 894 ≤ r) (h2 : r ≤ 894) (w : World) :
    Calls Try.prog 28 #[.int .i32 r, .bool false] w fun e w' => e = .returned (.bool false) ∧ w' = w := by
  have t1 : 192 ≤ r := by omega
  have t2 : ¬ r ≤ 214 := by omega
  have t3 : 216 ≤ r := by omega
  have t4 : ¬ r ≤ 246 := by omega
  have t5 : 248 ≤ r := by omega
  have t6 : ¬ r ≤ 767 := by omega
  have t7 : 880 ≤ r := by omega
  have t8 : ¬ r ≤ 893 := by omega
  have t9 : ¬ 895 ≤ r := by omega
  have t10 : ¬ 8204 ≤ r := by omega
  have t11 : ¬ 8304 ≤ r := by omega
  have t12 : ¬ 11264 ≤ r := by omega
  have t13 : ¬ 12289 ≤ r := by omega
  have t14 : ¬ 63744 ≤ r := by omega
  have t15 : ¬ 65008 ≤ r := by omega
  have t16 : ¬ 65536 ≤ r := by omega
  have t17 : (r == 183) = false := beq_eq_false_iff_ne.2 (by omega)
  have t18 : 768 ≤ r := by omega
  have t19 : ¬ r ≤ 879 := by omega
  have t20 : ¬ 8255 ≤ r := by omega
  go_enter Try.func28, Try.ntmps28
  simp only [List.append]
  go_wp2
  go_ret
  exact ⟨rfl, rfl⟩

set_option maxRecDepth 100000 in
set_option maxHeartbeats 1000000 in
theorem ino5 (r : Int) (h1 : 8192 ≤ r) (h2 : r ≤ 8203) (w : World) :
    Calls Try.prog 28 #[.int .i32 r, .bool false] w fun e w' => e = .returned (.bool false) ∧ w' = w := by
  have t1 : 192 ≤ r := by omega
  have t2 : ¬ r ≤ 214 := by omega
  have t3 : 216 ≤ r := by omega
  have t4 : ¬ r ≤ 246 := by omega
  have t5 : 248 ≤ r := by omega
  have t6 : ¬ r ≤ 767 := by omega
  have t7 : 880 ≤ r := by omega
  have t8 : ¬ r ≤ 893 := by omega
  have t9 : 895 ≤ r := by omega
  have t10 : ¬ r ≤ 8191 := by omega
  have t11 : ¬ 8204 ≤ r := by omega
  have t12 : ¬ 8304 ≤ r := by omega
  have t13 : ¬ 11264 ≤ r := by omega
  have t14 : ¬ 12289 ≤ r := by omega
  have t15 : ¬ 63744 ≤ r := by omega
  have t16 : ¬ 65008 ≤ r := by omega
  have t17 : ¬ 65536 ≤ r := by omega
  have t18 : (r == 183) = false := beq_eq_false_iff_ne.2 (by omega)
  have t19 : 768 ≤ r := by omega
  have t20 : ¬ r ≤ 879 := by omega
  have t21 : ¬ 8255 ≤ r := by omega
  go_enter Try.func28, Try.ntmps28
  simp only [List.append]
  go_wp2
  go_ret
  exact ⟨rfl, rfl⟩

set_option maxRecDepth 100000 in
set_option maxHeartbeats 1000000 in
theorem ino6 (r : Int) (h1 : 8206 ≤ r) (h2 : r ≤ 8254) (w : World) :
    Calls Try.prog 28 #[.int .i32 r, .bool false] w fun e w' => e = .returned (.bool false) ∧ w' = w := by
  have t1 : 192 ≤ r := by omega
  have t2 : ¬ r ≤ 214 := by omega
  have t3 : 216 ≤ r := by omega
  have t4 : ¬ r ≤ 246 := by omega
  have t5 : 248 ≤ r := by omega
  have t6 : ¬ r ≤ 767 := by omega
  have t7 : 880 ≤ r := by omega
  have t8 : ¬ r ≤ 893 := by omega
  have t9 : 895 ≤ r := by omega
  have t10 : ¬ r ≤ 8191 := by omega
  have t11 : 8204 ≤ r := by omega
  have t12 : ¬ r ≤ 8205 := by omega
  have t13 : ¬ 8304 ≤ r := by omega
  have t14 : ¬ 11264 ≤ r := by omega
  have t15 : ¬ 12289 ≤ r := by omega
  have t16 : ¬ 63744 ≤ r := by omega
  have t17 : ¬ 65008 ≤ r := by omega
  have t18 : ¬ 65536 ≤ r := by omega
  have t19 : (r == 183) = false := beq_eq_false_iff_ne.2 (by omega)
  have t20 : 768 ≤ r := by omega
  have t21 : ¬ r ≤ 879 := by omega
  have t22 : ¬ 8255 ≤ r := by omega
  go_enter Try.func28, Try.ntmps28
  simp only [List.append]
  go_wp2
  go_ret
  exact ⟨rfl, rfl⟩

set_option maxRecDepth 100000 in
set_option maxHeartbeats 1000000 in
theorem ino7 (r : Int) (h1 : 8257 ≤ r) (h2 : r ≤ 8303) (w : World) :
    Calls Try.prog 28 #[.int .i32 r, .bool false] w fun e w' => e = .returned (.bool false) ∧ w' = w := by
  have t1 : 192 ≤ r := by omega
  have t2 : ¬ r ≤ 214 := by omega
  have t3 : 216 ≤ r := by omega
  have t4 : ¬ r ≤ 246 := by omega
  have t5 : 248 ≤ r := by omega
  have t6 : ¬ r ≤ 767 := by omega
  have t7 : 880 ≤ r := by omega
  have t8 : ¬ r ≤ 893 := by omega
  have t9 : 895 ≤ r := by omega
  have t10 : ¬ r ≤ 8191 := by omega
  have t11 : 8204 ≤ r := by omega
  have t12 : ¬ r ≤ 8205 := by omega
  have t13 : ¬ 8304 ≤ r := by omega
  have t14 : ¬ 11264 ≤ r := by omega
  have t15 : ¬ 12289 ≤ r := by omega
  have t16 : ¬ 63744 ≤ r := by omega
  have t17 : ¬ 65008 ≤ r := by omega
  have t18 : ¬ 65536 ≤ r := by omega
  have t19 : (r == 183) = false := beq_eq_false_iff_ne.2 (by omega)
  have t20 : 768 ≤ r := by omega
  have t21 : ¬ r ≤ 879 := by omega
  have t22 : 8255 ≤ r := by omega
  have t23 : ¬ r ≤ 8256 := by omega
  go_enter Try.func28, Try.ntmps28
  simp only [List.append]
  go_wp2
  go_ret
  exact ⟨rfl, rfl⟩

set_option maxRecDepth 100000 in
set_option maxHeartbeats 1000000 in
theorem ino8 (r : Int) (h1 : 8592 ≤ r) (h2 : r ≤ 11263) (w : World) :
    Calls Try.prog 28 #[.int .i32 r, .bool false] w fun e w' => e = .returned (.bool false) ∧ w' = w := by
  have t1 : 192 ≤ r := by omega
  have t2 : ¬ r ≤ 214 := by omega
  have t3 : 216 ≤ r := by omega
  have t4 : ¬ r ≤ 246 := by omega
  have t5 : 248 ≤ r := by omega
  have t6 : ¬ r ≤ 767 := by omega
  have t7 : 880 ≤ r := by omega
  have t8 : ¬ r ≤ 893 := by omega
  have t9 : 895 ≤ r := by omega
  have t10 : ¬ r ≤ 8191 := by omega
  have t11 : 8204 ≤ r := by omega
  have t12 : ¬ r ≤ 8205 := by omega
  have t13 : 8304 ≤ r := by omega
  have t14 : ¬ r ≤ 8591 := by omega
  have t15 : ¬ 11264 ≤ r := by omega
  have t16 : ¬ 12289 ≤ r := by omega
  have t17 : ¬ 63744 ≤ r := by omega
  have t18 : ¬ 65008 ≤ r := by omega
  have t19 : ¬ 65536 ≤ r := by omega
  have t20 : (r == 183) = false := beq_eq_false_iff_ne.2 (by omega)
  have t21 : 768 ≤ r := by omega
  have t22 : ¬ r ≤ 879 := by omega
  have t23 : 8255 ≤ r := by omega
  have t24 : ¬ r ≤ 8256 := by omega
  go_enter Try.func28, Try.ntmps28
  simp only [List.append]
  go_wp2
  go_ret
  exact ⟨rfl, rfl⟩

set_option maxRecDepth 100000 in
set_option maxHeartbeats 1000000 in
theorem ino9 (r : Int) (h1 : 12272 ≤ r) (h2 : r ≤ 12288) (w : World) :
    Calls Try.prog 28 #[.int .i32 r, .bool false] w fun e w' => e = .returned (.bool false) ∧ w' = w := by
  have t1 : 192 ≤ r := by omega
  have t2 : ¬ r ≤ 214 := by omega
  have t3 : 216 ≤ r := by omega
  have t4 : ¬ r ≤ 246 := by omega
  have t5 : 248 ≤ r := by omega
  have t6 : ¬ r ≤ 767 := by omega
  have t7 : 880 ≤ r := by omega
  have t8 : ¬ r ≤ 893 := by omega
  have t9 : 895 ≤ r := by omega
  have t10 : ¬ r ≤ 8191 := by omega
  have t11 : 8204 ≤ r := by omega
  have t12 : ¬ r ≤ 8205 := by omega
  have t13 : 8304 ≤ r := by omega
  have t14 : ¬ r ≤ 8591 := by omega
  have t15 : 11264 ≤ r := by omega
  have t16 : ¬ r ≤ 12271 := by omega
  have t17 : ¬ 12289 ≤ r := by omega
  have t18 : ¬ 63744 ≤ r := by omega
  have t19 : ¬ 65008 ≤ r := by omega
  have t20 : ¬ 65536 ≤ r := by omega
  have t21 : (r == 183) = false := beq_eq_false_iff_ne.2 (by omega)
  have t22 : 768 ≤ r := by omega
  have t23 : ¬ r ≤ 879 := by omega
  have t24 : 8255 ≤ r := by omega
  have t25 : ¬ r ≤ 8256 := by omega
  go_enter Try.func28, Try.ntmps28
  simp only [List.append]
  go_wp2
  go_ret
  exact ⟨rfl, rfl⟩

set_option maxRecDepth 100000 in
set_option maxHeartbeats 1000000 in
theorem ino10 (r : Int) (h1 : 55296 ≤ r) (h2 : r ≤ 63743) (w : World) :
    Calls Try.prog 28 #[.int .i32 r, .bool false] w fun e w' => e = .returned (.bool false) ∧ w' = w := by
  have t1 : 192 ≤ r := by omega
  have t2 : ¬ r ≤ 214 := by omega
  have t3 : 216 ≤ r := by omega
  have t4 : ¬ r ≤ 246 := by omega
  have t5 : 248 ≤ r := by omega
  have t6 : ¬ r ≤ 767 := by omega
  have t7 : 880 ≤ r := by omega
  have t8 : ¬ r ≤ 893 := by omega
  have t9 : 895 ≤ r := by omega
  have t10 : ¬ r ≤ 8191 := by omega
  have t11 : 8204 ≤ r := by omega
  have t12 : ¬ r ≤ 8205 := by omega
  have t13 : 8304 ≤ r := by omega
  have t14 : ¬ r ≤ 8591 := by omega
  have t15 : 11264 ≤ r := by omega
  have t16 : ¬ r ≤ 12271 := by omega
  have t17 : 12289 ≤ r := by omega
  have t18 : ¬ r ≤ 55295 := by omega
  have t19 : ¬ 63744 ≤ r := by omega
  have t20 : ¬ 65008 ≤ r := by omega
  have t21 : ¬ 65536 ≤ r := by omega
  have t22 : (r == 183) = false := beq_eq_false_iff_ne.2 (by omega)
  have t23 : 768 ≤ r := by omega
  have t24 : ¬ r ≤ 879 := by omega
  have t25 : 8255 ≤ r := by omega
  have t26 : ¬ r ≤ 8256 := by omega
  go_enter Try.func28, Try.ntmps28
  simp only [List.append]
  go_wp2
  go_ret
  exact ⟨rfl, rfl⟩

set_option maxRecDepth 100000 in
set_option maxHeartbeats 1000000 in
theorem ino11 (r : Int) (h1 : 64976 ≤ r) (h2 : r ≤ 65007) (w : World) :
    Calls Try.prog 28 #[.int .i32 r, .bool false] w fun e w' => e = .returned (.bool false) ∧ w' = w := by
  have t1 : 192 ≤ r := by omega
  have t2 : ¬ r ≤ 214 := by omega
  have t3 : 216 ≤ r := by omega
  have t4 : ¬ r ≤ 246 := by omega
  have t5 : 248 ≤ r := by omega
  have t6 : ¬ r ≤ 767 := by omega
  have t7 : 880 ≤ r := by omega
  have t8 : ¬ r ≤ 893 := by omega
  have t9 : 895 ≤ r := by omega
  have t10 : ¬ r ≤ 8191 := by omega
  have t11 : 8204 ≤ r := by omega
  have t12 : ¬ r ≤ 8205 := by omega
  have t13 : 8304 ≤ r := by omega
  have t14 : ¬ r ≤ 8591 := by omega
  have t15 : 11264 ≤ r := by omega
  have t16 : ¬ r ≤ 12271 := by omega
  have t17 : 12289 ≤ r := by omega
  have t18 : ¬ r ≤ 55295 := by omega
  have t19 : 63744 ≤ r := by omega
  have t20 : ¬ r ≤ 64975 := by omega
  have t21 : ¬ 65008 ≤ r := by omega
  have t22 : ¬ 65536 ≤ r := by omega
  have t23 : (r == 183) = false := beq_eq_false_iff_ne.2 (by omega)
  have t24 : 768 ≤ r := by omega
  have t25 : ¬ r ≤ 879 := by omega
  have t26 : 8255 ≤ r := by omega
  have t27 : ¬ r ≤ 8256 := by omega
  go_enter Try.func28, Try.ntmps28
  simp only [List.append]
  go_wp2
  go_ret
  exact ⟨rfl, rfl⟩

set_option maxRecDepth 100000 in
set_option maxHeartbeats 1000000 in
theorem ino12 (r : Int) (h1 : 65534 ≤ r) (h2 : r ≤ 65535) (w : World) :
    Calls Try.prog 28 #[.int .i32 r, .bool false] w fun e w' => e = .returned (.bool false) ∧ w' = w := by
  have t1 : 192 ≤ r := by omega
  have t2 : ¬ r ≤ 214 := by omega
  have t3 : 216 ≤ r := by omega
  have t4 : ¬ r ≤ 246 := by omega
  have t5 : 248 ≤ r := by omega
  have t6 : ¬ r ≤ 767 := by omega
  have t7 : 880 ≤ r := by omega
  have t8 : ¬ r ≤ 893 := by omega
  have t9 : 895 ≤ r := by omega
  have t10 : ¬ r ≤ 8191 := by omega
  have t11 : 8204 ≤ r := by omega
  have t12 : ¬ r ≤ 8205 := by omega
  have t13 : 8304 ≤ r := by omega
  have t14 : ¬ r ≤ 8591 := by omega
  have t15 : 11264 ≤ r := by omega
  have t16 : ¬ r ≤ 12271 := by omega
  have t17 : 12289 ≤ r := by omega
  have t18 : ¬ r ≤ 55295 := by omega
  have t19 : 63744 ≤ r := by omega
  have t20 : ¬ r ≤ 64975 := by omega
  have t21 : 65008 ≤ r := by omega
  have t22 : ¬ r ≤ 65533 := by omega
  have t23 : ¬ 65536 ≤ r := by omega
  have t24 : (r == 183) = false := beq_eq_false_iff_ne.2 (by omega)
  have t25 : 768 ≤ r := by omega
  have t26 : ¬ r ≤ 879 := by omega
  have t27 : 8255 ≤ r := by omega
  have t28 : ¬ r ≤ 8256 := by omega
  go_enter Try.func28, Try.ntmps28
  simp only [List.append]
  go_wp2
  go_ret
  exact ⟨rfl, rfl⟩

set_option maxRecDepth 100000 in
set_option maxHeartbeats 1000000 in
theorem ino13 (r : Int) (h1 : 983040 ≤ r) (w : World) :
    Calls Try.prog 28 #[.int .i32 r, .bool false] w fun e w' => e = .returned (.bool false) ∧ w' = w := by
  have t1 : 192 ≤ r := by omega
  have t2 : ¬ r ≤ 214 := by omega
  have t3 : 216 ≤ r := by omega
  have t4 : ¬ r ≤ 246 := by omega
  have t5 : 248 ≤ r := by omega
  have t6 : ¬ r ≤ 767 := by omega
  have t7 : 880 ≤ r := by omega
  have t8 : ¬ r ≤ 893 := by omega
  have t9 : 895 ≤ r := by omega
  have t10 : ¬ r ≤ 8191 := by omega
  have t11 : 8204 ≤ r := by omega
  have t12 : ¬ r ≤ 8205 := by omega
  have t13 : 8304 ≤ r := by omega
  have t14 : ¬ r ≤ 8591 := by omega
  have t15 : 11264 ≤ r := by omega
  have t16 : ¬ r ≤ 12271 := by omega
  have t17 : 12289 ≤ r := by omega
  have t18 : ¬ r ≤ 55295 := by omega
  have t19 : 63744 ≤ r := by omega
  have t20 : ¬ r ≤ 64975 := by omega
  have t21 : 65008 ≤ r := by omega
  have t22 : ¬ r ≤ 65533 := by omega
  have t23 : 65536 ≤ r := by omega
  have t24 : ¬ r ≤ 983039 := by omega
  have t25 : (r == 183) = false := beq_eq_false_iff_ne.2 (by omega)
  have t26 : 768 ≤ r := by omega
  have t27 : ¬ r ≤ 879 := by omega
  have t28 : 8255 ≤ r := by omega
  have t29 : ¬ r ≤ 8256 := by omega
  go_enter Try.func28, Try.ntmps28
  simp only [List.append]
  go_wp2
  go_ret
  exact ⟨rfl, rfl⟩

theorem gaps (r : Int) (h : ¬ Start r) : r ≤ 191 ∨ (215 ≤ r ∧ r ≤ 215) ∨ (247 ≤ r ∧ r ≤ 247) ∨ (768 ≤ r ∧ r ≤ 879) ∨ (894 ≤ r ∧ r ≤ 894) ∨ (8192 ≤ r ∧ r ≤ 8203) ∨ (8206 ≤ r ∧ r ≤ 8303) ∨ (8592 ≤ r ∧ r ≤ 11263) ∨ (12272 ≤ r ∧ r ≤ 12288) ∨ (55296 ≤ r ∧ r ≤ 63743) ∨ (64976 ≤ r ∧ r ≤ 65007) ∨ (65534 ≤ r ∧ r ≤ 65535) ∨ 983040 ≤ r := by
  unfold Start at h; omega
theorem gaps_in (r : Int) (h : ¬ Start r) (h2 : ¬ Inside r) : r ≤ 182 ∨ (184 ≤ r ∧ r ≤ 191) ∨ (215 ≤ r ∧ r ≤ 215) ∨ (247 ≤ r ∧ r ≤ 247) ∨ (894 ≤ r ∧ r ≤ 894) ∨ (8192 ≤ r ∧ r ≤ 8203) ∨ (8206 ≤ r ∧ r ≤ 8254) ∨ (8257 ≤ r ∧ r ≤ 8303) ∨ (8592 ≤ r ∧ r ≤ 11263) ∨ (12272 ≤ r ∧ r ≤ 12288) ∨ (55296 ≤ r ∧ r ≤ 63743) ∨ (64976 ≤ r ∧ r ≤ 65007) ∨ (65534 ≤ r ∧ r ≤ 65535) ∨ 983040 ≤ r := by
  unfold Start at h; unfold Inside at h2; omega
/-- what 'isNameCharBeyondASCII' answers -/
def nameB (r : Int) (b : Bool) : Bool := startB r || (!b && insideB r)

theorem startB_false {r : Int} : startB r = false ↔ ¬ Start r := by rw [← startB_true]; simp
theorem insideB_false {r : Int} : insideB r = false ↔ ¬ Inside r := by rw [← insideB_true]; simp
theorem nameB_start {r : Int} (b : Bool) (h : Start r) : nameB r b = true := by simp [nameB, startB_true.2 h]
theorem nameB_first {r : Int} (h : ¬ Start r) : nameB r true = false := by simp [nameB, startB_false.2 h]
theorem nameB_in {r : Int} (h : Inside r) : nameB r false = true := by simp [nameB, insideB_true.2 h]
theorem nameB_no {r : Int} (b : Bool) (h : ¬ Start r) (h' : ¬ Inside r) : nameB r b = false := by simp [nameB, startB_false.2 h, insideB_false.2 h']

theorem is_any (r : Int) (b : Bool) (w : World) :
    Calls Try.prog 28 #[.int .i32 r, .bool b] w fun e w' => e = .returned (.bool (nameB r b)) ∧ w' = w := by
  by_cases h : Start r
  · rw [nameB_start b h]
    unfold Start at h
    rcases h with ⟨h1, h2⟩ | ⟨h1, h2⟩ | ⟨h1, h2⟩ | ⟨h1, h2⟩ | ⟨h1, h2⟩ | ⟨h1, h2⟩ | ⟨h1, h2⟩ | ⟨h1, h2⟩ | ⟨h1, h2⟩ | ⟨h1, h2⟩ | ⟨h1, h2⟩ | ⟨h1, h2⟩
    · exact yes0 r b h1 h2 w
    · exact yes1 r b h1 h2 w
    · exact yes2 r b h1 h2 w
    · exact yes3 r b h1 h2 w
    · exact yes4 r b h1 h2 w
    · exact yes5 r b h1 h2 w
    · exact yes6 r b h1 h2 w
    · exact yes7 r b h1 h2 w
    · exact yes8 r b h1 h2 w
    · exact yes9 r b h1 h2 w
    · exact yes10 r b h1 h2 w
    · exact yes11 r b h1 h2 w
  · cases b
    · by_cases h' : Inside r
      · rw [nameB_in h']
        unfold Inside at h'
        rcases h' with rfl | ⟨h1, h2⟩ | ⟨h1, h2⟩
        · exact iyes0 w
        · exact iyes1 r h1 h2 w
        · exact iyes2 r h1 h2 w
      · rw [nameB_no false h h']
        rcases gaps_in r h h' with h1 | ⟨h1, h2⟩ | ⟨h1, h2⟩ | ⟨h1, h2⟩ | ⟨h1, h2⟩ | ⟨h1, h2⟩ | ⟨h1, h2⟩ | ⟨h1, h2⟩ | ⟨h1, h2⟩ | ⟨h1, h2⟩ | ⟨h1, h2⟩ | ⟨h1, h2⟩ | ⟨h1, h2⟩ | h1
        · exact ino0 r h1 w
        · exact ino1 r h1 h2 w
        · exact ino2 r h1 h2 w
        · exact ino3 r h1 h2 w
        · exact ino4 r h1 h2 w
        · exact ino5 r h1 h2 w
        · exact ino6 r h1 h2 w
        · exact ino7 r h1 h2 w
        · exact ino8 r h1 h2 w
        · exact ino9 r h1 h2 w
        · exact ino10 r h1 h2 w
        · exact ino11 r h1 h2 w
        · exact ino12 r h1 h2 w
        · exact ino13 r h1 w
    · rw [nameB_first h]
      rcases gaps r h with h1 | ⟨h1, h2⟩ | ⟨h1, h2⟩ | ⟨h1, h2⟩ | ⟨h1, h2⟩ | ⟨h1, h2⟩ | ⟨h1, h2⟩ | ⟨h1, h2⟩ | ⟨h1, h2⟩ | ⟨h1, h2⟩ | ⟨h1, h2⟩ | ⟨h1, h2⟩ | h1
      · exact fno0 r h1 w
      · exact fno1 r h1 h2 w
      · exact fno2 r h1 h2 w
      · exact fno3 r h1 h2 w
      · exact fno4 r h1 h2 w
      · exact fno5 r h1 h2 w
      · exact fno6 r h1 h2 w
      · exact fno7 r h1 h2 w
      · exact fno8 r h1 h2 w
      · exact fno9 r h1 h2 w
      · exact fno10 r h1 h2 w
      · exact fno11 r h1 h2 w
      · exact fno12 r h1 w

/-- the exported name -/
theorem zz_any (r : Int) (b : Bool) (w : World) :
    Calls Try.prog 9 #[.int .i32 r, .bool b] w fun e w' => e = .returned (.bool (nameB r b)) ∧ w' = w := by
  go_enter Try.func9, Try.ntmps9
  go_wp2_with (go_at_call 28; refine (is_any _ _ _).mono ?_; rintro e w' ⟨rfl, rfl⟩)
  go_ret
  exact ⟨rfl, rfl⟩
end Go.Proofs.Qxb6601864a.name
