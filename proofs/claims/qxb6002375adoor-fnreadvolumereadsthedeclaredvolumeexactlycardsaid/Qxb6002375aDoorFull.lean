import Derived.Test.Qxb6002375aDoorAt
namespace Go.Proofs.Qxb6002375aDoor.rv
open Go.ChangeShapes Go.WideShapes Go.ChangeAt Go.RowKit
set_option linter.unusedVariables false

theorem full_any (D : List Int) (a : Option Addr) (g R h i k off L cap N : Nat) (a0 a1 : Addr) (cur : List Value) (w : World)
    (G : Glob N a0 a1 w) (hN : N ≤ w.heap.size) (hNR : N ≤ R) (hNh : N ≤ h) (hR : Rd D a g R i w) (hh : w.heap[h]? = some (.cells cur.toArray 5))
    (hgh : g ≠ h) (hD : D.length ≤ 1048576) (hfit : off + L ≤ cur.length) (hL : L ≤ 100000000) (hL0 : 0 < L) (hLc : L ≤ cap) (hk : k = min L (D.length - i)) :
    Calls Tryd.prog 21 #[.iface 25 (.pointer (some ⟨R, 0, none⟩)), .slice (some ⟨h, off, none⟩) L cap] w fun e w' =>
      e = .returned (.tuple #[.int .i64 k, toldOf k L a0 a1]) ∧ Rd D a g R (i + k) w' ∧ w'.heap[h]? = some (.cells (over cur off ((nums D).drop i |>.take k)).toArray 5) ∧ Touch (fun b => b = R ∨ b = h) w w' := by
  have Hc : Hid (Calls Tryd.prog 24 #[.iface 25 (.pointer (some ⟨R, 0, none⟩)), .slice (some ⟨h, off, none⟩) L cap, .int .i64 L] w fun e w' =>
      e = .returned (.tuple #[.int .i64 k, toldOf k L a0 a1]) ∧ Rd D a g R (i + k) w' ∧ w'.heap[h]? = some (.cells (over cur off ((nums D).drop i |>.take k)).toArray 5) ∧ Touch (fun b => b = R ∨ b = h) w w') :=
    atleast_any D a g R h i k off L cap N a0 a1 cur w G hN hNR hNh hR hh hgh hD hfit hL hL0 hLc hk
  clear G hR hh hk
  go_enter Tryd.func21, Tryd.ntmps21
  go_wp2_with (go_at_call 24; refine Hc.out.mono ?_; rintro e w6 ⟨rfl, hr6, hh6, ht6⟩)
  go_ret2
  exact ⟨rfl, hr6, hh6, ht6⟩

theorem eql_nil (a0 : Addr) (w : World) : (binOp .eql 28 .nilIface (.iface 59 (.pointer (some a0)))).run Tryd.prog w = .ok (.bool false) w := run_eql_iface_nil_left w 59 _ Tryd.underlying28
theorem eql_other {a b : Addr} {w : World} (hne : a ≠ b) (ha : ∃ c t, w.heap[a.block]? = some (.cells c t (0, 0))) (hb : ∃ c t, w.heap[b.block]? = some (.cells c t (0, 0))) : (binOp .eql 28 (.iface 59 (.pointer (some a))) (.iface 59 (.pointer (some b)))).run Tryd.prog w = .ok (.bool false) w := by
  obtain ⟨ca, ta, ha⟩ := ha
  obtain ⟨cb, tb, hb⟩ := hb
  exact run_eql_iface_ptr_other w Tryd.underlying28 Tryd.underlying59 rfl (by kernel_rfl) rfl (by decide) hne ha hb

set_option maxHeartbeats 1000000 in
theorem readFull_any (D : List Int) (a : Option Addr) (g R h i k off L cap N : Nat) (a0 a1 : Addr) (cur : List Value) (w : World)
    (G : Glob N a0 a1 w) (hN : N ≤ w.heap.size) (hNR : N ≤ R) (hNh : N ≤ h) (hR : Rd D a g R i w) (hh : w.heap[h]? = some (.cells cur.toArray 5))
    (hgh : g ≠ h) (hD : D.length ≤ 1048576) (hfit : off + L ≤ cur.length) (hL : L ≤ 100000000) (hL0 : 0 < L) (hLc : L ≤ cap) (hk : k = min L (D.length - i)) :
    Calls Tryd.prog 16 #[.iface 25 (.pointer (some ⟨R, 0, none⟩)), .slice (some ⟨h, off, none⟩) L cap] w fun e w' =>
      e = .returned (.tuple #[.slice (some ⟨h, off, none⟩) k cap, .nilIface]) ∧ Rd D a g R (i + k) w' ∧ w'.heap[h]? = some (.cells (over cur off ((nums D).drop i |>.take k)).toArray 5) ∧ Touch (fun b => b = R ∨ b = h) w w' := by
  have Hc : Hid (Calls Tryd.prog 21 #[.iface 25 (.pointer (some ⟨R, 0, none⟩)), .slice (some ⟨h, off, none⟩) L cap] w fun e w' =>
      e = .returned (.tuple #[.int .i64 k, toldOf k L a0 a1]) ∧ Rd D a g R (i + k) w' ∧ w'.heap[h]? = some (.cells (over cur off ((nums D).drop i |>.take k)).toArray 5) ∧ Touch (fun b => b = R ∨ b = h) w w') :=
    full_any D a g R h i k off L cap N a0 a1 cur w G hN hNR hNh hR hh hgh hD hfit hL hL0 hLc hk
  have hk0 : (0 : Int) ≤ (k : Int) := by omega
  have hkc : (k : Int) ≤ (cap : Int) := by omega
  have hGk : ∀ w', Touch (fun b => b = R ∨ b = h) w w' → Glob N a0 a1 w' := fun w' ht => G.below (ht.below hN (fun k hk => by rintro (e | e) <;> omega))
  clear G hR hh hk
  go_enter Tryd.func16, Tryd.ntmps16
  go_wp2_with fail
  go_at_call 21
  refine Hc.out.mono ?_
  rintro e w6 ⟨rfl, hr6, hh6, ht6⟩
  have hG6 := hGk w6 ht6
  have g0 := hG6.g0
  have g1 := hG6.g1
  have e00 := eql_same a0 w6
  have e11 := eql_same a1 w6
  have en0 := eql_nil a0 w6
  have en1 := eql_nil a1 w6
  have e10 : a1 ≠ a0 → (binOp .eql 28 (.iface 59 (.pointer (some a1))) (.iface 59 (.pointer (some a0)))).run Tryd.prog w6 = .ok (.bool false) w6 := fun h => eql_other h hG6.b1 hG6.b0
  clear hG6
  have h3 : toldOf k L a0 a1 = .nilIface ∨ toldOf k L a0 a1 = .iface 59 (.pointer (some a0)) ∨ toldOf k L a0 a1 = .iface 59 (.pointer (some a1)) := by
    unfold toldOf
    split
    · exact .inl rfl
    · split
      · exact .inr (.inl rfl)
      · exact .inr (.inr rfl)
  generalize toldOf k L a0 a1 = v at h3 ⊢
  rcases h3 with rfl | rfl | rfl
  · go_wp2_with fail
    go_ret2
    exact ⟨rfl, hr6, hh6, ht6⟩
  · go_wp2_with fail
    go_ret2
    exact ⟨rfl, hr6, hh6, ht6⟩
  · by_cases ha : a1 = a0
    · subst ha
      go_wp2_with fail
      go_ret2
      exact ⟨rfl, hr6, hh6, ht6⟩
    · have e10' := e10 ha
      go_wp2_with fail
      go_ret2
      exact ⟨rfl, hr6, hh6, ht6⟩
end Go.Proofs.Qxb6002375aDoor.rv
