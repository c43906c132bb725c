import Derived.Test.Qxb6002375aDoorRead
import Derived.LaidEql
import Derived.WideLaws
namespace Go.Proofs.Qxb6002375aDoor.rv
open Go.ChangeShapes Go.WideShapes Go.ChangeAt Go.RowKit
set_option linter.unusedVariables false

/-- what the two sentinels read as -/
structure Glob (N : Nat) (a0 a1 : Addr) (w : World) : Prop where
  g0 : w.cell? ⟨0, 0, none⟩ = some (.iface 59 (.pointer (some a0)))
  g1 : w.cell? ⟨1, 0, none⟩ = some (.iface 59 (.pointer (some a1)))
  b0 : ∃ c t, w.heap[a0.block]? = some (.cells c t (0, 0))
  b1 : ∃ c t, w.heap[a1.block]? = some (.cells c t (0, 0))
  l0 : a0.block < N
  l1 : a1.block < N
  n1 : 1 < N

theorem Glob.below {N : Nat} {a0 a1 : Addr} {w w' : World} (h : Glob N a0 a1 w) (hb : Below N w w') : Glob N a0 a1 w' where
  g0 := by rw [← h.g0]; unfold World.cell?; rw [hb.block 0 (by have := h.n1; omega)]
  g1 := by rw [← h.g1]; unfold World.cell?; rw [hb.block 1 h.n1]
  b0 := by obtain ⟨c, t, e⟩ := h.b0; exact ⟨c, t, by rw [hb.block _ h.l0]; exact e⟩
  b1 := by obtain ⟨c, t, e⟩ := h.b1; exact ⟨c, t, by rw [hb.block _ h.l1]; exact e⟩
  l0 := h.l0
  l1 := h.l1
  n1 := h.n1

/-- the reader R over the bytes D, standing at i -/
structure Rd (D : List Int) (a : Option Addr) (g R i : Nat) (w : World) : Prop where
  rd : ∃ q, w.heap[R]? = some (.cells #[.slice a D.length D.length, .int .i64 (i : Int), .int .i64 q] 39)
  dat : D = [] ∨ (a = some ⟨g, 0, none⟩ ∧ w.heap[g]? = some (.cells (nums D).toArray 5))
  le : i ≤ D.length

theorem over_nil (cur : List Value) (o : Nat) : over cur o [] = cur := by simp [over]

/-- what a call of Read says behind its bytes -/
def tellOf (D : List Int) (i : Nat) (a0 : Addr) : Value := if i < D.length then .nilIface else .iface 59 (.pointer (some a0))

theorem read_any (D : List Int) (a : Option Addr) (g R h i k off L cap N : Nat) (a0 a1 : Addr) (cur : List Value) (w : World)
    (G : Glob N a0 a1 w) (hR : Rd D a g R i w) (hh : w.heap[h]? = some (.cells cur.toArray 5))
    (hgh : g ≠ h) (hD : D.length ≤ 1048576) (hfit : off + L ≤ cur.length) (hL : L ≤ 100000000) (hk : k = min L (D.length - i)) :
    Calls Tryd.prog 40 #[.pointer (some ⟨R, 0, none⟩), .slice (some ⟨h, off, none⟩) L cap] w fun e w' =>
      e = .returned (.tuple #[.int .i64 (k : Int), tellOf D i a0]) ∧ Rd D a g R (i + k) w' ∧ w'.heap[h]? = some (.cells (over cur off ((nums D).drop i |>.take k)).toArray 5) ∧ Touch (fun b => b = R ∨ b = h) w w' := by
  have hle := hR.le
  by_cases hi : i < D.length
  · obtain ⟨q, hq⟩ := hR.rd
    rcases hR.dat with hd | ⟨rfl, hd⟩
    · subst hd; simp at hi
    · refine (read_some D g R h i k q off L cap cur w hq hd hh hgh hi hD hfit hL hk).mono ?_
      rintro e w' ⟨rfl, hq', hh', ht⟩
      refine ⟨by rw [tellOf, if_pos hi], ⟨hq', .inr ⟨rfl, ?_⟩, by omega⟩, hh', ht⟩
      have hgR : g ≠ R := fun e => by subst e; rw [hq] at hd; simp at hd
      rw [ht.block g (lt_of_heap hd) (by rintro (e | e) <;> omega)]
      exact hd
  · have hin : i = D.length := by omega
    obtain ⟨q, hq⟩ := hR.rd
    refine (read_end _ default a D.length D.length i q R _ w G.g0 hq (by omega)).mono ?_
    rintro e w' ⟨rfl, m, hw⟩
    rw [hw]
    have hz : k = 0 := by omega
    rw [hz, tellOf, if_neg hi]
    refine ⟨rfl, ⟨⟨q, ?_⟩, hR.dat, by omega⟩, ?_, Touch.drewN (Touch.refl _ w) m⟩
    · exact hq
    · rw [List.take_zero, over_nil]; exact hh

/-- where the loop of ReadAtLeast may stand: j bytes read, v told -/
inductive Phase (D : List Int) (a0 : Addr) (i L k : Nat) : Nat → Value → Prop
  | start : Phase D a0 i L k 0 .nilIface
  | got : i < D.length → 0 < k → Phase D a0 i L k k .nilIface
  | ended : k < L → Phase D a0 i L k k (.iface 59 (.pointer (some a0)))

def rank (x y : Value) : Nat := match y with | .nilIface => (if intOf x = 0 then 2 else 1) | _ => 0

/-- what ReadAtLeast tells -/
def toldOf (k L : Nat) (a0 a1 : Addr) : Value := if k = L then .nilIface else if k = 0 then .iface 59 (.pointer (some a0)) else .iface 59 (.pointer (some a1))

theorem over_over (cur : List Value) (o : Nat) (cs ds : List Value) (h : o + cs.length + ds.length ≤ cur.length) : over (over cur o cs) (o + cs.length) ds = over cur o (cs ++ ds) := by
  unfold over
  have h1 : (cur.take o ++ cs ++ cur.drop (o + cs.length)).take (o + cs.length) = cur.take o ++ cs := by
    rw [List.take_append_of_le_length (by simp; omega), List.take_of_length_le (by simp; omega)]
  have h2 : (cur.take o ++ cs ++ cur.drop (o + cs.length)).drop (o + cs.length + ds.length) = cur.drop (o + cs.length + ds.length) := by
    rw [List.drop_append]
    simp
    rw [List.drop_eq_nil_of_le (by simp; omega)]
    simp
    omega
  rw [h1, h2]
  simp [Nat.add_assoc]

theorem eql_same (a0 : Addr) (w : World) : (binOp .eql 28 (.iface 59 (.pointer (some a0))) (.iface 59 (.pointer (some a0)))).run Tryd.prog w = .ok (.bool true) w := run_eql_iface_ptr_same w a0 Tryd.underlying28 Tryd.underlying59 rfl (by kernel_rfl) rfl

theorem ahead_any (R : Nat) (w : World) : (nilAhead 186 25 (.pointer (some ⟨R, 0, none⟩)) "Read").run Tryd.prog w = .ok (some false) w := by kernel_rfl

theorem method_any (R : Nat) (w : World) : (method 186 25 (.pointer (some ⟨R, 0, none⟩)) "Read").run Tryd.prog w = .ok (40, .pointer (some ⟨R, 0, none⟩)) w := by kernel_rfl

set_option maxHeartbeats 1000000 in
theorem atleast_any (D : List Int) (a : Option Addr) (g R h i k off L cap N : Nat) (a0 a1 : Addr) (cur : List Value) (w : World)
    (G : Glob N a0 a1 w) (hN : N ≤ w.heap.size) (hNR : N ≤ R) (hNh : N ≤ h) (hR : Rd D a g R i w) (hh : w.heap[h]? = some (.cells cur.toArray 5))
    (hgh : g ≠ h) (hD : D.length ≤ 1048576) (hfit : off + L ≤ cur.length) (hL : L ≤ 100000000) (hL0 : 0 < L) (hLc : L ≤ cap) (hk : k = min L (D.length - i)) :
    Calls Tryd.prog 24 #[.iface 25 (.pointer (some ⟨R, 0, none⟩)), .slice (some ⟨h, off, none⟩) L cap, .int .i64 L] w fun e w' =>
      e = .returned (.tuple #[.int .i64 k, toldOf k L a0 a1]) ∧ Rd D a g R (i + k) w' ∧ w'.heap[h]? = some (.cells (over cur off ((nums D).drop i |>.take k)).toArray 5) ∧ Touch (fun b => b = R ∨ b = h) w w' := by
  have hle := hR.le
  have Hk : Hid (k = min L (D.length - i)) := hk
  have hkL : k ≤ L := by omega
  have hkn : i + k ≤ D.length := by omega
  clear hk
  have hmf : ∀ fn first cp (w : World), (Instr.makeFunc fn first cp).run Tryd.prog w = .ok (.func fn first cp) w := fun _ _ _ _ => rfl
  have hna : ∀ (w : World), (nilAhead 186 25 (.pointer (some ⟨R, 0, none⟩)) "Read").run Tryd.prog w = .ok (some false) w := ahead_any R
  have hme : ∀ (w : World), (method 186 25 (.pointer (some ⟨R, 0, none⟩)) "Read").run Tryd.prog w = .ok (40, .pointer (some ⟨R, 0, none⟩)) w := method_any R
  have hLi : (0 : Int) ≤ (L : Int) := by omega
  have hki : (0 : Int) ≤ (k : Int) := by omega
  have hkLi : (k : Int) ≤ (L : Int) := by omega
  go_enter Tryd.func24, Tryd.ntmps24
  go_wp2_with fail
  go_loopw [6, 7] (fun x y wr => ∃ (j : Nat), x = .int .i64 j ∧ Phase D a0 i L k j y ∧ Rd D a g R (i + j) wr ∧ wr.heap[h]? = some (.cells (over cur off ((nums D).drop i |>.take j)).toArray 5) ∧ Touch (fun b => b = R ∨ b = h) w wr) (fun x y _ => rank x y)
  case atStart => exact ⟨0, rfl, .start, hR, by rw [List.take_zero, over_nil]; exact hh, Touch.refl _ w⟩
  case round =>
    obtain ⟨j, rfl, hp, hRj, hhj, htj⟩ := hrel
    have hGj : Glob N a0 a1 wr := G.below (htj.below hN (fun k hk => by rintro (e | e) <;> omega))
    have HG : Hid (Glob N a0 a1 wr.drew) := ⟨hGj.g0, hGj.g1, hGj.b0, hGj.b1, hGj.l0, hGj.l1, hGj.n1⟩
    have g0 := hGj.g0
    have g1 := hGj.g1
    clear hGj
    cases hp
    case start =>
      have hhj' : wr.heap[h]? = some (.cells cur.toArray 5) := by rw [List.take_zero, over_nil] at hhj; exact hhj
      have HR : Hid (Rd D a g R i wr.drew) := ⟨hRj.rd, hRj.dat, hRj.le⟩
      have Hh : Hid (wr.drew.heap[h]? = some (.cells cur.toArray 5)) := hhj'
      clear hhj hhj'
      go_wp2_with fail
      go_region_held3 (fun _ => True) (trivial) ((go_at_call 40; refine (read_any D a g R h i k off L cap N a0 a1 cur wr.drew HG.out HR.out Hh.out hgh hD hfit hL Hk.out).mono ?_; rintro e w6 ⟨rfl, hr6, hh6, ht6⟩))
      by_cases hi : i < D.length
      · have hk0 : 0 < k := by have := Hk.out; omega
        have ht : tellOf D i a0 = .nilIface := by rw [tellOf, if_pos hi]
        rw [ht]
        go_wp2_with fail
        go_roundw
        case rel => exact ⟨k, by go_num, .got hi hk0, hr6, hh6, htj.drew.trans ht6⟩
        case measure => simp [rank, intOf]; first | done | omega | (rw [if_neg (by omega)]; omega)
      · have hk0 : k < L := by have := Hk.out; omega
        have ht : tellOf D i a0 = .iface 59 (.pointer (some a0)) := by rw [tellOf, if_neg hi]
        rw [ht]
        go_wp2_with fail
        go_roundw
        case rel => exact ⟨k, by go_num, .ended hk0, hr6, hh6, htj.drew.trans ht6⟩
        case measure => simp [rank, intOf]
    case got hi hk0 =>
      by_cases hkl : k = L
      · have q1 : decide ((k : Int) < (L : Int)) = false := by simp; omega
        have q2 : decide (k < L) = false := by simp; omega
        have q3 : (L : Int) ≤ (k : Int) := by omega
        have Hkl : Hid (k = L) := hkl
        clear hkl
        go_wp2_with fail
        go_ret2
        exact ⟨by rw [toldOf, if_pos Hkl.out]; rfl, hRj, hhj, htj⟩
      · have hkl2 : k < L := by omega
        have hkl3 : (k : Int) < (L : Int) := by omega
        have hend : i + k = D.length := by have := Hk.out; omega
        have HR : Hid (Rd D a g R (i + k) wr.drew) := ⟨hRj.rd, hRj.dat, hRj.le⟩
        have Hh : Hid (wr.drew.heap[h]? = some (.cells (over cur off ((nums D).drop i |>.take k)).toArray 5)) := hhj
        have Hol : Hid ((over cur off ((nums D).drop i |>.take k)).length = cur.length) := over_length _ _ _ (by simp [nums_length]; omega)
        have Hend : Hid (i + k = D.length) := hend
        have hck : ¬ cap = k := by omega
        clear hhj hend
        go_wp2_with fail
        go_region_held3 (fun _ => True) (trivial) ((go_at_call 40; refine (read_any D a g R h (i + k) 0 (off + k) (L - k) (cap - k) N a0 a1 _ wr.drew HG.out HR.out Hh.out hgh hD (by rw [Hol.out]; omega) (by omega) (by have := Hend.out; omega)).mono ?_; rintro e w6 ⟨rfl, hr6, hh6, ht6⟩))
        have ht : tellOf D (i + k) a0 = .iface 59 (.pointer (some a0)) := by rw [tellOf, if_neg (by have := Hend.out; omega)]
        rw [ht]
        go_wp2_with fail
        go_roundw
        case rel => exact ⟨k, by go_num, .ended hkl2, hr6, by rw [List.take_zero, over_nil] at hh6; exact hh6, htj.drew.trans ht6⟩
        case measure => simp [rank, intOf]; first | done | omega | (rw [if_neg (by omega)]; omega)
    case ended hkl =>
      have q1 : (k : Int) < (L : Int) := by omega
      have q2 : decide ((L : Int) ≤ (k : Int)) = false := by simp; omega
      have heq : ∀ w : World, (binOp .eql 28 (.iface 59 (.pointer (some a0))) (.iface 59 (.pointer (some a0)))).run Tryd.prog w = .ok (.bool true) w := fun w => eql_same a0 w
      by_cases hk0 : k = 0
      · have q3 : decide ((0 : Int) < (k : Int)) = false := by simp; omega
        have q4 : decide (0 < k) = false := by simp; omega
        have Hk0 : Hid (k = 0) := hk0
        clear hk0
        go_wp2_with fail
        go_ret2
        exact ⟨by rw [toldOf, if_neg (by omega), if_pos Hk0.out]; rfl, hRj, hhj, htj⟩
      · have hk1 : (0 : Int) < (k : Int) := by omega
        have Hk0 : Hid (¬ k = 0) := hk0
        clear hk0
        go_wp2_with fail
        go_ret2
        exact ⟨by rw [toldOf, if_neg (by omega), if_neg Hk0.out]; rfl, hRj, hhj, htj⟩
end Go.Proofs.Qxb6002375aDoor.rv
