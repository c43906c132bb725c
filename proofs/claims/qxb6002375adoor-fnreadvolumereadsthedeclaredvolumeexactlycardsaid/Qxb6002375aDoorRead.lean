import Derived.Test.Qxb6002375aDoorRows
import Derived.WalkKit
import Derived.ProofKit
import Derived.OpenShut
import Derived.Deep.QuietTactic
import Derived.BigQuiet
import Derived.WalkSmall
import Derived.Lib.BufferMore
import Derived.Deep.RegionHeld3
import Derived.Deep.DrawnRows
namespace Go.Proofs.Qxb6002375aDoor.rv
open Go.ChangeShapes Go.WideShapes Go.ChangeAt Go.RowKit
set_option linter.unusedVariables false

def nums (D : List Int) : List Value := D.map (Value.int .u8)
theorem nums_length (D : List Int) : (nums D).length = D.length := by simp [nums]

/-- old memory outside 'Own' is as it was -/
structure Touch (Own : Nat → Prop) (w w' : World) : Prop where
  os : w'.os = w.os
  tape : w'.tape = w.tape
  output : w'.output = w.output
  size : w.heap.size ≤ w'.heap.size
  block : ∀ k, k < w.heap.size → ¬ Own k → w'.heap[k]? = w.heap[k]?

theorem Touch.refl (Own : Nat → Prop) (w : World) : Touch Own w w := ⟨rfl, rfl, rfl, Nat.le_refl _, fun _ _ _ => rfl⟩
theorem Touch.trans {Own : Nat → Prop} {a b c : World} (h : Touch Own a b) (k : Touch Own b c) : Touch Own a c :=
  ⟨k.os.trans h.os, k.tape.trans h.tape, k.output.trans h.output, Nat.le_trans h.size k.size, fun i hi ho => (k.block i (Nat.lt_of_lt_of_le hi h.size) ho).trans (h.block i hi ho)⟩
theorem Touch.below {Own : Nat → Prop} {a b : World} (h : Touch Own a b) {B : Nat} (hB : B ≤ a.heap.size) (ho : ∀ k, k < B → ¬ Own k) : Below B a b :=
  ⟨h.os, h.tape, h.output, h.size, fun k hk => h.block k (Nat.lt_of_lt_of_le hk hB) (ho k hk)⟩
theorem Touch.of_grown {Own : Nat → Prop} {a b : World} {row : Option Nat} (h : a.grownBy b row) (ho : ∀ g, row = some g → Own g) : Touch Own a b :=
  ⟨h.os, h.tape, h.output, h.size, fun k hk hn => h.block k hk (fun e => hn (ho k e.symm))⟩
theorem Touch.drew {Own : Nat → Prop} {a w : World} (h : Touch Own a w) : Touch Own a w.drew := ⟨h.os, h.tape, h.output, h.size, h.block⟩
theorem Touch.drewN {Own : Nat → Prop} {a w : World} (h : Touch Own a w) (n : Nat) : Touch Own a (w.drewN n) := ⟨h.os, h.tape, h.output, h.size, h.block⟩
theorem Touch.mono {Own Own' : Nat → Prop} {a b : World} (h : Touch Own a b) (ho : ∀ k, Own k → Own' k) : Touch Own' a b := ⟨h.os, h.tape, h.output, h.size, fun k hk hn => h.block k hk (fun e => hn (ho k e))⟩
theorem grown_setCell (w : World) (a : Addr) (u : Value) : w.grownBy (w.setCell a u) (some a.block) :=
  ⟨rfl, rfl, rfl, by simp [World.setCell], fun k _ hk => Below.heap_setCell _ _ _ _ (fun e => hk (by rw [e]))⟩
theorem grown_setRow (w : World) (g : Nat) (c : Array Value) : w.grownBy (w.setRow g c) (some g) :=
  ⟨rfl, rfl, rfl, by simp, fun k _ hk => setRow_other w g k _ (fun e => hk (by rw [e]))⟩
theorem lt_of_heap {w : World} {B : Nat} {o : Obj} (h : w.heap[B]? = some o) : B < w.heap.size := by
  rcases Nat.lt_or_ge B w.heap.size with h1 | h1
  · exact h1
  · rw [Array.getElem?_eq_none h1] at h; cases h

theorem r0 {w : World} {R : Nat} {x y z : Value} {t : TypeId} (h : w.heap[R]? = some (.cells #[x, y, z] t)) : w.cell? ⟨R, 0, none⟩ = some x := by simp [World.cell?, h]
theorem r1 {w : World} {R : Nat} {x y z : Value} {t : TypeId} (h : w.heap[R]? = some (.cells #[x, y, z] t)) : w.cell? ⟨R, 1, none⟩ = some y := by simp [World.cell?, h]
theorem r2 {w : World} {R : Nat} {x y z : Value} {t : TypeId} (h : w.heap[R]? = some (.cells #[x, y, z] t)) : w.cell? ⟨R, 2, none⟩ = some z := by simp [World.cell?, h]
theorem rf {w : World} {R : Nat} {x y z : Value} {t : TypeId} (h : w.heap[R]? = some (.cells #[x, y, z] t)) (o : Nat) : w.frozen? ⟨R, o, none⟩ = false := by simp [World.frozen?, h]
theorem rset1 {w : World} {R : Nat} {x y z : Value} {t : TypeId} (h : w.heap[R]? = some (.cells #[x, y, z] t)) (u : Value) : (w.setCell ⟨R, 1, none⟩ u).heap[R]? = some (.cells #[x, u, z] t) := by
  have := Lib.heap_setCell_same (i := 1) h u
  simpa using this
theorem rset2 {w : World} {R : Nat} {x y z : Value} {t : TypeId} (h : w.heap[R]? = some (.cells #[x, y, z] t)) (u : Value) : (w.setCell ⟨R, 2, none⟩ u).heap[R]? = some (.cells #[x, y, u] t) := by
  have := Lib.heap_setCell_same (i := 2) h u
  simpa using this

/-- the reader at its end: nothing, and io.EOF -/
theorem read_end (E0 v : Value) (a : Option Addr) (n c : Nat) (i q : Int) (R : Nat) (d : Value) (w : World) (hE : w.cell? ⟨0, 0, none⟩ = some E0) (hR : w.heap[R]? = some (.cells #[.slice a n c, .int .i64 i, .int .i64 q] 39)) (hi : (n : Int) ≤ i) :
    Calls Tryd.prog 40 #[.pointer (some ⟨R, 0, none⟩), d] w fun e w' => e = .returned (.tuple #[.int .i64 0, E0]) ∧ ∃ m, w' = w.drewN m := by
  have c0 := r0 hR
  have c1 := r1 hR
  clear hR
  go_enter Tryd.func40, Tryd.ntmps40
  go_wp2_with fail
  go_quiet (fail)
  go_wp2_with fail
  go_quiet (fail)
  go_wp2_with fail
  go_ret2
  first
    | exact ⟨rfl, _, rfl⟩
    | exact ⟨rfl, _, World.drewN_drewN _ _ _⟩

/-- what a block of cells holds when cs is laid over it from o on -/
def over (cur : List Value) (o : Nat) (cs : List Value) : List Value := cur.take o ++ cs ++ cur.drop (o + cs.length)
theorem over_length (cur : List Value) (o : Nat) (cs : List Value) (h : o + cs.length ≤ cur.length) : (over cur o cs).length = cur.length := by
  unfold over; simp; omega

theorem info5 : (Tryd.prog.info? 5).map (·.size) = some 1 := by kernel_rfl

theorem copy_eq {D : List Int} {g h i k off L : Nat} {cur : List Value} {W : World} (ty : TypeId) (hg : W.heap[g]? = some (.cells (nums D).toArray 5)) (hh : W.heap[h]? = some (.cells cur.toArray 5)) (hi : i < D.length) (hfit : off + L ≤ cur.length) (hk : k = min L (D.length - i)) (cap : Nat) :
    (Builtin.copy_ #[22, 22] ty #[.slice (some ⟨h, off, none⟩) L cap, .slice (some ⟨g, i, none⟩) (D.length - i) (D.length - i)]).run Tryd.prog W.drew = .ok (.int .i64 k) (W.drew.setRow h (over cur off (((nums D).drop i).take k)).toArray) := by
  have hlen : (((nums D).drop i).take k).length = k := by simp [nums_length]; omega
  have := run_copy_row (P := Tryd.prog) W.drew 22 22 ty 5 h off L cap ⟨g, i, none⟩ (D.length - i) (D.length - i) cur.toArray 5 (((nums D).drop i).take k) Tryd.underlying22 info5 hh (by rw [hlen, hk]; show min L (D.length - i) = min (D.length - i) L; omega)
    (fun j v hj => by
      have hjk : j < k := by
        rcases Nat.lt_or_ge j k with h1 | h1
        · exact h1
        · rw [List.getElem?_eq_none (by omega)] at hj; cases hj
      have hadd : (⟨g, i, none⟩ : Addr).add j = ⟨g, i + j, none⟩ := by unfold Addr.add; split <;> simp_all
      rw [List.getElem?_take, if_pos hjk, List.getElem?_drop] at hj
      rw [hadd]
      show W.cell? _ = _
      simp only [World.cell?, hg]
      simpa using hj)
    (by rw [hlen]; simp; omega) (fun v hv => by
      have := List.mem_of_mem_drop (List.mem_of_mem_take hv)
      obtain ⟨x, _, rfl⟩ := List.mem_map.1 this
      rfl)
  rw [this, hlen]
  simp only [over, hlen]
  rfl

set_option maxHeartbeats 1000000 in
/-- the reader inside its data: k = min L (n - i) bytes -/
theorem read_some (D : List Int) (g R h : Nat) (i k : Nat) (q : Int) (off L cap : Nat) (cur : List Value) (w : World)
    (hR : w.heap[R]? = some (.cells #[.slice (some ⟨g, 0, none⟩) D.length D.length, .int .i64 i, .int .i64 q] 39)) (hg : w.heap[g]? = some (.cells (nums D).toArray 5)) (hh : w.heap[h]? = some (.cells cur.toArray 5))
    (hgh : g ≠ h) (hi : i < D.length) (hD : D.length ≤ 1048576) (hfit : off + L ≤ cur.length) (hL : L ≤ 100000000) (hk : k = min L (D.length - i)) :
    Calls Tryd.prog 40 #[.pointer (some ⟨R, 0, none⟩), .slice (some ⟨h, off, none⟩) L cap] w fun e w' => e = .returned (.tuple #[.int .i64 k, .nilIface]) ∧
      (∃ q', w'.heap[R]? = some (.cells #[.slice (some ⟨g, 0, none⟩) D.length D.length, .int .i64 ((i + k : Nat) : Int), .int .i64 q'] 39)) ∧ w'.heap[h]? = some (.cells (over cur off ((nums D).drop i |>.take k)).toArray 5) ∧ Touch (fun b => b = R ∨ b = h) w w' := by
  have c0 := r0 hR
  have c1 := r1 hR
  have c2 := r2 hR
  have cf := rf hR 2
  have hii : ¬ (D.length : Int) ≤ (i : Int) := by omega
  have Hk : Hid (k = min L (D.length - i)) := hk
  have hkL : k ≤ L := by omega
  have hkn : k ≤ D.length - i := by omega
  clear hk
  go_enter Tryd.func40, Tryd.ntmps40
  go_wp2_with fail
  go_quiet (fail)
  go_wp2_with fail
  have hRW := rset2 (w := w.drewN nq) hR (.int .i64 (-1))
  have hRh : h ≠ R := fun e => by subst e; rw [hR] at hh; simp at hh
  have hRg : g ≠ R := fun e => by subst e; rw [hR] at hg; simp at hg
  have hgW : ((w.drewN nq).setCell ⟨R, 2, none⟩ (.int .i64 (-1))).heap[g]? = some (.cells (nums D).toArray 5) := by rw [Below.heap_setCell _ _ _ _ hRg]; exact hg
  have hhW : ((w.drewN nq).setCell ⟨R, 2, none⟩ (.int .i64 (-1))).heap[h]? = some (.cells cur.toArray 5) := by rw [Below.heap_setCell _ _ _ _ hRh]; exact hh
  have htW : Touch (fun b => b = R ∨ b = h) w ((w.drewN nq).setCell ⟨R, 2, none⟩ (.int .i64 (-1))) := (Touch.drewN (Touch.refl _ w) nq).trans (Touch.of_grown (grown_setCell _ _ _) (fun g' e => by simp at e; exact Or.inl e.symm))
  clear hR hg hh c0 c1 c2 cf
  generalize (w.drewN nq).setCell ⟨R, 2, none⟩ (.int .i64 (-1)) = W at hRW hgW hhW htW ⊢
  have c0 := r0 hRW
  have c1 := r1 hRW
  have hcp := fun ty => copy_eq (D := D) (i := i) (k := k) ty hgW hhW hi hfit Hk.out cap
  have hii2 : (i : Int) ≤ (D.length : Int) := by omega
  have hii3 : (0 : Int) ≤ (i : Int) := by omega
  go_region
  have hRX : (W.drew.setRow h (over cur off (((nums D).drop i).take k)).toArray).heap[R]? = some (.cells #[.slice (some ⟨g, 0, none⟩) D.length D.length, .int .i64 i, .int .i64 (-1)] 39) := by rw [setRow_other _ _ _ _ (fun e => hRh e.symm)]; exact hRW
  have hhX : (W.drew.setRow h (over cur off (((nums D).drop i).take k)).toArray).heap[h]? = some (.cells (over cur off (((nums D).drop i).take k)).toArray 5) := setRow_heap W.drew h cur.toArray _ 5 _ hhW
  have htX : Touch (fun b => b = R ∨ b = h) w (W.drew.setRow h (over cur off (((nums D).drop i).take k)).toArray) := htW.drew.trans (Touch.of_grown (grown_setRow _ _ _) (fun g' e => by simp at e; exact Or.inr e.symm))
  clear hcp c0 c1 hRW hgW hhW htW
  generalize W.drew.setRow h (over cur off (((nums D).drop i).take k)).toArray = X at hRX hhX htX ⊢
  have c0 := r0 hRX
  have c1 := r1 hRX
  have cf := rf hRX 1
  go_wp2_with fail
  go_ret2
  refine ⟨rfl, ⟨-1, ?_⟩, ?_, ?_⟩
  · exact rset1 hRX _
  · rw [Below.heap_setCell _ _ _ _ hRh]; exact hhX
  · exact htX.trans (Touch.of_grown (grown_setCell _ _ _) (fun g' e => by simp at e; exact Or.inl e.symm))
end Go.Proofs.Qxb6002375aDoor.rv
