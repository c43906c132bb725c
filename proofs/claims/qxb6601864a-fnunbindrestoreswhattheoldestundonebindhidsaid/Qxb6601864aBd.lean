import Derived.Test.Qxb6601864aRows
import Derived.WalkKit
import Derived.ProofKit
import Derived.OpenShut
import Derived.Deep.QuietTactic
import Derived.BigQuiet
import Derived.WalkSmall
import Derived.Maps.Ext
import Derived.Maps.OwnSet
import Derived.Maps.StringElems
import Derived.Deep.AppendLies
import Derived.Lib.BufferMore
namespace Go.Proofs.Qxb6601864a.bd
open Go.ChangeShapes Go.WideShapes Go.ChangeAt Go.RowKit Go.Maps
set_option linter.unusedVariables false

theorem law : Keyed Try.prog 9 := string_keyed Try.underlying9
theorem zeroE (w : World) : (zeroValue 9).run Try.prog w = .ok (.string ⟨#[]⟩) w := by kernel_rfl

/-- one entry of the hidden list -/
structure Hd where
  p : ByteArray
  s : ByteArray
  b : Bool

def cellsOf (hs : List Hd) : List Value := hs.flatMap fun h => [.string h.p, .string h.s, .bool h.b]
theorem cellsOf_length (hs : List Hd) : (cellsOf hs).length = hs.length * 3 := by
  induction hs with
  | nil => rfl
  | cons h l ih => simp only [cellsOf, List.flatMap_cons, List.length_append, List.length_cons, List.length_nil] at ih ⊢; omega
theorem cellsOf_append (a b : List Hd) : cellsOf (a ++ b) = cellsOf a ++ cellsOf b := by simp [cellsOf]

/-- old memory outside 'Own' is as it was -/
structure Touch (Own : Nat → Prop) (w w' : World) : Prop where
  os : w'.os = w.os
  tape : w'.tape = w.tape
  output : w'.output = w.output
  size : w.heap.size ≤ w'.heap.size
  block : ∀ k, k < w.heap.size → ¬ Own k → w'.heap[k]? = w.heap[k]?

theorem Touch.refl (Own : Nat → Prop) (w : World) : Touch Own w w := ⟨rfl, rfl, rfl, Nat.le_refl _, fun _ _ _ => rfl⟩
theorem Touch.trans {Own : Nat → Prop} {a b c : World} (h : Touch Own a b) (k : Touch Own b c) : Touch Own a c :=
  ⟨k.os.trans h.os, k.tape.trans h.tape, k.output.trans h.output, Nat.le_trans h.size k.size, fun i hi ho => (k.block i (Nat.lt_of_lt_of_le hi h.size) ho).trans (h.block i hi ho)⟩
theorem Touch.below {Own : Nat → Prop} {a b : World} (h : Touch Own a b) {B : Nat} (hB : B ≤ a.heap.size) (ho : ∀ k, k < B → ¬ Own k) : Below B a b :=
  ⟨h.os, h.tape, h.output, h.size, fun k hk => h.block k (Nat.lt_of_lt_of_le hk hB) (ho k hk)⟩
theorem Touch.of_below {Own : Nat → Prop} {a b : World} (h : Below a.heap.size a b) : Touch Own a b :=
  ⟨h.os, h.tape, h.output, h.size, fun k hk _ => h.block k hk⟩
theorem Touch.of_grown {Own : Nat → Prop} {a b : World} {row : Option Nat} (h : a.grownBy b row) (ho : ∀ g, row = some g → Own g) : Touch Own a b :=
  ⟨h.os, h.tape, h.output, h.size, fun k hk hn => h.block k hk (fun e => hn (ho k e.symm))⟩

theorem Touch.drew {Own : Nat → Prop} {a w : World} (h : Touch Own a w) : Touch Own a w.drew := ⟨h.os, h.tape, h.output, h.size, h.block⟩

/-- A 'bindings' in memory: its struct in block B, its map in block bm (at most N entries, reading as D), its list hs in a row of its own; all its blocks are among 'Own'. -/
def Bd (Own : Nat → Prop) (w : World) (B bm N : Nat) (D : DataW Unit) (hs : List Hd) : Prop :=
  ∃ v, w.heap[B]? = some (.cells #[.map (some bm), v] 55) ∧ w.ownsMap Try.prog 9 (plainElem Try.prog 9) bm N D ∧ w.ownsRow 0 57 3 v hs.length (cellsOf hs) ∧
    Own B ∧ Own bm ∧ ∀ g, v.ownBlock = some g → Own g

theorem cell0 {w : World} {B : Nat} {x y : Value} {t : TypeId} (h : w.heap[B]? = some (.cells #[x, y] t)) : w.cell? ⟨B, 0, none⟩ = some x := by simp [World.cell?, h]
theorem cell1 {w : World} {B : Nat} {x y : Value} {t : TypeId} (h : w.heap[B]? = some (.cells #[x, y] t)) : w.cell? ⟨B, 1, none⟩ = some y := by simp [World.cell?, h]
theorem frozen1 {w : World} {B : Nat} {x y : Value} {t : TypeId} (h : w.heap[B]? = some (.cells #[x, y] t)) (o : Nat) : w.frozen? ⟨B, o, none⟩ = false := by simp [World.frozen?, h]

theorem bound_any {Own : Nat → Prop} {w : World} {B bm N : Nat} {D : DataW Unit} {hs : List Hd} (h : Bd Own w B bm N D hs) :
    Calls Try.prog 20 #[.pointer (some ⟨B, 0, none⟩)] w fun e w' => e = .returned (.map (some bm)) ∧ w' = w := by
  obtain ⟨v, hB, _⟩ := h
  have c0 := cell0 hB
  clear hB
  go_enter Try.func20, Try.ntmps20
  go_wp2
  go_ret
  exact ⟨rfl, rfl⟩

theorem ownsRow_form {w : World} {base : Nat} {e : TypeId} {size : Nat} {v : Value} {n : Nat} {xs : List Value} (h : w.ownsRow base e size v n xs) : ∃ a cap, v = .slice a n cap := by
  rcases h.2 with ⟨rfl, rfl⟩ | ⟨g, cap, cur, rfl, _⟩
  · exact ⟨_, _, rfl⟩
  · exact ⟨_, _, rfl⟩

theorem hlen_any {Own : Nat → Prop} {w : World} {B bm N : Nat} {D : DataW Unit} {hs : List Hd} (h : Bd Own w B bm N D hs) :
    Calls Try.prog 18 #[.pointer (some ⟨B, 0, none⟩)] w fun e w' => e = .returned (.int .i64 hs.length) ∧ w' = w := by
  obtain ⟨v, hB, _, hr, _⟩ := h
  obtain ⟨a, cap, rfl⟩ := ownsRow_form hr
  have c1 := cell1 hB
  clear hB hr
  go_enter Try.func18, Try.ntmps18
  go_wp2
  go_ret
  exact ⟨rfl, rfl⟩

theorem cellsOf_at : ∀ (hs : List Hd) (k : Nat) (hk : k < hs.length),
    (cellsOf hs)[k * 3]? = some (.string hs[k].p) ∧ (cellsOf hs)[k * 3 + 1]? = some (.string hs[k].s) ∧ (cellsOf hs)[k * 3 + 2]? = some (.bool hs[k].b)
  | [], k, hk => absurd hk (by simp)
  | h :: l, 0, _ => by simp [cellsOf]
  | h :: l, k + 1, hk => by
    have ih := cellsOf_at l k (by simpa using hk)
    have e : cellsOf (h :: l) = .string h.p :: .string h.s :: .bool h.b :: cellsOf l := by simp [cellsOf]
    rw [e, show (k + 1) * 3 = k * 3 + 3 from by omega]
    simpa using ih

/-- the three cells of the k-th entry -/
theorem row_cells {w : World} {g n cap : Nat} {hs : List Hd} (h : w.ownsRow 0 57 3 (.slice (some ⟨g, 0, none⟩) n cap) hs.length (cellsOf hs)) (k : Nat) (hk : k < hs.length) :
    w.cell? ⟨g, k * 3, none⟩ = some (.string hs[k].p) ∧ w.cell? ⟨g, k * 3 + 1, none⟩ = some (.string hs[k].s) ∧ w.cell? ⟨g, k * 3 + 2, none⟩ = some (.bool hs[k].b) := by
  rcases h.2 with ⟨h0, _⟩ | ⟨g', cap', cur, hv, _, hg, _, _, _, ht⟩
  · cases h0
  · cases hv
    have hc : ∀ j, j < hs.length * 3 → w.cell? ⟨g, j, none⟩ = (cellsOf hs)[j]? := by
      intro j hj
      rw [← ht, List.getElem?_take, if_pos hj]
      simp [World.cell?, hg]
    obtain ⟨a, b, c⟩ := cellsOf_at hs k hk
    exact ⟨by rw [hc _ (by omega)]; exact a, by rw [hc _ (by omega)]; exact b, by rw [hc _ (by omega)]; exact c⟩

theorem hat_any {Own : Nat → Prop} {w : World} {B bm N : Nat} {D : DataW Unit} {hs : List Hd} (h : Bd Own w B bm N D hs) (k : Nat) (hk : k < hs.length) (hm : hs.length ≤ 1000000) :
    Calls Try.prog 19 #[.pointer (some ⟨B, 0, none⟩), .int .i64 k] w fun e w' => e = .returned (.tuple #[.string hs[k].p, .string hs[k].s, .bool hs[k].b]) ∧ Below w.heap.size w w' := by
  obtain ⟨v, hB, _, hr, _⟩ := h
  obtain ⟨g, cap, rfl, _, hg⟩ := hr.form (by omega)
  have c1 := cell1 hB
  obtain ⟨e0, e1, e2⟩ := row_cells hr k hk
  have hki : (k : Int) < (hs.length : Int) := by omega
  clear hB hr
  go_enter Try.func19, Try.ntmps19
  go_wp2_with fail
  go_quiet (fail)
  go_wp2
  go_ret3
  exact ⟨rfl, below_drewN ((Below.refl _ _).alloc (Nat.le_refl _) _) _⟩

theorem info57 : (Try.prog.info? 57).map (fun i => (i.zero, i.size, i.bytes)) = some (some (.agg #[.string ⟨#[]⟩, .string ⟨#[]⟩, .bool false]), 3, 40) := by kernel_rfl

theorem heap_set1 {w : World} {B : Nat} {x y : Value} {t : TypeId} (h : w.heap[B]? = some (.cells #[x, y] t)) (u : Value) : (w.setCell ⟨B, 1, none⟩ u).heap[B]? = some (.cells #[x, u] t) := by
  have := Lib.heap_setCell_same (i := 1) h u
  simpa using this

theorem grown_setCell (w : World) (a : Addr) (u : Value) : w.grownBy (w.setCell a u) (some a.block) :=
  ⟨rfl, rfl, rfl, by simp [World.setCell], fun k _ hk => Below.heap_setCell _ _ _ _ (fun e => hk (by rw [e]))⟩

/-- the struct's block is neither the map's nor the row's -/
theorem Bd_apart {w : World} {B bm N n : Nat} {v x y : Value} {D : DataW Unit} {xs : List Value} (hB : w.heap[B]? = some (.cells #[x, y] 55)) (hM : w.ownsMap Try.prog 9 (plainElem Try.prog 9) bm N D)
    (hr : w.ownsRow 0 57 3 v n xs) : bm ≠ B ∧ (v.ownBlock ≠ some B) ∧ v.ownBlock ≠ some bm := by
  obtain ⟨es, cl, hm, _⟩ := hM
  refine ⟨?_, fun e => ?_, fun e => ?_⟩
  · intro e
    subst e
    rw [hB] at hm
    simp at hm
  · rcases hr.2 with ⟨rfl, _⟩ | ⟨g, cap, cur, rfl, _, hg, _⟩
    · cases e
    · simp [Value.ownBlock] at e
      subst e
      rw [hB] at hg
      simp at hg
  · rcases hr.2 with ⟨rfl, _⟩ | ⟨g, cap, cur, rfl, _, hg, _⟩
    · cases e
    · simp [Value.ownBlock] at e
      subst e
      rw [hm] at hg
      cases hg

theorem lt_of_heap {w : World} {B : Nat} {o : Obj} (h : w.heap[B]? = some o) : B < w.heap.size := by
  rcases Nat.lt_or_ge B w.heap.size with h1 | h1
  · exact h1
  · rw [Array.getElem?_eq_none h1] at h; cases h

theorem push_block {w w1 : World} {B bm : Nat} {v : Value} {o : Obj} (hB : w.heap[B]? = some (.cells #[.map (some bm), v] 55)) (hgrow : (w.alloc o).grownBy w1 v.ownBlock) (ha2 : v.ownBlock ≠ some B) :
    w1.heap[B]? = some (.cells #[.map (some bm), v] 55) := by
  have hBlt := lt_of_heap hB
  rw [hgrow.block B (by simp; omega) (fun e => ha2 e.symm), Below.heap_alloc _ _ _ hBlt]
  exact hB

theorem push_any {Own : Nat → Prop} {w : World} {B bm N : Nat} {D : DataW Unit} {hs : List Hd} (h : Bd Own w B bm N D hs) (hO : ∀ k, w.heap.size ≤ k → Own k) (p s : ByteArray) (b : Bool) (hm : hs.length ≤ 1000000) :
    Calls Try.prog 25 #[.pointer (some ⟨B, 0, none⟩), .string p, .string s, .bool b] w fun e w' => e = .returned (.tuple #[]) ∧ Bd Own w' B bm N D (hs ++ [⟨p, s, b⟩]) ∧ Touch Own w w' := by
  obtain ⟨v, hB, hM, hr, hoB, hom, hog⟩ := h
  have c1 := cell1 hB
  have hBlt := lt_of_heap hB
  obtain ⟨ha1, ha2, ha3⟩ := Bd_apart hB hM hr
  obtain ⟨i0, hi, hz0, hz1, hz2⟩ := info_parts info57
  go_enter Try.func25, Try.ntmps25
  go_wp2_with (at_builtin; refine wpList_append_lies _ rfl _ _ 53 rfl 0 57 i0 _ 3 40 Try.underlying53 hi hz0 hz1 hz2 rfl (by omega) v hs.length (cellsOf hs) rfl (hr.alloc _) ⟨w.heap.size, 0, none⟩ 1 1 [.string p, .string s, .bool b] rfl rfl (World.news_of_block (heap_alloc_new w _)) (by simp [Value.oneCell']) (by omega) (by unfold maxLen; omega) (by omega) (Nat.zero_le _) (w.heap.size + 1) (by simp) ?_; intro g cap w1 hown hgrow hat hlt; have hB1 : w1.heap[B]? = some (.cells #[.map (some bm), v] 55) := push_block hB hgrow ha2; have c1' := cell1 hB1; have f1' := frozen1 hB1 1)
  go_end0
  refine ⟨rfl, ⟨_, heap_set1 hB1 _, ?_, ?_, hoB, hom, ?_⟩, ?_⟩
  · exact (hM.alloc _).kept hgrow (fun e => ha3 e.symm) |>.setCell ha1 _
  · have hk : (Value.slice (some ⟨g, 0, none⟩) (hs.length + 1) cap).ownBlock ≠ some B := by
      rcases hat with e | e
      · rw [e] at ha2; exact ha2
      · simp [Value.ownBlock]; omega
    have := hown.kept (grown_setCell w1 ⟨B, 1, none⟩ (.slice (some ⟨g, 0, none⟩) (hs.length + 1) cap)) (Or.inr hk)
    simpa [cellsOf_append, cellsOf] using this
  · intro g' e
    simp [Value.ownBlock] at e
    subst e
    rcases hat with e | e
    · exact hog _ e
    · exact hO _ (by omega)
  · refine ((Touch.of_grown (World.grownBy_alloc w _ none) (by simp)).trans (Touch.of_grown hgrow hog)).trans (Touch.of_grown (grown_setCell w1 _ _) (fun g' e => ?_))
    simp at e
    subst e
    exact hoB

/-- a new one -/
theorem new_any {w : World} : Calls Try.prog 30 #[] w fun e w' => e = .returned (.pointer (some ⟨w.heap.size + 1, 0, none⟩)) ∧ Bd (fun k => w.heap.size ≤ k) w' (w.heap.size + 1) w.heap.size 0 (.map []) [] ∧ Below w.heap.size w w' := by
  have hmm := @run_makeMap Try.prog
  go_enter Try.func30, Try.ntmps30
  go_wp2
  go_ret
  refine ⟨rfl, ⟨.slice none 0 0, ?_, ?_, ?_, ?_, ?_, ?_⟩, ?_⟩
  · have := heap_alloc_new (w.alloc (.map #[] 0)) (.cells #[.map (some w.heap.size), .slice none 0 0] 55)
    simpa using this
  · exact (World.ownsMap_made _ _ _ _).alloc _
  · exact World.ownsRow_nil _ _ _ _
  · exact Nat.le_succ _
  · exact Nat.le_refl _
  · intro g e; cases e
  · exact ((Below.refl _ _).alloc (Nat.le_refl _) _).alloc (by simp) _

/-- the world behind 'h := b.hidden[len-1]; b.hidden = b.hidden[:len-1]' -/
def popW (w : World) (B g i cap : Nat) (a : Hd) : World := ((w.setCell ⟨B, 1, none⟩ (.slice (some ⟨g, 0, none⟩) i cap)).alloc (.cells #[.string a.p, .string a.s, .bool a.b] 57)).drew.drew

theorem unbind_all {Own : Nat → Prop} {w w0 : World} {B bm N i g cap n : Nat} {D : DataW Unit} {hs : List Hd} {a : Hd} (hO : ∀ k, w0.heap.size ≤ k → Own k)
    (hB : w.heap[B]? = some (.cells #[.map (some bm), .slice (some ⟨g, 0, none⟩) n cap] 55)) (hM : w.ownsMap Try.prog 9 (plainElem Try.prog 9) bm N D) (hr : w.ownsRow 0 57 3 (.slice (some ⟨g, 0, none⟩) (i + 1) cap) (i + 1) (cellsOf (hs.take (i + 1))))
    (ha : hs[i]? = some a) (hoB : Own B) (hom : Own bm) (hog : Own g) (ht : Touch Own w0 w) :
    Bd Own (popW w B g i cap a) B bm N D (hs.take i) ∧ Touch Own w0 (popW w B g i cap a) ∧ (popW w B g i cap a).cell? ⟨w.heap.size, 0, none⟩ = some (.string a.p) ∧ (popW w B g i cap a).cell? ⟨w.heap.size, 1, none⟩ = some (.string a.s) ∧
    (popW w B g i cap a).cell? ⟨B, 0, none⟩ = some (.map (some bm)) := by
  have hil : i < hs.length := by
    rcases Nat.lt_or_ge i hs.length with h | h
    · exact h
    · rw [List.getElem?_eq_none h] at ha; cases ha
  obtain ⟨ha1, ha2, ha3⟩ := Bd_apart hB hM hr
  have hBlt := lt_of_heap hB
  have hB1 := heap_set1 hB (.slice (some ⟨g, 0, none⟩) i cap)
  have hs1 : (w.setCell ⟨B, 1, none⟩ (.slice (some ⟨g, 0, none⟩) i cap)).heap.size = w.heap.size := by simp [World.setCell]
  have hB2 : (popW w B g i cap a).heap[B]? = some (.cells #[.map (some bm), .slice (some ⟨g, 0, none⟩) i cap] 55) := by
    show ((w.setCell ⟨B, 1, none⟩ (.slice (some ⟨g, 0, none⟩) i cap)).alloc (.cells #[.string a.p, .string a.s, .bool a.b] 57)).heap[B]? = _
    rw [Below.heap_alloc _ _ _ (by rw [hs1]; exact hBlt)]
    exact hB1
  have hl : (hs.take i).length = i := by simp; omega
  refine ⟨⟨_, hB2, ?_, ?_, hoB, hom, ?_⟩, ?_, ?_, ?_, cell0 hB2⟩
  · exact ((hM.setCell ha1 _).alloc _).drew.drew
  · have ht1 : hs.take (i + 1) = hs.take i ++ [a] := by rw [List.take_add_one, ha]; rfl
    rw [ht1, cellsOf_append] at hr
    have h2 := ownsRow_pop (by rw [cellsOf_length, hl]) hr
    have h3 := h2.kept (grown_setCell w ⟨B, 1, none⟩ (.slice (some ⟨g, 0, none⟩) i cap)) (Or.inr (by simpa [Value.ownBlock] using ha2))
    rw [hl]
    exact (h3.alloc _).drew.drew
  · intro g' e
    simp [Value.ownBlock] at e
    subst e
    exact hog
  · refine ht.trans ?_
    have t1 : Touch Own w (w.setCell ⟨B, 1, none⟩ (.slice (some ⟨g, 0, none⟩) i cap)) := Touch.of_grown (grown_setCell w _ _) (fun g' e => by simp at e; subst e; exact hoB)
    have t2 := Touch.of_grown (Own := Own) (World.grownBy_alloc (w.setCell ⟨B, 1, none⟩ (.slice (some ⟨g, 0, none⟩) i cap)) (.cells #[.string a.p, .string a.s, .bool a.b] 57) none) (fun g' e => by cases e)
    exact (t1.trans t2).drew.drew
  · have hn := heap_alloc_new (w.setCell ⟨B, 1, none⟩ (.slice (some ⟨g, 0, none⟩) i cap)) (.cells #[.string a.p, .string a.s, .bool a.b] 57)
    rw [hs1] at hn
    show ((w.setCell ⟨B, 1, none⟩ (.slice (some ⟨g, 0, none⟩) i cap)).alloc (.cells #[.string a.p, .string a.s, .bool a.b] 57)).cell? _ = _
    simp only [World.cell?, hn]
    rfl
  · have hn := heap_alloc_new (w.setCell ⟨B, 1, none⟩ (.slice (some ⟨g, 0, none⟩) i cap)) (.cells #[.string a.p, .string a.s, .bool a.b] 57)
    rw [hs1] at hn
    show ((w.setCell ⟨B, 1, none⟩ (.slice (some ⟨g, 0, none⟩) i cap)).alloc (.cells #[.string a.p, .string a.s, .bool a.b] 57)).cell? _ = _
    simp only [World.cell?, hn]
    rfl

def hidLen (w : World) (B : Nat) : Nat := match w.cell? ⟨B, 1, none⟩ with | some (.slice _ n _) => n | _ => 0
theorem Bd.hidLen {Own : Nat → Prop} {w : World} {B bm N : Nat} {D : DataW Unit} {hs : List Hd} (h : Bd Own w B bm N D hs) : hidLen w B = hs.length := by
  obtain ⟨v, hB, _, hr, _⟩ := h
  obtain ⟨a, cap, rfl⟩ := ownsRow_form hr
  simp [bd.hidLen, cell1 hB]

def KS (s : ByteArray) : Lit := .string s.data.toList
def VS (s : ByteArray) : DataW Unit := .lit (.string s.data.toList)
/-- what undoing one entry makes of the map -/
def undo (h : Hd) (D : DataW Unit) : DataW Unit := if h.b then D.put (KS h.p) (VS h.s) else D.del (KS h.p)
def undoAll (l : List Hd) (D : DataW Unit) : DataW Unit := l.foldr undo D
def Fine (hs : List Hd) : Prop := ∀ h ∈ hs, h.p.size ≤ maxLen ∧ h.s.size ≤ maxLen

theorem undo_true {h : Hd} (hb : h.b = true) (D : DataW Unit) : undo h D = D.put (KS h.p) (VS h.s) := by simp [undo, hb]
theorem undo_false {h : Hd} (hb : h.b = false) (D : DataW Unit) : undo h D = D.del (KS h.p) := by simp [undo, hb]

theorem undo_drop {hs : List Hd} {a : Hd} {i j : Nat} {D : DataW Unit} (ha : hs[i]? = some a) (hj : j = i + 1) : undoAll (hs.drop i) D = undo a (undoAll (hs.drop j) D) := by
  subst hj
  have hl : i < hs.length := by
    rcases Nat.lt_or_ge i hs.length with h | h
    · exact h
    · rw [List.getElem?_eq_none h] at ha; cases ha
  rw [List.drop_eq_getElem_cons hl]
  rw [List.getElem?_eq_getElem hl] at ha
  cases ha
  rfl

theorem Bd_turned {Own : Nat → Prop} {W w5 : World} {B bm N : Nat} {D : DataW Unit} {hs : List Hd} {v : Value} (hB : W.heap[B]? = some (.cells #[.map (some bm), v] 55)) (hr : W.ownsRow 0 57 3 v hs.length (cellsOf hs))
    (hoB : Own B) (hom : Own bm) (hog : ∀ g, v.ownBlock = some g → Own g) (ht : W.drew.mapTurned w5 bm) (hM : w5.ownsMap Try.prog 9 (plainElem Try.prog 9) bm N D) : Bd Own w5 B bm N D hs ∧ Touch Own W.drew w5 := by
  have hg := ht.grown
  obtain ⟨es, cl, es', cl', hm, _⟩ := ht
  have hm' : W.heap[bm]? = some (.map es cl) := hm
  have h1 : bm ≠ B := by intro e; subst e; rw [hB] at hm'; simp at hm'
  have h2 : v.ownBlock ≠ some bm := by
    intro e
    rcases hr.2 with ⟨rfl, _⟩ | ⟨g, cap, cur, rfl, _, hgg, _⟩
    · cases e
    · simp [Value.ownBlock] at e
      subst e
      rw [hm'] at hgg
      simp at hgg
  refine ⟨⟨v, ?_, hM, hr.drew.kept hg (Or.inr h2), hoB, hom, hog⟩, Touch.of_grown hg (fun g e => by simp at e; subst e; exact hom)⟩
  rw [hg.block B (lt_of_heap hB) (by simpa using fun e => h1 e.symm)]
  exact hB

theorem unbind_measure {Own : Nat → Prop} {wr w5 : World} {B bm N i j g cap : Nat} {D : DataW Unit} {hs : List Hd} (c1 : wr.cell? ⟨B, 1, none⟩ = some (.slice (some ⟨g, 0, none⟩) j cap)) (hj : j = i + 1) (h : Bd Own w5 B bm N D (hs.take i)) (hl : j ≤ hs.length) :
    hidLen w5 B < hidLen wr B := by
  rw [h.hidLen]
  simp [hidLen, c1]
  omega

set_option maxHeartbeats 1000000 in
theorem unbind_any {Own : Nat → Prop} {w : World} {B bm N : Nat} {D : DataW Unit} {hs : List Hd} (h : Bd Own w B bm N D hs) (hO : ∀ k, w.heap.size ≤ k → Own k) (m : Nat) (hm : hs.length ≤ 1000000) (hN : N ≤ 1000000) (hf : Fine hs) :
    Calls Try.prog 31 #[.pointer (some ⟨B, 0, none⟩), .int .i64 m] w fun e w' => e = .returned (.tuple #[]) ∧ (∃ N', N' ≤ N + hs.length ∧ Bd Own w' B bm N' (undoAll (hs.drop m) D) (hs.take m)) ∧ Touch Own w w' := by
  go_enter Try.func31, Try.ntmps31
  go_wp2_with fail
  go_loopw [4] (fun _ wr => ∃ j N', j ≤ hs.length ∧ (m ≤ j ∨ j = hs.length) ∧ N' + j ≤ N + hs.length ∧ Bd Own wr B bm N' (undoAll (hs.drop j) D) (hs.take j) ∧ Touch Own w wr) (fun _ wr => hidLen wr B)
  case atStart =>
    refine ⟨hs.length, N, Nat.le_refl _, Or.inr rfl, Nat.le_refl _, ?_, Touch.refl _ _⟩
    rw [List.drop_of_length_le (Nat.le_refl _), List.take_of_length_le (Nat.le_refl _)]
    exact h
  case round =>
    obtain ⟨j, N', hj, hmj, hNj, hbd, ht⟩ := hrel
    obtain ⟨v, hB, hM, hr, hoB, hom, hog⟩ := hbd
    have c1 := cell1 hB
    have c0 := cell0 hB
    have f1 := frozen1 hB 1
    have hBlt := lt_of_heap hB
    by_cases hlt : m < j
    · obtain ⟨i, hi⟩ : ∃ i, j = i + 1 := ⟨j - 1, by omega⟩
      obtain ⟨g, cap, rfl, _, hg⟩ := hr.form (by simp; omega)
      obtain ⟨e0, e1, e2⟩ := row_cells hr i (by simp; omega)
      simp only [List.getElem_take] at e0 e1 e2
      simp only [List.length_take, Nat.min_eq_left hj] at c1 hr
      obtain ⟨a, ha⟩ : ∃ a, a = hs[i] := ⟨_, rfl⟩
      rw [← ha] at e0 e1 e2
      have Ha : Hid (hs[i]? = some a) := by rw [ha]; exact List.getElem?_eq_getElem (by omega)
      have Hi : Hid (j = i + 1) := hi
      have hji : (m : Int) < (j : Int) := by omega
      have hii : (i : Int) < (j : Int) := by omega
      have hwr : IntKind.i64.wrap ((j : Int) - 1) = (i : Int) := by rw [IntWalk.i64_in _ ⟨by omega, by omega⟩]; omega
      clear ha hi
      have hcap : (i : Int) ≤ (cap : Int) := by
        rcases hr.2 with ⟨h0, _⟩ | ⟨g', cap', cur, hv, _, _, hn, _⟩
        · cases h0
        · cases hv; omega
      have hwr0 : (0 : Int) ≤ (i : Int) := by omega
      go_wp2_with fail
      go_region
      go_wp2_with fail
      go_region
      have hall := unbind_all hO hB hM (by rw [← Hi.out]; exact hr) Ha.out hoB hom (hog g rfl) ht
      unfold popW at hall
      go_wp2_with fail
      · generalize ((wr.setCell ⟨B, 1, none⟩ (.slice (some ⟨g, 0, none⟩) i cap)).alloc (.cells #[.string a.p, .string a.s, .bool a.b] 57)).drew.drew = W at hall ⊢
        obtain ⟨hbd, hto, d1, d2, d0⟩ := hall
        obtain ⟨v', hB', hM', hr', _, _, hog'⟩ := hbd
        obtain ⟨hfp, hfs⟩ := hf a (List.mem_of_getElem? Ha.out)
        obtain ⟨w5, hrun, hM5, hturn⟩ := hM'.drew.store law Try.underlying37 (by unfold maxLen; omega) (WideMaps.keyOf_string_mk Try.underlying9 hfp) (plainElem_string Try.underlying9 hfs)
        go_region
        go_wp2_with fail
        go_roundw
        case rel =>
          obtain ⟨q1, q2⟩ := Bd_turned hB' hr' hoB hom hog' hturn hM5
          have hb : a.b = true := by assumption
          refine ⟨i, N' + 1, by omega, by have := Hi.out; omega, by have := Hi.out; omega, ?_, hto.drew.trans q2⟩
          rw [undo_drop Ha.out Hi.out, undo_true hb]
          exact q1
        case measure => exact unbind_measure c1 Hi.out (Bd_turned hB' hr' hoB hom hog' hturn hM5).1 hj
      · generalize ((wr.setCell ⟨B, 1, none⟩ (.slice (some ⟨g, 0, none⟩) i cap)).alloc (.cells #[.string a.p, .string a.s, .bool a.b] 57)).drew.drew = W at hall ⊢
        obtain ⟨hbd, hto, d1, d2, d0⟩ := hall
        obtain ⟨v', hB', hM', hr', _, _, hog'⟩ := hbd
        obtain ⟨hfp, hfs⟩ := hf a (List.mem_of_getElem? Ha.out)
        obtain ⟨w5, hrun, hM5, hturn⟩ := hM'.drew.drop law Try.underlying37 (WideMaps.keyOf_string_mk Try.underlying9 hfp) 0
        go_region
        go_wp2_with fail
        go_roundw
        case rel =>
          obtain ⟨q1, q2⟩ := Bd_turned hB' hr' hoB hom hog' hturn hM5
          have hb : a.b = false := by first | assumption | (rw [← Bool.not_eq_true]; assumption)
          refine ⟨i, N', by omega, by have := Hi.out; omega, by have := Hi.out; omega, ?_, hto.drew.trans q2⟩
          rw [undo_drop Ha.out Hi.out, undo_false hb]
          exact q1
        case measure => exact unbind_measure c1 Hi.out (Bd_turned hB' hr' hoB hom hog' hturn hM5).1 hj
    · have e1 : hs.drop j = hs.drop m ∧ hs.take j = hs.take m := by
        rcases hmj with h1 | h1
        · have : j = m := by omega
          subst this; exact ⟨rfl, rfl⟩
        · subst h1
          exact ⟨by rw [List.drop_of_length_le (Nat.le_refl _), List.drop_of_length_le (by omega)], by rw [List.take_of_length_le (Nat.le_refl _), List.take_of_length_le (by omega)]⟩
      have Hbd : Hid (Bd Own wr B bm N' (undoAll (hs.drop m) D) (hs.take m)) := by
        have hbd : Bd Own wr B bm N' (undoAll (hs.drop j) D) (hs.take j) := ⟨_, hB, hM, hr, hoB, hom, hog⟩
        rw [e1.1, e1.2] at hbd
        exact hbd
      obtain ⟨v0, cap0, rfl⟩ := ownsRow_form hr
      simp only [List.length_take, Nat.min_eq_left hj] at c1
      clear e1
      go_wp2_with fail
      go_end0
      exact ⟨rfl, ⟨N', by omega, Hbd.out⟩, ht⟩
end Go.Proofs.Qxb6601864a.bd
