import Derived.Test.Qxb6601864aSame
namespace Go.Proofs.Qxb6601864a.bd
open Go.ChangeShapes Go.WideShapes Go.ChangeAt Go.RowKit Go.Maps
set_option linter.unusedVariables false

/-! ### maps as read, compared key by key -/
def Alike (D E : DataW Unit) : Prop := (∀ k, Maps.has D k = Maps.has E k) ∧ ∀ k z, D.atKey k z = E.atKey k z
theorem Alike.refl (D : DataW Unit) : Alike D D := ⟨fun _ => rfl, fun _ _ => rfl⟩
theorem Alike.trans {D E F : DataW Unit} (h : Alike D E) (g : Alike E F) : Alike D F := ⟨fun k => (h.1 k).trans (g.1 k), fun k z => (h.2 k z).trans (g.2 k z)⟩
theorem Alike.eq {D E : DataW Unit} (h : Alike D E) (c1 : Canon D) (c2 : Canon E) : D = E := Maps.ext c1 c2 h.1 (fun k z _ => h.2 k z)

theorem key (s : ByteArray) : WideAt.IsKeyLit (KS s) := trivial
theorem KS_inj {a b : ByteArray} (h : KS a = KS b) : a = b := bytes_inj (by simpa [KS] using h)

theorem atKey_has {D : DataW Unit} {k : Lit} (h : Maps.has D k = true) (z z' : DataW Unit) : D.atKey k z = D.atKey k z' := by
  cases D <;> try (cases h; done)
  rename_i es
  simp only [DataW.atKey]
  cases hf : es.find? (fun p => p.1.sameKey k) with
  | some p => rfl
  | none =>
    rw [List.find?_eq_none] at hf
    rw [Maps.has_eq, List.any_eq_true] at h
    obtain ⟨p, hp, h2⟩ := h
    exact absurd h2 (hf p hp)

theorem undo_isMap {D : DataW Unit} (h : IsMap D) (a : Hd) : IsMap (undo a D) := by
  unfold undo
  split
  · exact h.put _ _
  · exact h.del _

theorem has_undo_same {D : DataW Unit} (h : IsMap D) (a : Hd) : Maps.has (undo a D) (KS a.p) = a.b := by
  cases hb : a.b
  · rw [undo_false hb, has_del_same]
  · rw [undo_true hb, has_put_same h (key _)]
theorem has_undo_other {D : DataW Unit} (a : Hd) {k : Lit} (hk : k ≠ KS a.p) : Maps.has (undo a D) k = Maps.has D k := by
  cases hb : a.b
  · rw [undo_false hb, has_del_other hk]
  · rw [undo_true hb, has_put_other hk]
theorem atKey_undo_same {D : DataW Unit} (h : IsMap D) (a : Hd) (z : DataW Unit) : (undo a D).atKey (KS a.p) z = if a.b then VS a.s else z := by
  cases hb : a.b
  · rw [undo_false hb, atKey_del_same]; rfl
  · rw [undo_true hb, atKey_put_same h (key _)]; rfl
theorem atKey_undo_other {D : DataW Unit} (a : Hd) {k : Lit} (hk : k ≠ KS a.p) (z : DataW Unit) : (undo a D).atKey k z = D.atKey k z := by
  cases hb : a.b
  · rw [undo_false hb, atKey_del_other hk]
  · rw [undo_true hb, atKey_put_other hk]

theorem undo_alike {D E : DataW Unit} (hD : IsMap D) (hE : IsMap E) (h : Alike D E) (a : Hd) : Alike (undo a D) (undo a E) := by
  refine ⟨fun k => ?_, fun k z => ?_⟩
  · by_cases e : k = KS a.p
    · subst e; rw [has_undo_same hD, has_undo_same hE]
    · rw [has_undo_other a e, has_undo_other a e, h.1]
  · by_cases e : k = KS a.p
    · subst e; rw [atKey_undo_same hD, atKey_undo_same hE]
    · rw [atKey_undo_other a e, atKey_undo_other a e, h.2]

theorem undoAll_isMap {D : DataW Unit} (h : IsMap D) : ∀ l : List Hd, IsMap (undoAll l D)
  | [] => h
  | a :: l => undo_isMap (undoAll_isMap h l) a
theorem undoAll_alike {D E : DataW Unit} (hD : IsMap D) (hE : IsMap E) (h : Alike D E) : ∀ l : List Hd, Alike (undoAll l D) (undoAll l E)
  | [] => h
  | a :: l => undo_alike (undoAll_isMap hD l) (undoAll_isMap hE l) (undoAll_alike hD hE h l) a
theorem undoAll_snoc (l : List Hd) (a : Hd) (D : DataW Unit) : undoAll (l ++ [a]) D = undoAll l (undo a D) := by simp [undoAll]

/-- to undo a bind that was recorded gives back what was there -/
theorem undo_bind {D : DataW Unit} (hD : IsMap D) {k old : ByteArray} (v : DataW Unit) (h : D.atKey (KS k) (VS ⟨#[]⟩) = VS old) : Alike (undo ⟨k, old, Maps.has D (KS k)⟩ (D.put (KS k) v)) D := by
  refine ⟨fun x => ?_, fun x z => ?_⟩
  · by_cases e : x = KS k
    · subst e; exact has_undo_same (hD.put _ _) ⟨k, old, Maps.has D (KS k)⟩
    · rw [has_undo_other ⟨k, old, Maps.has D (KS k)⟩ e, has_put_other e]
  · by_cases e : x = KS k
    · subst e
      rw [atKey_undo_same (hD.put _ _) ⟨k, old, Maps.has D (KS k)⟩]
      cases hh : Maps.has D (KS k)
      · exact (atKey_of_not_has hh z).symm
      · rw [atKey_has hh z (VS ⟨#[]⟩), h]; rfl
    · rw [atKey_undo_other ⟨k, old, Maps.has D (KS k)⟩ e, atKey_put_other e]

/-- the step of the law's loop -/
theorem undo_step {D D0 : DataW Unit} (hD : IsMap D) {l : List Hd} (hA : Alike (undoAll l D) D0) {k old : ByteArray} (v : DataW Unit) (h : D.atKey (KS k) (VS ⟨#[]⟩) = VS old) :
    Alike (undoAll (l ++ [⟨k, old, Maps.has D (KS k)⟩]) (D.put (KS k) v)) D0 := by
  rw [undoAll_snoc]
  exact (undoAll_alike (undo_isMap (hD.put _ _) _) hD (undo_bind hD v h) l).trans hA

theorem Bd.canon {Own : Nat → Prop} {w : World} {B bm N : Nat} {D : DataW Unit} {hs : List Hd} (h : Bd Own w B bm N D hs) : Canon D := by
  obtain ⟨_, _, hM, _⟩ := h
  exact hM.canon law
theorem Bd.isMap {Own : Nat → Prop} {w : World} {B bm N : Nat} {D : DataW Unit} {hs : List Hd} (h : Bd Own w B bm N D hs) : IsMap D := by
  obtain ⟨_, _, hM, _⟩ := h
  exact hM.isMap
theorem Bd.mono {Own Own' : Nat → Prop} {w : World} {B bm N : Nat} {D : DataW Unit} {hs : List Hd} (h : Bd Own w B bm N D hs) (ho : ∀ k, k < w.heap.size → Own k → Own' k) : Bd Own' w B bm N D hs := by
  obtain ⟨v, hB, hM, hr, hoB, hom, hog⟩ := h
  exact ⟨v, hB, hM, hr, ho B (lt_of_heap hB) hoB, ho bm hM.lt hom, fun g e => ho g (hr.lt g e).2 (hog g e)⟩
theorem Bd.more {Own : Nat → Prop} {w : World} {B bm N N' : Nat} {D : DataW Unit} {hs : List Hd} (h : Bd Own w B bm N D hs) (hN : N ≤ N') : Bd Own w B bm N' D hs := by
  obtain ⟨v, hB, hM, r⟩ := h
  exact ⟨v, hB, hM.mono hN, r⟩
end Go.Proofs.Qxb6601864a.bd
