import Derived.Test.Qxb6601864aOpen
namespace Go.Proofs.Qxb6601864a.bd
open Go.ChangeShapes Go.WideShapes Go.ChangeAt Go.RowKit Go.Maps
set_option linter.unusedVariables false

/-! ### what the map holds when the entries are undone -/
theorem newMap_eq (ps : List (ByteArray × ByteArray)) : newMap ps = ps.reverse.foldr (fun q D => D.put (KS q.1) (VS q.2)) (.map []) := by
  unfold newMap; rw [List.foldl_eq_foldr_reverse]

theorem isMap_fold : ∀ r : List (ByteArray × ByteArray), IsMap (r.foldr (fun q D => DataW.put D (KS q.1) (VS q.2)) (.map [] : DataW Unit))
  | [] => isMap_empty
  | q :: r => (isMap_fold r).put _ _
theorem newMap_isMap (ps : List (ByteArray × ByteArray)) : IsMap (newMap ps) := by rw [newMap_eq]; exact isMap_fold _

theorem fold_law (x : ByteArray) : ∀ r : List (ByteArray × ByteArray),
    (∀ q, r.find? (fun q => decide (q.1 = x)) = some q → Maps.has (r.foldr (fun q D => DataW.put D (KS q.1) (VS q.2)) (.map [] : DataW Unit)) (KS x) = true ∧ ∀ z, (r.foldr (fun q D => DataW.put D (KS q.1) (VS q.2)) (.map [] : DataW Unit)).atKey (KS x) z = VS q.2) ∧
    (r.find? (fun q => decide (q.1 = x)) = none → Maps.has (r.foldr (fun q D => DataW.put D (KS q.1) (VS q.2)) (.map [] : DataW Unit)) (KS x) = false)
  | [] => ⟨fun q h => absurd h (by simp), fun _ => rfl⟩
  | a :: r => by
    have ih := fold_law x r
    simp only [List.foldr_cons, List.find?_cons]
    by_cases e : a.1 = x
    · subst e
      simp only [decide_true]
      refine ⟨fun q h => ?_, fun h => by cases h⟩
      cases h
      exact ⟨has_put_same (isMap_fold r) (key _) _, fun z => atKey_put_same (isMap_fold r) (key _) _ z⟩
    · have hne : KS x ≠ KS a.1 := fun h => e (KS_inj h).symm
      simp only [e, decide_false]
      refine ⟨fun q h => ?_, fun h => ?_⟩
      · rw [has_put_other hne]
        exact ⟨(ih.1 q h).1, fun z => by rw [atKey_put_other hne]; exact (ih.1 q h).2 z⟩
      · rw [has_put_other hne]; exact ih.2 h

theorem last_law (ps : List (ByteArray × ByteArray)) (x : ByteArray) : Maps.has (newMap ps) (KS x) = (lastOf ps x).2 ∧ ((lastOf ps x).2 = true → ∀ z, (newMap ps).atKey (KS x) z = VS (lastOf ps x).1) := by
  rw [newMap_eq]
  have h := fold_law x ps.reverse
  unfold lastOf
  cases hf : ps.reverse.find? (fun q => decide (q.1 = x)) with
  | some q => exact ⟨(h.1 q hf).1, fun _ => (h.1 q hf).2⟩
  | none => exact ⟨h.2 hf, fun e => by cases e⟩

theorem exp_law (ps : List (ByteArray × ByteArray)) (x : ByteArray) : ∀ l : List Hd, Maps.has (undoAll l (newMap ps)) (KS x) = (expOf ps l x).2 ∧ ((expOf ps l x).2 = true → ∀ z, (undoAll l (newMap ps)).atKey (KS x) z = VS (expOf ps l x).1)
  | [] => last_law ps x
  | a :: l => by
    have ih := exp_law ps x l
    have hm := undoAll_isMap (newMap_isMap ps) l
    by_cases e : a.p = x
    · subst e
      have he : expOf ps (a :: l) a.p = (a.s, a.b) := by simp [expOf]
      rw [he]
      refine ⟨has_undo_same hm a, fun hb z => ?_⟩
      have := atKey_undo_same hm a z
      have hb' : a.b = true := hb
      rw [hb'] at this
      exact this
    · have he : expOf ps (a :: l) x = expOf ps l x := by simp [expOf, e]
      have hne : KS x ≠ KS a.p := fun h => e (KS_inj h).symm
      rw [he]
      refine ⟨(has_undo_other a hne).trans ih.1, fun hb z => ?_⟩
      exact (atKey_undo_other a hne z).trans (ih.2 hb z)

/-! ### every key of the map is one of the keys that the law lists -/
theorem has_new {ps : List (ByteArray × ByteArray)} {k : Lit} (h : Maps.has (newMap ps) k = true) : ∃ q ∈ ps, k = KS q.1 := by
  rw [newMap_eq] at h
  have : ∀ r : List (ByteArray × ByteArray), Maps.has (r.foldr (fun q D => DataW.put D (KS q.1) (VS q.2)) (.map [] : DataW Unit)) k = true → ∃ q ∈ r, k = KS q.1 := by
    intro r
    induction r with
    | nil => intro h; cases h
    | cons a r ih =>
      intro h
      by_cases e : k = KS a.1
      · exact ⟨a, by simp, e⟩
      · simp only [List.foldr_cons] at h
        rw [has_put_other e] at h
        obtain ⟨q, hq, hk⟩ := ih h
        exact ⟨q, by simp [hq], hk⟩
  obtain ⟨q, hq, hk⟩ := this _ h
  exact ⟨q, by simpa using hq, hk⟩

theorem has_all {ps : List (ByteArray × ByteArray)} {k : Lit} : ∀ {l : List Hd}, Maps.has (undoAll l (newMap ps)) k = true → (∃ q ∈ ps, k = KS q.1) ∨ ∃ a ∈ l, k = KS a.p
  | [], h => Or.inl (has_new h)
  | a :: l, h => by
    by_cases e : k = KS a.p
    · exact Or.inr ⟨a, by simp, e⟩
    · have h' : Maps.has (undoAll l (newMap ps)) k = true := (has_undo_other a e).symm.trans h
      rcases has_all h' with g | ⟨b, hb, hk⟩
      · exact Or.inl g
      · exact Or.inr ⟨b, by simp [hb], hk⟩

theorem has_keys {ps : List (ByteArray × ByteArray)} {hs : List Hd} {m : Nat} {k : Lit} (h : Maps.has (undoAll (hs.drop m) (newMap ps)) k = true) : ∃ x ∈ keysOf ps hs [], k = KS x := by
  rcases has_all h with ⟨q, hq, hk⟩ | ⟨a, ha, hk⟩
  · exact ⟨q.1, by simp only [keysOf, List.mem_append, List.mem_map]; exact Or.inl (Or.inl ⟨q, hq, rfl⟩), hk⟩
  · exact ⟨a.p, by simp only [keysOf, List.mem_append, List.mem_map]; exact Or.inl (Or.inr ⟨a, List.mem_of_mem_drop ha, rfl⟩), hk⟩

/-! ### how many -/
def good (l : List ByteArray) (P : ByteArray → Bool) (s : Nat) : Bool := match l[s]? with | some x => P x && decide (firstIdx l x = s) | none => false
/-- at how many of the first t places a key that P holds of stands for the first time -/
def present (l : List ByteArray) (P : ByteArray → Bool) (t : Nat) : Nat := ((List.range t).filter (good l P)).length
theorem present_succ {l : List ByteArray} {P : ByteArray → Bool} {t : Nat} : present l P (t + 1) = present l P t + if good l P t then 1 else 0 := by
  unfold present
  rw [List.range_succ, List.filter_append, List.length_append]
  congr 1
  cases h : good l P t <;> simp [h]
theorem present_le (l : List ByteArray) (P : ByteArray → Bool) (t : Nat) : present l P t ≤ t := by
  unfold present
  have := List.length_filter_le (good l P) (List.range t)
  simpa using this

theorem firstIdx_spec {l : List ByteArray} {x : ByteArray} (h : x ∈ l) : firstIdx l x < l.length ∧ l[firstIdx l x]? = some x := by
  have h1 : firstIdx l x < l.length := by
    unfold firstIdx
    rw [List.findIdx_lt_length]
    exact ⟨x, h, by simp⟩
  refine ⟨h1, ?_⟩
  unfold firstIdx at h1 ⊢
  rw [List.getElem?_eq_getElem h1]
  have := List.findIdx_getElem (w := h1)
  exact congrArg some (of_decide_eq_true this)

theorem size_present {D : DataW Unit} (hc : Canon D) {l : List ByteArray} (hk : ∀ k, Maps.has D k = true → ∃ x ∈ l, k = KS x) : Maps.size D = present l (fun x => Maps.has D (KS x)) l.length := by
  obtain ⟨es, rfl, hs, hkey⟩ := hc
  have hap := apart_of_rising hs
  have n1 : (es.map (·.1)).Nodup := by
    rw [List.Nodup, List.pairwise_map]
    exact hap
  have n2 : (((List.range l.length).filter (good l (fun x => Maps.has (.map es) (KS x)))).map (fun s => KS (l.getD s ⟨#[]⟩))).Nodup := by
    rw [List.Nodup, List.pairwise_map]
    have hr : (List.range l.length).Pairwise (· ≠ ·) := List.nodup_range
    refine List.Pairwise.imp_of_mem ?_ (hr.filter _)
    intro s t h1 h2 hne e
    obtain ⟨_, g1⟩ := List.mem_filter.1 h1
    obtain ⟨_, g2⟩ := List.mem_filter.1 h2
    unfold good at g1 g2
    cases hx : l[s]? with
    | none => rw [hx] at g1; cases g1
    | some x =>
      cases hy : l[t]? with
      | none => rw [hy] at g2; cases g2
      | some y =>
        rw [hx] at g1
        rw [hy] at g2
        simp only [Bool.and_eq_true, decide_eq_true_eq] at g1 g2
        have exy : x = y := KS_inj (by simpa [List.getD, hx, hy] using e)
        subst exy
        exact hne (g1.2.symm.trans g2.2)
  have hmem : ∀ k, k ∈ es.map (·.1) ↔ Maps.has (.map es : DataW Unit) k = true := by
    intro k
    rw [Maps.has_eq, List.any_eq_true, List.mem_map]
    constructor
    · rintro ⟨p, hp, rfl⟩
      exact ⟨p, hp, WideAt.sameKey_self (hkey p hp)⟩
    · rintro ⟨p, hp, h⟩
      exact ⟨p, hp, WideAt.sameKey_eq h⟩
  have hperm := (List.perm_ext_iff_of_nodup n1 n2).2 (fun k => by
    rw [hmem k, List.mem_map]
    constructor
    · intro h
      obtain ⟨x, hx, rfl⟩ := hk k h
      obtain ⟨h1, h2⟩ := firstIdx_spec hx
      refine ⟨firstIdx l x, List.mem_filter.2 ⟨List.mem_range.2 h1, ?_⟩, by simp [List.getD, h2]⟩
      unfold good
      rw [h2]
      simpa using h
    · rintro ⟨s, hs, rfl⟩
      obtain ⟨_, g⟩ := List.mem_filter.1 hs
      unfold good at g
      cases hx : l[s]? with
      | none => rw [hx] at g; cases g
      | some x =>
        rw [hx] at g
        simp only [Bool.and_eq_true] at g
        simpa [List.getD, hx] using g.1)
  have := hperm.length_eq
  simpa [Maps.size, present] using this
end Go.Proofs.Qxb6601864a.bd
