import Derived.Test.Qxb6601864aSearch
namespace Go.Proofs.Qxb6601864a.bd
open Go.ChangeShapes Go.WideShapes Go.ChangeAt Go.RowKit Go.Maps
set_option linter.unusedVariables false

/-- a binding keeps while only blocks outside its own turn -/
theorem Bd.kept {Own : Nat → Prop} {w w' : World} {B bm N : Nat} {D : DataW Unit} {hs : List Hd} (h : Bd Own w B bm N D hs) (hk : ∀ k, k < w.heap.size → Own k → w'.heap[k]? = w.heap[k]?) : Bd Own w' B bm N D hs := by
  obtain ⟨v, hB, ⟨es, cl, hm, hM⟩, hr, hoB, hom, hog⟩ := h
  refine ⟨v, by rw [hk B (lt_of_heap hB) hoB]; exact hB, ⟨es, cl, by rw [hk bm (lt_of_heap hm) hom]; exact hm, hM⟩, ⟨hr.1, ?_⟩, hoB, hom, hog⟩
  rcases hr.2 with h1 | ⟨g, cap, cur, hv, hb, hg, r⟩
  · exact Or.inl h1
  · exact Or.inr ⟨g, cap, cur, hv, hb, by rw [hk g (lt_of_heap hg) (hog g (by rw [hv]; rfl))]; exact hg, r⟩
theorem Bd.below {Own : Nat → Prop} {w w' : World} {B bm N : Nat} {D : DataW Unit} {hs : List Hd} (h : Bd Own w B bm N D hs) (hb : Below w.heap.size w w') : Bd Own w' B bm N D hs := h.kept (fun k hk _ => hb.block k hk)
theorem ownsRow_below {w w' : World} {base : Nat} {e : TypeId} {size : Nat} {v : Value} {n : Nat} {xs : List Value} (h : w.ownsRow base e size v n xs) (hb : Below w.heap.size w w') : w'.ownsRow base e size v n xs := by
  refine ⟨h.1, ?_⟩
  rcases h.2 with h1 | ⟨g, cap, cur, hv, hbb, hg, r⟩
  · exact Or.inl h1
  · exact Or.inr ⟨g, cap, cur, hv, hbb, by rw [hb.block g (lt_of_heap hg)]; exact hg, r⟩

/-- a look-up, as an equation for the walk -/
theorem look_str {w : World} {bm N : Nat} {D : DataW Unit} (h : w.ownsMap Try.prog 9 (plainElem Try.prog 9) bm N D) {x : ByteArray} (hx : x.size ≤ maxLen) :
    ∃ s : ByteArray, (Instr.lookup 37 (.map (some bm)) (.string x) true).run Try.prog w = .ok (.tuple #[.string s, .bool (Maps.has D (KS x))]) w ∧ D.atKey (KS x) (VS ⟨#[]⟩) = VS s := by
  obtain ⟨v, ps, hrun, hv⟩ := h.look_ok law Try.underlying37 (zeroE w) (plainElem_string Try.underlying9 (s := ⟨#[]⟩) (by decide)) (WideMaps.keyOf_string_mk Try.underlying9 hx)
  obtain ⟨s, rfl, hz, _⟩ := plainElem_string_inv Try.underlying9 hv
  exact ⟨s, hrun, congrArg Prod.fst hz⟩

set_option maxHeartbeats 2000000 in
/-- two bindings that read alike: true -/
theorem same_any {Own Own' : Nat → Prop} {w : World} {B bm N B' bm' N' base n : Nat} {D : DataW Unit} {hs : List Hd} {v : Value} {l : List ByteArray} (hx : Bd Own w B bm N D hs) (hy : Bd Own' w B' bm' N' D hs) (hk : w.ownsRow base 9 1 v n (strsOf l))
    (hl : hs.length ≤ 1000000) (hn : n ≤ 1000000) (hf : ∀ x ∈ l, x.size ≤ maxLen) :
    Calls Try.prog 26 #[.pointer (some ⟨B, 0, none⟩), .pointer (some ⟨B', 0, none⟩), v] w fun e w' => e = .returned (.bool true) ∧ Below w.heap.size w w' := by
  have Hl : Hid (l.length = n) := by show l.length = n; have := hk.1; simpa [strsOf] using this
  obtain ⟨a, cap, rfl⟩ := ownsRow_form hk
  go_enter Try.func26, Try.ntmps26
  go_wp2_with fail
  refine (hlen_any hx).mono ?_
  rintro e w1 ⟨rfl, hw⟩
  rw [hw]; clear hw
  go_wp2_with fail
  refine (hlen_any hy).mono ?_
  rintro e w2 ⟨rfl, hw⟩
  rw [hw]; clear hw
  go_wp2_with fail
  go_loopw [8] (fun i wr => ∃ j : Nat, j ≤ hs.length ∧ i = .int .i64 j ∧ Below w.heap.size w wr) (fun i _ => hs.length - (intOf i).toNat)
  case atStart => exact ⟨0, Nat.zero_le _, rfl, Below.refl _ _⟩
  case round =>
    obtain ⟨j, hj, rfl, hb⟩ := hrel
    by_cases hlt : j < hs.length
    · have hji : (j : Int) < (hs.length : Int) := by omega
      go_wp2_with fail
      refine (hat_any (hx.below hb) j hlt hl).mono ?_
      rintro e w3 ⟨rfl, hb3⟩
      have hb3' := hb.trans (hb3.mono hb.size)
      go_wp2_with fail
      refine (hat_any (hy.below hb3') j hlt hl).mono ?_
      rintro e w4 ⟨rfl, hb4⟩
      have hb4' := hb3'.trans (hb4.mono hb3'.size)
      go_wp2_with fail
      go_roundw
      case rel => exact ⟨j + 1, by omega, by go_num, hb4'⟩
      case measure => simp [intOf]; omega
    · have hx' := hx.below hb
      have hy' := hy.below hb
      have hk' := ownsRow_below hk hb
      clear hx hy hk
      go_wp2_with fail
      refine (bound_any hx').mono ?_
      rintro e w3 ⟨rfl, hw⟩
      rw [hw]; clear hw
      go_wp2_with fail
      refine (bound_any hy').mono ?_
      rintro e w4 ⟨rfl, hw⟩
      rw [hw]; clear hw
      obtain ⟨_, _, hM, _⟩ := hx'
      obtain ⟨_, _, hM', _⟩ := hy'
      have l1 := fun ty => hM.len Try.underlying37 ty
      have l2 := fun ty => hM'.len Try.underlying37 ty
      go_wp2_with fail
      clear l1 l2
      go_loop [17] (fun i => ∃ t : Nat, t ≤ n ∧ i = .int .i64 t) (fun i => n - (intOf i).toNat)
      case atStart => exact ⟨0, Nat.zero_le _, rfl⟩
      case round =>
        obtain ⟨t, ht, rfl⟩ := hrel
        by_cases htn : t < n
        · have hl' := Hl.out
          obtain ⟨g, cap', hv, _, hg⟩ := hk'.form (by omega)
          obtain ⟨rfl, rfl⟩ : a = some ⟨g, 0, none⟩ ∧ cap = cap' := by simpa using hv
          have e0 := hk'.cellAt t (by omega)
          have e1 : (strsOf l)[t]? = some (.string l[t]) := by simp [strsOf, List.getElem?_eq_getElem (show t < l.length by omega)]
          rw [e1] at e0
          have hsz : l[t].size ≤ maxLen := hf _ (List.getElem_mem _)
          obtain ⟨x, hxx⟩ : ∃ x, x = l[t] := ⟨_, rfl⟩
          rw [← hxx] at e0 hsz
          have hti : (t : Int) < (n : Int) := by omega
          clear e1 hv hxx hl'
          obtain ⟨s1, s2, hr1, hr2, hss⟩ : ∃ s1 s2 : ByteArray, (Instr.lookup 37 (.map (some bm)) (.string x) true).run Try.prog wr = .ok (.tuple #[.string s1, .bool (Maps.has D (KS x))]) wr ∧
              (Instr.lookup 37 (.map (some bm')) (.string x) true).run Try.prog wr = .ok (.tuple #[.string s2, .bool (Maps.has D (KS x))]) wr ∧ s1 = s2 := by
            obtain ⟨s1, h1, g1⟩ := look_str hM hsz
            obtain ⟨s2, h2, g2⟩ := look_str hM' hsz
            exact ⟨s1, s2, h1, h2, bytes_inj (by rw [g1] at g2; simpa [VS] using g2)⟩
          subst hss
          go_wp2_with fail
          go_round
          case rel => exact ⟨t + 1, by omega, by go_num⟩
          case measure => simp [intOf]; omega
        · go_wp2_with fail
          go_ret
          exact ⟨rfl, hb⟩
end Go.Proofs.Qxb6601864a.bd
