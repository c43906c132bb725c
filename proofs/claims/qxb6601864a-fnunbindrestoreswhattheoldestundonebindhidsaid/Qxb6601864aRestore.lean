import Derived.Test.Qxb6601864aPlain2
namespace Go.Proofs.Qxb6601864a.bd
open Go.ChangeShapes Go.WideShapes Go.ChangeAt Go.RowKit Go.Maps
set_option linter.unusedVariables false

set_option maxRecDepth 100000 in
set_option maxHeartbeats 4000000 in
/-- the law behind its guards: small inputs, a mark that is not negative -/
theorem restore_small {w : World} {a0 a1 : Option Addr} {len0 cap0 len1 cap1 : Nat} {ps : List (ByteArray × ByteArray)} {hs : List Hd} (h0 : IsP w a0 len0 ps) (h1 : IsH w a1 len1 hs) (hl0 : len0 ≤ 4096) (hl1 : len1 ≤ 4096) (m : Nat) (hm : m ≤ 9223372036854775807) :
    Calls Try.prog 6 #[.slice a0 len0 cap0, .slice a1 len1 cap1, .int .i64 m] w fun e w' => e = .returned (.bool true) ∧ Below w.heap.size w w' := by
  go_enter Try.func6, Try.ntmps6
  go_wp2_with fail
  refine (zb6_any h0 h1 (by unfold maxLen; omega) (by unfold maxLen; omega) _).mono ?_
  rintro e w1 ⟨⟨r, rfl⟩, hw⟩
  rw [hw]; clear hw
  cases r
  · go_wp2_with fail
    go_ret
    exact ⟨rfl, Below.refl _ _⟩
  go_wp2_with fail
  refine (pairBytes_any h0 (by omega)).mono ?_
  rintro e w2 ⟨⟨r0, rfl⟩, hb2⟩
  go_wp2_with fail
  refine (hidBytes_any (h1.below hb2) (by omega)).mono ?_
  rintro e w3 ⟨⟨r1, rfl⟩, hb3⟩
  have hb3' := hb2.trans (hb3.mono hb2.size)
  clear hb2 hb3
  go_wp2_with fail
  · go_ret
    exact ⟨rfl, hb3'⟩
  refine (newOf_any (h0.below hb3') (h1.below hb3') hl0 hl1).mono ?_
  rintro e w5 ⟨rfl, hbd5, hb5⟩
  have hb5' := hb3'.trans (hb5.mono hb3'.size)
  have hfh : Fine hs := h1.2.1
  have Hlh : Hid (hs.length = len1) := h1.1
  go_wp2_with fail
  refine (zzUnbind_any hbd5 (fun k h => Nat.le_trans hb5.size h) m (by have h4 := Hlh.out; omega) (by omega) hfh).mono ?_
  rintro e w6 ⟨rfl, ⟨N6, hN6, hbd6⟩, ht6⟩
  have hb6 : Below w.heap.size w w6 := hb5'.trans (ht6.below hb5'.size (fun k g1 g2 => by have := hb3'.size; omega))
  clear hbd5 hb5 hb5' ht6
  obtain ⟨G, hG⟩ : ∃ G, G = undoAll (hs.drop m) (newMap ps) := ⟨_, rfl⟩
  rw [← hG] at hbd6
  have HG : Hid (G = undoAll (hs.drop m) (newMap ps)) := hG
  clear hG
  by_cases hmk : m < len1
  · have hmi : (m : Int) < (len1 : Int) := by omega
    go_wp2_with fail
    have hcl := hlen_any hbd6
    have HK : Hid ((hs.take m).length = m) := by show _ = _; rw [List.length_take]; have := Hlh.out; omega
    rw [HK.out] at hcl
    refine hcl.mono ?_
    rintro e w7 ⟨rfl, hw⟩
    rw [hw]; clear hw hcl
    go_wp2_with fail
    go_loopw [9] (fun i wr => ∃ j : Nat, j ≤ m ∧ i = .int .i64 j ∧ Below w6.heap.size w6 wr) (fun i _ => m - (intOf i).toNat)
    case atStart => exact ⟨0, Nat.zero_le _, rfl, Below.refl _ _⟩
    case round =>
      obtain ⟨j, hj, rfl, hb7⟩ := hrel
      have hb7' := hb6.trans (hb7.mono hb6.size)
      by_cases hlt : j < m
      · have hlen := Hlh.out
        obtain ⟨_, _, hA⟩ := h1
        obtain ⟨b, off, rfl, hblt, hc⟩ := hA (by omega)
        obtain ⟨e0, e1, e2⟩ := hc j (by omega)
        obtain ⟨q, hq⟩ : ∃ q, q = hs[j] := ⟨_, rfl⟩
        rw [← hq] at e0 e1 e2
        have hat := hat_any (hbd6.below hb7) j (by rw [HK.out]; exact hlt) (by rw [HK.out]; omega)
        rw [List.getElem_take, ← hq] at hat
        have hki : (j : Int) < (len1 : Int) := by omega
        have hki2 : (j : Int) < (m : Int) := by omega
        clear hc hA hq hlen
        go_wp2_with fail
        refine hat.mono ?_
        rintro e w8 ⟨rfl, hb8⟩
        clear hat
        have hb8' := hb7'.trans (hb8.mono hb7'.size)
        have g0 := (hb8'.cell (p := ⟨b, off + j * 3, none⟩) hblt).trans e0
        have g1 := (hb8'.cell (p := ⟨b, off + j * 3 + 1, none⟩) hblt).trans e1
        have g2 := (hb8'.cell (p := ⟨b, off + j * 3 + 2, none⟩) hblt).trans e2
        go_wp2_with fail
        go_roundw
        case rel => exact ⟨j + 1, by omega, by go_num, hb7.trans (hb8.mono hb7.size)⟩
        case measure => simp [intOf]; omega
      · have hbd7 := hbd6.below hb7
        go_wp2_with fail
        refine (bound_any hbd7).mono ?_
        rintro e w8 ⟨rfl, hw⟩
        rw [hw]; clear hw
        have hnil : IsP wr none 0 [] := ⟨rfl, by simp, by simp⟩
        go_wp2_with fail
        refine (allKeys_any (h0.below hb7') (h1.below hb7') hnil hl0 hl1 (Nat.zero_le _)).mono ?_
        rintro e w9 ⟨v, rfl, hv, hb9⟩
        have hb9' := hb7'.trans (hb9.mono hb7'.size)
        have hbd9 := hbd7.below hb9
        clear hbd7 hbd6 hb7 hb7' hb6 hnil
        obtain ⟨l, hl⟩ : ∃ l, l = keysOf ps hs [] := ⟨_, rfl⟩
        rw [← hl] at hv
        have HL : Hid (l = keysOf ps hs []) := hl
        clear hl
        obtain ⟨n, hn⟩ : ∃ n, n = len0 + len1 := ⟨_, rfl⟩
        rw [Nat.add_zero, ← hn] at hv
        have hn8 : n ≤ 8192 := by omega
        clear hn
        have Hln : Hid (l.length = n) := by show _ = _; have := hv.1; simpa [strsOf] using this
        have hfl : ∀ x ∈ l, x.size ≤ maxLen := by rw [HL.out]; exact keys_fine h0.2.1 hfh (by simp)
        obtain ⟨a, cap, rfl⟩ := ownsRow_form hv
        have HP : Hid (∀ x, Maps.has G (KS x) = (expOf ps (hs.drop m) x).2 ∧ ((expOf ps (hs.drop m) x).2 = true → ∀ z, G.atKey (KS x) z = VS (expOf ps (hs.drop m) x).1)) := by
          show ∀ x, _; intro x; rw [HG.out]; exact exp_law ps x _
        go_wp2_with fail
        go_loopw [15, 16] (fun pr j wr => ∃ t : Nat, t ≤ n ∧ j = .int .i64 t ∧ pr = .int .i64 (present l (fun x => Maps.has G (KS x)) t) ∧ Below w9.heap.size w9 wr) (fun _ j _ => n - (intOf j).toNat)
        case atStart => exact ⟨0, Nat.zero_le _, rfl, rfl, Below.refl _ _⟩
        case round =>
          obtain ⟨t, ht, rfl, rfl, hb10⟩ := hrel
          have hb10' := hb9'.trans (hb10.mono hb9'.size)
          have hple := present_le l (fun x => Maps.has G (KS x)) t
          by_cases htn : t < n
          · have hln := Hln.out
            have hv10 := ownsRow_below hv hb10
            obtain ⟨g, cap', hvv, _, hg⟩ := hv10.form (by omega)
            obtain ⟨rfl, rfl⟩ : a = some ⟨g, 0, none⟩ ∧ cap = cap' := by simpa using hvv
            have e0 := hv10.cellAt t (by omega)
            have e1 : (strsOf l)[t]? = some (.string l[t]) := by simp [strsOf, List.getElem?_eq_getElem (show t < l.length by omega)]
            rw [e1] at e0
            obtain ⟨x, hx⟩ : ∃ x, x = l[t] := ⟨_, rfl⟩
            have hxs : x.size ≤ maxLen := by rw [hx]; exact hfl _ (List.getElem_mem _)
            rw [← hx] at e0
            have Hx : Hid (l[t]? = some x) := by show _ = _; rw [hx, List.getElem?_eq_getElem (show t < l.length by omega)]
            have hti : (t : Int) < (n : Int) := by omega
            clear e1 hvv hx hln
            have hexp := expected_any (cap0 := cap0) (cap1 := cap1) (h0.below hb10') (h1.below hb10') hl0 hl1 m x
            obtain ⟨hp1, hp2⟩ := HP.out x
            obtain ⟨E, hE⟩ : ∃ E, E = expOf ps (hs.drop m) x := ⟨_, rfl⟩
            rw [← hE] at hexp hp1 hp2
            clear hE
            obtain ⟨es, eb⟩ := E
            simp only at hexp hp1 hp2
            have Hp1 : Hid (Maps.has G (KS x) = eb) := hp1
            clear hp1
            go_wp2_with fail
            refine hexp.mono ?_
            rintro e w11 ⟨rfl, hb11⟩
            clear hexp
            have hb11' := hb10.trans (hb11.mono hb10.size)
            obtain ⟨_, _, hM11, _⟩ := hbd9.below hb11'
            obtain ⟨sx, hlk, hat, _⟩ := look_str' hM11 hxs
            rw [Hp1.out] at hlk
            clear hM11
            cases eb
            · have Hg : Hid (good l (fun x => Maps.has G (KS x)) t = false) := by show _ = _; unfold good; rw [Hx.out]; simp [Hp1.out]
              clear hat hp2
              go_wp2_with fail
              go_roundw
              case rel => exact ⟨t + 1, by omega, by go_num, by rw [present_succ, Hg.out]; rfl, hb11'⟩
              case measure => simp [intOf]; omega
            · have hsx : sx = es := bytes_inj (by have := hp2 rfl (VS ⟨#[]⟩); rw [hat] at this; simpa [VS] using this)
              subst hsx
              clear hat hp2
              have hv11 := ownsRow_below hv hb11'
              go_wp2_with fail
              refine (first_any hv11 x (by omega)).mono ?_
              rintro e w12 ⟨rfl, hw⟩
              rw [hw]; clear hw
              by_cases hfi : firstIdx l x = t
              · have Hg : Hid (good l (fun x => Maps.has G (KS x)) t = true) := by show _ = _; unfold good; rw [Hx.out]; simp [Hp1.out, hfi]
                have hfb : ((firstIdx l x : Int) == (t : Int)) = true := beq_iff_eq.2 (by omega)
                clear hfi
                go_wp2_with fail
                go_roundw
                case rel => exact ⟨t + 1, by omega, by go_num, by rw [present_succ, Hg.out]; go_num, hb11'⟩
                case measure => simp [intOf]; omega
              · have Hg : Hid (good l (fun x => Maps.has G (KS x)) t = false) := by show _ = _; unfold good; rw [Hx.out]; simp [hfi]
                have hfb : ((firstIdx l x : Int) == (t : Int)) = false := beq_eq_false_iff_ne.2 (by omega)
                clear hfi
                go_wp2_with fail
                go_roundw
                case rel => exact ⟨t + 1, by omega, by go_num, by rw [present_succ, Hg.out]; rfl, hb11'⟩
                case measure => simp [intOf]; omega
          · have hsz : Maps.size G = present l (fun x => Maps.has G (KS x)) t := by
              have h3 := size_present hbd9.canon (l := l) (fun k hk => by rw [HG.out] at hk; rw [HL.out]; exact has_keys hk)
              rw [h3, show t = l.length from by have := Hln.out; omega]
            have HS : Hid (Maps.size G = present l (fun x => Maps.has G (KS x)) t) := hsz
            clear hsz
            obtain ⟨_, _, hM, _⟩ := hbd9.below hb10
            have l1 := fun ty => hM.len Try.underlying37 ty
            go_wp2_with fail
            go_ret
            exact ⟨by rw [HS.out]; simp, hb10'⟩
  · have hmi : (len1 : Int) ≤ (m : Int) := by omega
    go_wp2_with fail
    have hcl := hlen_any hbd6
    have HK : Hid ((hs.take m).length = len1) := by show _ = _; rw [List.length_take]; have := Hlh.out; omega
    rw [HK.out] at hcl
    refine hcl.mono ?_
    rintro e w7 ⟨rfl, hw⟩
    rw [hw]; clear hw hcl
    go_wp2_with fail
    go_loopw [9] (fun i wr => ∃ j : Nat, j ≤ len1 ∧ i = .int .i64 j ∧ Below w6.heap.size w6 wr) (fun i _ => len1 - (intOf i).toNat)
    case atStart => exact ⟨0, Nat.zero_le _, rfl, Below.refl _ _⟩
    case round =>
      obtain ⟨j, hj, rfl, hb7⟩ := hrel
      have hb7' := hb6.trans (hb7.mono hb6.size)
      by_cases hlt : j < len1
      · have hlen := Hlh.out
        obtain ⟨_, _, hA⟩ := h1
        obtain ⟨b, off, rfl, hblt, hc⟩ := hA (by omega)
        obtain ⟨e0, e1, e2⟩ := hc j (by omega)
        obtain ⟨q, hq⟩ : ∃ q, q = hs[j] := ⟨_, rfl⟩
        rw [← hq] at e0 e1 e2
        have hat := hat_any (hbd6.below hb7) j (by rw [HK.out]; exact hlt) (by rw [HK.out]; omega)
        rw [List.getElem_take, ← hq] at hat
        have hki : (j : Int) < (len1 : Int) := by omega
        have hki2 : (j : Int) < (len1 : Int) := by omega
        clear hc hA hq hlen
        go_wp2_with fail
        refine hat.mono ?_
        rintro e w8 ⟨rfl, hb8⟩
        clear hat
        have hb8' := hb7'.trans (hb8.mono hb7'.size)
        have g0 := (hb8'.cell (p := ⟨b, off + j * 3, none⟩) hblt).trans e0
        have g1 := (hb8'.cell (p := ⟨b, off + j * 3 + 1, none⟩) hblt).trans e1
        have g2 := (hb8'.cell (p := ⟨b, off + j * 3 + 2, none⟩) hblt).trans e2
        go_wp2_with fail
        go_roundw
        case rel => exact ⟨j + 1, by omega, by go_num, hb7.trans (hb8.mono hb7.size)⟩
        case measure => simp [intOf]; omega
      · have hbd7 := hbd6.below hb7
        go_wp2_with fail
        refine (bound_any hbd7).mono ?_
        rintro e w8 ⟨rfl, hw⟩
        rw [hw]; clear hw
        have hnil : IsP wr none 0 [] := ⟨rfl, by simp, by simp⟩
        go_wp2_with fail
        refine (allKeys_any (h0.below hb7') (h1.below hb7') hnil hl0 hl1 (Nat.zero_le _)).mono ?_
        rintro e w9 ⟨v, rfl, hv, hb9⟩
        have hb9' := hb7'.trans (hb9.mono hb7'.size)
        have hbd9 := hbd7.below hb9
        clear hbd7 hbd6 hb7 hb7' hb6 hnil
        obtain ⟨l, hl⟩ : ∃ l, l = keysOf ps hs [] := ⟨_, rfl⟩
        rw [← hl] at hv
        have HL : Hid (l = keysOf ps hs []) := hl
        clear hl
        obtain ⟨n, hn⟩ : ∃ n, n = len0 + len1 := ⟨_, rfl⟩
        rw [Nat.add_zero, ← hn] at hv
        have hn8 : n ≤ 8192 := by omega
        clear hn
        have Hln : Hid (l.length = n) := by show _ = _; have := hv.1; simpa [strsOf] using this
        have hfl : ∀ x ∈ l, x.size ≤ maxLen := by rw [HL.out]; exact keys_fine h0.2.1 hfh (by simp)
        obtain ⟨a, cap, rfl⟩ := ownsRow_form hv
        have HP : Hid (∀ x, Maps.has G (KS x) = (expOf ps (hs.drop m) x).2 ∧ ((expOf ps (hs.drop m) x).2 = true → ∀ z, G.atKey (KS x) z = VS (expOf ps (hs.drop m) x).1)) := by
          show ∀ x, _; intro x; rw [HG.out]; exact exp_law ps x _
        go_wp2_with fail
        go_loopw [15, 16] (fun pr j wr => ∃ t : Nat, t ≤ n ∧ j = .int .i64 t ∧ pr = .int .i64 (present l (fun x => Maps.has G (KS x)) t) ∧ Below w9.heap.size w9 wr) (fun _ j _ => n - (intOf j).toNat)
        case atStart => exact ⟨0, Nat.zero_le _, rfl, rfl, Below.refl _ _⟩
        case round =>
          obtain ⟨t, ht, rfl, rfl, hb10⟩ := hrel
          have hb10' := hb9'.trans (hb10.mono hb9'.size)
          have hple := present_le l (fun x => Maps.has G (KS x)) t
          by_cases htn : t < n
          · have hln := Hln.out
            have hv10 := ownsRow_below hv hb10
            obtain ⟨g, cap', hvv, _, hg⟩ := hv10.form (by omega)
            obtain ⟨rfl, rfl⟩ : a = some ⟨g, 0, none⟩ ∧ cap = cap' := by simpa using hvv
            have e0 := hv10.cellAt t (by omega)
            have e1 : (strsOf l)[t]? = some (.string l[t]) := by simp [strsOf, List.getElem?_eq_getElem (show t < l.length by omega)]
            rw [e1] at e0
            obtain ⟨x, hx⟩ : ∃ x, x = l[t] := ⟨_, rfl⟩
            have hxs : x.size ≤ maxLen := by rw [hx]; exact hfl _ (List.getElem_mem _)
            rw [← hx] at e0
            have Hx : Hid (l[t]? = some x) := by show _ = _; rw [hx, List.getElem?_eq_getElem (show t < l.length by omega)]
            have hti : (t : Int) < (n : Int) := by omega
            clear e1 hvv hx hln
            have hexp := expected_any (cap0 := cap0) (cap1 := cap1) (h0.below hb10') (h1.below hb10') hl0 hl1 m x
            obtain ⟨hp1, hp2⟩ := HP.out x
            obtain ⟨E, hE⟩ : ∃ E, E = expOf ps (hs.drop m) x := ⟨_, rfl⟩
            rw [← hE] at hexp hp1 hp2
            clear hE
            obtain ⟨es, eb⟩ := E
            simp only at hexp hp1 hp2
            have Hp1 : Hid (Maps.has G (KS x) = eb) := hp1
            clear hp1
            go_wp2_with fail
            refine hexp.mono ?_
            rintro e w11 ⟨rfl, hb11⟩
            clear hexp
            have hb11' := hb10.trans (hb11.mono hb10.size)
            obtain ⟨_, _, hM11, _⟩ := hbd9.below hb11'
            obtain ⟨sx, hlk, hat, _⟩ := look_str' hM11 hxs
            rw [Hp1.out] at hlk
            clear hM11
            cases eb
            · have Hg : Hid (good l (fun x => Maps.has G (KS x)) t = false) := by show _ = _; unfold good; rw [Hx.out]; simp [Hp1.out]
              clear hat hp2
              go_wp2_with fail
              go_roundw
              case rel => exact ⟨t + 1, by omega, by go_num, by rw [present_succ, Hg.out]; rfl, hb11'⟩
              case measure => simp [intOf]; omega
            · have hsx : sx = es := bytes_inj (by have := hp2 rfl (VS ⟨#[]⟩); rw [hat] at this; simpa [VS] using this)
              subst hsx
              clear hat hp2
              have hv11 := ownsRow_below hv hb11'
              go_wp2_with fail
              refine (first_any hv11 x (by omega)).mono ?_
              rintro e w12 ⟨rfl, hw⟩
              rw [hw]; clear hw
              by_cases hfi : firstIdx l x = t
              · have Hg : Hid (good l (fun x => Maps.has G (KS x)) t = true) := by show _ = _; unfold good; rw [Hx.out]; simp [Hp1.out, hfi]
                have hfb : ((firstIdx l x : Int) == (t : Int)) = true := beq_iff_eq.2 (by omega)
                clear hfi
                go_wp2_with fail
                go_roundw
                case rel => exact ⟨t + 1, by omega, by go_num, by rw [present_succ, Hg.out]; go_num, hb11'⟩
                case measure => simp [intOf]; omega
              · have Hg : Hid (good l (fun x => Maps.has G (KS x)) t = false) := by show _ = _; unfold good; rw [Hx.out]; simp [hfi]
                have hfb : ((firstIdx l x : Int) == (t : Int)) = false := beq_eq_false_iff_ne.2 (by omega)
                clear hfi
                go_wp2_with fail
                go_roundw
                case rel => exact ⟨t + 1, by omega, by go_num, by rw [present_succ, Hg.out]; rfl, hb11'⟩
                case measure => simp [intOf]; omega
          · have hsz : Maps.size G = present l (fun x => Maps.has G (KS x)) t := by
              have h3 := size_present hbd9.canon (l := l) (fun k hk => by rw [HG.out] at hk; rw [HL.out]; exact has_keys hk)
              rw [h3, show t = l.length from by have := Hln.out; omega]
            have HS : Hid (Maps.size G = present l (fun x => Maps.has G (KS x)) t) := hsz
            clear hsz
            obtain ⟨_, _, hM, _⟩ := hbd9.below hb10
            have l1 := fun ty => hM.len Try.underlying37 ty
            go_wp2_with fail
            go_ret
            exact ⟨by rw [HS.out]; simp, hb10'⟩
end Go.Proofs.Qxb6601864a.bd
