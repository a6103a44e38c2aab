import Derived.Test.Qxb6600526aWl
namespace Go.Proofs.Qxb6600526a
open Go.RowKit P6

theorem own_shape2 {w : World} {B : Nat} {v : Value} {o : List Nat} (h : Own w B v o) {n : Nat} (hn : o.length = n) (h0 : 0 < n) : ∃ g cap, v = .slice (some ⟨g, 0, none⟩) n cap := by
  subst hn; exact own_shape h h0
theorem cells_two {W : World} {a b : Value} {T : TypeId} : ∀ (j : Nat) (u : Value), [a, b][j]? = some u → (W.alloc (.cells #[a, b] T)).cell? ((⟨W.heap.size, 0, none⟩ : Addr).add j) = some u := by
  intro j u hj
  rw [Addr.add_mid, Nat.zero_add]
  have hj2 : j < 2 := by have := (List.getElem?_eq_some_iff.1 hj).1; simpa using this
  rcases (by omega : j = 0 ∨ j = 1) with rfl | rfl
  · simp at hj; subst hj; simp
  · simp at hj; subst hj; simp
theorem cells_four {W : World} {a b c d : Value} {T : TypeId} {N : Nat} (hN : N = W.heap.size) : ∀ (j : Nat) (u : Value), [a, b, c, d][j]? = some u → (W.alloc (.cells #[a, b, c, d] T)).cell? ((⟨N, 0, none⟩ : Addr).add j) = some u := by
  subst hN
  intro j u hj
  rw [Addr.add_mid, Nat.zero_add]
  have hj2 : j < 4 := by have := (List.getElem?_eq_some_iff.1 hj).1; simpa using this
  rcases (by omega : j = 0 ∨ j = 1 ∨ j = 2 ∨ j = 3) with rfl | rfl | rfl | rfl
  · simp at hj; subst hj; simp
  · simp at hj; subst hj; simp
  · simp at hj; subst hj; simp
  · simp at hj; subst hj; simp

theorem own_four {w1 w' : World} {G : Nat → Nat} (hb : Below w1.heap.size w1 w') : Below w1.heap.size w1 ((w'.alloc (.cells #[.int .u8 (G 0 : Nat), .int .u8 (G 1 : Nat), .int .u8 (G 2 : Nat), .int .u8 (G 3 : Nat)] 63)).alloc (.cells #[.int .u8 (G 0 : Nat), .int .u8 (G 1 : Nat), .int .u8 (G 2 : Nat), .int .u8 (G 3 : Nat)] 5)) :=
  (hb.alloc hb.size _).alloc (by rw [size_alloc]; have := hb.size; omega) _

set_option maxRecDepth 100000 in
set_option maxHeartbeats 4000000 in
theorem side_any (s : ByteArray) (last : Bool) (w : World) (hs : s.size ≤ 65536) (x : Option (List Nat)) (hx : side (L s) last = x) :
    Calls Try.prog 37 #[.string s, .bool last] w fun e w' => SaidS x w e w' := by
  obtain ⟨i0, hi0, hz0, hz1, hz2⟩ := info_parts info5
  by_cases hE : s.size = 0
  · have e : x = some [] := by rw [← hx, size_zero hE]; rfl
    obtain rfl := size_zero hE
    go_enter Try.func37, Try.ntmps37
    go_wp2
    go_ret2
    exact saidS_some e (Below.refl _ _) (World.ownsRow_nil _ _ _ _)
  · have hE1 := list_isEmpty (s := s) (by omega)
    have hE2 := list_empty (s := s) (by omega)
    have hx2 : sd last [] (spl 58 (L s)) = x := by rw [← hx, side, if_neg (nonempty_L hE)]
    clear hx
    go_enter Try.func37, Try.ntmps37
    go_wp2_with fail
    go_loopw [6, 7, 8] (fun v6 v7 v8 wr => ∃ (st i : Nat) (o : List Nat), v7 = .int .i64 st ∧ v8 = .int .i64 i ∧ st ≤ i ∧ i ≤ s.size + 1 ∧ Hid (S6 x last w wr (L s) v6 st i o)) (fun _ _ v8 _ => ((s.size : Int) + 1 - intOf v8).toNat)
    case atStart => exact ⟨0, 0, [], rfl, rfl, by omega, by omega, hide ⟨clr_start, by simp, by rw [from_start]; exact hx2, Below.refl _ _, World.ownsRow_nil _ _ _ _⟩⟩
    case round =>
      obtain ⟨st, i, o, rfl, rfl, hst, hi, hS⟩ := hrel
      rename World => w1
      clear hx2
      have hlen := (unhide hS).len
      by_cases hend : i = s.size + 1
      · have e := hide (s6_end (unhide hS) hend)
        go_wp2_with fail
        go_ret2
        exact saidS_some (unhide e) (unhide hS).bel (unhide hS).own
      · have hi' : i ≤ s.size := by omega
        by_cases hsc : ∃ hlt : i < s.size, s[i].toNat ≠ 58
        · obtain ⟨hlt, h58⟩ := hsc
          have h58b : ((s[i].toNat : Int) != 58) = true := by simp; omega
          have hD2 := hide (s6_scan (unhide hS) hlt h58)
          go_wp2_with fail
          go_roundw
          case rel => exact ⟨st, i + 1, o, by simp, by simp, by omega, by omega, hD2⟩
          case measure => simp [intOf]; omega
        · have hcutb : Hid (∀ hlt : i < s.size, s[i].toNat = 58) := hide (fun hlt => Classical.byContradiction fun h => hsc ⟨hlt, h⟩)
          clear hsc
          obtain ⟨f, hf⟩ : ∃ f, s.extract st i = f := ⟨_, rfl⟩
          have hfs : f.size ≤ 65536 := by rw [← hf]; simp; omega
          have hfm : f.size ≤ maxLen := by unfold maxLen; omega
          cases hB : hasX 46 (L f) with
          | true =>
            have hcB := hasByte_any f w1 hfm true hB
            by_cases hl2 : i = s.size ∧ last = true
            · obtain ⟨hie, hlt⟩ := hl2
              subst hie
              subst hlt
              have hfd : Hid (fieldB (L (s.extract st s.size)) (true && decide (s.size = s.size)) = dq 0 (spl 46 (L f))) := hide (by rw [hf, field_dot hB]; simp)
              cases hq : dq 0 (spl 46 (L f)) with
              | none =>
                have hN := hide (s6_bad (unhide hS) hi' (unhide hcutb) (by rw [unhide hfd, hq]))
                have hc := dottedQuad_any f w1 hfs none hq
                go_wp2_with (first | (go_at_call 47; refine hcB.mono ?_; rintro e' w' ⟨rfl, hw'⟩; have hw2 := hw'.symm; subst hw2) | (go_at_call 48; refine hc.mono ?_; rintro e' w' ⟨G, rfl, hbw, -⟩; unfold arr4))
                go_ret2
                exact saidS_none (unhide hN) (Below.alloc ((unhide hS).bel.trans (hbw.mono (unhide hS).bel.size)) (Nat.le_trans (unhide hS).bel.size hbw.size) _)
              | some q =>
                have hq4 : Hid (q.length = 4) := hide (by rw [← p4_quad] at hq; exact p4_len _ _ _ _ hq)
                have hown := hide (unhide hS).own
                have hc := dottedQuad_any f w1 hfs (some q) hq
                by_cases hl : 16 < o.length + 4
                · have hN := hide (s6_long (unhide hS) hi' (unhide hcutb) (by rw [unhide hfd, hq]) (by rw [List.length_append, unhide hq4]; exact hl))
                  go_wp2_with (first | (go_at_call 47; refine hcB.mono ?_; rintro e' w' ⟨rfl, hw'⟩; have hw2 := hw'.symm; subst hw2) | (go_at_call 48; refine hc.mono ?_; rintro e' w' ⟨G, rfl, hbw, hGq⟩; obtain hql := hide (quad_list (unhide hq4) (hGq q rfl)); clear hGq; have hwW := hide (own_four hbw (G := G)); have hsz := hide hbw.size; clear hbw; unfold arr4) | (at_builtin; refine wpList_append_own _ rfl (.tmp 54) (.tmp 63) 25 rfl w.heap.size 5 i0 (.int .u8 0) 1 1 Try.underlying25 hi0 hz0 hz1 hz2 rfl (by decide) _ _ _ rfl (own_below (unhide hown) (unhide hwW)) ⟨w'.heap.size + 1, 0, none⟩ 4 4 (vals [G 0, G 1, G 2, G 3]) rfl rfl (cells_four (size_alloc _ _).symm) (vals_one _) (by unfold maxLen; omega) (by omega) (by rw [size_alloc, size_alloc]; have := (unhide hS).bel.size; have := unhide hsz; omega) ?_; intro v' w4 hown' hgrow' _; have hA := hide (own_append (q := [G 0, G 1, G 2, G 3]) (unhide hown) (unhide hS).bel (unhide hwW) rfl hown' hgrow'); clear hown' hgrow'; obtain ⟨g, cap, rfl⟩ := own_shape2 (unhide hA).2 (n := o.length + 4) (by simp) (by omega)))
                  go_ret2
                  exact saidS_none (unhide hN) (unhide hA).1
                · have hNX : Hid (∀ wr' v', (Below w.heap.size w wr' ∧ Own wr' w.heap.size v' (o ++ q)) → S6 x true w wr' (L s) v' (s.size + 1) (s.size + 1) (o ++ q)) := hide (fun wr' v' h => s6_next (unhide hS) hi' (unhide hcutb) (by rw [unhide hfd, hq]) (by rw [List.length_append, unhide hq4]; exact hl) h)
                  go_wp2_with (first | (go_at_call 47; refine hcB.mono ?_; rintro e' w' ⟨rfl, hw'⟩; have hw2 := hw'.symm; subst hw2) | (go_at_call 48; refine hc.mono ?_; rintro e' w' ⟨G, rfl, hbw, hGq⟩; obtain hql := hide (quad_list (unhide hq4) (hGq q rfl)); clear hGq; have hwW := hide (own_four hbw (G := G)); have hsz := hide hbw.size; clear hbw; unfold arr4) | (at_builtin; refine wpList_append_own _ rfl (.tmp 54) (.tmp 63) 25 rfl w.heap.size 5 i0 (.int .u8 0) 1 1 Try.underlying25 hi0 hz0 hz1 hz2 rfl (by decide) _ _ _ rfl (own_below (unhide hown) (unhide hwW)) ⟨w'.heap.size + 1, 0, none⟩ 4 4 (vals [G 0, G 1, G 2, G 3]) rfl rfl (cells_four (size_alloc _ _).symm) (vals_one _) (by unfold maxLen; omega) (by omega) (by rw [size_alloc, size_alloc]; have := (unhide hS).bel.size; have := unhide hsz; omega) ?_; intro v' w4 hown' hgrow' _; have hA := hide (own_append (q := [G 0, G 1, G 2, G 3]) (unhide hown) (unhide hS).bel (unhide hwW) rfl hown' hgrow'); clear hown' hgrow'; obtain ⟨g, cap, rfl⟩ := own_shape2 (unhide hA).2 (n := o.length + 4) (by simp) (by omega)))
                  have hR := hide (unhide hNX _ _ (by rw [unhide hql]; exact unhide hA))
                  go_roundw
                  case rel => exact ⟨s.size + 1, s.size + 1, _, by simp, by simp, by omega, by omega, hR⟩
                  case measure => simp [intOf]
            · have hfd : Hid (fieldB (L (s.extract st i)) (last && decide (i = s.size)) = none) := hide (by
                rw [hf, field_dot hB]
                by_cases h1 : i = s.size
                · have h2 : last = false := by cases last; rfl; exact absurd ⟨h1, rfl⟩ hl2
                  rw [h2]; rfl
                · rw [decide_eq_false h1, Bool.and_false]; rfl)
              have hN := hide (s6_bad (unhide hS) hi' (unhide hcutb) (unhide hfd))
              by_cases hlt : i < s.size
              · have h58b : ((s[i].toNat : Int) != 58) = false := by simp [unhide hcutb hlt]
                have hne : ((i : Int) != (s.size : Int)) = true := by simp; omega
                clear hl2
                go_wp2_with (first | (go_at_call 47; refine hcB.mono ?_; rintro e' w' ⟨rfl, hw'⟩; have hw2 := hw'.symm; subst hw2))
                go_ret2
                exact saidS_none (unhide hN) (unhide hS).bel
              · obtain rfl : i = s.size := by omega
                obtain rfl : last = false := by cases last; rfl; exact absurd ⟨rfl, rfl⟩ hl2
                clear hl2
                go_wp2_with (first | (go_at_call 47; refine hcB.mono ?_; rintro e' w' ⟨rfl, hw'⟩; have hw2 := hw'.symm; subst hw2))
                go_ret2
                exact saidS_none (unhide hN) (unhide hS).bel
          | false =>
            have hfd : Hid (fieldB (L (s.extract st i)) (last && decide (i = s.size)) = (hexF (L f)).map fun v => [v / 256, v % 256]) := hide (by rw [hf]; exact field_hex hB)
            have hcB := hasByte_any f w1 hfm false hB
            cases hv : hexF (L f) with
            | none =>
              have hN := hide (s6_bad (unhide hS) hi' (unhide hcutb) (by rw [unhide hfd, hv]; rfl))
              have hc := hexField_any f w1 hfm none hv
              by_cases hlt : i < s.size
              · have h58b : ((s[i].toNat : Int) != 58) = false := by simp [unhide hcutb hlt]
                go_wp2_with (first | (go_at_call 47; refine hcB.mono ?_; rintro e' w' ⟨rfl, hw'⟩; have hw2 := hw'.symm; subst hw2) | (go_at_call 49; refine hc.mono ?_; rintro e' w' ⟨rfl, hw'⟩; have hw2 := hw'.symm; subst hw2; unfold hexAns))
                go_ret2
                exact saidS_none (unhide hN) (unhide hS).bel
              · go_wp2_with (first | (go_at_call 47; refine hcB.mono ?_; rintro e' w' ⟨rfl, hw'⟩; have hw2 := hw'.symm; subst hw2) | (go_at_call 49; refine hc.mono ?_; rintro e' w' ⟨rfl, hw'⟩; have hw2 := hw'.symm; subst hw2; unfold hexAns))
                go_ret2
                exact saidS_none (unhide hN) (unhide hS).bel
            | some a =>
              have ha := hexF_lt hv
              have hc := hexField_any f w1 hfm (some a) hv
              have hown := hide (unhide hS).own
              have hwW : Hid (Below w1.heap.size w1 (w1.alloc (.cells #[.int .u8 ((a : Int) / 256), .int .u8 ((a : Int) % 256)] 5))) := hide (Below.alloc (Below.refl _ _) (Nat.le_refl _) _)
              by_cases hlt : i < s.size
              · have h58b : ((s[i].toNat : Int) != 58) = false := by simp [unhide hcutb hlt]
                by_cases hl : 16 < o.length + 2
                · have hN := hide (s6_long (unhide hS) hi' (unhide hcutb) (by rw [unhide hfd, hv]; rfl) (by simpa using hl))
                  go_wp2_with (first | (go_at_call 47; refine hcB.mono ?_; rintro e' w' ⟨rfl, hw'⟩; have hw2 := hw'.symm; subst hw2) | (go_at_call 49; refine hc.mono ?_; rintro e' w' ⟨rfl, hw'⟩; have hw2 := hw'.symm; subst hw2; unfold hexAns) | (at_builtin; refine wpList_append_own _ rfl (.tmp 72) (.tmp 78) 25 rfl w.heap.size 5 i0 (.int .u8 0) 1 1 Try.underlying25 hi0 hz0 hz1 hz2 rfl (by decide) _ _ _ rfl (own_below (unhide hown) (unhide hwW)) ⟨w1.heap.size, 0, none⟩ 2 2 (vals [a / 256, a % 256]) rfl rfl cells_two (vals_one _) (by unfold maxLen; omega) (by omega) (by rw [size_alloc]; have := (unhide hS).bel.size; omega) ?_; intro v' w4 hown' hgrow' _; have hA := hide (own_append (q := [a / 256, a % 256]) (unhide hown) (unhide hS).bel (unhide hwW) rfl hown' hgrow'); clear hown' hgrow'; obtain ⟨g, cap, rfl⟩ := own_shape2 (unhide hA).2 (n := o.length + 2) (by simp) (by omega)))
                  go_ret2
                  exact saidS_none (unhide hN) (unhide hA).1
                · go_wp2_with (first | (go_at_call 47; refine hcB.mono ?_; rintro e' w' ⟨rfl, hw'⟩; have hw2 := hw'.symm; subst hw2) | (go_at_call 49; refine hc.mono ?_; rintro e' w' ⟨rfl, hw'⟩; have hw2 := hw'.symm; subst hw2; unfold hexAns) | (at_builtin; refine wpList_append_own _ rfl (.tmp 72) (.tmp 78) 25 rfl w.heap.size 5 i0 (.int .u8 0) 1 1 Try.underlying25 hi0 hz0 hz1 hz2 rfl (by decide) _ _ _ rfl (own_below (unhide hown) (unhide hwW)) ⟨w1.heap.size, 0, none⟩ 2 2 (vals [a / 256, a % 256]) rfl rfl cells_two (vals_one _) (by unfold maxLen; omega) (by omega) (by rw [size_alloc]; have := (unhide hS).bel.size; omega) ?_; intro v' w4 hown' hgrow' _; have hA := hide (own_append (q := [a / 256, a % 256]) (unhide hown) (unhide hS).bel (unhide hwW) rfl hown' hgrow'); clear hown' hgrow'; obtain ⟨g, cap, rfl⟩ := own_shape2 (unhide hA).2 (n := o.length + 2) (by simp) (by omega)))
                  have hR := hide (s6_next (unhide hS) hi' (unhide hcutb) (by rw [unhide hfd, hv]; rfl) (by simpa using hl) (unhide hA))
                  go_roundw
                  case rel => exact ⟨i + 1, i + 1, _, by simp, by simp, by omega, by omega, hR⟩
                  case measure => simp [intOf]; omega
              · by_cases hl : 16 < o.length + 2
                · have hN := hide (s6_long (unhide hS) hi' (unhide hcutb) (by rw [unhide hfd, hv]; rfl) (by simpa using hl))
                  go_wp2_with (first | (go_at_call 47; refine hcB.mono ?_; rintro e' w' ⟨rfl, hw'⟩; have hw2 := hw'.symm; subst hw2) | (go_at_call 49; refine hc.mono ?_; rintro e' w' ⟨rfl, hw'⟩; have hw2 := hw'.symm; subst hw2; unfold hexAns) | (at_builtin; refine wpList_append_own _ rfl (.tmp 72) (.tmp 78) 25 rfl w.heap.size 5 i0 (.int .u8 0) 1 1 Try.underlying25 hi0 hz0 hz1 hz2 rfl (by decide) _ _ _ rfl (own_below (unhide hown) (unhide hwW)) ⟨w1.heap.size, 0, none⟩ 2 2 (vals [a / 256, a % 256]) rfl rfl cells_two (vals_one _) (by unfold maxLen; omega) (by omega) (by rw [size_alloc]; have := (unhide hS).bel.size; omega) ?_; intro v' w4 hown' hgrow' _; have hA := hide (own_append (q := [a / 256, a % 256]) (unhide hown) (unhide hS).bel (unhide hwW) rfl hown' hgrow'); clear hown' hgrow'; obtain ⟨g, cap, rfl⟩ := own_shape2 (unhide hA).2 (n := o.length + 2) (by simp) (by omega)))
                  go_ret2
                  exact saidS_none (unhide hN) (unhide hA).1
                · go_wp2_with (first | (go_at_call 47; refine hcB.mono ?_; rintro e' w' ⟨rfl, hw'⟩; have hw2 := hw'.symm; subst hw2) | (go_at_call 49; refine hc.mono ?_; rintro e' w' ⟨rfl, hw'⟩; have hw2 := hw'.symm; subst hw2; unfold hexAns) | (at_builtin; refine wpList_append_own _ rfl (.tmp 72) (.tmp 78) 25 rfl w.heap.size 5 i0 (.int .u8 0) 1 1 Try.underlying25 hi0 hz0 hz1 hz2 rfl (by decide) _ _ _ rfl (own_below (unhide hown) (unhide hwW)) ⟨w1.heap.size, 0, none⟩ 2 2 (vals [a / 256, a % 256]) rfl rfl cells_two (vals_one _) (by unfold maxLen; omega) (by omega) (by rw [size_alloc]; have := (unhide hS).bel.size; omega) ?_; intro v' w4 hown' hgrow' _; have hA := hide (own_append (q := [a / 256, a % 256]) (unhide hown) (unhide hS).bel (unhide hwW) rfl hown' hgrow'); clear hown' hgrow'; obtain ⟨g, cap, rfl⟩ := own_shape2 (unhide hA).2 (n := o.length + 2) (by simp) (by omega)))
                  have hR := hide (s6_next (unhide hS) hi' (unhide hcutb) (by rw [unhide hfd, hv]; rfl) (by simpa using hl) (unhide hA))
                  go_roundw
                  case rel => exact ⟨i + 1, i + 1, _, by simp, by simp, by omega, by omega, hR⟩
                  case measure => simp [intOf]; omega
end Go.Proofs.Qxb6600526a
