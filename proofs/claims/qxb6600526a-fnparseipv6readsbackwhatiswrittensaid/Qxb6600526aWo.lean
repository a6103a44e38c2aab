import Derived.Test.Qxb6600526aWn
import Derived.Deep.CutBlock
namespace Go.Proofs.Qxb6600526a
open Go.RowKit P6

theorem fill_some {x : Option (List Nat)} {o : List Nat} (h : x = if o.length = 16 then some o else none) (ho : o.length = 16) : x = some o := by rw [h, if_pos ho]
theorem fill_none {x : Option (List Nat)} {o : List Nat} (h : x = if o.length = 16 then some o else none) (ho : ¬ o.length = 16) : x = none := by rw [h, if_neg ho]

theorem gap_final {a b : List Nat} {G : Nat → Nat} (hab : a.length + b.length ≤ 14) (hG : ∀ j, G j = if 16 - b.length ≤ j ∧ j < 16 - b.length + b.length then b.getD (j - (16 - b.length)) 0 else if j < a.length then a.getD j 0 else 0) :
    ∀ j, j < 16 → G j = (a ++ List.replicate (16 - a.length - b.length) 0 ++ b).getD j 0 := by
  intro j hj
  rw [hG j]
  have hR : (a ++ List.replicate (16 - a.length - b.length) 0).length = 16 - b.length := by simp; omega
  simp only [List.getD_eq_getElem?_getD]
  by_cases h1 : j < a.length
  · rw [if_neg (by omega), if_pos h1, List.append_assoc, List.getElem?_append_left h1]
  · by_cases h2 : j < 16 - b.length
    · rw [if_neg (by omega), if_neg h1, List.getElem?_append_left (by omega), List.getElem?_append_right (by omega), List.getElem?_replicate, if_pos (by omega)]
      rfl
    · rw [if_pos (by omega), List.getElem?_append_right (by omega), hR]
theorem left_step {a : List Nat} {G : Nat → Nat} {i y : Nat} (hi : i < a.length) (hy : a.getD i 0 = y) (hG : ∀ j, G j = if j < i then a.getD j 0 else 0) : ∀ j, (if j = i then y else G j) = if j < i + 1 then a.getD j 0 else 0 := by
  intro j
  by_cases h : j = i
  · subst h; rw [if_pos rfl, if_pos (by omega), hy]
  · rw [if_neg h, hG j]
    by_cases h2 : j < i
    · rw [if_pos h2, if_pos (by omega)]
    · rw [if_neg h2, if_neg (by omega)]
theorem right_step {a b : List Nat} {G : Nat → Nat} {i m y n : Nat} (hm : m = n + i) (hy : b.getD i 0 = y) (hG : ∀ j, G j = if n ≤ j ∧ j < n + i then b.getD (j - n) 0 else if j < a.length then a.getD j 0 else 0) :
    ∀ j, (if j = m then y else G j) = if n ≤ j ∧ j < n + (i + 1) then b.getD (j - n) 0 else if j < a.length then a.getD j 0 else 0 := by
  intro j
  by_cases h : j = m
  · subst h; rw [if_pos rfl, if_pos (by omega), ← hy]; congr 1; omega
  · rw [if_neg h, hG j]
    by_cases h2 : n ≤ j ∧ j < n + i
    · rw [if_pos h2, if_pos (by omega)]
    · rw [if_neg h2, if_neg (show ¬ (n ≤ j ∧ j < n + (i + 1)) by omega)]
theorem both_some {x : Option (List Nat)} {a b : List Nat} (h : x = if 14 < a.length + b.length then none else some (a ++ List.replicate (16 - a.length - b.length) 0 ++ b)) (h2 : ¬ 14 < a.length + b.length) : x = some (a ++ List.replicate (16 - a.length - b.length) 0 ++ b) := by rw [h, if_neg h2]
theorem both_none {x : Option (List Nat)} {a b : List Nat} (h : x = if 14 < a.length + b.length then none else some (a ++ List.replicate (16 - a.length - b.length) 0 ++ b)) (h2 : 14 < a.length + b.length) : x = none := by rw [h, if_pos h2]

/-- The store into the result's block; the world behind it by what it holds. -/
theorem store16w {ops : Array Oper} {rest : List Oper} {op : Oper} {a : Act} {w w0 : World} {Q : Exit → Act → World → Prop} {b B : Nat} {t : TypeId} {F G : Nat → Nat} {y : Operand} (hgd : op.guard = none) (ho : op.op = .store 39 (.tmp 2) y)
    (hx : a.eval (.tmp 2) = .pointer (some ⟨b, 0, none⟩)) (hy : a.eval y = .agg (arr G)) (hB : Bytes w b t 16 F) (hb : Below B w0 w) (hbb : B ≤ b) (h : ∀ w', Hid (Bytes w' b t 16 G) → Hid (Below B w0 w') → wpList Try.prog ops Q rest (a.put op.dst undef) w') : wpList Try.prog ops Q (op :: rest) a w :=
  store16 hgd ho hx hy hB (h _ (bytes_put16 hB) (below_put16 hb hbb))

set_option maxRecDepth 100000 in
set_option maxHeartbeats 4000000 in
theorem model_any (s : ByteArray) (w : World) (hs : s.size ≤ 65536) (x : Option (List Nat)) (hx : model (L s) = x) :
    Calls Try.prog 28 #[.string s] w fun e w' => Said6 x w.heap.size w e w' := by
  have hsm : s.size ≤ maxLen := by unfold maxLen; omega
  have hM := hide (m0_start w)
  go_enter Try.func28, Try.ntmps28
  go_wp2_with fail
  generalize hW : (w.alloc (.cells #[.int .u8 0, .int .u8 0, .int .u8 0, .int .u8 0, .int .u8 0, .int .u8 0, .int .u8 0, .int .u8 0, .int .u8 0, .int .u8 0, .int .u8 0, .int .u8 0, .int .u8 0, .int .u8 0, .int .u8 0, .int .u8 0] 39)).alloc (.cells #[.int .u8 0, .int .u8 0, .int .u8 0, .int .u8 0, .int .u8 0, .int .u8 0, .int .u8 0, .int .u8 0, .int .u8 0, .int .u8 0, .int .u8 0, .int .u8 0, .int .u8 0, .int .u8 0, .int .u8 0, .int .u8 0] 39) = w2 at hM ⊢
  clear hW
  obtain ⟨G0, hG0, hM⟩ : ∃ G0 : Nat → Nat, Hid (∀ j, G0 j = 0) ∧ Hid (M0 w w2 G0) := ⟨_, fun _ => rfl, hM⟩
  cases hc : cut2 (L s) with
  | none =>
    refine (index2_any s w2 hsm (-1) (idx_none hc)).mono ?_
    rintro e' w' ⟨rfl, hw'⟩
    have hw2 := hw'.symm
    subst hw2
    cases hsd : side (L s) true with
    | none =>
      have hN := hide (m_side_none hx hc hsd)
      have hcs := side_any s true w2 hs none hsd
      go_wp2_with (first | (go_at_call 37; refine hcs.mono ?_; rintro e' w' ⟨v, rfl, hb, -⟩; have hM' := hide (m0_below (unhide hM) hb); clear hb) | refine load16 rfl rfl rfl (unhide hM').out ?_ | (refine store16w rfl rfl rfl rfl (unhide hM').res (unhide hM').bel (Nat.le_refl _) ?_; intro w5 hB5 hb5))
      refine bodyPost_ret (results28 (unhide hB5) _ rfl) rfl ?_
      exact said_none (unhide hN) (unhide hb5)
    | some o =>
      have hcs := side_any s true w2 hs (some o) hsd
      have hol := side_len hsd
      have hX := hide (m_side_some hx hc hsd)
      by_cases ho : o.length = 16
      · have hN := hide (fill_some (unhide hX) ho)
        go_wp2_with (first | (go_at_call 37; refine hcs.mono ?_; rintro e' w' ⟨v, rfl, hb, hO⟩; have hM' := hide (m0_below (unhide hM) hb); have hO' := hide (hO o rfl); clear hb hO; obtain ⟨g, cap, rfl⟩ := own_shape2 (unhide hO') ho (by omega)) | refine load16 rfl rfl rfl (unhide hM').out ?_ | (refine store16w rfl rfl rfl rfl (unhide hM').res (unhide hM').bel (Nat.le_refl _) ?_; intro w5 hB5 hb5))
        go_loopw [8] (fun v8 wr => ∃ (i : Nat) (G : Nat → Nat), v8 = .int .i64 i ∧ i ≤ 16 ∧ Hid (M0 w wr G) ∧ Hid (∀ j, j < i → G j = o.getD j 0) ∧ Hid (Own wr w2.heap.size (.slice (some ⟨g, 0, none⟩) 16 cap) o)) (fun v8 _ => (16 - intOf v8).toNat)
        case atStart => exact ⟨0, G0, rfl, by omega, hM', hide (fun j hj => by omega), hO'⟩
        case round =>
          obtain ⟨i, G, rfl, hi, hM1, hG1, hO1⟩ := hrel
          clear hM' hO'
          rename World => w1
          by_cases hlt : i < 16
          · obtain ⟨y, hy⟩ : ∃ y, Hid (o.getD i 0 = y) := ⟨_, rfl⟩
            have hc1 : w1.cell? ⟨g, i, none⟩ = some (.int .u8 (y : Nat)) := by rw [own_cell (unhide hO1) (by omega), unhide hy]
            have hc2 : w1.cell? ⟨w.heap.size + 1, i, none⟩ = some (.int .u8 (G i : Nat)) := World.rowIs.cell (unhide hM1).out hlt
            have hf2 : w1.frozen? ⟨w.heap.size + 1, i, none⟩ = false := World.rowIs.frozen (unhide hM1).out _
            have hM2 := hide (m0_set (i := i) (v := y) (unhide hM1) rfl)
            have hO2 := hide (own_other (i := i) (u := .int .u8 (y : Nat)) (unhide hO1) (b := w.heap.size + 1) (by have := (unhide hM).big; omega))
            go_wp2_with fail
            go_roundw
            case rel => exact ⟨i + 1, _, by simp, by omega, hM2, hide (fun j hj => by by_cases e : j = i; subst e; simp [← unhide hy]; simp only [if_neg e]; exact unhide hG1 j (by omega)), hO2⟩
            case measure => simp [intOf]; omega
          · go_wp2_with (first | refine load16 rfl rfl rfl (unhide hM1).out ?_ | (refine store16w rfl rfl rfl rfl (unhide hM1).res (unhide hM1).bel (Nat.le_refl _) ?_; intro w5 hB5 hb5))
            refine bodyPost_ret (results28 (unhide hB5) _ rfl) rfl ?_
            exact said_some (unhide hN) (unhide hb5) (fun j hj => unhide hG1 j (by omega))
      · have hN := hide (fill_none (unhide hX) ho)
        have hob : ((o.length : Int) != 16) = true := by simp; omega
        go_wp2_with (first | (go_at_call 37; refine hcs.mono ?_; rintro e' w' ⟨v, rfl, hb, hO⟩; have hM' := hide (m0_below (unhide hM) hb); obtain ⟨ad, cap, rfl, -⟩ := own_open (hO o rfl); clear hb hO) | refine load16 rfl rfl rfl (unhide hM').out ?_ | (refine store16w rfl rfl rfl rfl (unhide hM').res (unhide hM').bel (Nat.le_refl _) ?_; intro w5 hB5 hb5))
        refine bodyPost_ret (results28 (unhide hB5) _ rfl) rfl ?_
        exact said_none (unhide hN) (unhide hb5)
  | some p =>
    obtain ⟨l, r⟩ := p
    obtain ⟨k, hk⟩ : ∃ k : Nat, l.length = k := ⟨_, rfl⟩
    obtain ⟨lf, hlf⟩ : ∃ lf, s.extract 0 k = lf := ⟨_, rfl⟩
    obtain ⟨rt, hrt⟩ : ∃ rt, s.extract (k + 2) s.size = rt := ⟨_, rfl⟩
    obtain ⟨hll, hrr, hk2⟩ : Hid (L lf = l) ∧ Hid (L rt = r) ∧ k + 2 ≤ s.size := by
      have h := left_L hc
      rw [hk, hlf, hrt] at h
      exact h
    have hlfs : lf.size ≤ 65536 := by rw [← hlf]; simp; omega
    have hrts : rt.size ≤ 65536 := by rw [← hrt]; simp; omega
    have hrtm : rt.size ≤ maxLen := by unfold maxLen; omega
    have hi0 : idxFrom 0 (L s) = (k : Int) := by rw [idx_some hc, hk]
    refine (index2_any s w2 hsm k hi0).mono ?_
    clear hk hi0
    rintro e' w' ⟨rfl, hw'⟩
    have hw2 := hw'.symm
    subst hw2
    cases hc2 : cut2 r with
    | some p2 =>
      obtain ⟨l2, r2⟩ := p2
      have hN := hide (m_twice hx hc (by rw [hc2]; rfl))
      have hci := index2_any rt w2 hrtm l2.length (by rw [unhide hrr]; exact idx_some hc2)
      go_wp2_with fail
      refine hci.mono ?_
      rintro e' w' ⟨rfl, hw'⟩
      have hw3 := hw'.symm
      subst hw3
      go_wp2_with (first | refine load16 rfl rfl rfl (unhide hM).out ?_ | (refine store16w rfl rfl rfl rfl (unhide hM).res (unhide hM).bel (Nat.le_refl _) ?_; intro w5 hB5 hb5))
      refine bodyPost_ret (results28 (unhide hB5) _ rfl) rfl ?_
      exact said_none (unhide hN) (unhide hb5)
    | none =>
      have hci := index2_any rt w2 hrtm (-1) (by rw [unhide hrr]; exact idx_none hc2)
      cases hsl : side l false with
      | none =>
        have hN := hide (m_left hx hc hc2 hsl)
        have hcl := side_any lf false w2 hlfs none (by rw [unhide hll]; exact hsl)
        go_wp2_with fail
        refine hci.mono ?_
        rintro e' w' ⟨rfl, hw'⟩
        have hw3 := hw'.symm
        subst hw3
        go_wp2_with fail
        refine hcl.mono ?_
        rintro e' w3 ⟨v, rfl, hb, hO⟩
        have hM3 := hide (m0_below (unhide hM) hb)
        clear hb hO
        go_wp2_with (first | refine load16 rfl rfl rfl (unhide hM3).out ?_ | (refine store16w rfl rfl rfl rfl (unhide hM3).res (unhide hM3).bel (Nat.le_refl _) ?_; intro w5 hB5 hb5))
        refine bodyPost_ret (results28 (unhide hB5) _ rfl) rfl ?_
        exact said_none (unhide hN) (unhide hb5)
      | some a =>
        have hal := side_len hsl
        have hcl := side_any lf false w2 hlfs (some a) (by rw [unhide hll]; exact hsl)
        cases hsr : side r true with
        | none =>
          have hN := hide (m_right hx hc hc2 hsl hsr)
          have hcr := fun w => side_any rt true w hrts none (by rw [unhide hrr]; exact hsr)
          go_wp2_with fail
          refine hci.mono ?_
          rintro e' w' ⟨rfl, hw'⟩
          have hw3 := hw'.symm
          subst hw3
          go_wp2_with fail
          refine hcl.mono ?_
          rintro e' w3 ⟨v, rfl, hb, hO⟩
          have hM3 := hide (m0_below (unhide hM) hb)
          have hO3 := hide (hO a rfl)
          clear hb hO
          obtain ⟨ad, cap, rfl, had⟩ := own_open (unhide hO3)
          replace had := hide had
          go_wp2_with fail
          refine (hcr w3).mono ?_
          rintro e' w4 ⟨v2, rfl, hb, hO⟩
          have hM4 := hide (m0_below (unhide hM3) hb)
          clear hb hO
          go_wp2_with (first | refine load16 rfl rfl rfl (unhide hM4).out ?_ | (refine store16w rfl rfl rfl rfl (unhide hM4).res (unhide hM4).bel (Nat.le_refl _) ?_; intro w5 hB5 hb5))
          refine bodyPost_ret (results28 (unhide hB5) _ rfl) rfl ?_
          exact said_none (unhide hN) (unhide hb5)
        | some b =>
          have hbl := side_len hsr
          have hcr := fun w => side_any rt true w hrts (some b) (by rw [unhide hrr]; exact hsr)
          have hX := hide (m_both hx hc hc2 hsl hsr)
          by_cases h14 : 14 < a.length + b.length
          · have hN := hide (both_none (unhide hX) h14)
            go_wp2_with fail
            refine hci.mono ?_
            rintro e' w' ⟨rfl, hw'⟩
            have hw3 := hw'.symm
            subst hw3
            go_wp2_with fail
            refine hcl.mono ?_
            rintro e' w3 ⟨v, rfl, hb, hO⟩
            have hM3 := hide (m0_below (unhide hM) hb)
            have hO3 := hide (hO a rfl)
            clear hb hO
            obtain ⟨ad, cap, rfl, had⟩ := own_open (unhide hO3)
            replace had := hide had
            go_wp2_with fail
            refine (hcr w3).mono ?_
            rintro e' w4 ⟨v2, rfl, hb, hO⟩
            have hM4 := hide (m0_below (unhide hM3) hb)
            have hO4 := hide (own_below (unhide hO3) hb)
            have hO5 := hide (hO b rfl)
            clear hb hO
            obtain ⟨ad2, cap2, rfl, had2⟩ := own_open (unhide hO5)
            replace had2 := hide had2
            go_wp2_with (first | refine load16 rfl rfl rfl (unhide hM4).out ?_ | (refine store16w rfl rfl rfl rfl (unhide hM4).res (unhide hM4).bel (Nat.le_refl _) ?_; intro w5 hB5 hb5))
            refine bodyPost_ret (results28 (unhide hB5) _ rfl) rfl ?_
            exact said_none (unhide hN) (unhide hb5)
          · have hN := hide (both_some (unhide hX) h14)
            clear hX
            go_wp2_with fail
            refine hci.mono ?_
            rintro e' w' ⟨rfl, hw'⟩
            have hw3 := hw'.symm
            subst hw3
            go_wp2_with fail
            refine hcl.mono ?_
            rintro e' w3 ⟨v, rfl, hb, hO⟩
            have hM3 := hide (m0_below (unhide hM) hb)
            have hO3 := hide (hO a rfl)
            clear hb hO
            obtain ⟨ad, cap, rfl, had⟩ := own_open (unhide hO3)
            replace had := hide had
            go_wp2_with fail
            refine (hcr w3).mono ?_
            rintro e' w4 ⟨v2, rfl, hb, hO⟩
            have hM4 := hide (m0_below (unhide hM3) hb)
            have hO4 := hide (own_below (unhide hO3) hb)
            have hO5 := hide (hO b rfl)
            clear hb hO
            obtain ⟨ad2, cap2, rfl, had2⟩ := own_open (unhide hO5)
            replace had2 := hide had2
            go_wp2_with fail
            go_loopw [15] (fun v15 wr => ∃ (i : Nat) (G : Nat → Nat), v15 = .int .i64 i ∧ i ≤ a.length ∧ Hid (M0 w wr G) ∧ Hid (∀ j, G j = if j < i then a.getD j 0 else 0) ∧ Hid (Own wr w2.heap.size (.slice ad a.length cap) a) ∧ Hid (Own wr w3.heap.size (.slice ad2 b.length cap2) b)) (fun v15 _ => ((a.length : Int) - intOf v15).toNat)
            case atStart => exact ⟨0, G0, rfl, by omega, hM4, hide (fun j => by rw [if_neg (by omega)]; exact unhide hG0 j), hO4, hO5⟩
            case round =>
              obtain ⟨i, G, rfl, hi, hM1, hG1, hO1, hO2⟩ := hrel
              clear hM4 hO4 hO5
              rename World => w1
              by_cases hlt : i < a.length
              · obtain ⟨g, hg, rfl⟩ := unhide had (by omega)
                obtain ⟨y, hy⟩ : ∃ y, Hid (a.getD i 0 = y) := ⟨_, rfl⟩
                have hc1 : w1.cell? ⟨g, i, none⟩ = some (.int .u8 (y : Nat)) := by rw [own_cell (unhide hO1) hlt, unhide hy]
                have hc2 : w1.cell? ⟨w.heap.size + 1, i, none⟩ = some (.int .u8 (G i : Nat)) := World.rowIs.cell (unhide hM1).out (by omega)
                have hf2 : w1.frozen? ⟨w.heap.size + 1, i, none⟩ = false := World.rowIs.frozen (unhide hM1).out _
                have hMn := hide (m0_set (i := i) (v := y) (unhide hM1) rfl)
                have hOn := hide (own_other (i := i) (u := .int .u8 (y : Nat)) (unhide hO1) (b := w.heap.size + 1) (by have := (unhide hM).big; omega))
                have hOm := hide (own_other (i := i) (u := .int .u8 (y : Nat)) (unhide hO2) (b := w.heap.size + 1) (by have := (unhide hM3).big; omega))
                go_wp2_with fail
                go_roundw
                case rel => exact ⟨i + 1, _, by simp, by omega, hMn, hide (left_step hlt (unhide hy) (unhide hG1)), hOn, hOm⟩
                case measure => simp [intOf]; omega
              · have hie : i = a.length := by omega
                subst hie
                go_wp2_with fail
                go_loopw [16] (fun v16 wr => ∃ (i : Nat) (G : Nat → Nat), v16 = .int .i64 i ∧ i ≤ b.length ∧ Hid (M0 w wr G) ∧ Hid (∀ j, G j = if 16 - b.length ≤ j ∧ j < 16 - b.length + i then b.getD (j - (16 - b.length)) 0 else if j < a.length then a.getD j 0 else 0) ∧ Hid (Own wr w3.heap.size (.slice ad2 b.length cap2) b)) (fun v16 _ => ((b.length : Int) - intOf v16).toNat)
                case atStart => exact ⟨0, G, rfl, by omega, hM1, hide (fun j => by rw [if_neg (by omega)]; exact unhide hG1 j), hO2⟩
                case round =>
                  obtain ⟨i, G', rfl, hi', hM2, hG2, hO3'⟩ := hrel
                  rename World => w6
                  by_cases hlt2 : i < b.length
                  · obtain ⟨g, hg, rfl⟩ := unhide had2 (by omega)
                    obtain ⟨y, hy⟩ : ∃ y, Hid (b.getD i 0 = y) := ⟨_, rfl⟩
                    obtain ⟨m, hm⟩ : ∃ m, Hid (m = 16 - b.length + i) := ⟨_, rfl⟩
                    have hmi : (16 : Int) - (b.length : Int) + (i : Int) = (m : Int) := by have := unhide hm; omega
                    have hm16 : m < 16 := by have := unhide hm; omega
                    have hc1 : w6.cell? ⟨g, i, none⟩ = some (.int .u8 (y : Nat)) := by rw [own_cell (unhide hO3') hlt2, unhide hy]
                    have hc2 : w6.cell? ⟨w.heap.size + 1, m, none⟩ = some (.int .u8 (G' m : Nat)) := World.rowIs.cell (unhide hM2).out hm16
                    have hf2 : w6.frozen? ⟨w.heap.size + 1, m, none⟩ = false := World.rowIs.frozen (unhide hM2).out _
                    have hMn := hide (m0_set (i := m) (v := y) (unhide hM2) rfl)
                    have hOm := hide (own_other (i := m) (u := .int .u8 (y : Nat)) (unhide hO3') (b := w.heap.size + 1) (by have := (unhide hM3).big; omega))
                    go_wp2_with fail
                    go_roundw
                    case rel => exact ⟨i + 1, _, by simp, by omega, hMn, hide (right_step (unhide hm) (unhide hy) (unhide hG2)), hOm⟩
                    case measure => simp [intOf]; omega
                  · have hie : i = b.length := by omega
                    subst hie
                    go_wp2_with (first | refine load16 rfl rfl rfl (unhide hM2).out ?_ | (refine store16w rfl rfl rfl rfl (unhide hM2).res (unhide hM2).bel (Nat.le_refl _) ?_; intro w5 hB5 hb5))
                    refine bodyPost_ret (results28 (unhide hB5) _ rfl) rfl ?_
                    exact said_some (unhide hN) (unhide hb5) (gap_final (by omega) (unhide hG2))
end Go.Proofs.Qxb6600526a
