import Derived.Test.Qxb6600526aXa
namespace Go.Proofs.Qxb6600526a
open Go.RowKit P6

/-- appendHexGroup with k digits to go. -/
structure HG (up : Bool) (v : Nat) (o : List Nat) (B : Nat) (w wr : World) (t : Value) (k : Nat) (st : Bool) (o' : List Nat) : Prop where
  txt : o' ++ nums (hxl up v k st) = o ++ nums (hx up v)
  len : o'.length + k ≤ o.length + 4
  bel : Below B w wr
  own : Own wr B t o'
theorem hg_skip {up : Bool} {v : Nat} {o : List Nat} {B : Nat} {w wr : World} {t : Value} {k : Nat} {o' : List Nat} (h : HG up v o B w wr t (k + 1) false o') (hk : 0 < k) (hd : v / 16 ^ k % 16 = 0) : HG up v o B w wr t k false o' := by
  refine ⟨?_, by have := h.len; omega, h.bel, h.own⟩
  have := h.txt
  rw [hxl, if_pos ⟨hd, rfl, hk⟩] at this
  exact this
theorem hg_put {up : Bool} {v : Nat} {o : List Nat} {B : Nat} {w wr wr' : World} {t t' : Value} {k d : Nat} {st : Bool} {o' : List Nat} (h : HG up v o B w wr t (k + 1) st o') (hd : v / 16 ^ k % 16 = d) (hn : ¬ (d = 0 ∧ st = false ∧ 0 < k))
    (hb : Below B w wr' ∧ Own wr' B t' (o' ++ [(ltr d up).toNat])) : HG up v o B w wr' t' k true (o' ++ [(ltr d up).toNat]) := by
  refine ⟨?_, by have := h.len; simp; omega, hb.1, hb.2⟩
  have := h.txt
  rw [hxl, hd, if_neg hn, nums_cons] at this
  rw [← this]; simp

set_option maxRecDepth 100000 in
set_option maxHeartbeats 4000000 in
theorem hexGroup_any (B : Nat) (t : Value) (o : List Nat) (v : Nat) (up : Bool) (w : World) (hown : Own w B t o) (hB : B ≤ w.heap.size) (ho : o.length ≤ 100000) (hv : v < 65536) :
    Calls Try.prog 38 #[t, .int .i64 v, .bool up] w fun e w' => ∃ t', e = .returned t' ∧ Own w' B t' (o ++ nums (hx up v)) ∧ Below B w w' := by
  obtain ⟨i0, hi0, hz0, hz1, hz2⟩ := info_parts info5
  have hown := hide hown
  go_enter Try.func38, Try.ntmps38
  go_wp2_with fail
  go_loopw [0, 7, 8] (fun v0 v7 v8 wr => ∃ (k : Nat) (st : Bool) (o' : List Nat), v7 = .bool st ∧ v8 = .int .i64 (4 * (k : Int) - 4) ∧ k ≤ 4 ∧ Hid (HG up v o B w wr v0 k st o')) (fun _ _ v8 _ => (4 + intOf v8).toNat)
  case atStart => exact ⟨4, false, o, rfl, rfl, by omega, hide ⟨rfl, by omega, Below.refl _ _, unhide hown⟩⟩
  case round =>
    obtain ⟨k, st, o', rfl, rfl, hk, hS⟩ := hrel
    rename World => w1
    have hlen := (unhide hS).len
    by_cases hk0 : k = 0
    · subst hk0
      go_wp2_with fail
      go_ret
      exact ⟨_, rfl, by have h := (unhide hS).own; have e := (unhide hS).txt; rw [hxl, nums_nil, List.append_nil] at e; rw [← e]; exact h, (unhide hS).bel⟩
    · obtain ⟨j, rfl⟩ : ∃ j, k = j + 1 := ⟨k - 1, by omega⟩
      obtain ⟨d, hd⟩ : ∃ d, Hid (v / 16 ^ j % 16 = d) := ⟨_, rfl⟩
      have hd16 : d < 16 := by rw [← unhide hd]; exact Nat.mod_lt _ (by omega)
      have hc := hexLetter_any d up w1 hd16
      rcases (by omega : j = 0 ∨ j = 1 ∨ j = 2 ∨ j = 3) with rfl | rfl | rfl | rfl
      · have hand : bits .and .i64 (v : Int) 15 = (d : Int) := by rw [and15 v hv]; have := unhide hd; simp at this; omega
        by_cases h0 : d = 0
        · have h0b : ((d : Int) == 0) = true := by simp [h0]
          replace h0 := hide h0
          cases st with
          | true =>
            go_wp2_with (first | (go_at_call 50; refine hc.mono ?_; rintro e' w' ⟨rfl, hw'⟩; have hw2 := hw'.symm; subst hw2) | (at_builtin; refine wpList_append_own _ rfl (.tmp 29) (.tmp 33) 25 rfl B 5 i0 (.int .u8 0) 1 1 Try.underlying25 hi0 hz0 hz1 hz2 rfl (by decide) _ _ _ rfl (own_below (unhide hS).own below_one) ⟨w1.heap.size, 0, none⟩ 1 1 (vals [(ltr d up).toNat]) rfl rfl cells_one (vals_one _) (by unfold maxLen; omega) (by omega) (by rw [size_alloc]; have := (unhide hS).bel.size; omega) ?_; intro v' w4 hown' hgrow' _; have hA := hide (own_grow (q := [(ltr d up).toNat]) (unhide hS).own (unhide hS).bel hB below_one rfl hown' hgrow'); clear hown' hgrow'))
            go_roundw
            case rel => exact ⟨0, true, _, rfl, by simp, by omega, hide (hg_put (unhide hS) (unhide hd) (by simp) (unhide hA))⟩
            case measure => simp [intOf]
          | false =>
            go_wp2_with (first | (go_at_call 50; refine hc.mono ?_; rintro e' w' ⟨rfl, hw'⟩; have hw2 := hw'.symm; subst hw2) | (at_builtin; refine wpList_append_own _ rfl (.tmp 29) (.tmp 33) 25 rfl B 5 i0 (.int .u8 0) 1 1 Try.underlying25 hi0 hz0 hz1 hz2 rfl (by decide) _ _ _ rfl (own_below (unhide hS).own below_one) ⟨w1.heap.size, 0, none⟩ 1 1 (vals [(ltr d up).toNat]) rfl rfl cells_one (vals_one _) (by unfold maxLen; omega) (by omega) (by rw [size_alloc]; have := (unhide hS).bel.size; omega) ?_; intro v' w4 hown' hgrow' _; have hA := hide (own_grow (q := [(ltr d up).toNat]) (unhide hS).own (unhide hS).bel hB below_one rfl hown' hgrow'); clear hown' hgrow'))
            go_roundw
            case rel => exact ⟨0, true, _, rfl, by simp, by omega, hide (hg_put (unhide hS) (unhide hd) (by simp) (unhide hA))⟩
            case measure => simp [intOf]
        · have h0b : ((d : Int) == 0) = false := by simp; omega
          go_wp2_with (first | (go_at_call 50; refine hc.mono ?_; rintro e' w' ⟨rfl, hw'⟩; have hw2 := hw'.symm; subst hw2) | (at_builtin; refine wpList_append_own _ rfl (.tmp 29) (.tmp 33) 25 rfl B 5 i0 (.int .u8 0) 1 1 Try.underlying25 hi0 hz0 hz1 hz2 rfl (by decide) _ _ _ rfl (own_below (unhide hS).own below_one) ⟨w1.heap.size, 0, none⟩ 1 1 (vals [(ltr d up).toNat]) rfl rfl cells_one (vals_one _) (by unfold maxLen; omega) (by omega) (by rw [size_alloc]; have := (unhide hS).bel.size; omega) ?_; intro v' w4 hown' hgrow' _; have hA := hide (own_grow (q := [(ltr d up).toNat]) (unhide hS).own (unhide hS).bel hB below_one rfl hown' hgrow'); clear hown' hgrow'))
          go_roundw
          case rel => exact ⟨0, true, _, rfl, by simp, by omega, hide (hg_put (unhide hS) (unhide hd) (by simp [h0]) (unhide hA))⟩
          case measure => simp [intOf]
      · have hand : bits .and .i64 ((v : Int) / 16) 15 = (d : Int) := by have := and15 (v / 16) (by omega); simp at this; rw [this]; have := unhide hd; simp at this; omega
        by_cases h0 : d = 0
        · have h0b : ((d : Int) == 0) = true := by simp [h0]
          replace h0 := hide h0
          cases st with
          | true =>
            go_wp2_with (first | (go_at_call 50; refine hc.mono ?_; rintro e' w' ⟨rfl, hw'⟩; have hw2 := hw'.symm; subst hw2) | (at_builtin; refine wpList_append_own _ rfl (.tmp 29) (.tmp 33) 25 rfl B 5 i0 (.int .u8 0) 1 1 Try.underlying25 hi0 hz0 hz1 hz2 rfl (by decide) _ _ _ rfl (own_below (unhide hS).own below_one) ⟨w1.heap.size, 0, none⟩ 1 1 (vals [(ltr d up).toNat]) rfl rfl cells_one (vals_one _) (by unfold maxLen; omega) (by omega) (by rw [size_alloc]; have := (unhide hS).bel.size; omega) ?_; intro v' w4 hown' hgrow' _; have hA := hide (own_grow (q := [(ltr d up).toNat]) (unhide hS).own (unhide hS).bel hB below_one rfl hown' hgrow'); clear hown' hgrow'))
            go_roundw
            case rel => exact ⟨1, true, _, rfl, by simp, by omega, hide (hg_put (unhide hS) (unhide hd) (by simp) (unhide hA))⟩
            case measure => simp [intOf]
          | false =>
            go_wp2_with fail
            go_roundw
            case rel => exact ⟨1, false, o', rfl, by simp, by omega, hide (hg_skip (unhide hS) (by omega) (by rw [unhide hd]; exact unhide h0))⟩
            case measure => simp [intOf]
        · have h0b : ((d : Int) == 0) = false := by simp; omega
          go_wp2_with (first | (go_at_call 50; refine hc.mono ?_; rintro e' w' ⟨rfl, hw'⟩; have hw2 := hw'.symm; subst hw2) | (at_builtin; refine wpList_append_own _ rfl (.tmp 29) (.tmp 33) 25 rfl B 5 i0 (.int .u8 0) 1 1 Try.underlying25 hi0 hz0 hz1 hz2 rfl (by decide) _ _ _ rfl (own_below (unhide hS).own below_one) ⟨w1.heap.size, 0, none⟩ 1 1 (vals [(ltr d up).toNat]) rfl rfl cells_one (vals_one _) (by unfold maxLen; omega) (by omega) (by rw [size_alloc]; have := (unhide hS).bel.size; omega) ?_; intro v' w4 hown' hgrow' _; have hA := hide (own_grow (q := [(ltr d up).toNat]) (unhide hS).own (unhide hS).bel hB below_one rfl hown' hgrow'); clear hown' hgrow'))
          go_roundw
          case rel => exact ⟨1, true, _, rfl, by simp, by omega, hide (hg_put (unhide hS) (unhide hd) (by simp [h0]) (unhide hA))⟩
          case measure => simp [intOf]
      · have hand : bits .and .i64 ((v : Int) / 256) 15 = (d : Int) := by have := and15 (v / 256) (by omega); simp at this; rw [this]; have := unhide hd; simp at this; omega
        by_cases h0 : d = 0
        · have h0b : ((d : Int) == 0) = true := by simp [h0]
          replace h0 := hide h0
          cases st with
          | true =>
            go_wp2_with (first | (go_at_call 50; refine hc.mono ?_; rintro e' w' ⟨rfl, hw'⟩; have hw2 := hw'.symm; subst hw2) | (at_builtin; refine wpList_append_own _ rfl (.tmp 29) (.tmp 33) 25 rfl B 5 i0 (.int .u8 0) 1 1 Try.underlying25 hi0 hz0 hz1 hz2 rfl (by decide) _ _ _ rfl (own_below (unhide hS).own below_one) ⟨w1.heap.size, 0, none⟩ 1 1 (vals [(ltr d up).toNat]) rfl rfl cells_one (vals_one _) (by unfold maxLen; omega) (by omega) (by rw [size_alloc]; have := (unhide hS).bel.size; omega) ?_; intro v' w4 hown' hgrow' _; have hA := hide (own_grow (q := [(ltr d up).toNat]) (unhide hS).own (unhide hS).bel hB below_one rfl hown' hgrow'); clear hown' hgrow'))
            go_roundw
            case rel => exact ⟨2, true, _, rfl, by simp, by omega, hide (hg_put (unhide hS) (unhide hd) (by simp) (unhide hA))⟩
            case measure => simp [intOf]
          | false =>
            go_wp2_with fail
            go_roundw
            case rel => exact ⟨2, false, o', rfl, by simp, by omega, hide (hg_skip (unhide hS) (by omega) (by rw [unhide hd]; exact unhide h0))⟩
            case measure => simp [intOf]
        · have h0b : ((d : Int) == 0) = false := by simp; omega
          go_wp2_with (first | (go_at_call 50; refine hc.mono ?_; rintro e' w' ⟨rfl, hw'⟩; have hw2 := hw'.symm; subst hw2) | (at_builtin; refine wpList_append_own _ rfl (.tmp 29) (.tmp 33) 25 rfl B 5 i0 (.int .u8 0) 1 1 Try.underlying25 hi0 hz0 hz1 hz2 rfl (by decide) _ _ _ rfl (own_below (unhide hS).own below_one) ⟨w1.heap.size, 0, none⟩ 1 1 (vals [(ltr d up).toNat]) rfl rfl cells_one (vals_one _) (by unfold maxLen; omega) (by omega) (by rw [size_alloc]; have := (unhide hS).bel.size; omega) ?_; intro v' w4 hown' hgrow' _; have hA := hide (own_grow (q := [(ltr d up).toNat]) (unhide hS).own (unhide hS).bel hB below_one rfl hown' hgrow'); clear hown' hgrow'))
          go_roundw
          case rel => exact ⟨2, true, _, rfl, by simp, by omega, hide (hg_put (unhide hS) (unhide hd) (by simp [h0]) (unhide hA))⟩
          case measure => simp [intOf]
      · have hand : bits .and .i64 ((v : Int) / 4096) 15 = (d : Int) := by have := and15 (v / 4096) (by omega); simp at this; rw [this]; have := unhide hd; simp at this; omega
        by_cases h0 : d = 0
        · have h0b : ((d : Int) == 0) = true := by simp [h0]
          replace h0 := hide h0
          cases st with
          | true =>
            go_wp2_with (first | (go_at_call 50; refine hc.mono ?_; rintro e' w' ⟨rfl, hw'⟩; have hw2 := hw'.symm; subst hw2) | (at_builtin; refine wpList_append_own _ rfl (.tmp 29) (.tmp 33) 25 rfl B 5 i0 (.int .u8 0) 1 1 Try.underlying25 hi0 hz0 hz1 hz2 rfl (by decide) _ _ _ rfl (own_below (unhide hS).own below_one) ⟨w1.heap.size, 0, none⟩ 1 1 (vals [(ltr d up).toNat]) rfl rfl cells_one (vals_one _) (by unfold maxLen; omega) (by omega) (by rw [size_alloc]; have := (unhide hS).bel.size; omega) ?_; intro v' w4 hown' hgrow' _; have hA := hide (own_grow (q := [(ltr d up).toNat]) (unhide hS).own (unhide hS).bel hB below_one rfl hown' hgrow'); clear hown' hgrow'))
            go_roundw
            case rel => exact ⟨3, true, _, rfl, by simp, by omega, hide (hg_put (unhide hS) (unhide hd) (by simp) (unhide hA))⟩
            case measure => simp [intOf]
          | false =>
            go_wp2_with fail
            go_roundw
            case rel => exact ⟨3, false, o', rfl, by simp, by omega, hide (hg_skip (unhide hS) (by omega) (by rw [unhide hd]; exact unhide h0))⟩
            case measure => simp [intOf]
        · have h0b : ((d : Int) == 0) = false := by simp; omega
          go_wp2_with (first | (go_at_call 50; refine hc.mono ?_; rintro e' w' ⟨rfl, hw'⟩; have hw2 := hw'.symm; subst hw2) | (at_builtin; refine wpList_append_own _ rfl (.tmp 29) (.tmp 33) 25 rfl B 5 i0 (.int .u8 0) 1 1 Try.underlying25 hi0 hz0 hz1 hz2 rfl (by decide) _ _ _ rfl (own_below (unhide hS).own below_one) ⟨w1.heap.size, 0, none⟩ 1 1 (vals [(ltr d up).toNat]) rfl rfl cells_one (vals_one _) (by unfold maxLen; omega) (by omega) (by rw [size_alloc]; have := (unhide hS).bel.size; omega) ?_; intro v' w4 hown' hgrow' _; have hA := hide (own_grow (q := [(ltr d up).toNat]) (unhide hS).own (unhide hS).bel hB below_one rfl hown' hgrow'); clear hown' hgrow'))
          go_roundw
          case rel => exact ⟨3, true, _, rfl, by simp, by omega, hide (hg_put (unhide hS) (unhide hd) (by simp [h0]) (unhide hA))⟩
          case measure => simp [intOf]
end Go.Proofs.Qxb6600526a
