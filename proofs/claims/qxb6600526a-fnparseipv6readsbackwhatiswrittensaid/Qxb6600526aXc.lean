import Derived.Test.Qxb6600526aXb
namespace Go.Proofs.Qxb6600526a
open Go.RowKit P6

theorem dc_nums (v : Nat) (hv : v < 256) : nums (dc v) = (if 100 ≤ v then [48 + v / 100] else []) ++ (if 10 ≤ v then [48 + v / 10 % 10] else []) ++ [48 + v % 10] := by
  have : ∀ v : Fin 256, nums (dc v.val) = (if 100 ≤ v.val then [48 + v.val / 100] else []) ++ (if 10 ≤ v.val then [48 + v.val / 10 % 10] else []) ++ [48 + v.val % 10] := by decide +kernel
  exact this ⟨v, hv⟩

set_option maxRecDepth 100000 in
set_option maxHeartbeats 4000000 in
theorem decimal_any (B : Nat) (t : Value) (o : List Nat) (v : Nat) (w : World) (hown : Own w B t o) (hB : B ≤ w.heap.size) (ho : o.length ≤ 100000) (hv : v < 256) :
    Calls Try.prog 39 #[t, .int .u8 v] w fun e w' => ∃ t', e = .returned t' ∧ Own w' B t' (o ++ nums (dc v)) ∧ Below B w w' := by
  obtain ⟨i0, hi0, hz0, hz1, hz2⟩ := info_parts info5
  replace hown := hide hown
  have hb0 := hide (Below.refl B w)
  have hD := hide (dc_nums v hv)
  by_cases h1 : 100 ≤ v
  · go_enter Try.func39, Try.ntmps39
    go_wp2_with (first | (at_builtin; refine wpList_append_own _ rfl (.tmp 7) (.tmp 11) 25 rfl B 5 i0 (.int .u8 0) 1 1 Try.underlying25 hi0 hz0 hz1 hz2 rfl (by decide) _ _ _ rfl (own_below (unhide hown) below_one) ⟨w.heap.size, 0, none⟩ 1 1 (vals [48 + v / 100]) rfl rfl cells_one (vals_one _) (by unfold maxLen; simp; omega) (by simp; omega) (by rw [size_alloc]; have := (unhide hb0).size; omega) ?_; intro v1 w1 hown' hgrow' _; have hA1 := hide (own_grow (q := [48 + v / 100]) (unhide hown) (unhide hb0) hB below_one rfl hown' hgrow'); clear hown' hgrow') | (at_builtin; refine wpList_append_own _ rfl (.tmp 15) (.tmp 20) 25 rfl B 5 i0 (.int .u8 0) 1 1 Try.underlying25 hi0 hz0 hz1 hz2 rfl (by decide) _ _ _ rfl (own_below (unhide hA1).2 below_one) ⟨w1.heap.size, 0, none⟩ 1 1 (vals [48 + v / 10 % 10]) rfl rfl cells_one (vals_one _) (by unfold maxLen; simp; omega) (by simp; omega) (by rw [size_alloc]; have := (unhide hA1).1.size; omega) ?_; intro v2 w2 hown' hgrow' _; have hA2 := hide (own_grow (q := [48 + v / 10 % 10]) (unhide hA1).2 (unhide hA1).1 hB below_one rfl hown' hgrow'); clear hown' hgrow') | (at_builtin; refine wpList_append_own _ rfl (.tmp 22) (.tmp 26) 25 rfl B 5 i0 (.int .u8 0) 1 1 Try.underlying25 hi0 hz0 hz1 hz2 rfl (by decide) _ _ _ rfl (own_below (unhide hA2).2 below_one) ⟨w2.heap.size, 0, none⟩ 1 1 (vals [48 + v % 10]) rfl rfl cells_one (vals_one _) (by unfold maxLen; simp; omega) (by simp; omega) (by rw [size_alloc]; have := (unhide hA2).1.size; omega) ?_; intro v3 w3 hown' hgrow' _; have hA3 := hide (own_grow (q := [48 + v % 10]) (unhide hA2).2 (unhide hA2).1 hB below_one rfl hown' hgrow'); clear hown' hgrow'))
    go_ret
    exact ⟨_, rfl, by rw [unhide hD, if_pos h1, if_pos (by omega)]; have h := (unhide hA3).2; simpa using h, (unhide hA3).1⟩
  · by_cases h2 : 10 ≤ v
    · go_enter Try.func39, Try.ntmps39
      go_wp2_with (first | (at_builtin; refine wpList_append_own _ rfl (.tmp 15) (.tmp 20) 25 rfl B 5 i0 (.int .u8 0) 1 1 Try.underlying25 hi0 hz0 hz1 hz2 rfl (by decide) _ _ _ rfl (own_below (unhide hown) below_one) ⟨w.heap.size, 0, none⟩ 1 1 (vals [48 + v / 10 % 10]) rfl rfl cells_one (vals_one _) (by unfold maxLen; simp; omega) (by simp; omega) (by rw [size_alloc]; have := (unhide hb0).size; omega) ?_; intro v1 w1 hown' hgrow' _; have hA1 := hide (own_grow (q := [48 + v / 10 % 10]) (unhide hown) (unhide hb0) hB below_one rfl hown' hgrow'); clear hown' hgrow') | (at_builtin; refine wpList_append_own _ rfl (.tmp 22) (.tmp 26) 25 rfl B 5 i0 (.int .u8 0) 1 1 Try.underlying25 hi0 hz0 hz1 hz2 rfl (by decide) _ _ _ rfl (own_below (unhide hA1).2 below_one) ⟨w1.heap.size, 0, none⟩ 1 1 (vals [48 + v % 10]) rfl rfl cells_one (vals_one _) (by unfold maxLen; simp; omega) (by simp; omega) (by rw [size_alloc]; have := (unhide hA1).1.size; omega) ?_; intro v2 w2 hown' hgrow' _; have hA2 := hide (own_grow (q := [48 + v % 10]) (unhide hA1).2 (unhide hA1).1 hB below_one rfl hown' hgrow'); clear hown' hgrow'))
      go_ret
      exact ⟨_, rfl, by rw [unhide hD, if_neg h1, if_pos (by omega)]; have h := (unhide hA2).2; simpa using h, (unhide hA2).1⟩
    · go_enter Try.func39, Try.ntmps39
      go_wp2_with (first | (at_builtin; refine wpList_append_own _ rfl (.tmp 22) (.tmp 26) 25 rfl B 5 i0 (.int .u8 0) 1 1 Try.underlying25 hi0 hz0 hz1 hz2 rfl (by decide) _ _ _ rfl (own_below (unhide hown) below_one) ⟨w.heap.size, 0, none⟩ 1 1 (vals [48 + v % 10]) rfl rfl cells_one (vals_one _) (by unfold maxLen; simp; omega) (by simp; omega) (by rw [size_alloc]; have := (unhide hb0).size; omega) ?_; intro v1 w1 hown' hgrow' _; have hA1 := hide (own_grow (q := [48 + v % 10]) (unhide hown) (unhide hb0) hB below_one rfl hown' hgrow'); clear hown' hgrow'))
      go_ret
      exact ⟨_, rfl, by rw [unhide hD, if_neg h1, if_neg h2]; have h := (unhide hA1).2; simpa using h, (unhide hA1).1⟩
end Go.Proofs.Qxb6600526a
