import Derived.Test.Qxb6600526aWp
import Derived.ChangeKeysEq
namespace Go.Proofs.Qxb6600526a
open Go.RowKit P6

theorem arr_ext {G H : Nat → Nat} (h : ∀ i, i < 16 → G i = H i) : arr G = arr H := by
  unfold arr
  congr 1
  apply List.map_congr_left
  intro i hi
  rw [h i (by simpa using hi)]

theorem wpList_want {P : Program} {ops : Array Oper} {rest : List Oper} {op : Oper} {a : Act} {w : World} {Q : Exit → Act → World → Prop} (hw : Region.wanted op (yielded ops a.tmps) = true)
    (h : ∀ K : Act → World → Prop, (∀ a w, wpList P ops Q rest a w → K a w) → op.wp P a w K Q) : wpList P ops Q (op :: rest) a w :=
  wpList_step fun K hK => by rw [if_pos hw]; exact h K hK
/-- A guarded load of sixteen bytes. -/
theorem load39g {ops : Array Oper} {rest : List Oper} {op : Oper} {a : Act} {w : World} {Q : Exit → Act → World → Prop} {b : Nat} {t : TypeId} {G : Nat → Nat} (p : Operand) (ho : op.op = .load 39 p)
    (hx : a.eval p = .pointer (some ⟨b, 0, none⟩)) (hw : Region.wanted op (yielded ops a.tmps) = true) (hB : Bytes w b t 16 G) (h : wpList Try.prog ops Q rest (a.put op.dst (.agg (arr G))) w) : wpList Try.prog ops Q (op :: rest) a w :=
  wpList_want hw fun _ hK => wp_load_mid 39 p ho b 0 hx (arr G).toList _ (bytes_range hB) Try.underlying39 rfl rfl (hK _ _ (by simpa using h))
theorem eq39 (G : Nat → Nat) (w : World) : (Op.equalIn 10000 39 (.agg (arr G)) (.agg (arr G))).run Try.prog w = .ok true w := by
  obtain ⟨i0, hi0, -, -, -⟩ := info_parts info5
  have hc : Try.prog.cellsOf 5 = 1 := by kernel_rfl
  have hp : Try.prog.plainKey 5 = true := by kernel_rfl
  rw [show (10000 : Nat) = 9999 + 1 from rfl, run_equalIn_array w 9999 (arr G) (arr G) Try.underlying39 hi0, hc]
  have key : ∀ is : List Nat, (∀ i ∈ is, i < 16) → (Op.eqItems 9999 5 1 (arr G) (arr G) is).run Try.prog w = .ok true w := by
    intro is
    induction is with
    | nil => intro _; rfl
    | cons i is ih =>
      intro h
      have h1 := run_part_plain (P := Try.prog) w hp (off := i * 1) (arr_get G i (h i (by simp))|> fun e => by rw [Nat.mul_one]; exact e)
      have h2 := run_equalIn_int (P := Try.prog) w 9998 5 .u8 .u8 (G i) (G i) Try.underlying5
      rw [Op.eqItems]
      simp only [Sem.run_bind, h1, Result.andThen_ok]
      rw [show (9999 : Nat) = 9998 + 1 from rfl, h2]
      simp only [Result.andThen_ok, beq_self_eq_true, Bool.not_true, Bool.false_eq_true, if_false]
      exact ih fun j hj => h j (by simp [hj])
  exact key _ fun i hi => by simpa using hi
theorem Bytes.lt {w : World} {b : Nat} {t : TypeId} {n : Nat} {F : Nat → Nat} (h : Bytes w b t n F) : b < w.heap.size := by
  obtain ⟨c, h1, -⟩ := h
  exact (Array.getElem?_eq_some_iff.1 h1).1

set_option maxRecDepth 100000 in
set_option maxHeartbeats 2000000 in
theorem agrees_walk (s : ByteArray) (w : World) (hs : s.size ≤ maxLen) :
    Calls Try.prog 8 #[.string s] w fun e w' => e = .returned (.bool true) ∧ Below w.heap.size w w' := by
  have hzz := zzBytes_any s w hs
  by_cases h1 : s.size ≤ 1048576
  · have h1d : decide (s.size ≤ 1048576) = true := decide_eq_true h1
    rw [h1d] at hzz
    clear h1d
    unfold maxLen at hs
    by_cases h2 : s.size ≤ 65536
    · obtain ⟨x, hx⟩ : ∃ x, p6 (L s) = x := ⟨_, rfl⟩
      have hx2 : model (L s) = x := by rw [← p6_model]; exact hx
      have hcp := zzParse_any s w (by unfold maxLen; omega) x hx
      have hcm := fun w => model_any s w h2 x hx2
      clear hx hx2
      go_enter Try.func8, Try.ntmps8
      go_wp2_with (first | (go_at_call 26; refine hzz.mono ?_; rintro e' w' ⟨rfl, hw'⟩; have hw2 := hw'.symm; subst hw2) | (go_at_call 27; refine hcp.mono ?_; rintro e' w3 ⟨G, rfl, hb, hG⟩; have hb3 := hide (Below.alloc hb hb.size (.cells #[.int .u8 0, .int .u8 0, .int .u8 0, .int .u8 0, .int .u8 0, .int .u8 0, .int .u8 0, .int .u8 0, .int .u8 0, .int .u8 0, .int .u8 0, .int .u8 0, .int .u8 0, .int .u8 0, .int .u8 0, .int .u8 0] 39)); have hsz3 := hide hb.size; have hG := hide hG; clear hb; have hB3 := hide (bytes_zero w3)) | (refine store39 (.tmp 3) (.tmp 16) rfl rfl rfl rfl (unhide hB3) (unhide hb3) (unhide hsz3) ?_; intro w4 hB4 hb4))
      refine (hcm w4).mono ?_
      rintro e' w5 ⟨H, rfl, hb, hH⟩
      have hG4 := hide ((unhide hB4).below hb (unhide hB4).lt)
      have hb5 := hide (Below.alloc ((unhide hb4).trans (hb.mono (unhide hb4).size)) (Nat.le_trans (unhide hb4).size hb.size) (.cells #[.int .u8 0, .int .u8 0, .int .u8 0, .int .u8 0, .int .u8 0, .int .u8 0, .int .u8 0, .int .u8 0, .int .u8 0, .int .u8 0, .int .u8 0, .int .u8 0, .int .u8 0, .int .u8 0, .int .u8 0, .int .u8 0] 39))
      have hsz5 := hide (Nat.le_trans (unhide hb4).size hb.size)
      have hne : Hid (w3.heap.size < w5.heap.size) := hide (Nat.lt_of_lt_of_le (unhide hB4).lt hb.size)
      have hB5 := hide (bytes_zero w5)
      have hG5 := hide ((unhide hG4).alloc (unhide hne) (.cells #[.int .u8 0, .int .u8 0, .int .u8 0, .int .u8 0, .int .u8 0, .int .u8 0, .int .u8 0, .int .u8 0, .int .u8 0, .int .u8 0, .int .u8 0, .int .u8 0, .int .u8 0, .int .u8 0, .int .u8 0, .int .u8 0] 39))
      have hH := hide hH
      clear hb
      have heq := eq39 G
      cases x with
      | none =>
        go_wp2_with (refine store39 (.tmp 5) (.tmp 21) rfl rfl rfl rfl (unhide hB5) (Below.refl _ _) (Nat.le_refl _) ?_; intro w6 hB6 hb6)
        go_ret
        exact ⟨rfl, (unhide hb5).trans ((unhide hb6).mono (unhide hsz5))⟩
      | some q =>
        have hE : Hid (arr H = arr G) := hide (arr_ext fun i hi => by rw [unhide hH q rfl i hi, unhide hG q rfl i hi])
        go_wp2_with (first | (refine store39 (.tmp 5) (.tmp 21) rfl rfl rfl rfl (unhide hB5) (Below.refl _ _) (Nat.le_refl _) ?_; intro w6 hB6 hb6; have hG6 := hide ((unhide hG5).below (unhide hb6) (unhide hne))) | (refine load39g (.tmp 3) rfl rfl rfl (unhide hG6) ?_) | (refine load39g (.tmp 5) rfl rfl rfl (unhide hB6) ?_; rw [unhide hE]))
        go_ret
        exact ⟨rfl, (unhide hb5).trans ((unhide hb6).mono (unhide hsz5))⟩
    · go_enter Try.func8, Try.ntmps8
      go_wp2_with (first | (go_at_call 26; refine hzz.mono ?_; rintro e' w' ⟨rfl, hw'⟩; have hw2 := hw'.symm; subst hw2))
      go_ret
      exact ⟨rfl, Below.refl _ _⟩
  · have h1d : decide (s.size ≤ 1048576) = false := decide_eq_false h1
    rw [h1d] at hzz
    go_enter Try.func8, Try.ntmps8
    go_wp2_with (first | (go_at_call 26; refine hzz.mono ?_; rintro e' w' ⟨rfl, hw'⟩; have hw2 := hw'.symm; subst hw2))
    go_ret
    exact ⟨rfl, Below.refl _ _⟩
end Go.Proofs.Qxb6600526a
