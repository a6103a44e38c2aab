import Derived.Test.Qxb6600526aWj
namespace Go.Proofs.Qxb6600526a
open Go.RowKit P6

theorem decB_lt {l : List UInt8} {v : Nat} (h : decB l = some v) : v ≤ 255 := by
  unfold decB at h
  split at h
  · cases h
  · split at h
    · cases h
    · split at h
      · split at h
        · cases h
        · simp at h; omega
      · cases h

theorem size_alloc (w : World) (o : Obj) : (w.alloc o).heap.size = w.heap.size + 1 := by
  show (w.heap.push _).size = _
  rw [Array.size_push]
theorem Bytes.alloc {w : World} {b : Nat} {t : TypeId} {n : Nat} {F : Nat → Nat} (h : Bytes w b t n F) (hb : b < w.heap.size) (o : Obj) : Bytes (w.alloc o) b t n F := by
  obtain ⟨c, h1, h2, h3⟩ := h
  exact ⟨c, (Below.heap_alloc w o b hb).trans h1, h2, h3⟩
theorem bytes4_second (w : World) : Bytes ((w.alloc (.cells #[.int .u8 0, .int .u8 0, .int .u8 0, .int .u8 0] 63)).alloc (.cells #[.int .u8 0, .int .u8 0, .int .u8 0, .int .u8 0] 63)) (w.heap.size + 1) 63 4 (fun _ => 0) := by
  have h := bytes4_zero (w.alloc (.cells #[.int .u8 0, .int .u8 0, .int .u8 0, .int .u8 0] 63))
  rw [size_alloc] at h
  exact h
theorem Bytes.other {w : World} {b b' i : Nat} {v : Value} {t : TypeId} {n : Nat} {F : Nat → Nat} (h : Bytes w b t n F) (hb : b ≠ b') : Bytes (w.setCell ⟨b', i, none⟩ v) b t n F := by
  obtain ⟨c, h1, h2, h3⟩ := h
  exact ⟨c, (Go.Deep.blk_setCell_other _ _ _ _ (by show b ≠ b'; exact hb)).trans h1, h2, h3⟩

set_option maxRecDepth 100000 in
set_option maxHeartbeats 4000000 in
theorem dottedQuad_any (s : ByteArray) (w : World) (hs : s.size ≤ 65536) (x : Option (List Nat)) (hx : dq 0 (spl 46 (L s)) = x) :
    Calls Try.prog 48 #[.string s] w fun e w' => Said4 x w.heap.size w e w' := by
  go_enter Try.func48, Try.ntmps48
  go_wp2_with fail
  go_loopw [5, 6, 7] (fun v5 v6 v7 wr => ∃ (k st i : Nat) (G : Nat → Nat), v5 = .int .i64 k ∧ v6 = .int .i64 st ∧ v7 = .int .i64 i ∧ k ≤ 4 ∧ st ≤ i ∧ i ≤ s.size + 1 ∧ Hid (D4 x w wr (L s) k st i G)) (fun _ _ v7 _ => ((s.size : Int) + 1 - intOf v7).toNat)
  case atStart =>
    refine ⟨0, 0, 0, fun _ => 0, rfl, rfl, rfl, by omega, by omega, by omega, hide ⟨clr_start, ⟨[], rfl, by rw [from_start]; simpa using hx, fun i hi => by omega⟩, ?_, ?_, ?_⟩⟩
    · exact (Below.alloc (Below.refl _ w) (Nat.le_refl _) _).alloc (by rw [size_alloc]; omega) _
    · exact (bytes4_zero w).alloc (by rw [size_alloc]; omega) _
    · exact bytes4_second w
  case round =>
    obtain ⟨k, st, i, G, rfl, rfl, rfl, hk, hst, hi, hD⟩ := hrel
    rename World => w1
    obtain ⟨hbel, hres, hrow⟩ : Hid (Below w.heap.size w w1) ∧ Hid (Bytes w1 w.heap.size 63 4 (fun _ => 0)) ∧ Hid (Bytes w1 (w.heap.size + 1) 63 4 G) := ⟨(unhide hD).bel, (unhide hD).res, (unhide hD).row⟩
    have hbp : Hid (Below w.heap.size w (put4 w1 w.heap.size G)) := hide (below_put4 (unhide hbel) (Nat.le_refl _))
    have hrp : Hid (Bytes (put4 w1 w.heap.size G) w.heap.size 63 4 G) := hide (bytes_put4 (unhide hres))
    by_cases hend : i = s.size + 1
    · obtain ⟨pre, hp1, hp2, hp3⟩ : ∃ pre : List Nat, Hid (pre.length = k) ∧ Hid ((if k = 4 then some pre else none) = x) ∧ Hid (∀ i, i < k → G i = pre.getD i 0) := d4_end (unhide hD) hend
      by_cases hk4 : k = 4
      · subst hk4
        go_wp2_with (first | refine load4 rfl rfl rfl (unhide hrow) ?_ | refine store4 rfl rfl rfl rfl (unhide hres) ?_)
        refine bodyPost_ret (bytes4_results (unhide hrp) _ rfl) rfl ?_
        exact said4_some (by have := unhide hp2; simpa using this.symm) (unhide hbp) (unhide hp3)
      · have hk4b : ((k : Int) == 4) = false := by simp; omega
        go_wp2_with (first | refine load4 rfl rfl rfl (unhide hrow) ?_ | refine store4 rfl rfl rfl rfl (unhide hres) ?_)
        refine bodyPost_ret (bytes4_results (unhide hrp) _ rfl) rfl ?_
        exact said4_none (by have := unhide hp2; simpa [hk4] using this.symm) (unhide hbp)
    · have hi' : i ≤ s.size := by omega
      by_cases hsc : ∃ hlt : i < s.size, s[i].toNat ≠ 46
      · obtain ⟨hlt, h46⟩ := hsc
        have h46b : ((s[i].toNat : Int) != 46) = true := by simp; omega
        have hD2 := hide (d4_scan (unhide hD) hlt h46)
        go_wp2_with fail
        go_roundw
        case rel => exact ⟨k, st, i + 1, G, by simp, by simp, by simp, hk, by omega, by omega, hD2⟩
        case measure => simp [intOf]; omega
      · have hcutb : Hid (∀ hlt : i < s.size, s[i].toNat = 46) := hide (fun hlt => Classical.byContradiction fun h => hsc ⟨hlt, h⟩)
        clear hsc
        by_cases hk4 : k = 4
        · subst hk4
          have hN := hide (d4_four (unhide hD) hi' (unhide hcutb))
          by_cases hlt : i < s.size
          · have h46b : ((s[i].toNat : Int) != 46) = false := by simp [unhide hcutb hlt]
            go_wp2_with (first | refine load4 rfl rfl rfl (unhide hrow) ?_ | refine store4 rfl rfl rfl rfl (unhide hres) ?_)
            refine bodyPost_ret (bytes4_results (unhide hrp) _ rfl) rfl ?_
            exact said4_none (unhide hN) (unhide hbp)
          · go_wp2_with (first | refine load4 rfl rfl rfl (unhide hrow) ?_ | refine store4 rfl rfl rfl rfl (unhide hres) ?_)
            refine bodyPost_ret (bytes4_results (unhide hrp) _ rfl) rfl ?_
            exact said4_none (unhide hN) (unhide hbp)
        · have hk4b : ((k : Int) == 4) = false := by simp; omega
          obtain ⟨f, hf⟩ : ∃ f, s.extract st i = f := ⟨_, rfl⟩
          have hfs : f.size ≤ maxLen := by rw [← hf]; simp [maxLen]; omega
          cases hd : decB (L f) with
          | none =>
            have hN := hide (d4_bad (unhide hD) hk4 hi' (unhide hcutb) (by rw [hf]; exact hd))
            have hc := decByte_any f w1 hfs none hd
            by_cases hlt : i < s.size
            · have h46b : ((s[i].toNat : Int) != 46) = false := by simp [unhide hcutb hlt]
              go_wp2_with (first | refine load4 rfl rfl rfl (unhide hrow) ?_ | refine store4 rfl rfl rfl rfl (unhide hres) ?_ | (go_at_call 60; refine hc.mono ?_; rintro e' w' ⟨rfl, rfl⟩; unfold decAns))
              refine bodyPost_ret (bytes4_results (unhide hrp) _ rfl) rfl ?_
              exact said4_none (unhide hN) (unhide hbp)
            · go_wp2_with (first | refine load4 rfl rfl rfl (unhide hrow) ?_ | refine store4 rfl rfl rfl rfl (unhide hres) ?_ | (go_at_call 60; refine hc.mono ?_; rintro e' w' ⟨rfl, rfl⟩; unfold decAns))
              refine bodyPost_ret (bytes4_results (unhide hrp) _ rfl) rfl ?_
              exact said4_none (unhide hN) (unhide hbp)
          | some v =>
            have hv := decB_lt hd
            have hcell : w1.cell? ⟨w.heap.size + 1, k, none⟩ = some (.int .u8 (G k)) := World.rowIs.cell (unhide hrow) (by omega)
            have hfr : w1.frozen? ⟨w.heap.size + 1, k, none⟩ = false := World.rowIs.frozen (unhide hrow) _
            have hD2 := hide (d4_next (unhide hD) hk4 hi' (unhide hcutb) (by rw [hf]; exact hd) (below_set (i := k) (v := .int .u8 v) (unhide hbel) (Nat.le_succ _)) ((unhide hres).other (by omega)) ((unhide hrow).set k v rfl rfl))
            have hc := decByte_any f w1 hfs (some v) hd
            by_cases hlt : i < s.size
            · have h46b : ((s[i].toNat : Int) != 46) = false := by simp [unhide hcutb hlt]
              go_wp2_with (go_at_call 60; refine hc.mono ?_; rintro e' w' ⟨rfl, rfl⟩; unfold decAns)
              go_roundw
              case rel => exact ⟨k + 1, i + 1, i + 1, _, by simp, by simp, by simp, by omega, by omega, by omega, hD2⟩
              case measure => simp [intOf]; omega
            · go_wp2_with (go_at_call 60; refine hc.mono ?_; rintro e' w' ⟨rfl, rfl⟩; unfold decAns)
              go_roundw
              case rel => exact ⟨k + 1, i + 1, i + 1, _, by simp, by simp, by simp, by omega, by omega, by omega, hD2⟩
              case measure => simp [intOf]; omega
end Go.Proofs.Qxb6600526a
