/-
  The walk of redactModel.
-/
import Derived.Test.Qxb6605569aRedC
import Derived.Lib.BufferRead
namespace Go.Proofs.Qxb6605569a
open Go.RowKit
open PRed (isN isB R red flush)

/-- A slice that owns the bytes o, as a text. -/
theorem conv_own {W : World} {B : Nat} {v : Value} {o : List UInt8} (h : W.ownsRow B 5 1 v o.length (Lib.byteCells o)) : (convert 26 9 v).run Try.prog W = .ok (.string ⟨o.toArray⟩) W := by
  rcases h.2 with ⟨rfl, h0⟩ | ⟨g, cap, cur, rfl, _, hg, _, _, hsz, htake⟩
  · have ho : o = [] := List.length_eq_zero_iff.1 h0
    subst ho
    exact Lib.run_convert_nil_bytes W 26 9 5 0 Try.underlying26 Try.underlying5 Try.underlying9
  · refine run_convert_bytes_back (P := Try.prog) W 26 9 5 ⟨g, 0, none⟩ cap o Try.underlying26 Try.underlying5 Try.underlying9 (fun j hj => ?_)
    have hc := h.cells (g := g) rfl j (.int .u8 (o[j].toNat : Int)) (by simp [Lib.byteCells, List.getElem?_eq_getElem hj])
    exact hc

/-- What the model's loop holds at place i. -/
structure MInv (S : List UInt8) (i : Nat) (o : List UInt8) : Prop where
  hi : i ≤ S.length
  hm : R S = o ++ R (S.drop i)
theorem minv_start (S : List UInt8) : MInv S 0 [] := ⟨Nat.zero_le _, by simp⟩
theorem minv_len {S : List UInt8} {i : Nat} {o : List UInt8} (h : MInv S i o) : o.length ≤ S.length := by
  have := PRed.R_le S
  rw [h.hm] at this
  simp at this; omega
theorem minv_skip {S : List UInt8} {i : Nat} {o : List UInt8} (h : MInv S i o) (hi : i < S.length) (hb : isB S[i] = false) : MInv S (i + 1) (o ++ [S[i]]) :=
  ⟨by omega, by rw [h.hm, drop_one S i hi, PRed.R_skip _ _ hb]; simp⟩
/-- The places from i up to j are of the alphabet. -/
def RunTo (S : List UInt8) (i j : Nat) : Prop := ∀ c ∈ seg S i j, isB c = true
theorem runTo_start (S : List UInt8) (i : Nat) : RunTo S i i := by intro c hc; rw [seg_self] at hc; simp at hc
theorem runTo_step {S : List UInt8} {i j : Nat} (h : RunTo S i j) (hij : i ≤ j) (hj : j < S.length) (hb : isB S[j] = true) : RunTo S i (j + 1) := by
  intro c hc
  rw [← seg_join S i j (j + 1) hij (by omega), seg_one S j hj] at hc
  simp at hc
  rcases hc with hc | hc
  · exact h c hc
  · rw [hc]; exact hb
theorem minv_run {S : List UInt8} {i j : Nat} {o : List UInt8} (h : MInv S i o) (hr : RunTo S i j) (hij : i ≤ j) (hj : j ≤ S.length) (he : ∀ (hj : j < S.length), isB S[j] = false) : MInv S j (o ++ flush (seg S i j)) := by
  refine ⟨hj, ?_⟩
  have e : S.drop i = seg S i j ++ S.drop j := by rw [← seg_end S i, ← seg_end S j, seg_join S i j S.length hij hj]
  rw [h.hm, e, PRed.R_head _ _ hr, List.append_assoc]
  intro c hc
  by_cases hlt : j < S.length
  · rw [drop_one S j hlt, List.head?_cons] at hc
    injection hc with hc
    rw [← hc]; exact he hlt
  · rw [List.drop_eq_nil_of_le (by omega)] at hc
    simp at hc
theorem minv_long {S : List UInt8} {i j : Nat} {o : List UInt8} (h : MInv S i o) (hr : RunTo S i j) (hij : i ≤ j) (hj : j ≤ S.length) (he : ∀ (hj : j < S.length), isB S[j] = false) (hl : 43 ≤ j - i) : MInv S j (o ++ PRed.mark) := by
  have := minv_run h hr hij hj he
  unfold flush at this
  rwa [if_pos (by rw [seg_len S i j hj]; exact hl)] at this
theorem minv_short {S : List UInt8} {i j : Nat} {o : List UInt8} (h : MInv S i o) (hr : RunTo S i j) (hij : i ≤ j) (hj : j ≤ S.length) (he : ∀ (hj : j < S.length), isB S[j] = false) (hl : ¬ 43 ≤ j - i) : MInv S j (o ++ seg S i j) := by
  have := minv_run h hr hij hj he
  unfold flush at this
  rwa [if_neg (by rw [seg_len S i j hj]; exact hl)] at this
theorem minv_end {S : List UInt8} {i : Nat} {o : List UInt8} (h : MInv S i o) (hi : ¬ i < S.length) : R S = o := by
  rw [h.hm, List.drop_eq_nil_of_le (by omega)]; simp [R, PRed.red, PRed.flush]

set_option maxRecDepth 100000 in
set_option maxHeartbeats 2000000 in
theorem model_any (s : ByteArray) (w : World) (hs : s.size ≤ 4194304) :
    Calls Try.prog 8 #[.string s] w fun e w' => e = .returned (.string (redS s)) ∧ Below w.heap.size w w' := by
  obtain ⟨i0, hi0, hz0, hz1, hz2⟩ := info_parts infoByte
  obtain ⟨S, hS⟩ : ∃ S, S = lst s := ⟨_, rfl⟩
  have HS := hide hS
  have HL : Hid (S.length = s.size) := hide (by rw [hS]; exact len_lst s)
  have HR : Hid (redS s = ⟨(R S).toArray⟩) := hide (by rw [hS]; rfl)
  have HBI : Hid (∀ i (h : i < s.size) (h' : i < S.length), isB (S[i]'h') = isN s[i].toNat) := hide (fun i h h' => by
    have hS := unhide HS
    subst hS
    exact isB_at s i h h')
  have H0 := hide (minv_start S)
  clear hS
  go_enter Try.func8, Try.ntmps8
  go_wp2_with (refine wpList_make_own _ rfl _ _ 26 rfl w.heap.size 5 i0 (.int .u8 0) 1 Try.underlying26 hi0 hz0 hz1 .i64 .i64 _ s.size rfl rfl rfl ?c1 ?c2 (Nat.le_refl _) ?_)
  case c1 => rw [hz2]; omega
  case c2 => unfold maxLen; omega
  intro w1 hown hgr
  have HO := hide hown
  have HB := hide ((Below.refl w.heap.size w).grown hgr (Nat.le_refl _) (fun k e => by cases e))
  clear hown hgr
  go_wp2
  go_loopw [3, 4] (fun x3 x4 wr => ∃ (i : Nat) (o : List UInt8), i ≤ s.size ∧ x4 = .int .i64 i ∧ Hid (MInv S i o) ∧ Hid (wr.ownsRow w.heap.size 5 1 x3 o.length (Lib.byteCells o)) ∧ Hid (Below w.heap.size w wr)) (fun _ x4 _ => s.size - (intOf x4).toNat)
  case atStart => exact ⟨0, [], Nat.zero_le _, rfl, H0, HO, HB⟩
  case round =>
    obtain ⟨i, o, hin, rfl, hI, hown, hbel⟩ := hrel
    clear H0 HO HB
    have hol : o.length ≤ s.size := by have := minv_len (unhide hI); rw [unhide HL] at this; exact this
    by_cases hlt : i < s.size
    · have hcb : s[i].toNat ≤ 255 := by have := s[i].toNat_lt; omega
      have hiS : i < S.length := by rw [unhide HL]; exact hlt
      have HIS := hide hiS
      clear hiS
      by_cases hb : isN s[i].toNat = true
      · go_wp2_with (go_at_call 10; refine (isB64Byte_any s[i].toNat _ hcb).mono ?_; rintro e w' ⟨rfl, hw'⟩; have hw2 := hw'.symm; subst hw2)
        go_loop [5] (fun x5 => ∃ j : Nat, i < j + 1 ∧ j ≤ s.size ∧ x5 = .int .i64 j ∧ Hid (RunTo S i j) ∧ (i = j → isN s[i].toNat = true)) (fun x5 => s.size - (intOf x5).toNat)
        case atStart => exact ⟨i, by omega, by omega, rfl, hide (runTo_start S i), fun _ => hb⟩
        case round =>
          obtain ⟨j, hij0, hjn, rfl, hrun, hfirst⟩ := hrel
          have hij : i ≤ j := by omega
          clear hij0
          by_cases hjl : j < s.size
          · have hjb : s[j].toNat ≤ 255 := by have := s[j].toNat_lt; omega
            by_cases hbj : isN s[j].toNat = true
            · clear hfirst
              go_wp2_with (go_at_call 10; refine (isB64Byte_any s[j].toNat _ hjb).mono ?_; rintro e w' ⟨rfl, hw'⟩; have hw2 := hw'.symm; subst hw2)
              go_round
              case rel => exact ⟨j + 1, by omega, by omega, by go_num, hide (runTo_step (unhide hrun) hij (by rw [unhide HL]; exact hjl) (by rw [unhide HBI j hjl]; exact hbj)), fun e => by omega⟩
              case measure => simp [intOf]; omega
            · have hbj' : isN s[j].toNat = false := by simpa using hbj
              have hne : i ≠ j := by
                intro e
                have := hfirst e
                subst e
                rw [hbj'] at this
                cases this
              clear hbj hfirst
              have HNB : Hid (∀ (h : j < S.length), isB S[j] = false) := hide (fun h => by rw [unhide HBI j hjl]; exact hbj')
              by_cases h43 : (43 : Int) ≤ (j : Int) - (i : Int)
              · go_wp2_with (first | (go_at_call 10; refine (isB64Byte_any s[j].toNat _ hjb).mono ?_; rintro e w' ⟨rfl, hw'⟩; have hw2 := hw'.symm; subst hw2) | (at_builtin; refine Lib.wpList_append_own_string _ rfl _ _ 26 9 rfl w.heap.size 5 i0 Try.underlying26 Try.underlying9 hi0 hz0 hz1 hz2 _ _ _ rfl (unhide hown) markS rfl ?d3x ?d4x (unhide hbel).size ?_))
                case d3x => rw [show markS.size = 10 from rfl]; unfold maxLen; omega
                case d4x => rw [show markS.size = 10 from rfl]; omega
                intro v' w2 hown2 hgr2 _
                have HO2 := hide hown2
                have HB2 := hide ((unhide hbel).grown hgr2 (unhide hbel).size (fun k hk => ((unhide hown).lt k hk).1))
                clear hown2 hgr2
                go_wp2
                go_roundw
                case rel =>
                  refine ⟨j, o ++ PRed.mark, by omega, rfl, hide (minv_long (unhide hI) (unhide hrun) hij (by rw [unhide HL]; exact hjn) (unhide HNB) (by omega)), hide ?_, HB2⟩
                  have h := unhide HO2
                  rw [cells_lst, cells_app] at h
                  rw [List.length_append]
                  exact h
                case measure => simp [intOf]; omega
              · go_wp2_with (first | (go_at_call 10; refine (isB64Byte_any s[j].toNat _ hjb).mono ?_; rintro e w' ⟨rfl, hw'⟩; have hw2 := hw'.symm; subst hw2) | (at_builtin; refine Lib.wpList_append_own_string _ rfl _ _ 26 9 rfl w.heap.size 5 i0 Try.underlying26 Try.underlying9 hi0 hz0 hz1 hz2 _ _ _ rfl (unhide hown) (s.extract i j) rfl ?d5x ?d6x (unhide hbel).size ?_))
                case d5x => unfold maxLen; first | omega | (rw [ByteArray.size_extract]; omega)
                case d6x => first | omega | (rw [ByteArray.size_extract]; omega)
                intro v' w2 hown2 hgr2 _
                have HO2 := hide hown2
                have HB2 := hide ((unhide hbel).grown hgr2 (unhide hbel).size (fun k hk => ((unhide hown).lt k hk).1))
                clear hown2 hgr2
                go_wp2
                go_roundw
                case rel =>
                  refine ⟨j, o ++ seg S i j, by omega, rfl, hide (minv_short (unhide hI) (unhide hrun) hij (by rw [unhide HL]; exact hjn) (unhide HNB) (by omega)), hide ?_, HB2⟩
                  have h := unhide HO2
                  rw [cells_lst, cells_app, lst_extract, ← unhide HS] at h
                  rw [List.length_append, seg_len S i j (by rw [unhide HL]; exact hjn)]
                  exact h
                case measure => simp [intOf]; omega
          · have HNB : Hid (∀ (h : j < S.length), isB S[j] = false) := hide (fun h => by rw [unhide HL] at h; omega)
            have hjlI : ¬ (j : Int) < (s.size : Int) := by omega
            clear hfirst
            by_cases h43 : (43 : Int) ≤ (j : Int) - (i : Int)
            · go_wp2_with (at_builtin; refine Lib.wpList_append_own_string _ rfl _ _ 26 9 rfl w.heap.size 5 i0 Try.underlying26 Try.underlying9 hi0 hz0 hz1 hz2 _ _ _ rfl (unhide hown) markS rfl ?d3y ?d4y (unhide hbel).size ?_)
              case d3y => rw [show markS.size = 10 from rfl]; unfold maxLen; omega
              case d4y => rw [show markS.size = 10 from rfl]; omega
              intro v' w2 hown2 hgr2 _
              have HO2 := hide hown2
              have HB2 := hide ((unhide hbel).grown hgr2 (unhide hbel).size (fun k hk => ((unhide hown).lt k hk).1))
              clear hown2 hgr2
              go_wp2
              go_roundw
              case rel =>
                refine ⟨j, o ++ PRed.mark, by omega, rfl, hide (minv_long (unhide hI) (unhide hrun) hij (by rw [unhide HL]; exact hjn) (unhide HNB) (by omega)), hide ?_, HB2⟩
                have h := unhide HO2
                rw [cells_lst, cells_app] at h
                rw [List.length_append]
                exact h
              case measure => simp [intOf]; omega
            · go_wp2_with (at_builtin; refine Lib.wpList_append_own_string _ rfl _ _ 26 9 rfl w.heap.size 5 i0 Try.underlying26 Try.underlying9 hi0 hz0 hz1 hz2 _ _ _ rfl (unhide hown) (s.extract i j) rfl ?d5y ?d6y (unhide hbel).size ?_)
              case d5y => unfold maxLen; first | omega | (rw [ByteArray.size_extract]; omega)
              case d6y => first | omega | (rw [ByteArray.size_extract]; omega)
              intro v' w2 hown2 hgr2 _
              have HO2 := hide hown2
              have HB2 := hide ((unhide hbel).grown hgr2 (unhide hbel).size (fun k hk => ((unhide hown).lt k hk).1))
              clear hown2 hgr2
              go_wp2
              go_roundw
              case rel =>
                refine ⟨j, o ++ seg S i j, by omega, rfl, hide (minv_short (unhide hI) (unhide hrun) hij (by rw [unhide HL]; exact hjn) (unhide HNB) (by omega)), hide ?_, HB2⟩
                have h := unhide HO2
                rw [cells_lst, cells_app, lst_extract, ← unhide HS] at h
                rw [List.length_append, seg_len S i j (by rw [unhide HL]; exact hjn)]
                exact h
              case measure => simp [intOf]; omega
      · have hb' : isN s[i].toNat = false := by simpa using hb
        clear hb
        have HN : Hid (isB (S[i]'(unhide HIS)) = false) := hide (by rw [unhide HBI i hlt]; exact hb')
        have HC : Hid ([Value.int .u8 s[i].toNat] = Lib.byteCells [S[i]'(unhide HIS)]) := hide (by
          have hS := unhide HS
          subst hS
          rfl)
        go_wp2_with (first | (go_at_call 10; refine (isB64Byte_any s[i].toNat _ hcb).mono ?_; rintro e w' ⟨rfl, hw'⟩; have hw2 := hw'.symm; subst hw2) | (at_builtin; refine wpList_append_own _ rfl _ _ 26 rfl w.heap.size 5 i0 (.int .u8 0) 1 1 Try.underlying26 hi0 hz0 hz1 hz2 rfl (by decide) _ _ _ rfl ((unhide hown).alloc _) ⟨wr.heap.size, 0, none⟩ 1 1 [.int .u8 s[i].toNat] rfl rfl ?c3 ?c4 ?c5 ?c6 ?c7 ?_))
        case c3 => intro t u ht; match t, ht with | 0, ht => (simp at ht; subst ht; simp [Addr.add])
        case c4 => intro u hu; simp at hu; subst hu; rfl
        case c5 => unfold maxLen; omega
        case c6 => omega
        case c7 => have := (unhide hbel).size; simp; omega
        intro v' w2 hown2 hgr2 _
        have HO2 := hide hown2
        have HB2 := hide (((unhide hbel).alloc (unhide hbel).size _).grown hgr2 (by have := (unhide hbel).size; simp; omega) (fun k hk => ((unhide hown).lt k hk).1))
        clear hown2 hgr2
        go_wp2
        go_roundw
        case rel =>
          refine ⟨i + 1, o ++ [S[i]'(unhide HIS)], by omega, by go_num, hide (minv_skip (unhide hI) (unhide HIS) (unhide HN)), hide ?_, HB2⟩
          have h := unhide HO2
          rw [unhide HC, cells_app] at h
          rw [List.length_append]
          exact h
        case measure => simp [intOf]; omega
    · have hR := minv_end (unhide hI) (by rw [unhide HL]; exact hlt)
      have cv := conv_own (unhide hown)
      rw [← hR] at cv
      have HRR := hide hR
      clear hR
      go_wp2
      go_ret
      exact ⟨ret_str (unhide HR).symm, unhide hbel⟩
end Go.Proofs.Qxb6605569a
