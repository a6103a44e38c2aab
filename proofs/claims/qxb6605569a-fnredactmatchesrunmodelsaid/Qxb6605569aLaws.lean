/-
  The walks of longestRun and of the two laws over one text.
-/
import Derived.Test.Qxb6605569aModel
namespace Go.Proofs.Qxb6605569a
open Go.RowKit
open PRed (isN isB R red flush lr)

theorem ret_int {k : IntKind} {a b : Int} (h : a = b) : Ending.returned (.int k a) = .returned (.int k b) := by rw [h]

theorem modelBytes_any (s : ByteArray) (w : World) (hs : s.size ≤ maxLen) :
    Calls Try.prog 6 #[.string s] w fun e w' => e = .returned (.bool (decide (s.size ≤ 1048576))) ∧ w' = w := by
  unfold maxLen at hs
  by_cases h : 1048576 < s.size
  · have e : decide (s.size ≤ 1048576) = false := by simp; omega
    rw [e]
    go_enter Try.func6, Try.ntmps6
    go_wp2
    go_ret
    exact ⟨rfl, rfl⟩
  · have e : decide (s.size ≤ 1048576) = true := by simp; omega
    rw [e]
    go_enter Try.func6, Try.ntmps6
    go_wp2
    go_ret
    exact ⟨rfl, rfl⟩
theorem leavesBytes_any (s : ByteArray) (w : World) (hs : s.size ≤ maxLen) :
    Calls Try.prog 11 #[.string s] w fun e w' => e = .returned (.bool (decide (s.size ≤ 1048576))) ∧ w' = w := by
  unfold maxLen at hs
  by_cases h : 1048576 < s.size
  · have e : decide (s.size ≤ 1048576) = false := by simp; omega
    rw [e]
    go_enter Try.func11, Try.ntmps11
    go_wp2
    go_ret
    exact ⟨rfl, rfl⟩
  · have e : decide (s.size ≤ 1048576) = true := by simp; omega
    rw [e]
    go_enter Try.func11, Try.ntmps11
    go_wp2
    go_ret
    exact ⟨rfl, rfl⟩

theorem lr_yes (b k : Nat) (c : UInt8) (l : List UInt8) (h : isB c = true) : lr b k (c :: l) = lr (if b < k + 1 then k + 1 else b) (k + 1) l := by rw [lr, if_pos h]
theorem lr_no (b k : Nat) (c : UInt8) (l : List UInt8) (h : isB c = false) : lr b k (c :: l) = lr b 0 l := by rw [lr, if_neg (by simp [h])]

set_option maxHeartbeats 1000000 in
theorem longest_any (s : ByteArray) (w : World) (hs : s.size ≤ 4194304) :
    Calls Try.prog 12 #[.string s] w fun e w' => e = .returned (.int .i64 (lr 0 0 (lst s))) ∧ w' = w := by
  obtain ⟨S, hS⟩ : ∃ S, S = lst s := ⟨_, rfl⟩
  rw [← hS]
  have HL : Hid (S.length = s.size) := hide (by rw [hS]; exact len_lst s)
  have HBI : Hid (∀ i (h : i < s.size) (h' : i < S.length), isB (S[i]'h') = isN s[i].toNat) := hide (fun i h h' => by
    subst hS
    exact isB_at s i h h')
  clear hS
  go_enter Try.func12, Try.ntmps12
  go_wp2
  go_loop [3, 4, 5] (fun x3 x4 x5 => ∃ b k i : Nat, i ≤ s.size ∧ b ≤ i ∧ k ≤ i ∧ x3 = .int .i64 b ∧ x4 = .int .i64 k ∧ x5 = .int .i64 i ∧ Hid (lr 0 0 S = lr b k (S.drop i))) (fun _ _ x5 => s.size - (intOf x5).toNat)
  case atStart => exact ⟨0, 0, 0, by omega, by omega, by omega, rfl, rfl, rfl, hide (by simp)⟩
  case round =>
    obtain ⟨b, k, i, hi, hb, hk, rfl, rfl, rfl, hI⟩ := hrel
    by_cases hlt : i < s.size
    · have hcb : s[i].toNat ≤ 255 := by have := s[i].toNat_lt; omega
      have hiS : i < S.length := by rw [unhide HL]; exact hlt
      have HIS := hide hiS
      clear hiS
      have HD := hide (drop_one S i (unhide HIS))
      by_cases hc : isN s[i].toNat = true
      · have HN : Hid (isB (S[i]'(unhide HIS)) = true) := hide (by rw [unhide HBI i hlt]; exact hc)
        by_cases hbk : b < k + 1
        · go_wp2_with (go_at_call 10; refine (isB64Byte_any s[i].toNat _ hcb).mono ?_; rintro e w' ⟨rfl, hw'⟩; have hw2 := hw'.symm; subst hw2)
          go_round
          case rel => exact ⟨k + 1, k + 1, i + 1, by omega, by omega, by omega, by go_num, by go_num, by go_num, hide (by rw [unhide hI, unhide HD, lr_yes _ _ _ _ (unhide HN), if_pos hbk])⟩
          case measure => simp [intOf]; omega
        · go_wp2_with (go_at_call 10; refine (isB64Byte_any s[i].toNat _ hcb).mono ?_; rintro e w' ⟨rfl, hw'⟩; have hw2 := hw'.symm; subst hw2)
          go_round
          case rel => exact ⟨b, k + 1, i + 1, by omega, by omega, by omega, by go_num, by go_num, by go_num, hide (by rw [unhide hI, unhide HD, lr_yes _ _ _ _ (unhide HN), if_neg hbk])⟩
          case measure => simp [intOf]; omega
      · have hc' : isN s[i].toNat = false := by simpa using hc
        clear hc
        have HN : Hid (isB (S[i]'(unhide HIS)) = false) := hide (by rw [unhide HBI i hlt]; exact hc')
        go_wp2_with (go_at_call 10; refine (isB64Byte_any s[i].toNat _ hcb).mono ?_; rintro e w' ⟨rfl, hw'⟩; have hw2 := hw'.symm; subst hw2)
        go_round
        case rel => exact ⟨b, 0, i + 1, by omega, by omega, by omega, by go_num, by go_num, by go_num, hide (by rw [unhide hI, unhide HD, lr_no _ _ _ _ (unhide HN)])⟩
        case measure => simp [intOf]; omega
    · go_wp2
      go_ret
      have h := unhide hI
      rw [List.drop_eq_nil_of_le (by rw [unhide HL]; omega)] at h
      exact ⟨ret_int (by rw [h]; rfl), rfl⟩

set_option maxHeartbeats 1000000 in
theorem model_walk (s : ByteArray) (w : World) (hs : s.size ≤ maxLen) :
    Calls Try.prog 3 #[.string s] w fun e w' => e = .returned (.bool true) ∧ Below w.heap.size w w' := by
  by_cases h : 1048576 < s.size
  · have hd : decide (s.size ≤ 1048576) = false := by simp; omega
    go_enter Try.func3, Try.ntmps3
    go_wp2_with fail
    refine (modelBytes_any s _ hs).mono ?_
    rintro e w' ⟨rfl, rfl⟩
    go_wp2
    go_ret
    exact ⟨rfl, Below.refl _ _⟩
  · have hd : decide (s.size ≤ 1048576) = true := by simp; omega
    go_enter Try.func3, Try.ntmps3
    go_wp2_with fail
    refine (modelBytes_any s _ hs).mono ?_
    rintro e w' ⟨rfl, hw'⟩
    have hw2 := hw'.symm
    subst hw2
    go_wp2_with fail
    refine (redact_any s _ (by omega)).mono ?_
    rintro e w1 ⟨rfl, hb1⟩
    have Hb1 := hide hb1
    clear hb1
    go_wp2_with fail
    refine (model_any s _ (by omega)).mono ?_
    rintro e w2 ⟨rfl, hb2⟩
    have Hb2 := hide ((unhide Hb1).trans (hb2.mono (unhide Hb1).size))
    clear hb2
    go_wp2
    go_ret
    exact ⟨rfl, unhide Hb2⟩

theorem redact_at' (t s : ByteArray) (w : World) (hs : s.size ≤ 4194304) (ht : redS s = t) :
    Calls Try.prog 7 #[.string s] w fun e w' => e = .returned (.string t) ∧ Below w.heap.size w w' := by
  subst ht; exact redact_any s w hs
theorem longest_at (n : Nat) (s : ByteArray) (w : World) (hs : s.size ≤ 4194304) (hn : lr 0 0 (lst s) = n) :
    Calls Try.prog 12 #[.string s] w fun e w' => e = .returned (.int .i64 n) ∧ w' = w := by
  subst hn; exact longest_any s w hs
theorem size_redS' (s : ByteArray) : (redS s).size ≤ s.size := by
  have := PRed.R_le (lst s)
  rw [← len_lst s, ← len_lst (redS s), lst_redS]; exact this
theorem twice (s : ByteArray) : redS (redS s) = redS s := by
  apply bytes_ext; rw [lst_redS, lst_redS, PRed.R_twice]
theorem short_runs (s : ByteArray) : lr 0 0 (lst (redS s)) < 43 := (PRed.lr_ok _ 0 0 (by omega)).2 (by rw [lst_redS]; exact PRed.ok_red _ _)
theorem stays (s : ByteArray) (h : lr 0 0 (lst s) < 43) : redS s = s := by
  apply bytes_ext; rw [lst_redS]; exact PRed.R_ok _ ((PRed.lr_ok _ 0 0 (by omega)).1 h)
theorem shrinks (s : ByteArray) (h : ¬ lr 0 0 (lst s) < 43) : (redS s).size + 33 ≤ s.size := by
  rw [← len_lst s, ← len_lst (redS s), lst_redS]
  refine PRed.R_long _ ?_
  cases ho : PRed.okR 0 (lst s) with
  | false => rfl
  | true => exact absurd ((PRed.lr_ok _ 0 0 (by omega)).2 ho) h

set_option maxHeartbeats 1000000 in
theorem leaves_walk (s : ByteArray) (w : World) (hs : s.size ≤ maxLen) :
    Calls Try.prog 5 #[.string s] w fun e w' => e = .returned (.bool true) ∧ Below w.heap.size w w' := by
  by_cases h : 1048576 < s.size
  · have hd : decide (s.size ≤ 1048576) = false := by simp; omega
    go_enter Try.func5, Try.ntmps5
    go_wp2_with fail
    refine (leavesBytes_any s _ hs).mono ?_
    rintro e w' ⟨rfl, rfl⟩
    go_wp2
    go_ret
    exact ⟨rfl, Below.refl _ _⟩
  · have hd : decide (s.size ≤ 1048576) = true := by simp; omega
    obtain ⟨m, hm⟩ : ∃ m, lr 0 0 (lst (redS s)) = m := ⟨_, rfl⟩
    obtain ⟨n, hn⟩ : ∃ n, lr 0 0 (lst s) = n := ⟨_, rfl⟩
    have hm43 : m < 43 := by rw [← hm]; exact short_runs s
    have Hm := hide hm
    have Hn := hide hn
    have H2 := hide (twice s)
    have hz := size_redS' s
    by_cases hn43 : n < 43
    · have H1 := hide (stays s (by rw [hn]; exact hn43))
      clear hm hn
      go_enter Try.func5, Try.ntmps5
      go_wp2_with fail
      refine (leavesBytes_any s _ hs).mono ?_
      rintro e w' ⟨rfl, hw'⟩
      have hw2 := hw'.symm
      subst hw2
      go_wp2_with fail
      refine (redact_at' s s _ (by omega) (unhide H1)).mono ?_
      rintro e w1 ⟨rfl, hb1⟩
      have Hb1 := hide hb1
      clear hb1
      go_wp2_with fail
      refine (longest_at n s _ (by omega) (unhide Hn)).mono ?_
      rintro e w' ⟨rfl, hw'⟩
      have hw2 := hw'.symm
      subst hw2
      go_wp2_with fail
      refine (redact_at' s s _ (by omega) (unhide H1)).mono ?_
      rintro e w2 ⟨rfl, hb2⟩
      have Hb2 := hide ((unhide Hb1).trans (hb2.mono (unhide Hb1).size))
      clear hb2
      go_wp2_with fail
      refine (longest_at n s _ (by omega) (unhide Hn)).mono ?_
      rintro e w' ⟨rfl, hw'⟩
      have hw2 := hw'.symm
      subst hw2
      go_wp2
      go_ret
      exact ⟨rfl, unhide Hb2⟩
    · have hsh := shrinks s (by rw [hn]; exact hn43)
      clear hm hn
      go_enter Try.func5, Try.ntmps5
      go_wp2_with fail
      refine (leavesBytes_any s _ hs).mono ?_
      rintro e w' ⟨rfl, hw'⟩
      have hw2 := hw'.symm
      subst hw2
      go_wp2_with fail
      refine (redact_any s _ (by omega)).mono ?_
      rintro e w1 ⟨rfl, hb1⟩
      have Hb1 := hide hb1
      clear hb1
      go_wp2_with fail
      refine (longest_at m (redS s) _ (by omega) (unhide Hm)).mono ?_
      rintro e w' ⟨rfl, hw'⟩
      have hw2 := hw'.symm
      subst hw2
      go_wp2_with fail
      refine (redact_at' (redS s) (redS s) _ (by omega) (unhide H2)).mono ?_
      rintro e w2 ⟨rfl, hb2⟩
      have Hb2 := hide ((unhide Hb1).trans (hb2.mono (unhide Hb1).size))
      clear hb2
      go_wp2_with fail
      refine (longest_at n s _ (by omega) (unhide Hn)).mono ?_
      rintro e w' ⟨rfl, hw'⟩
      have hw2 := hw'.symm
      subst hw2
      go_wp2
      go_ret
      exact ⟨ret_bool (by first | rfl | (simp; omega)), unhide Hb2⟩
end Go.Proofs.Qxb6605569a
