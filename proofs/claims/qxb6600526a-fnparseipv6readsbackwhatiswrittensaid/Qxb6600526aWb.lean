import Derived.Test.Qxb6600526aWa
namespace Go.Proofs.Qxb6600526a
open Go.RowKit P6

theorem size_ne {s : ByteArray} (h : 0 < s.size) : ¬ s = ByteArray.empty := by
  intro e; subst e; simp at h
theorem size_b {s : ByteArray} (h : 0 < s.size) : ((s.size : Int) == 0) = false := beq_eq_false_iff_ne.2 (by omega)

/-! ### the bound -/
set_option maxHeartbeats 400000 in
theorem zzBytes_any (s : ByteArray) (w : World) (hs : s.size ≤ maxLen) :
    Calls Try.prog 26 #[.string s] w fun e w' => e = .returned (.bool (decide (s.size ≤ 1048576))) ∧ w' = w := by
  unfold maxLen at hs
  by_cases h : 1048576 < s.size
  · have e : decide (s.size ≤ 1048576) = false := by simp; omega
    rw [e]
    go_enter Try.func26, Try.ntmps26
    go_wp2
    go_ret
    exact ⟨rfl, rfl⟩
  · have e : decide (s.size ≤ 1048576) = true := by simp; omega
    rw [e]
    go_enter Try.func26, Try.ntmps26
    go_wp2
    go_ret
    exact ⟨rfl, rfl⟩

/-! ### the first double colon -/
def idxAns : Option (List UInt8 × List UInt8) → Int
  | some (l, _) => l.length
  | none => -1
theorem cut2_one (c : UInt8) : cut2 [c] = none := by simp [cut2]
theorem cut2_yes {c d : UInt8} {l : List UInt8} (h1 : c.toNat = 58) (h2 : d.toNat = 58) : cut2 (c :: d :: l) = some ([], l) := by
  rw [cut2, if_pos ⟨h1, h2⟩]
theorem cut2_no {c d : UInt8} {l : List UInt8} (h : ¬ (c.toNat = 58 ∧ d.toNat = 58)) : cut2 (c :: d :: l) = (cut2 (d :: l)).map fun p => (c :: p.1, p.2) := by
  rw [cut2, if_neg h]
/-- The cut from k on, with k bytes ahead. -/
def idxFrom (k : Nat) (l : List UInt8) : Int := match cut2 l with
  | some (a, _) => k + a.length
  | none => -1
theorem idxFrom_no {c d : UInt8} {l : List UInt8} {k : Nat} (h : ¬ (c.toNat = 58 ∧ d.toNat = 58)) : idxFrom k (c :: d :: l) = idxFrom (k + 1) (d :: l) := by
  unfold idxFrom
  rw [cut2_no h]
  cases cut2 (d :: l) with
  | none => rfl
  | some p => simp; omega

set_option maxHeartbeats 1000000 in
theorem index2_any (s : ByteArray) (w : World) (hs : s.size ≤ maxLen) (x : Int) (hx : idxFrom 0 (L s) = x) :
    Calls Try.prog 36 #[.string s] w fun e w' => e = .returned (.int .i64 x) ∧ w' = w := by
  unfold maxLen at hs
  go_enter Try.func36, Try.ntmps36
  go_wp2
  go_loop [3] (fun a => ∃ k : Nat, a = .int .i64 k ∧ (k < s.size ∨ k = 0) ∧ Hid (idxFrom k ((L s).drop k) = x)) (fun a => ((s.size : Int) - intOf a).toNat)
  case atStart => exact ⟨0, rfl, Or.inr rfl, hide (by simpa using hx)⟩
  case round =>
    obtain ⟨k, rfl, hk, hr⟩ := hrel
    by_cases hlt : k + 1 < s.size
    · have hlt' : k < s.size := by omega
      by_cases h1 : s[k].toNat = 58
      · by_cases h2 : s[k + 1].toNat = 58
        · have e : Hid ((k : Int) = x) := hide (by
            have := unhide hr
            rw [L_drop s k hlt', L_drop s (k + 1) hlt] at this
            unfold idxFrom at this
            rw [cut2_yes h1 h2] at this
            simpa using this)
          clear hr
          go_wp2
          go_ret
          have := unhide e
          subst this
          exact ⟨rfl, rfl⟩
        · have e : Hid (idxFrom (k + 1) ((L s).drop (k + 1)) = x) := hide (by
            have := unhide hr
            rw [L_drop s k hlt', L_drop s (k + 1) hlt, idxFrom_no (by omega), ← L_drop s (k + 1) hlt] at this
            exact this)
          clear hr
          go_wp2
          go_round
          case rel => exact ⟨k + 1, by simp, by omega, e⟩
          case measure => simp [intOf]; omega
      · have e : Hid (idxFrom (k + 1) ((L s).drop (k + 1)) = x) := hide (by
            have := unhide hr
            rw [L_drop s k hlt', L_drop s (k + 1) hlt, idxFrom_no (by omega), ← L_drop s (k + 1) hlt] at this
            exact this)
        clear hr
        go_wp2
        go_round
        case rel => exact ⟨k + 1, by simp, by omega, e⟩
        case measure => simp [intOf]; omega
    · have e : Hid ((-1 : Int) = x) := hide (by
        have := unhide hr
        by_cases hlt' : k < s.size
        · rw [L_drop s k hlt', L_end s (k + 1) (by omega)] at this
          unfold idxFrom at this
          rw [cut2_one] at this
          exact this
        · rw [L_end s k (by omega)] at this
          simpa [idxFrom, cut2] using this)
      clear hr
      go_wp2
      go_ret
      have := unhide e
      subst this
      exact ⟨rfl, rfl⟩

/-! ### a byte of a text -/
theorem has_yes {x : Nat} {c : UInt8} {l : List UInt8} (h : c.toNat = x) : hasX x (c :: l) = true := by simp [hasX, h]
theorem has_no {x : Nat} {c : UInt8} {l : List UInt8} (h : c.toNat ≠ x) : hasX x (c :: l) = hasX x l := by simp [hasX, h]

set_option maxHeartbeats 1000000 in
theorem hasByte_any (s : ByteArray) (w : World) (hs : s.size ≤ maxLen) (x : Bool) (hx : hasX 46 (L s) = x) :
    Calls Try.prog 47 #[.string s, .int .u8 46] w fun e w' => e = .returned (.bool x) ∧ w' = w := by
  unfold maxLen at hs
  go_enter Try.func47, Try.ntmps47
  go_wp2
  go_loop [5] (fun a => ∃ k : Nat, a = .int .i64 k ∧ k ≤ s.size ∧ Hid (hasX 46 ((L s).drop k) = x)) (fun a => ((s.size : Int) - intOf a).toNat)
  case atStart => exact ⟨0, rfl, by omega, hide (by simpa using hx)⟩
  case round =>
    obtain ⟨k, rfl, hk, hr⟩ := hrel
    by_cases hlt : k < s.size
    · by_cases h1 : s[k].toNat = 46
      · have e : Hid (true = x) := hide (by have := unhide hr; rw [L_drop s k hlt, has_yes h1] at this; exact this)
        clear hr
        go_wp2
        go_ret
        have := unhide e
        subst this
        exact ⟨rfl, rfl⟩
      · have e : Hid (hasX 46 ((L s).drop (k + 1)) = x) := hide (by have := unhide hr; rw [L_drop s k hlt, has_no h1] at this; exact this)
        clear hr
        go_wp2
        go_round
        case rel => exact ⟨k + 1, by simp, by omega, e⟩
        case measure => simp [intOf]; omega
    · have e : Hid (false = x) := hide (by have := unhide hr; rw [L_end s k (by omega)] at this; simpa [hasX] using this)
      clear hr
      go_wp2
      go_ret
      have := unhide e
      subst this
      exact ⟨rfl, rfl⟩

/-! ### a field of hex digits -/
theorem hexAll_none {v : Nat} {c : UInt8} {l : List UInt8} (h : hexV c = none) : hexAll v (c :: l) = none := by rw [hexAll, h]
theorem hexAll_some {v d : Nat} {c : UInt8} {l : List UInt8} (h : hexV c = some d) : hexAll v (c :: l) = hexAll (v * 16 + d) l := by rw [hexAll, h]

set_option maxHeartbeats 2000000 in
theorem hexField_any (s : ByteArray) (w : World) (hs : s.size ≤ maxLen) (x : Option Nat) (hx : hexF (L s) = x) :
    Calls Try.prog 49 #[.string s] w fun e w' => e = hexAns x ∧ w' = w := by
  unfold maxLen at hs
  by_cases h0 : s.size = 0
  · have e : none = x := by rw [← hx, hexF, if_pos (Or.inl (by rw [L_length]; exact h0))]
    subst e
    obtain rfl : s = ByteArray.empty := by
      apply ByteArray.ext
      exact Array.eq_empty_of_size_eq_zero (by simpa using h0)
    go_enter Try.func49, Try.ntmps49
    go_wp2
    go_ret2
    exact ⟨rfl, rfl⟩
  · have hp : 0 < s.size := by omega
    have h1 := size_ne hp
    have h2 := size_b hp
    by_cases h4 : 4 < s.size
    · have e : none = x := by rw [← hx, hexF, if_pos (Or.inr (by rw [L_length]; exact h4))]
      subst e
      go_enter Try.func49, Try.ntmps49
      go_wp2
      go_ret2
      exact ⟨rfl, rfl⟩
    · have e : hexAll 0 (L s) = x := by rw [← hx, hexF, if_neg (by rw [L_length]; omega)]
      go_enter Try.func49, Try.ntmps49
      go_wp2
      go_loop [4, 5] (fun a b => ∃ v n : Nat, a = .int .i64 v ∧ b = .int .i64 n ∧ n ≤ s.size ∧ v < 16 ^ n ∧ Hid (hexAll v ((L s).drop n) = x)) (fun _ b => ((s.size : Int) - intOf b).toNat)
      case atStart => exact ⟨0, 0, rfl, rfl, by omega, by simp, hide (by simpa using e)⟩
      case round =>
        obtain ⟨v, n, rfl, rfl, hn, hv, hr⟩ := hrel
        by_cases hlt : n < s.size
        · have hp16 : 16 ^ n ≤ 16 ^ 3 := Nat.pow_le_pow_right (by omega) (by omega)
          have hv' : v < 4096 := by omega
          cases hh : hexV s[n] with
          | none =>
            have e : Hid (none = x) := hide (by have := unhide hr; rw [L_drop s n hlt, hexAll_none hh] at this; exact this)
            have hc := hexValue_any s[n] w
            rw [hh] at hc
            clear hr hp16
            go_wp2_with (go_at_call 61; refine hc.mono ?_; rintro e' w' ⟨rfl, rfl⟩; unfold hexAns)
            go_ret2
            have := unhide e
            subst this
            exact ⟨rfl, rfl⟩
          | some d =>
            have hd := hexV_lt hh
            have e : Hid (hexAll (v * 16 + d) ((L s).drop (n + 1)) = x) := hide (by have := unhide hr; rw [L_drop s n hlt, hexAll_some hh] at this; exact this)
            have hc := hexValue_any s[n] w
            rw [hh] at hc
            clear hr hp16
            go_wp2_with (go_at_call 61; refine hc.mono ?_; rintro e' w' ⟨rfl, rfl⟩; unfold hexAns)
            go_round
            case rel => exact ⟨v * 16 + d, n + 1, by simp, by simp, by omega, by rw [Nat.pow_succ]; omega, e⟩
            case measure => simp [intOf]; omega
        · have e : Hid (some v = x) := hide (by have := unhide hr; rw [L_end s n (by omega)] at this; simpa [hexAll] using this)
          clear hr
          go_wp2
          go_ret2
          have := unhide e
          subst this
          exact ⟨rfl, rfl⟩
end Go.Proofs.Qxb6600526a
