import Derived.Test.Qxb6600526aWb
namespace Go.Proofs.Qxb6600526a
open Go.RowKit P6

/-! ### a decimal byte -/
def decAns : Option Nat → Ending
  | some d => .returned (.tuple #[.int .u8 d, .bool true])
  | none => .returned (.tuple #[.int .u8 0, .bool false])
theorem decAll_none {v : Nat} {c : UInt8} {l : List UInt8} (h : ¬ (48 ≤ c.toNat ∧ c.toNat ≤ 57)) : decAll v (c :: l) = none := by
  rw [decAll, if_neg (by simp [isD]; omega)]
theorem decAll_some {v : Nat} {c : UInt8} {l : List UInt8} (h1 : 48 ≤ c.toNat) (h2 : c.toNat ≤ 57) : decAll v (c :: l) = decAll (v * 10 + (c.toNat - 48)) l := by
  rw [decAll, if_pos (by simp [isD, h1, h2])]
def dec255 : Option Nat → Option Nat
  | some v => if 255 < v then none else some v
  | none => none
theorem size_zero {s : ByteArray} (h0 : s.size = 0) : s = ByteArray.empty := by
  apply ByteArray.ext
  exact Array.eq_empty_of_size_eq_zero (by simpa using h0)
theorem L_head (s : ByteArray) (h : 0 < s.size) : (L s).head? = some s[0] := by
  have := L_drop s 0 h
  rw [List.drop_zero] at this
  rw [this]; rfl

set_option maxHeartbeats 2000000 in
theorem decByte_any (s : ByteArray) (w : World) (hs : s.size ≤ maxLen) (x : Option Nat) (hx : decB (L s) = x) :
    Calls Try.prog 60 #[.string s] w fun e w' => e = decAns x ∧ w' = w := by
  unfold maxLen at hs
  by_cases h0 : s.size = 0
  · have e : none = x := by rw [← hx, decB, if_pos (Or.inl (by rw [L_length]; exact h0))]
    subst e
    obtain rfl := size_zero h0
    go_enter Try.func60, Try.ntmps60
    go_wp2
    go_ret2
    exact ⟨rfl, rfl⟩
  · have hp : 0 < s.size := by omega
    have h1 := size_ne hp
    have h2 := size_b hp
    by_cases h4 : 3 < s.size
    · have e : none = x := by rw [← hx, decB, if_pos (Or.inr (by rw [L_length]; exact h4))]
      subst e
      go_enter Try.func60, Try.ntmps60
      go_wp2
      go_ret2
      exact ⟨rfl, rfl⟩
    · by_cases h5 : 1 < s.size ∧ s[0].toNat = 48
      · obtain ⟨h5, h6⟩ := h5
        have e : none = x := by
          rw [← hx, decB, if_neg (by rw [L_length]; omega), if_pos ⟨by rw [L_length]; exact h5, by rw [L_head s hp]; simp [h6]⟩]
        subst e
        go_enter Try.func60, Try.ntmps60
        go_wp2
        go_ret2
        exact ⟨rfl, rfl⟩
      · have e : Hid (dec255 (decAll 0 (L s)) = x) := hide (by
          rw [← hx, decB, if_neg (by rw [L_length]; omega), if_neg (by rw [L_length, L_head s hp]; simpa using h5)]
          rfl)
        by_cases h6 : 1 < s.size
        · have h7 : s[0].toNat ≠ 48 := fun h => h5 ⟨h6, h⟩
          have h8 : ((s[0].toNat : Int) == 48) = false := beq_eq_false_iff_ne.2 (by omega)
          go_enter Try.func60, Try.ntmps60
          go_wp2
          go_loop [4, 5] (fun a b => ∃ v n : Nat, a = .int .i64 v ∧ b = .int .i64 n ∧ n ≤ s.size ∧ v < 10 ^ n ∧ Hid (dec255 (decAll v ((L s).drop n)) = x)) (fun _ b => ((s.size : Int) - intOf b).toNat)
          case atStart => exact ⟨0, 0, rfl, rfl, by omega, by simp, hide (by simpa using unhide e)⟩
          case round =>
            obtain ⟨v, n, rfl, rfl, hn, hv, hr⟩ := hrel
            clear e
            by_cases hlt : n < s.size
            · have hp10 : 10 ^ n ≤ 10 ^ 2 := Nat.pow_le_pow_right (by omega) (by omega)
              have hv' : v < 100 := by omega
              by_cases ha : 48 ≤ s[n].toNat
              · by_cases hb : s[n].toNat ≤ 57
                · have e : Hid (dec255 (decAll (v * 10 + (s[n].toNat - 48)) ((L s).drop (n + 1))) = x) := hide (by have := unhide hr; rw [L_drop s n hlt, decAll_some ha hb] at this; exact this)
                  clear hr hp10
                  go_wp2
                  go_round
                  case rel => exact ⟨v * 10 + (s[n].toNat - 48), n + 1, by simp; omega, by simp, by omega, by rw [Nat.pow_succ]; omega, e⟩
                  case measure => simp [intOf]; omega
                · have e : Hid (none = x) := hide (by have := unhide hr; rw [L_drop s n hlt, decAll_none (by omega)] at this; exact this)
                  clear hr hp10
                  go_wp2
                  go_ret2
                  have := unhide e
                  subst this
                  exact ⟨rfl, rfl⟩
              · have e : Hid (none = x) := hide (by have := unhide hr; rw [L_drop s n hlt, decAll_none (by omega)] at this; exact this)
                clear hr hp10
                go_wp2
                go_ret2
                have := unhide e
                subst this
                exact ⟨rfl, rfl⟩
            · by_cases h255 : 255 < v
              · have e : Hid (none = x) := hide (by have := unhide hr; rw [L_end s n (by omega), decAll, dec255, if_pos h255] at this; exact this)
                clear hr
                go_wp2
                go_ret2
                have := unhide e
                subst this
                exact ⟨rfl, rfl⟩
              · have e : Hid (some v = x) := hide (by have := unhide hr; rw [L_end s n (by omega), decAll, dec255, if_neg h255] at this; exact this)
                clear hr
                go_wp2
                go_ret2
                have := unhide e
                subst this
                exact ⟨by simp [decAns], rfl⟩
        · go_enter Try.func60, Try.ntmps60
          go_wp2
          go_loop [4, 5] (fun a b => ∃ v n : Nat, a = .int .i64 v ∧ b = .int .i64 n ∧ n ≤ s.size ∧ v < 10 ^ n ∧ Hid (dec255 (decAll v ((L s).drop n)) = x)) (fun _ b => ((s.size : Int) - intOf b).toNat)
          case atStart => exact ⟨0, 0, rfl, rfl, by omega, by simp, hide (by simpa using unhide e)⟩
          case round =>
            obtain ⟨v, n, rfl, rfl, hn, hv, hr⟩ := hrel
            clear e
            by_cases hlt : n < s.size
            · have hp10 : 10 ^ n ≤ 10 ^ 2 := Nat.pow_le_pow_right (by omega) (by omega)
              have hv' : v < 100 := by omega
              by_cases ha : 48 ≤ s[n].toNat
              · by_cases hb : s[n].toNat ≤ 57
                · have e : Hid (dec255 (decAll (v * 10 + (s[n].toNat - 48)) ((L s).drop (n + 1))) = x) := hide (by have := unhide hr; rw [L_drop s n hlt, decAll_some ha hb] at this; exact this)
                  clear hr hp10
                  go_wp2
                  go_round
                  case rel => exact ⟨v * 10 + (s[n].toNat - 48), n + 1, by simp; omega, by simp, by omega, by rw [Nat.pow_succ]; omega, e⟩
                  case measure => simp [intOf]; omega
                · have e : Hid (none = x) := hide (by have := unhide hr; rw [L_drop s n hlt, decAll_none (by omega)] at this; exact this)
                  clear hr hp10
                  go_wp2
                  go_ret2
                  have := unhide e
                  subst this
                  exact ⟨rfl, rfl⟩
              · have e : Hid (none = x) := hide (by have := unhide hr; rw [L_drop s n hlt, decAll_none (by omega)] at this; exact this)
                clear hr hp10
                go_wp2
                go_ret2
                have := unhide e
                subst this
                exact ⟨rfl, rfl⟩
            · by_cases h255 : 255 < v
              · have e : Hid (none = x) := hide (by have := unhide hr; rw [L_end s n (by omega), decAll, dec255, if_pos h255] at this; exact this)
                clear hr
                go_wp2
                go_ret2
                have := unhide e
                subst this
                exact ⟨rfl, rfl⟩
              · have e : Hid (some v = x) := hide (by have := unhide hr; rw [L_end s n (by omega), decAll, dec255, if_neg h255] at this; exact this)
                clear hr
                go_wp2
                go_ret2
                have := unhide e
                subst this
                exact ⟨by simp [decAns], rfl⟩

/-! ### the double colon at the head -/
def pre2 (s p : ByteArray) : Bool := decide (p.size ≤ s.size) && ((s.extract 0 p.size).toList == p.toList)
set_option linter.unusedVariables false in
set_option maxHeartbeats 400000 in
theorem slHasPrefix_any (s p : ByteArray) (w : World) (hs : s.size ≤ maxLen) (hp : p.size ≤ maxLen) :
    Calls Try.prog 52 #[.string s, .string p] w fun e w' => e = .returned (.bool (pre2 s p)) ∧ w' = w := by
  unfold maxLen at hs hp
  by_cases h : p.size ≤ s.size
  · have e : pre2 s p = ((s.extract 0 p.size).toList == p.toList) := by simp [pre2, h]
    rw [e]
    go_enter Try.func52, Try.ntmps52
    go_wp2
    go_ret
    exact ⟨rfl, rfl⟩
  · have e : pre2 s p = false := by simp [pre2, h]
    rw [e]
    go_enter Try.func52, Try.ntmps52
    go_wp2
    go_ret
    exact ⟨rfl, rfl⟩
set_option linter.unusedVariables false in
set_option maxHeartbeats 400000 in
theorem hasPrefix_any (s p : ByteArray) (w : World) (hs : s.size ≤ maxLen) (hp : p.size ≤ maxLen) :
    Calls Try.prog 41 #[.string s, .string p] w fun e w' => e = .returned (.bool (pre2 s p)) ∧ w' = w := by
  go_enter Try.func41, Try.ntmps41
  go_wp2_with (go_at_call 52; refine (slHasPrefix_any s p w hs hp).mono ?_; rintro e' w' ⟨rfl, rfl⟩)
  go_ret
  exact ⟨rfl, rfl⟩
theorem L_toList (s : ByteArray) : s.toList = L s := by
  rw [ByteArray.toList_eq]; rfl
theorem L_extract (s : ByteArray) (a b : Nat) : L (s.extract a b) = ((L s).drop a).take (b - a) := by
  unfold L
  rw [ByteArray.data_extract, Array.toList_extract, List.extract_eq_take_drop]
theorem L_from (s : ByteArray) (a b : Nat) (hb : s.size ≤ b) : L (s.extract a b) = (L s).drop a := by
  rw [L_extract, List.take_of_length_le]
  rw [List.length_drop, L_length]; omega
theorem pre2_cc (s : ByteArray) : pre2 s ⟨#[58, 58]⟩ = (P6.start (L s)).1.isSome := by
  unfold pre2
  rw [L_toList, L_toList, L_extract, ← L_length]
  show (decide (2 ≤ (L s).length) && (((L s).drop 0).take 2 == [58, 58])) = _
  match L s with
  | [] => rfl
  | [c] => rfl
  | c :: d :: l =>
    by_cases h : c.toNat = 58 ∧ d.toNat = 58
    · obtain ⟨h1, h2⟩ := h
      rw [P6.start, if_pos ⟨h1, h2⟩]
      obtain rfl : c = 58 := UInt8.toNat_inj.1 (by rw [h1]; rfl)
      obtain rfl : d = 58 := UInt8.toNat_inj.1 (by rw [h2]; rfl)
      simp
    · rw [P6.start, if_neg h]
      have : ¬ (c = 58 ∧ d = 58) := fun e => h ⟨by rw [e.1]; rfl, by rw [e.2]; rfl⟩
      simp
      intro e
      exact fun e2 => this ⟨e, e2⟩
end Go.Proofs.Qxb6600526a
