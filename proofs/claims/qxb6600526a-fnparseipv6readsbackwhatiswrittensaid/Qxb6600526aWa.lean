import Derived.Test.Qxb6600526aProg
import Derived.Test.Qxb6600526aP6
import Derived.WalkKit
import Derived.Handy
import Derived.WalkSpells
import Derived.WalkLawsBesides
namespace Go.Proofs.Qxb6600526a
open Go.RowKit P6

theorem hide {p : Prop} (h : p) : Hid p := h
theorem unhide {p : Prop} (h : Hid p) : p := h
theorem ret_int {k : IntKind} {a b : Int} (h : a = b) : Ending.returned (.int k a) = .returned (.int k b) := by rw [h]

/-- What the two readings of a hex digit answer. -/
def hexAns : Option Nat → Ending
  | some d => .returned (.tuple #[.int .i64 d, .bool true])
  | none => .returned (.tuple #[.int .i64 0, .bool false])

set_option maxHeartbeats 400000 in
theorem hexDigit_any (c : UInt8) (w : World) :
    Calls Try.prog 45 #[.int .u8 c.toNat] w fun e w' => e = hexAns (hexV c) ∧ w' = w := by
  have hc := c.toNat_lt
  unfold hexV
  by_cases h1 : 48 ≤ c.toNat ∧ c.toNat ≤ 57
  · obtain ⟨ha, hb⟩ := h1
    rw [if_pos ⟨ha, hb⟩]
    go_enter Try.func45, Try.ntmps45
    go_wp2
    go_ret2
    exact ⟨by simp [hexAns]; omega, rfl⟩
  · rw [if_neg h1]
    by_cases h2 : 97 ≤ c.toNat ∧ c.toNat ≤ 102
    · obtain ⟨ha, hb⟩ := h2
      rw [if_pos ⟨ha, hb⟩]
      go_enter Try.func45, Try.ntmps45
      go_wp2
      go_ret2
      exact ⟨by simp [hexAns]; omega, rfl⟩
    · rw [if_neg h2]
      by_cases h3 : 65 ≤ c.toNat ∧ c.toNat ≤ 70
      · obtain ⟨ha, hb⟩ := h3
        rw [if_pos ⟨ha, hb⟩]
        go_enter Try.func45, Try.ntmps45
        go_wp2
        go_ret2
        exact ⟨by simp [hexAns]; omega, rfl⟩
      · rw [if_neg h3]
        go_enter Try.func45, Try.ntmps45
        go_wp2
        all_goals go_ret2
        all_goals exact ⟨rfl, rfl⟩
set_option maxHeartbeats 400000 in
theorem hexValue_any (c : UInt8) (w : World) :
    Calls Try.prog 61 #[.int .u8 c.toNat] w fun e w' => e = hexAns (hexV c) ∧ w' = w := by
  have hc := c.toNat_lt
  unfold hexV
  by_cases h1 : 48 ≤ c.toNat ∧ c.toNat ≤ 57
  · obtain ⟨ha, hb⟩ := h1
    rw [if_pos ⟨ha, hb⟩]
    go_enter Try.func61, Try.ntmps61
    go_wp2
    go_ret2
    exact ⟨by simp [hexAns]; omega, rfl⟩
  · rw [if_neg h1]
    by_cases h2 : 97 ≤ c.toNat ∧ c.toNat ≤ 102
    · obtain ⟨ha, hb⟩ := h2
      rw [if_pos ⟨ha, hb⟩]
      go_enter Try.func61, Try.ntmps61
      go_wp2
      go_ret2
      exact ⟨by simp [hexAns]; omega, rfl⟩
    · rw [if_neg h2]
      by_cases h3 : 65 ≤ c.toNat ∧ c.toNat ≤ 70
      · obtain ⟨ha, hb⟩ := h3
        rw [if_pos ⟨ha, hb⟩]
        go_enter Try.func61, Try.ntmps61
        go_wp2
        go_ret2
        exact ⟨by simp [hexAns]; omega, rfl⟩
      · rw [if_neg h3]
        go_enter Try.func61, Try.ntmps61
        go_wp2
        all_goals go_ret2
        all_goals exact ⟨rfl, rfl⟩

/-- The bytes of a text. -/
def L (s : ByteArray) : List UInt8 := s.data.toList
theorem L_length (s : ByteArray) : (L s).length = s.size := by simp [L]
theorem L_drop (s : ByteArray) (k : Nat) (h : k < s.size) : (L s).drop k = s[k] :: (L s).drop (k + 1) := by
  have h' : k < (L s).length := by rw [L_length]; exact h
  rw [List.drop_eq_getElem_cons h']
  rfl
theorem L_end (s : ByteArray) (k : Nat) (h : s.size ≤ k) : (L s).drop k = [] := List.drop_eq_nil_of_le (by rw [L_length]; exact h)

/-- What readDecimal answers. -/
def rdAns : Option (Nat × Nat) → Ending
  | some (v, n) => .returned (.tuple #[.int .i64 v, .int .i64 n, .bool true])
  | none => .returned (.tuple #[.int .i64 0, .int .i64 0, .bool false])

theorem rd_step1 {v n : Nat} {c : UInt8} {l : List UInt8} (h1 : 48 ≤ c.toNat) (h2 : c.toNat ≤ 57) (h3 : n = 1) (h4 : v = 0) : rd v n (c :: l) = none := by
  have hd : isD c = true := by simp [isD, h1, h2]
  rw [rd, if_pos hd, if_pos ⟨h3, h4⟩]
theorem rd_step2 {v n : Nat} {c : UInt8} {l : List UInt8} (h1 : 48 ≤ c.toNat) (h2 : c.toNat ≤ 57) (h3 : ¬ (n = 1 ∧ v = 0)) (h4 : 255 < v * 10 + (c.toNat - 48)) : rd v n (c :: l) = none := by
  have hd : isD c = true := by simp [isD, h1, h2]
  rw [rd, if_pos hd, if_neg h3, if_pos h4]
theorem rd_step3 {v n : Nat} {c : UInt8} {l : List UInt8} (h1 : 48 ≤ c.toNat) (h2 : c.toNat ≤ 57) (h3 : ¬ (n = 1 ∧ v = 0)) (h4 : ¬ 255 < v * 10 + (c.toNat - 48)) : rd v n (c :: l) = rd (v * 10 + (c.toNat - 48)) (n + 1) l := by
  have hd : isD c = true := by simp [isD, h1, h2]
  rw [rd, if_pos hd, if_neg h3, if_neg h4]
theorem rd_stop {v n : Nat} {c : UInt8} {l : List UInt8} (h : ¬ (48 ≤ c.toNat ∧ c.toNat ≤ 57)) : rd v n (c :: l) = if 0 < n then some (v, n) else none := by
  have hd : ¬ isD c = true := by simp [isD]; omega
  rw [rd, if_neg hd]

set_option maxHeartbeats 4000000 in
theorem readDecimal_any (s : ByteArray) (w : World) (hs : s.size ≤ maxLen) (x : Option (Nat × Nat)) (hx : rd 0 0 (L s) = x) :
    Calls Try.prog 59 #[.string s, .int .i64 255] w fun e w' => e = rdAns x ∧ w' = w := by
  unfold maxLen at hs
  go_enter Try.func59, Try.ntmps59
  go_wp2
  go_loop [4, 5] (fun a b => ∃ v n : Nat, a = .int .i64 v ∧ b = .int .i64 n ∧ n ≤ s.size ∧ v ≤ 255 ∧ (n = 0 → v = 0) ∧ Hid (rd v n ((L s).drop n) = x)) (fun _ b => ((s.size : Int) - intOf b).toNat)
  case atStart => exact ⟨0, 0, rfl, rfl, by omega, by omega, fun _ => rfl, hide (by simpa using hx)⟩
  case round =>
    obtain ⟨v, n, rfl, rfl, hn, hv, h00, hr⟩ := hrel
    have stop : Hid ((if 0 < n then some (v, n) else none) = x) → Hid (Ending.returned (.tuple #[.int .i64 v, .int .i64 n, .bool (decide (0 < n))]) = rdAns x) := by
      intro h
      have h := unhide h
      refine hide ?_
      rw [← h]
      by_cases hp : 0 < n
      · rw [if_pos hp, decide_eq_true hp]; rfl
      · have h0 : n = 0 := by omega
        subst h0
        rw [if_neg (by omega), h00 rfl]; rfl
    by_cases hlt : n < s.size
    · have hd := L_drop s n hlt
      by_cases h1 : 48 ≤ s[n].toNat
      · by_cases h2 : s[n].toNat ≤ 57
        · by_cases h3 : n = 1 ∧ v = 0
          · obtain ⟨rfl, rfl⟩ := h3
            have e : Hid (none = x) := hide (by have := unhide hr; rw [hd, rd_step1 h1 h2 rfl rfl] at this; exact this)
            clear hd stop hr
            go_wp2
            go_ret3
            have := unhide e
            subst this
            exact ⟨rfl, rfl⟩
          · by_cases h4 : 255 < v * 10 + (s[n].toNat - 48)
            · have e : Hid (none = x) := hide (by have := unhide hr; rw [hd, rd_step2 h1 h2 h3 h4] at this; exact this)
              clear hd stop hr
              by_cases h5 : n = 1
              · have h6 : v ≠ 0 := fun h => h3 ⟨h5, h⟩
                subst h5
                go_wp2
                go_ret3
                have := unhide e
                subst this
                exact ⟨rfl, rfl⟩
              · go_wp2
                go_ret3
                have := unhide e
                subst this
                exact ⟨rfl, rfl⟩
            · have e : Hid (rd (v * 10 + (s[n].toNat - 48)) (n + 1) ((L s).drop (n + 1)) = x) := hide (by have := unhide hr; rw [hd, rd_step3 h1 h2 h3 h4] at this; exact this)
              clear hd stop hr
              by_cases h5 : n = 1
              · have h6 : v ≠ 0 := fun h => h3 ⟨h5, h⟩
                subst h5
                go_wp2
                go_round
                case rel => exact ⟨v * 10 + (s[1].toNat - 48), 2, by simp; omega, by simp, by omega, by omega, by omega, e⟩
                case measure => simp [intOf]; omega
              · go_wp2
                go_round
                case rel => exact ⟨v * 10 + (s[n].toNat - 48), n + 1, by simp; omega, by simp, by omega, by omega, by omega, e⟩
                case measure => simp [intOf]; omega
        · have e := stop (hide (by have := unhide hr; rw [hd, rd_stop (by omega)] at this; exact this))
          clear hd stop hr
          go_wp2
          go_ret3
          have e := unhide e
          exact ⟨e, rfl⟩
      · have e := stop (hide (by have := unhide hr; rw [hd, rd_stop (by omega)] at this; exact this))
        clear hd stop hr
        go_wp2
        go_ret3
        have e := unhide e
        exact ⟨e, rfl⟩
    · have e := stop (hide (by have := unhide hr; rw [L_end s n (by omega)] at this; exact this))
      clear stop hr
      go_wp2
      go_ret3
      have e := unhide e
      exact ⟨e, rfl⟩
end Go.Proofs.Qxb6600526a
