/-
  The contracts of the small functions on the roads of the laws over Redact.
-/
import Derived.Test.Qxb6605569aBuilder
import Derived.Test.Qxb6605569aPRed
import Derived.Laws.IdiomStrings
import Derived.Deep.OwnRows
namespace Go.Proofs.Qxb6605569a
open Go.RowKit
open PRed (isN isB R red flush mark)

theorem hide {p : Prop} (h : p) : Hid p := h
theorem unhide {p : Prop} (h : Hid p) : p := h
theorem ret_bool {a b : Bool} (h : a = b) : Ending.returned (.bool a) = .returned (.bool b) := by rw [h]
theorem ret_str {a b : ByteArray} (h : a = b) : Ending.returned (.string a) = .returned (.string b) := by rw [h]

theorem isN_yes {c : Nat} (h : (65 ≤ c ∧ c ≤ 90) ∨ (97 ≤ c ∧ c ≤ 122) ∨ (48 ≤ c ∧ c ≤ 57) ∨ c = 45 ∨ c = 95) : isN c = true := by
  unfold isN; simp; omega
theorem isN_no {c : Nat} (h : c < 45 ∨ (46 ≤ c ∧ c ≤ 47) ∨ (58 ≤ c ∧ c ≤ 64) ∨ (91 ≤ c ∧ c ≤ 94) ∨ c = 96 ∨ 123 ≤ c) : isN c = false := by
  unfold isN; simp; omega

set_option maxHeartbeats 1000000 in
theorem isB64_any (c : Nat) (w : World) (hc : c ≤ 255) :
    Calls Try.prog 13 #[.int .u8 c] w fun e w' => e = .returned (.bool (isN c)) ∧ w' = w := by
  rcases (show (65 ≤ c ∧ c ≤ 90) ∨ (97 ≤ c ∧ c ≤ 122) ∨ (48 ≤ c ∧ c ≤ 57) ∨ (45 ≤ c ∧ c ≤ 45) ∨ (95 ≤ c ∧ c ≤ 95) ∨ (0 ≤ c ∧ c ≤ 44) ∨ (46 ≤ c ∧ c ≤ 47) ∨ (58 ≤ c ∧ c ≤ 64) ∨ (91 ≤ c ∧ c ≤ 94) ∨ (96 ≤ c ∧ c ≤ 96) ∨ (123 ≤ c ∧ c ≤ 255) by omega) with h | h | h | h | h | h | h | h | h | h | h
  all_goals first | rw [isN_yes (by omega)] | rw [isN_no (by omega)]
  all_goals
    obtain ⟨h1, h2⟩ := h
    go_enter Try.func13, Try.ntmps13
    go_wp2
    go_ret
    exact ⟨ret_bool (by first | rfl | (simp; omega)), rfl⟩

set_option maxHeartbeats 1000000 in
theorem isB64Byte_any (c : Nat) (w : World) (hc : c ≤ 255) :
    Calls Try.prog 10 #[.int .u8 c] w fun e w' => e = .returned (.bool (isN c)) ∧ w' = w := by
  rcases (show (65 ≤ c ∧ c ≤ 90) ∨ (97 ≤ c ∧ c ≤ 122) ∨ (48 ≤ c ∧ c ≤ 57) ∨ (45 ≤ c ∧ c ≤ 45) ∨ (95 ≤ c ∧ c ≤ 95) ∨ (0 ≤ c ∧ c ≤ 44) ∨ (46 ≤ c ∧ c ≤ 47) ∨ (58 ≤ c ∧ c ≤ 64) ∨ (91 ≤ c ∧ c ≤ 94) ∨ (96 ≤ c ∧ c ≤ 96) ∨ (123 ≤ c ∧ c ≤ 255) by omega) with h | h | h | h | h | h | h | h | h | h | h
  all_goals first | rw [isN_yes (by omega)] | rw [isN_no (by omega)]
  all_goals
    obtain ⟨h1, h2⟩ := h
    go_enter Try.func10, Try.ntmps10
    go_wp2
    go_ret
    exact ⟨ret_bool (by first | rfl | (simp; omega)), rfl⟩
end Go.Proofs.Qxb6605569a
