import Derived.Test.Qxb6605540aProg
import Derived.Test.Qxb6605540aPTrim
import Derived.WalkKit
import Derived.WalkSpells
import Derived.WalkLawsBesides
namespace Go.Proofs.Qxb6605540a
open Go.RowKit

/-- The bytes of a text, by place. -/
def byt (s : ByteArray) (i : Nat) : Nat := (s.data.toList.getD i 0).toNat

theorem byt_at (s : ByteArray) (k : Nat) (h : k < s.size) : byt s k = s[k].toNat := by
  unfold byt
  have h' : k < s.data.toList.length := by simpa using h
  rw [List.getD_eq_getElem?_getD, List.getElem?_eq_getElem h']
  rfl

theorem hide {p : Prop} (h : p) : Hid p := h
theorem unhide {p : Prop} (h : Hid p) : p := h
theorem ret_int {k : IntKind} {a b : Int} (h : a = b) : Ending.returned (.int k a) = .returned (.int k b) := by rw [h]

set_option maxHeartbeats 400000 in
theorem trimBytes_any (s : ByteArray) (w : World) (hs : s.size ≤ maxLen) :
    Calls Try.prog 15 #[.string s] w fun e w' => e = .returned (.bool (decide (s.size ≤ 1048576))) ∧ w' = w := by
  unfold maxLen at hs
  by_cases h : 1048576 < s.size
  · have e : decide (s.size ≤ 1048576) = false := by simp; omega
    rw [e]
    go_enter Try.func15, Try.ntmps15
    go_wp2
    go_ret
    exact ⟨rfl, rfl⟩
  · have e : decide (s.size ≤ 1048576) = true := by simp; omega
    rw [e]
    go_enter Try.func15, Try.ntmps15
    go_wp2
    go_ret
    exact ⟨rfl, rfl⟩

set_option maxHeartbeats 400000 in
theorem before_any (s : ByteArray) (k : Nat) (w : World) (hs : s.size ≤ maxLen) (hk : k ≤ s.size) :
    Calls Try.prog 16 #[.string s, .int .i64 k] w fun e w' => e = .returned (.int .i64 (PTrim.bsb (byt s) k)) ∧ w' = w := by
  unfold maxLen at hs
  go_enter Try.func16, Try.ntmps16
  go_wp2
  go_loop [5, 6] (fun n q => ∃ j : Nat, j ≤ k ∧ q = .int .i64 ((j : Int) - 1) ∧ n = .int .i64 ((k : Int) - j) ∧ Hid (PTrim.bsb (byt s) k = k - j + PTrim.bsb (byt s) j)) (fun _ q => (intOf q + 1).toNat)
  case atStart => exact ⟨k, Nat.le_refl _, rfl, by simp, hide (by omega)⟩
  case round =>
    obtain ⟨j, hj, rfl, rfl, hb⟩ := hrel
    by_cases h0 : j = 0
    · subst h0
      go_wp2
      go_ret
      have := unhide hb
      exact ⟨ret_int (by rw [this]; simp [PTrim.bsb]), rfl⟩
    · obtain ⟨m, rfl⟩ : ∃ m, j = m + 1 := ⟨j - 1, by omega⟩
      go_wp2
      · go_round
        case rel =>
          rename_i hm hc
          have e := PTrim.bsb_yes (byt s) m (by rw [byt_at s m hm]; simp at hc; omega)
          exact ⟨m, by omega, rfl, by go_num, hide (by have := unhide hb; omega)⟩
        case measure => simp [intOf]
      · rename_i hm hc
        go_ret
        have e := PTrim.bsb_not (byt s) m (by rw [byt_at s m hm]; simp at hc; omega)
        have := unhide hb
        exact ⟨ret_int (by omega), rfl⟩

set_option maxHeartbeats 400000 in
theorem trim_any (s : ByteArray) (w : World) (hs : s.size ≤ maxLen - 2) :
    Calls Try.prog 31 #[.string s] w fun e w' => e = .returned (.string (s.extract 0 (PTrim.cut (byt s) s.size))) ∧ w' = w := by
  unfold maxLen at hs
  go_enter Try.func31, Try.ntmps31
  go_wp2
  go_loop [3, 4] (fun en i => ∃ j e : Nat, en = .int .i64 e ∧ i = .int .i64 j ∧ e ≤ s.size ∧ j ≤ s.size + 1 ∧ Hid ((j ≤ s.size → PTrim.bsb (byt s) j % 2 = 0 ∧ e = PTrim.endAt (byt s) s.size j) ∧ (j = s.size + 1 → e = PTrim.cut (byt s) s.size))) (fun _ i => s.size + 1 - (intOf i).toNat)
  case atStart => exact ⟨0, s.size, rfl, rfl, by omega, by omega, hide ⟨fun _ => ⟨by simp [PTrim.bsb], by simp [PTrim.end_zero]⟩, by omega⟩⟩
  case round =>
    obtain ⟨j, e, rfl, rfl, he, hj, hb⟩ := hrel
    by_cases hlt : j < s.size
    · have hB := byt_at s j hlt
      have HB := hide hB
      clear hB
      go_wp2
      · go_round
        case rel =>
          rename_i h1 h2
          have hb' := (unhide hb).1 (by omega)
          have h1' : byt s j = 32 := by rw [unhide HB]; simp at h1; omega
          have h2' : e = s.size := by simp at h2; omega
          refine ⟨j + 1, j, rfl, by go_num, by omega, by omega, hide ⟨fun _ => ⟨PTrim.even_space _ _ h1', ?_⟩, by omega⟩⟩
          exact (PTrim.end_space_new (byt s) s.size j hlt h1' hb'.1 (by rw [← hb'.2]; exact h2')).symm
        case measure => simp [intOf]; omega
      · go_round
        case rel =>
          rename_i h1 h2
          have hb' := (unhide hb).1 (by omega)
          have h1' : byt s j = 32 := by rw [unhide HB]; simp at h1; omega
          have h2' : e ≠ s.size := by simp at h2; omega
          refine ⟨j + 1, e, rfl, by go_num, by omega, by omega, hide ⟨fun _ => ⟨PTrim.even_space _ _ h1', ?_⟩, by omega⟩⟩
          rw [PTrim.end_space_old (byt s) s.size j hlt h1' hb'.1 (by rw [← hb'.2]; exact h2')]
          exact hb'.2
        case measure => simp [intOf]; omega
      · go_round
        case rel =>
          rename_i h1 h2
          have hb' := (unhide hb).1 (by omega)
          have h1' : byt s j = 92 := by rw [unhide HB]; simp at h2; omega
          refine ⟨j + 2, s.size, rfl, by go_num, by omega, by omega, hide ⟨fun _ => ⟨PTrim.even_esc _ _ h1' hb'.1, ?_⟩, fun hl => ?_⟩⟩
          · exact (PTrim.end_esc (byt s) s.size j h1' hb'.1).symm
          · have : s.size = j + 1 := by omega
            rw [this]; exact (PTrim.end_esc_last (byt s) j h1').symm
        case measure => simp [intOf]; omega
      · go_round
        case rel =>
          rename_i h1 h2
          have h1' : byt s j ≠ 32 := by rw [unhide HB]; simp at h1; omega
          have h2' : byt s j ≠ 92 := by rw [unhide HB]; simp at h2; omega
          exact ⟨j + 1, s.size, rfl, by go_num, by omega, by omega, hide ⟨fun _ => ⟨PTrim.even_other _ _ h2', (PTrim.end_other _ _ _ h1').symm⟩, by omega⟩⟩
        case measure => simp [intOf]; omega
    · go_wp2
      go_ret
      have hb' := unhide hb
      have he' : e = PTrim.cut (byt s) s.size := by
        by_cases h1 : j = s.size
        · subst h1; rw [← PTrim.end_last]; exact (hb'.1 (by omega)).2
        · exact hb'.2 (by omega)
      rw [← he']
      exact ⟨rfl, rfl⟩

set_option maxHeartbeats 400000 in
theorem zztrim_any (s : ByteArray) (w : World) (hs : s.size ≤ maxLen - 2) :
    Calls Try.prog 17 #[.string s] w fun e w' => e = .returned (.string (s.extract 0 (PTrim.cut (byt s) s.size))) ∧ w' = w := by
  go_enter Try.func17, Try.ntmps17
  go_wp2_with (go_at_call 31; refine (trim_any _ _ hs).mono ?_; rintro e w' ⟨rfl, rfl⟩)
  go_ret
  exact ⟨rfl, rfl⟩
theorem extract_byt (s : ByteArray) (c i : Nat) (h : i < c) (hc : c ≤ s.size) : byt (s.extract 0 c) i = byt s i := by
  rw [byt_at _ _ (by simp; omega), byt_at _ _ (by omega)]
  congr 1
  simp [ByteArray.getElem_eq_getElem_data, ByteArray.data_extract]

theorem extract_self (s : ByteArray) (c : Nat) : (s.extract 0 c).extract 0 c = s.extract 0 c := by
  rw [ByteArray.extract_extract]
  simp

set_option maxHeartbeats 400000 in
theorem zztrim_at (s t : ByteArray) (w : World) (hs : s.size ≤ maxLen - 2) (ht : s.extract 0 (PTrim.cut (byt s) s.size) = t) :
    Calls Try.prog 17 #[.string s] w fun e w' => e = .returned (.string t) ∧ w' = w := by
  subst ht; exact zztrim_any s w hs

/-- What is cut off once is cut off. -/
theorem trim_twice (s : ByteArray) (e : Nat) (he : e ≤ s.size) (h : PTrim.cut (byt s) s.size = e) : (s.extract 0 e).extract 0 (PTrim.cut (byt (s.extract 0 e)) (s.extract 0 e).size) = s.extract 0 e := by
  have hz : (s.extract 0 e).size = e := by simp; omega
  rw [hz, PTrim.cut_congr _ (byt s) e (fun i hi => extract_byt s e i hi he)]
  have : PTrim.cut (byt s) e = e := by rw [← h]; exact PTrim.cut_cut _ _
  rw [this]
  exact extract_self s e

set_option maxHeartbeats 800000 in
theorem law_walk (s : ByteArray) (hs : s.size ≤ maxLen) (w : World) :
    Calls Try.prog 5 #[.string s] w fun e w' => e = .returned (.bool true) ∧ w' = w := by
  by_cases h : 1048576 < s.size
  · have hd : decide (s.size ≤ 1048576) = false := by simp; omega
    go_enter Try.func5, Try.ntmps5
    go_wp2_with (go_at_call 15; refine (trimBytes_any _ _ hs).mono ?_; rintro e w' ⟨rfl, rfl⟩)
    go_ret
    exact ⟨rfl, rfl⟩
  · have hd : decide (s.size ≤ 1048576) = true := by simp; omega
    have hm := hs
    unfold maxLen at hs
    go_enter Try.func5, Try.ntmps5
    go_wp2_with (go_at_call 15; refine (trimBytes_any _ _ hm).mono ?_; rintro e w' ⟨rfl, rfl⟩)
    go_loop [3] (fun t => ∃ e : Nat, t = .int .i64 e ∧ e ≤ s.size ∧ Hid (PTrim.cut (byt s) s.size = PTrim.cut (byt s) e)) (fun t => (intOf t).toNat)
    case atStart => exact ⟨s.size, rfl, Nat.le_refl _, hide rfl⟩
    case round =>
      obtain ⟨j, rfl, hj, hb⟩ := hrel
      -- what stands behind the loop, once for all three ways out
      have fin : ∀ (hst : PTrim.cut (byt s) j = j), Hid (s.extract 0 (PTrim.cut (byt s) s.size) = s.extract 0 j ∧ (s.extract 0 j).extract 0 (PTrim.cut (byt (s.extract 0 j)) (s.extract 0 j).size) = s.extract 0 j) := by
        intro hst
        have e1 : PTrim.cut (byt s) s.size = j := by rw [unhide hb, hst]
        exact hide ⟨by rw [e1], trim_twice s j hj e1⟩
      by_cases h0 : j = 0
      · subst h0
        have F := fin (by simp [PTrim.cut])
        clear fin
        rw [show s.extract 0 0 = ByteArray.empty from by simp] at F
        go_wp2_with fail
        refine (zztrim_at s ByteArray.empty _ (by unfold maxLen; omega) (unhide F).1).mono ?_
        rintro e w' ⟨rfl, rfl⟩
        go_wp2_with fail
        refine (zztrim_at ByteArray.empty ByteArray.empty _ (by unfold maxLen; simp) (unhide F).2).mono ?_
        rintro e w' ⟨rfl, rfl⟩
        go_wp2
        go_ret
        exact ⟨rfl, rfl⟩
      · obtain ⟨m, rfl⟩ : ∃ m, j = m + 1 := ⟨j - 1, by omega⟩
        have hml : m < s.size := by omega
        have HB := hide (byt_at s m hml)
        have hz : (s.extract 0 (m + 1)).size ≤ maxLen - 2 := by unfold maxLen; simp; omega
        by_cases h32 : s[m].toNat = 32
        · have c32 : ((s[m].toNat : Int) == 32) = true := by simp [h32]
          by_cases hp : PTrim.bsb (byt s) m % 2 = 0
          · have hp' : (((PTrim.bsb (byt s) m : Nat) : Int) % 2 == 0) = true := by simp; omega
            clear fin
            go_wp2_with (go_at_call 16; refine (before_any s m _ hm (by omega)).mono ?_; rintro e w' ⟨rfl, rfl⟩)
            go_round
            case rel => exact ⟨m, rfl, by omega, hide (by rw [unhide hb]; exact PTrim.cut_space _ _ (by rw [unhide HB]; exact h32) hp)⟩
            case measure => simp [intOf]
          · have hp' : (((PTrim.bsb (byt s) m : Nat) : Int) % 2 == 0) = false := by simp; omega
            have F := fin (PTrim.cut_keep _ _ (fun h => hp h.2))
            clear fin
            go_wp2_with (go_at_call 16; refine (before_any s m _ hm (by omega)).mono ?_; rintro e w' ⟨rfl, rfl⟩)
            refine (zztrim_at s (s.extract 0 (m + 1)) _ (by unfold maxLen; omega) (unhide F).1).mono ?_
            rintro e w' ⟨rfl, rfl⟩
            go_wp2_with fail
            refine (zztrim_at (s.extract 0 (m + 1)) (s.extract 0 (m + 1)) _ hz (unhide F).2).mono ?_
            rintro e w' ⟨rfl, rfl⟩
            go_wp2
            go_ret
            exact ⟨rfl, rfl⟩
        · have c32 : ((s[m].toNat : Int) == 32) = false := by simp; omega
          have F := fin (PTrim.cut_keep _ _ (fun h => h32 (by rw [← unhide HB]; exact h.1)))
          clear fin
          go_wp2_with fail
          refine (zztrim_at s (s.extract 0 (m + 1)) _ (by unfold maxLen; omega) (unhide F).1).mono ?_
          rintro e w' ⟨rfl, rfl⟩
          go_wp2_with fail
          refine (zztrim_at (s.extract 0 (m + 1)) (s.extract 0 (m + 1)) _ hz (unhide F).2).mono ?_
          rintro e w' ⟨rfl, rfl⟩
          go_wp2
          go_ret
          exact ⟨rfl, rfl⟩
end Go.Proofs.Qxb6605540a
