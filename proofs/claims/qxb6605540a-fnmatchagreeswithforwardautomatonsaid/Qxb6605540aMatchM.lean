/-
  The walk of FnMatchAgreesWithForwardAutomaton.
-/
import Derived.Test.Qxb6605540aMatchF
import Derived.Test.Qxb6605540aMatchK
import Derived.Test.Qxb6605540aMatchL
namespace Go.Proofs.Qxb6605540a.Mt
open Go.RowKit
open PMatch (M)

theorem forward_at (x : Bool) (a0 a1 a2 : Option Addr) (c0 c1 c2 m : Nat) (K L : List Nat) (S : Nat → Nat → Int) (s : ByteArray) (w : World) (hm : m ≤ 1048576) (hs : s.size ≤ 1048576)
    (hKl : K.length = m) (hLl : L.length = m) (h0 : Rd w a0 K) (h1 : Rd w a1 L) (h2 : RdS w a2 m S) (hK : ∀ i, i < m → nth K i ≤ 255) (hS : ∀ i, i < m → ∀ j, j < 4 → 0 ≤ S i j ∧ S i j ≤ 18446744073709551615) (hx : M (toks m K L S) (bts s) = x) :
    Calls Try.prog 11 #[.slice a0 m c0, .slice a1 m c1, .slice a2 m c2, .string s] w fun e w' => e = .returned (.bool x) ∧ Below w.heap.size w w' := by
  subst hx; exact forward_any a0 a1 a2 c0 c1 c2 m K L S s w hm hs hKl hLl h0 h1 h2 hK hS

set_option maxRecDepth 100000 in
set_option maxHeartbeats 1000000 in
theorem agree_core (a0 a1 a2 : Option Addr) (c0 c1 c2 m : Nat) (K L : List Nat) (S : Nat → Nat → Int) (s : ByteArray) (w : World) (hm : m ≤ 4096) (hs : s.size ≤ 4096)
    (hKl : K.length = m) (hLl : L.length = m) (g0 : a0 = none → m = 0 ∧ c0 = 0) (g1 : a1 = none → m = 0 ∧ c1 = 0) (g2 : a2 = none → m = 0 ∧ c2 = 0)
    (h0 : Rd w a0 K) (h1 : Rd w a1 L) (h2 : RdS w a2 m S) (hK : ∀ i, i < m → nth K i ≤ 255) (hS : ∀ i, i < m → ∀ j, j < 4 → 0 ≤ S i j ∧ S i j ≤ 18446744073709551615) :
    Calls Try.prog 3 #[.slice a0 m c0, .slice a1 m c1, .slice a2 m c2, .string s] w fun e w' => e = .returned (.bool true) ∧ Below w.heap.size w w' := by
  obtain ⟨x, hx⟩ : ∃ x, M (toks m K L S) (bts s) = x := ⟨_, rfl⟩
  have HX := hide hx
  have H0 := hide h0
  have H1 := hide h1
  have H2 := hide h2
  have HK := hide hK
  have HS := hide hS
  have HKl := hide hKl
  have HLl := hide hLl
  have G0 := hide g0
  have G1 := hide g1
  have G2 := hide g2
  clear h0 h1 h2 hK hS hKl hLl g0 g1 g2 hx
  have hd : decide (m + m + m + s.size ≤ 1048576) = true := by simp; omega
  have d1 : decide ((4096 : Int) < (m : Int)) = false := by simp; omega
  have d2 : decide ((4096 : Int) < (s.size : Int)) = false := by simp; omega
  go_enter Try.func3, Try.ntmps3
  go_wp2_with fail
  refine (agreeBytes_any m m m c0 c1 c2 a0 a1 a2 s _ (by unfold maxLen; omega) (by unfold maxLen; omega) (by unfold maxLen; omega) (by unfold maxLen; omega)).mono ?_
  rintro e w' ⟨rfl, hw'⟩
  subst hw'
  go_wp2_with fail
  refine (cloneU8_any a0 m c0 K _ (by omega) (unhide HKl) (unhide G0) (unhide H0)).mono ?_
  rintro e w1 ⟨a0', rfl, hR0, hB1⟩
  have H1' := hide ((unhide H1).below hB1)
  have H2' := hide ((unhide H2).below hB1)
  have HR0 := hide hR0
  have HB1 := hide hB1
  clear hR0 hB1 H0 H1 H2
  go_wp2_with fail
  refine (cloneU8_any a1 m c1 L _ (by omega) (unhide HLl) (unhide G1) (unhide H1')).mono ?_
  rintro e w2 ⟨a1', rfl, hR1, hB2⟩
  have H2'' := hide ((unhide H2').below hB2)
  have HR0' := hide ((unhide HR0).below hB2)
  have HR1 := hide hR1
  have HB2 := hide ((unhide HB1).trans (hB2.mono (unhide HB1).size))
  clear hR1 hB2 HR0 H1' H2' HB1
  go_wp2_with fail
  refine (cloneSets_any a2 m c2 S _ (by omega) (unhide G2) (unhide H2'')).mono ?_
  rintro e w3 ⟨a2', rfl, hR2, hB3⟩
  have HR0 := hide ((unhide HR0').below hB3)
  have HR1' := hide ((unhide HR1).below hB3)
  have HR2 := hide hR2
  have HB3 := hide ((unhide HB2).trans (hB3.mono (unhide HB2).size))
  clear hR2 hB3 HR0' HR1 H2'' HB2
  go_wp2_with fail
  refine (zzMatch_at x a0' a1' a2' _ _ _ m K L S s _ (by omega) (by omega) (unhide HKl) (unhide HLl) (unhide HR0) (unhide HR1') (unhide HR2) (unhide HK) (unhide HX)).mono ?_
  rintro e w4 ⟨rfl, hB4⟩
  have J0 := hide ((unhide HR0).below hB4)
  have J1 := hide ((unhide HR1').below hB4)
  have J2 := hide ((unhide HR2).below hB4)
  have JB := hide ((unhide HB3).trans (hB4.mono (unhide HB3).size))
  clear hB4 HR0 HR1' HR2 HB3
  go_wp2_with fail
  refine (forward_at x a0' a1' a2' _ _ _ m K L S s _ (by omega) (by omega) (unhide HKl) (unhide HLl) (unhide J0) (unhide J1) (unhide J2) (unhide HK) (unhide HS) (unhide HX)).mono ?_
  rintro e w5 ⟨rfl, hB5⟩
  have JB5 := hide ((unhide JB).trans (hB5.mono (unhide JB).size))
  clear hB5 JB J0 J1 J2
  go_wp2
  go_ret
  exact ⟨rfl, unhide JB5⟩

set_option maxRecDepth 100000 in
set_option maxHeartbeats 2000000 in
theorem agree_early (a0 a1 a2 : Option Addr) (n0 n1 n2 c0 c1 c2 : Nat) (s : ByteArray) (w : World) (h0 : n0 ≤ maxLen) (h1 : n1 ≤ maxLen) (h2 : n2 ≤ maxLen) (hs : s.size ≤ maxLen)
    (h : ¬ (n0 ≤ 4096 ∧ s.size ≤ 4096 ∧ n1 = n0 ∧ n2 = n0)) :
    Calls Try.prog 3 #[.slice a0 n0 c0, .slice a1 n1 c1, .slice a2 n2 c2, .string s] w fun e w' => e = .returned (.bool true) ∧ Below w.heap.size w w' := by
  have HB := hide (fun w => agreeBytes_any n0 n1 n2 c0 c1 c2 a0 a1 a2 s w h0 h1 h2 hs)
  by_cases hb : n0 + n1 + n2 + s.size ≤ 1048576
  · have hd : decide (n0 + n1 + n2 + s.size ≤ 1048576) = true := by simpa using hb
    by_cases q0 : 4096 < n0
    · go_enter Try.func3, Try.ntmps3
      go_wp2_with fail
      refine (unhide HB _).mono ?_
      rintro e w' ⟨rfl, rfl⟩
      go_wp2
      go_ret
      exact ⟨rfl, Below.refl _ _⟩
    have d0 : decide ((4096 : Int) < (n0 : Int)) = false := by simp; omega
    by_cases q1 : 4096 < n1
    · go_enter Try.func3, Try.ntmps3
      go_wp2_with fail
      refine (unhide HB _).mono ?_
      rintro e w' ⟨rfl, rfl⟩
      go_wp2
      go_ret
      exact ⟨rfl, Below.refl _ _⟩
    have d1 : decide ((4096 : Int) < (n1 : Int)) = false := by simp; omega
    by_cases q2 : 4096 < n2
    · go_enter Try.func3, Try.ntmps3
      go_wp2_with fail
      refine (unhide HB _).mono ?_
      rintro e w' ⟨rfl, rfl⟩
      go_wp2
      go_ret
      exact ⟨rfl, Below.refl _ _⟩
    have d2 : decide ((4096 : Int) < (n2 : Int)) = false := by simp; omega
    by_cases q3 : 4096 < s.size
    · go_enter Try.func3, Try.ntmps3
      go_wp2_with fail
      refine (unhide HB _).mono ?_
      rintro e w' ⟨rfl, rfl⟩
      go_wp2
      go_ret
      exact ⟨rfl, Below.refl _ _⟩
    have d3 : decide ((4096 : Int) < (s.size : Int)) = false := by simp; omega
    by_cases q4 : n1 = n0
    · have q5 : n2 ≠ n0 := fun e => h ⟨by omega, by omega, q4, e⟩
      subst q4
      have e1 : ((n2 : Int) != (n1 : Int)) = true := by rw [bne_iff_ne]; omega
      clear h
      go_enter Try.func3, Try.ntmps3
      go_wp2_with fail
      refine (unhide HB _).mono ?_
      rintro e w' ⟨rfl, rfl⟩
      go_wp2
      go_ret
      exact ⟨rfl, Below.refl _ _⟩
    · have e1 : ((n1 : Int) != (n0 : Int)) = true := by rw [bne_iff_ne]; omega
      clear h
      go_enter Try.func3, Try.ntmps3
      go_wp2_with fail
      refine (unhide HB _).mono ?_
      rintro e w' ⟨rfl, rfl⟩
      go_wp2
      go_ret
      exact ⟨rfl, Below.refl _ _⟩
  · have hd : decide (n0 + n1 + n2 + s.size ≤ 1048576) = false := by simpa using hb
    clear h
    go_enter Try.func3, Try.ntmps3
    go_wp2_with fail
    refine (unhide HB _).mono ?_
    rintro e w' ⟨rfl, rfl⟩
    go_wp2
    go_ret
    exact ⟨rfl, Below.refl _ _⟩
end Go.Proofs.Qxb6605540a.Mt
