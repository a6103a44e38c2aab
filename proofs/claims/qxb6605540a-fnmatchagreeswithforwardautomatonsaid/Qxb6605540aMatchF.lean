/-
  The contract of ZZMatch.
-/
import Derived.Test.Qxb6605540aMatchE
namespace Go.Proofs.Qxb6605540a.Mt
open Go.RowKit
open PMatch (M)

set_option maxHeartbeats 400000 in
theorem zzMatch_any (a0 a1 a2 : Option Addr) (c0 c1 c2 m : Nat) (K L : List Nat) (S : Nat → Nat → Int) (s : ByteArray) (w : World) (hm : m ≤ 1048576) (hs : s.size ≤ 1048576)
    (hKl : K.length = m) (hLl : L.length = m) (h0 : Rd w a0 K) (h1 : Rd w a1 L) (h2 : RdS w a2 m S) (hK : ∀ i, i < m → nth K i ≤ 255) :
    Calls Try.prog 10 #[.slice a0 m c0, .slice a1 m c1, .slice a2 m c2, .string s] w fun e w' => e = .returned (.bool (M (toks m K L S) (bts s))) ∧ Below w.heap.size w w' := by
  have tokens : Calls Try.prog 28 #[.slice a0 m c0, .slice a1 m c1, .slice a2 m c2] w fun e w' =>
      e = .returned (.slice (some ⟨w.heap.size, 0, none⟩) m m) ∧ TokAt w' w.heap.size m K L S ∧ Below w.heap.size w w' := by
    by_cases hz : m = 0
    · subst hz
      exact zzTokens_zero a0 a1 a2 c0 c1 c2 K L S w
    · obtain ⟨b0, o0, rfl, l0, r0⟩ : ∃ b off, a0 = some ⟨b, off, none⟩ ∧ b < w.heap.size ∧ ∀ i, i < K.length → w.cell? ⟨b, off + i, none⟩ = some (.int .u8 (nth K i)) := by
        rcases h0 with h | h
        · simp [h] at hKl; omega
        · exact h
      obtain ⟨b1, o1, rfl, l1, r1⟩ : ∃ b off, a1 = some ⟨b, off, none⟩ ∧ b < w.heap.size ∧ ∀ i, i < L.length → w.cell? ⟨b, off + i, none⟩ = some (.int .u8 (nth L i)) := by
        rcases h1 with h | h
        · simp [h] at hLl; omega
        · exact h
      obtain ⟨b2, o2, rfl, l2, r2⟩ : ∃ b off, a2 = some ⟨b, off, none⟩ ∧ b < w.heap.size ∧ ∀ i, i < m → ∀ k, k < 4 → w.cell? ⟨b, off + i * 4 + k, none⟩ = some (.int .u64 (S i k)) := by
        rcases h2 with h | h
        · omega
        · exact h
      exact zzTokens_some b0 o0 c0 b1 o1 c1 b2 o2 c2 m K L S w hm l0 l1 l2 (by rw [hKl] at r0; exact r0) (by rw [hLl] at r1; exact r1) r2
  have HT := hide tokens
  have HK := hide hK
  clear tokens hK h0 h1 h2 hKl hLl
  go_enter Try.func10, Try.ntmps10
  go_wp2_with fail
  refine (unhide HT).mono ?_
  rintro e w1 ⟨rfl, hT, hb⟩
  have HT1 := hide hT
  have HB := hide hb
  clear hT hb
  go_wp2_with fail
  refine (match_any w.heap.size m K L S s w1 hm hs (unhide HT1) (unhide HK)).mono ?_
  rintro e w2 ⟨rfl, hb2⟩
  go_wp2
  go_ret
  exact ⟨rfl, (unhide HB).trans (hb2.mono (unhide HB).size)⟩

theorem zzMatch_at (x : Bool) (a0 a1 a2 : Option Addr) (c0 c1 c2 m : Nat) (K L : List Nat) (S : Nat → Nat → Int) (s : ByteArray) (w : World) (hm : m ≤ 1048576) (hs : s.size ≤ 1048576)
    (hKl : K.length = m) (hLl : L.length = m) (h0 : Rd w a0 K) (h1 : Rd w a1 L) (h2 : RdS w a2 m S) (hK : ∀ i, i < m → nth K i ≤ 255) (hx : M (toks m K L S) (bts s) = x) :
    Calls Try.prog 10 #[.slice a0 m c0, .slice a1 m c1, .slice a2 m c2, .string s] w fun e w' => e = .returned (.bool x) ∧ Below w.heap.size w w' := by
  subst hx; exact zzMatch_any a0 a1 a2 c0 c1 c2 m K L S s w hm hs hKl hLl h0 h1 h2 hK
end Go.Proofs.Qxb6605540a.Mt
