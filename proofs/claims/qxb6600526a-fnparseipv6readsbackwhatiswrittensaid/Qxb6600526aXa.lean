import Derived.Test.Qxb6600526aWl
import Derived.Test.Qxb6600526aP6e
namespace Go.Proofs.Qxb6600526a
open Go.RowKit P6

def nums (l : List UInt8) : List Nat := l.map (·.toNat)
theorem nums_length (l : List UInt8) : (nums l).length = l.length := by simp [nums]
theorem nums_app (a b : List UInt8) : nums (a ++ b) = nums a ++ nums b := by simp [nums]
theorem nums_cons (a : UInt8) (b : List UInt8) : nums (a :: b) = a.toNat :: nums b := rfl
theorem nums_nil : nums [] = [] := rfl

theorem ltr_nat (d : Nat) (up : Bool) (hd : d < 16) : (ltr d up).toNat = if d < 10 then 48 + d else if up then 55 + d else 87 + d := by
  have : ∀ (d : Fin 16) (up : Bool), (ltr d.val up).toNat = if d.val < 10 then 48 + d.val else if up then 55 + d.val else 87 + d.val := by decide
  exact this ⟨d, hd⟩ up

theorem hexLetter_any (d : Nat) (up : Bool) (w : World) (hd : d < 16) :
    Calls Try.prog 50 #[.int .i64 d, .bool up] w fun e w' => e = .returned (.int .u8 (ltr d up).toNat) ∧ w' = w := by
  have h := ltr_nat d up hd
  rw [h]
  clear h
  by_cases h10 : d < 10
  · rw [if_pos h10]
    go_enter Try.func50, Try.ntmps50
    go_wp2
    go_ret
    exact ⟨by simp, rfl⟩
  · rw [if_neg h10]
    cases up with
    | true =>
      go_enter Try.func50, Try.ntmps50
      go_wp2
      go_ret
      exact ⟨by simp; omega, rfl⟩
    | false =>
      go_enter Try.func50, Try.ntmps50
      go_wp2
      go_ret
      exact ⟨by simp; omega, rfl⟩

theorem cells_one {W : World} {a : Value} {T : TypeId} : ∀ (j : Nat) (u : Value), [a][j]? = some u → (W.alloc (.cells #[a] T)).cell? ((⟨W.heap.size, 0, none⟩ : Addr).add j) = some u := by
  intro j u hj
  rw [Addr.add_mid, Nat.zero_add]
  have hj2 : j < 1 := by have := (List.getElem?_eq_some_iff.1 hj).1; simpa using this
  obtain rfl : j = 0 := by omega
  simp at hj; subst hj; simp
theorem below_one {w1 : World} {o : Obj} : Below w1.heap.size w1 (w1.alloc o) := Below.alloc (Below.refl _ _) (Nat.le_refl _) _
/-- Behind an append, at a base of its own. -/
theorem own_grow {w w1 W w' : World} {B : Nat} {v v' : Value} {o q : List Nat} {m : Nat} (h : Own w1 B v o) (hb : Below B w w1) (hB : B ≤ w.heap.size) (hW : Below w1.heap.size w1 W) (hm : m = q.length)
    (h1 : w'.ownsRow B 5 1 v' (o.length + m) (vals o ++ vals q)) (hg : W.grownBy w' v.ownBlock) : Below B w w' ∧ Own w' B v' (o ++ q) := by
  have hbW : Below B w W := hb.trans (hW.mono (Nat.le_trans hB hb.size))
  refine ⟨hbW.grown hg (Nat.le_trans hB hbW.size) (fun k hk => (World.ownsRow.lt h k hk).1), ?_⟩
  unfold Own
  rw [vals_app, List.length_append, ← hm]
  exact h1
theorem and15 (n : Nat) (hn : n < 65536) : bits .and .i64 (n : Int) 15 = ((n % 16 : Nat) : Int) := by
  rw [show (15 : Int) = ((15 : Nat) : Int) from rfl, i64_and_nat n 15 (by omega) (by omega), show (15 : Nat) = 2 ^ 4 - 1 from rfl, Nat.and_two_pow_sub_one_eq_mod]
end Go.Proofs.Qxb6600526a
