/-
  The parser reads back what is written: plain lists.
-/
import Derived.Test.Qxb6600526aP6d
namespace Go.Proofs.Qxb6600526a.P6

/-- The fields, joined by colons. -/
def jn : List (List UInt8) → List UInt8
  | [] => []
  | [f] => f
  | f :: g :: fs => f ++ 58 :: jn (g :: fs)
def Good (f : List UInt8) : Prop := f ≠ [] ∧ No 58 f
theorem jn_cons {f : List UInt8} {fs : List (List UInt8)} (h : fs ≠ []) : jn (f :: fs) = f ++ 58 :: jn fs := by
  cases fs with
  | nil => exact absurd rfl h
  | cons g fs => rfl
theorem jn_snoc (f : List UInt8) : ∀ fs : List (List UInt8), fs ≠ [] → jn (fs ++ [f]) = jn fs ++ 58 :: f
  | [], h => absurd rfl h
  | [g], _ => rfl
  | g :: e :: fs, _ => by
    show jn (g :: (e :: fs ++ [f])) = _
    rw [jn_cons (by simp), jn_snoc f (e :: fs) (by simp), jn_cons (fs := e :: fs) (by simp), List.append_assoc]; rfl
theorem jn_head {fs : List (List UInt8)} (hg : ∀ f ∈ fs, Good f) (h : fs ≠ []) : ∃ d t, jn fs = d :: t ∧ d.toNat ≠ 58 := by
  cases fs with
  | nil => exact absurd rfl h
  | cons f fs =>
    obtain ⟨h1, h2⟩ := hg f (by simp)
    cases f with
    | nil => exact absurd rfl h1
    | cons d f' =>
      cases fs with
      | nil => exact ⟨d, f', rfl, h2 d (by simp)⟩
      | cons e fs => exact ⟨d, _, rfl, h2 d (by simp)⟩
theorem cut2_jn : ∀ {fs : List (List UInt8)}, (∀ f ∈ fs, Good f) → cut2 (jn fs) = none
  | [], _ => rfl
  | [f], h => cut2_no (h f (by simp)).2
  | f :: g :: fs, h => by
    have ih := cut2_jn (fs := g :: fs) (fun e he => h e (by simp at he ⊢; right; exact he))
    obtain ⟨d, t, h1, h2⟩ := jn_head (fs := g :: fs) (fun e he => h e (by simp at he ⊢; right; exact he)) (by simp)
    rw [h1] at ih
    rw [jn_cons (by simp), h1, cut2_c (h f (by simp)).2 h2, ih]; rfl
theorem cut2_jn_cc {r : List UInt8} : ∀ {fs : List (List UInt8)}, (∀ f ∈ fs, Good f) → cut2 (jn fs ++ 58 :: 58 :: r) = some (jn fs, r)
  | [], _ => by show cut2 (58 :: 58 :: r) = _; rw [cut2, if_pos (by decide)]; rfl
  | [f], h => cut2_cc (h f (by simp)).2
  | f :: g :: fs, h => by
    have ih := cut2_jn_cc (fs := g :: fs) (r := r) (fun e he => h e (by simp at he ⊢; right; exact he))
    obtain ⟨d, t, h1, h2⟩ := jn_head (fs := g :: fs) (fun e he => h e (by simp at he ⊢; right; exact he)) (by simp)
    rw [h1] at ih
    rw [jn_cons (by simp), h1, List.append_assoc]
    show cut2 (f ++ 58 :: d :: (t ++ 58 :: 58 :: r)) = _
    rw [cut2_c (h f (by simp)).2 h2]
    rw [List.cons_append] at ih
    rw [ih]; rfl
theorem FF_jn {last : Bool} : ∀ {fs : List (List UInt8)}, (∀ f ∈ fs, Good f) → FF last (jn fs) = flds last fs
  | [], _ => rfl
  | [f], h => by
    show FF last f = _
    rw [FF_one (h f (by simp)).1 (h f (by simp)).2, flds]
    simp
    cases fieldB f last with
    | none => rfl
    | some q => simp [flds]
  | f :: g :: fs, h => by
    have ih := FF_jn (last := last) (fs := g :: fs) (fun e he => h e (by simp at he ⊢; right; exact he))
    obtain ⟨d, t, h1, h2⟩ := jn_head (fs := g :: fs) (fun e he => h e (by simp at he ⊢; right; exact he)) (by simp)
    rw [jn_cons (by simp), FF_more (h f (by simp)).2 (by rw [h1]; simp), ih]
    rw [flds.eq_2 last f (g :: fs), show (last && (g :: fs).isEmpty) = false from Bool.and_false _]
    cases fieldB f false <;> rfl
theorem p6_plain {fs : List (List UInt8)} {b : List Nat} (hg : ∀ f ∈ fs, Good f) (h : flds true fs = some b) (hb : b.length = 16) : p6 (jn fs) = some b := by
  rw [p6_model, model_FF, cut2_jn hg, FF_jn hg, h]
  simp [hb]
theorem p6_gap {fs gs : List (List UInt8)} {a b : List Nat} (hf : ∀ f ∈ fs, Good f) (hg : ∀ f ∈ gs, Good f) (h1 : flds false fs = some a) (h2 : flds true gs = some b) (hb : a.length + b.length ≤ 14) :
    p6 (jn fs ++ 58 :: 58 :: jn gs) = some (a ++ List.replicate (16 - a.length - b.length) 0 ++ b) := by
  rw [p6_model, model_FF, cut2_jn_cc hf]
  simp only [cut2_jn hg, FF_jn hf, FF_jn hg, h1, h2]
  simp; omega

/-! ### hex groups -/
def ltr (d : Nat) (up : Bool) : UInt8 := if d < 10 then UInt8.ofNat (48 + d) else if up then UInt8.ofNat (55 + d) else UInt8.ofNat (87 + d)
theorem hexV_ltr (d : Nat) (up : Bool) (hd : d < 16) : hexV (ltr d up) = some d := by
  have : ∀ (d : Fin 16) (up : Bool), hexV (ltr d.val up) = some d.val := by decide
  exact this ⟨d, hd⟩ up
theorem hex_ne {c : UInt8} {d : Nat} (h : hexV c = some d) : c.toNat ≠ 46 ∧ c.toNat ≠ 58 := by
  constructor
  · intro e; rw [hexV_dot e] at h; cases h
  · intro e; rw [hexV_colon e] at h; cases h
/-- The digits of v from place k down; st: a digit stands already. -/
def hxl (up : Bool) (v : Nat) : Nat → Bool → List UInt8
  | 0, _ => []
  | k + 1, st => if v / 16 ^ k % 16 = 0 ∧ st = false ∧ 0 < k then hxl up v k false else ltr (v / 16 ^ k % 16) up :: hxl up v k true
def hx (up : Bool) (v : Nat) : List UInt8 := hxl up v 4 false
theorem hxl_true (up : Bool) (v : Nat) : ∀ (k g : Nat), hexAll g (hxl up v k true) = some (g * 16 ^ k + v % 16 ^ k) ∧ (hxl up v k true).length = k
  | 0, g => by simp [hxl, hexAll, Nat.mod_one]
  | k + 1, g => by
    have hlt : v / 16 ^ k % 16 < 16 := Nat.mod_lt _ (by omega)
    rw [hxl, if_neg (by simp), hexAll, hexV_ltr _ _ hlt]
    simp only
    obtain ⟨h1, h2⟩ := hxl_true up v k (g * 16 + v / 16 ^ k % 16)
    rw [h1]
    refine ⟨?_, by simp [h2]⟩
    congr 1
    rw [Nat.pow_succ, Nat.mod_mul]
    have : (g * 16 + v / 16 ^ k % 16) * 16 ^ k = g * (16 ^ k * 16) + 16 ^ k * (v / 16 ^ k % 16) := by
      rw [Nat.add_mul, Nat.mul_assoc, Nat.mul_comm 16 (16 ^ k), Nat.mul_comm (v / 16 ^ k % 16)]
    rw [this]
    omega
theorem hxl_false (up : Bool) (v : Nat) : ∀ k : Nat, hexAll 0 (hxl up v (k + 1) false) = some (v % 16 ^ (k + 1)) ∧ 0 < (hxl up v (k + 1) false).length ∧ (hxl up v (k + 1) false).length ≤ k + 1
  | 0 => by
    have hlt : v % 16 < 16 := Nat.mod_lt _ (by omega)
    rw [hxl, if_neg (by omega)]
    simp [hxl, hexAll, hexV_ltr _ _ hlt]
  | k + 1 => by
    have hlt : v / 16 ^ (k + 1) % 16 < 16 := Nat.mod_lt _ (by omega)
    rw [hxl]
    by_cases h : v / 16 ^ (k + 1) % 16 = 0
    · rw [if_pos ⟨h, rfl, by omega⟩]
      obtain ⟨h1, h2, h3⟩ := hxl_false up v k
      refine ⟨?_, h2, by omega⟩
      rw [h1, Nat.pow_succ 16 (k + 1), Nat.mod_mul, h]
      rfl
    · rw [if_neg (by simp [h]), hexAll, hexV_ltr _ _ hlt]
      simp only
      obtain ⟨h1, h2⟩ := hxl_true up v (k + 1) (0 * 16 + v / 16 ^ (k + 1) % 16)
      rw [h1]
      refine ⟨?_, by simp, by simp [h2]⟩
      rw [Nat.pow_succ 16 (k + 1), Nat.mod_mul]
      congr 1
      rw [Nat.zero_mul, Nat.zero_add, Nat.mul_comm (16 ^ (k + 1)), Nat.add_comm]
theorem hexAll_chars : ∀ (f : List UInt8) (g v : Nat), hexAll g f = some v → ∀ c ∈ f, c.toNat ≠ 46 ∧ c.toNat ≠ 58
  | [], _, _, _, c, hc => by simp at hc
  | d :: f, g, v, h, c, hc => by
    rw [hexAll] at h
    cases hd : hexV d with
    | none => rw [hd] at h; cases h
    | some y =>
      rw [hd] at h
      simp at hc
      rcases hc with rfl | hc
      · exact hex_ne hd
      · exact hexAll_chars f _ _ h c hc
theorem hx_good (up : Bool) (v : Nat) : Good (hx up v) := by
  obtain ⟨h1, h2, h3⟩ := hxl_false up v 3
  exact ⟨fun e => by unfold hx at e; rw [e] at h2; simp at h2, fun c hc => (hexAll_chars _ _ _ h1 c hc).2⟩
theorem hx_field (up : Bool) (v : Nat) (last : Bool) (hv : v < 65536) : fieldB (hx up v) last = some [v / 256, v % 256] := by
  obtain ⟨h1, h2, h3⟩ := hxl_false up v 3
  have hd : hasX 46 (hx up v) = false := no_has.1 fun c hc => (hexAll_chars _ _ _ h1 c hc).1
  have h4 : hexF (hx up v) = some v := by
    unfold hexF hx
    have e : hxl up v 4 false = hxl up v (3 + 1) false := rfl
    rw [e, if_neg (by omega), h1]
    congr 1
    exact Nat.mod_eq_of_lt (by omega)
  unfold fieldB
  rw [if_neg (by simp [hd]), h4]; rfl

/-! ### the quad -/
def dc (v : Nat) : List UInt8 := (if 100 ≤ v then [UInt8.ofNat (48 + v / 100)] else []) ++ (if 10 ≤ v then [UInt8.ofNat (48 + v / 10 % 10)] else []) ++ [UInt8.ofNat (48 + v % 10)]
theorem dc_dec (v : Nat) (hv : v < 256) : decB (dc v) = some v ∧ (dc v).all fun c => decide (c.toNat ≠ 46 ∧ c.toNat ≠ 58) := by
  have : ∀ v : Fin 256, decB (dc v.val) = some v.val ∧ ((dc v.val).all fun c => decide (c.toNat ≠ 46 ∧ c.toNat ≠ 58)) = true := by decide +kernel
  exact this ⟨v, hv⟩
def qd (a b c d : Nat) : List UInt8 := dc a ++ 46 :: (dc b ++ 46 :: (dc c ++ 46 :: dc d))
theorem dc_no {v : Nat} (hv : v < 256) : ∀ c ∈ dc v, c.toNat ≠ 46 ∧ c.toNat ≠ 58 := by
  intro c hc
  have := (dc_dec v hv).2
  rw [List.all_eq_true] at this
  simpa using this c hc
theorem qd_good {a b c d : Nat} (ha : a < 256) (hb : b < 256) (hc : c < 256) (hd : d < 256) : Good (qd a b c d) := by
  refine ⟨by simp [qd], ?_⟩
  intro x hx
  simp only [qd, List.mem_append, List.mem_cons] at hx
  rcases hx with h | rfl | h | rfl | h | rfl | h
  · exact (dc_no ha x h).2
  · decide
  · exact (dc_no hb x h).2
  · decide
  · exact (dc_no hc x h).2
  · decide
  · exact (dc_no hd x h).2
theorem qd_field {a b c d : Nat} (ha : a < 256) (hb : b < 256) (hc : c < 256) (hd : d < 256) : fieldB (qd a b c d) true = some [a, b, c, d] := by
  have h : hasX 46 (qd a b c d) = true := by simp [hasX, qd]
  unfold fieldB
  rw [if_pos h, if_pos rfl]
  unfold qd
  rw [spl_more (by decide) (fun x hx => (dc_no ha x hx).1), spl_more (by decide) (fun x hx => (dc_no hb x hx).1), spl_more (by decide) (fun x hx => (dc_no hc x hx).1), spl_one (fun x hx => (dc_no hd x hx).1)]
  simp [dq, (dc_dec a ha).1, (dc_dec b hb).1, (dc_dec c hc).1, (dc_dec d hd).1]

/-! ### the groups of sixteen bytes -/
def gf (up : Bool) (G : Nat → Nat) (g : Nat) : List UInt8 := hx up (G (2 * g) * 256 + G (2 * g + 1))
def gfs (up : Bool) (G : Nat → Nat) (lo n : Nat) : List (List UInt8) := (List.range' lo n).map (gf up G)
def bs (G : Nat → Nat) (lo n : Nat) : List Nat := (List.range' lo n).map G
theorem gfs_good {up : Bool} {G : Nat → Nat} {lo n : Nat} : ∀ f ∈ gfs up G lo n, Good f := by
  intro f hf
  simp only [gfs, List.mem_map] at hf
  obtain ⟨g, -, rfl⟩ := hf
  exact hx_good _ _
theorem gfs_snoc {up : Bool} {G : Nat → Nat} {lo n : Nat} : gfs up G lo (n + 1) = gfs up G lo n ++ [gf up G (lo + n)] := by
  unfold gfs
  rw [List.range'_concat]
  simp
theorem flds_gfs {up last : Bool} {G : Nat → Nat} (hG : ∀ i, G i < 256) {r : List (List UInt8)} {b : List Nat} (hr : flds last r = some b) : ∀ (n lo : Nat), flds last (gfs up G lo n ++ r) = some (bs G (2 * lo) (2 * n) ++ b)
  | 0, lo => by simpa [gfs, bs] using hr
  | n + 1, lo => by
    have ih := flds_gfs (up := up) hG hr n (lo + 1)
    have e1 : gfs up G lo (n + 1) ++ r = gf up G lo :: (gfs up G (lo + 1) n ++ r) := by simp [gfs, List.range'_succ]
    have e2 : bs G (2 * lo) (2 * (n + 1)) = [G (2 * lo), G (2 * lo + 1)] ++ bs G (2 * (lo + 1)) (2 * n) := by
      unfold bs
      rw [show 2 * (n + 1) = 2 * n + 1 + 1 by omega, List.range'_succ, List.range'_succ, show 2 * lo + 1 + 1 = 2 * (lo + 1) by omega]
      rfl
    have h1 := hG (2 * lo)
    have h2 := hG (2 * lo + 1)
    rw [e1, flds, gf, hx_field _ _ _ (by omega)]
    simp only
    rw [ih, e2]
    simp
    omega
end Go.Proofs.Qxb6600526a.P6
