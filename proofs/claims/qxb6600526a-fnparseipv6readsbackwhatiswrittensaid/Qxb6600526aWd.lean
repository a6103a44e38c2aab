import Derived.Test.Qxb6600526aWc
import Derived.Test.Qxb6600526aP6b
import Derived.Deep.OwnRows
namespace Go.Proofs.Qxb6600526a
open Go.RowKit P6

/-- A row of bytes in memory. -/
def Bytes (w : World) (b : Nat) (t : TypeId) (n : Nat) (F : Nat → Nat) : Prop := w.rowIs b t n (fun i => .int .u8 (F i))
theorem Bytes.set {w : World} {b : Nat} {t : TypeId} {n : Nat} {F : Nat → Nat} (h : Bytes w b t n F) (i v : Nat) {v' : Value} (hv : v' = .int .u8 v) {j : Nat} (hj : j = i) :
    Bytes (w.setCell ⟨b, j, none⟩ v') b t n (fun j => if j = i then v else F j) := by
  subst hv hj
  exact (World.rowIs.set h j _).congr fun i _ => by by_cases h : i = j <;> simp [h]
theorem below_set {w w0 : World} {B b i : Nat} {v : Value} (h : Below B w0 w) (hb : B ≤ b) : Below B w0 (w.setCell ⟨b, i, none⟩ v) :=
  h.trans ⟨rfl, rfl, rfl, by rw [Go.Deep.nblk_setCell]; exact Nat.le_refl _, fun k hk => Go.Deep.blk_setCell_other _ _ _ _ (by show k ≠ b; omega)⟩

theorem p4_some_len : ∀ (k : Nat) (first : Bool) (l : List UInt8) (q : List Nat), p4 k first l = some q → q.length = k
  | 0, first, l, q, h => by unfold p4 at h; split at h <;> simp at h; simp [← h]
  | k + 1, first, l, q, h => by
    unfold p4 at h
    split at h
    · split at h
      · cases hp : p4 k false (l.drop _) with
        | none => rw [hp] at h; cases h
        | some q' => rw [hp] at h; simp at h; rw [← h]; simp [p4_some_len k false _ q' hp]
      · cases h
    · split at h
      · cases h
      · split at h
        · split at h
          · rename_i t _ _ _ n _
            cases hp : p4 k false (t.drop n) with
            | none => rw [hp] at h; cases h
            | some q' => rw [hp] at h; simp at h; rw [← h]; simp [p4_some_len k false _ q' hp]
          · cases h
        · cases h
theorem rd_le : ∀ (l : List UInt8) (v n v' n' : Nat), v ≤ 255 → rd v n l = some (v', n') → v' ≤ 255
  | [], v, n, v', n', hv, h => by unfold rd at h; split at h <;> simp at h; omega
  | c :: l, v, n, v', n', hv, h => by
    unfold rd at h
    split at h
    · split at h
      · cases h
      · split at h
        · cases h
        · exact rd_le l _ _ _ _ (by omega) h
    · split at h <;> simp at h; omega

/-- The quad as far as k fields. -/
structure Q4 (x : Option (List Nat)) (F : Nat → Nat) (off : Nat) (k : Nat) (l : List UInt8) (G : Nat → Nat) : Prop where
  pre : ∃ pre : List Nat, pre.length = k ∧ (p4 (4 - k) (decide (k = 0)) l).map (pre ++ ·) = x ∧ ∀ i, G i = if off ≤ i ∧ i < off + k then pre.getD (i - off) 0 else F i

theorem p4_first (k : Nat) (l : List UInt8) : p4 (k + 1) true l = match rd 0 0 l with
      | some (v, n) => (p4 k false (l.drop n)).map (v :: ·)
      | none => none := by
  rw [p4.eq_def]; rfl
theorem p4_nil (k : Nat) : p4 (k + 1) false [] = none := by rw [p4.eq_def]; rfl
theorem q4_first_none {x : Option (List Nat)} {F : Nat → Nat} {off : Nat} {G : Nat → Nat} {l : List UInt8} (h : Q4 x F off 0 l G) (hr : rd 0 0 l = none) : none = x := by
  obtain ⟨pre, hpre, hp, hG⟩ := h.pre
  rw [← hp, show p4 (4 - 0) (decide (0 = 0)) l = p4 (3 + 1) true l from rfl, p4_first, hr]; rfl
theorem q4_step {pre : List Nat} {k off v : Nat} {F G : Nat → Nat} (hpre : pre.length = k) (hG : ∀ i, G i = if off ≤ i ∧ i < off + k then pre.getD (i - off) 0 else F i) (i : Nat) :
    (if i = off + k then v else G i) = if off ≤ i ∧ i < off + (k + 1) then (pre ++ [v]).getD (i - off) 0 else F i := by
  by_cases h : i = off + k
  · rw [if_pos h, if_pos (by omega), List.getD_eq_getElem?_getD, List.getElem?_append_right (by omega)]
    have : i - off - pre.length = 0 := by omega
    rw [this]; rfl
  · rw [if_neg h, hG i]
    by_cases h2 : off ≤ i ∧ i < off + k
    · rw [if_pos h2, if_pos (by omega), List.getD_eq_getElem?_getD, List.getD_eq_getElem?_getD, List.getElem?_append_left (by omega)]
    · rw [if_neg h2, if_neg (by omega)]
theorem q4_first_some {x : Option (List Nat)} {F : Nat → Nat} {off v d : Nat} {G : Nat → Nat} {s : ByteArray} (h : Q4 x F off 0 (L s) G) (hr : rd 0 0 (L s) = some (v, d)) :
    Q4 x F off 1 (L (s.extract d s.size)) (fun j => if j = off then v else G j) := by
  obtain ⟨pre, hpre, hp, hG⟩ := h.pre
  refine ⟨⟨pre ++ [v], by simp [hpre], ?_, fun i => q4_step hpre hG i⟩⟩
  rw [← hp, L_from s d _ (Nat.le_refl _), show p4 (4 - 0) (decide (0 = 0)) (L s) = p4 (3 + 1) true (L s) from rfl, p4_first, hr]
  show (p4 3 false _).map _ = ((p4 3 false _).map _).map _
  rw [Option.map_map]
  congr 1
  funext q
  simp
theorem q4_shape {x : Option (List Nat)} {F : Nat → Nat} {off k : Nat} {G : Nat → Nat} {l : List UInt8} (h : Q4 x F off k l G) (hk : ¬ k = 0) (hk4 : k < 4) : ∃ pre : List Nat, pre.length = k ∧ (p4 (4 - (k + 1) + 1) false l).map (pre ++ ·) = x ∧ ∀ i, G i = if off ≤ i ∧ i < off + k then pre.getD (i - off) 0 else F i := by
  obtain ⟨pre, hpre, hp, hG⟩ := h.pre
  refine ⟨pre, hpre, ?_, hG⟩
  rw [decide_eq_false hk] at hp
  rw [show 4 - (k + 1) + 1 = 4 - k by omega]; exact hp
theorem q4_end {x : Option (List Nat)} {F : Nat → Nat} {off k : Nat} {G : Nat → Nat} (h : Q4 x F off k (L ByteArray.empty) G) (hk : ¬ k = 0) (hk4 : k < 4) : none = x := by
  obtain ⟨pre, hpre, hp, hG⟩ := q4_shape h hk hk4
  rw [← hp, show L ByteArray.empty = [] from rfl, p4_nil]; rfl
theorem q4_stop {x : Option (List Nat)} {F : Nat → Nat} {off k : Nat} {G : Nat → Nat} {s : ByteArray} {c : UInt8} {t : List UInt8} (h : Q4 x F off k (L s) G) (hk : ¬ k = 0) (hk4 : k < 4) (hl : (L s).drop 0 = c :: t) (hc : ¬ c.toNat = 46) : none = x := by
  obtain ⟨pre, hpre, hp, hG⟩ := q4_shape h hk hk4
  rw [List.drop_zero] at hl
  rw [hl, p4, if_neg (by simp)] at hp
  simp only [if_neg hc] at hp
  exact hp
theorem q4_next_none {x : Option (List Nat)} {F : Nat → Nat} {off k : Nat} {G : Nat → Nat} {l m : List UInt8} {c : UInt8} (h : Q4 x F off k l G) (hk : ¬ k = 0) (hk4 : k < 4) (hc : c.toNat = 46) (hl : l = c :: m) (hr : rd 0 0 m = none) : none = x := by
  obtain ⟨pre, hpre, hp, hG⟩ := q4_shape h hk hk4
  rw [hl, p4, if_neg (by simp)] at hp
  simp only [if_pos hc, hr] at hp
  exact hp
theorem q4_next_some {x : Option (List Nat)} {F : Nat → Nat} {off k v d : Nat} {G : Nat → Nat} {l : List UInt8} {s : ByteArray} {c : UInt8} (h : Q4 x F off k l G) (hk : ¬ k = 0) (hk4 : k < 4) (hc : c.toNat = 46) (hl : l = c :: L s) (hr : rd 0 0 (L s) = some (v, d)) {m : Nat} (hm : s.size ≤ m) :
    Q4 x F off (k + 1) (L (s.extract d m)) (fun j => if j = off + k then v else G j) := by
  obtain ⟨pre, hpre, hp, hG⟩ := q4_shape h hk hk4
  refine ⟨⟨pre ++ [v], by simp [hpre], ?_, fun i => q4_step hpre hG i⟩⟩
  rw [hl, p4, if_neg (by simp)] at hp
  simp only [if_pos hc, hr] at hp
  rw [L_from s d _ hm, ← hp, Option.map_map, decide_eq_false (by omega)]
  congr 1
  funext q
  simp
theorem list_empty {s : ByteArray} (h : 0 < s.size) : ¬ s.toList = [] := by
  rw [L_toList]
  intro e
  have := L_length s
  rw [e] at this
  simp at this
  omega
theorem list_isEmpty {s : ByteArray} (h : 0 < s.size) : s.toList.isEmpty = false := by
  have := list_empty h
  cases hs : s.toList with
  | nil => exact absurd hs this
  | cons a l => rfl

set_option maxHeartbeats 4000000 in
theorem parseIPv4_any (s : ByteArray) (b off cap : Nat) (t : TypeId) (n : Nat) (F : Nat → Nat) (w : World) (hs : s.size ≤ maxLen) (hn : off + 4 ≤ n)
    (hrow : Bytes w b t n F) (x : Option (List Nat)) (hx : p4 4 true (L s) = x) :
    Calls Try.prog 46 #[.string s, .slice (some ⟨b, off, none⟩) 4 cap] w fun e w' => e = .returned (.bool x.isSome) ∧ Below b w w' ∧
      ∃ G : Nat → Nat, Bytes w' b t n G ∧ ∀ q, x = some q → ∀ i, G i = if off ≤ i ∧ i < off + 4 then q.getD (i - off) 0 else F i := by
  unfold maxLen at hs
  go_enter Try.func46, Try.ntmps46
  go_wp2
  go_loopw [0, 9] (fun v0 v9 wr => ∃ (s' : ByteArray) (k : Nat) (G : Nat → Nat), v0 = .string s' ∧ v9 = .int .i64 k ∧ k ≤ 4 ∧ s'.size ≤ 2 ^ 63 - 1 ∧ Hid (Q4 x F off k (L s') G) ∧ Hid (Bytes wr b t n G) ∧ Hid (Below b w wr)) (fun _ v9 _ => (4 - intOf v9).toNat)
  case atStart => exact ⟨s, 0, F, rfl, rfl, by omega, hs, hide ⟨⟨[], rfl, by simpa using hx, fun i => by rw [if_neg (by omega)]⟩⟩, hide hrow, hide (Below.refl _ _)⟩
  case round =>
    obtain ⟨s', k, G, rfl, rfl, hk, hs', hq, hB, hbel⟩ := hrel
    rename World => w1
    by_cases hk4 : k = 4
    · subst hk4
      by_cases hE : s'.size = 0
      · obtain rfl := size_zero hE
        go_wp2
        go_ret
        obtain ⟨pre, hpre, hp4, hG⟩ := (unhide hq).pre
        have hp4 : some pre = x := by rw [← hp4]; simp [p4, L]
        subst hp4
        exact ⟨rfl, unhide hbel, G, unhide hB, fun q h => by cases h; exact hG⟩
      · have hE1 : s'.toList.isEmpty = false := list_isEmpty (by omega)
        have hE2 : ¬ s'.toList = [] := list_empty (by omega)
        go_wp2
        go_ret
        obtain ⟨pre, hpre, hp4, hG⟩ := (unhide hq).pre
        have hp4 : none = x := by
          rw [← hp4, Nat.sub_self, p4, if_neg (by rw [← L_toList]; exact hE2)]; rfl
        subst hp4
        exact ⟨rfl, unhide hbel, G, unhide hB, fun q h => by cases h⟩
    · by_cases hk0 : k = 0
      · subst hk0
        have hcell : w1.cell? ⟨b, off, none⟩ = some (.int .u8 (G off)) := World.rowIs.cell (unhide hB) (by omega)
        have hfr : w1.frozen? ⟨b, off, none⟩ = false := World.rowIs.frozen (unhide hB) _
        cases hr : rd 0 0 (L s') with
        | none =>
          have e : Hid (none = x) := hide (q4_first_none (unhide hq) hr)
          have hc := readDecimal_any s' w1 hs' none hr
          go_wp2_with fail
          refine hc.mono ?_
          rintro e' w' ⟨rfl, hw'⟩
          have hw2 := hw'.symm
          subst hw2
          unfold rdAns
          go_wp2
          go_ret
          have e := unhide e
          subst e
          exact ⟨rfl, unhide hbel, G, unhide hB, fun q h => by cases h⟩
        | some p =>
          obtain ⟨v, d⟩ := p
          have hv : v ≤ 255 := rd_le _ _ _ _ _ (by omega) hr
          have hd : d ≤ s'.size := by have := (rd_digits _ _ _ _ _ hr).2.1; rw [L_length] at this; omega
          have e : Hid (Q4 x F off 1 (L (s'.extract d s'.size)) (fun j => if j = off then v else G j)) := hide (q4_first_some (unhide hq) hr)
          have hc := readDecimal_any s' w1 hs' (some (v, d)) hr
          go_wp2_with fail
          refine hc.mono ?_
          rintro e' w' ⟨rfl, hw'⟩
          have hw2 := hw'.symm
          subst hw2
          unfold rdAns
          go_wp2
          go_roundw
          case rel => exact ⟨_, 1, _, rfl, by simp, by omega, by simp; omega, e, hide ((unhide hB).set off v (by simp) (by simp)), hide (below_set (unhide hbel) (Nat.le_refl _))⟩
          case measure => simp [intOf]
      · by_cases hE : s'.size = 0
        · obtain rfl := size_zero hE
          have e : Hid (none = x) := hide (q4_end (unhide hq) hk0 (by omega))
          go_wp2
          go_ret
          have e := unhide e
          subst e
          exact ⟨rfl, unhide hbel, G, unhide hB, fun q h => by cases h⟩
        · have hp : 0 < s'.size := by omega
          have hE1 : s'.toList.isEmpty = false := list_isEmpty (by omega)
          have hE2 : ¬ s'.toList = [] := list_empty (by omega)
          by_cases h46 : s'[0].toNat = 46
          · have h46b : ((s'[0].toNat : Int) != 46) = false := by simp [h46]
            have hl : L s' = s'[0] :: L (s'.extract 1 s'.size) := by rw [L_from s' 1 _ (Nat.le_refl _)]; exact L_drop s' 0 hp
            have hsx : (s'.extract 1 s'.size).size ≤ 2 ^ 63 - 1 := by simp; omega
            have hcell : w1.cell? ⟨b, off + k, none⟩ = some (.int .u8 (G (off + k))) := World.rowIs.cell (unhide hB) (by omega)
            have hfr : w1.frozen? ⟨b, off + k, none⟩ = false := World.rowIs.frozen (unhide hB) _
            cases hr : rd 0 0 (L (s'.extract 1 s'.size)) with
            | none =>
              have e : Hid (none = x) := hide (q4_next_none (unhide hq) hk0 (by omega) h46 hl hr)
              have hc := readDecimal_any (s'.extract 1 s'.size) w1 hsx none hr
              go_wp2_with fail
              refine hc.mono ?_
              rintro e' w' ⟨rfl, hw'⟩
              have hw2 := hw'.symm
              subst hw2
              unfold rdAns
              go_wp2
              go_ret
              have e := unhide e
              subst e
              exact ⟨rfl, unhide hbel, G, unhide hB, fun q h => by cases h⟩
            | some p =>
              obtain ⟨v, d⟩ := p
              have hv : v ≤ 255 := rd_le _ _ _ _ _ (by omega) hr
              have hd : d ≤ (s'.extract 1 s'.size).size := by have := (rd_digits _ _ _ _ _ hr).2.1; rw [L_length] at this; omega
              have e : Hid (Q4 x F off (k + 1) (L ((s'.extract 1 s'.size).extract d (s'.size - 1))) (fun j => if j = off + k then v else G j)) := hide (q4_next_some (unhide hq) hk0 (by omega) h46 hl hr (by simp))
              have hc := readDecimal_any (s'.extract 1 s'.size) w1 hsx (some (v, d)) hr
              go_wp2_with fail
              refine hc.mono ?_
              rintro e' w' ⟨rfl, hw'⟩
              have hw2 := hw'.symm
              subst hw2
              unfold rdAns
              go_wp2
              go_roundw
              case rel => exact ⟨_, k + 1, _, rfl, by simp, by omega, by simp; omega, e, hide ((unhide hB).set (off + k) v (by simp) (by simp)), hide (below_set (unhide hbel) (Nat.le_refl _))⟩
              case measure => simp [intOf]; omega
          · have h46b : ((s'[0].toNat : Int) != 46) = true := by simp; omega
            have e : Hid (none = x) := hide (q4_stop (unhide hq) hk0 (by omega) (L_drop s' 0 hp) h46)
            go_wp2
            go_ret
            have e := unhide e
            subst e
            exact ⟨rfl, unhide hbel, G, unhide hB, fun q h => by cases h⟩
end Go.Proofs.Qxb6600526a
