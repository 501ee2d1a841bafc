/-
  Plain mathematics of an open-addressing table: places read round the end, what a valid table says of the homes behind an empty slot, two empty slots. No model in this text but the integer kinds' own reckoning of '&'.
-/
import Derived.Laws.BitsAllLaws
import Derived.IntWalk
namespace Go.Proofs.Qxb6604790a.Tab
set_option linter.unusedVariables false
open Go

/-! ### masks and powers of two -/
theorem and_mask (a : Int) (n k : Nat) (hk : k ≤ 16) (hn : n = 2 ^ k) : bits .and .i64 a ((n : Int) - 1) = a % (n : Int) := by
  subst hn
  have hp : (2 : Nat) ^ k ≤ 2 ^ 16 := Nat.pow_le_pow_right (by omega) hk
  have hp1 : 1 ≤ (2 : Nat) ^ k := Nat.one_le_pow _ _ (by omega)
  have e1 : (BitVec.ofInt 64 (((2 ^ k : Nat) : Int) - 1)).toNat = 2 ^ k - 1 := by
    rw [BitVec.toNat_ofInt]
    omega
  have e2 : (((2 ^ k : Nat) : Int)) ∣ ((2 ^ 64 : Nat) : Int) := by
    refine Int.natCast_dvd_natCast.2 (Nat.pow_dvd_pow 2 (by omega))
  have e3 : ((BitVec.ofInt 64 a).toNat : Int) = a % ((2 ^ 64 : Nat) : Int) := by
    rw [BitVec.toNat_ofInt]
    have : 0 ≤ a % ((2 ^ 64 : Nat) : Int) := Int.emod_nonneg _ (by decide)
    omega
  show IntKind.i64.wrap (((BitVec.ofInt 64 a) &&& (BitVec.ofInt 64 (((2 ^ k : Nat) : Int) - 1))).toNat : Int) = _
  rw [BitVec.toNat_and, e1, Nat.and_two_pow_sub_one_eq_mod, Int.natCast_emod, e3, Int.emod_emod_of_dvd a e2, IntKind.wrap_i64]
  have h0 : 0 ≤ a % (((2 ^ k : Nat) : Int)) := Int.emod_nonneg _ (by omega)
  have h1 : a % (((2 ^ k : Nat) : Int)) < ((2 ^ k : Nat) : Int) := Int.emod_lt_of_pos _ (by omega)
  omega

theorem pow_of_and (n : Nat) (h0 : 0 < n) (h1 : n ≤ 65536) (h : (bits .and .i64 (n : Int) ((n : Int) - 1) == 0) = true) : ∃ k, k ≤ 16 ∧ n = 2 ^ k := by
  have h' : bits .and .i64 (n : Int) ((n : Int) - 1) = 0 := by simpa using h
  have e : ((n : Int) - 1) = ((n - 1 : Nat) : Int) := by omega
  have e0 : (BitVec.ofInt 64 (n : Int)).toNat = n := by rw [BitVec.toNat_ofInt]; omega
  have e1 : (BitVec.ofInt 64 ((n - 1 : Nat) : Int)).toNat = n - 1 := by rw [BitVec.toNat_ofInt]; omega
  rw [e] at h'
  have h2 : IntKind.i64.wrap (((BitVec.ofInt 64 (n : Int)) &&& (BitVec.ofInt 64 ((n - 1 : Nat) : Int))).toNat : Int) = 0 := h'
  rw [BitVec.toNat_and, e0, e1, IntKind.wrap_i64] at h2
  have hle : n &&& n - 1 ≤ n := Nat.and_le_left
  have h3 : n &&& n - 1 = 0 := by omega
  obtain ⟨k, hk⟩ := (Nat.and_sub_one_eq_zero_iff_isPowerOfTwo (by omega)).1 h3
  refine ⟨k, ?_, hk⟩
  rcases Nat.lt_or_ge 16 k with h | h
  · have : 2 ^ 17 ≤ 2 ^ k := Nat.pow_le_pow_right (by omega) (by omega)
    omega
  · exact h

/-! ### the home of a hash -/
def home (s : Nat) (x : Int) : Nat := (x * 2654435761 % 4294967296 / 2 ^ s).toNat

theorem home_int (s : Nat) (x : Int) : x * 2654435761 % 4294967296 / 2 ^ s = (home s x : Int) := by
  have h1 : 0 ≤ x * 2654435761 % 4294967296 := Int.emod_nonneg _ (by decide)
  have h2 : 0 ≤ x * 2654435761 % 4294967296 / 2 ^ s := Int.ediv_nonneg h1 (Int.le_of_lt (Int.pow_pos (by decide)))
  unfold home
  omega

theorem home_lt (k : Nat) (hk : k ≤ 16) (x : Int) : home (32 - k) x < 2 ^ k := by
  have h1 : x * 2654435761 % 4294967296 < 4294967296 := Int.emod_lt_of_pos _ (by decide)
  have h2 : x * 2654435761 % 4294967296 / 2 ^ (32 - k) < 2 ^ k := by
    refine Int.ediv_lt_of_lt_mul (Int.pow_pos (by decide)) ?_
    rw [← Int.pow_add, show k + (32 - k) = 32 by omega]
    exact h1
  have h3 := home_int (32 - k) x
  have h4 : ((2 : Int) ^ k) = ((2 ^ k : Nat) : Int) := by simp
  omega

/-! ### reading round the end -/
theorem mod_two (x n : Nat) (h : x < 2 * n) : x % n = if x < n then x else x - n := by
  split
  · exact Nat.mod_eq_of_lt ‹_›
  · rw [Nat.mod_eq_sub_mod (by omega), Nat.mod_eq_of_lt (by omega)]

/-- The offset of place z, counted from place a. -/
def off (n a z : Nat) : Nat := (z + n - a) % n

theorem off_lt (n a z : Nat) (hn : 0 < n) : off n a z < n := Nat.mod_lt _ hn
theorem off_at (n a z : Nat) (ha : a < n) (hz : z < n) : (a + off n a z) % n = z := by
  have e : off n a z = if z + n - a < n then z + n - a else z + n - a - n := mod_two _ _ (by omega)
  rw [mod_two _ _ (by have := off_lt n a z (by omega); omega), e]
  split <;> split <;> omega
theorem off_pos (n a z : Nat) (ha : a < n) (hz : z < n) (h : z ≠ a) : 1 ≤ off n a z := by
  have e : off n a z = if z + n - a < n then z + n - a else z + n - a - n := mod_two _ _ (by omega)
  rw [e]
  split <;> omega
theorem off_int (n a z : Nat) (ha : a < n) (hz : z < n) : ((z : Int) - (a : Int)) % (n : Int) = (off n a z : Int) := by
  have e : off n a z = if z + n - a < n then z + n - a else z + n - a - n := mod_two _ _ (by omega)
  rw [e]
  split
  · rw [← Int.add_emod_right, Int.emod_eq_of_lt (by omega) (by omega)]; omega
  · rw [Int.emod_eq_of_lt (by omega) (by omega)]; omega
theorem next_int (n a d : Nat) : (((a + d) % n : Nat) : Int) = ((a : Int) + (d : Int)) % (n : Int) := by simp
theorem step_mod (n a d : Nat) : ((a + d) % n + 1) % n = (a + (d + 1)) % n := by
  rw [Nat.mod_add_mod]; congr 1

/-- One place on, the distance to another place is one less. -/
theorem off_step (n p z : Nat) (hp : p < n) (hz : z < n) (h : p ≠ z) : off n ((p + 1) % n) z + 1 = off n p z := by
  have e1 : off n p z = if z + n - p < n then z + n - p else z + n - p - n := mod_two _ _ (by omega)
  have e2 := mod_two (p + 1) n (by omega)
  have hlt : (p + 1) % n < n := Nat.mod_lt _ (by omega)
  have e3 : off n ((p + 1) % n) z = if z + n - (p + 1) % n < n then z + n - (p + 1) % n else z + n - (p + 1) % n - n := mod_two _ _ (by omega)
  rw [e1, e3, e2]
  split <;> split <;> split <;> omega
theorem succ_int (n p : Nat) : (((p + 1) % n : Nat) : Int) = ((p : Int) + 1) % (n : Int) := by simp

/-- What zzl1Valid has seen of the offsets below O, counted from the empty slot e: every used slot's home lies in the unbroken run of used slots that ends there. -/
def Good (n : Nat) (H : Nat → Int) (hm : Nat → Nat) (e O : Nat) : Prop :=
  ∀ o, 1 ≤ o → o < O → H ((e + o) % n) ≠ 0 → ∃ r, 1 ≤ r ∧ r ≤ off n e (hm ((e + o) % n)) ∧ off n e (hm ((e + o) % n)) ≤ o ∧ ∀ t, r ≤ t → t ≤ o → H ((e + t) % n) ≠ 0

/-- The run that the loop of zzl1Valid carries. -/
def Run (n : Nat) (H : Nat → Int) (e r o : Nat) : Prop := 1 ≤ r ∧ r ≤ o ∧ ∀ t, r ≤ t → t < o → H ((e + t) % n) ≠ 0

theorem run_start (n : Nat) (H : Nat → Int) (e : Nat) : Run n H e 1 1 := ⟨by omega, by omega, fun t _ _ => by omega⟩
theorem good_start (n : Nat) (H : Nat → Int) (hm : Nat → Nat) (e : Nat) : Good n H hm e 1 := fun o h1 h2 => by omega
theorem run_empty {n : Nat} {H : Nat → Int} {e r o : Nat} (h : Run n H e r o) : Run n H e (o + 1) (o + 1) := ⟨by omega, by omega, fun t _ _ => by omega⟩
theorem run_used {n : Nat} {H : Nat → Int} {e r o : Nat} (h : Run n H e r o) (hu : H ((e + o) % n) ≠ 0) : Run n H e r (o + 1) :=
  ⟨h.1, by have := h.2.1; omega, fun t h1 h2 => by
    by_cases ht : t = o
    · subst ht; exact hu
    · exact h.2.2 t h1 (by omega)⟩
theorem good_empty {n : Nat} {H : Nat → Int} {hm : Nat → Nat} {e o : Nat} (h : Good n H hm e o) (hz : H ((e + o) % n) = 0) : Good n H hm e (o + 1) := by
  intro q h1 h2 hu
  by_cases hq : q = o
  · subst hq; exact absurd hz hu
  · exact h q h1 (by omega) hu
theorem good_used {n : Nat} {H : Nat → Int} {hm : Nat → Nat} {e r o : Nat} (h : Good n H hm e o) (hr : Run n H e r o) (hu : H ((e + o) % n) ≠ 0)
    (l1 : r ≤ off n e (hm ((e + o) % n))) (l2 : off n e (hm ((e + o) % n)) ≤ o) : Good n H hm e (o + 1) := by
  intro q h1 h2 hu'
  by_cases hq : q = o
  · subst hq
    refine ⟨r, hr.1, l1, l2, fun t t1 t2 => ?_⟩
    exact (run_used hr hu).2.2 t t1 (by omega)
  · exact h q h1 (by omega) hu'

/-- BEHIND AN EMPTY SLOT a: as long as the slots are used, each one's home lies behind a, reading round the end. -/
theorem behind {n : Nat} {H : Nat → Int} {hm : Nat → Nat} {e a : Nat} (he : e < n) (ha : a < n) (ze : H e = 0) (za : H a = 0) (hg : Good n H hm e n) (hmn : ∀ p, hm p < n)
    (d : Nat) (h1 : 1 ≤ d) (hd : d < n) (hu : ∀ t, 1 ≤ t → t ≤ d → H ((a + t) % n) ≠ 0) :
    (a < (a + d) % n → a < hm ((a + d) % n) ∧ hm ((a + d) % n) ≤ (a + d) % n) ∧ ((a + d) % n < a → a < hm ((a + d) % n) ∨ hm ((a + d) % n) ≤ (a + d) % n) := by
  have hoa := off_lt n e a (by omega)
  have ea := off_at n e a he ha
  have hlt : off n e a + d < n := by
    rcases Nat.lt_or_ge (off n e a + d) n with h | h
    · exact h
    · exfalso
      have h0 := hu (n - off n e a) (by omega) (by omega)
      apply h0
      have e1 : (a + (n - off n e a)) % n = e := by
        have : (a + (n - off n e a)) % n = ((e + off n e a) % n + (n - off n e a)) % n := by rw [ea]
        rw [this, Nat.mod_add_mod, show e + off n e a + (n - off n e a) = e + n by omega, Nat.add_mod_right, Nat.mod_eq_of_lt he]
      rw [e1]; exact ze
  have ej : (e + (off n e a + d)) % n = (a + d) % n := by
    rw [← Nat.add_assoc, ← Nat.mod_add_mod, ea]
  have hj := hu d h1 (Nat.le_refl _)
  have hgo := hg (off n e a + d) (by omega) hlt (by rw [ej]; exact hj)
  rw [ej] at hgo
  obtain ⟨r, r1, r2, r3, r4⟩ := hgo
  have hra : off n e a < r := by
    rcases Nat.lt_or_ge (off n e a) r with h | h
    · exact h
    · exact absurd (by rw [ea]; exact za) (r4 (off n e a) h (by omega))
  have em := off_at n e (hm ((a + d) % n)) he (hmn _)
  have hom := off_lt n e (hm ((a + d) % n)) (by omega)
  generalize hm ((a + d) % n) = m at *
  have e1 := mod_two (e + off n e a) n (by omega)
  have e2 := mod_two (e + off n e m) n (by omega)
  have e3 := mod_two (e + (off n e a + d)) n (by omega)
  rw [ea] at e1
  rw [em] at e2
  rw [ej] at e3
  rw [e3]
  split at e1 <;> split at e2 <;> split <;> omega

/-! ### how many slots are used -/
def cnt (H : Nat → Int) : Nat → Nat
  | 0 => 0
  | i + 1 => cnt H i + if H i = 0 then 0 else 1

theorem cnt_le (H : Nat → Int) : ∀ i, cnt H i ≤ i
  | 0 => Nat.le_refl _
  | i + 1 => by have := cnt_le H i; simp only [cnt]; split <;> omega
theorem cnt_one (H : Nat → Int) : ∀ i, cnt H i + 1 ≤ i → ∃ z, z < i ∧ H z = 0
  | 0, h => by omega
  | i + 1, h => by
    by_cases hz : H i = 0
    · exact ⟨i, by omega, hz⟩
    · simp only [cnt, if_neg hz] at h
      obtain ⟨z, h1, h2⟩ := cnt_one H i (by omega)
      exact ⟨z, by omega, h2⟩
theorem cnt_two (H : Nat → Int) : ∀ i, cnt H i + 2 ≤ i → ∃ z y, z < y ∧ y < i ∧ H z = 0 ∧ H y = 0
  | 0, h => by omega
  | i + 1, h => by
    by_cases hz : H i = 0
    · simp only [cnt, if_pos hz] at h
      obtain ⟨z, h1, h2⟩ := cnt_one H i (by omega)
      exact ⟨z, i, h1, by omega, h2, hz⟩
    · simp only [cnt, if_neg hz] at h
      obtain ⟨z, y, h1, h2, h3, h4⟩ := cnt_two H i (by omega)
      exact ⟨z, y, h1, by omega, h3, h4⟩

/-- Two empty slots: one of them is not a. -/
theorem other_empty {H : Nat → Int} {n z y : Nat} (h1 : z < y) (h2 : y < n) (h3 : H z = 0) (h4 : H y = 0) (a : Nat) : ∃ q, q < n ∧ q ≠ a ∧ H q = 0 := by
  by_cases h : z = a
  · exact ⟨y, h2, by omega, h4⟩
  · exact ⟨z, by omega, h, h3⟩
end Go.Proofs.Qxb6604790a.Tab
