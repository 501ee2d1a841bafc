/-
  Plain numbers for the law FnModeStringDecodes: the value of a row of decimal digits, and what it gives at a decimal numeral. No model in this text.
-/
import Derived.Lib.ItoaNum
namespace Go.Proofs.Qxb6604495aDoor.Num
open Go.Lib

/-- The number that a row of decimal digits spells. -/
def val (l : List UInt8) : Nat := l.foldl (fun a c => a * 10 + (c.toNat - 48)) 0

theorem val_nil : val [] = 0 := rfl
theorem val_snoc (l : List UInt8) (c : UInt8) : val (l ++ [c]) = val l * 10 + (c.toNat - 48) := by
  simp [val, List.foldl_append]

theorem dig_toNat {d : Nat} (h : d < 10) : (UInt8.ofNat (48 + d)).toNat = 48 + d := by
  simp [UInt8.toNat_ofNat']
  omega

theorem val_decDigits (u : Nat) : val (decDigits u) = u := by
  induction u using Nat.strongRecOn with
  | _ u ih =>
    by_cases h : u < 10
    · rw [decDigits, dif_pos h]
      have := val_snoc [] (UInt8.ofNat (48 + u))
      rw [List.nil_append, dig_toNat h, val_nil] at this
      omega
    · rw [decDigits, dif_neg h, val_snoc, ih (u / 10) (by omega), dig_toNat (by omega)]
      omega

/-- Every byte of the list is a decimal digit. -/
def Digs (l : List UInt8) : Prop := ∀ c ∈ l, 48 ≤ c.toNat ∧ c.toNat ≤ 57

theorem digs_decDigits (u : Nat) : Digs (decDigits u) := by
  induction u using Nat.strongRecOn with
  | _ u ih =>
    intro c hc
    by_cases h : u < 10
    · rw [decDigits, dif_pos h] at hc
      obtain rfl := List.mem_singleton.1 hc
      rw [dig_toNat h]; omega
    · rw [decDigits, dif_neg h] at hc
      rcases List.mem_append.1 hc with hc | hc
      · exact ih (u / 10) (by omega) c hc
      · obtain rfl := List.mem_singleton.1 hc
        rw [dig_toNat (by omega)]; omega

theorem len_decDigits (u : Nat) : 1 ≤ (decDigits u).length := by
  rw [decDigits_length]; exact nDigits_pos u

/-- The first digit of a number that is not 0 is not 0. -/
theorem head_decDigits (u : Nat) (hu : 1 ≤ u) : ∀ c, (decDigits u)[0]? = some c → c.toNat ≠ 48 := by
  induction u using Nat.strongRecOn with
  | _ u ih =>
    intro c hc
    by_cases h : u < 10
    · rw [decDigits, dif_pos h] at hc
      simp only [List.getElem?_cons_zero, Option.some.injEq] at hc
      subst hc
      rw [dig_toNat h]; omega
    · rw [decDigits, dif_neg h] at hc
      rw [List.getElem?_append_left (len_decDigits _)] at hc
      exact ih (u / 10) (by omega) (by omega) c hc

theorem val_lt : ∀ (n : Nat) (l : List UInt8), l.length = n → Digs l → val l < 10 ^ n := by
  intro n
  induction n with
  | zero =>
    intro l hl _
    obtain rfl := List.length_eq_zero_iff.1 hl
    simp [val_nil]
  | succ n ih =>
    intro l hl hd
    have hne : l ≠ [] := by intro h; subst h; simp at hl
    obtain ⟨r, c, rfl⟩ : ∃ r c, l = r ++ [c] := ⟨l.dropLast, l.getLast hne, (List.dropLast_concat_getLast hne).symm⟩
    have hr : r.length = n := by simpa using hl
    have h1 := ih r hr (fun x hx => hd x (List.mem_append_left _ hx))
    have h2 := hd c (List.mem_append_right _ (List.mem_singleton.2 rfl))
    rw [val_snoc, Nat.pow_succ]
    omega

theorem nDigits_le (u : Nat) (h : u < 10000000000000000000) : nDigits u ≤ 19 := by
  have key : ∀ k u, u < 10 ^ (k + 1) → nDigits u ≤ k + 1 := by
    intro k
    induction k with
    | zero => intro u hu; rw [nDigits_small (by simpa using hu)]; omega
    | succ k ih =>
      intro u hu
      by_cases h10 : u < 10
      · rw [nDigits_small h10]; omega
      · rw [nDigits_big h10]
        have := ih (u / 10) (by rw [Nat.pow_succ] at hu; omega)
        omega
  exact key 18 u (by omega)

theorem take_snoc (l : List UInt8) (k : Nat) (h : k < l.length) : l.take (k + 1) = l.take k ++ [l[k]] :=
  List.take_succ_eq_append_getElem h

/-- One step more: the number of the first k+1 digits. -/
theorem val_step (l : List UInt8) (hd : Digs l) (k : Nat) (h : k < l.length) :
    val (l.take (k + 1)) = val (l.take k) * 10 + (l[k].toNat - 48) ∧ 48 ≤ l[k].toNat ∧ l[k].toNat ≤ 57 := by
  refine ⟨by rw [take_snoc l k h, val_snoc], hd _ (List.getElem_mem h)⟩

theorem val_take_lt (l : List UInt8) (hd : Digs l) (k : Nat) (hk : k ≤ l.length) : val (l.take k) < 10 ^ k :=
  val_lt k _ (by simp; omega) (fun c hc => hd c (List.mem_of_mem_take hc))

/-- With at most 19 digits nothing passes 10^19. -/
theorem val_bound (l : List UInt8) (hd : Digs l) (h19 : l.length ≤ 19) (k : Nat) (hk : k < l.length) : val (l.take k) < 1000000000000000000 := by
  have h := val_take_lt l hd k (by omega)
  have : 10 ^ k ≤ 10 ^ 18 := Nat.pow_le_pow_right (by omega) (by omega)
  omega

theorem itoa_len (n : Int) (h0 : -9223372036854775808 ≤ n) (h1 : n ≤ 9223372036854775807) : (itoa n).length ≤ 20 := by
  unfold itoa
  split
  · rw [List.length_cons, decDigits_length]
    have := nDigits_le n.natAbs (by omega)
    omega
  · rw [decDigits_length]
    have := nDigits_le n.toNat (by omega)
    omega
end Go.Proofs.Qxb6604495aDoor.Num
