/-
  The leaves on the road of FnRemoveUndoesPut.
-/
import Derived.Test.Qxb6604790aRows
import Derived.Test.Qxb6604790aPlain
import Derived.WalkKit
import Derived.WalkSpells
import Derived.WalkLawsBesides
import Derived.BigQuiet
import Derived.Deep.OwnRows
namespace Go.Proofs.Qxb6604790a
set_option linter.unusedVariables false
open Go.RowKit

theorem mkHid {p : Prop} (h : p) : Hid p := h

/-- The cells of a row of uint32. -/
def U (H : Nat → Int) : Nat → Value := fun i => .int .u32 (H i)
/-- Every number of the row is a uint32. -/
def Ok (H : Nat → Int) : Prop := ∀ i, 0 ≤ H i ∧ H i < 4294967296

def BoolEnd (e : Ending) : Prop := ∃ b, e = .returned (.bool b)

set_option maxHeartbeats 400000 in
theorem bytes_any (a0 a1 : Option Addr) (l0 c0 l1 c1 : Nat) (o d s q h x : Int) (w : World) (h0 : l0 ≤ 9223372036854775807) (h1 : l1 ≤ 9223372036854775807) :
    Calls Try.prog 20 #[.slice a0 l0 c0, .slice a1 l1 c1, .int .i64 o, .int .u64 d, .int .u64 s, .int .i64 q, .int .u32 h, .int .u32 x] w fun e w' => BoolEnd e ∧ w' = w := by
  by_cases k0 : l0 ≤ 1048576
  · by_cases k1 : l1 ≤ 1048576
    · go_enter Try.func20, Try.ntmps20
      go_wp2
      all_goals
        go_ret
        exact ⟨⟨_, rfl⟩, rfl⟩
    · go_enter Try.func20, Try.ntmps20
      go_wp2
      all_goals
        go_ret
        exact ⟨⟨_, rfl⟩, rfl⟩
  · go_enter Try.func20, Try.ntmps20
    go_wp2
    all_goals
      go_ret
      exact ⟨⟨_, rfl⟩, rfl⟩

def PowEnd (n : Nat) (e : Ending) : Prop := ∃ b, e = .returned (.bool b) ∧ (b = true → ∃ k, k ≤ 16 ∧ n = 2 ^ k)

set_option maxHeartbeats 400000 in
theorem pow2_any (n : Nat) (w : World) (h : n ≤ 65536) : Calls Try.prog 21 #[.int .i64 n] w fun e w' => PowEnd n e ∧ w' = w := by
  by_cases h0 : 0 < n
  · go_enter Try.func21, Try.ntmps21
    go_wp2
    go_ret
    exact ⟨⟨_, rfl, fun hb => Tab.pow_of_and n h0 h hb⟩, rfl⟩
  · go_enter Try.func21, Try.ntmps21
    go_wp2
    go_ret
    exact ⟨⟨_, rfl, fun hb => by cases hb⟩, rfl⟩

set_option maxHeartbeats 400000 in
theorem shift_any (k : Nat) (w : World) (hk : k ≤ 16) (n : Nat) (hn : Hid (n = 2 ^ k)) (hb : n ≤ 65536) :
    Calls Try.prog 22 #[.int .i64 n] w fun e w' => e = .returned (.int .u64 ((32 : Int) - k)) ∧ w' = w := by
  go_enter Try.func22, Try.ntmps22
  go_wp2
  go_loop [3, 4] (fun s m => ∃ (a j : Nat), m = .int .i64 a ∧ s = .int .u64 ((32 : Int) - j) ∧ Hid (a = 2 ^ (k - j)) ∧ j ≤ k ∧ a ≤ 65536) (fun _ m => (intOf m).toNat)
  case atStart => exact ⟨n, 0, rfl, by go_num, hn, by omega, hb⟩
  case round =>
    obtain ⟨a, j, rfl, rfl, h1, h2, h3⟩ := hrel
    by_cases hlt : 1 < a
    · have hj : j < k := by
        rcases Nat.lt_or_ge j k with h | h
        · exact h
        · have := h1.out; rw [show k - j = 0 by omega] at this; omega
      have h4 : a / 2 = 2 ^ (k - (j + 1)) := by
        have e := h1.out
        rw [show k - j = k - (j + 1) + 1 by omega, Nat.pow_succ] at e
        omega
      have H4 := mkHid h4
      clear h4
      go_wp2
      go_round
      case rel => exact ⟨a / 2, j + 1, by go_num, by go_num, H4.out, by omega, by omega⟩
      case measure => simp [intOf]; omega
    · have ej : j = k := by
        have e := h1.out
        rcases Nat.lt_or_ge j k with h | h
        · have : 2 ^ 1 ≤ 2 ^ (k - j) := Nat.pow_le_pow_right (by omega) (by omega)
          omega
        · omega
      subst ej
      go_wp2
      go_ret
      exact ⟨rfl, rfl⟩

set_option maxHeartbeats 400000 in
theorem count_any (b n : Nat) (H : Nat → Int) (w : World) (hn : n ≤ 65536) (hr : w.rowIs b 40 n (U H)) :
    Calls Try.prog 23 #[.slice (some ⟨b, 0, none⟩) n n] w fun e w' => e = .returned (.int .i64 (Tab.cnt H n)) ∧ w' = w := by
  have HR := mkHid hr
  clear hr
  go_enter Try.func23, Try.ntmps23
  go_wp2
  go_loop [3, 4] (fun c i => ∃ k : Nat, k ≤ n ∧ i = .int .i64 k ∧ c = .int .i64 (Tab.cnt H k)) (fun _ i => n - (intOf i).toNat)
  case atStart => exact ⟨0, Nat.zero_le _, rfl, rfl⟩
  case round =>
    obtain ⟨k, hk, rfl, rfl⟩ := hrel
    have hc := Tab.cnt_le H k
    by_cases hlt : k < n
    · have hcell : w.cell? ⟨b, k, none⟩ = some (.int .u32 (H k)) := HR.out.cell hlt
      by_cases hz : H k = 0
      · have hz' : (H k != 0) = false := by simp [hz]
        have E : Hid (Tab.cnt H (k + 1) = Tab.cnt H k) := by show _ = _; simp [Tab.cnt, hz]
        clear hz
        go_wp2
        go_round
        case rel => exact ⟨k + 1, by omega, by go_num, by rw [E.out]⟩
        case measure => simp [intOf]; omega
      · have hz' : (H k != 0) = true := by simp [hz]
        have E : Hid (Tab.cnt H (k + 1) = Tab.cnt H k + 1) := by show _ = _; simp [Tab.cnt, hz]
        clear hz
        go_wp2
        go_round
        case rel => exact ⟨k + 1, by omega, by go_num, by rw [E.out]; go_num⟩
        case measure => simp [intOf]; omega
    · obtain rfl : k = n := by omega
      go_wp2
      go_ret
      exact ⟨rfl, rfl⟩

/-- What zzl1FirstEmpty answers. -/
def FirstEnd (n : Nat) (H : Nat → Int) (e : Ending) : Prop := (e = .returned (.int .i64 (-1)) ∧ ∀ i, i < n → H i ≠ 0) ∨ ∃ z : Nat, e = .returned (.int .i64 z) ∧ z < n ∧ H z = 0

set_option maxHeartbeats 400000 in
theorem first_any (b n : Nat) (H : Nat → Int) (w : World) (hn : n ≤ 65536) (hr : w.rowIs b 40 n (U H)) :
    Calls Try.prog 11 #[.slice (some ⟨b, 0, none⟩) n n] w fun e w' => FirstEnd n H e ∧ w' = w := by
  have HR := mkHid hr
  clear hr
  go_enter Try.func11, Try.ntmps11
  go_wp2
  go_loop [3] (fun i => ∃ k : Nat, k ≤ n ∧ i = .int .i64 k ∧ Hid (∀ j, j < k → H j ≠ 0)) (fun i => n - (intOf i).toNat)
  case atStart => exact ⟨0, Nat.zero_le _, rfl, fun j hj => by omega⟩
  case round =>
    obtain ⟨k, hk, rfl, HA⟩ := hrel
    by_cases hlt : k < n
    · have hcell : w.cell? ⟨b, k, none⟩ = some (.int .u32 (H k)) := HR.out.cell hlt
      by_cases hz : H k = 0
      · have hz' : (H k == 0) = true := by simp [hz]
        have E := mkHid hz
        clear hz
        go_wp2
        go_ret
        exact ⟨Or.inr ⟨k, rfl, hlt, E.out⟩, rfl⟩
      · have hz' : (H k == 0) = false := by simp [hz]
        have E := mkHid hz
        clear hz
        go_wp2
        go_round
        case rel => exact ⟨k + 1, by omega, by go_num, fun j hj => by
          by_cases e : j = k
          · subst e; exact E.out
          · exact HA.out j (by omega)⟩
        case measure => simp [intOf]; omega
    · go_wp2
      go_ret
      exact ⟨Or.inl ⟨rfl, fun i hi => HA.out i (by omega)⟩, rfl⟩

theorem wrap_small (m : Nat) (h : m ≤ 65536) : wrap64 (m : Int) = m := by unfold wrap64; omega
theorem ret_int {k : IntKind} {a b : Int} (h : a = b) : Ending.returned (.int k a) = .returned (.int k b) := by rw [h]

set_option maxHeartbeats 400000 in
theorem home_any (g : Nat) (x : Int) (k : Nat) (w : World) (hk : k ≤ 16) (h0 : 0 ≤ x) (h1 : x < 4294967296) (hc : w.cell? ⟨g, 3, none⟩ = some (.int .u64 ((32 : Int) - k))) :
    Calls Try.prog 30 #[.pointer (some ⟨g, 0, none⟩), .int .u32 x] w fun e w' => e = .returned (.int .i64 (Tab.home (32 - k) x)) ∧ w' = w := by
  have hlt := Tab.home_lt k hk x
  have hp : (2 : Nat) ^ k ≤ 2 ^ 16 := Nat.pow_le_pow_right (by omega) hk
  have E : Hid (wrap64 (x * 2654435761 % 4294967296 / 2 ^ (32 - k)) = (Tab.home (32 - k) x : Int)) := by
    show _ = _
    rw [Tab.home_int, wrap_small _ (by omega)]
  have g0 : 0 ≤ (32 : Int) - k := by omega
  have g1 : (32 : Int) - k ≤ 32 := by omega
  clear hp hlt
  go_enter Try.func30, Try.ntmps30
  go_wp2
  go_ret
  exact ⟨ret_int E.out, rfl⟩

theorem zzhome_any (g : Nat) (x : Int) (k : Nat) (w : World) (hk : k ≤ 16) (h0 : 0 ≤ x) (h1 : x < 4294967296) (hc : w.cell? ⟨g, 3, none⟩ = some (.int .u64 ((32 : Int) - k))) :
    Calls Try.prog 28 #[.pointer (some ⟨g, 0, none⟩), .int .u32 x] w fun e w' => e = .returned (.int .i64 (Tab.home (32 - k) x)) ∧ w' = w := by
  go_enter Try.func28, Try.ntmps28
  go_wp2_with (go_at_call 30; refine (home_any g x k _ hk h0 h1 hc).mono ?_; rintro e w' ⟨rfl, rfl⟩)
  go_ret
  exact ⟨rfl, rfl⟩
end Go.Proofs.Qxb6604790a
