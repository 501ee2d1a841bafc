/-
  The walk of decodeNumbered at the text of a numeral that is not negative.
-/
import Derived.Test.Qxb6604495aDoorWalks
import Derived.Laws.BitsAllLaws
namespace Go.Proofs.Qxb6604495aDoor
open Go.Lib Go.RowKit

theorem blen (b : ByteArray) : b.data.toList.length = b.size := by rw [Array.length_toList]; rfl
theorem u64_step (a c : Int) (ha : 0 ≤ a) (hb : a < 1000000000000000000) (h1 : 48 ≤ c) (h2 : c ≤ 57) : IntKind.u64.wrap (IntKind.u64.wrap (a * 10) + (c - 48)) = a * 10 + (c - 48) := by
  simp only [IntKind.wrap_u64]
  omega
theorem i64_back (a : Int) (ha : 0 ≤ a) (hb : a ≤ 9223372036854775807) : IntKind.i64.wrap a = a := by
  simp only [IntKind.wrap_i64]
  omega
theorem not64 (a : Nat) (h : a < 18446744073709551616) : 18446744073709551615 ^^^ a = 18446744073709551615 - a := by
  have e := BitVec.toNat_not (x := BitVec.ofNat 64 a)
  rw [← BitVec.allOnes_xor, BitVec.toNat_xor, BitVec.toNat_allOnes, BitVec.toNat_ofNat, Nat.mod_eq_of_lt h] at e
  exact e
/-- int64(^a + 1) is -a, for a up to 2^63. -/
theorem neg_back (a : Int) (ha : 0 ≤ a) (hb : a ≤ 9223372036854775808) : wrap64 (IntKind.u64.wrap (bits .xor .u64 IntKind.u64.max a + 1)) = -a := by
  obtain ⟨n, rfl⟩ := Int.eq_ofNat_of_zero_le ha
  have hm : IntKind.u64.max = ((18446744073709551615 : Nat) : Int) := by decide
  rw [hm, u64_xor_nat _ _ (by omega) (by omega), not64 n (by omega), IntKind.wrap_u64]
  unfold wrap64
  omega
theorem ret_pair {k : IntKind} {a b : Int} (h : a = b) (t : Value) : Ending.returned (.tuple #[.int k a, t]) = .returned (.tuple #[.int k b, t]) := by rw [h]
/-- What one byte more makes of the number. -/
theorem step_int (b : ByteArray) (hd : Num.Digs b.data.toList) (b19 : b.size ≤ 19) (k : Nat) (hk : k < b.size) (a : Int) (ha : a = (Num.val (b.data.toList.take k) : Int)) :
    48 ≤ (b[k].toNat : Int) ∧ (b[k].toNat : Int) ≤ 57 ∧ a < 1000000000000000000 ∧ a * 10 + ((b[k].toNat : Int) - 48) = (Num.val (b.data.toList.take (k + 1)) : Int) := by
  have hl := blen b
  obtain ⟨h1, h2, h3⟩ := Num.val_step _ hd k (by omega)
  have h4 := Num.val_bound _ hd (by omega) k (by omega)
  have h5 : b.data.toList[k] = b[k] := rfl
  rw [h5] at h1 h2 h3
  omega

set_option maxHeartbeats 400000 in
theorem dn_pos (s b : ByteArray) (h7 : 7 ≤ s.size) (h30 : s.size ≤ 30) (hx : s.extract 0 4 = ⟨#[77, 111, 100, 101]⟩)
    (h40 : ((s[4]'(by omega)).toNat : Int) = 40) (h41 : ((s[s.size - 1]'(by omega)).toNat : Int) = 41) (hb : s.extract 5 (s.size - 1) = b)
    (b1 : 1 ≤ b.size) (b19 : b.size ≤ 19) (b0 : (((b[0]'(by omega)).toNat : Int) == 48) = false) (bm : (((b[0]'(by omega)).toNat : Int) == 45) = false)
    (hd : Num.Digs b.data.toList) (hv : Num.val b.data.toList ≤ 9223372036854775807) (w : World) :
    Calls Tryd.prog 13 #[.string s, .string ⟨#[77, 111, 100, 101]⟩] w fun e w' => e = .returned (.tuple #[.int .i64 (Num.val b.data.toList), .bool true]) ∧ w' = w := by
  have hne : ¬ b = ByteArray.empty := by rintro rfl; simp at b1
  have hz : ((b.size : Int) == 0) = false := by simp; omega
  have hgt : decide (19 < (b.size : Int)) = false := by simp; omega
  have HD : Hid (Num.Digs b.data.toList ∧ Num.val b.data.toList ≤ 9223372036854775807) := ⟨hd, hv⟩
  clear hd hv
  go_enter Tryd.func13, Tryd.ntmps13
  go_wp2_with fail
  go_loop [9, 10, 11] (fun m i _ => ∃ (k : Nat) (a : Int), k ≤ b.size ∧ i = .int .i64 k ∧ m = .int .u64 a ∧ Hid (a = (Num.val (b.data.toList.take k) : Int)) ∧ 0 ≤ a) (fun _ i _ => b.size - (RowKit.intOf i).toNat)
  case atStart => exact ⟨0, 0, Nat.zero_le _, rfl, rfl, rfl, by omega⟩
  case round =>
    obtain ⟨k, a, hk, rfl, rfl, HA, ha⟩ := hrel
    by_cases hlt : k < b.size
    · obtain ⟨c1, c2, c3, c4⟩ := step_int b HD.out.1 b19 k hlt a HA.out
      have C4 : Hid (a * 10 + ((b[k].toNat : Int) - 48) = (Num.val (b.data.toList.take (k + 1)) : Int)) := c4
      have C3 : Hid (a < 1000000000000000000) := c3
      clear c4 c3
      have c1' : decide ((b[k].toNat : Int) < 48) = false := by simp; omega
      have c2' : decide (57 < (b[k].toNat : Int)) = false := by simp; omega
      go_wp2
      go_round
      case rel => exact ⟨k + 1, a * 10 + ((b[k].toNat : Int) - 48), by omega, by go_num, by rw [u64_step a _ ha C3.out c1 c2], C4.out, by omega⟩
      case measure => simp [RowKit.intOf]; omega
    · have hk' : k = b.size := by omega
      have ea : a = (Num.val b.data.toList : Int) := by
        rw [HA.out, hk', List.take_of_length_le (Nat.le_of_eq (blen b))]
      have ha' : a ≤ 9223372036854775807 := by have := HD.out.2; omega
      have EA : Hid (a = (Num.val b.data.toList : Int)) := ea
      clear ea hk' HA
      go_wp2
      go_ret2
      exact ⟨ret_pair EA.out _, rfl⟩
set_option maxHeartbeats 400000 in
theorem dn_neg (s c b : ByteArray) (h7 : 7 ≤ s.size) (h30 : s.size ≤ 30) (hx : s.extract 0 4 = ⟨#[77, 111, 100, 101]⟩)
    (h40 : ((s[4]'(by omega)).toNat : Int) = 40) (h41 : ((s[s.size - 1]'(by omega)).toNat : Int) = 41) (hb : s.extract 5 (s.size - 1) = c) (c1 : 2 ≤ c.size) (c20 : c.size ≤ 20) (hc : ((c[0]'(by omega)).toNat : Int) = 45) (hcb : c.extract 1 c.size = b)
    (b1 : 1 ≤ b.size) (b19 : b.size ≤ 19) (b0 : (((b[0]'(by omega)).toNat : Int) == 48) = false)
    (hd : Num.Digs b.data.toList) (hv : Num.val b.data.toList ≤ 9223372036854775808) (w : World) :
    Calls Tryd.prog 13 #[.string s, .string ⟨#[77, 111, 100, 101]⟩] w fun e w' => e = .returned (.tuple #[(.int .i64 (-(Num.val b.data.toList : Int))), .bool true]) ∧ w' = w := by
  have hne : ¬ b = ByteArray.empty := by rintro rfl; simp at b1
  have hz : ((b.size : Int) == 0) = false := by simp; omega
  have hgt : decide (19 < (b.size : Int)) = false := by simp; omega
  have HD : Hid (Num.Digs b.data.toList ∧ Num.val b.data.toList ≤ 9223372036854775808) := ⟨hd, hv⟩
  clear hd hv
  go_enter Tryd.func13, Tryd.ntmps13
  go_wp2_with fail
  go_loop [9, 10, 11] (fun m i _ => ∃ (k : Nat) (a : Int), k ≤ b.size ∧ i = .int .i64 k ∧ m = .int .u64 a ∧ Hid (a = (Num.val (b.data.toList.take k) : Int)) ∧ 0 ≤ a) (fun _ i _ => b.size - (RowKit.intOf i).toNat)
  case atStart => exact ⟨0, 0, Nat.zero_le _, rfl, rfl, rfl, by omega⟩
  case round =>
    obtain ⟨k, a, hk, rfl, rfl, HA, ha⟩ := hrel
    by_cases hlt : k < b.size
    · obtain ⟨c1, c2, c3, c4⟩ := step_int b HD.out.1 b19 k hlt a HA.out
      have C4 : Hid (a * 10 + ((b[k].toNat : Int) - 48) = (Num.val (b.data.toList.take (k + 1)) : Int)) := c4
      have C3 : Hid (a < 1000000000000000000) := c3
      clear c4 c3
      have c1' : decide ((b[k].toNat : Int) < 48) = false := by simp; omega
      have c2' : decide (57 < (b[k].toNat : Int)) = false := by simp; omega
      go_wp2
      go_round
      case rel => exact ⟨k + 1, a * 10 + ((b[k].toNat : Int) - 48), by omega, by go_num, by rw [u64_step a _ ha C3.out c1 c2], C4.out, by omega⟩
      case measure => simp [RowKit.intOf]; omega
    · have hk' : k = b.size := by omega
      have ea : a = (Num.val b.data.toList : Int) := by
        rw [HA.out, hk', List.take_of_length_le (Nat.le_of_eq (blen b))]
      have ha' : a ≤ 9223372036854775808 := by have := HD.out.2; omega
      have EA : Hid (a = (Num.val b.data.toList : Int)) := ea
      clear ea hk' HA
      go_wp2
      go_ret2
      exact ⟨ret_pair (by rw [neg_back a ha ha', EA.out]) _, rfl⟩
end Go.Proofs.Qxb6604495aDoor
