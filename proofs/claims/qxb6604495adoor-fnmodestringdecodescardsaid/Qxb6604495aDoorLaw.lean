/-
  decodeMode, and the law itself.
-/
import Derived.Test.Qxb6604495aDoorDn
namespace Go.Proofs.Qxb6604495aDoor
open Go.Lib Go.RowKit

theorem bytes_ext (a b : ByteArray) (h : a.data.toList = b.data.toList) : a = b := by
  cases a; cases b
  simp only [ByteArray.mk.injEq]
  exact Array.toList_inj.1 h
theorem extract_list (s : ByteArray) (i j : Nat) : (s.extract i j).data.toList = (s.data.toList.drop i).take (j - i) := by
  simp [ByteArray.data_extract, List.extract_eq_drop_take']
theorem at_list (s : ByteArray) (l : List UInt8) (h : s.data.toList = l) (i : Nat) (hi : i < s.size) (c : UInt8) (hc : l[i]? = some c) : s[i] = c := by
  subst h
  have : s.data.toList[i]? = some s[i] := by
    rw [List.getElem?_eq_getElem (by rw [blen]; exact hi)]; rfl
  exact Option.some.inj (this.symm.trans hc)

/-- What the text 'Mode(' m ')' is made of. -/
theorem parts (s : ByteArray) (m : List UInt8) (hs : s.data.toList = [77, 111, 100, 101, 40] ++ m ++ [41]) :
    s.size = m.length + 6 ∧ s.extract 0 4 = ⟨#[77, 111, 100, 101]⟩ ∧ (∀ h : 4 < s.size, (s[4]'h).toNat = 40) ∧ (∀ h : s.size - 1 < s.size, (s[s.size - 1]'h).toNat = 41) ∧ s.extract 5 (s.size - 1) = ⟨m.toArray⟩ := by
  have hl : s.size = m.length + 6 := by
    rw [← blen, hs]; simp
  refine ⟨hl, ?_, ?_, ?_, ?_⟩
  · apply bytes_ext
    rw [extract_list, hs]
    simp
  · intro h
    rw [at_list s _ hs 4 h 40 (by simp)]
    rfl
  · intro h
    rw [at_list s _ hs (s.size - 1) h 41 (by rw [hl, List.getElem?_append_right (by simp)]; simp)]
    rfl
  · apply bytes_ext
    rw [extract_list, hs, hl]
    simp

set_option maxHeartbeats 400000 in
theorem dm_0 (w : World) : Calls Tryd.prog 11 #[.string ⟨#[101, 120, 99, 108, 117, 115, 105, 118, 101]⟩] w fun e w' => e = .returned (.tuple #[.int .i64 0, .bool true]) ∧ w' = w := by
  go_enter Tryd.func11, Tryd.ntmps11
  go_wp2
  go_ret2
  exact ⟨rfl, rfl⟩
set_option maxHeartbeats 400000 in
theorem dm_1 (w : World) : Calls Tryd.prog 11 #[.string ⟨#[115, 104, 97, 114, 101, 100]⟩] w fun e w' => e = .returned (.tuple #[.int .i64 1, .bool true]) ∧ w' = w := by
  go_enter Tryd.func11, Tryd.ntmps11
  go_wp2
  go_ret2
  exact ⟨rfl, rfl⟩
set_option maxHeartbeats 400000 in
theorem dm_n (s : ByteArray) (n : Int) (w : World) (g0 : n < 0 ∨ 2 ≤ n) (n0 : (s.toList == [101, 120, 99, 108, 117, 115, 105, 118, 101]) = false) (n1 : (s.toList == [115, 104, 97, 114, 101, 100]) = false)
    (hdn : ∀ w, Calls Tryd.prog 13 #[.string s, .string ⟨#[77, 111, 100, 101]⟩] w fun e w' => e = .returned (.tuple #[.int .i64 n, .bool true]) ∧ w' = w) :
    Calls Tryd.prog 11 #[.string s] w fun e w' => e = .returned (.tuple #[.int .i64 n, .bool true]) ∧ w' = w := by
  have HD := Lib.hid hdn
  clear hdn
  go_enter Tryd.func11, Tryd.ntmps11
  go_wp2_with (go_at_call 13; refine (HD.out _).mono ?_; rintro e w' ⟨rfl, rfl⟩)
  all_goals
    go_ret2
    exact ⟨rfl, rfl⟩

theorem not_words (s : ByteArray) (m : List UInt8) (hs : s.data.toList = [77, 111, 100, 101, 40] ++ m ++ [41]) :
    (s.toList == [101, 120, 99, 108, 117, 115, 105, 118, 101]) = false ∧ (s.toList == [115, 104, 97, 114, 101, 100]) = false := by
  have h : s.toList = s.data.toList := ByteArray.toList_eq s
  rw [h, hs]
  simp

/-- decodeMode at the text of a number that is no name's. -/
theorem dm_text (n : Int) (s : ByteArray) (h0 : -9223372036854775808 ≤ n) (h1 : n ≤ 9223372036854775807) (g0 : n < 0 ∨ 2 ≤ n) (hs : s.data.toList = [77, 111, 100, 101, 40] ++ itoa n ++ [41]) (w : World) :
    Calls Tryd.prog 11 #[.string s] w fun e w' => e = .returned (.tuple #[.int .i64 n, .bool true]) ∧ w' = w := by
  obtain ⟨hz, hx, h40, h41, hb⟩ := parts s _ hs
  obtain ⟨n0, n1⟩ := not_words s _ hs
  refine dm_n s n w g0 n0 n1 (fun w => ?_)
  rcases g0 with g | g
  · obtain ⟨u, rfl⟩ : ∃ u : Nat, n = -(u : Int) := ⟨n.natAbs, by omega⟩
    have e1 : itoa (-(u : Int)) = 45 :: decDigits u := by unfold itoa; rw [if_pos g]; simp
    rw [e1] at hz hb
    have hd1 := Num.len_decDigits u
    have hd2 : (decDigits u).length ≤ 19 := by rw [decDigits_length]; exact Num.nDigits_le u (by omega)
    have hzb : (⟨(decDigits u).toArray⟩ : ByteArray).size = (decDigits u).length := by rw [← blen]
    have hzc : (⟨(45 :: decDigits u).toArray⟩ : ByteArray).size = (decDigits u).length + 1 := by rw [← blen]; simp
    simp only [List.length_cons] at hz
    have hv : Num.val (⟨(decDigits u).toArray⟩ : ByteArray).data.toList = u := by simp [Num.val_decDigits]
    have := dn_neg s ⟨(45 :: decDigits u).toArray⟩ ⟨(decDigits u).toArray⟩ (by omega) (by omega) hx (by rw [h40]; rfl) (by rw [h41]; rfl) hb (by omega) (by omega)
      (by rw [at_list _ (45 :: decDigits u) (by simp) 0 (by omega) 45 (by simp)]; rfl) (by apply bytes_ext; rw [extract_list]; simp [hzc]) (by omega) (by omega)
      (by
        rw [beq_eq_false_iff_ne]
        have := Num.head_decDigits u (by omega) ((⟨(decDigits u).toArray⟩ : ByteArray)[0]'(by omega)) (by rw [List.getElem?_eq_getElem (by omega)]; rfl)
        omega)
      (by simpa using Num.digs_decDigits u) (by rw [hv]; omega) w
    rw [hv] at this
    exact this
  · obtain ⟨u, rfl⟩ : ∃ u : Nat, n = (u : Int) := ⟨n.toNat, by omega⟩
    have e1 : itoa (u : Int) = decDigits u := by unfold itoa; rw [if_neg (by omega)]; simp
    rw [e1] at hz hb
    have hd1 := Num.len_decDigits u
    have hd2 : (decDigits u).length ≤ 19 := by rw [decDigits_length]; exact Num.nDigits_le u (by omega)
    have hzb : (⟨(decDigits u).toArray⟩ : ByteArray).size = (decDigits u).length := by rw [← blen]
    have hv : Num.val (⟨(decDigits u).toArray⟩ : ByteArray).data.toList = u := by simp [Num.val_decDigits]
    have hh := Num.head_decDigits u (by omega) ((⟨(decDigits u).toArray⟩ : ByteArray)[0]'(by omega)) (by rw [List.getElem?_eq_getElem (by omega)]; rfl)
    have hdg := Num.digs_decDigits u ((⟨(decDigits u).toArray⟩ : ByteArray)[0]'(by omega)) (List.getElem_mem (by omega))
    have := dn_pos s ⟨(decDigits u).toArray⟩ (by omega) (by omega) hx (by rw [h40]; rfl) (by rw [h41]; rfl) hb (by omega) (by omega)
      (by rw [beq_eq_false_iff_ne]; omega) (by rw [beq_eq_false_iff_ne]; omega)
      (by simpa using Num.digs_decDigits u) (by rw [hv]; omega) w
    rw [hv] at this
    exact this

set_option maxHeartbeats 400000 in
theorem law_0 (w : World) : Calls Tryd.prog 5 #[.int .i64 0] w fun e w' => e = .returned (.bool true) ∧ Below w.heap.size w w' := by
  go_enter Tryd.func5, Tryd.ntmps5
  go_wp2_with (first | (go_at_call 10; refine (mode_0 _).mono ?_; rintro e w' ⟨rfl, rfl⟩) | (go_at_call 11; refine (dm_0 _).mono ?_; rintro e w' ⟨rfl, rfl⟩))
  go_ret
  exact ⟨rfl, Below.refl _ _⟩
set_option maxHeartbeats 400000 in
theorem law_1 (w : World) : Calls Tryd.prog 5 #[.int .i64 1] w fun e w' => e = .returned (.bool true) ∧ Below w.heap.size w w' := by
  go_enter Tryd.func5, Tryd.ntmps5
  go_wp2_with (first | (go_at_call 10; refine (mode_1 _).mono ?_; rintro e w' ⟨rfl, rfl⟩) | (go_at_call 11; refine (dm_1 _).mono ?_; rintro e w' ⟨rfl, rfl⟩))
  go_ret
  exact ⟨rfl, Below.refl _ _⟩
set_option maxHeartbeats 400000 in
theorem law_n (n : Int) (h0 : -9223372036854775808 ≤ n) (h1 : n ≤ 9223372036854775807) (g0 : n < 0 ∨ 2 ≤ n) (w : World) (htab : TabIs Tryd.prog w powName .u64 pow10Tab) :
    Calls Tryd.prog 5 #[.int .i64 n] w fun e w' => e = .returned (.bool true) ∧ Below w.heap.size w w' := by
  have e0 : (n == 0) = false := by rw [beq_eq_false_iff_ne]; omega
  have e1 : (n == 1) = false := by rw [beq_eq_false_iff_ne]; omega
  have HT := Lib.hid htab
  clear htab
  go_enter Tryd.func5, Tryd.ntmps5
  go_wp2_with fail
  refine (mode_n n h0 h1 e0 e1 w HT.out).mono ?_
  rintro e w1 ⟨⟨s, rfl, hs⟩, hb⟩
  have HS := Lib.hid hs
  clear hs
  go_wp2_with fail
  refine (dm_text n s h0 h1 g0 HS.out w1).mono ?_
  rintro e w2 ⟨rfl, rfl⟩
  go_wp2
  go_ret
  exact ⟨rfl, hb⟩
end Go.Proofs.Qxb6604495aDoor
