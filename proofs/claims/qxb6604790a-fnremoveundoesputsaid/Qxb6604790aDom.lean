/-
  zzl1TableDomain.
-/
import Derived.Test.Qxb6604790aValid
namespace Go.Proofs.Qxb6604790a
set_option linter.unusedVariables false
open Go.RowKit

/-- What a table inside the domain is known to be. -/
def InDom (n : Nat) (H X : Nat → Int) (sh : Int) : Prop :=
  ∃ k : Nat, k ≤ 16 ∧ n = 2 ^ k ∧ sh = (32 : Int) - k ∧ (∃ z y, z < y ∧ y < n ∧ H z = 0 ∧ H y = 0) ∧ ∃ z, z < n ∧ H z = 0 ∧ Tab.Good n H (hm k X) z n
def DomEnd (n : Nat) (H X : Nat → Int) (sh : Int) (e : Ending) : Prop := ∃ b, e = .returned (.bool b) ∧ (b = true → InDom n H X sh)

set_option maxHeartbeats 400000 in
theorem dom_unequal (a0 a1 : Option Addr) (l0 c0 l1 c1 : Nat) (sh : Int) (w : World) (h0 : l0 ≤ 65536) (h1 : l1 ≤ 65536) (hne : ((l0 : Int) != (l1 : Int)) = true) :
    Calls Try.prog 10 #[.slice a0 l0 c0, .slice a1 l1 c1, .int .u64 sh, .int .i64 2] w fun e w' => e = .returned (.bool false) ∧ w' = w := by
  go_enter Try.func10, Try.ntmps10
  go_wp2
  go_ret
  exact ⟨rfl, rfl⟩

set_option maxHeartbeats 400000 in
theorem dom_zero (a0 a1 : Option Addr) (c0 c1 : Nat) (sh : Int) (w : World) :
    Calls Try.prog 10 #[.slice a0 0 c0, .slice a1 0 c1, .int .u64 sh, .int .i64 2] w fun e w' => e = .returned (.bool false) ∧ w' = w := by
  go_enter Try.func10, Try.ntmps10
  go_wp2_with fail
  refine (pow2_any 0 w (by omega)).mono ?_
  rintro e w1 ⟨⟨b, rfl, hb⟩, hw1⟩
  have hw2 := hw1.symm
  subst hw2
  clear hw1
  have hbf : b = false := by
    cases b
    · rfl
    · obtain ⟨k, _, hk⟩ := hb rfl
      have := Nat.one_le_pow k 2 (by omega)
      omega
  subst hbf
  clear hb
  go_wp2
  go_ret
  exact ⟨rfl, rfl⟩

set_option maxHeartbeats 800000 in
theorem dom_any (b0 b1 n : Nat) (H X : Nat → Int) (sh : Int) (w : World) (n1 : 1 ≤ n) (n2 : n ≤ 65536) (h0 : w.rowIs b0 40 n (U H)) (h1 : w.rowIs b1 40 n (U X)) (hX : Hid (Ok X)) :
    Calls Try.prog 10 #[.slice (some ⟨b0, 0, none⟩) n n, .slice (some ⟨b1, 0, none⟩) n n, .int .u64 sh, .int .i64 2] w fun e w' => DomEnd n H X sh e ∧ Below w.heap.size w w' := by
  have H0 := mkHid h0
  have H1 := mkHid h1
  clear h0 h1
  go_enter Try.func10, Try.ntmps10
  go_wp2_with fail
  refine (pow2_any n w n2).mono ?_
  rintro e w1 ⟨⟨b, rfl, hb⟩, hw1⟩
  have hw2 := hw1.symm
  subst hw2
  clear hw1
  cases b
  · clear hb
    go_wp2
    go_ret
    exact ⟨⟨_, rfl, fun h => by cases h⟩, Below.refl _ _⟩
  · obtain ⟨k, hk, hn⟩ := hb rfl
    have HN := mkHid hn
    clear hb hn
    go_wp2_with fail
    refine (shift_any k w hk n HN n2).mono ?_
    rintro e w1 ⟨rfl, hw1⟩
    have hw2 := hw1.symm
    subst hw2
    clear hw1
    by_cases hs : sh = (32 : Int) - k
    · subst hs
      go_wp2_with fail
      refine (count_any b0 n H w n2 H0.out).mono ?_
      rintro e w1 ⟨rfl, hw1⟩
      have hw2 := hw1.symm
      subst hw2
      clear hw1
      have hcn := Tab.cnt_le H n
      by_cases hc : Tab.cnt H n + 2 ≤ n
      · have hc' : ¬ (n : Int) - (Tab.cnt H n : Int) < 2 := by omega
        go_wp2_with fail
        refine (newseg_any b0 b1 n H X 0 0 _ w n2 H0.out H1.out).mono ?_
        rintro e w2 ⟨rfl, hb2, hs2⟩
        have HB := mkHid hb2
        have HS := mkHid hs2
        clear hb2 hs2
        go_wp2_with fail
        refine (valid_any (w.heap.size + 1) b0 b1 n k H X w2 hk HN n1 n2 (H0.out.of_block (HB.out.block _ H0.out.lt)) (H1.out.of_block (HB.out.block _ H1.out.lt)) hX (HS.out.1.cell (i := 3) (by omega))).mono ?_
        rintro e w3 ⟨⟨b, rfl, hb⟩, hw3⟩
        have hw4 := hw3.symm
        subst hw4
        clear hw3
        have HK := mkHid hb
        clear hb
        go_wp2
        go_ret
        refine ⟨⟨b, rfl, fun hbt => ?_⟩, HB.out⟩
        obtain ⟨z, y, z1, z2, z3, z4⟩ := Tab.cnt_two H n hc
        refine ⟨k, hk, HN.out, rfl, ⟨z, y, z1, z2, z3, z4⟩, ?_⟩
        rcases HK.out hbt with h | h
        · exact absurd z3 (h z (by omega))
        · exact h
      · have hc' : (n : Int) - (Tab.cnt H n : Int) < 2 := by omega
        go_wp2
        go_ret
        exact ⟨⟨_, rfl, fun h => by cases h⟩, Below.refl _ _⟩
    · have hs' : (sh != (32 : Int) - k) = true := by simp [hs]
      clear hs
      go_wp2
      go_ret
      exact ⟨⟨_, rfl, fun h => by cases h⟩, Below.refl _ _⟩
end Go.Proofs.Qxb6604790a
