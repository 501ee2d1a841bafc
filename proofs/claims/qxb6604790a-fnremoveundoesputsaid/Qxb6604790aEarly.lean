/-
  FnRemoveUndoesPut: the ways that end before the table is looked into.
-/
import Derived.Test.Qxb6604790aRemove
import Derived.OpenShut
namespace Go.Proofs.Qxb6604790a
set_option linter.unusedVariables false
open Go.RowKit

/-- A slice of integers that came in: nil, or a row of 'cap' cells of which the first 'len' are its elements. -/
def IsRow (k : IntKind) (w : World) (a : Option Addr) (len cap : Nat) (zs : List Int) : Prop :=
  (a = none ∧ len = 0 ∧ cap = 0 ∧ zs = []) ∨
  ∃ x, a = some x ∧ len ≤ cap ∧ cap ≤ maxLen ∧ zs.length = cap ∧ (∀ i, i < zs.length → w.cell? (x.add i) = some (.int k (zs.getD i 0))) ∧ ∀ n ∈ zs, (Lit.int k n).wf = true

theorem isRow_len {k : IntKind} {w : World} {a : Option Addr} {len cap : Nat} {zs : List Int} (h : IsRow k w a len cap zs) : len ≤ 9223372036854775807 := by
  rcases h with ⟨_, h, _⟩ | ⟨x, _, h1, h2, _⟩
  · omega
  · unfold maxLen at h2; omega
theorem isRow_below {k : IntKind} {w w1 : World} {a : Option Addr} {len cap : Nat} {zs : List Int} (h : IsRow k w a len cap zs) (hb : Below w.heap.size w w1) : IsRow k w1 a len cap zs := by
  rcases h with h | ⟨x, e, h1, h2, h3, h4, h5⟩
  · exact Or.inl h
  · refine Or.inr ⟨x, e, h1, h2, h3, fun i hi => ?_, h5⟩
    have hc := h4 i hi
    rw [hb.cell (p := x.add i) (World.block_lt_of_cell? _ _ hc)]
    exact hc
/-- A slice that has an element: where its cells lie. -/
theorem isRow_at {w : World} {a : Option Addr} {len cap : Nat} {zs : List Int} (h : IsRow .u32 w a len cap zs) (hl : 1 ≤ len) :
    ∃ b off, a = some ⟨b, off, none⟩ ∧ (∀ i, i < len → w.cell? ⟨b, off + i, none⟩ = some (.int .u32 (zs.getD i 0))) ∧ Ok (fun i => zs.getD i 0) := by
  rcases h with ⟨_, h, _⟩ | ⟨x, e, h1, h2, h3, h4, h5⟩
  · omega
  · obtain ⟨b, off, e2, hc⟩ := ints_at h4 (by omega)
    refine ⟨b, off, by rw [e, e2], fun i hi => hc i (by omega), fun i => ?_⟩
    by_cases hi : i < zs.length
    · have := h5 (zs.getD i 0) (by rw [List.getD_eq_getElem?_getD, List.getElem?_eq_getElem hi]; exact List.getElem_mem hi)
      simp [Lit.wf, IntKind.min, IntKind.max, IntKind.signed, IntKind.bits] at this
      simp only [List.getD_eq_getElem?_getD]
      omega
    · simp [List.getD_eq_getElem?_getD, List.getElem?_eq_none (Nat.le_of_not_lt hi)]

set_option maxHeartbeats 400000 in
theorem clone_empty (x : Addr) (cap : Nat) (w : World) : Calls Try.prog 9 #[.slice (some x) 0 cap] w fun e w' => e = .returned (.slice (some ⟨w.heap.size, 0, none⟩) 0 0) ∧ Below w.heap.size w w' := by
  have hq := fun wx => Lib.run_eql_slice_nil (P := Try.prog) wx 35 40 (some x) 0 cap 0 0 Try.underlying35
  have hmk : ∀ wx, (Instr.makeSlice 35 (.int .i64 0) (.int .i64 0)).run Try.prog wx = .ok (.slice (some ⟨wx.heap.size, 0, none⟩) 0 0) (wx.alloc (.cells (madeCells #[.int .u32 0] 0) 40)) := run_make_row' (P := Try.prog) 35 40 (.int .u32 0) 4 Try.underlying35 info40 rfl .i64 .i64 0 (by omega) (by omega)
  go_enter Try.func9, Try.ntmps9
  go_wp2
  clear hmk hq
  go_loop [4] (fun i => i = .int .i64 0) (fun _ => 0)
  case atStart => rfl
  case round =>
    subst hrel
    go_wp2
    go_ret
    exact ⟨rfl, (Below.refl _ _).alloc (Nat.le_refl _) _⟩

def CloneEnd (len : Nat) (e : Ending) : Prop := ∃ A C, e = .returned (.slice A len C)

theorem clone_gen (a : Option Addr) (len cap : Nat) (zs : List Int) (w : World) (h : IsRow .u32 w a len cap zs) (hl : len ≤ 65536) :
    Calls Try.prog 9 #[.slice a len cap] w fun e w' => CloneEnd len e ∧ Below w.heap.size w w' := by
  by_cases h1 : 1 ≤ len
  · obtain ⟨b, off, rfl, hc, _⟩ := isRow_at h h1
    refine (clone_row b off len cap _ w hl hc).mono ?_
    rintro e w1 ⟨rfl, hb, _⟩
    exact ⟨⟨_, _, rfl⟩, hb⟩
  · have h0 : len = 0 := by omega
    rcases h with ⟨rfl, rfl, rfl, _⟩ | ⟨x, rfl, _⟩
    · refine (clone_nil w).mono ?_
      rintro e w1 ⟨rfl, rfl⟩
      exact ⟨⟨_, _, rfl⟩, Below.refl _ _⟩
    · subst h0
      refine (clone_empty x cap w).mono ?_
      rintro e w1 ⟨rfl, hb⟩
      exact ⟨⟨_, _, rfl⟩, hb⟩

/-- The two slices have not one length, or have none: the law answers true. -/
theorem dom_not (A0 A1 : Option Addr) (l0 c0 l1 c1 : Nat) (sh : Int) (w : World) (h0 : l0 ≤ 65536) (h1 : l1 ≤ 65536) (hbad : l0 ≠ l1 ∨ l0 = 0) :
    Calls Try.prog 10 #[.slice A0 l0 c0, .slice A1 l1 c1, .int .u64 sh, .int .i64 2] w fun e w' => e = .returned (.bool false) ∧ w' = w := by
  by_cases hne : l0 = l1
  · have hz : l0 = 0 := by omega
    subst hne
    subst hz
    exact dom_zero A0 A1 c0 c1 sh w
  · exact dom_unequal A0 A1 l0 c0 l1 c1 sh w h0 h1 (by simp; omega)

set_option maxRecDepth 100000 in
set_option maxHeartbeats 800000 in
theorem law_early (a0 : Option Addr) (l0 c0 : Nat) (z0 : List Int) (a1 : Option Addr) (l1 c1 : Nat) (z1 : List Int) (o d s q h x : Int) (w : World) (w0 : IsRow .u32 w a0 l0 c0 z0) (w1 : IsRow .u32 w a1 l1 c1 z1)
    (hbad : 65536 < l0 ∨ 65536 < l1 ∨ l0 ≠ l1 ∨ l0 = 0) :
    Calls Try.prog 6 #[.slice a0 l0 c0, .slice a1 l1 c1, .int .i64 o, .int .u64 d, .int .u64 s, .int .i64 q, .int .u32 h, .int .u32 x] w fun e w' => e = .returned (.bool true) ∧ Below w.heap.size w w' := by
  have W0 := mkHid w0
  have W1 := mkHid w1
  have n0 := isRow_len w0
  have n1 := isRow_len w1
  have HB := mkHid hbad
  clear w0 w1 hbad
  go_enter Try.func6, Try.ntmps6
  go_wp2_with fail
  refine (bytes_any a0 a1 l0 c0 l1 c1 o d s q h x w n0 n1).mono ?_
  rintro e w2 ⟨⟨b, rfl⟩, hw⟩
  have hw' := hw.symm
  subst hw'
  clear hw
  cases b
  · go_wp2
    go_ret
    exact ⟨rfl, Below.refl _ _⟩
  · by_cases g0 : 65536 < l0
    · go_wp2
      go_ret
      exact ⟨rfl, Below.refl _ _⟩
    · by_cases g1 : 65536 < l1
      · have g0' : decide (65536 < (l0 : Int)) = false := by simp; omega
        go_wp2
        go_ret
        exact ⟨rfl, Below.refl _ _⟩
      · have g0' : decide (65536 < (l0 : Int)) = false := by simp; omega
        have g1' : decide (65536 < (l1 : Int)) = false := by simp; omega
        go_wp2_with fail
        refine (clone_gen a0 l0 c0 z0 w W0.out (by omega)).mono ?_
        rintro e w3 ⟨⟨A0, C0, rfl⟩, hb3⟩
        have B3 := mkHid hb3
        clear hb3
        go_wp2_with fail
        refine (clone_gen a1 l1 c1 z1 w3 (isRow_below W1.out B3.out) (by omega)).mono ?_
        rintro e w4 ⟨⟨A1, C1, rfl⟩, hb4⟩
        have B4 := mkHid (B3.out.trans (hb4.mono B3.out.size))
        clear hb4
        go_wp2_with fail
        refine (dom_not A0 A1 l0 C0 l1 C1 s w4 (by omega) (by omega) (by have := HB.out; omega)).mono ?_
        rintro e w5 ⟨rfl, hw⟩
        have hw' := hw.symm
        subst hw'
        clear hw
        go_wp2
        go_ret
        exact ⟨rfl, B4.out⟩
end Go.Proofs.Qxb6604790a
