/-
  The leaves on the road of FnLastRoundBoundsValidRounds.
-/
import Derived.Test.Qxb6604527aFmtFacts
import Derived.WalkKit
import Derived.WalkSpells
import Derived.WalkLawsBesides
import Derived.BigQuiet
namespace Go.Proofs.Qxb6604527aFmt
set_option linter.unusedVariables false
open Go.RowKit Go.Extern.Stop Go.Stop Go.Extern
attribute [local go_sem] call25 guardOk fmtP fmtR op9_115w op3_100w op9_115 op3_100 ptr93 elem93 isError93

/-- Inside the documented domain and the cost bound. -/
def Dom (self n f p : Int) : Prop := 2 ≤ n ∧ n ≤ 65536 ∧ 0 ≤ self ∧ self < n ∧ 0 ≤ f ∧ f ≤ n - 2 ∧ 0 ≤ p

/-- A bool is returned; false only inside the domain. -/
def OutEnd (self n f p : Int) (e : Ending) : Prop := ∃ b, e = .returned (.bool b) ∧ (b = false → Dom self n f p)

set_option maxHeartbeats 400000 in
theorem outside_any (self n f p : Int) (w : World) :
    Calls Tryf.prog 6 #[.int .i64 self, .int .i64 n, .int .i64 f, .int .i64 p] w fun e w' => OutEnd self n f p e ∧ w' = w := by
  by_cases h1 : n < 2
  · go_enter Tryf.func6, Tryf.ntmps6
    go_wp2
    go_ret
    exact ⟨⟨_, rfl, by intro h; cases h⟩, rfl⟩
  by_cases h2 : 65536 < n
  · go_enter Tryf.func6, Tryf.ntmps6
    go_wp2
    go_ret
    exact ⟨⟨_, rfl, by intro h; cases h⟩, rfl⟩
  by_cases h3 : self < 0
  · go_enter Tryf.func6, Tryf.ntmps6
    go_wp2
    go_ret
    exact ⟨⟨_, rfl, by intro h; cases h⟩, rfl⟩
  by_cases h4 : self < n
  · by_cases h5 : f < 0
    · go_enter Tryf.func6, Tryf.ntmps6
      go_wp2
      go_ret
      exact ⟨⟨_, rfl, by intro h; cases h⟩, rfl⟩
    by_cases h6 : n - 2 < f
    · go_enter Tryf.func6, Tryf.ntmps6
      go_wp2
      go_ret
      exact ⟨⟨_, rfl, by intro h; cases h⟩, rfl⟩
    by_cases h7 : p < 0
    · go_enter Tryf.func6, Tryf.ntmps6
      go_wp2
      go_ret
      exact ⟨⟨_, rfl, by intro h; cases h⟩, rfl⟩
    · have hz : (n == 0) = false := by rw [beq_eq_false_iff_ne]; omega
      have hz1 : (n == -1) = false := by rw [beq_eq_false_iff_ne]; omega
      go_enter Tryf.func6, Tryf.ntmps6
      go_wp2
      go_ret
      exact ⟨⟨_, rfl, by intro _; unfold Dom; omega⟩, rfl⟩
  · go_enter Tryf.func6, Tryf.ntmps6
    go_wp2
    go_ret
    exact ⟨⟨_, rfl, by intro h; cases h⟩, rfl⟩

theorem lastRound_any (f : Int) (w : World) (h0 : 0 ≤ f) (h1 : f ≤ 65536) :
    Calls Tryf.prog 23 #[.int .i64 f, .int .i64 1] w fun e w' => e = .returned (.int .i64 (f + 1)) ∧ w' = w := by
  go_enter Tryf.func23, Tryf.ntmps23
  go_wp2
  go_ret
  exact ⟨rfl, rfl⟩

set_option maxHeartbeats 400000 in
theorem check_any (nm : ByteArray) (self n f p : Int) (w : World) (h2 : 2 ≤ n) (h3 : n ≤ 65536) (h4 : 0 ≤ self) (h5 : self < n) (h6 : 0 ≤ f) (h7 : f ≤ n - 2) (h8 : 0 ≤ p) :
    Calls Tryf.prog 32 #[.string nm, .int .i64 self, .int .i64 n, .int .i64 f, .int .i64 p] w fun e w' => e = .returned (.tuple #[]) ∧ w' = w := by
  go_enter Tryf.func32, Tryf.ntmps32
  go_wp2
  go_end0
  exact ⟨rfl, rfl⟩

set_option maxHeartbeats 400000 in
theorem vr_ok (nm : ByteArray) (r last : Int) (w : World) (h1 : 1 ≤ r) (h2 : r ≤ last) :
    Calls Tryf.prog 15 #[.string nm, .int .i64 r, .int .i64 last] w fun e w' => e = .returned .nilIface ∧ w' = w := by
  go_enter Tryf.func15, Tryf.ntmps15
  go_wp2
  go_ret
  exact ⟨rfl, rfl⟩

set_option maxHeartbeats 400000 in
theorem vr_bad (F : Interp) (nm : ByteArray) (r last : Int) (w : World) (hF : F.answers w.tape) (h1 : r < 1 ∨ last < r) :
    Calls Tryf.prog 15 #[.string nm, .int .i64 r, .int .i64 last] w fun e w' => (∃ a, e = .returned (.iface 93 (.pointer (some a)))) ∧ Below w.heap.size w w' := by
  have hF' := answers_open hF
  rcases h1 with h1 | h1
  · go_enter Tryf.func15, Tryf.ntmps15
    go_wp2
    go_ret
    exact ⟨⟨_, rfl⟩, (((Below.refl _ _).alloc (Nat.le_refl _) _).alloc (by simp) _).drew⟩
  · by_cases h2 : r < 1
    · go_enter Tryf.func15, Tryf.ntmps15
      go_wp2
      go_ret
      exact ⟨⟨_, rfl⟩, (((Below.refl _ _).alloc (Nat.le_refl _) _).alloc (by simp) _).drew⟩
    · go_enter Tryf.func15, Tryf.ntmps15
      go_wp2
      go_ret
      exact ⟨⟨_, rfl⟩, (((Below.refl _ _).alloc (Nat.le_refl _) _).alloc (by simp) _).drew⟩

set_option maxHeartbeats 400000 in
theorem vp_nil (nm : ByteArray) (n : Int) (w : World) (h1 : 2 ≤ n) :
    Calls Tryf.prog 18 #[.string nm, .slice none 0 0, .int .i64 n] w fun e w' => e = .returned .nilIface ∧ w' = w := by
  go_enter Tryf.func18, Tryf.ntmps18
  go_wp2
  go_loop [24] (fun i => i = .int .i64 0) (fun _ => 0)
  case atStart => rfl
  case round =>
    subst hrel
    go_wp2
    go_ret
    exact ⟨rfl, rfl⟩
end Go.Proofs.Qxb6604527aFmt
