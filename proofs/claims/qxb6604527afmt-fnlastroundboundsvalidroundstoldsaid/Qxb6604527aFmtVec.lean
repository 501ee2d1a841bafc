/-
  newVector, record, coordinating.
-/
import Derived.Test.Qxb6604527aFmtLeaf
import Derived.Deep.OwnRows
namespace Go.Proofs.Qxb6604527aFmt
set_option linter.unusedVariables false
open Go.RowKit

theorem info2 : (Tryf.prog.info? 2).map (fun i => (i.zero, i.size, i.bytes)) = some (some (.int .i64 0), 1, 8) := by kernel_rfl

set_option maxHeartbeats 400000 in
theorem newVector_any (n : Nat) (hn : n ≤ 65536) (w : World) :
    Calls Tryf.prog 33 #[.int .i64 n] w fun e w' => e = .returned (.slice (some ⟨w.heap.size, 0, none⟩) n n) ∧ Below w.heap.size w w' ∧ w'.rowIs w.heap.size 2 n (fun _ => .int .i64 (-1)) := by
  have hmk := run_make_row' (P := Tryf.prog) 27 2 (.int .i64 0) 8 Tryf.underlying27 info2 rfl .i64 .i64 n (by omega) (by omega)
  go_enter Tryf.func33, Tryf.ntmps33
  go_wp2
  clear hmk
  go_loopw [4, 9] (fun _ i wr => ∃ k : Nat, k ≤ n ∧ i = .int .i64 k ∧ Below w.heap.size w wr ∧ wr.rowIs w.heap.size 2 n (fun j => .int .i64 (if j < k then -1 else 0))) (fun _ i _ => n - (intOf i).toNat)
  case atStart => exact ⟨0, Nat.zero_le _, rfl, (Below.refl _ _).alloc (Nat.le_refl _) _, (World.rowIs_made w _ n 2).congr (fun i _ => by simp)⟩
  case round =>
    obtain ⟨k, hk, rfl, hb, hr⟩ := hrel
    by_cases hlt : k < n
    · have hc := hr.cell hlt
      have hf := hr.frozen k
      simp only [Nat.lt_irrefl, if_false] at hc
      have hkz : (k : Int) < (n : Int) := by omega
      go_wp2
      go_roundw
      case rel =>
        refine ⟨k + 1, by omega, by go_num, hb.setCell (Nat.le_refl _) _, (hr.set k _).congr (fun i _ => ?_)⟩
        by_cases e : i = k
        · subst e; simp
        · rw [if_neg e]
          by_cases h : i < k
          · rw [if_pos h, if_pos (by omega)]
          · rw [if_neg h, if_neg (by omega)]
      case measure => simp [intOf]; omega
    · go_wp2
      go_ret
      exact ⟨rfl, hb, hr.congr (fun i hi => by rw [if_pos (by omega)])⟩

set_option maxHeartbeats 400000 in
theorem record_any (b n : Nat) (self prop z : Int) (w : World) (h0 : 0 ≤ self) (h1 : self < n) (hn : n ≤ 65536) (hb : b < w.heap.size) (hc : w.cell? ⟨b, self.toNat, none⟩ = some (.int .i64 z)) (hf : w.frozen? ⟨b, self.toNat, none⟩ = false) :
    Calls Tryf.prog 34 #[.slice (some ⟨b, 0, none⟩) n n, .agg #[.int .i64 self, .int .i64 prop]] w fun e w' => (∃ v, e = .returned v) ∧ Below b w w' := by
  cases hz : (z == -1)
  · have hz' : (z != -1) = true := by simp [bne, hz]
    go_enter Tryf.func34, Tryf.ntmps34
    go_wp2
    go_ret
    exact ⟨⟨_, rfl⟩, (Below.refl _ _).alloc (by omega) _⟩
  · have hz' : (z != -1) = false := by simp [bne, hz]
    go_enter Tryf.func34, Tryf.ntmps34
    go_wp2
    go_ret
    refine ⟨⟨_, rfl⟩, Below.alloc (Below.setCell (Below.refl b w) (p := ⟨b, self.toNat, none⟩) (Nat.le_refl _) (.int .i64 prop)) ?_ _⟩
    simp [World.setCell]; omega

set_option maxHeartbeats 400000 in
theorem coord_any (b : Nat) (self f : Int) (w : World) (hs : w.cell? ⟨b, 2, none⟩ = some (.int .i64 self)) (hf : w.cell? ⟨b, 3, none⟩ = some (.int .i64 f)) :
    Calls Tryf.prog 17 #[.pointer (some ⟨b, 0, none⟩)] w fun e w' => e = .returned (.bool (decide (self ≤ f))) ∧ ∃ k, w' = w.drewN k := by
  go_enter Tryf.func17, Tryf.ntmps17
  go_wp2
  go_quiet (fail)
  go_wp2
  go_ret
  exact ⟨rfl, _, rfl⟩
end Go.Proofs.Qxb6604527aFmt
