/-
  ZZSegmentFields, ZZNewSlots, ZZSlotsFields.
-/
import Derived.Test.Qxb6604790aPut
namespace Go.Proofs.Qxb6604790a
set_option linter.unusedVariables false
open Go.RowKit

/-- What ZZSegmentFields leaves while its loop goes: old memory, and two new rows. -/
def Two (w wr : World) (n : Nat) (H X : Nat → Int) : Prop :=
  Below w.heap.size w wr ∧ wr.rowIs w.heap.size 40 n (U H) ∧ wr.rowIs (w.heap.size + 1) 40 n (U X)

theorem two_start (w : World) (n : Nat) (H X : Nat → Int) :
    Two w ((w.alloc (.cells (madeCells #[.int .u32 0] n) 40)).alloc (.cells (madeCells #[.int .u32 0] n) 40)) n (fun j => if j < 0 then H j else 0) (fun j => if j < 0 then X j else 0) := by
  refine ⟨((Below.refl _ _).alloc (Nat.le_refl _) _).alloc (by simp) _, ((World.rowIs_made w _ n 40).alloc _).congr (fun i _ => by simp [U]), ?_⟩
  have := World.rowIs_made (w.alloc (.cells (madeCells #[.int .u32 0] n) 40)) (.int .u32 0) n 40
  have e : (w.alloc (.cells (madeCells #[.int .u32 0] n) 40)).heap.size = w.heap.size + 1 := by simp
  rw [e] at this
  exact this.congr (fun i _ => by simp [U])
theorem two_step {w wr : World} {n : Nat} {H X : Nat → Int} {k : Nat} (h : Two w wr n (fun j => if j < k then H j else 0) (fun j => if j < k then X j else 0)) :
    Two w ((wr.setCell ⟨w.heap.size, k, none⟩ (.int .u32 (H k))).setCell ⟨w.heap.size + 1, k, none⟩ (.int .u32 (X k))) n (fun j => if j < k + 1 then H j else 0) (fun j => if j < k + 1 then X j else 0) := by
  obtain ⟨a, b, c⟩ := h
  refine ⟨(a.setCell (p := ⟨w.heap.size, k, none⟩) (Nat.le_refl _) _).setCell (p := ⟨w.heap.size + 1, k, none⟩) (by show w.heap.size ≤ w.heap.size + 1; omega) _,
    ((b.set k _).setOther (a := ⟨w.heap.size + 1, k, none⟩) (by show w.heap.size ≠ w.heap.size + 1; omega) _).congr (fun i _ => ?_),
    ((c.setOther (a := ⟨w.heap.size, k, none⟩) (by show w.heap.size + 1 ≠ w.heap.size; omega) _).set k _).congr (fun i _ => ?_)⟩
  · have := upd_part H k i
    unfold upd at this
    show _ = Value.int .u32 (if i < k + 1 then H i else 0)
    rw [← this]
    unfold U
    split <;> rfl
  · have := upd_part X k i
    unfold upd at this
    show _ = Value.int .u32 (if i < k + 1 then X i else 0)
    rw [← this]
    unfold U
    split <;> rfl

theorem two_end {w wr : World} {n : Nat} {H X : Nat → Int} {k q : Nat} (h : Two w wr n (fun j => if j < k then H j else 0) (fun j => if j < k then X j else 0)) (hk : n ≤ k) : Two w (wr.drewN q) n H X := by
  obtain ⟨a, b, c⟩ := h
  have b' := b.congr (g := U H) (fun i hi => by show Value.int .u32 (if i < k then H i else 0) = _; rw [if_pos (by omega)]; rfl)
  have c' := c.congr (g := U X) (fun i hi => by show Value.int .u32 (if i < k then X i else 0) = _; rw [if_pos (by omega)]; rfl)
  exact ⟨⟨a.os, a.tape, a.output, a.size, a.block⟩, b', c'⟩

set_option maxHeartbeats 800000 in
theorem fields_any (g sb n : Nat) (H X : Nat → Int) (obj dep sh : Int) (w : World) (n2 : n ≤ 65536) (hs : Seg w g sb n H X obj dep sh) :
    Calls Try.prog 17 #[.pointer (some ⟨g, 0, none⟩)] w fun e w' => e = .returned (.tuple #[.slice (some ⟨w.heap.size, 0, none⟩) n n, .slice (some ⟨w.heap.size + 1, 0, none⟩) n n, .int .i64 obj, .int .u64 dep, .int .u64 sh]) ∧ Two w w' n H X := by
  have HS := mkHid hs
  clear hs
  have hg : g < w.heap.size := HS.out.1.lt
  have hsb : sb < w.heap.size := HS.out.2.lt
  have c0 : w.cell? ⟨g, 0, none⟩ = some (.slice (some ⟨sb, 0, none⟩) n n) := HS.out.1.cell (i := 0) (by omega)
  have hmk := run_make_row' (P := Try.prog) 35 40 (.int .u32 0) 4 Try.underlying35 info40 rfl .i64 .i64 n (by omega) (by omega)
  go_enter Try.func17, Try.ntmps17
  go_wp2
  clear hmk
  go_loopw [7, 25] (fun _ i wr => ∃ k : Nat, k ≤ n ∧ i = .int .i64 k ∧ Hid (Two w wr n (fun j => if j < k then H j else 0) (fun j => if j < k then X j else 0))) (fun _ i _ => n - (intOf i).toNat)
  case atStart => exact ⟨0, Nat.zero_le _, rfl, two_start w n H X⟩
  case round =>
    obtain ⟨k, hk, rfl, HT⟩ := hrel
    have d0 : wr.cell? ⟨g, 0, none⟩ = some (.slice (some ⟨sb, 0, none⟩) n n) := (HT.out.1.cell (p := ⟨g, 0, none⟩) hg).trans c0
    by_cases hlt : k < n
    · have hkz : (k : Int) < (n : Int) := by omega
      have s0 : wr.cell? ⟨sb, k * 2, none⟩ = some (.int .u32 (H k)) := (HT.out.1.cell (p := ⟨sb, k * 2, none⟩) hsb).trans (seg_head HS.out hlt)
      have s1 : wr.cell? ⟨sb, k * 2 + 1, none⟩ = some (.int .u32 (X k)) := (HT.out.1.cell (p := ⟨sb, k * 2 + 1, none⟩) hsb).trans (seg_hash HS.out hlt)
      have t0 : ∃ v, wr.cell? ⟨w.heap.size, k, none⟩ = some v := ⟨_, HT.out.2.1.cell hlt⟩
      have t1 : ∃ v, wr.cell? ⟨w.heap.size + 1, k, none⟩ = some v := ⟨_, HT.out.2.2.cell hlt⟩
      obtain ⟨v0, t0⟩ := t0
      obtain ⟨v1, t1⟩ := t1
      have f0 := HT.out.2.1.frozen k
      have f1 := HT.out.2.2.frozen k
      go_wp2
      go_roundw
      case rel => exact ⟨k + 1, by omega, by go_num, two_step HT.out⟩
      case measure => simp [intOf]; omega
    · have d1 : wr.cell? ⟨g, 1, none⟩ = some (.int .i64 obj) := (HT.out.1.cell (p := ⟨g, 1, none⟩) hg).trans (HS.out.1.cell (i := 1) (by omega))
      have d2 : wr.cell? ⟨g, 2, none⟩ = some (.int .u64 dep) := (HT.out.1.cell (p := ⟨g, 2, none⟩) hg).trans (HS.out.1.cell (i := 2) (by omega))
      have d3 : wr.cell? ⟨g, 3, none⟩ = some (.int .u64 sh) := (HT.out.1.cell (p := ⟨g, 3, none⟩) hg).trans (HS.out.1.cell (i := 3) (by omega))
      go_wp2_with fail
      go_quiet (fail)
      go_wp2
      exact bodyPost_ret (v := .tuple #[.slice (some ⟨w.heap.size, 0, none⟩) n n, .slice (some ⟨w.heap.size + 1, 0, none⟩) n n, .int .i64 obj, .int .u64 dep, .int .u64 sh]) (by simp [results, Try.results17, go_sem]) rfl ⟨rfl, two_end HT.out (by omega)⟩

theorem newslots_any (so : Int) (w : World) :
    Calls Try.prog 15 #[.slice none 0 0, .int .u64 0, .int .i64 so] w fun e w' => e = .returned (.pointer (some ⟨w.heap.size, 0, none⟩)) ∧ w' = w.alloc (.cells #[.slice none 0 0, .int .u64 0, .int .i64 so] 67) := by
  go_enter Try.func15, Try.ntmps15
  go_wp2
  go_ret
  exact ⟨rfl, rfl⟩

theorem slotsfields_any (s : Nat) (so : Int) (w : World) (c0 : w.cell? ⟨s, 0, none⟩ = some (.slice none 0 0)) (c1 : w.cell? ⟨s, 1, none⟩ = some (.int .u64 0)) (c2 : w.cell? ⟨s, 2, none⟩ = some (.int .i64 so)) :
    Calls Try.prog 19 #[.pointer (some ⟨s, 0, none⟩)] w fun e w' => e = .returned (.tuple #[.slice none 0 0, .int .u64 0, .int .i64 so]) ∧ ∃ q, w' = w.drewN q := by
  go_enter Try.func19, Try.ntmps19
  go_wp2
  go_quiet (fail)
  go_wp2
  go_ret3
  exact ⟨rfl, _, rfl⟩
end Go.Proofs.Qxb6604790a
