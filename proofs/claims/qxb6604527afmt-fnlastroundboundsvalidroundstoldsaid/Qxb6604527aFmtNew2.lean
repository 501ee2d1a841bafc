/-
  newCoordinatorRounds at a process that coordinates nothing.
-/
import Derived.Test.Qxb6604527aFmtNew
namespace Go.Proofs.Qxb6604527aFmt
set_option linter.unusedVariables false
open Go.RowKit

theorem info27 : (Tryf.prog.info? 27).map (fun i => (i.zero, i.size, i.bytes)) = some (some (.slice none 0 0), 1, 24) := by kernel_rfl
theorem info4 : (Tryf.prog.info? 4).map (fun i => (i.zero, i.size, i.bytes)) = some (some (.bool false), 1, 1) := by kernel_rfl

/-- What the loop over the copies keeps: old memory, the result's block, p's block, the row of the copies. -/
def Loop2 (w wr : World) (c0 : Array Value) (p : Nat → Value) (F : Nat) : Prop :=
  Below w.heap.size w wr ∧ wr.rowIs w.heap.size 39 c0.size (fun i => c0[i]?.getD undef) ∧ wr.rowIs (w.heap.size + 1 + 1) 39 13 p ∧ (∃ g, wr.rowIs (w.heap.size + 1 + 1 + 1) 27 F g)

theorem loop2_start (w : World) (c0 c2 : Array Value) (o1 : Obj) (F k : Nat) (z v : Value) (h13 : c2.size = 13) :
    Loop2 w ((((((w.alloc (.cells c0 39)).alloc o1).alloc (.cells c2 39)).drewN k).setCell ⟨w.heap.size + 1 + 1, 11, none⟩ v).alloc (.cells (madeCells #[z] F) 27)) c0 (fun i => if i = 11 then v else c2[i]?.getD undef) F := by
  have b0 : Below w.heap.size w ((((w.alloc (.cells c0 39)).alloc o1).alloc (.cells c2 39)).drewN k) := by
    have := ((Below.refl w.heap.size w).alloc (Nat.le_refl _) (.cells c0 39)).alloc (by simp) o1 |>.alloc (by simp; omega) (.cells c2 39)
    exact ⟨this.os, this.tape, this.output, this.size, this.block⟩
  have r0 : ((((w.alloc (.cells c0 39)).alloc o1).alloc (.cells c2 39)).drewN k).rowIs w.heap.size 39 c0.size (fun i => c0[i]?.getD undef) :=
    ((World.rowIs_alloc w c0 39 (fun i => c0[i]?.getD undef) (fun i hi => by simp [hi])).alloc o1).alloc _
  have r2 : ((((w.alloc (.cells c0 39)).alloc o1).alloc (.cells c2 39)).drewN k).rowIs (w.heap.size + 1 + 1) 39 13 (fun i => c2[i]?.getD undef) := by
    have := World.rowIs_alloc ((w.alloc (.cells c0 39)).alloc o1) c2 39 (fun i => c2[i]?.getD undef) (fun i hi => by simp [hi])
    rw [h13] at this
    have e : ((w.alloc (.cells c0 39)).alloc o1).heap.size = w.heap.size + 1 + 1 := by simp
    rw [e] at this
    exact this
  refine ⟨(b0.setCell (p := ⟨w.heap.size + 1 + 1, 11, none⟩) (by show w.heap.size ≤ w.heap.size + 1 + 1; omega) v).alloc (by simp [World.setCell]; omega) _,
    (r0.setOther (a := ⟨w.heap.size + 1 + 1, 11, none⟩) (by show w.heap.size ≠ w.heap.size + 1 + 1; omega) v).alloc _, (r2.set 11 v).alloc _, fun _ => z, ?_⟩
  have := World.rowIs_made (((((w.alloc (.cells c0 39)).alloc o1).alloc (.cells c2 39)).drewN k).setCell ⟨w.heap.size + 1 + 1, 11, none⟩ v) z F 27
  have e : (((((w.alloc (.cells c0 39)).alloc o1).alloc (.cells c2 39)).drewN k).setCell ⟨w.heap.size + 1 + 1, 11, none⟩ v).heap.size = w.heap.size + 1 + 1 + 1 := by simp [World.setCell]
  rw [e] at this
  exact this

theorem loop2_step {w wr w5 : World} {c0 : Array Value} {p : Nat → Value} {F : Nat} (h : Loop2 w wr c0 p F) (h5 : Below wr.heap.size wr w5) (j : Nat) (v : Value) : Loop2 w (w5.setCell ⟨w.heap.size + 1 + 1 + 1, j, none⟩ v) c0 p F := by
  obtain ⟨a, b, c, g, d⟩ := h
  refine ⟨(a.trans (h5.mono a.size)).setCell (by show w.heap.size ≤ w.heap.size + 1 + 1 + 1; omega) v, (b.of_block (h5.block _ b.lt)).setOther (by show w.heap.size ≠ w.heap.size + 1 + 1 + 1; omega) v,
    (c.of_block (h5.block _ c.lt)).setOther (by show w.heap.size + 1 + 1 ≠ w.heap.size + 1 + 1 + 1; omega) v, _, (d.of_block (h5.block _ d.lt)).set j v⟩

theorem loop2_drew {w wr : World} {c0 : Array Value} {p : Nat → Value} {F : Nat} (h : Loop2 w wr c0 p F) : Loop2 w wr.drew c0 p F := by
  obtain ⟨a, b, c, g, d⟩ := h
  exact ⟨a.drew, b, c, g, d⟩

/-- p's thirteen cells at a process that coordinates nothing. -/
theorem loop2_cells {w wr : World} {c0 : Array Value} {F : Nat} {p : Nat → Value} (h : Loop2 w wr c0 p F) (i : Nat) (hi : i < 13) : wr.cell? ⟨w.heap.size + 1 + 1, i, none⟩ = some (p i) := h.2.2.1.cell hi

/-- What the round's statement finds behind the call of newVector. -/
theorem loop2_after {w wr w5 : World} {c0 : Array Value} {F : Nat} {p : Nat → Value} (h : Loop2 w wr c0 p F) (h5 : Below wr.heap.size wr w5) (k : Nat) (hk : k < F) :
    w5.cell? ⟨w.heap.size + 1 + 1, 11, none⟩ = some (p 11) ∧ (∃ v, w5.cell? ⟨w.heap.size + 1 + 1 + 1, k, none⟩ = some v) ∧ w5.frozen? ⟨w.heap.size + 1 + 1 + 1, k, none⟩ = false := by
  obtain ⟨a, b, c, g, d⟩ := h
  have d' := d.of_block (h5.block _ d.lt)
  exact ⟨(c.of_block (h5.block _ c.lt)).cell (by omega), ⟨_, d'.cell hk⟩, d'.frozen k⟩

/-- The result, behind the thirteen stores and one block more. -/
theorem res13a (X : World) (b : Nat) (tm : Array Value) (hp : tm.getD 16 undef = .pointer (some ⟨b, 0, none⟩)) (f : Nat → Value) (h : X.rowIs b 39 13 f) (v0 v1 v2 v3 v4 v5 v6 v7 v8 v9 v10 v11 v12 : Value) (o : Obj) (Y : World)
    (hY : Y = (((((((((((((X.setCell ⟨b, 0, none⟩ v0).setCell ⟨b, 1, none⟩ v1).setCell ⟨b, 2, none⟩ v2).setCell ⟨b, 3, none⟩ v3).setCell ⟨b, 4, none⟩ v4).setCell ⟨b, 5, none⟩ v5).setCell ⟨b, 6, none⟩ v6).setCell ⟨b, 7, none⟩ v7).setCell ⟨b, 8, none⟩ v8).setCell ⟨b, 9, none⟩ v9).setCell ⟨b, 10, none⟩ v10).setCell ⟨b, 11, none⟩ v11).setCell ⟨b, 12, none⟩ v12).alloc o) :
    (results Tryf.f24 tm).run Tryf.prog Y = .ok (.agg #[v0, v1, v2, v3, v4, v5, v6, v7, v8, v9, v10, v11, v12]) Y := by
  subst hY
  exact res24 _ b tm hp _ ((set13 X b f h v0 v1 v2 v3 v4 v5 v6 v7 v8 v9 v10 v11 v12).alloc o)

set_option maxHeartbeats 1000000 in
theorem ncr_other (nm : ByteArray) (self n f last prop : Int) (w : World) (h2 : 2 ≤ n) (h3 : n ≤ 65536) (h4 : 0 ≤ self) (h5 : self < n) (h6 : 0 ≤ f) (h7 : f ≤ n - 2) (h8 : 0 ≤ prop) (hsf : ¬ self ≤ f) (fn : Fn) :
    Calls Tryf.prog 24 #[.string nm, .int .i64 self, .int .i64 n, .int .i64 f, .int .i64 last, .int .i64 prop, .nilIface, .func fn #[] #[]] w fun e w' =>
      (∃ v7 v8 v9 v10 v11 v12, e = .returned (.agg #[.nilIface, .int .i64 n, .int .i64 self, .int .i64 f, .string nm, .func fn #[] #[], .int .i64 last, v7, v8, v9, v10, v11, v12])) ∧ Below w.heap.size w w' := by
  obtain ⟨N, rfl⟩ := Int.eq_ofNat_of_zero_le (show 0 ≤ n by omega)
  obtain ⟨F, rfl⟩ := Int.eq_ofNat_of_zero_le h6
  have hmk := run_make_row' (P := Tryf.prog) 29 27 (.slice none 0 0) 24 Tryf.underlying29 info27 rfl .i64 .i64 (F + 1) (by omega) (by omega)
  have hmk2 := run_make_row' (P := Tryf.prog) 28 4 (.bool false) 1 Tryf.underlying28 info4 rfl .i64 .i64 (F + 1) (by omega) (by omega)
  have ec : ((F + 1 : Nat) : Int) = (F : Int) + 1 := by omega
  rw [ec] at hmk hmk2
  clear ec
  have hd : decide (self ≤ (F : Int)) = false := by simpa using hsf
  go_enter Tryf.func24, Tryf.ntmps24
  go_wp2_with fail
  refine (check_any nm self N F prop _ h2 h3 h4 h5 h6 h7 h8).mono ?_
  rintro e w1 ⟨rfl, rfl⟩
  go_wp2_with fail
  refine (coord_any _ self F _ (by go_simp) (by go_simp)).mono ?_
  rintro e w1 ⟨rfl, k1, rfl⟩
  rw [hd]
  go_wp2_with fail
  clear hmk hd
  go_loopw [18, 56] (fun _ i wr => ∃ k : Nat, k ≤ F + 1 ∧ i = .int .i64 k ∧ Hid (Loop2 w wr #[.nilIface, .int .i64 0, .int .i64 0, .int .i64 0, .string ⟨#[]⟩, .nilFunc, .int .i64 0, .slice none 0 0, .slice none 0 0, .bool false, .slice none 0 0, .slice none 0 0, .slice none 0 0]
      (fun i => if i = 11 then .slice (some ⟨w.heap.size + 1 + 1 + 1, 0, none⟩) (F + 1) (F + 1) else #[.nilIface, .int .i64 N, .int .i64 self, .int .i64 F, .string nm, .func fn #[] #[], .int .i64 last, .slice (some ⟨w.heap.size + 1, 0, none⟩) 1 1, .slice none 0 0, .bool false, .slice none 0 0, .slice none 0 0, .slice none 0 0][i]?.getD undef) (F + 1))) (fun _ i _ => F + 1 - (intOf i).toNat)
  case atStart => exact ⟨0, Nat.zero_le _, rfl, loop2_start w _ _ _ _ _ _ _ rfl⟩
  case round =>
    obtain ⟨k, hk, rfl, HL⟩ := hrel
    by_cases hlt : k < F + 1
    · have hkz : (k : Int) < (F : Int) + 1 := by omega
      have hkz' : (k : Int) < ((F + 1 : Nat) : Int) := by omega
      have hp11 : wr.cell? ⟨w.heap.size + 1 + 1, 11, none⟩ = some (.slice (some ⟨w.heap.size + 1 + 1 + 1, 0, none⟩) (F + 1) (F + 1)) := loop2_cells HL.out 11 (by omega)
      go_wp2_with fail
      go_region_with (go_at_call 33; refine (newVector_any N (by omega) _).mono ?_; rintro e w5 ⟨rfl, hb5, _⟩; obtain ⟨k1, ⟨v, k2⟩, k3⟩ := loop2_after HL.out (show Below wr.heap.size wr w5 from ⟨hb5.os, hb5.tape, hb5.output, hb5.size, hb5.block⟩) k hlt; have k1' : w5.cell? ⟨w.heap.size + 1 + 1, 11, none⟩ = some (.slice (some ⟨w.heap.size + 1 + 1 + 1, 0, none⟩) (F + 1) (F + 1)) := k1; clear k1; have H5 := mkHid hb5; clear hb5)
      all_goals
        go_wp2
        go_roundw
        case rel => exact ⟨k + 1, by omega, by go_num, loop2_step HL.out ⟨H5.out.os, H5.out.tape, H5.out.output, H5.out.size, H5.out.block⟩ k _⟩
        case measure => simp [intOf]; omega
    · have hkz : ¬ (k : Int) < (F : Int) + 1 := by omega
      have p0 : wr.cell? ⟨w.heap.size + 1 + 1, 0, none⟩ = some (.nilIface) := loop2_cells HL.out 0 (by omega)
      have p1 : wr.cell? ⟨w.heap.size + 1 + 1, 1, none⟩ = some (.int .i64 N) := loop2_cells HL.out 1 (by omega)
      have p2 : wr.cell? ⟨w.heap.size + 1 + 1, 2, none⟩ = some (.int .i64 self) := loop2_cells HL.out 2 (by omega)
      have p3 : wr.cell? ⟨w.heap.size + 1 + 1, 3, none⟩ = some (.int .i64 F) := loop2_cells HL.out 3 (by omega)
      have p4 : wr.cell? ⟨w.heap.size + 1 + 1, 4, none⟩ = some (.string nm) := loop2_cells HL.out 4 (by omega)
      have p5 : wr.cell? ⟨w.heap.size + 1 + 1, 5, none⟩ = some (.func fn #[] #[]) := loop2_cells HL.out 5 (by omega)
      have p6 : wr.cell? ⟨w.heap.size + 1 + 1, 6, none⟩ = some (.int .i64 last) := loop2_cells HL.out 6 (by omega)
      have p7 : wr.cell? ⟨w.heap.size + 1 + 1, 7, none⟩ = some (.slice (some ⟨w.heap.size + 1, 0, none⟩) 1 1) := loop2_cells HL.out 7 (by omega)
      have p8 : wr.cell? ⟨w.heap.size + 1 + 1, 8, none⟩ = some (.slice none 0 0) := loop2_cells HL.out 8 (by omega)
      have p9 : wr.cell? ⟨w.heap.size + 1 + 1, 9, none⟩ = some (.bool false) := loop2_cells HL.out 9 (by omega)
      have p10 : wr.cell? ⟨w.heap.size + 1 + 1, 10, none⟩ = some (.slice none 0 0) := loop2_cells HL.out 10 (by omega)
      have p11 : wr.cell? ⟨w.heap.size + 1 + 1, 11, none⟩ = some (.slice (some ⟨w.heap.size + 1 + 1 + 1, 0, none⟩) (F + 1) (F + 1)) := loop2_cells HL.out 11 (by omega)
      have p12 : wr.cell? ⟨w.heap.size + 1 + 1, 12, none⟩ = some (.slice none 0 0) := loop2_cells HL.out 12 (by omega)
      have pf : wr.frozen? ⟨w.heap.size + 1 + 1, 12, none⟩ = false := HL.out.2.2.1.frozen 12
      have hlt2 : w.heap.size + 1 + 1 < wr.heap.size := HL.out.2.2.1.lt
      have q0 : wr.cell? ⟨w.heap.size, 0, none⟩ = some (.nilIface) := HL.out.2.1.cell (i := 0) (by decide)
      have q1 : wr.cell? ⟨w.heap.size, 1, none⟩ = some (.int .i64 0) := HL.out.2.1.cell (i := 1) (by decide)
      have q2 : wr.cell? ⟨w.heap.size, 2, none⟩ = some (.int .i64 0) := HL.out.2.1.cell (i := 2) (by decide)
      have q3 : wr.cell? ⟨w.heap.size, 3, none⟩ = some (.int .i64 0) := HL.out.2.1.cell (i := 3) (by decide)
      have q4 : wr.cell? ⟨w.heap.size, 4, none⟩ = some (.string ⟨#[]⟩) := HL.out.2.1.cell (i := 4) (by decide)
      have q5 : wr.cell? ⟨w.heap.size, 5, none⟩ = some (.nilFunc) := HL.out.2.1.cell (i := 5) (by decide)
      have q6 : wr.cell? ⟨w.heap.size, 6, none⟩ = some (.int .i64 0) := HL.out.2.1.cell (i := 6) (by decide)
      have q7 : wr.cell? ⟨w.heap.size, 7, none⟩ = some (.slice none 0 0) := HL.out.2.1.cell (i := 7) (by decide)
      have q8 : wr.cell? ⟨w.heap.size, 8, none⟩ = some (.slice none 0 0) := HL.out.2.1.cell (i := 8) (by decide)
      have q9 : wr.cell? ⟨w.heap.size, 9, none⟩ = some (.bool false) := HL.out.2.1.cell (i := 9) (by decide)
      have q10 : wr.cell? ⟨w.heap.size, 10, none⟩ = some (.slice none 0 0) := HL.out.2.1.cell (i := 10) (by decide)
      have q11 : wr.cell? ⟨w.heap.size, 11, none⟩ = some (.slice none 0 0) := HL.out.2.1.cell (i := 11) (by decide)
      have q12 : wr.cell? ⟨w.heap.size, 12, none⟩ = some (.slice none 0 0) := HL.out.2.1.cell (i := 12) (by decide)
      have qf : ∀ i, wr.frozen? ⟨w.heap.size, i, none⟩ = false := fun i => HL.out.2.1.frozen i
      have hlt0 : w.heap.size < wr.heap.size := HL.out.2.1.lt
      have HB : Hid (Below w.heap.size w (wr.setCell ⟨w.heap.size + 1 + 1, 12, none⟩ (.slice (some ⟨wr.heap.size, 0, none⟩) (F + 1) (F + 1)))) := HL.out.1.setCell (by show w.heap.size ≤ w.heap.size + 1 + 1; omega) _
      have HR := mkHid (HL.out.2.1.setOther (a := ⟨w.heap.size + 1 + 1, 12, none⟩) (by show w.heap.size ≠ w.heap.size + 1 + 1; omega) (.slice (some ⟨wr.heap.size, 0, none⟩) (F + 1) (F + 1)))
      go_wp2
      exact bodyPost_ret (res13a _ w.heap.size _ rfl _ HR.out _ _ _ _ _ _ _ _ _ _ _ _ _ _ _ rfl) rfl ⟨⟨_, _, _, _, _, _, rfl⟩, (below13 _ _ _ _ _ _ _ _ _ _ _ _ _ _ _ HB.out).alloc (below13 _ _ _ _ _ _ _ _ _ _ _ _ _ _ _ HB.out).size _⟩
end Go.Proofs.Qxb6604527aFmt
