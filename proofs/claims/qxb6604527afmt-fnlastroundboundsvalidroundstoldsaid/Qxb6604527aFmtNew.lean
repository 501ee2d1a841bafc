/-
  newCoordinatorRounds.
-/
import Derived.Test.Qxb6604527aFmtVec
import Derived.Laws.EntriesVeiled
import Derived.Deep.RegionWith
import Derived.BigRegion
namespace Go.Proofs.Qxb6604527aFmt
set_option linter.unusedVariables false
open Go.RowKit

theorem mkHid {p : Prop} (h : p) : Hid p := h
theorem bcell {W w1 : World} (hb : Below W.heap.size W w1) : (∀ b o, b < W.heap.size → w1.cell? ⟨b, o, none⟩ = W.cell? ⟨b, o, none⟩) ∧ (∀ b o, b < W.heap.size → w1.frozen? ⟨b, o, none⟩ = W.frozen? ⟨b, o, none⟩) :=
  ⟨fun b o h => hb.cell (p := ⟨b, o, none⟩) h, fun b o h => hb.frozen (p := ⟨b, o, none⟩) h⟩

theorem below3 {w w2 w5 : World} {o1 o2 o3 : Obj} {k : Nat} {v : Value} (hb : Below ((((w.alloc o1).alloc o2).alloc o3).drewN k).heap.size ((((w.alloc o1).alloc o2).alloc o3).drewN k) w2)
    (h5 : Below (w.heap.size + 1 + 1 + 1) (w2.setCell ⟨w.heap.size + 1 + 1, 8, none⟩ v) w5) : Below w.heap.size w w5 := by
  have a : Below w.heap.size w ((((w.alloc o1).alloc o2).alloc o3).drewN k) := by
    have := (((Below.refl w.heap.size w).alloc (Nat.le_refl _) o1).alloc (by simp) o2).alloc (by simp; omega) o3
    exact ⟨this.os, this.tape, this.output, this.size, this.block⟩
  exact ((a.trans (hb.mono (by simp; omega))).setCell (p := ⟨w.heap.size + 1 + 1, 8, none⟩) (by show w.heap.size ≤ w.heap.size + 1 + 1; omega) v).trans (h5.mono (by omega))

/-- The first of the three new blocks is as it was laid. -/
theorem row3 {w w2 w5 : World} {c : Array Value} {o2 o3 : Obj} {k : Nat} {v : Value} (hb : Below ((((w.alloc (.cells c 39)).alloc o2).alloc o3).drewN k).heap.size ((((w.alloc (.cells c 39)).alloc o2).alloc o3).drewN k) w2)
    (h5 : Below (w.heap.size + 1 + 1 + 1) (w2.setCell ⟨w.heap.size + 1 + 1, 8, none⟩ v) w5) : w5.rowIs w.heap.size 39 c.size (fun i => c[i]?.getD undef) := by
  have r0 : (w.alloc (.cells c 39)).rowIs w.heap.size 39 c.size (fun i => c[i]?.getD undef) := World.rowIs_alloc w c 39 _ (fun i hi => by simp [hi])
  have r1 := (r0.alloc o2).alloc o3
  have r2 : w2.rowIs w.heap.size 39 c.size (fun i => c[i]?.getD undef) := r1.of_block (hb.block _ (by simp; omega))
  exact (r2.setOther (a := ⟨w.heap.size + 1 + 1, 8, none⟩) (by show w.heap.size ≠ w.heap.size + 1 + 1; omega) v).of_block (h5.block _ (by omega))

/-- A result of thirteen cells, read out of its block. -/
theorem res24 (X : World) (b : Nat) (tm : Array Value) (hp : tm.getD 16 undef = .pointer (some ⟨b, 0, none⟩)) (f : Nat → Value) (h : X.rowIs b 39 13 f) :
    (results Tryf.f24 tm).run Tryf.prog X = .ok (.agg #[f 0, f 1, f 2, f 3, f 4, f 5, f 6, f 7, f 8, f 9, f 10, f 11, f 12]) X := by
  have c0 := h.cell (i := 0) (by omega); have c1 := h.cell (i := 1) (by omega); have c2 := h.cell (i := 2) (by omega); have c3 := h.cell (i := 3) (by omega)
  have c4 := h.cell (i := 4) (by omega); have c5 := h.cell (i := 5) (by omega); have c6 := h.cell (i := 6) (by omega); have c7 := h.cell (i := 7) (by omega)
  have c8 := h.cell (i := 8) (by omega); have c9 := h.cell (i := 9) (by omega); have c10 := h.cell (i := 10) (by omega); have c11 := h.cell (i := 11) (by omega); have c12 := h.cell (i := 12) (by omega)
  have hp' : tm[16]?.getD undef = .pointer (some ⟨b, 0, none⟩) := by simpa using hp
  simp [results, Tryf.results24, go_sem, hp', c0, c1, c2, c3, c4, c5, c6, c7, c8, c9, c10, c11, c12]

theorem set13 (X : World) (b : Nat) (f : Nat → Value) (h : X.rowIs b 39 13 f) (v0 v1 v2 v3 v4 v5 v6 v7 v8 v9 v10 v11 v12 : Value) :
    (((((((((((((X.setCell ⟨b, 0, none⟩ v0).setCell ⟨b, 1, none⟩ v1).setCell ⟨b, 2, none⟩ v2).setCell ⟨b, 3, none⟩ v3).setCell ⟨b, 4, none⟩ v4).setCell ⟨b, 5, none⟩ v5).setCell ⟨b, 6, none⟩ v6).setCell ⟨b, 7, none⟩ v7).setCell ⟨b, 8, none⟩ v8).setCell ⟨b, 9, none⟩ v9).setCell ⟨b, 10, none⟩ v10).setCell ⟨b, 11, none⟩ v11).setCell ⟨b, 12, none⟩ v12).rowIs b 39 13
      (fun i => #[v0, v1, v2, v3, v4, v5, v6, v7, v8, v9, v10, v11, v12][i]?.getD undef) := by
  refine ((((((((((((((h.set 0 v0).set 1 v1).set 2 v2).set 3 v3).set 4 v4).set 5 v5).set 6 v6).set 7 v7).set 8 v8).set 9 v9).set 10 v10).set 11 v11).set 12 v12).congr (fun i hi => ?_))
  match i, hi with
  | 0, _ => rfl
  | 1, _ => rfl
  | 2, _ => rfl
  | 3, _ => rfl
  | 4, _ => rfl
  | 5, _ => rfl
  | 6, _ => rfl
  | 7, _ => rfl
  | 8, _ => rfl
  | 9, _ => rfl
  | 10, _ => rfl
  | 11, _ => rfl
  | 12, _ => rfl

/-- The result, behind the thirteen stores. -/
theorem res13 (X : World) (b : Nat) (tm : Array Value) (hp : tm.getD 16 undef = .pointer (some ⟨b, 0, none⟩)) (f : Nat → Value) (h : X.rowIs b 39 13 f) (v0 v1 v2 v3 v4 v5 v6 v7 v8 v9 v10 v11 v12 : Value) (Y : World)
    (hY : Y = (((((((((((((X.setCell ⟨b, 0, none⟩ v0).setCell ⟨b, 1, none⟩ v1).setCell ⟨b, 2, none⟩ v2).setCell ⟨b, 3, none⟩ v3).setCell ⟨b, 4, none⟩ v4).setCell ⟨b, 5, none⟩ v5).setCell ⟨b, 6, none⟩ v6).setCell ⟨b, 7, none⟩ v7).setCell ⟨b, 8, none⟩ v8).setCell ⟨b, 9, none⟩ v9).setCell ⟨b, 10, none⟩ v10).setCell ⟨b, 11, none⟩ v11).setCell ⟨b, 12, none⟩ v12)) :
    (results Tryf.f24 tm).run Tryf.prog Y = .ok (.agg #[v0, v1, v2, v3, v4, v5, v6, v7, v8, v9, v10, v11, v12]) Y := by
  subst hY
  exact res24 _ b tm hp _ (set13 X b f h v0 v1 v2 v3 v4 v5 v6 v7 v8 v9 v10 v11 v12)
theorem below13 (X w : World) (v0 v1 v2 v3 v4 v5 v6 v7 v8 v9 v10 v11 v12 : Value) (h : Below w.heap.size w X) : Below w.heap.size w
    (((((((((((((X.setCell ⟨w.heap.size, 0, none⟩ v0).setCell ⟨w.heap.size, 1, none⟩ v1).setCell ⟨w.heap.size, 2, none⟩ v2).setCell ⟨w.heap.size, 3, none⟩ v3).setCell ⟨w.heap.size, 4, none⟩ v4).setCell ⟨w.heap.size, 5, none⟩ v5).setCell ⟨w.heap.size, 6, none⟩ v6).setCell ⟨w.heap.size, 7, none⟩ v7).setCell ⟨w.heap.size, 8, none⟩ v8).setCell ⟨w.heap.size, 9, none⟩ v9).setCell ⟨w.heap.size, 10, none⟩ v10).setCell ⟨w.heap.size, 11, none⟩ v11).setCell ⟨w.heap.size, 12, none⟩ v12) := by
  exact (((((((((((((h.setCell (p := ⟨w.heap.size, 0, none⟩) (Nat.le_refl _) v0).setCell (p := ⟨w.heap.size, 1, none⟩) (Nat.le_refl _) v1).setCell (p := ⟨w.heap.size, 2, none⟩) (Nat.le_refl _) v2).setCell (p := ⟨w.heap.size, 3, none⟩) (Nat.le_refl _) v3).setCell (p := ⟨w.heap.size, 4, none⟩) (Nat.le_refl _) v4).setCell (p := ⟨w.heap.size, 5, none⟩) (Nat.le_refl _) v5).setCell (p := ⟨w.heap.size, 6, none⟩) (Nat.le_refl _) v6).setCell (p := ⟨w.heap.size, 7, none⟩) (Nat.le_refl _) v7).setCell (p := ⟨w.heap.size, 8, none⟩) (Nat.le_refl _) v8).setCell (p := ⟨w.heap.size, 9, none⟩) (Nat.le_refl _) v9).setCell (p := ⟨w.heap.size, 10, none⟩) (Nat.le_refl _) v10).setCell (p := ⟨w.heap.size, 11, none⟩) (Nat.le_refl _) v11).setCell (p := ⟨w.heap.size, 12, none⟩) (Nat.le_refl _) v12)

set_option maxHeartbeats 1000000 in
theorem ncr_coord (nm : ByteArray) (self n f last prop : Int) (w : World) (h2 : 2 ≤ n) (h3 : n ≤ 65536) (h4 : 0 ≤ self) (h5 : self < n) (h6 : 0 ≤ f) (h7 : f ≤ n - 2) (h8 : 0 ≤ prop) (hsf : self ≤ f) (fn : Fn) :
    Calls Tryf.prog 24 #[.string nm, .int .i64 self, .int .i64 n, .int .i64 f, .int .i64 last, .int .i64 prop, .nilIface, .func fn #[] #[]] w fun e w' =>
      (∃ v7 v8 v9 v10 v11 v12, e = .returned (.agg #[.nilIface, .int .i64 n, .int .i64 self, .int .i64 f, .string nm, .func fn #[] #[], .int .i64 last, v7, v8, v9, v10, v11, v12])) ∧ Below w.heap.size w w' := by
  obtain ⟨N, rfl⟩ := Int.eq_ofNat_of_zero_le (show 0 ≤ n by omega)
  go_enter Tryf.func24, Tryf.ntmps24
  go_wp2_with fail
  refine (check_any nm self N f prop _ h2 h3 h4 h5 h6 h7 h8).mono ?_
  rintro e w1 ⟨rfl, rfl⟩
  go_wp2_with fail
  refine (coord_any _ self f _ (by go_simp) (by go_simp)).mono ?_
  rintro e w1 ⟨rfl, k1, rfl⟩
  have hd : decide (self ≤ f) = true := by simpa using hsf
  rw [hd]
  clear hd
  go_wp2_with fail
  refine (newVector_any N (by omega) _).mono ?_
  rintro e w2 ⟨rfl, hb, hr⟩
  obtain ⟨hc, hf⟩ := bcell hb
  simp at hc hf hr
  have hz := hb.size
  simp at hz
  go_wp2_with fail
  have e1 : (w2.setCell ⟨w.heap.size + 1 + 1, 8, none⟩ (.slice (some ⟨w.heap.size + 1 + 1 + 1, 0, none⟩) N N)).cell? ⟨w.heap.size + 1 + 1 + 1, self.toNat, none⟩ = some (.int .i64 (-1)) :=
    (hr.setOther (a := ⟨w.heap.size + 1 + 1, 8, none⟩) (by simp) _).cell (by omega)
  have e2 := (hr.setOther (a := ⟨w.heap.size + 1 + 1, 8, none⟩) (by simp) (.slice (some ⟨w.heap.size + 1 + 1 + 1, 0, none⟩) N N)).frozen self.toNat
  have e3 := (hr.setOther (a := ⟨w.heap.size + 1 + 1, 8, none⟩) (by simp) (.slice (some ⟨w.heap.size + 1 + 1 + 1, 0, none⟩) N N)).lt
  go_region_with (go_at_call 34; refine (record_any (w.heap.size + 1 + 1 + 1) N self prop (-1) _ h4 (by omega) (by omega) (by exact e3) (by exact e1) (by exact e2)).mono ?_; rintro e w5 ⟨⟨v, rfl⟩, hb5⟩)
  rotate_left 3
  all_goals
    have hc5 : ∀ b o, b < w.heap.size + 1 + 1 + 1 → w5.cell? ⟨b, o, none⟩ = (w2.setCell ⟨w.heap.size + 1 + 1, 8, none⟩ (.slice (some ⟨w.heap.size + 1 + 1 + 1, 0, none⟩) N N)).cell? ⟨b, o, none⟩ := fun b o h => hb5.cell (p := ⟨b, o, none⟩) h
    have hf5 : ∀ b o, b < w.heap.size + 1 + 1 + 1 → w5.frozen? ⟨b, o, none⟩ = (w2.setCell ⟨w.heap.size + 1 + 1, 8, none⟩ (.slice (some ⟨w.heap.size + 1 + 1 + 1, 0, none⟩) N N)).frozen? ⟨b, o, none⟩ := fun b o h => hb5.frozen (p := ⟨b, o, none⟩) h
    have H5 : Hid (Below (w.heap.size + 1 + 1 + 1) (w2.setCell ⟨w.heap.size + 1 + 1, 8, none⟩ (.slice (some ⟨w.heap.size + 1 + 1 + 1, 0, none⟩) N N)) w5) := ⟨hb5.os, hb5.tape, hb5.output, hb5.size, hb5.block⟩
    clear hb5
    have hB := below3 hb H5.out
    have hR := mkHid (row3 hb H5.out)
    go_wp2
    exact bodyPost_ret (res13 w5 w.heap.size _ rfl _ hR.out _ _ _ _ _ _ _ _ _ _ _ _ _ _ rfl) rfl ⟨⟨_, _, _, _, _, _, rfl⟩, below13 _ _ _ _ _ _ _ _ _ _ _ _ _ _ _ hB⟩
end Go.Proofs.Qxb6604527aFmt
