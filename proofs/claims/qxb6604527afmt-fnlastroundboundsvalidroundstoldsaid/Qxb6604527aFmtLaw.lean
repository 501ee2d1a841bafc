/-
  NewCoordinators, LastRound, Validate, and the law.
-/
import Derived.Test.Qxb6604527aFmtNew2
namespace Go.Proofs.Qxb6604527aFmt
set_option linter.unusedVariables false
open Go.RowKit Go.Extern.Stop Go.Stop Go.Extern

/-- "coordinator-based" -/
def cname : ByteArray := ⟨#[99, 111, 111, 114, 100, 105, 110, 97, 116, 111, 114, 45, 98, 97, 115, 101, 100]⟩

theorem ncr_any (nm : ByteArray) (self n f last prop : Int) (w : World) (hd : Dom self n f prop) (fn : Fn) :
    Calls Tryf.prog 24 #[.string nm, .int .i64 self, .int .i64 n, .int .i64 f, .int .i64 last, .int .i64 prop, .nilIface, .func fn #[] #[]] w fun e w' =>
      (∃ v7 v8 v9 v10 v11 v12, e = .returned (.agg #[.nilIface, .int .i64 n, .int .i64 self, .int .i64 f, .string nm, .func fn #[] #[], .int .i64 last, v7, v8, v9, v10, v11, v12])) ∧ Below w.heap.size w w' := by
  obtain ⟨h2, h3, h4, h5, h6, h7, h8⟩ := hd
  by_cases hsf : self ≤ f
  · exact ncr_coord nm self n f last prop w h2 h3 h4 h5 h6 h7 h8 hsf fn
  · exact ncr_other nm self n f last prop w h2 h3 h4 h5 h6 h7 h8 hsf fn

/-- A new process lies in block b. -/
def Made (w w' : World) (b : Nat) (self n f : Int) : Prop :=
  w.heap.size ≤ b ∧ b < w'.heap.size ∧ w'.cell? ⟨b, 1, none⟩ = some (.int .i64 n) ∧ w'.cell? ⟨b, 2, none⟩ = some (.int .i64 self) ∧ w'.cell? ⟨b, 3, none⟩ = some (.int .i64 f) ∧ (∃ nm, w'.cell? ⟨b, 4, none⟩ = some (.string nm)) ∧ w'.cell? ⟨b, 6, none⟩ = some (.int .i64 (f + 1)) ∧ Below w.heap.size w w'

def MadeEnd (w : World) (self n f : Int) (e : Ending) (w' : World) : Prop := ∃ b, e = .returned (.pointer (some ⟨b, 0, none⟩)) ∧ Made w w' b self n f

set_option maxHeartbeats 400000 in
theorem new_any (self n f prop : Int) (w : World) (hd : Dom self n f prop) :
    Calls Tryf.prog 14 #[.int .i64 self, .int .i64 n, .int .i64 f, .int .i64 prop, .nilIface] w fun e w' => MadeEnd w self n f e w' := by
  have HD := mkHid hd
  obtain ⟨h2, h3, h4, h5, h6, h7, h8⟩ := hd
  go_enter Tryf.func14, Tryf.ntmps14
  go_wp2_with fail
  refine (lastRound_any f _ h6 (by omega)).mono ?_
  rintro e w1 ⟨rfl, rfl⟩
  go_wp2_with fail
  refine (ncr_any _ self n f (f + 1) prop _ HD.out _).mono ?_
  rintro e w2 ⟨⟨v7, v8, v9, v10, v11, v12, rfl⟩, hb⟩
  go_wp2
  go_ret
  exact ⟨w2.heap.size, rfl, hb.size, by simp, by simp, by simp, by simp, ⟨_, by simp; rfl⟩, by simp, hb.alloc hb.size _⟩

set_option maxHeartbeats 400000 in
theorem zznew_any (self n f prop : Int) (w : World) (hd : Dom self n f prop) :
    Calls Tryf.prog 7 #[.int .i64 self, .int .i64 n, .int .i64 f, .int .i64 prop] w fun e w' => MadeEnd w self n f e w' := by
  have HD := mkHid hd
  clear hd
  go_enter Tryf.func7, Tryf.ntmps7
  go_wp2_with (go_at_call 14; refine (new_any self n f prop _ HD.out).mono ?_; rintro e w1 ⟨b, rfl, hm⟩; have HM := mkHid hm; clear hm)
  go_ret
  exact ⟨b, rfl, HM.out⟩

theorem last_any (b : Nat) (l : Int) (w : World) (hc : w.cell? ⟨b, 6, none⟩ = some (.int .i64 l)) :
    Calls Tryf.prog 9 #[.pointer (some ⟨b, 0, none⟩)] w fun e w' => e = .returned (.int .i64 l) ∧ w' = w := by
  go_enter Tryf.func9, Tryf.ntmps9
  go_wp2
  go_ret
  exact ⟨rfl, rfl⟩

theorem below_late (w w' : World) (o : Obj) (k : Nat) (h : w' = ((w.alloc o).drewN k).drew) : Below w.heap.size w w' := by
  subst h
  have := (Below.refl w.heap.size w).alloc (Nat.le_refl _) o
  exact ⟨this.os, this.tape, this.output, this.size, this.block⟩
theorem below_late2 (w w' : World) (o : Obj) (h : Below (w.alloc o).drew.heap.size (w.alloc o).drew w') : Below w.heap.size w w' := by
  have := ((Below.refl w.heap.size w).alloc (Nat.le_refl _) o).drew
  exact this.trans (h.mono (by simp))

set_option maxHeartbeats 400000 in
theorem val_ok (b : Nat) (n f r : Int) (nm : ByteArray) (w : World) (hb : b < w.heap.size) (hn : w.cell? ⟨b, 1, none⟩ = some (.int .i64 n)) (hf : w.cell? ⟨b, 3, none⟩ = some (.int .i64 f)) (hnm : w.cell? ⟨b, 4, none⟩ = some (.string nm)) (hl : w.cell? ⟨b, 6, none⟩ = some (.int .i64 (f + 1)))
    (n2 : 2 ≤ n) (f0 : 0 ≤ f) (r1 : 1 ≤ r) (r2 : r ≤ f + 1) :
    Calls Tryf.prog 10 #[.pointer (some ⟨b, 0, none⟩), .int .i64 0, .int .i64 r, .agg #[.slice none 0 0, .bool false]] w fun e w' => e = .returned .nilIface ∧ Below w.heap.size w w' := by
  have f0' : ¬ f < 0 := by omega
  go_enter Tryf.func10, Tryf.ntmps10
  go_wp2_with fail
  go_quiet ((go_at_call 15; exact Calls.quiet_of_same (vr_ok nm r (f + 1) _ r1 r2)))
  go_wp2_with fail
  go_region_with (go_at_call 18; refine (vp_nil nm n _ n2).mono ?_; rintro e w5 ⟨rfl, hw5⟩; subst hw5)
  all_goals
    go_wp2
    go_ret
    exact ⟨rfl, below_late _ _ _ _ rfl⟩

set_option maxHeartbeats 400000 in
theorem val_bad (F : Interp) (b : Nat) (n f r : Int) (nm : ByteArray) (w : World) (hF : F.answers w.tape) (hb : b < w.heap.size) (hn : w.cell? ⟨b, 1, none⟩ = some (.int .i64 n)) (hf : w.cell? ⟨b, 3, none⟩ = some (.int .i64 f)) (hnm : w.cell? ⟨b, 4, none⟩ = some (.string nm)) (hl : w.cell? ⟨b, 6, none⟩ = some (.int .i64 (f + 1)))
    (hr : r < 1 ∨ f + 1 < r) :
    Calls Tryf.prog 10 #[.pointer (some ⟨b, 0, none⟩), .int .i64 0, .int .i64 r, .agg #[.slice none 0 0, .bool false]] w fun e w' => (∃ a, e = .returned (.iface 93 (.pointer (some a)))) ∧ Below w.heap.size w w' := by
  have HR := mkHid hr
  clear hr
  go_enter Tryf.func10, Tryf.ntmps10
  go_wp2_with fail
  go_region_with (go_at_call 15; refine (vr_bad F nm r (f + 1) _ (by exact hF) HR.out).mono ?_; rintro e w5 ⟨⟨a, rfl⟩, hb5⟩)
  all_goals
    go_wp2
    go_ret
    exact ⟨⟨a, rfl⟩, below_late2 _ _ _ hb5⟩

set_option maxHeartbeats 400000 in
theorem law_any (F : Interp) (self n f p r : Int) (w : World) (hF : F.answers w.tape) :
    Calls Tryf.prog 4 #[.int .i64 self, .int .i64 n, .int .i64 f, .int .i64 p, .int .i64 r] w fun e w' => e = .returned (.bool true) ∧ Below w.heap.size w w' := by
  go_enter Tryf.func4, Tryf.ntmps4
  go_wp2_with fail
  refine (outside_any self n f p w).mono ?_
  rintro e w1 ⟨⟨t, rfl, hd⟩, rfl⟩
  cases t
  · have HD := mkHid (hd rfl)
    clear hd
    go_wp2_with fail
    refine (zznew_any self n f p _ HD.out).mono ?_
    rintro e w2 ⟨b, rfl, h1, h2, c1, c2, c3, ⟨nm, c4⟩, c6, hb⟩
    obtain ⟨d1, d2, d3, d4, d5, d6, d7⟩ := HD.out
    have HB := mkHid hb
    clear hb
    go_wp2_with fail
    refine (last_any b (f + 1) _ c6).mono ?_
    rintro e w3 ⟨rfl, rfl⟩
    go_wp2_with fail
    by_cases hr : 1 ≤ r ∧ r ≤ f + 1
    · obtain ⟨r1, r2⟩ := hr
      refine (val_ok b n f r nm _ h2 c1 c3 c4 c6 d1 d5 r1 r2).mono ?_
      rintro e w4 ⟨rfl, hb4⟩
      go_wp2
      go_ret
      exact ⟨rfl, HB.out.trans (hb4.mono HB.out.size)⟩
    · refine (val_bad F b n f r nm _ (by rw [HB.out.tape]; exact hF) h2 c1 c3 c4 c6 (by omega)).mono ?_
      rintro e w4 ⟨⟨a, rfl⟩, hb4⟩
      by_cases r1 : 1 ≤ r
      · have r2 : ¬ r ≤ f + 1 := fun h => hr ⟨r1, h⟩
        have r3 : decide (r ≤ f + 1) = false := by simpa using r2
        clear hr
        go_wp2
        go_ret
        exact ⟨rfl, HB.out.trans (hb4.mono HB.out.size)⟩
      · clear hr
        go_wp2
        go_ret
        exact ⟨rfl, HB.out.trans (hb4.mono HB.out.size)⟩
  · go_wp2
    go_ret
    exact ⟨rfl, Below.refl _ _⟩
end Go.Proofs.Qxb6604527aFmt
