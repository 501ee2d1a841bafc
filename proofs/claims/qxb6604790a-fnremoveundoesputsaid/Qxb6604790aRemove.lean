/-
  (*slots).remove, where no slot behind the removed one is cut off from its home.
-/
import Derived.Test.Qxb6604790aFields
namespace Go.Proofs.Qxb6604790a
set_option linter.unusedVariables false
open Go.RowKit

/-- Behind slot a, as far as the slots are used, nothing is to be moved into a. -/
def Stay (n a : Nat) (H : Nat → Int) (hm : Nat → Nat) : Prop :=
  ∀ d, 1 ≤ d → d < n → (∀ t, 1 ≤ t → t ≤ d → H ((a + t) % n) ≠ 0) →
    (a < (a + d) % n → a < hm ((a + d) % n) ∧ hm ((a + d) % n) ≤ (a + d) % n) ∧ ((a + d) % n < a → a < hm ((a + d) % n) ∨ hm ((a + d) % n) ≤ (a + d) % n)

theorem place_ne (n a d : Nat) (ha : a < n) (h1 : 1 ≤ d) (h2 : d < n) : (a + d) % n ≠ a := by
  rw [Tab.mod_two _ _ (by omega)]
  split <;> omega

/-- Nothing that was there has turned but blocks g, sb and s. -/
structure Kept3 (g sb s : Nat) (w w' : World) : Prop where
  os : w'.os = w.os
  tape : w'.tape = w.tape
  output : w'.output = w.output
  size : w.heap.size ≤ w'.heap.size
  block : ∀ k, k < w.heap.size → k ≠ g → k ≠ sb → k ≠ s → w'.heap[k]? = w.heap[k]?

def RemEnd (w w' : World) (g sb s n a : Nat) (H X : Nat → Int) (obj dep sh so : Int) : Prop :=
  Seg w' g sb n (upd H a 0) (upd X a 0) (wrap64 (obj - 1)) dep sh ∧ w'.cell? ⟨s, 0, none⟩ = some (.slice none 0 0) ∧ w'.cell? ⟨s, 1, none⟩ = some (.int .u64 0) ∧ w'.cell? ⟨s, 2, none⟩ = some (.int .i64 (wrap64 (so - 1))) ∧ Kept3 g sb s w w'

theorem rem_end {w : World} {g sb s n : Nat} {H X : Nat → Int} {obj dep sh so : Int} (hs : Seg w g sb n H X obj dep sh) (hr : w.rowIs s 67 3 (fun i => #[.slice none 0 0, .int .u64 0, .int .i64 so][i]?.getD undef)) (hne : g ≠ sb) (hgs : g ≠ s) (hss : sb ≠ s) (a : Nat) (o : Obj) :
    RemEnd w (((((w.setCell ⟨sb, a * 2, none⟩ (.int .u32 0)).setCell ⟨sb, a * 2 + 1, none⟩ (.int .u32 0)).setCell ⟨g, 1, none⟩ (.int .i64 (wrap64 (obj - 1)))).setCell ⟨s, 2, none⟩ (.int .i64 (wrap64 (so - 1)))).alloc o) g sb s n a H X obj dep sh so := by
  have S1 := seg_obj (seg_put hs hne a 0 0) hne (wrap64 (obj - 1))
  have S2 : Seg ((((w.setCell ⟨sb, a * 2, none⟩ (.int .u32 0)).setCell ⟨sb, a * 2 + 1, none⟩ (.int .u32 0)).setCell ⟨g, 1, none⟩ (.int .i64 (wrap64 (obj - 1)))).setCell ⟨s, 2, none⟩ (.int .i64 (wrap64 (so - 1)))) g sb n (upd H a 0) (upd X a 0) (wrap64 (obj - 1)) dep sh :=
    ⟨S1.1.setOther (a := ⟨s, 2, none⟩) hgs _, S1.2.setOther (a := ⟨s, 2, none⟩) hss _⟩
  have R1 := (((hr.setOther (a := ⟨sb, a * 2, none⟩) (fun e => hss e.symm) (.int .u32 0)).setOther (a := ⟨sb, a * 2 + 1, none⟩) (fun e => hss e.symm) (.int .u32 0)).setOther (a := ⟨g, 1, none⟩) (fun e => hgs e.symm) (.int .i64 (wrap64 (obj - 1)))).set 2 (.int .i64 (wrap64 (so - 1)))
  have R2 := R1.alloc o
  refine ⟨seg_alloc S2 o, R2.cell (i := 0) (by omega), R2.cell (i := 1) (by omega), R2.cell (i := 2) (by omega), rfl, rfl, rfl, by simp [World.setCell], fun k h1 h2 h3 h4 => ?_⟩
  rw [Below.heap_alloc _ _ _ (by simpa [World.setCell] using h1), Below.heap_setCell _ _ _ _ h4, Below.heap_setCell _ _ _ _ h2, Below.heap_setCell _ _ _ _ h3, Below.heap_setCell _ _ _ _ h3]

set_option maxRecDepth 100000 in
set_option maxHeartbeats 800000 in
theorem remove_any (g sb s n k a z : Nat) (H X : Nat → Int) (obj dep so : Int) (w : World) (hk : k ≤ 16) (hn : Hid (n = 2 ^ k)) (n2 : n ≤ 65536) (hs : Seg w g sb n H X obj dep ((32 : Int) - k)) (hne : g ≠ sb) (hgs : g ≠ s) (hss : sb ≠ s)
    (hr : w.rowIs s 67 3 (fun i => #[.slice none 0 0, .int .u64 0, .int .i64 so][i]?.getD undef)) (hX : Hid (Ok X)) (ha : a < n) (hz : z < n) (hza : z ≠ a) (hz0 : H z = 0) (hst : Hid (Stay n a H (hm k X))) :
    Calls Try.prog 27 #[.pointer (some ⟨s, 0, none⟩), .agg #[.pointer (some ⟨g, 0, none⟩), .int .i64 a]] w fun e w' => e = .returned (.tuple #[]) ∧ RemEnd w w' g sb s n a H X obj dep ((32 : Int) - k) so := by
  have HS := mkHid hs
  have HZ := mkHid hz0
  have HT := mkHid hr
  clear hs hz0 hr
  have hg : g < w.heap.size := HS.out.1.lt
  have hsb : sb < w.heap.size := HS.out.2.lt
  have hsz : s < w.heap.size := HT.out.lt
  have c0 : w.cell? ⟨g, 0, none⟩ = some (.slice (some ⟨sb, 0, none⟩) n n) := HS.out.1.cell (i := 0) (by omega)
  have c1 : w.cell? ⟨g, 1, none⟩ = some (.int .i64 obj) := HS.out.1.cell (i := 1) (by omega)
  have c3 : w.cell? ⟨g, 3, none⟩ = some (.int .u64 ((32 : Int) - k)) := HS.out.1.cell (i := 3) (by omega)
  have m1 : bits .and .i64 ((a : Int) + 1) ((n : Int) - 1) = (((a + 1) % n : Nat) : Int) := by
    rw [Tab.and_mask _ n k hk hn.out, Tab.succ_int]
  have hdz := Tab.off_pos n a z ha hz hza
  have hdz2 := Tab.off_lt n a z (by omega)
  have hdz3 := mkHid (Tab.off_at n a z ha hz)
  go_enter Try.func27, Try.ntmps27
  go_wp2
  clear m1
  go_loop [6, 7, 8] (fun h j _ => h = .int .i64 a ∧ ∃ (d p : Nat), 1 ≤ d ∧ d ≤ Tab.off n a z ∧ p < n ∧ j = .int .i64 p ∧ Hid (p = (a + d) % n ∧ ∀ t, 1 ≤ t → t < d → H ((a + t) % n) ≠ 0)) (fun _ j _ => Tab.off n (intOf j).toNat z)
  case atStart => exact ⟨rfl, 1, (a + 1) % n, by omega, by omega, Nat.mod_lt _ (by omega), by rw [Tab.succ_int], rfl, fun t _ _ => by omega⟩
  case round =>
    obtain ⟨rfl, d, p, d1, d2, hp, rfl, HD⟩ := hrel
    have s0 : w.cell? ⟨sb, p * 2, none⟩ = some (.int .u32 (H p)) := seg_head HS.out hp
    have s1 : w.cell? ⟨sb, p * 2 + 1, none⟩ = some (.int .u32 (X p)) := seg_hash HS.out hp
    have hpz : (p : Int) < (n : Int) := by omega
    by_cases hu : H p = 0
    · have hu' : (H p != 0) = false := by simp [hu]
      clear hu
      have t0 : w.cell? ⟨sb, a * 2, none⟩ = some (.int .u32 (H a)) := seg_head HS.out ha
      have t1 : w.cell? ⟨sb, a * 2 + 1, none⟩ = some (.int .u32 (X a)) := seg_hash HS.out ha
      have haz : (a : Int) < (n : Int) := by omega
      have q2 : w.cell? ⟨s, 2, none⟩ = some (.int .i64 so) := HT.out.cell (i := 2) (by omega)
      have hf := fun i => HS.out.2.frozen i
      have hfg := fun i => HS.out.1.frozen i
      have hfs := fun i => HT.out.frozen i
      go_wp2
      go_end0
      exact ⟨rfl, rem_end HS.out HT.out hne hgs hss a _⟩
    · have hu' : (H p != 0) = true := by simp [hu]
      have hpne : p ≠ z := fun e => hu (by rw [e]; exact HZ.out)
      have hd3 : d < Tab.off n a z := by
        rcases Nat.lt_or_ge d (Tab.off n a z) with h | h
        · exact h
        · have e : d = Tab.off n a z := by omega
          exact absurd (by rw [HD.out.1, e]; exact hdz3.out) hpne
      have huse : ∀ t, 1 ≤ t → t ≤ d → H ((a + t) % n) ≠ 0 := fun t t1 t2 => by
        by_cases e : t = d
        · subst e; rw [← HD.out.1]; exact hu
        · exact HD.out.2 t t1 (by omega)
      have HU := mkHid huse
      have hst1 := hst.out d d1 (by omega) huse
      rw [← HD.out.1] at hst1
      have hpa : p ≠ a := by rw [HD.out.1]; exact place_ne n a d ha d1 (by omega)
      have E := mkHid (Tab.off_step n p z hp hz hpne)
      have hm1 : bits .and .i64 ((p : Int) + 1) ((n : Int) - 1) = (((p + 1) % n : Nat) : Int) := by
        rw [Tab.and_mask _ n k hk hn.out, Tab.succ_int]
      have hlt2 := Tab.home_lt k hk (X p)
      rw [← hn.out] at hlt2
      have hst2 : (a < p → a < Tab.home (32 - k) (X p) ∧ Tab.home (32 - k) (X p) ≤ p) ∧ (p < a → a < Tab.home (32 - k) (X p) ∨ Tab.home (32 - k) (X p) ≤ p) := hst1
      clear hu huse hst1
      have HST := mkHid hst2
      clear hst2
      go_wp2_with fail
      refine (home_any g (X p) k _ hk (hX.out p).1 (hX.out p).2 (by go_simp)).mono ?_
      rintro e w2 ⟨rfl, rfl⟩
      rcases Nat.lt_or_ge a p with hap | hap
      · obtain ⟨l1, l2⟩ := HST.out.1 hap
        have i1 : (a : Int) < (p : Int) := by omega
        have i2 : ¬ (Tab.home (32 - k) (X p) : Int) ≤ (a : Int) := by omega
        have i3 : ¬ (p : Int) < (Tab.home (32 - k) (X p) : Int) := by omega
        have i4 : ¬ (p : Int) < (a : Int) := by omega
        have j2 : decide ((Tab.home (32 - k) (X p) : Int) ≤ (a : Int)) = false := by simp; omega
        have j3 : decide ((p : Int) < (Tab.home (32 - k) (X p) : Int)) = false := by simp; omega
        have j4 : decide ((p : Int) < (a : Int)) = false := by simp; omega
        go_wp2
        go_round
        case rel => exact ⟨rfl, d + 1, (p + 1) % n, by omega, by omega, Nat.mod_lt _ (by omega), by rw [Tab.succ_int], by rw [HD.out.1]; exact Tab.step_mod n a d, fun t t1 t2 => HU.out t t1 (by omega)⟩
        case measure =>
            have e := E.out
            rw [← Tab.succ_int]
            simp only [intOf, Int.toNat_natCast]
            omega
      · have hap' : p < a := by omega
        rcases HST.out.2 hap' with l | l
        · have i1 : ¬ (a : Int) < (p : Int) := by omega
          have i4 : (p : Int) < (a : Int) := by omega
          have i2 : ¬ (Tab.home (32 - k) (X p) : Int) ≤ (a : Int) := by omega
          have j1 : decide ((a : Int) < (p : Int)) = false := by simp; omega
          have j2 : decide ((Tab.home (32 - k) (X p) : Int) ≤ (a : Int)) = false := by simp; omega
          go_wp2
          go_round
          case rel => exact ⟨rfl, d + 1, (p + 1) % n, by omega, by omega, Nat.mod_lt _ (by omega), by rw [Tab.succ_int], by rw [HD.out.1]; exact Tab.step_mod n a d, fun t t1 t2 => HU.out t t1 (by omega)⟩
          case measure =>
            have e := E.out
            rw [← Tab.succ_int]
            simp only [intOf, Int.toNat_natCast]
            omega
        · have i1 : ¬ (a : Int) < (p : Int) := by omega
          have i4 : (p : Int) < (a : Int) := by omega
          have i2 : (Tab.home (32 - k) (X p) : Int) ≤ (a : Int) := by omega
          have i3 : ¬ (p : Int) < (Tab.home (32 - k) (X p) : Int) := by omega
          have j1 : decide ((a : Int) < (p : Int)) = false := by simp; omega
          have j3 : decide ((p : Int) < (Tab.home (32 - k) (X p) : Int)) = false := by simp; omega
          go_wp2
          go_round
          case rel => exact ⟨rfl, d + 1, (p + 1) % n, by omega, by omega, Nat.mod_lt _ (by omega), by rw [Tab.succ_int], by rw [HD.out.1]; exact Tab.step_mod n a d, fun t t1 t2 => HU.out t t1 (by omega)⟩
          case measure =>
            have e := E.out
            rw [← Tab.succ_int]
            simp only [intOf, Int.toNat_natCast]
            omega

theorem zzremove_any (g sb s n k a z : Nat) (H X : Nat → Int) (obj dep so : Int) (w : World) (hk : k ≤ 16) (hn : Hid (n = 2 ^ k)) (n2 : n ≤ 65536) (hs : Seg w g sb n H X obj dep ((32 : Int) - k)) (hne : g ≠ sb) (hgs : g ≠ s) (hss : sb ≠ s)
    (hr : w.rowIs s 67 3 (fun i => #[.slice none 0 0, .int .u64 0, .int .i64 so][i]?.getD undef)) (hX : Hid (Ok X)) (ha : a < n) (hz : z < n) (hza : z ≠ a) (hz0 : H z = 0) (hst : Hid (Stay n a H (hm k X))) :
    Calls Try.prog 16 #[.pointer (some ⟨s, 0, none⟩), .pointer (some ⟨g, 0, none⟩), .int .i64 a] w fun e w' => e = .returned (.tuple #[]) ∧ RemEnd w w' g sb s n a H X obj dep ((32 : Int) - k) so := by
  have HS := mkHid hs
  have HZ := mkHid hz0
  have HT := mkHid hr
  clear hs hz0 hr
  go_enter Try.func16, Try.ntmps16
  go_wp2_with (go_at_call 27; refine (remove_any g sb s n k a z H X obj dep so _ hk hn n2 HS.out hne hgs hss HT.out hX ha hz hza HZ.out hst).mono ?_; rintro e w1 ⟨rfl, hp⟩; have HP := mkHid hp; clear hp)
  go_end0
  exact ⟨rfl, HP.out⟩

/-- In the table into which an object has been put at the empty slot a, nothing behind a is cut off by taking it out again. -/
theorem stay_of {n k a e : Nat} {H X : Nat → Int} {head hash : Int} (hk : k ≤ 16) (hn : n = 2 ^ k) (he : e < n) (ha : a < n) (ze : H e = 0) (za : H a = 0) (hg : Tab.Good n H (hm k X) e n) : Stay n a (upd H a head) (hm k (upd X a hash)) := by
  intro d d1 d2 hu
  have key : ∀ t, 1 ≤ t → t < n → upd H a head ((a + t) % n) = H ((a + t) % n) := fun t t1 t2 => by
    unfold upd; rw [if_neg (place_ne n a t ha t1 t2)]
  have keyX : hm k (upd X a hash) ((a + d) % n) = hm k X ((a + d) % n) := by
    unfold hm upd; rw [if_neg (place_ne n a d ha d1 d2)]
  rw [keyX]
  exact Tab.behind he ha ze za hg (fun p => by rw [hn]; exact Tab.home_lt k hk (X p)) d d1 d2 (fun t t1 t2 => by rw [← key t t1 (by omega)]; exact hu t t1 t2)
end Go.Proofs.Qxb6604790a
