/-
  (*segment).put and ZZPut.
-/
import Derived.Test.Qxb6604790aDom
namespace Go.Proofs.Qxb6604790a
set_option linter.unusedVariables false
open Go.RowKit

/-- Nothing that was there has turned but blocks g and sb. -/
structure Kept (g sb : Nat) (w w' : World) : Prop where
  os : w'.os = w.os
  tape : w'.tape = w.tape
  output : w'.output = w.output
  size : w.heap.size ≤ w'.heap.size
  block : ∀ k, k < w.heap.size → k ≠ g → k ≠ sb → w'.heap[k]? = w.heap[k]?

theorem Kept.below {g sb B : Nat} {w w' : World} (h : Kept g sb w w') (hB : B ≤ w.heap.size) (hg : B ≤ g) (hs : B ≤ sb) : Below B w w' :=
  ⟨h.os, h.tape, h.output, h.size, fun k hk => h.block k (by omega) (by omega) (by omega)⟩
theorem Kept.refl (g sb : Nat) (w : World) : Kept g sb w w := ⟨rfl, rfl, rfl, Nat.le_refl _, fun _ _ _ _ => rfl⟩
theorem Kept.trans {g sb : Nat} {a b c : World} (h : Kept g sb a b) (k : Kept g sb b c) : Kept g sb a c :=
  ⟨k.os.trans h.os, k.tape.trans h.tape, k.output.trans h.output, Nat.le_trans h.size k.size, fun i h1 h2 h3 => (k.block i (Nat.lt_of_lt_of_le h1 h.size) h2 h3).trans (h.block i h1 h2 h3)⟩
theorem Kept.alloc {g sb : Nat} {a w : World} (h : Kept g sb a w) (o : Obj) : Kept g sb a (w.alloc o) :=
  h.trans ⟨rfl, rfl, rfl, by simp, fun k hk _ _ => Below.heap_alloc _ _ _ hk⟩
theorem Kept.drew {g sb : Nat} {a w : World} (h : Kept g sb a w) : Kept g sb a w.drew := ⟨h.os, h.tape, h.output, h.size, h.block⟩
theorem Kept.setG {g sb : Nat} {a w : World} (h : Kept g sb a w) (i : Nat) (v : Value) : Kept g sb a (w.setCell ⟨g, i, none⟩ v) :=
  h.trans ⟨rfl, rfl, rfl, by simp [World.setCell], fun k _ h2 _ => Below.heap_setCell _ _ _ _ h2⟩
theorem Kept.setS {g sb : Nat} {a w : World} (h : Kept g sb a w) (i : Nat) (v : Value) : Kept g sb a (w.setCell ⟨sb, i, none⟩ v) :=
  h.trans ⟨rfl, rfl, rfl, by simp [World.setCell], fun k _ _ h3 => Below.heap_setCell _ _ _ _ h3⟩

theorem seg_alloc {w : World} {g sb n : Nat} {H X : Nat → Int} {obj dep sh : Int} (h : Seg w g sb n H X obj dep sh) (o : Obj) : Seg (w.alloc o) g sb n H X obj dep sh := ⟨h.1.alloc o, h.2.alloc o⟩
theorem seg_obj {w : World} {g sb n : Nat} {H X : Nat → Int} {obj dep sh : Int} (h : Seg w g sb n H X obj dep sh) (hne : g ≠ sb) (o' : Int) : Seg (w.setCell ⟨g, 1, none⟩ (.int .i64 o')) g sb n H X o' dep sh := by
  refine ⟨(h.1.set 1 _).congr (fun i hi => ?_), h.2.setOther (a := ⟨g, 1, none⟩) (fun e => hne e.symm) _⟩
  match i, hi with
  | 0, _ => rfl
  | 1, _ => rfl
  | 2, _ => rfl
  | 3, _ => rfl

def PutEnd (w w' : World) (g sb n : Nat) (H X : Nat → Int) (obj dep sh head hash : Int) : Prop :=
  ∃ a, a < n ∧ H a = 0 ∧ Seg w' g sb n (upd H a head) (upd X a hash) (wrap64 (obj + 1)) dep sh ∧ Kept g sb w w'

set_option maxHeartbeats 800000 in
theorem put_any (g sb n k z : Nat) (H X : Nat → Int) (obj dep head hash : Int) (w : World) (hk : k ≤ 16) (hn : Hid (n = 2 ^ k)) (n2 : n ≤ 65536) (hs : Seg w g sb n H X obj dep ((32 : Int) - k)) (hne : g ≠ sb)
    (hz : z < n) (hz0 : H z = 0) (x0 : 0 ≤ hash) (x1 : hash < 4294967296) :
    Calls Try.prog 26 #[.pointer (some ⟨g, 0, none⟩), .agg #[.int .u32 head, .int .u32 hash]] w fun e w' => e = .returned (.tuple #[]) ∧ PutEnd w w' g sb n H X obj dep ((32 : Int) - k) head hash := by
  have HS := mkHid hs
  have HZ := mkHid hz0
  clear hs hz0
  have hg : g < w.heap.size := HS.out.1.lt
  have hsb : sb < w.heap.size := HS.out.2.lt
  have c0 : w.cell? ⟨g, 0, none⟩ = some (.slice (some ⟨sb, 0, none⟩) n n) := HS.out.1.cell (i := 0) (by omega)
  have c1 : w.cell? ⟨g, 1, none⟩ = some (.int .i64 obj) := HS.out.1.cell (i := 1) (by omega)
  have c3 : w.cell? ⟨g, 3, none⟩ = some (.int .u64 ((32 : Int) - k)) := HS.out.1.cell (i := 3) (by omega)
  go_enter Try.func26, Try.ntmps26
  go_wp2_with fail
  refine (home_any g hash k _ hk x0 x1 (by go_simp)).mono ?_
  rintro e w1 ⟨rfl, rfl⟩
  have hlt2 := Tab.home_lt k hk hash
  rw [← hn.out] at hlt2
  go_wp2
  go_loop [5] (fun i => ∃ p : Nat, p < n ∧ i = .int .i64 p) (fun i => Tab.off n (intOf i).toNat z)
  case atStart => exact ⟨_, hlt2, rfl⟩
  case round =>
    obtain ⟨p, hp, rfl⟩ := hrel
    have s0 : w.cell? ⟨sb, p * 2, none⟩ = some (.int .u32 (H p)) := seg_head HS.out hp
    have s1 : w.cell? ⟨sb, p * 2 + 1, none⟩ = some (.int .u32 (X p)) := seg_hash HS.out hp
    have hm1 : bits .and .i64 ((p : Int) + 1) ((n : Int) - 1) = (((p + 1) % n : Nat) : Int) := by
      rw [Tab.and_mask _ n k hk hn.out, Tab.succ_int]
    have hpz : (p : Int) < (n : Int) := by omega
    by_cases hu : H p = 0
    · have hu' : (H p != 0) = false := by simp [hu]
      have E := mkHid hu
      clear hu
      have hf := fun i => HS.out.2.frozen i
      have hfg := fun i => HS.out.1.frozen i
      go_wp2_with fail
      go_region
      all_goals
        go_wp2
        go_end0
        exact ⟨rfl, p, hp, E.out, seg_alloc (seg_obj (seg_put HS.out hne p head hash) hne (wrap64 (obj + 1))) _, ((((Kept.refl g sb w).setS (p * 2) _).setS (p * 2 + 1) _).setG 1 _).alloc _ |>.drew⟩
    · have hu' : (H p != 0) = true := by simp [hu]
      have hne2 : p ≠ z := fun e => hu (by rw [e]; exact HZ.out)
      have E := mkHid (Tab.off_step n p z hp hz hne2)
      clear hu
      go_wp2
      go_round
      case rel => exact ⟨(p + 1) % n, Nat.mod_lt _ (by omega), by rw [Tab.succ_int]⟩
      case measure =>
        have e := E.out
        rw [← Tab.succ_int]
        simp only [intOf, Int.toNat_natCast]
        omega

theorem zzput_any (g sb n k z : Nat) (H X : Nat → Int) (obj dep head hash : Int) (w : World) (hk : k ≤ 16) (hn : Hid (n = 2 ^ k)) (n2 : n ≤ 65536) (hs : Seg w g sb n H X obj dep ((32 : Int) - k)) (hne : g ≠ sb)
    (hz : z < n) (hz0 : H z = 0) (x0 : 0 ≤ hash) (x1 : hash < 4294967296) :
    Calls Try.prog 13 #[.pointer (some ⟨g, 0, none⟩), .int .u32 head, .int .u32 hash] w fun e w' => e = .returned (.tuple #[]) ∧ PutEnd w w' g sb n H X obj dep ((32 : Int) - k) head hash := by
  have HS := mkHid hs
  have HZ := mkHid hz0
  clear hs hz0
  go_enter Try.func13, Try.ntmps13
  go_wp2_with (go_at_call 26; refine (put_any g sb n k z H X obj dep head hash _ hk hn n2 HS.out hne hz HZ.out x0 x1).mono ?_; rintro e w1 ⟨rfl, hp⟩; have HP := mkHid hp; clear hp)
  go_end0
  exact ⟨rfl, HP.out⟩
end Go.Proofs.Qxb6604790a
