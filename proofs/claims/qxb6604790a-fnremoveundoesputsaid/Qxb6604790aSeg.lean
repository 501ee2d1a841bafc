/-
  zzl1Clone and ZZNewSegment.
-/
import Derived.Test.Qxb6604790aLeaf
import Derived.BigRegion
import Derived.RegionTactic
import Derived.ChangeAlike
namespace Go.Proofs.Qxb6604790a
set_option linter.unusedVariables false
open Go.RowKit

theorem info40 : (Try.prog.info? 40).map (fun i => (i.zero, i.size, i.bytes)) = some (some (.int .u32 0), 1, 4) := by kernel_rfl
theorem info62 : (Try.prog.info? 62).map (fun i => (i.zero, i.size, i.bytes)) = some (some (.agg #[.int .u32 0, .int .u32 0]), 2, 8) := by kernel_rfl

set_option maxHeartbeats 400000 in
theorem clone_nil (w : World) : Calls Try.prog 9 #[.slice none 0 0] w fun e w' => e = .returned (.slice none 0 0) ∧ w' = w := by
  have hq := fun wx => Lib.run_eql_slice_nil (P := Try.prog) wx 35 40 none 0 0 0 0 Try.underlying35
  go_enter Try.func9, Try.ntmps9
  go_wp2
  go_ret
  exact ⟨rfl, rfl⟩

set_option maxHeartbeats 400000 in
theorem clone_row (b off len cap : Nat) (H : Nat → Int) (w : World) (hl : len ≤ 65536) (hc : ∀ i, i < len → w.cell? ⟨b, off + i, none⟩ = some (.int .u32 (H i))) :
    Calls Try.prog 9 #[.slice (some ⟨b, off, none⟩) len cap] w fun e w' => e = .returned (.slice (some ⟨w.heap.size, 0, none⟩) len len) ∧ Below w.heap.size w w' ∧ w'.rowIs w.heap.size 40 len (U H) := by
  have hq := fun wx => Lib.run_eql_slice_nil (P := Try.prog) wx 35 40 (some ⟨b, off, none⟩) len cap 0 0 Try.underlying35
  have hmk := run_make_row' (P := Try.prog) 35 40 (.int .u32 0) 4 Try.underlying35 info40 rfl .i64 .i64 len (by omega) (by omega)
  have HC := mkHid hc
  clear hc
  go_enter Try.func9, Try.ntmps9
  go_wp2
  clear hmk hq
  go_loopw [4] (fun i wr => ∃ k : Nat, k ≤ len ∧ i = .int .i64 k ∧ Below w.heap.size w wr ∧ wr.rowIs w.heap.size 40 len (fun j => .int .u32 (if j < k then H j else 0))) (fun i _ => len - (intOf i).toNat)
  case atStart => exact ⟨0, Nat.zero_le _, rfl, (Below.refl _ _).alloc (Nat.le_refl _) _, (World.rowIs_made w _ len 40).congr (fun i _ => by simp)⟩
  case round =>
    obtain ⟨k, hk, rfl, hb, hr⟩ := hrel
    by_cases hlt : k < len
    · have hx : b < w.heap.size := World.block_lt_of_cell? _ _ (HC.out k hlt)
      have hsrc : wr.cell? ⟨b, off + k, none⟩ = some (.int .u32 (H k)) := (hb.cell (p := ⟨b, off + k, none⟩) hx).trans (HC.out k hlt)
      have hc := hr.cell hlt
      have hf := hr.frozen k
      simp only [Nat.lt_irrefl, if_false] at hc
      have hkz : (k : Int) < (len : Int) := by omega
      go_wp2
      go_roundw
      case rel =>
        refine ⟨k + 1, by omega, by go_num, hb.setCell (Nat.le_refl _) _, (hr.set k _).congr (fun i _ => ?_)⟩
        by_cases e : i = k
        · subst e; simp
        · rw [if_neg e]
          by_cases h : i < k
          · rw [if_pos h, if_pos (by omega)]
          · rw [if_neg h, if_neg (by omega)]
      case measure => simp [intOf]; omega
    · go_wp2
      go_ret
      exact ⟨rfl, hb, hr.congr (fun i hi => by rw [if_pos (by omega)]; rfl)⟩

/-- The four cells of a segment. -/
def segF (sb n : Nat) (obj dep sh : Int) : Nat → Value := fun i => #[.slice (some ⟨sb, 0, none⟩) n n, .int .i64 obj, .int .u64 dep, .int .u64 sh][i]?.getD undef
/-- The cells of the slots: head and hash, one behind the other. -/
def slotF (H X : Nat → Int) : Nat → Value := fun i => .int .u32 (if i % 2 = 0 then H (i / 2) else X (i / 2))
/-- Block g is a segment whose slots lie in block sb. -/
def Seg (w : World) (g sb n : Nat) (H X : Nat → Int) (obj dep sh : Int) : Prop :=
  w.rowIs g 65 4 (segF sb n obj dep sh) ∧ w.rowIs sb 62 (n * 2) (slotF H X)

theorem run_make_slots (n : Nat) (hn : n ≤ 65536) (w : World) :
    (Instr.makeSlice 63 (.int .i64 (n : Int)) (.int .i64 (n : Int))).run Try.prog w = .ok (.slice (some ⟨w.heap.size, 0, none⟩) n n) (w.alloc (.cells (madeCells #[.int .u32 0, .int .u32 0] (n * 2)) 62)) := by
  obtain ⟨i, hi, hzz⟩ := Option.map_eq_some_iff.1 info62
  simp only [Prod.mk.injEq] at hzz
  obtain ⟨hz, hs, hb⟩ := hzz
  have hr := run_make (P := Try.prog) w 63 62 i _ Try.underlying63 hi hz .i64 .i64 n n (by omega) (Int.le_refl _) (by rw [hb]; omega) (by omega)
  simp only [Int.toNat_natCast, hs] at hr
  exact hr
theorem rowIs_slots (w : World) (n : Nat) : (w.alloc (.cells (madeCells #[.int .u32 0, .int .u32 0] (n * 2)) 62)).rowIs w.heap.size 62 (n * 2) (slotF (fun _ => 0) (fun _ => 0)) := by
  refine ⟨_, Deep.blk_alloc_new _ _, by rw [size_madeCells], fun i hi => ?_⟩
  have hi' : i < n * 2 := hi
  have h2 : i % 2 = 0 ∨ i % 2 = 1 := by omega
  rcases h2 with h | h <;> simp [madeCells, hi', h, slotF]

theorem seg_congr {w : World} {g sb n : Nat} {H X H' X' : Nat → Int} {obj dep sh : Int} (h : Seg w g sb n H X obj dep sh) (hH : ∀ i, i < n → H i = H' i) (hX : ∀ i, i < n → X i = X' i) : Seg w g sb n H' X' obj dep sh :=
  ⟨h.1, h.2.congr (fun i hi => by unfold slotF; rw [hH (i / 2) (by omega), hX (i / 2) (by omega)])⟩
theorem newseg_start (w : World) (n : Nat) (obj dep sh : Int) (H X : Nat → Int) :
    Below w.heap.size w ((w.alloc (.cells (madeCells #[.int .u32 0, .int .u32 0] (n * 2)) 62)).alloc (.cells #[.slice (some ⟨w.heap.size, 0, none⟩) n n, .int .i64 obj, .int .u64 dep, .int .u64 sh] 65)) ∧
    Seg ((w.alloc (.cells (madeCells #[.int .u32 0, .int .u32 0] (n * 2)) 62)).alloc (.cells #[.slice (some ⟨w.heap.size, 0, none⟩) n n, .int .i64 obj, .int .u64 dep, .int .u64 sh] 65)) (w.heap.size + 1) w.heap.size n (fun j => if j < 0 then H j else 0) (fun j => if j < 0 then X j else 0) obj dep sh := by
  refine ⟨((Below.refl _ _).alloc (Nat.le_refl _) _).alloc (by simp) _, ?_, ?_⟩
  · have := World.rowIs_alloc (w.alloc (.cells (madeCells #[.int .u32 0, .int .u32 0] (n * 2)) 62)) #[.slice (some ⟨w.heap.size, 0, none⟩) n n, .int .i64 obj, .int .u64 dep, .int .u64 sh] 65 (segF w.heap.size n obj dep sh) (fun i hi => by unfold segF; simp at hi; simp [hi])
    have e : (w.alloc (.cells (madeCells #[.int .u32 0, .int .u32 0] (n * 2)) 62)).heap.size = w.heap.size + 1 := by simp
    rw [e] at this
    exact this
  · exact ((rowIs_slots w n).alloc _).congr (fun i _ => by unfold slotF; simp)

/-- A function changed at one place. -/
def upd (H : Nat → Int) (k : Nat) (v : Int) : Nat → Int := fun j => if j = k then v else H j
theorem upd_part (H : Nat → Int) (k i : Nat) : upd (fun j => if j < k then H j else 0) k (H k) i = if i < k + 1 then H i else 0 := by
  unfold upd
  by_cases e : i = k
  · subst e; simp
  · rw [if_neg e]
    by_cases h : i < k
    · simp only [if_pos h]; rw [if_pos (by omega)]
    · simp only [if_neg h]; rw [if_neg (by omega)]
theorem seg_head {w : World} {g sb n : Nat} {H X : Nat → Int} {obj dep sh : Int} (h : Seg w g sb n H X obj dep sh) {k : Nat} (hk : k < n) : w.cell? ⟨sb, k * 2, none⟩ = some (.int .u32 (H k)) := by
  have := h.2.cell (i := k * 2) (by omega)
  rw [this]; unfold slotF
  rw [if_pos (by omega), show k * 2 / 2 = k by omega]
theorem seg_hash {w : World} {g sb n : Nat} {H X : Nat → Int} {obj dep sh : Int} (h : Seg w g sb n H X obj dep sh) {k : Nat} (hk : k < n) : w.cell? ⟨sb, k * 2 + 1, none⟩ = some (.int .u32 (X k)) := by
  have := h.2.cell (i := k * 2 + 1) (by omega)
  rw [this]; unfold slotF
  rw [if_neg (by omega), show (k * 2 + 1) / 2 = k by omega]
theorem seg_put {w : World} {g sb n : Nat} {H X : Nat → Int} {obj dep sh : Int} (h : Seg w g sb n H X obj dep sh) (hne : g ≠ sb) (k : Nat) (a b : Int) :
    Seg ((w.setCell ⟨sb, k * 2, none⟩ (.int .u32 a)).setCell ⟨sb, k * 2 + 1, none⟩ (.int .u32 b)) g sb n (upd H k a) (upd X k b) obj dep sh := by
  refine ⟨(h.1.setOther (a := ⟨sb, k * 2, none⟩) hne _).setOther (a := ⟨sb, k * 2 + 1, none⟩) hne _, ((h.2.set (k * 2) _).set (k * 2 + 1) _).congr (fun i _ => ?_)⟩
  unfold slotF upd
  by_cases e1 : i = k * 2 + 1
  · rw [if_pos e1, if_neg (by omega), if_pos (by omega)]
  · rw [if_neg e1]
    by_cases e0 : i = k * 2
    · rw [if_pos e0, if_pos (by omega), if_pos (by omega)]
    · rw [if_neg e0]
      by_cases hp : i % 2 = 0
      · rw [if_pos hp, if_pos hp, if_neg (by omega)]
      · rw [if_neg hp, if_neg hp, if_neg (by omega)]

set_option maxHeartbeats 400000 in
theorem newseg_any (b0 b1 n : Nat) (H X : Nat → Int) (obj dep sh : Int) (w : World) (hn : n ≤ 65536) (h0 : w.rowIs b0 40 n (U H)) (h1 : w.rowIs b1 40 n (U X)) :
    Calls Try.prog 14 #[.slice (some ⟨b0, 0, none⟩) n n, .slice (some ⟨b1, 0, none⟩) n n, .int .i64 obj, .int .u64 dep, .int .u64 sh] w fun e w' =>
      e = .returned (.pointer (some ⟨w.heap.size + 1, 0, none⟩)) ∧ Below w.heap.size w w' ∧ Seg w' (w.heap.size + 1) w.heap.size n H X obj dep sh := by
  have hmk := run_make_slots n hn
  have H0 := mkHid h0
  have H1 := mkHid h1
  clear h0 h1
  go_enter Try.func14, Try.ntmps14
  go_wp2
  clear hmk
  go_loopw [12, 23] (fun _ i wr => ∃ k : Nat, k ≤ n ∧ i = .int .i64 k ∧ Hid (Below w.heap.size w wr ∧ Seg wr (w.heap.size + 1) w.heap.size n (fun j => if j < k then H j else 0) (fun j => if j < k then X j else 0) obj dep sh)) (fun _ i _ => n - (intOf i).toNat)
  case atStart => exact ⟨0, Nat.zero_le _, rfl, newseg_start w n obj dep sh H X⟩
  case round =>
    obtain ⟨k, hk, rfl, HR⟩ := hrel
    by_cases hlt : k < n
    · have hkz : (k : Int) < (n : Int) := by omega
      have c0 : wr.cell? ⟨b0, k, none⟩ = some (.int .u32 (H k)) := (HR.out.1.cell (p := ⟨b0, k, none⟩) H0.out.lt).trans (H0.out.cell hlt)
      have c1 : wr.cell? ⟨b1, k, none⟩ = some (.int .u32 (X k)) := (HR.out.1.cell (p := ⟨b1, k, none⟩) H1.out.lt).trans (H1.out.cell hlt)
      have cg : wr.cell? ⟨w.heap.size + 1, 0, none⟩ = some (.slice (some ⟨w.heap.size, 0, none⟩) n n) := HR.out.2.1.cell (i := 0) (by omega)
      have hf := fun i => HR.out.2.2.frozen i
      have s0 := seg_head HR.out.2 hlt
      have s1 := seg_hash HR.out.2 hlt
      go_wp2
      go_region
      all_goals
        go_wp2
        go_roundw
        case rel =>
          refine ⟨k + 1, by omega, by go_num, ((HR.out.1.setCell (p := ⟨w.heap.size, k * 2, none⟩) (Nat.le_refl _) _).setCell (p := ⟨w.heap.size, k * 2 + 1, none⟩) (Nat.le_refl _) _).drew, ?_⟩
          have R : Seg _ _ _ _ _ _ _ _ _ := seg_put HR.out.2 (by omega) k (H k) (X k)
          exact seg_congr (w := World.drew _) R (fun i _ => upd_part H k i) (fun i _ => upd_part X k i)
        case measure => simp [intOf]; omega
    · go_wp2
      go_ret
      exact ⟨rfl, HR.out.1, seg_congr HR.out.2 (fun i hi => by rw [if_pos (by omega)]) (fun i hi => by rw [if_pos (by omega)])⟩
end Go.Proofs.Qxb6604790a
