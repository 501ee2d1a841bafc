/-
  FnRemoveUndoesPut: the way through the table.
-/
import Derived.Test.Qxb6604790aEarly
namespace Go.Proofs.Qxb6604790a
set_option linter.unusedVariables false
open Go.RowKit

/-- What stays true from the clones on: old memory is as it was; the two clones lie in blocks b0 and b1. -/
def Base (w0 w : World) (b0 b1 n : Nat) (H X : Nat → Int) : Prop := Below w0.heap.size w0 w ∧ w.rowIs b0 40 n (U H) ∧ w.rowIs b1 40 n (U X)

theorem base_below {w0 w w' : World} {b0 b1 n : Nat} {H X : Nat → Int} (h : Base w0 w b0 b1 n H X) (hb : Below w.heap.size w w') : Base w0 w' b0 b1 n H X :=
  ⟨h.1.trans (hb.mono h.1.size), h.2.1.of_block (hb.block _ h.2.1.lt), h.2.2.of_block (hb.block _ h.2.2.lt)⟩
theorem base_kept {w0 w w' : World} {b0 b1 n g sb : Nat} {H X : Nat → Int} (h : Base w0 w b0 b1 n H X) (hk : Kept g sb w w') (g0 : w0.heap.size ≤ g) (g1 : w0.heap.size ≤ sb) (e0 : b0 ≠ g) (e1 : b0 ≠ sb) (e2 : b1 ≠ g) (e3 : b1 ≠ sb) : Base w0 w' b0 b1 n H X :=
  ⟨h.1.trans (hk.below h.1.size g0 g1), h.2.1.of_block (hk.block _ h.2.1.lt e0 e1), h.2.2.of_block (hk.block _ h.2.2.lt e2 e3)⟩
theorem base_kept3 {w0 w w' : World} {b0 b1 n g sb s : Nat} {H X : Nat → Int} (h : Base w0 w b0 b1 n H X) (hk : Kept3 g sb s w w') (g0 : w0.heap.size ≤ g) (g1 : w0.heap.size ≤ sb) (g2 : w0.heap.size ≤ s) (e0 : b0 ≠ g) (e1 : b0 ≠ sb) (e4 : b0 ≠ s) (e2 : b1 ≠ g) (e3 : b1 ≠ sb) (e5 : b1 ≠ s) : Base w0 w' b0 b1 n H X :=
  ⟨h.1.trans ⟨hk.os, hk.tape, hk.output, hk.size, fun k hk' => hk.block k (Nat.lt_of_lt_of_le hk' h.1.size) (by omega) (by omega) (by omega)⟩, h.2.1.of_block (hk.block _ h.2.1.lt e0 e1 e4), h.2.2.of_block (hk.block _ h.2.2.lt e2 e3 e5)⟩

/-- The same memory; draws alone. -/
def Like (w w' : World) : Prop := w'.heap = w.heap ∧ w'.os = w.os ∧ w'.tape = w.tape ∧ w'.output = w.output
theorem like_drewN {w w' : World} (h : Like w w') (q : Nat) : Like w (w'.drewN q) := h
theorem like_row {w w' : World} (h : Like w w') {b : Nat} {t : TypeId} {n : Nat} {f : Nat → Value} (hr : w.rowIs b t n f) : w'.rowIs b t n f := hr.of_block (by rw [h.1])
theorem like_below {w w' : World} (h : Like w w') : Below w.heap.size w w' := ⟨h.2.1, h.2.2.1, h.2.2.2, by rw [h.1]; exact Nat.le_refl _, fun k _ => by rw [h.1]⟩
theorem like_seg {w w' : World} (h : Like w w') {g sb n : Nat} {H X : Nat → Int} {obj dep sh : Int} (hs : Seg w g sb n H X obj dep sh) : Seg w' g sb n H X obj dep sh := ⟨like_row h hs.1, like_row h hs.2⟩
theorem seg_below {w w' : World} (hb : Below w.heap.size w w') {g sb n : Nat} {H X : Nat → Int} {obj dep sh : Int} (hs : Seg w g sb n H X obj dep sh) : Seg w' g sb n H X obj dep sh :=
  ⟨hs.1.of_block (hb.block _ hs.1.lt), hs.2.of_block (hb.block _ hs.2.lt)⟩

set_option maxRecDepth 100000 in
set_option maxHeartbeats 1600000 in
theorem law_main (a0 : Option Addr) (n c0 : Nat) (z0 : List Int) (a1 : Option Addr) (c1 : Nat) (z1 : List Int) (o d s q h x : Int) (w : World) (w0 : IsRow .u32 w a0 n c0 z0) (w1 : IsRow .u32 w a1 n c1 z1) (n1 : 1 ≤ n) (n2 : n ≤ 65536)
    (o0 : -9223372036854775808 ≤ o) (o1 : o ≤ 9223372036854775807) (q0 : -9223372036854775808 ≤ q) (q1 : q ≤ 9223372036854775807) (x0 : 0 ≤ x) (x1 : x < 4294967296) :
    Calls Try.prog 6 #[.slice a0 n c0, .slice a1 n c1, .int .i64 o, .int .u64 d, .int .u64 s, .int .i64 q, .int .u32 h, .int .u32 x] w fun e w' => e = .returned (.bool true) ∧ Below w.heap.size w w' := by
  obtain ⟨v0, f0, rfl, k0, K0⟩ := isRow_at w0 n1
  obtain ⟨v1, f1, rfl, k1, K1⟩ := isRow_at w1 n1
  obtain ⟨H, hH⟩ : ∃ H : Nat → Int, H = fun i => z0.getD i 0 := ⟨_, rfl⟩
  obtain ⟨X, hX⟩ : ∃ X : Nat → Int, X = fun i => z1.getD i 0 := ⟨_, rfl⟩
  have C0 : Hid (∀ i, i < n → w.cell? ⟨v0, f0 + i, none⟩ = some (.int .u32 (H i))) := by subst hH; exact k0
  have C1 : Hid (∀ i, i < n → w.cell? ⟨v1, f1 + i, none⟩ = some (.int .u32 (X i))) := by subst hX; exact k1
  have OX : Hid (Ok X) := by subst hX; exact K1
  have HB := mkHid o0
  clear k0 k1 K0 K1 w0 w1 hH hX
  go_enter Try.func6, Try.ntmps6
  go_wp2_with fail
  refine (bytes_any _ _ n c0 n c1 o d s q h x w (by omega) (by omega)).mono ?_
  rintro e w2 ⟨⟨b, rfl⟩, hw⟩
  have hw' := hw.symm
  subst hw'
  clear hw
  cases b
  · go_wp2
    go_ret
    exact ⟨rfl, Below.refl _ _⟩
  have g0' : decide (65536 < (n : Int)) = false := by simp; omega
  go_wp2_with fail
  refine (clone_row v0 f0 n c0 H w n2 C0.out).mono ?_
  rintro e w3 ⟨rfl, hb3, hr3⟩
  have B3 := mkHid hb3
  have R3 := mkHid hr3
  have z3 : w.heap.size < w3.heap.size := hr3.lt
  clear hb3 hr3
  go_wp2_with fail
  refine (clone_row v1 f1 n c1 X w3 n2 (fun i hi => (B3.out.cell (p := ⟨v1, f1 + i, none⟩) (World.block_lt_of_cell? _ _ (C1.out i hi))).trans (C1.out i hi))).mono ?_
  rintro e w4 ⟨rfl, hb4, hr4⟩
  have B4 := mkHid (show Base w w4 w.heap.size w3.heap.size n H X from ⟨B3.out.trans (hb4.mono B3.out.size), R3.out.of_block (hb4.block _ R3.out.lt), hr4⟩)
  have z4 : w3.heap.size < w4.heap.size := hr4.lt
  clear hb4 hr4
  go_wp2_with fail
  refine (dom_any w.heap.size w3.heap.size n H X s w4 n1 n2 B4.out.2.1 B4.out.2.2 OX).mono ?_
  rintro e w5 ⟨⟨b, rfl, hdom⟩, hb5⟩
  have B5 := mkHid (base_below B4.out hb5)
  have z5 : w4.heap.size ≤ w5.heap.size := hb5.size
  clear hb5
  cases b
  · clear hdom
    go_wp2
    go_ret
    exact ⟨rfl, B5.out.1⟩
  obtain ⟨k, hk, hn, hs, ⟨e1, e2, e3, e4, e5, e6⟩, ez, ez1, ez2, hgood⟩ := hdom rfl
  subst hs
  have HN := mkHid hn
  have HG := mkHid hgood
  have HE := mkHid (⟨e3, e4, e5, e6⟩ : e1 < e2 ∧ e2 < n ∧ H e1 = 0 ∧ H e2 = 0)
  have HZ := mkHid (⟨ez1, ez2⟩ : ez < n ∧ H ez = 0)
  clear hdom hn hgood e3 e4 e5 e6 ez1 ez2
  by_cases hh : h = 0
  · subst hh
    go_wp2
    go_ret
    exact ⟨rfl, B5.out.1⟩
  have hh' : (h == 0) = false := by simp [hh]
  have HH := mkHid hh
  clear hh
  go_wp2_with fail
  refine (newseg_any w.heap.size w3.heap.size n H X o d ((32 : Int) - k) w5 n2 B5.out.2.1 B5.out.2.2).mono ?_
  rintro e w6 ⟨rfl, hb6, hs6⟩
  have B6 := mkHid (base_below B5.out hb6)
  have S6 := mkHid hs6
  have z6 : w5.heap.size + 1 < w6.heap.size := hs6.1.lt
  clear hb6 hs6
  go_wp2_with fail
  refine (zzput_any (w5.heap.size + 1) w5.heap.size n k ez H X o d h x w6 hk HN n2 S6.out (by omega) HZ.out.1 HZ.out.2 x0 x1).mono ?_
  rintro e w7 ⟨rfl, a, ha, ha0, hs7, hk7⟩
  have B7 := mkHid (base_kept B6.out hk7 (by omega) (by omega) (by omega) (by omega) (by omega) (by omega))
  have S7 := mkHid hs7
  have HA := mkHid ha0
  have z7 : w6.heap.size ≤ w7.heap.size := hk7.size
  clear hs7 hk7 ha0
  go_wp2_with fail
  refine (fields_any (w5.heap.size + 1) w5.heap.size n (upd H a h) (upd X a x) (wrap64 (o + 1)) d ((32 : Int) - k) w7 n2 S7.out).mono ?_
  rintro e w8 ⟨rfl, ht8⟩
  have B8 := mkHid (base_below B7.out ht8.1)
  have T8 := mkHid ht8.2
  have S8 := mkHid (seg_below ht8.1 S7.out)
  have z8 : w7.heap.size + 1 < w8.heap.size := ht8.2.2.lt
  clear ht8
  go_wp2
  go_loopw [24, 25] (fun t i wr => ∃ (K : Nat) (A : Int), K ≤ n ∧ i = .int .i64 K ∧ t = .int .i64 A ∧ Hid (A = if a < K then (a : Int) else -1) ∧ Hid (Like w8 wr)) (fun _ i _ => n - (intOf i).toNat)
  case atStart => exact ⟨0, -1, by omega, rfl, rfl, by show _ = _; simp, rfl, rfl, rfl, rfl⟩
  case round =>
    obtain ⟨K, A, hK, rfl, rfl, EA, LW⟩ := hrel
    by_cases hlt : K < n
    · have hKz : (K : Int) < (n : Int) := by omega
      have r0 : wr.cell? ⟨w.heap.size, K, none⟩ = some (.int .u32 (H K)) := (like_row LW.out B8.out.2.1).cell hlt
      have r1 : wr.cell? ⟨w3.heap.size, K, none⟩ = some (.int .u32 (X K)) := (like_row LW.out B8.out.2.2).cell hlt
      by_cases hKa : K = a
      · have p0 : wr.cell? ⟨w7.heap.size, K, none⟩ = some (.int .u32 h) := by
          rw [(like_row LW.out T8.out.1).cell hlt]; unfold U upd; rw [if_pos hKa]
        have p1 : wr.cell? ⟨w7.heap.size + 1, K, none⟩ = some (.int .u32 x) := by
          rw [(like_row LW.out T8.out.2).cell hlt]; unfold U upd; rw [if_pos hKa]
        have hne : (h != H K) = true := by rw [hKa, HA.out]; simp; exact HH.out
        have hA : A = -1 := by rw [EA.out, if_neg (by omega)]
        have EK := mkHid hKa
        clear hKa
        subst hA
        go_wp2_with fail
        go_quiet (fail)
        go_wp2
        go_roundw
        case rel => exact ⟨K + 1, K, by omega, by go_num, rfl, by show _ = _; rw [if_pos (by have := EK.out; omega), EK.out], like_drewN LW.out _⟩
        case measure => simp [intOf]; omega
      · have p0 : wr.cell? ⟨w7.heap.size, K, none⟩ = some (.int .u32 (H K)) := by
          rw [(like_row LW.out T8.out.1).cell hlt]; unfold U upd; rw [if_neg hKa]
        have p1 : wr.cell? ⟨w7.heap.size + 1, K, none⟩ = some (.int .u32 (X K)) := by
          rw [(like_row LW.out T8.out.2).cell hlt]; unfold U upd; rw [if_neg hKa]
        have EK := mkHid hKa
        clear hKa
        go_wp2_with fail
        go_quiet (fail)
        go_wp2
        go_roundw
        case rel => exact ⟨K + 1, A, by omega, by go_num, rfl, by
          show _ = _
          rw [EA.out]
          have := EK.out
          by_cases hl : a < K
          · rw [if_pos hl, if_pos (by omega)]
          · rw [if_neg hl, if_neg (by omega)], like_drewN LW.out _⟩
        case measure => simp [intOf]; omega
    · have hA : A = (a : Int) := by rw [EA.out, if_pos (by omega)]
      subst hA
      clear EA
      have a1 : (a : Int) < (n : Int) := by omega
      have r0 : wr.cell? ⟨w.heap.size, a, none⟩ = some (.int .u32 (H a)) := (like_row LW.out B8.out.2.1).cell ha
      have p0 : wr.cell? ⟨w7.heap.size, a, none⟩ = some (.int .u32 h) := by
        rw [(like_row LW.out T8.out.1).cell ha]; unfold U upd; rw [if_pos rfl]
      have p1 : wr.cell? ⟨w7.heap.size + 1, a, none⟩ = some (.int .u32 x) := by
        rw [(like_row LW.out T8.out.2).cell ha]; unfold U upd; rw [if_pos rfl]
      have hz : (H a != 0) = false := by rw [HA.out]; simp
      have hzz : wr.heap.size = w8.heap.size := by rw [LW.out.1]
      have z9 : w7.heap.size + 1 < wr.heap.size := by omega
      clear hzz
      go_wp2_with fail
      refine (newslots_any q wr).mono ?_
      rintro e w9 ⟨rfl, hw9⟩
      have B9 : Hid (Base w w9 w.heap.size w3.heap.size n H X) := by
        subst hw9; exact base_below (base_below B8.out (like_below LW.out)) ((Below.refl _ _).alloc (Nat.le_refl _) _)
      have S9 : Hid (Seg w9 (w5.heap.size + 1) w5.heap.size n (upd H a h) (upd X a x) (wrap64 (o + 1)) d ((32 : Int) - k)) := by
        subst hw9; exact seg_alloc (like_seg LW.out S8.out) _
      have R9 : Hid (w9.rowIs wr.heap.size 67 3 (fun i => #[.slice none 0 0, .int .u64 0, .int .i64 q][i]?.getD undef)) := by
        subst hw9; exact World.rowIs_alloc wr #[.slice none 0 0, .int .u64 0, .int .i64 q] 67 _ (fun i hi => by simp at hi; simp [hi])
      have z10 : wr.heap.size < w9.heap.size := R9.out.lt
      obtain ⟨y, y1, y2, y3⟩ := Tab.other_empty HE.out.1 HE.out.2.1 HE.out.2.2.1 HE.out.2.2.2 a
      have HY := mkHid y3
      have HST := mkHid (stay_of (head := h) (hash := x) hk HN.out HZ.out.1 ha HZ.out.2 HA.out HG.out)
      have OX2 : Hid (Ok (upd X a x)) := fun i => by
        unfold upd; split
        · exact ⟨x0, x1⟩
        · exact OX.out i
      clear hw9 r0 p0 p1 hz y3
      obtain ⟨sb', hsb'⟩ : ∃ t, t = wr.heap.size := ⟨_, rfl⟩
      rw [← hsb'] at R9 z10 z9 ⊢
      clear hsb'
      go_wp2_with fail
      refine (zzremove_any (w5.heap.size + 1) w5.heap.size sb' n k a y (upd H a h) (upd X a x) (wrap64 (o + 1)) d q w9 hk HN n2 S9.out (by omega) (by omega) (by omega) R9.out OX2 ha y1 y2 (by unfold upd; rw [if_neg y2]; exact HY.out) HST).mono ?_
      rintro e w10 ⟨rfl, hs10, hc0, hc1, hc2, hk10⟩
      have B10 := mkHid (base_kept3 B9.out hk10 (by omega) (by omega) (by omega) (by omega) (by omega) (by omega) (by omega) (by omega) (by omega))
      have S10 := mkHid hs10
      have z11 : w9.heap.size ≤ w10.heap.size := hk10.size
      have Q10 := mkHid (⟨hc0, hc1, hc2⟩ : w10.cell? ⟨sb', 0, none⟩ = some (.slice none 0 0) ∧ w10.cell? ⟨sb', 1, none⟩ = some (.int .u64 0) ∧ w10.cell? ⟨sb', 2, none⟩ = some (.int .i64 (wrap64 (q - 1))))
      clear hs10 hc0 hc1 hc2 hk10
      go_wp2_with fail
      refine (fields_any (w5.heap.size + 1) w5.heap.size n _ _ (wrap64 (wrap64 (o + 1) - 1)) d ((32 : Int) - k) w10 n2 S10.out).mono ?_
      rintro e w11 ⟨rfl, ht11⟩
      have B11 := mkHid (base_below B10.out ht11.1)
      have T11 := mkHid ht11.2
      have Q11 : Hid (w11.cell? ⟨sb', 0, none⟩ = some (.slice none 0 0) ∧ w11.cell? ⟨sb', 1, none⟩ = some (.int .u64 0) ∧ w11.cell? ⟨sb', 2, none⟩ = some (.int .i64 (wrap64 (q - 1)))) :=
        ⟨(ht11.1.cell (p := ⟨sb', 0, none⟩) (by show sb' < _; omega)).trans Q10.out.1, (ht11.1.cell (p := ⟨sb', 1, none⟩) (by show sb' < _; omega)).trans Q10.out.2.1, (ht11.1.cell (p := ⟨sb', 2, none⟩) (by show sb' < _; omega)).trans Q10.out.2.2⟩
      clear ht11
      clear LW S10 Q10 S9 R9 B9 B10 HST S8 T8 B8 S7 B7 S6 B6 B5 B4
      go_wp2
      go_loopw [32, 33] (fun i _ wl => ∃ (J : Nat), J ≤ n ∧ i = .int .i64 J ∧ Hid (Like w11 wl)) (fun i _ _ => n - (intOf i).toNat)
      case atStart => exact ⟨0, by omega, rfl, rfl, rfl, rfl, rfl⟩
      case round =>
        obtain ⟨J, hJ, rfl, LW⟩ := hrel
        by_cases hlt : J < n
        · have hJz : (J : Int) < (n : Int) := by omega
          have r0 : wr.cell? ⟨w.heap.size, J, none⟩ = some (.int .u32 (H J)) := (like_row LW.out B11.out.2.1).cell hlt
          have r1 : wr.cell? ⟨w3.heap.size, J, none⟩ = some (.int .u32 (X J)) := (like_row LW.out B11.out.2.2).cell hlt
          have p0 : wr.cell? ⟨w10.heap.size, J, none⟩ = some (.int .u32 (H J)) := by
            rw [(like_row LW.out T11.out.1).cell hlt]; unfold U upd
            by_cases e : J = a
            · rw [if_pos e, e, HA.out]
            · rw [if_neg e, if_neg e]
          by_cases hJa : J = a
          · have p1 : wr.cell? ⟨w10.heap.size + 1, J, none⟩ = some (.int .u32 0) := by
              rw [(like_row LW.out T11.out.2).cell hlt]; unfold U upd; rw [if_pos hJa]
            have t1 : ((J : Int) == (a : Int)) = true := by simp; omega
            clear hJa
            go_wp2_with fail
            go_quiet (fail)
            go_wp2
            go_roundw
            case rel => exact ⟨J + 1, by omega, by go_num, like_drewN LW.out _⟩
            case measure => simp [intOf]; omega
          · have p1 : wr.cell? ⟨w10.heap.size + 1, J, none⟩ = some (.int .u32 (X J)) := by
              rw [(like_row LW.out T11.out.2).cell hlt]; unfold U upd; rw [if_neg hJa, if_neg hJa]
            have t1 : ((J : Int) == (a : Int)) = false := by simp; omega
            clear hJa
            go_wp2_with fail
            go_quiet (fail)
            go_wp2
            go_roundw
            case rel => exact ⟨J + 1, by omega, by go_num, like_drewN LW.out _⟩
            case measure => simp [intOf]; omega
        · have d0 : wr.cell? ⟨sb', 0, none⟩ = some (.slice none 0 0) := ((like_below LW.out).cell (p := ⟨sb', 0, none⟩) (World.block_lt_of_cell? _ _ Q11.out.1)).trans Q11.out.1
          have d1 : wr.cell? ⟨sb', 1, none⟩ = some (.int .u64 0) := ((like_below LW.out).cell (p := ⟨sb', 1, none⟩) (World.block_lt_of_cell? _ _ Q11.out.2.1)).trans Q11.out.2.1
          have d2 : wr.cell? ⟨sb', 2, none⟩ = some (.int .i64 (wrap64 (q - 1))) := ((like_below LW.out).cell (p := ⟨sb', 2, none⟩) (World.block_lt_of_cell? _ _ Q11.out.2.2)).trans Q11.out.2.2
          have ho : (wrap64 (wrap64 (o + 1) - 1) != o) = false := by
            have : wrap64 (wrap64 (o + 1) - 1) = o := by unfold wrap64; omega
            rw [this]; simp
          have hq := fun wx => Lib.run_eql_slice_nil (P := Try.prog) wx 52 42 none 0 0 0 0 Try.underlying52
          go_wp2_with fail
          refine (slotsfields_any sb' (wrap64 (q - 1)) _ d0 d1 d2).mono ?_
          rintro e w12 ⟨rfl, qn, hw12⟩
          have B12 : Hid (Below w.heap.size w w12) := by
            have := (base_below B11.out (like_below LW.out)).1
            subst hw12
            exact ⟨this.os, this.tape, this.output, this.size, this.block⟩
          clear hw12 d0 d1 d2
          go_wp2
          go_ret
          exact ⟨rfl, B12.out⟩
end Go.Proofs.Qxb6604790a
