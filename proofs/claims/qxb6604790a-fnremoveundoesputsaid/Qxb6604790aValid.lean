/-
  zzl1Valid.
-/
import Derived.Test.Qxb6604790aSeg
namespace Go.Proofs.Qxb6604790a
set_option linter.unusedVariables false
open Go.RowKit

/-- The home of the object in slot p, of 2^k slots. -/
def hm (k : Nat) (X : Nat → Int) : Nat → Nat := fun p => Tab.home (32 - k) (X p)

/-- What a table that zzl1Valid passes is known to be. -/
def Known (n k : Nat) (H X : Nat → Int) : Prop := (∀ i, i < n → H i ≠ 0) ∨ ∃ z, z < n ∧ H z = 0 ∧ Tab.Good n H (hm k X) z n
def ValidEnd (n k : Nat) (H X : Nat → Int) (e : Ending) : Prop := ∃ b, e = .returned (.bool b) ∧ (b = true → Known n k H X)

set_option maxHeartbeats 800000 in
theorem valid_any (g b0 b1 n k : Nat) (H X : Nat → Int) (w : World) (hk : k ≤ 16) (hn : Hid (n = 2 ^ k)) (n1 : 1 ≤ n) (n2 : n ≤ 65536) (h0 : w.rowIs b0 40 n (U H)) (h1 : w.rowIs b1 40 n (U X)) (hX : Hid (Ok X))
    (hc : w.cell? ⟨g, 3, none⟩ = some (.int .u64 ((32 : Int) - k))) :
    Calls Try.prog 24 #[.pointer (some ⟨g, 0, none⟩), .slice (some ⟨b0, 0, none⟩) n n, .slice (some ⟨b1, 0, none⟩) n n] w fun e w' => ValidEnd n k H X e ∧ w' = w := by
  have H0 := mkHid h0
  have H1 := mkHid h1
  clear h0 h1
  go_enter Try.func24, Try.ntmps24
  go_wp2_with fail
  refine (first_any b0 n H w n2 H0.out).mono ?_
  rintro e w1 ⟨hfe, hw1⟩
  have hw2 := hw1.symm
  subst hw2
  clear hw1
  rcases hfe with ⟨rfl, hall⟩ | ⟨z, rfl, hz, hz0⟩
  · have HA := mkHid hall
    clear hall
    go_wp2
    go_ret
    exact ⟨⟨_, rfl, fun _ => Or.inl HA.out⟩, rfl⟩
  · have HZ := mkHid hz0
    clear hz0
    go_wp2
    go_loop [10, 11, 12, 13] (fun r o _ _ => ∃ (R O : Nat), 1 ≤ O ∧ O ≤ n ∧ R ≤ O ∧ r = .int .i64 R ∧ o = .int .i64 O ∧ Hid (Tab.Run n H z R O ∧ Tab.Good n H (hm k X) z O)) (fun _ o _ _ => n - (intOf o).toNat)
    case atStart => exact ⟨1, 1, by omega, by omega, by omega, rfl, rfl, Tab.run_start n H z, Tab.good_start n H _ z⟩
    case round =>
      obtain ⟨R, O, o1, o2, o3, rfl, rfl, HR⟩ := hrel
      by_cases hlt : O < n
      · obtain ⟨p, hp⟩ : ∃ p, p = (z + O) % n := ⟨_, rfl⟩
        have hpn : p < n := by rw [hp]; exact Nat.mod_lt _ (by omega)
        have hm1 : bits .and .i64 ((z : Int) + (O : Int)) ((n : Int) - 1) = (p : Int) := by
          rw [Tab.and_mask _ n k hk hn.out, hp, Tab.next_int]
        have HP := mkHid hp
        clear hp
        have c0 : w.cell? ⟨b0, p, none⟩ = some (.int .u32 (H p)) := H0.out.cell hpn
        have c1 : w.cell? ⟨b1, p, none⟩ = some (.int .u32 (X p)) := H1.out.cell hpn
        by_cases hz : H p = 0
        · have hz' : (H p == 0) = true := by simp [hz]
          have E := mkHid hz
          clear hz
          go_wp2
          go_round
          case rel => exact ⟨O + 1, O + 1, by omega, by omega, by omega, by go_num, by go_num, Tab.run_empty HR.out.1, Tab.good_empty HR.out.2 (by rw [← HP.out]; exact E.out)⟩
          case measure => simp [intOf]; omega
        · have hz' : (H p == 0) = false := by simp [hz]
          have E := mkHid hz
          clear hz
          have hlt2 := Tab.home_lt k hk (X p)
          rw [← hn.out] at hlt2
          obtain ⟨q, hq⟩ : ∃ q, q = Tab.off n z (Tab.home (32 - k) (X p)) := ⟨_, rfl⟩
          have hqn : q < n := by rw [hq]; exact Tab.off_lt _ _ _ (by omega)
          have hm2 : bits .and .i64 ((Tab.home (32 - k) (X p) : Int) - (z : Int)) ((n : Int) - 1) = (q : Int) := by
            rw [Tab.and_mask _ n k hk hn.out, Tab.off_int n z _ hz hlt2, hq]
          have HQ := mkHid hq
          clear hq
          go_wp2_with fail
          refine (zzhome_any g (X p) k w hk (hX.out p).1 (hX.out p).2 hc).mono ?_
          rintro e w2 ⟨rfl, hw2⟩
          have hw3 := hw2.symm
          subst hw3
          clear hw2
          by_cases l1 : q < R
          · go_wp2
            go_ret
            exact ⟨⟨_, rfl, fun hb => by cases hb⟩, rfl⟩
          · by_cases l2 : O < q
            · have l1' : decide ((q : Int) < (R : Int)) = false := by simp; omega
              go_wp2
              go_ret
              exact ⟨⟨_, rfl, fun hb => by cases hb⟩, rfl⟩
            · have l1' : decide ((q : Int) < (R : Int)) = false := by simp; omega
              have l2' : decide ((O : Int) < (q : Int)) = false := by simp; omega
              go_wp2
              go_round
              case rel =>
                have hu : H ((z + O) % n) ≠ 0 := by rw [← HP.out]; exact E.out
                have e1 : Tab.off n z (hm k X ((z + O) % n)) = q := by rw [← HP.out]; exact HQ.out.symm
                exact ⟨R, O + 1, by omega, by omega, by omega, rfl, by go_num, Tab.run_used HR.out.1 hu, Tab.good_used HR.out.2 HR.out.1 hu (by rw [e1]; omega) (by rw [e1]; omega)⟩
              case measure => simp [intOf]; omega
      · go_wp2
        go_ret
        have hO : O = n := by omega
        have hG := HR.out.2
        rw [hO] at hG
        exact ⟨⟨_, rfl, fun _ => Or.inr ⟨z, hz, HZ.out, hG⟩⟩, rfl⟩
end Go.Proofs.Qxb6604790a
