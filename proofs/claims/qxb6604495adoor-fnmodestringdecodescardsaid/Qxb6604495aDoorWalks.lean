/-
  The walks on the road of FnModeStringDecodes.
-/
import Derived.Test.Qxb6604495aDoorItoa
import Derived.Test.Qxb6604495aDoorPlain
import Derived.WalkKit
import Derived.WalkSpells
import Derived.WalkLawsBesides
import Derived.Outline
namespace Go.Proofs.Qxb6604495aDoor
open Go.RowKit Go.Lib

theorem mode_0 (w : World) : Calls Tryd.prog 10 #[.int .i64 0] w fun e w' => e = .returned (.string ⟨#[101, 120, 99, 108, 117, 115, 105, 118, 101]⟩) ∧ w' = w := by
  go_enter Tryd.func10, Tryd.ntmps10
  go_wp2
  go_ret
  exact ⟨rfl, rfl⟩
theorem mode_1 (w : World) : Calls Tryd.prog 10 #[.int .i64 1] w fun e w' => e = .returned (.string ⟨#[115, 104, 97, 114, 101, 100]⟩) ∧ w' = w := by
  go_enter Tryd.func10, Tryd.ntmps10
  go_wp2
  go_ret
  exact ⟨rfl, rfl⟩

set_option maxHeartbeats 400000 in
theorem mode_n (n : Int) (h0 : -9223372036854775808 ≤ n) (h1 : n ≤ 9223372036854775807) (e0 : (n == 0) = false) (e1 : (n == 1) = false) (w : World) (htab : TabIs Tryd.prog w powName .u64 pow10Tab) :
    Calls Tryd.prog 10 #[.int .i64 n] w fun e w' => (∃ s : ByteArray, e = .returned (.string s) ∧ s.data.toList = [77, 111, 100, 101, 40] ++ itoa n ++ [41]) ∧ Below w.heap.size w w' := by
  have hl := Num.itoa_len n h0 h1
  go_enter Tryd.func10, Tryd.ntmps10
  go_wp2_with (go_at_call 12; refine (itoa_any n h0 h1 _ htab).mono ?_; rintro e w' ⟨rfl, hb⟩)
  go_ret
  exact ⟨⟨_, rfl, by simp⟩, hb⟩

end Go.Proofs.Qxb6604495aDoor
