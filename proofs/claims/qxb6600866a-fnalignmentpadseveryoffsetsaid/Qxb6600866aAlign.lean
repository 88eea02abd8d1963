/-
  THE WALKS OF alignment (5), ZZalignment (4) AND OF FnAlignmentPadsEveryOffset (3).
-/
import Derived.Test.Qxb6600866aProg
import Derived.WalkKit
import Derived.WalkSpells
namespace Go.Proofs.Qxb6600866a
open Go.RowKit

/-- 1, 2, 4 or 8 -/
def AL (a : Int) : Prop := a = 1 ∨ a = 2 ∨ a = 4 ∨ a = 8

set_option maxHeartbeats 1000000 in
theorem align_any (c : Int) (w : World) : Calls Try.prog 5 #[.int .u8 c] w fun e w' => ∃ a, AL a ∧ e = .returned (.int .i64 a) ∧ w = w' := by
  go_enter Try.func5, Try.ntmps5
  go_wp2
  all_goals
    go_ret
    first
      | exact ⟨1, .inl rfl, rfl, rfl⟩
      | exact ⟨2, .inr (.inl rfl), rfl, rfl⟩
      | exact ⟨4, .inr (.inr (.inl rfl)), rfl, rfl⟩
      | exact ⟨8, .inr (.inr (.inr rfl)), rfl, rfl⟩

theorem zalign_any (c : Int) (w : World) : Calls Try.prog 4 #[.int .u8 c] w fun e w' => ∃ a, AL a ∧ e = .returned (.int .i64 a) ∧ w = w' := by
  go_enter Try.func4, Try.ntmps4
  go_wp2_with fail
  refine (align_any c w).mono ?_
  rintro e w1 ⟨a, ha, rfl, rfl⟩
  go_wp2
  go_ret
  exact ⟨a, ha, rfl, rfl⟩

set_option maxHeartbeats 1000000 in
theorem law3 (c off : Int) (w : World) : Calls Try.prog 3 #[.int .u8 c, .int .i64 off] w fun e w' => e = .returned (.bool true) ∧ w = w' := by
  by_cases h0 : off < 0
  · go_enter Try.func3, Try.ntmps3
    go_wp2
    go_ret
    exact ⟨rfl, rfl⟩
  · by_cases h1 : 1073741824 < off
    · go_enter Try.func3, Try.ntmps3
      go_wp2
      go_ret
      exact ⟨rfl, rfl⟩
    · go_enter Try.func3, Try.ntmps3
      go_wp2_with fail
      refine (zalign_any c w).mono ?_
      rintro e w1 ⟨a, ha, rfl, rfl⟩
      rcases ha with rfl | rfl | rfl | rfl
      all_goals
        go_wp2_with fail
        all_goals
          go_ret
          exact ⟨rfl, rfl⟩

end Go.Proofs.Qxb6600866a
