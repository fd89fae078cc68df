import Derived.Test.Qxb6616029aRows
import Derived.WalkKit
import Derived.WalkSpells
import Derived.WalkLawsBesides
namespace Go.Proofs.Qxb6616029a
open Go.RowKit

/-- What 'isBlank' answers. -/
def blk (c : Int) : Bool := c == 32 || c == 9 || c == 10 || c == 0
/-- What 'isAnchorChar' answers. -/
def anc (c : Int) : Bool := (decide (97 ≤ c) && decide (c ≤ 122)) || (decide (65 ≤ c) && decide (c ≤ 90)) || (decide (48 ≤ c) && decide (c ≤ 57)) || c == 45 || c == 95

theorem ret_bool {a b : Bool} (h : a = b) : Ending.returned (.bool a) = .returned (.bool b) := by rw [h]

theorem isBlank_any (c : Int) (w : World) : Calls Try.prog 9 #[.int .u8 c] w fun e w' => e = .returned (.bool (blk c)) ∧ w' = w := by
  go_enter Try.func9, Try.ntmps9
  go_wp2
  all_goals go_ret
  all_goals simp [blk, *]

theorem isAnchor_any (c : Int) (w : World) : Calls Try.prog 10 #[.int .u8 c] w fun e w' => e = .returned (.bool (anc c)) ∧ w' = w := by
  go_enter Try.func10, Try.ntmps10
  go_wp2
  all_goals go_ret
  all_goals (refine ⟨ret_bool ?_, rfl⟩; rw [Bool.eq_iff_iff]; simp [anc] <;> omega)

theorem zzBlank_any (c : Int) (w : World) : Calls Try.prog 5 #[.int .u8 c] w fun e w' => e = .returned (.bool (blk c)) ∧ w' = w := by
  go_enter Try.func5, Try.ntmps5
  go_wp2_with (go_at_call 9; refine (isBlank_any _ _).mono ?_; rintro e w' ⟨rfl, rfl⟩)
  go_ret
  exact ⟨rfl, rfl⟩

theorem zzAnchor_any (c : Int) (w : World) : Calls Try.prog 6 #[.int .u8 c] w fun e w' => e = .returned (.bool (anc c)) ∧ w' = w := by
  go_enter Try.func6, Try.ntmps6
  go_wp2_with (go_at_call 10; refine (isAnchor_any _ _).mono ?_; rintro e w' ⟨rfl, rfl⟩)
  go_ret
  exact ⟨rfl, rfl⟩
end Go.Proofs.Qxb6616029a
