import Derived.Test.Qxb6616104aRows
import Derived.WalkKit
import Derived.WalkSpells
import Derived.WalkLawsBesides
namespace Go.Proofs.Qxb6616104a
open Go.RowKit

/-- The length test: some bool, no memory. -/
theorem bytesOp_any (a0 : Int) (a1 a2 a3 a4 : ByteArray) (a5 a6 : Bool) (a7 a8 : ByteArray) (a9 a10 a11 : Int) (w : World) (w1 : a1.size ≤ maxLen) (w2 : a2.size ≤ maxLen) (w3 : a3.size ≤ maxLen) (w4 : a4.size ≤ maxLen) (w7 : a7.size ≤ maxLen) (w8 : a8.size ≤ maxLen) :
    Calls Try.prog 5 #[.int .i64 a0, .string a1, .string a2, .string a3, .string a4, .bool a5, .bool a6, .string a7, .string a8, .int .i64 a9, .int .i64 a10, .int .i64 a11] w fun e w' => ∃ b, e = .returned (.bool b) ∧ w' = w := by
  unfold maxLen at *
  go_enter Try.func5, Try.ntmps5
  go_wp2
  all_goals (go_ret; exact ⟨_, rfl, rfl⟩)

/-- The parser that 'ZZnewParser' lays. -/
def laid (kind : Int) (text raw : ByteArray) (quoted : Bool) (pre : ByteArray) (pos depth : Int) : Obj :=
  .cells #[.string ⟨#[]⟩, .int .i64 0, .int .i64 0, .int .i64 0, .int .i64 0, .int .i64 kind, .string text, .string raw, .bool quoted, .string pre, .int .i64 pos, .int .i64 depth] 38

theorem newParser_any (kind : Int) (text raw : ByteArray) (quoted : Bool) (pre : ByteArray) (pos depth : Int) (w : World) :
    Calls Try.prog 6 #[.int .i64 kind, .string text, .string raw, .bool quoted, .string pre, .int .i64 pos, .int .i64 depth] w fun e w' => e = .returned (.pointer (some ⟨w.heap.size, 0, none⟩)) ∧ w' = w.alloc (laid kind text raw quoted pre pos depth) := by
  go_enter Try.func6, Try.ntmps6
  go_wp2
  go_ret
  exact ⟨rfl, rfl⟩

/-- What 'isOp' answers. -/
def opB (kind : Int) (text op : ByteArray) : Bool := kind == 5 && text.toList == op.toList
theorem opB_yes (t o : ByteArray) : (opB 5 t o == (o.toList == t.toList)) = true := by
  rw [beq_iff_eq, Bool.eq_iff_iff, beq_iff_eq]; simp only [opB, BEq.rfl, Bool.true_and, beq_iff_eq]; exact ⟨Eq.symm, Eq.symm⟩
theorem opB_no (k : Int) (t o : ByteArray) (h : ¬ k = 5) : (!opB k t o) = true := by simp [opB, h]
theorem ret_bool {a b : Bool} (h : a = b) : Ending.returned (.bool a) = .returned (.bool b) := by rw [h]

theorem tokIsOp_any (kind : Int) (text raw : ByteArray) (quoted : Bool) (pre : ByteArray) (pos : Int) (op : ByteArray) (w : World) :
    Calls Try.prog 15 #[.agg #[.int .i64 kind, .string text, .string raw, .bool quoted, .string pre, .int .i64 pos], .string op] w fun e w' => e = .returned (.bool (opB kind text op)) ∧ w' = w.alloc (.cells #[.int .i64 kind, .string text, .string raw, .bool quoted, .string pre, .int .i64 pos] 34) := by
  go_enter Try.func15, Try.ntmps15
  go_wp2
  all_goals go_ret
  all_goals simp [opB, *]

theorem parIsOp_any (b : Nat) (kind : Int) (text raw : ByteArray) (quoted : Bool) (pre : ByteArray) (pos : Int) (op : ByteArray) (w : World)
    (c0 : w.cell? ⟨b, 5, none⟩ = some (.int .i64 kind)) (c1 : w.cell? ⟨b, 6, none⟩ = some (.string text)) (c2 : w.cell? ⟨b, 7, none⟩ = some (.string raw)) (c3 : w.cell? ⟨b, 8, none⟩ = some (.bool quoted)) (c4 : w.cell? ⟨b, 9, none⟩ = some (.string pre)) (c5 : w.cell? ⟨b, 10, none⟩ = some (.int .i64 pos)) :
    Calls Try.prog 12 #[.pointer (some ⟨b, 0, none⟩), .string op] w fun e w' => e = .returned (.bool (opB kind text op)) ∧ w' = w.alloc (.cells #[.int .i64 kind, .string text, .string raw, .bool quoted, .string pre, .int .i64 pos] 34) := by
  go_enter Try.func12, Try.ntmps12
  go_wp2_with (go_at_call 15; refine (tokIsOp_any _ _ _ _ _ _ _ _).mono ?_; rintro e w' ⟨rfl, rfl⟩)
  go_ret
  exact ⟨rfl, rfl⟩

theorem zzIsOp_any (b : Nat) (kind : Int) (text raw : ByteArray) (quoted : Bool) (pre : ByteArray) (pos : Int) (op : ByteArray) (w : World)
    (c0 : w.cell? ⟨b, 5, none⟩ = some (.int .i64 kind)) (c1 : w.cell? ⟨b, 6, none⟩ = some (.string text)) (c2 : w.cell? ⟨b, 7, none⟩ = some (.string raw)) (c3 : w.cell? ⟨b, 8, none⟩ = some (.bool quoted)) (c4 : w.cell? ⟨b, 9, none⟩ = some (.string pre)) (c5 : w.cell? ⟨b, 10, none⟩ = some (.int .i64 pos)) :
    Calls Try.prog 7 #[.pointer (some ⟨b, 0, none⟩), .string op] w fun e w' => e = .returned (.bool (opB kind text op)) ∧ w' = w.alloc (.cells #[.int .i64 kind, .string text, .string raw, .bool quoted, .string pre, .int .i64 pos] 34) := by
  have h := parIsOp_any b kind text raw quoted pre pos op w c0 c1 c2 c3 c4 c5
  go_enter Try.func7, Try.ntmps7
  go_wp2_with (go_at_call 12; refine h.mono ?_; rintro e w' ⟨rfl, rfl⟩)
  go_ret
  exact ⟨rfl, rfl⟩

set_option maxHeartbeats 400000 in
theorem isOp_bad (a0 : Int) (a1 a2 a3 a4 : ByteArray) (a5 a6 : Bool) (a7 a8 : ByteArray) (a9 a10 a11 : Int) (w : World) (w1 : a1.size ≤ maxLen) (w2 : a2.size ≤ maxLen) (w3 : a3.size ≤ maxLen) (w4 : a4.size ≤ maxLen) (w7 : a7.size ≤ maxLen) (w8 : a8.size ≤ maxLen)
    (hbad : ¬ (a1.size ≤ 65536 ∧ a2.size ≤ 65536 ∧ a3.size ≤ 65536 ∧ a4.size ≤ 65536 ∧ a7.size ≤ 65536 ∧ a8.size ≤ 65536 ∧ 0 ≤ a0 ∧ a0 ≤ 5 ∧ 1 ≤ a9 ∧ 1 ≤ a10 ∧ 0 ≤ a11 ∧ a11 ≤ 65536)) :
    Calls Try.prog 3 #[.int .i64 a0, .string a1, .string a2, .string a3, .string a4, .bool a5, .bool a6, .string a7, .string a8, .int .i64 a9, .int .i64 a10, .int .i64 a11] w fun e w' => e = .returned (.bool true) ∧ Grown w w' := by
  have HB : Hid (¬ (a1.size ≤ 65536 ∧ a2.size ≤ 65536 ∧ a3.size ≤ 65536 ∧ a4.size ≤ 65536 ∧ a7.size ≤ 65536 ∧ a8.size ≤ 65536 ∧ 0 ≤ a0 ∧ a0 ≤ 5 ∧ 1 ≤ a9 ∧ 1 ≤ a10 ∧ 0 ≤ a11 ∧ a11 ≤ 65536)) := hbad
  clear hbad
  have h := bytesOp_any a0 a1 a2 a3 a4 a5 a6 a7 a8 a9 a10 a11 w w1 w2 w3 w4 w7 w8
  unfold maxLen at *
  go_enter Try.func3, Try.ntmps3
  go_wp2_with fail
  refine h.mono ?_
  clear h
  rintro e w' ⟨b, rfl, rfl⟩
  cases b
  · go_wp2
    go_ret
    exact ⟨rfl, Grown.refl _⟩
  · go_wp2_with fail
    all_goals first | (exfalso; have := HB.out; omega) | (go_ret; exact ⟨rfl, Grown.refl _⟩)

set_option maxHeartbeats 400000 in
theorem isOp_good (a0 : Int) (a1 a2 a3 a4 : ByteArray) (a5 a6 : Bool) (a7 a8 : ByteArray) (a9 a10 a11 : Int) (w : World)
    (w1 : a1.size ≤ 65536) (w2 : a2.size ≤ 65536) (w3 : a3.size ≤ 65536) (w4 : a4.size ≤ 65536) (w7 : a7.size ≤ 65536) (w8 : a8.size ≤ 65536) (w0 : 0 ≤ a0) (w0' : a0 ≤ 5) (w9 : 1 ≤ a9) (w10 : 1 ≤ a10) (w11 : 0 ≤ a11) (w11' : a11 ≤ 65536) :
    Calls Try.prog 3 #[.int .i64 a0, .string a1, .string a2, .string a3, .string a4, .bool a5, .bool a6, .string a7, .string a8, .int .i64 a9, .int .i64 a10, .int .i64 a11] w fun e w' => e = .returned (.bool true) ∧ Grown w w' := by
  have h := bytesOp_any a0 a1 a2 a3 a4 a5 a6 a7 a8 a9 a10 a11 w (by unfold maxLen; omega) (by unfold maxLen; omega) (by unfold maxLen; omega) (by unfold maxLen; omega) (by unfold maxLen; omega) (by unfold maxLen; omega)
  go_enter Try.func3, Try.ntmps3
  go_wp2_with fail
  refine h.mono ?_
  clear h
  rintro e w' ⟨b, rfl, rfl⟩
  cases b
  · go_wp2
    go_ret
    exact ⟨rfl, Grown.refl _⟩
  · go_wp2_with (first | (go_at_call 6; refine (newParser_any _ _ _ _ _ _ _ _).mono ?_; rintro e w' ⟨rfl, rfl⟩; unfold laid))
    refine (zzIsOp_any _ a0 a1 a3 a5 a7 a9 a2 _ ?c0 ?c1 ?c2 ?c3 ?c4 ?c5).mono ?rest
    case rest =>
      rintro e w' ⟨rfl, rfl⟩
      go_wp2_with fail
      refine (zzIsOp_any _ a0 a1 a4 a6 a8 a10 a2 _ ?d0 ?d1 ?d2 ?d3 ?d4 ?d5).mono ?rest2
      case rest2 =>
        rintro e w' ⟨rfl, rfl⟩
        go_wp2
        · go_ret
          exact ⟨ret_bool (opB_yes a1 a2), by repeat (first | exact Grown.refl _ | apply Grown.alloc)⟩
        · go_ret
          exact ⟨ret_bool (opB_no a0 a1 a2 ‹_›), by repeat (first | exact Grown.refl _ | apply Grown.alloc)⟩
      all_goals go_simp
    all_goals go_simp

end Go.Proofs.Qxb6616104a
