import Derived.Test.Qxb6616104aRows
import Derived.WalkKit
import Derived.WalkSpells
import Derived.WalkLawsBesides
import Derived.Deep.QuietTactic
import Derived.BigQuiet
namespace Go.Proofs.Qxb6616104a
open Go.RowKit

def code0A : ByteArray := ⟨#[48, 65, 48, 48, 48]⟩
def suffix : ByteArray := ⟨#[32, 105, 115, 32, 110, 111, 116, 32, 115, 117, 112, 112, 111, 114, 116, 101, 100, 32, 121, 101, 116]⟩

theorem at_any (b : Nat) (pos : Int) (what : ByteArray) (w : World) (h : what.size ≤ 65536) :
    Calls Try.prog 18 #[.pointer (some ⟨b, 0, none⟩), .int .i64 pos, .string what] w fun e w' => e = .returned (.iface 48 (.pointer (some ⟨w.heap.size, 0, none⟩))) ∧ w' = w.alloc (.cells #[.string code0A, .string (what ++ suffix), .string ⟨#[]⟩, .string ⟨#[]⟩, .int .i64 pos, .string ⟨#[]⟩] 51) := by
  go_enter Try.func18, Try.ntmps18
  go_wp2
  go_ret
  exact ⟨rfl, rfl⟩

theorem assert_any (a : Addr) (w : World) : (Instr.typeAssert (.iface 48 (.pointer (some a))) 45 48 true).run Try.prog w = .ok (.tuple #[.pointer (some a), .bool true]) w := by kernel_rfl

set_option maxHeartbeats 400000 in
theorem fields_any (b : Nat) (code msg det hint whr : ByteArray) (pos : Int) (w : World)
    (c0 : w.cell? ⟨b, 0, none⟩ = some (.string code)) (c1 : w.cell? ⟨b, 1, none⟩ = some (.string msg)) (c2 : w.cell? ⟨b, 2, none⟩ = some (.string det)) (c3 : w.cell? ⟨b, 3, none⟩ = some (.string hint)) (c4 : w.cell? ⟨b, 4, none⟩ = some (.int .i64 pos)) (c5 : w.cell? ⟨b, 5, none⟩ = some (.string whr)) :
    Calls Try.prog 16 #[.iface 48 (.pointer (some ⟨b, 0, none⟩))] w fun e w' => e = .returned (.tuple #[.bool true, .string code, .string msg, .string det, .string hint, .int .i64 pos, .string whr]) ∧ ∃ n, w' = w.drewN n := by
  have ha := fun w => assert_any ⟨b, 0, none⟩ w
  go_enter Try.func16, Try.ntmps16
  go_wp2
  go_quiet (fail)
  go_wp2
  exact bodyPost_ret (v := .tuple #[.bool true, .string code, .string msg, .string det, .string hint, .int .i64 pos, .string whr]) (by simp [results, Try.results16, go_sem]) rfl ⟨rfl, _, rfl⟩

/-- The error that 'unsupportedAt' lays. -/
def errObj (pos : Int) (what : ByteArray) : Obj := .cells #[.string code0A, .string (what ++ suffix), .string ⟨#[]⟩, .string ⟨#[]⟩, .int .i64 pos, .string ⟨#[]⟩] 51

theorem clause_any (b : Nat) (pos : Int) (what : ByteArray) (w : World) (h : what.size ≤ 65536) (c : w.cell? ⟨b, 10, none⟩ = some (.int .i64 pos)) :
    Calls Try.prog 17 #[.pointer (some ⟨b, 0, none⟩), .string what] w fun e w' => e = .returned (.iface 48 (.pointer (some ⟨w.heap.size, 0, none⟩))) ∧ w' = w.alloc (errObj pos what) := by
  go_enter Try.func17, Try.ntmps17
  go_wp2_with (go_at_call 18; refine (at_any _ _ _ _ h).mono ?_; rintro e w' ⟨rfl, rfl⟩)
  go_ret
  exact ⟨rfl, rfl⟩

theorem zzClause_any (b : Nat) (pos : Int) (what : ByteArray) (w : World) (h : what.size ≤ 65536) (c : w.cell? ⟨b, 10, none⟩ = some (.int .i64 pos)) :
    Calls Try.prog 13 #[.pointer (some ⟨b, 0, none⟩), .string what] w fun e w' => e = .returned (.tuple #[.bool true, .string code0A, .string (what ++ suffix), .string ⟨#[]⟩, .string ⟨#[]⟩, .int .i64 pos, .string ⟨#[]⟩]) ∧ ∃ n, w' = (w.alloc (errObj pos what)).drewN n := by
  have hc := clause_any b pos what w h c
  go_enter Try.func13, Try.ntmps13
  go_wp2_with fail
  refine hc.mono ?_
  clear hc
  rintro e w' ⟨rfl, rfl⟩
  go_wp2_with fail
  refine (fields_any _ code0A (what ++ suffix) ⟨#[]⟩ ⟨#[]⟩ ⟨#[]⟩ pos _ ?c0 ?c1 ?c2 ?c3 ?c4 ?c5).mono ?rest
  case rest =>
    rintro e w' ⟨rfl, n, rfl⟩
    go_wp2
    exact bodyPost_ret (v := .tuple #[.bool true, .string code0A, .string (what ++ suffix), .string ⟨#[]⟩, .string ⟨#[]⟩, .int .i64 pos, .string ⟨#[]⟩]) (by simp [results, Try.results13, go_sem]) rfl ⟨rfl, _, rfl⟩
  all_goals simp [errObj, go_sem]

theorem zzAt_any (b : Nat) (pos : Int) (what : ByteArray) (w : World) (h : what.size ≤ 65536) :
    Calls Try.prog 14 #[.pointer (some ⟨b, 0, none⟩), .int .i64 pos, .string what] w fun e w' => e = .returned (.tuple #[.bool true, .string code0A, .string (what ++ suffix), .string ⟨#[]⟩, .string ⟨#[]⟩, .int .i64 pos, .string ⟨#[]⟩]) ∧ ∃ n, w' = (w.alloc (errObj pos what)).drewN n := by
  go_enter Try.func14, Try.ntmps14
  go_wp2_with fail
  refine (at_any b pos what w h).mono ?_
  rintro e w' ⟨rfl, rfl⟩
  go_wp2_with fail
  refine (fields_any _ code0A (what ++ suffix) ⟨#[]⟩ ⟨#[]⟩ ⟨#[]⟩ pos _ ?c0 ?c1 ?c2 ?c3 ?c4 ?c5).mono ?rest
  case rest =>
    rintro e w' ⟨rfl, n, rfl⟩
    go_wp2
    exact bodyPost_ret (v := .tuple #[.bool true, .string code0A, .string (what ++ suffix), .string ⟨#[]⟩, .string ⟨#[]⟩, .int .i64 pos, .string ⟨#[]⟩]) (by simp [results, Try.results14, go_sem]) rfl ⟨rfl, _, rfl⟩
  all_goals simp [go_sem]
end Go.Proofs.Qxb6616104a
