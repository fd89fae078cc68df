import Derived.Test.Qxb6616104aClause
namespace Go.Proofs.Qxb6616104a
open Go.RowKit

/-- Nothing that was there has turned, and nothing new is marked. -/
structure Kept (w w' : World) : Prop where
  bel : Below w.heap.size w w'
  fz : ∀ a, w'.frozen? a = w.frozen? a

theorem Kept.refl (w : World) : Kept w w := ⟨Below.refl _ _, fun _ => rfl⟩
theorem Kept.trans {a b c : World} (h : Kept a b) (k : Kept b c) : Kept a c := ⟨h.bel.trans (k.bel.mono h.bel.size), fun x => (k.fz x).trans (h.fz x)⟩
theorem Kept.alloc {w w' : World} (h : Kept w w') (c : Array Value) (t : TypeId) : Kept w (w'.alloc (.cells c t)) := ⟨h.bel.alloc h.bel.size _, fun a => (frozen?_alloc_cells _ _ _ _).trans (h.fz a)⟩
theorem Kept.drewN {w w' : World} (h : Kept w w') (n : Nat) : Kept w (w'.drewN n) := ⟨below_drewN h.bel n, h.fz⟩
theorem Kept.drew {w w' : World} (h : Kept w w') : Kept w w'.drew := ⟨h.bel.drew, h.fz⟩
theorem Kept.grown {w w' : World} (h : Kept w w') : Grown w w' := ⟨h.bel.frame _, h.fz, h.bel.size⟩
theorem Kept.setCell {w w' : World} (h : Kept w w') {a : Addr} (ha : w.heap.size ≤ a.block) (v : Value) : Kept w (w'.setCell a v) := ⟨h.bel.setCell ha v, ((h.grown).setCell ha v).2.1⟩

/-- A law that the walk lacks: draws move outward over a store (the twin of 'World.setCell_drew'). -/
theorem setCell_drewN (w : World) (n : Nat) (a : Addr) (v : Value) : (w.drewN n).setCell a v = (w.setCell a v).drewN n := rfl
attribute [local go_sem] setCell_drewN

/-- The parser that 'ZZnewParser' lays. -/
theorem newPar_any (kind : Int) (text raw : ByteArray) (quoted : Bool) (pre : ByteArray) (pos depth : Int) (w : World) :
    Calls Try.prog 6 #[.int .i64 kind, .string text, .string raw, .bool quoted, .string pre, .int .i64 pos, .int .i64 depth] w fun e w' => e = .returned (.pointer (some ⟨w.heap.size, 0, none⟩)) ∧
      w' = w.alloc (.cells #[.string ⟨#[]⟩, .int .i64 0, .int .i64 0, .int .i64 0, .int .i64 0, .int .i64 kind, .string text, .string raw, .bool quoted, .string pre, .int .i64 pos, .int .i64 depth] 38) := by
  go_enter Try.func6, Try.ntmps6
  go_wp2
  go_ret
  exact ⟨rfl, rfl⟩

/-- The record that the law compares. -/
def rec7 (pos : Int) (msg : ByteArray) : Array Value := #[.bool true, .string code0A, .string msg, .string ⟨#[]⟩, .string ⟨#[]⟩, .int .i64 pos, .string ⟨#[]⟩]

theorem want_any (pos : Int) (msg : ByteArray) (w : World) :
    Calls Try.prog 11 #[.int .i64 pos, .string msg] w fun e w' => e = .returned (.agg (rec7 pos msg)) ∧ w' = w.alloc (.cells (rec7 pos msg) 28) := by
  go_enter Try.func11, Try.ntmps11
  go_wp2
  exact bodyPost_ret (v := .agg (rec7 pos msg)) (by simp [results, Try.results11, go_sem, rec7, code0A]) rfl ⟨rfl, rfl⟩

theorem b1Clause_any (kind : Int) (text : ByteArray) (pos : Int) (what : ByteArray) (w : World) (h : what.size ≤ 65536) :
    Calls Try.prog 9 #[.int .i64 kind, .string text, .int .i64 pos, .string what] w fun e w' => e = .returned (.agg (rec7 pos (what ++ suffix))) ∧ Kept w w' := by
  go_enter Try.func9, Try.ntmps9
  go_wp2_with (go_at_call 6; refine (newPar_any _ _ _ _ _ _ _ _).mono ?_; rintro e w' ⟨rfl, rfl⟩)
  refine (zzClause_any _ pos what _ h ?c).mono ?rest
  case rest =>
    rintro e w' ⟨rfl, n, rfl⟩
    unfold errObj
    go_wp2
    refine bodyPost_ret (v := .agg (rec7 pos (what ++ suffix))) (by simp [results, Try.results9, go_sem, rec7]) rfl ⟨rfl, ?_⟩
    exact ((((Kept.refl w).alloc _ _).alloc _ _).alloc _ _).drewN n
  go_simp

theorem b1At_any (kind : Int) (text : ByteArray) (tpos pos : Int) (what : ByteArray) (w : World) (h : what.size ≤ 65536) :
    Calls Try.prog 10 #[.int .i64 kind, .string text, .int .i64 tpos, .int .i64 pos, .string what] w fun e w' => e = .returned (.agg (rec7 pos (what ++ suffix))) ∧ Kept w w' := by
  go_enter Try.func10, Try.ntmps10
  go_wp2_with (first | (go_at_call 6; refine (newPar_any _ _ _ _ _ _ _ _).mono ?_; rintro e w' ⟨rfl, rfl⟩) | (go_at_call 14; refine (zzAt_any _ _ _ _ h).mono ?_; rintro e w' ⟨rfl, n, rfl⟩; unfold errObj))
  refine bodyPost_ret (v := .agg (rec7 pos (what ++ suffix))) (by simp [results, Try.results10, go_sem, rec7]) rfl ⟨rfl, ?_⟩
  exact ((((Kept.refl w).alloc _ _).alloc _ _).alloc _ _).drewN _

/-- The length test: some bool, no memory. -/
theorem bytesCl_any (a0 : Int) (a1 : ByteArray) (a2 : Int) (a3 : ByteArray) (a4 a5 : Int) (a6 : ByteArray) (w : World) (w1 : a1.size ≤ maxLen) (w3 : a3.size ≤ maxLen) (w6 : a6.size ≤ maxLen) :
    Calls Try.prog 8 #[.int .i64 a0, .string a1, .int .i64 a2, .string a3, .int .i64 a4, .int .i64 a5, .string a6] w fun e w' => ∃ b, e = .returned (.bool b) ∧ w' = w := by
  unfold maxLen at *
  go_enter Try.func8, Try.ntmps8
  go_wp2
  all_goals (go_ret; exact ⟨_, rfl, rfl⟩)

theorem neq_same (pos : Int) (msg : ByteArray) (w : World) : (binOp .neq 28 (.agg (rec7 pos msg)) (.agg (rec7 pos msg))).run Try.prog w = .ok (.bool false) w := by
  unfold rec7
  go_simp
theorem eql_same (pos : Int) (msg : ByteArray) (w : World) : (binOp .eql 28 (.agg (rec7 pos msg)) (.agg (rec7 pos msg))).run Try.prog w = .ok (.bool true) w := by
  unfold rec7
  go_simp
end Go.Proofs.Qxb6616104a
