import Derived.Test.Qxb6616104aMade
import Derived.Deep.RegionWith
namespace Go.Proofs.Qxb6616104a
open Go.RowKit
attribute [local go_sem] setCell_drewN

/-- A record that lies in a block of its own, cell by cell. -/
structure Holds7 (w : World) (b : Nat) (pos : Int) (msg : ByteArray) : Prop where
  lt : b < w.heap.size
  c0 : w.cell? ⟨b, 0, none⟩ = some (.bool true)
  c1 : w.cell? ⟨b, 1, none⟩ = some (.string code0A)
  c2 : w.cell? ⟨b, 2, none⟩ = some (.string msg)
  c3 : w.cell? ⟨b, 3, none⟩ = some (.string ⟨#[]⟩)
  c4 : w.cell? ⟨b, 4, none⟩ = some (.string ⟨#[]⟩)
  c5 : w.cell? ⟨b, 5, none⟩ = some (.int .i64 pos)
  c6 : w.cell? ⟨b, 6, none⟩ = some (.string ⟨#[]⟩)

theorem Holds7.new (w : World) (pos : Int) (msg : ByteArray) : Holds7 (w.alloc (.cells (rec7 pos msg) 28)) w.heap.size pos msg := by
  constructor <;> simp [rec7, go_sem]

/-- It reads so in every later world. -/
theorem Holds7.later {w w' : World} {b : Nat} {pos : Int} {msg : ByteArray} (q : Holds7 w b pos msg) (h : Kept w w') : Holds7 w' b pos msg :=
  ⟨Nat.lt_of_lt_of_le q.lt h.bel.size, (h.bel.cell (p := ⟨b, 0, none⟩) q.lt).trans q.c0, (h.bel.cell (p := ⟨b, 1, none⟩) q.lt).trans q.c1, (h.bel.cell (p := ⟨b, 2, none⟩) q.lt).trans q.c2, (h.bel.cell (p := ⟨b, 3, none⟩) q.lt).trans q.c3,
    (h.bel.cell (p := ⟨b, 4, none⟩) q.lt).trans q.c4, (h.bel.cell (p := ⟨b, 5, none⟩) q.lt).trans q.c5, (h.bel.cell (p := ⟨b, 6, none⟩) q.lt).trans q.c6⟩

set_option maxHeartbeats 4000000 in
theorem clause_good (a0 : Int) (a1 : ByteArray) (a2 : Int) (a3 : ByteArray) (a4 a5 : Int) (a6 : ByteArray) (w : World)
    (w1 : a1.size ≤ 65536) (w3 : a3.size ≤ 65536) (w6 : a6.size ≤ 65536) (g0 : 0 ≤ a0) (g0' : a0 ≤ 5) (g2 : 0 ≤ a2) (g2' : a2 ≤ 5) (g4 : 1 ≤ a4) (g5 : 1 ≤ a5) :
    Calls Try.prog 4 #[.int .i64 a0, .string a1, .int .i64 a2, .string a3, .int .i64 a4, .int .i64 a5, .string a6] w fun e w' => e = .returned (.bool true) ∧ Grown w w' := by
  have h := bytesCl_any a0 a1 a2 a3 a4 a5 a6 w (by unfold maxLen; omega) (by unfold maxLen; omega) (by unfold maxLen; omega)
  go_enter Try.func4, Try.ntmps4
  go_wp2_with fail
  refine h.mono ?_
  clear h
  rintro e w' ⟨b, rfl, rfl⟩
  cases b
  · go_wp2
    go_ret
    exact ⟨rfl, Grown.refl _⟩
  · go_wp2_with fail
    refine (b1Clause_any a0 a1 a4 a6 _ w6).mono ?_
    rintro e v1 ⟨rfl, k1⟩
    unfold rec7
    go_wp2_with fail
    refine (b1Clause_any a2 a3 a4 a6 _ w6).mono ?_
    rintro e v2 ⟨rfl, k2⟩
    unfold rec7
    go_wp2_with fail
    refine (b1At_any a0 a1 a4 a4 a6 _ w6).mono ?_
    rintro e v3 ⟨rfl, k3⟩
    unfold rec7
    go_wp2_with fail
    refine (b1At_any a0 a1 a4 a5 a6 _ w6).mono ?_
    rintro e v4 ⟨rfl, k4⟩
    unfold rec7
    go_wp2_with fail
    have q1 : Holds7 v4 v1.heap.size a4 (a6 ++ suffix) := ((((Holds7.new v1 a4 (a6 ++ suffix)).later k2).later ((Kept.refl v2).alloc _ _)).later k3).later (((Kept.refl v3).alloc _ _).trans k4)
    have q2 : Holds7 v4 v2.heap.size a4 (a6 ++ suffix) := ((Holds7.new v2 a4 (a6 ++ suffix)).later k3).later (((Kept.refl v3).alloc _ _).trans k4)
    have q3 : Holds7 v4 v3.heap.size a4 (a6 ++ suffix) := (Holds7.new v3 a4 (a6 ++ suffix)).later k4
    have k : Kept w' v4 := (((((k1.alloc _ _).trans k2).alloc _ _).trans k3).alloc _ _).trans k4
    clear k1 k2 k3 k4
    obtain ⟨z1, c10, c11, c12, c13, c14, c15, c16⟩ := q1
    obtain ⟨z2, c20, c21, c22, c23, c24, c25, c26⟩ := q2
    obtain ⟨z3, c30, c31, c32, c33, c34, c35, c36⟩ := q3
    unfold suffix code0A at *
    generalize v1.heap.size = b1 at *
    generalize v2.heap.size = b2 at *
    generalize v3.heap.size = b3 at *
    go_region_with (go_at_call 11; refine (want_any _ _ _).mono ?_; rintro e w' ⟨rfl, rfl⟩; unfold rec7 code0A)
    all_goals go_wp2_with fail
    all_goals clear c10 c11 c13 c14 c15 c16 c20 c21 c22 c23 c24 c25 c26 c30 c31 c32 c33 c34 c35 c36 z2 z3 w1 w3 g0 g0' g2 g2' g4 g5
    all_goals go_region_with (go_at_call 11; refine (want_any _ _ _).mono ?_; rintro e w' ⟨rfl, rfl⟩; unfold rec7 code0A)
    all_goals go_wp2
    all_goals go_ret
    all_goals exact ⟨rfl, Kept.grown (by repeat (first | exact k | apply Kept.drew | refine Kept.alloc ?_ _ _))⟩

set_option maxHeartbeats 400000 in
theorem clause_bad (a0 : Int) (a1 : ByteArray) (a2 : Int) (a3 : ByteArray) (a4 a5 : Int) (a6 : ByteArray) (w : World) (w1 : a1.size ≤ maxLen) (w3 : a3.size ≤ maxLen) (w6 : a6.size ≤ maxLen)
    (hbad : ¬ (a1.size ≤ 65536 ∧ a3.size ≤ 65536 ∧ a6.size ≤ 65536 ∧ 0 ≤ a0 ∧ a0 ≤ 5 ∧ 0 ≤ a2 ∧ a2 ≤ 5 ∧ 1 ≤ a4 ∧ 1 ≤ a5)) :
    Calls Try.prog 4 #[.int .i64 a0, .string a1, .int .i64 a2, .string a3, .int .i64 a4, .int .i64 a5, .string a6] w fun e w' => e = .returned (.bool true) ∧ Grown w w' := by
  have HB : Hid (¬ (a1.size ≤ 65536 ∧ a3.size ≤ 65536 ∧ a6.size ≤ 65536 ∧ 0 ≤ a0 ∧ a0 ≤ 5 ∧ 0 ≤ a2 ∧ a2 ≤ 5 ∧ 1 ≤ a4 ∧ 1 ≤ a5)) := hbad
  clear hbad
  have h := bytesCl_any a0 a1 a2 a3 a4 a5 a6 w w1 w3 w6
  unfold maxLen at *
  go_enter Try.func4, Try.ntmps4
  go_wp2_with fail
  refine h.mono ?_
  clear h
  rintro e w' ⟨b, rfl, rfl⟩
  cases b
  · go_wp2
    go_ret
    exact ⟨rfl, Grown.refl _⟩
  · go_wp2_with fail
    all_goals first | (exfalso; have := HB.out; omega) | (go_ret; exact ⟨rfl, Grown.refl _⟩)
end Go.Proofs.Qxb6616104a
