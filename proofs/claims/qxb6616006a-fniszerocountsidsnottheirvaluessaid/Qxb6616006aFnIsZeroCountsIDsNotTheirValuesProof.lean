/-
  'Rows.FnIsZeroCountsIDsNotTheirValuesSaid' PROVED.
  The frame (own, laidOut, IsRow, lifted, over) is the seat's given shell; the callees' contracts and the walk are the prover's.
-/
import Derived.Test.Qxb6616006aRows
import Derived.WalkKit
import Derived.ProofKit
import Derived.OpenShut
import Derived.ShutString
import Derived.ChangeOld
import Derived.Below
import Derived.WalkSpells
import Derived.WalkLawsBesides
import Derived.Deep.OwnRows
namespace Go.Proofs.Qxb6616006a.fnIsZeroCountsIDsNotTheirValues
open Go.ChangeShapes Go.WideShapes Go.ChangeAt Go.RowKit
open Go.ChangeMaps (open_string shut_string)
set_option linter.unusedVariables false

theorem own : ownKnob Try.prog.godebug = none := by kernel_rfl
theorem laidOut : laidOutB Try.prog = true := by kernel_rfl

/-- WHAT THE WALK IS TOLD OF A SLICE OF INTEGERS THAT CAME IN: it is nil; or it leads to a row of 'cap' cells, the numbers 'zs' (the first 'len' are its elements, the rest its spare room), each fitting its kind. -/
def IsRow (k : IntKind) (w : World) (a : Option Addr) (len cap : Nat) (zs : List Int) : Prop :=
  (a = none ∧ len = 0 ∧ cap = 0 ∧ zs = []) ∨
  ∃ x, a = some x ∧ len ≤ cap ∧ cap ≤ maxLen ∧ zs.length = cap ∧ (∀ i, i < zs.length → w.cell? (x.add i) = some (.int k (zs.getD i 0))) ∧ ∀ n ∈ zs, (Lit.int k n).wf = true

/-! ### THE CALLEES -/
/-- The length test: some bool, no memory. -/
theorem bytes_any (a0 a1 a2 : ByteArray) (a3 : Int) (a4 : Option Addr) (len4 cap4 : Nat) (w : World) (w0 : a0.size ≤ maxLen) (w1 : a1.size ≤ maxLen) (w2 : a2.size ≤ maxLen) (w4 : len4 ≤ maxLen) :
    Calls Try.prog 4 #[.string a0, .string a1, .string a2, .int .i64 a3, .slice a4 len4 cap4] w fun e w' => ∃ b, e = .returned (.bool b) ∧ w' = w := by
  unfold maxLen at *
  go_enter Try.func4, Try.ntmps4
  go_wp2
  all_goals (go_ret; exact ⟨_, rfl, rfl⟩)

/-- What 'IsZero' answers: no field but the ids is set, and there are no ids. -/
def isZ (q k e : ByteArray) (s : Int) (len : Nat) : Bool := (q.toList.isEmpty && k.toList.isEmpty && e.toList.isEmpty && (s == 0)) && ((len : Int) == 0)

theorem isZero_any (q k e : ByteArray) (s : Int) (a : Option Addr) (len cap : Nat) (w : World) :
    Calls Try.prog 5 #[.agg #[.string q, .string k, .string e, .int .i64 s, .slice a len cap]] w fun e' w' => e' = .returned (.bool (isZ q k e s len)) ∧ w' = w.alloc (.cells #[.string q, .string k, .string e, .int .i64 s, .slice a len cap] 26) := by
  go_enter Try.func5, Try.ntmps5
  go_wp2
  all_goals go_ret
  all_goals simp [isZ, *]

theorem isZ_empty : isZ ⟨#[]⟩ ⟨#[]⟩ ⟨#[]⟩ 0 0 = true := by decide +kernel
theorem isZ_some (q k e : ByteArray) (s : Int) (len : Nat) (h : ¬ len = 0) : (!isZ q k e s len) = true := by simp [isZ, h]
theorem ret_bool {a b : Bool} (h : a = b) : Ending.returned (.bool a) = .returned (.bool b) := by rw [h]
theorem info2 : (Try.prog.info? 2).map (fun i => (i.zero, i.size, i.bytes)) = some (some (.int .i64 0), 1, 8) := by kernel_rfl

/-! ### STEP 1: THE WALK: within the length tests; outside them; then both, nil or not -/
set_option maxHeartbeats 400000 in
theorem walk_good (a0 a1 a2 : ByteArray) (a3 : Int) (a4 : Option Addr) (len4 cap4 : Nat) (w : World) (w0 : a0.size ≤ 262144) (w1 : a1.size ≤ 262144) (w2 : a2.size ≤ 262144) (h4 : len4 ≤ 32768) (hl : len4 ≤ cap4) (hm : cap4 ≤ maxLen) (hnil : a4 = none → cap4 = 0) :
    Calls Try.prog 3 #[.string a0, .string a1, .string a2, .int .i64 a3, .slice a4 len4 cap4] w fun e w' => e = .returned (.bool true) ∧ Below w.heap.size w w' := by
  unfold maxLen at *
  have hz := isZ_empty
  have hmk := run_make_row' (P := Try.prog) 22 2 (.int .i64 0) 8 Try.underlying22 info2 rfl .i64 .i64 len4 (by omega) (by omega)
  cases a4 with
  | none =>
    obtain rfl : cap4 = 0 := hnil rfl
    obtain rfl : len4 = 0 := by omega
    clear hnil hmk
    have hmk : ∀ w : World, (Instr.makeSlice 22 (.int .i64 0) (.int .i64 0)).run Try.prog w = .ok (.slice (some ⟨w.heap.size, 0, none⟩) 0 0) (w.alloc (.cells (madeCells #[.int .i64 0] 0) 2)) :=
      run_make_row' (P := Try.prog) 22 2 (.int .i64 0) 8 Try.underlying22 info2 rfl .i64 .i64 0 (by omega) (by omega)
    go_enter Try.func3, Try.ntmps3
    go_wp2_with fail
    refine (bytes_any a0 a1 a2 a3 none 0 0 _ (by unfold maxLen; omega) (by unfold maxLen; omega) (by unfold maxLen; omega) (by unfold maxLen; omega)).mono ?_
    rintro e w' ⟨b, rfl, rfl⟩
    cases b
    · go_wp2
      go_ret
      exact ⟨rfl, Below.refl _ _⟩
    · go_wp2_with (first | (go_at_call 5; refine (isZero_any _ _ _ _ _ _ _ _).mono ?_; rintro e w' ⟨rfl, rfl⟩))
      all_goals go_ret
      all_goals refine ⟨?_, by repeat (first | exact Below.refl _ _ | refine Below.alloc ?_ (by simp <;> omega) _)⟩
      all_goals first | rfl | (exact ret_bool (isZ_some _ _ _ _ _ ‹_›))
  | some x =>
    clear hnil
    go_enter Try.func3, Try.ntmps3
    go_wp2_with fail
    refine (bytes_any a0 a1 a2 a3 (some x) len4 cap4 _ (by unfold maxLen; omega) (by unfold maxLen; omega) (by unfold maxLen; omega) (by unfold maxLen; omega)).mono ?_
    rintro e w' ⟨b, rfl, rfl⟩
    cases b
    · go_wp2
      go_ret
      exact ⟨rfl, Below.refl _ _⟩
    · go_wp2_with (first | (go_at_call 5; refine (isZero_any _ _ _ _ _ _ _ _).mono ?_; rintro e w' ⟨rfl, rfl⟩))
      all_goals go_ret
      all_goals refine ⟨?_, by repeat (first | exact Below.refl _ _ | refine Below.alloc ?_ (by simp <;> omega) _)⟩
      all_goals first | rfl | (exact ret_bool (isZ_some _ _ _ _ _ ‹_›))

set_option maxHeartbeats 400000 in
theorem walk_bad (a0 a1 a2 : ByteArray) (a3 : Int) (a4 : Option Addr) (len4 cap4 : Nat) (w : World) (w0 : a0.size ≤ maxLen) (w1 : a1.size ≤ maxLen) (w2 : a2.size ≤ maxLen) (h4 : len4 ≤ maxLen) (hbad : 262144 < a0.size ∨ 262144 < a1.size ∨ 262144 < a2.size ∨ 32768 < len4) :
    Calls Try.prog 3 #[.string a0, .string a1, .string a2, .int .i64 a3, .slice a4 len4 cap4] w fun e w' => e = .returned (.bool true) ∧ Below w.heap.size w w' := by
  go_enter Try.func3, Try.ntmps3
  go_wp2_with fail
  refine (bytes_any a0 a1 a2 a3 a4 len4 cap4 _ w0 w1 w2 h4).mono ?_
  unfold maxLen at *
  rintro e w' ⟨b, rfl, rfl⟩
  cases b
  · go_wp2
    go_ret
    exact ⟨rfl, Below.refl _ _⟩
  · go_wp2
    all_goals first | (exfalso; omega) | (go_ret; exact ⟨rfl, Below.refl _ _⟩)

theorem walk (a0 : ByteArray) (a1 : ByteArray) (a2 : ByteArray) (a3 : Int) (a4 : Option Addr) (len4 cap4 : Nat) (z4 : List Int) (w : World) (w0 : a0.size ≤ maxLen) (w1 : a1.size ≤ maxLen) (w2 : a2.size ≤ maxLen) (w3 : (Lit.int .i64 a3).wf = true) (w4 : IsRow .i64 w a4 len4 cap4 z4) :
    Calls Try.prog 3 #[.string a0, .string a1, .string a2, .int .i64 a3, .slice a4 len4 cap4] w fun e w' => e = .returned (.bool true) ∧ Below w.heap.size w w' := by
  have hl : len4 ≤ cap4 ∧ cap4 ≤ maxLen ∧ (a4 = none → cap4 = 0) := by
    rcases w4 with ⟨rfl, rfl, rfl, rfl⟩ | ⟨x, rfl, h1, h2, _⟩
    · exact ⟨Nat.le_refl _, Nat.zero_le _, fun _ => rfl⟩
    · exact ⟨h1, h2, fun h => by cases h⟩
  obtain ⟨hl, hm, hnil⟩ := hl
  by_cases hb : 262144 < a0.size ∨ 262144 < a1.size ∨ 262144 < a2.size ∨ 32768 < len4
  · exact walk_bad a0 a1 a2 a3 a4 len4 cap4 w w0 w1 w2 (Nat.le_trans hl hm) hb
  · exact walk_good a0 a1 a2 a3 a4 len4 cap4 w (by omega) (by omega) (by omega) (by omega) hl hm hnil

/-! ### THE ROW's STEP: WRITTEN OUT: LEAVE IT -/
set_option maxRecDepth 100000 in
theorem lifted (os : Os) (started : os.Started) (H : Type) (enc : TypeId × Value → H) :
    ReturnsInHanded {} Try.checked os 3 .any (Rows.fnIsZeroCountsIDsNotTheirValuesSpec.pre6 enc Try.prog Try.f3 Rows.fnIsZeroCountsIDsNotTheirValuesRow.domain false) (Rows.fnIsZeroCountsIDsNotTheirValuesSpec.post enc Try.prog Try.f3 false true false false) := by
  refine returnsInHanded_of_change (C := Try.checked) own started (by kernel_rfl) Try.func3
    (ChangeSpec.witness6 (enc := enc) (C := Try.checked) false ⟨#[], #[.string ByteArray.empty, .string ByteArray.empty, .string ByteArray.empty, .int .i64 0, .slice none 0 0], []⟩ 8 (by kernel_rfl) (by kernel_rfl) (by kernel_rfl) (by kernel_rfl)) ?_
  intro W base args ds gs before hval0 hW hcnd _
  have hval : ∀ (j : Nat) t v, Try.f3.params[j]? = some t → args[j]? = some v → Value.okWide Try.prog W .any base t v := hval0
  have hW' := hW
  obtain ⟨p, q, hA0, hV, rfl, hfz, hnd⟩ := hW
  have hA : DataW.TrodAll enc Try.prog W 0 (fun _ => true) true Try.f3.params.toList args.toList ds p := hA0
  rw [Try.params3] at hA hval
  obtain ⟨v0, vs0, d0, ds0, p0, q0, hargs, rfl, rfl, h0, r0⟩ := trodAll_cons hA
  obtain ⟨v1, vs1, d1, ds1, p1, q1, rfl, rfl, rfl, h1, r1⟩ := trodAll_cons r0
  obtain ⟨v2, vs2, d2, ds2, p2, q2, rfl, rfl, rfl, h2, r2⟩ := trodAll_cons r1
  obtain ⟨v3, vs3, d3, ds3, p3, q3, rfl, rfl, rfl, h3, r3⟩ := trodAll_cons r2
  obtain ⟨v4, vs4, d4, ds4, p4, q4, rfl, rfl, rfl, h4, r4⟩ := trodAll_cons r3
  obtain ⟨rfl, rfl, rfl⟩ := trodAll_nil r4
  obtain rfl : args = #[v0, v1, v2, v3, v4] := by cases args; simp_all
  obtain ⟨rfl, rfl⟩ := trodVars_none hV
  obtain ⟨a0, rfl, rfl, rfl, w0⟩ := open_string Try.underlying9 (hval 0 9 v0 rfl rfl) h0
  obtain ⟨a1, rfl, rfl, rfl, w1⟩ := open_string Try.underlying9 (hval 1 9 v1 rfl rfl) h1
  obtain ⟨a2, rfl, rfl, rfl, w2⟩ := open_string Try.underlying9 (hval 2 9 v2 rfl rfl) h2
  obtain ⟨a3, rfl, rfl, rfl, w3⟩ := open_int Try.underlying2 (hval 3 2 v3 rfl rfl) h3
  obtain ⟨a4, len4, cap4, rfl⟩ := okWide_slice Try.underlying22 (hval 4 22 v4 rfl rfl)
  have k4 := h4
  have lt4 : ∀ x ∈ p4, x.block < W.heap.size := by obtain ⟨m, hm⟩ := k4; exact DataW.trod_lt m _ _ _ hm
  obtain ⟨z4, w4⟩ : ∃ zs, IsRow .i64 W a4 len4 cap4 zs := by
    obtain ⟨fuel, hf⟩ := h4
    rcases open_ints Try.underlying22 Try.underlying2 (by kernel_rfl) hf with ⟨hcs, _⟩ | ⟨x, l, c, zs, hcs, _, hl, hm, hz, _, hcell, hwz⟩
    · simp [Value.cells] at hcs
      obtain ⟨rfl, rfl, rfl⟩ := hcs
      exact ⟨[], .inl ⟨rfl, rfl, rfl, rfl⟩⟩
    · simp [Value.cells] at hcs
      obtain ⟨rfl, rfl, rfl⟩ := hcs
      exact ⟨zs, .inr ⟨_, rfl, hl, hm, by simpa using hz, hcell, hwz⟩⟩
  clear hA0 hval0
  refine (walk a0 a1 a2 a3 a4 len4 cap4 z4 W w0 w1 w2 w3 w4).mono fun e W' ⟨he, bel⟩ => ?_
  subst he
  exact ⟨_, rfl, _, _, _, [], _, [], hW', trodAll_mk1 (shut_bool Try.underlying4 _), (trodAll_cons_mk (shut_string Try.underlying9 w0) (trodAll_cons_mk (shut_string Try.underlying9 w1) (trodAll_cons_mk (shut_string Try.underlying9 w2) (trodAll_cons_mk (shut_int Try.underlying2 w3) (trodAll_cons_mk (Below.trod laidOut (by kernel_rfl) (of_decide_eq_true (by kernel_rfl)) k4 bel lt4) trodAll_mk0))))), rfl, bel.frame _, fun h => by cases h⟩

theorem over : Rows.fnIsZeroCountsIDsNotTheirValuesRow.holds Try.pinned (OpenSpec.ofChange Rows.fnIsZeroCountsIDsNotTheirValuesSpec) :=
  OpenClaim.holds_of_wide 3 Try.f3 rfl rfl rfl rfl rfl rfl rfl ⟨rfl, rfl, rfl, rfl, rfl⟩ rfl rfl rfl rfl rfl (by kernel_rfl) Try.func3 (by kernel_rfl)
    (of_decide_eq_true (by kernel_rfl)) (by unfold Func.isWrapper; first | (rw [if_pos (by decide +kernel)]; kernel_rfl) | (rw [if_neg (by decide +kernel)]; exact ⟨rfl, rfl⟩))
    (fun os started H enc _ => lifted os started H enc)

/-- ████ THE STATEMENT ████ -/
theorem proved : Rows.FnIsZeroCountsIDsNotTheirValuesSaid := over
end Go.Proofs.Qxb6616006a.fnIsZeroCountsIDsNotTheirValues
namespace Go.Proofs.Qxb6616006a
theorem fnIsZeroCountsIDsNotTheirValues_proved : Rows.FnIsZeroCountsIDsNotTheirValuesSaid := fnIsZeroCountsIDsNotTheirValues.proved
#print axioms fnIsZeroCountsIDsNotTheirValues_proved
end Go.Proofs.Qxb6616006a
