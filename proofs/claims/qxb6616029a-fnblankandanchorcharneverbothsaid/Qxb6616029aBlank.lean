import Derived.Test.Qxb6616029aCalls
namespace Go.Proofs.Qxb6616029a
open Go.RowKit

/-! ### the plain law -/
/-- How many of c, c + 1, .., c + k - 1 (round 256) f takes. -/
def cnt (f : Int → Bool) (c : Nat) : Nat → Nat
  | 0 => 0
  | k + 1 => cnt f c k + (f (((c + k) % 256 : Nat) : Int)).toNat

theorem cnt_le (f : Int → Bool) (c k : Nat) : cnt f c k ≤ k := by
  induction k with
  | zero => exact Nat.le_refl _
  | succ k ih => have := Bool.toNat_le (f (((c + k) % 256 : Nat) : Int)); simp only [cnt]; omega

theorem cnt_turn (f : Int → Bool) (c k : Nat) : cnt f (c + 1) k + (f ((c % 256 : Nat) : Int)).toNat = cnt f c k + (f (((c + k) % 256 : Nat) : Int)).toNat := by
  induction k with
  | zero => simp [cnt]
  | succ k ih =>
    simp only [cnt]
    have e : c + 1 + k = c + (k + 1) := by omega
    rw [e]
    omega

theorem cnt_all (f : Int → Bool) (c : Nat) : cnt f c 256 = cnt f 0 256 := by
  induction c with
  | zero => rfl
  | succ c ih =>
    have h := cnt_turn f c 256
    have e : (c + 256) % 256 = c % 256 := by omega
    rw [e] at h
    omega

theorem blanks_4 (c : Nat) : cnt blk c 256 = 4 := by rw [cnt_all]; decide +kernel
theorem names_64 (c : Nat) : cnt anc c 256 = 64 := by rw [cnt_all]; decide +kernel
theorem not_both (c : Int) : (blk c && anc c) = false := by
  rw [Bool.eq_false_iff]; simp [blk, anc]; omega

/-! ### the walk -/
theorem int_eq {k : IntKind} {a b : Int} (h : a = b) : Value.int k a = .int k b := by rw [h]
theorem two_ways (c : Int) : blk c = false ∨ (blk c = true ∧ anc c = false) := by
  have h := not_both c
  cases hb : blk c
  · exact Or.inl rfl
  · rw [hb, Bool.true_and] at h; exact Or.inr ⟨rfl, h⟩

set_option maxHeartbeats 400000 in
set_option maxRecDepth 100000 in
theorem blank_walk (c : Nat) (hc : c < 256) (w : World) :
    Calls Try.prog 3 #[.int .u8 (c : Int)] w fun e w' => e = .returned (.bool true) ∧ w' = w := by
  have H4 : Hid (cnt blk c 256 = 4) := blanks_4 c
  have H64 : Hid (cnt anc c 256 = 64) := names_64 c
  rcases two_ways (c : Int) with hb | ⟨hb, ha⟩
  all_goals
    go_enter Try.func3, Try.ntmps3
    go_wp2_with (first | (go_at_call 5; refine (zzBlank_any _ _).mono ?_; rintro e w' ⟨rfl, rfl⟩) | (go_at_call 6; refine (zzAnchor_any _ _).mono ?_; rintro e w' ⟨rfl, rfl⟩))
    clear hb
    try clear ha
    go_loop [3, 4, 5, 6, 7] (fun o b n d i => ∃ k : Nat, k ≤ 256 ∧ o = .bool true ∧ b = .int .i64 (cnt blk c k : Nat) ∧ n = .int .i64 (cnt anc c k : Nat) ∧ d = .int .u8 (((c + k) % 256 : Nat) : Int) ∧ i = .int .i64 k) (fun _ _ _ _ i => 256 - (intOf i).toNat)
    case atStart => exact ⟨0, by omega, rfl, rfl, rfl, by rw [Nat.add_zero, Nat.mod_eq_of_lt hc], rfl⟩
    case round =>
      obtain ⟨k, hk, rfl, rfl, rfl, rfl, rfl⟩ := hrel
      have b1 := cnt_le blk c k
      have b2 := cnt_le anc c k
      by_cases hlt : k < 256
      · have HB : Hid (cnt blk c (k + 1) = cnt blk c k + (blk (((c + k) % 256 : Nat) : Int)).toNat) := rfl
        have HA : Hid (cnt anc c (k + 1) = cnt anc c k + (anc (((c + k) % 256 : Nat) : Int)).toNat) := rfl
        have hx := two_ways (((c + k) % 256 : Nat) : Int)
        have HD : Hid (((((c + k) % 256 : Nat) : Int) + 1) % 256 = ((c + (k + 1)) % 256 : Nat)) := by unfold Hid; omega
        have hd1 : (c + k) % 256 < 256 := by omega
        generalize (c + k) % 256 = d at *
        generalize cnt blk c k = nb at *
        generalize cnt anc c k = na at *
        rcases hx with hbd | ⟨hbd, had⟩
        · cases had : anc (d : Int)
          all_goals
            go_wp2_with (first | (go_at_call 5; refine (zzBlank_any _ _).mono ?_; rintro e w' ⟨rfl, rfl⟩) | (go_at_call 6; refine (zzAnchor_any _ _).mono ?_; rintro e w' ⟨rfl, rfl⟩))
            exact ⟨⟨k + 1, by omega, rfl, int_eq (by rw [HB.out, hbd]; simp), int_eq (by rw [HA.out, had]; simp), int_eq HD.out, int_eq (by omega)⟩, by simp [intOf]; omega⟩
        · go_wp2_with (first | (go_at_call 5; refine (zzBlank_any _ _).mono ?_; rintro e w' ⟨rfl, rfl⟩) | (go_at_call 6; refine (zzAnchor_any _ _).mono ?_; rintro e w' ⟨rfl, rfl⟩))
          exact ⟨⟨k + 1, by omega, rfl, int_eq (by rw [HB.out, hbd]; simp), int_eq (by rw [HA.out, had]; simp), int_eq HD.out, int_eq (by omega)⟩, by simp [intOf]; omega⟩
      · obtain rfl : k = 256 := by omega
        rw [H4.out, H64.out]
        go_wp2
        go_ret
        exact ⟨rfl, rfl⟩
end Go.Proofs.Qxb6616029a
