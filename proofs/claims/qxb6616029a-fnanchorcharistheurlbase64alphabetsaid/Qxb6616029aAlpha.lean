import Derived.Test.Qxb6616029aCalls
namespace Go.Proofs.Qxb6616029a
open Go.RowKit

/-! ### the plain law -/
/-- What 'zzB1FlipCase' answers. -/
def flipc (c : Int) : Int := if 97 ≤ c ∧ c ≤ 122 then c - 32 else if 65 ≤ c ∧ c ≤ 90 then c + 32 else c
/-- The alphabet's bytes, as the program's text has them. -/
def abc : Array UInt8 := #[65, 66, 67, 68, 69, 70, 71, 72, 73, 74, 75, 76, 77, 78, 79, 80, 81, 82, 83, 84, 85, 86, 87, 88, 89, 90, 97, 98, 99, 100, 101, 102, 103, 104, 105, 106, 107, 108, 109, 110, 111, 112, 113, 114, 115, 116, 117, 118, 119, 120, 121, 122, 48, 49, 50, 51, 52, 53, 54, 55, 56, 57, 45, 95]
/-- The alphabet's letter at place k. -/
def alpha (k : Nat) : Int := (abc[k]?.getD 0).toNat

theorem abc_size : abc.size = 64 := by decide +kernel
theorem alpha_get (k : Nat) (h : k < (ByteArray.mk abc).size) : (((ByteArray.mk abc)[k]'h).toNat : Int) = alpha k := by
  have h' : k < abc.size := h
  have e : (ByteArray.mk abc)[k]'h = abc[k]'h' := rfl
  rw [e]; unfold alpha
  rw [Array.getElem?_eq_getElem h']; rfl
theorem alpha_anc (k : Nat) (h : k < 64) : anc (alpha k) = true := by
  have : ∀ k : Fin 64, anc (alpha k.1) = true := by decide +kernel
  exact this ⟨k, h⟩
theorem anc_alpha (c : Nat) (h : c < 256) (hn : ∀ k, k < 64 → alpha k ≠ (c : Int)) : anc (c : Int) = false := by
  have : ∀ c : Fin 256, anc (c.1 : Int) = true → ∃ k : Fin 64, alpha k.1 = (c.1 : Int) := by decide +kernel
  cases hc : anc (c : Int)
  · rfl
  · obtain ⟨k, hk⟩ := this ⟨c, h⟩ hc
    exact absurd hk (hn k.1 k.2)
theorem anc_flip (c : Int) : anc (flipc c) = anc c := by
  rw [Bool.eq_iff_iff]; unfold flipc; split
  · simp [anc]; omega
  · split
    · simp [anc]; omega
    · rfl

/-! ### the walks -/
theorem ret_int {k : IntKind} {a b : Int} (h : a = b) : Ending.returned (.int k a) = .returned (.int k b) := by rw [h]

theorem flip_any (c : Int) (h0 : 0 ≤ c) (h1 : c ≤ 255) (w : World) : Calls Try.prog 7 #[.int .u8 c] w fun e w' => e = .returned (.int .u8 (flipc c)) ∧ w' = w := by
  go_enter Try.func7, Try.ntmps7
  go_wp2
  all_goals go_ret
  all_goals (refine ⟨ret_int ?_, rfl⟩; unfold flipc; omega)

set_option maxHeartbeats 400000 in
set_option maxRecDepth 100000 in
theorem inAlpha_any (c : Nat) (h1 : c < 256) (w : World) : Calls Try.prog 8 #[.int .u8 (c : Int)] w fun e w' => e = .returned (.bool (anc (c : Int))) ∧ w' = w := by
  go_enter Try.func8, Try.ntmps8
  go_wp2
  go_loop [3] (fun i => ∃ k : Nat, k ≤ 64 ∧ i = .int .i64 k ∧ Hid (∀ j, j < k → alpha j ≠ (c : Int))) (fun i => 64 - (intOf i).toNat)
  case atStart => exact ⟨0, by omega, rfl, fun j hj => by omega⟩
  case round =>
    obtain ⟨k, hk, rfl, HN⟩ := hrel
    by_cases hlt : k < 64
    · have hs : k < (ByteArray.mk abc).size := Nat.lt_of_lt_of_eq hlt abc_size.symm
      go_wp2
      · have ht : ((((ByteArray.mk abc)[k]'hs).toNat : Int) == (c : Int)) = true := by assumption
        rw [alpha_get, beq_iff_eq] at ht
        have hf : anc (c : Int) = true := by rw [← ht]; exact alpha_anc k hlt
        go_ret
        exact ⟨ret_bool hf.symm, rfl⟩
      · have ht : ((((ByteArray.mk abc)[k]'hs).toNat : Int) == (c : Int)) = false := by assumption
        rw [alpha_get, beq_eq_false_iff_ne] at ht
        refine ⟨⟨k + 1, by omega, by go_num, ?_⟩, by simp [intOf]; omega⟩
        intro j hj
        by_cases e : j = k
        · rw [e]; exact ht
        · exact HN.out j (by omega)
    · obtain rfl : k = 64 := by omega
      have hf := anc_alpha c h1 HN.out
      have HF : Hid (anc (c : Int) = false) := hf
      clear hf
      go_wp2
      go_ret
      exact ⟨ret_bool HF.out.symm, rfl⟩

set_option maxHeartbeats 400000 in
set_option maxRecDepth 100000 in
theorem alpha_walk (c : Nat) (hc : c < 256) (w : World) :
    Calls Try.prog 4 #[.int .u8 (c : Int)] w fun e w' => e = .returned (.bool true) ∧ w' = w := by
  have hfl := anc_flip (c : Int)
  go_enter Try.func4, Try.ntmps4
  go_wp2_with (first | (go_at_call 6; refine (zzAnchor_any _ _).mono ?_; rintro e w' ⟨rfl, rfl⟩) | (go_at_call 7; refine (flip_any _ (by omega) (by omega) _).mono ?_; rintro e w' ⟨rfl, rfl⟩) | (go_at_call 8; refine (inAlpha_any _ hc _).mono ?_; rintro e w' ⟨rfl, rfl⟩))
  have hs : c % 64 < (ByteArray.mk abc).size := Nat.lt_of_lt_of_eq (Nat.mod_lt _ (by omega)) abc_size.symm
  have hp : anc (((ByteArray.mk abc)[c % 64]'hs).toNat : Int) = true := by rw [alpha_get]; exact alpha_anc _ (Nat.mod_lt _ (by omega))
  go_ret
  exact ⟨ret_bool hp, rfl⟩
end Go.Proofs.Qxb6616029a
