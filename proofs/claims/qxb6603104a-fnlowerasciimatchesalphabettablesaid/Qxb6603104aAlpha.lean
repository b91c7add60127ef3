/-
  THE WALK OF b1LowerByAlphabet (12): it answers 'Pl.low c'.
-/
import Derived.Test.Qxb6603104aLow
namespace Go.Proofs.Qxb6603104a
open Go.RowKit

theorem caps_at (k : Nat) (hk : k < 26) (hs : k < (ByteArray.mk #[65, 66, 67, 68, 69, 70, 71, 72, 73, 74, 75, 76, 77, 78, 79, 80, 81, 82, 83, 84, 85, 86, 87, 88, 89, 90]).size) :
    (((ByteArray.mk #[65, 66, 67, 68, 69, 70, 71, 72, 73, 74, 75, 76, 77, 78, 79, 80, 81, 82, 83, 84, 85, 86, 87, 88, 89, 90])[k]'hs).toNat : Int) = 65 + (k : Int) := by
  have h : ∀ j : Fin 26, ((#[65, 66, 67, 68, 69, 70, 71, 72, 73, 74, 75, 76, 77, 78, 79, 80, 81, 82, 83, 84, 85, 86, 87, 88, 89, 90] : Array UInt8)[j.1]'j.2).toNat = 65 + j.1 := by decide
  have e := h ⟨k, hk⟩
  have e2 : (((ByteArray.mk #[65, 66, 67, 68, 69, 70, 71, 72, 73, 74, 75, 76, 77, 78, 79, 80, 81, 82, 83, 84, 85, 86, 87, 88, 89, 90])[k]'hs).toNat) = 65 + k := e
  omega
theorem smalls_at (k : Nat) (hk : k < 26) (hs : k < (ByteArray.mk #[97, 98, 99, 100, 101, 102, 103, 104, 105, 106, 107, 108, 109, 110, 111, 112, 113, 114, 115, 116, 117, 118, 119, 120, 121, 122]).size) :
    (((ByteArray.mk #[97, 98, 99, 100, 101, 102, 103, 104, 105, 106, 107, 108, 109, 110, 111, 112, 113, 114, 115, 116, 117, 118, 119, 120, 121, 122])[k]'hs).toNat : Int) = 97 + (k : Int) := by
  have h : ∀ j : Fin 26, ((#[97, 98, 99, 100, 101, 102, 103, 104, 105, 106, 107, 108, 109, 110, 111, 112, 113, 114, 115, 116, 117, 118, 119, 120, 121, 122] : Array UInt8)[j.1]'j.2).toNat = 97 + j.1 := by decide
  have e := h ⟨k, hk⟩
  have e2 : (((ByteArray.mk #[97, 98, 99, 100, 101, 102, 103, 104, 105, 106, 107, 108, 109, 110, 111, 112, 113, 114, 115, 116, 117, 118, 119, 120, 121, 122])[k]'hs).toNat) = 97 + k := e
  omega

theorem low_found {c : Int} {k : Nat} (hk : k < 26) (h : (65 + (k : Int) == c) = true) : 97 + (k : Int) = Pl.low c := by
  rw [beq_iff_eq] at h
  rw [Pl.low_up (by omega) (by omega)]
  omega

theorem alpha12 (c : Int) (w : World) :
    Calls Try.prog 12 #[.int .u8 c] w fun e w' => e = .returned (.int .u8 (Pl.low c)) ∧ w' = w := by
  go_enter Try.func12, Try.ntmps12
  go_wp2
  go_loop [3] (fun i => ∃ k : Nat, k ≤ 26 ∧ i = .int .i64 k ∧ (65 ≤ c → 65 + (k : Int) ≤ c ∨ 90 < c)) (fun i => 26 - (intOf i).toNat)
  case atStart => exact ⟨0, by omega, rfl, by omega⟩
  case round =>
    obtain ⟨k, hk, rfl, hc⟩ := hrel
    by_cases hlt : k < 26
    · have a1 := caps_at k hlt
      have a2 := smalls_at k hlt
      go_wp2
      · go_ret
        have ht : (65 + (k : Int) == c) = true := by assumption
        exact ⟨ret_int (low_found hlt ht), rfl⟩
      · have ht : (65 + (k : Int) == c) = false := by assumption
        rw [beq_eq_false_iff_ne] at ht
        go_round
        case rel => exact ⟨k + 1, by omega, by go_num, by omega⟩
        case measure => simp [intOf]; omega
    · go_wp2
      go_ret
      have e : Pl.low c = c := by
        by_cases h65 : 65 ≤ c
        · exact Pl.low_hi (by omega)
        · exact Pl.low_lo (by omega)
      exact ⟨ret_int e.symm, rfl⟩
end Go.Proofs.Qxb6603104a
