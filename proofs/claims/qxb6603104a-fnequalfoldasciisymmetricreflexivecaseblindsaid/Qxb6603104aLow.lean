/-
  THE WALKS OF lowerASCII (26), ZZlowerASCII (11) AND b1LowerByAlphabet (12): each answers 'Pl.low c' and leaves the world as it was.
-/
import Derived.Test.Qxb6603104aRows
import Derived.Test.Qxb6603104aPlain
import Derived.WalkKit
namespace Go.Proofs.Qxb6603104a
open Go.RowKit

theorem ret_int {k : IntKind} {a b : Int} (h : a = b) : Ending.returned (.int k a) = .returned (.int k b) := by rw [h]
theorem ret_bool {a b : Bool} (h : a = b) : Ending.returned (.bool a) = .returned (.bool b) := by rw [h]

theorem low26 (c : Int) (h0 : 0 ≤ c) (h1 : c ≤ 255) (w : World) :
    Calls Try.prog 26 #[.int .u8 c] w fun e w' => e = .returned (.int .u8 (Pl.low c)) ∧ w' = w := by
  by_cases a : 65 ≤ c
  · by_cases b : c ≤ 90
    · have e := Pl.low_up a b
      have E : Hid (Pl.low c = c + 32) := e
      clear e
      go_enter Try.func26, Try.ntmps26
      go_wp2
      go_ret
      exact ⟨ret_int (by rw [E.out]; omega), rfl⟩
    · have E : Hid (Pl.low c = c) := Pl.low_hi (by omega)
      go_enter Try.func26, Try.ntmps26
      go_wp2
      go_ret
      exact ⟨ret_int (by rw [E.out]), rfl⟩
  · have E : Hid (Pl.low c = c) := Pl.low_lo (by omega)
    go_enter Try.func26, Try.ntmps26
    go_wp2
    go_ret
    exact ⟨ret_int (by rw [E.out]), rfl⟩

theorem low11 (c : Int) (h0 : 0 ≤ c) (h1 : c ≤ 255) (w : World) :
    Calls Try.prog 11 #[.int .u8 c] w fun e w' => e = .returned (.int .u8 (Pl.low c)) ∧ w' = w := by
  go_enter Try.func11, Try.ntmps11
  go_wp2_with fail
  refine (low26 c h0 h1 _).mono ?_
  rintro e w' ⟨rfl, rfl⟩
  go_wp2
  go_ret
  exact ⟨rfl, rfl⟩

/-- A capital letter. -/
theorem low11_cap (c : Int) (a : 65 ≤ c) (b : c ≤ 90) (w : World) :
    Calls Try.prog 11 #[.int .u8 c] w fun e w' => e = .returned (.int .u8 (c + 32)) ∧ w' = w :=
  (low11 c (by omega) (by omega) w).mono fun _ _ h => ⟨by rw [h.1, Pl.low_up a b], h.2⟩
/-- Any other octet. -/
theorem low11_rest (c : Int) (h0 : 0 ≤ c) (h1 : c ≤ 255) (h : c < 65 ∨ 90 < c) (w : World) :
    Calls Try.prog 11 #[.int .u8 c] w fun e w' => e = .returned (.int .u8 c) ∧ w' = w :=
  (low11 c h0 h1 w).mono fun _ _ q => ⟨by rw [q.1, show Pl.low c = c from by rcases h with h | h; exact Pl.low_lo h; exact Pl.low_hi h], q.2⟩
end Go.Proofs.Qxb6603104a
