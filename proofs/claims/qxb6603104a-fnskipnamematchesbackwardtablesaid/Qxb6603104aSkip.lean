/-
  THE WALK OF skipName (28) AND ZZskipName (21): each answers 'Pl.sk' and leaves the world as it was.
-/
import Derived.Test.Qxb6603104aMem
namespace Go.Proofs.Qxb6603104a
open Go.RowKit

/-- The two high bits of an octet. -/
theorem high_bits {z : Int} (h0 : 0 ≤ z) (h1 : z ≤ 255) : (bits BinOp.and IntKind.i64 z 192 == 192) = decide (192 ≤ z) ∧ (bits BinOp.and IntKind.i64 z 192 != 0) = decide (64 ≤ z) := by
  have h : ∀ j : Fin 256, (bits BinOp.and IntKind.i64 (j.1 : Int) 192 == 192) = decide (192 ≤ (j.1 : Int)) ∧ (bits BinOp.and IntKind.i64 (j.1 : Int) 192 != 0) = decide (64 ≤ (j.1 : Int)) := by decide +kernel
  obtain ⟨n, rfl⟩ := Int.eq_ofNat_of_zero_le h0
  exact h ⟨n, by omega⟩
theorem ptr_yes {z : Int} (h0 : 0 ≤ z) (h1 : z ≤ 255) (h : (bits BinOp.and IntKind.i64 z 192 == 192) = true) : 192 ≤ z := by
  rw [(high_bits h0 h1).1] at h; exact of_decide_eq_true h
theorem ptr_no {z : Int} (h0 : 0 ≤ z) (h1 : z ≤ 255) (h : (bits BinOp.and IntKind.i64 z 192 == 192) = false) : z < 192 := by
  rw [(high_bits h0 h1).1] at h; have := of_decide_eq_false h; omega
theorem bad_yes {z : Int} (h0 : 0 ≤ z) (h1 : z ≤ 255) (h : (bits BinOp.and IntKind.i64 z 192 != 0) = true) : 64 ≤ z := by
  rw [(high_bits h0 h1).2] at h; exact of_decide_eq_true h
theorem bad_no {z : Int} (h0 : 0 ≤ z) (h1 : z ≤ 255) (h : (bits BinOp.and IntKind.i64 z 192 != 0) = false) : z < 64 := by
  rw [(high_bits h0 h1).2] at h; have := of_decide_eq_false h; omega

set_option maxHeartbeats 400000 in
theorem skip_at (g cap : Nat) (m : List Int) (off : Int) (w : World) (h0 : 0 ≤ off) (h1 : off ≤ 9223372036854775807) (hl : m.length ≤ 1048576)
    (hr : ∀ i : Nat, 0 ≤ m[i]?.getD 0 ∧ m[i]?.getD 0 ≤ 255) (hc : ∀ i, i < m.length → w.cell? ⟨g, i, none⟩ = some (.int .u8 (m[i]?.getD 0))) :
    Calls Try.prog 28 #[.slice (some ⟨g, 0, none⟩) m.length cap, .int .i64 off] w fun e w' => e = .returned (.int .i64 (Pl.sk m off.toNat)) ∧ w' = w := by
  obtain ⟨o, rfl⟩ := Int.eq_ofNat_of_zero_le h0
  rw [Int.toNat_natCast]
  go_enter Try.func28, Try.ntmps28
  go_wp2
  go_loop [1] (fun i => ∃ k : Nat, (k : Int) ≤ 9223372036854775807 ∧ i = .int .i64 k ∧ Hid (Pl.sk m k = Pl.sk m o)) (fun i => m.length - (intOf i).toNat)
  case atStart => exact ⟨o, h1, rfl, rfl⟩
  case round =>
    obtain ⟨k, hk, rfl, HS⟩ := hrel
    by_cases hlt : k < m.length
    · have c1 := hc k hlt
      have r1 := hr k
      clear hr hc
      generalize hz : m[k]?.getD 0 = z at c1 r1
      have HZ : Hid (m[k]?.getD 0 = z) := hz
      clear hz
      obtain ⟨r1, r2⟩ := r1
      go_wp2
      · go_ret
        have t : (z == 0) = true := by assumption
        rw [beq_iff_eq] at t
        exact ⟨ret_int (by rw [← HS.out, Pl.sk_zero hlt (by rw [HZ.out]; exact t)]), rfl⟩
      · go_ret
        have t : (bits BinOp.and IntKind.i64 z 192 == 192) = true := by assumption
        have u : (m.length : Int) < (k : Int) + 2 := by assumption
        exact ⟨ret_int (by rw [← HS.out, Pl.sk_cut (by omega) (by rw [HZ.out]; exact ptr_yes r1 r2 t)]), rfl⟩
      · go_ret
        have t : (bits BinOp.and IntKind.i64 z 192 == 192) = true := by assumption
        have u : (k : Int) + 2 ≤ (m.length : Int) := by assumption
        exact ⟨ret_int (by rw [← HS.out, Pl.sk_ptr (by omega) (by rw [HZ.out]; exact ptr_yes r1 r2 t)]), rfl⟩
      · go_ret
        have t : (bits BinOp.and IntKind.i64 z 192 == 192) = false := by assumption
        have u : (bits BinOp.and IntKind.i64 z 192 != 0) = true := by assumption
        exact ⟨ret_int (by rw [← HS.out, Pl.sk_bad (by rw [HZ.out]; exact bad_yes r1 r2 u) (by rw [HZ.out]; exact ptr_no r1 r2 t)]), rfl⟩
      · have t : (z == 0) = false := by assumption
        have u : (bits BinOp.and IntKind.i64 z 192 != 0) = false := by assumption
        rw [beq_eq_false_iff_ne] at t
        have v := bad_no r1 r2 u
        have e : Pl.sk m (k + 1 + z.toNat) = Pl.sk m o := by
          rw [← HS.out, Pl.sk_go hlt (by rw [HZ.out]; omega) (by rw [HZ.out]; exact v), HZ.out]
        go_round
        case rel => exact ⟨k + 1 + z.toNat, by omega, by go_num, e⟩
        case measure => simp [intOf]; omega
    · go_wp2
      go_ret
      exact ⟨ret_int (by rw [← HS.out, Pl.sk_end (by omega)]), rfl⟩

theorem skip_none (c : Nat) (off : Int) (w : World) (h0 : 0 ≤ off) :
    Calls Try.prog 28 #[.slice none 0 c, .int .i64 off] w fun e w' => e = .returned (.int .i64 (-1)) ∧ w' = w := by
  go_enter Try.func28, Try.ntmps28
  go_wp2
  refine wp_loop_rounds 1 ?_
  rw [rounds_succ]
  go_wp2
  go_ret
  exact ⟨rfl, rfl⟩

theorem skip28 (ao : Option Addr) (n c : Nat) (m : List Int) (off : Int) (w : World) (hn : n = m.length) (h : Reads w (.slice ao n c) m) (h0 : 0 ≤ off) (h1 : off ≤ 9223372036854775807) (hl : m.length ≤ 1048576) :
    Calls Try.prog 28 #[.slice ao n c, .int .i64 off] w fun e w' => e = .returned (.int .i64 (Pl.sk m off.toNat)) ∧ w' = w := by
  obtain ⟨hr, h⟩ := h
  rcases h with ⟨hv, rfl⟩ | ⟨g, cap, hv, _, hc⟩
  · cases hv
    exact (skip_none 0 off w h0).mono fun e w' q => ⟨by rw [q.1, Pl.sk_end (by simp)], q.2⟩
  · cases hv
    exact skip_at g c m off w h0 h1 hl hr hc

theorem skip21 (ao : Option Addr) (n c : Nat) (m : List Int) (off : Int) (w : World) (hn : n = m.length) (h : Reads w (.slice ao n c) m) (h0 : 0 ≤ off) (h1 : off ≤ 9223372036854775807) (hl : m.length ≤ 1048576) :
    Calls Try.prog 21 #[.slice ao n c, .int .i64 off] w fun e w' => e = .returned (.int .i64 (Pl.sk m off.toNat)) ∧ w' = w := by
  have C := fun w' (H : Reads w' (.slice ao n c) m) => skip28 ao n c m off w' hn H h0 h1 hl
  clear hn
  go_enter Try.func21, Try.ntmps21
  go_wp2_with fail
  refine (C _ h).mono ?_
  rintro e w' ⟨rfl, rfl⟩
  go_wp2
  go_ret
  exact ⟨rfl, rfl⟩

/-- The same, its answer under a name. -/
theorem skip21_as (ao : Option Addr) (n c : Nat) (m : List Int) (off : Int) (r : Int) (w : World) (hn : n = m.length) (h : Reads w (.slice ao n c) m) (h0 : 0 ≤ off) (h1 : off ≤ 9223372036854775807) (hl : m.length ≤ 1048576) (hr : Pl.sk m off.toNat = r) :
    Calls Try.prog 21 #[.slice ao n c, .int .i64 off] w fun e w' => e = .returned (.int .i64 r) ∧ w' = w := by
  rw [← hr]
  exact skip21 ao n c m off w hn h h0 h1 hl
end Go.Proofs.Qxb6603104a
