/-
  THE WALK OF b1CloneBytes (14).
-/
import Derived.Test.Qxb6603104aMem
namespace Go.Proofs.Qxb6603104a
open Go.RowKit

theorem clone_nil (n cap : Nat) (w : World) : Calls Try.prog 14 #[.slice none n cap] w fun e w' => e = .returned (.slice none 0 0) ∧ w' = w := by
  have q := fun (w : World) (a : Option Addr) (n c n' c' : Nat) => Lib.run_eql_slice_nil (P := Try.prog) w 24 5 a n c n' c' Try.underlying24
  go_enter Try.func14, Try.ntmps14
  go_wp2
  go_ret
  exact ⟨rfl, rfl⟩

set_option maxHeartbeats 400000 in
theorem clone_pos (b off len cap : Nat) (zs : List Int) (w : World) (hb : b < w.heap.size) (hlen : len ≤ 1048576)
    (hc : ∀ i, i < len → w.cell? ⟨b, off + i, none⟩ = some (.int .u8 (zs[i]?.getD 0))) :
    Calls Try.prog 14 #[.slice (some ⟨b, off, none⟩) len cap] w fun e w' => e = .returned (.slice (some ⟨w.heap.size, 0, none⟩) len len) ∧ w'.ownsRow w.heap.size 5 1 (.slice (some ⟨w.heap.size, 0, none⟩) len len) len (rowOf .u8 (fun i => zs[i]?.getD 0) len) ∧ Below w.heap.size w w' := by
  have q := fun (w : World) (a : Option Addr) (n c n' c' : Nat) => Lib.run_eql_slice_nil (P := Try.prog) w 24 5 a n c n' c' Try.underlying24
  obtain ⟨i0, hi, hz0, hz1, hz2⟩ := info_parts Try.info5
  go_enter Try.func14, Try.ntmps14
  go_wp2_with (at_make; refine wpList_make_full _ rfl _ _ 24 rfl w.heap.size 5 i0 (.int .u8 0) 1 Try.underlying24 hi hz0 hz1 .i64 .i64 _ _ len rfl rfl (by omega) (by omega) (by rw [hz2]; omega) (by unfold maxLen; omega) (Nat.le_refl _) ?_; intro w0 hown0 hgrow0)
  rw [made_zero] at hown0
  have hbel0 : Below w.heap.size w w0 := (Below.refl _ _).grown hgrow0 (Nat.le_refl _) (fun _ h => by cases h)
  clear hgrow0
  go_loopw [4] (fun i wr => ∃ k : Nat, k ≤ len ∧ i = .int .i64 k ∧ wr.ownsRow w.heap.size 5 1 (.slice (some ⟨w.heap.size, 0, none⟩) len len) len (rowOf .u8 (fun i => if i < k then zs[i]?.getD 0 else 0) len) ∧ Below w.heap.size w wr) (fun i _ => len - (intOf i).toNat)
  case atStart => exact ⟨0, Nat.zero_le _, rfl, by simpa using hown0, hbel0⟩
  case round =>
    clear hown0 hbel0 q
    obtain ⟨k, hk, rfl, hown, hbel⟩ := hrel
    by_cases hlt : k < len
    · have c1 : wr.cell? ⟨b, off + k, none⟩ = some (.int .u8 (zs[k]?.getD 0)) := (hbel.cell (p := ⟨b, off + k, none⟩) hb).trans (hc k hlt)
      have c2 := own_cell hown hlt
      have f2 := hown.frozenAt k
      have R := own_store (g' := fun i => if i < k + 1 then zs[i]?.getD 0 else 0) (k := k) hown hbel (zs[k]?.getD 0) (by simp) (fun i _ hne => by by_cases h : i < k <;> simp [h] <;> omega)
      clear hown hbel hc
      go_wp2
      go_roundw
      case rel => exact ⟨k + 1, by omega, by go_num, R.1, R.2⟩
      case measure => simp [intOf]; omega
    · obtain rfl : k = len := by omega
      have E := rowOf_congr .u8 (n := k) (g := fun i => if i < k then zs[i]?.getD 0 else 0) (g' := fun i => zs[i]?.getD 0) (fun i hi => by simp [hi])
      rw [E] at hown
      clear E hc
      go_wp2
      go_ret
      exact ⟨rfl, hown, hbel⟩

theorem clone_empty (x : Addr) (cap : Nat) (w : World) :
    Calls Try.prog 14 #[.slice (some x) 0 cap] w fun e w' => e = .returned (.slice (some ⟨w.heap.size, 0, none⟩) 0 0) ∧ w'.ownsRow w.heap.size 5 1 (.slice (some ⟨w.heap.size, 0, none⟩) 0 0) 0 (rowOf .u8 (fun _ => 0) 0) ∧ Below w.heap.size w w' := by
  have q := fun (w : World) (a : Option Addr) (n c n' c' : Nat) => Lib.run_eql_slice_nil (P := Try.prog) w 24 5 a n c n' c' Try.underlying24
  obtain ⟨i0, hi, hz0, hz1, hz2⟩ := info_parts Try.info5
  go_enter Try.func14, Try.ntmps14
  go_wp2_with (at_make; refine wpList_make_full _ rfl _ _ 24 rfl w.heap.size 5 i0 (.int .u8 0) 1 Try.underlying24 hi hz0 hz1 .i64 .i64 _ _ 0 rfl rfl (by omega) (by omega) (by rw [hz2]; omega) (by unfold maxLen; omega) (Nat.le_refl _) ?_; intro w0 hown0 hgrow0)
  rw [made_zero] at hown0
  have hbel0 : Below w.heap.size w w0 := (Below.refl _ _).grown hgrow0 (Nat.le_refl _) (fun _ h => by cases h)
  clear hgrow0
  refine wp_loop_rounds 1 ?_
  rw [rounds_succ]
  go_wp2
  go_ret
  exact ⟨rfl, hown0, hbel0⟩

/-- b1CloneBytes, at every slice of at most 2^20 octets: what it answers reads as the argument did; nothing old turns. -/
theorem clone14 (a : Option Addr) (cap : Nat) (m : List Int) (w : World) (h : Came w a m) (hl : m.length ≤ 1048576) :
    Calls Try.prog 14 #[.slice a m.length cap] w fun e w' => ∃ ao c, e = .returned (.slice ao m.length c) ∧ Reads w' (.slice ao m.length c) m ∧ Below w.heap.size w w' := by
  obtain ⟨hr, h⟩ := h
  rcases h with ⟨rfl, rfl⟩ | ⟨rfl, x, rfl⟩ | ⟨b, off, rfl, hb, hc⟩
  · refine (clone_nil _ _ w).mono ?_
    rintro e w' ⟨rfl, rfl⟩
    exact ⟨none, 0, rfl, ⟨hr, .inl ⟨rfl, rfl⟩⟩, Below.refl _ _⟩
  · refine (clone_empty x cap w).mono ?_
    rintro e w' ⟨rfl, ho, hb⟩
    exact ⟨_, 0, rfl, Reads.made hr rfl (fun i hi => absurd hi (by simp)) ho (owns_lt ho), hb⟩
  · refine (clone_pos b off m.length cap m w hb hl hc).mono ?_
    rintro e w' ⟨rfl, ho, hb⟩
    exact ⟨_, _, rfl, Reads.made hr rfl (fun _ _ => rfl) ho (owns_lt ho), hb⟩

/-- The same, the length under a name. -/
theorem clone14n (a : Option Addr) (n cap : Nat) (m : List Int) (w : World) (hn : n = m.length) (h : Came w a m) (hl : n ≤ 1048576) :
    Calls Try.prog 14 #[.slice a n cap] w fun e w' => ∃ ao c, e = .returned (.slice ao n c) ∧ Reads w' (.slice ao n c) m ∧ Below w.heap.size w w' := by
  subst hn
  exact clone14 a cap m w h hl
end Go.Proofs.Qxb6603104a
