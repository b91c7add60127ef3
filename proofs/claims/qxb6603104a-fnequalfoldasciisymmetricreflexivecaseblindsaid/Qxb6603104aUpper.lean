/-
  THE WALK OF b1UpperLetters (18): it answers a new slice that reads as the argument's octets, small letters made capitals.
-/
import Derived.Test.Qxb6603104aConcat
namespace Go.Proofs.Qxb6603104a
open Go.RowKit

theorem upp_at (A : List Int) {k : Nat} (h : k < A.length) : (A.map Pl.upp)[k]?.getD 0 = Pl.upp (A[k]?.getD 0) := by
  rw [List.getElem?_map, List.getElem?_eq_getElem h]
  rfl
theorem upp_range {A : List Int} (h : ∀ i : Nat, 0 ≤ A[i]?.getD 0 ∧ A[i]?.getD 0 ≤ 255) : ∀ i : Nat, 0 ≤ (A.map Pl.upp)[i]?.getD 0 ∧ (A.map Pl.upp)[i]?.getD 0 ≤ 255 := by
  intro i
  by_cases hi : i < A.length
  · rw [upp_at A hi]
    exact Pl.upp_byte (h i).1 (h i).2
  · rw [List.getElem?_eq_none (by simp; omega)]
    simp
theorem upp_yes {z : Int} (h1 : 97 ≤ z) (h2 : z ≤ 122) : Pl.upp z = z - 32 := by unfold Pl.upp; rw [if_pos ⟨h1, h2⟩]
theorem upp_no {z : Int} (h : ¬ (97 ≤ z ∧ z ≤ 122)) : Pl.upp z = z := by unfold Pl.upp; rw [if_neg h]

set_option maxHeartbeats 1000000 in
theorem upper18 (a : Option Addr) (n c : Nat) (A : List Int) (w : World) (ha : n = A.length) (rA : Reads w (.slice a n c) A) (hl : n ≤ 1048576) :
    Calls Try.prog 18 #[.slice a n c] w fun e w' => e = .returned (.slice (some ⟨w.heap.size, 0, none⟩) n n) ∧ Reads w' (.slice (some ⟨w.heap.size, 0, none⟩) n n) (A.map Pl.upp) ∧ Below w.heap.size w w' := by
  obtain ⟨i0, hi, hz0, hz1, hz2⟩ := info_parts Try.info5
  have HA : Hid (n = A.length) := ha
  clear ha
  go_enter Try.func18, Try.ntmps18
  go_wp2_with (at_make; refine wpList_make_full _ rfl _ _ 24 rfl w.heap.size 5 i0 (.int .u8 0) 1 Try.underlying24 hi hz0 hz1 .i64 .i64 _ _ n rfl rfl (by omega) (by omega) (by rw [hz2]; omega) (by unfold maxLen; omega) (Nat.le_refl _) ?_; intro w0 hown0 hgrow0)
  rw [made_zero, upto_start (A.map Pl.upp)] at hown0
  have hbel0 : Below w.heap.size w w0 := (Below.refl _ _).grown hgrow0 (Nat.le_refl _) (fun _ h => by cases h)
  clear hgrow0
  go_loopw [4] (fun i wr => ∃ k : Nat, k ≤ n ∧ i = .int .i64 k ∧ wr.ownsRow w.heap.size 5 1 (.slice (some ⟨w.heap.size, 0, none⟩) n n) n (rowOf .u8 (upto (A.map Pl.upp) k) n) ∧ Below w.heap.size w wr) (fun i _ => n - (intOf i).toNat)
  case atStart => exact ⟨0, Nat.zero_le _, rfl, hown0, hbel0⟩
  case round =>
    clear hown0 hbel0
    obtain ⟨k, hk, rfl, hown, hbel⟩ := hrel
    by_cases hlt : k < n
    · have hA : k < A.length := by rw [← HA.out]; exact hlt
      obtain ⟨g, hg, hgs, c1⟩ := rA.at (k := k) hA
      subst hg
      replace c1 := (hbel.cell (p := ⟨g, k, none⟩) hgs).trans c1
      obtain ⟨r1, r2⟩ := rA.1 k
      have e := upp_at A hA
      obtain ⟨z, hz⟩ : ∃ z, A[k]?.getD 0 = z := ⟨_, rfl⟩
      rw [hz] at c1 r1 r2 e
      have c2 := own_cell hown hlt
      have f2 := hown.frozenAt k
      by_cases t : 97 ≤ z ∧ z ≤ 122
      · obtain ⟨t1, t2⟩ := t
        have R := upto_step hown hbel (z - 32) (by rw [e, upp_yes t1 t2])
        clear hown hbel e hz hA rA
        go_wp2
        go_roundw
        case rel => exact ⟨k + 1, by omega, by go_num, R.1, R.2⟩
        case measure => simp [intOf]; omega
      · have R := upto_step hown hbel z (by rw [e, upp_no t])
        clear hown hbel e hz hA rA
        by_cases t1 : 97 ≤ z
        · have t2 : 122 < z := by omega
          go_wp2
          go_roundw
          case rel => exact ⟨k + 1, by omega, by go_num, R.1, R.2⟩
          case measure => simp [intOf]; omega
        · go_wp2
          go_roundw
          case rel => exact ⟨k + 1, by omega, by go_num, R.1, R.2⟩
          case measure => simp [intOf]; omega
    · obtain rfl : k = n := by omega
      have F := Reads.made (upp_range rA.1) (by rw [List.length_map]; exact HA.out) (fun i hi => upto_all (A.map Pl.upp) k i hi) hown (owns_lt hown)
      clear hown
      go_wp2
      go_ret
      exact ⟨rfl, F, hbel⟩
end Go.Proofs.Qxb6603104a
