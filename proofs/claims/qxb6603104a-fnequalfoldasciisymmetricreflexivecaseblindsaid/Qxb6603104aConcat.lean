/-
  THE WALK OF b1ConcatBytes (24): it answers a new slice that reads as the two, one behind the other.
-/
import Derived.Test.Qxb6603104aMem
namespace Go.Proofs.Qxb6603104a
open Go.RowKit

/-- The first k numbers of Z, then nought. -/
def upto (Z : List Int) (k : Nat) : Nat → Int := fun i => if i < k then Z[i]?.getD 0 else 0
theorem upto_step {w0 w : World} {B n cap k : Nat} {Z : List Int} (hown : w.ownsRow B 5 1 (.slice (some ⟨B, 0, none⟩) n cap) n (rowOf .u8 (upto Z k) n)) (hb : Below B w0 w) (v : Int) (hv : Z[k]?.getD 0 = v) :
    (w.setCell ⟨B, k, none⟩ (.int .u8 v)).ownsRow B 5 1 (.slice (some ⟨B, 0, none⟩) n cap) n (rowOf .u8 (upto Z (k + 1)) n) ∧ Below B w0 (w.setCell ⟨B, k, none⟩ (.int .u8 v)) :=
  own_store (g' := upto Z (k + 1)) hown hb v (by simp [upto, hv]) (fun i _ hne => by
    unfold upto
    by_cases h : i < k
    · rw [if_pos h, if_pos (by omega)]
    · rw [if_neg h, if_neg (by omega)])
theorem upto_start (Z : List Int) (n : Nat) : rowOf .u8 (fun _ => 0) n = rowOf .u8 (upto Z 0) n := rowOf_congr .u8 (fun i _ => by simp [upto])
theorem upto_all (Z : List Int) (n i : Nat) (h : i < n) : upto Z n i = Z[i]?.getD 0 := by simp [upto, h]

/-- A slice that reads as octets and is not empty lies at the head of a block. -/
theorem Reads.at {w : World} {ao : Option Addr} {n c k : Nat} {zs : List Int} (h : Reads w (.slice ao n c) zs) (hk : k < zs.length) : ∃ g, ao = some ⟨g, 0, none⟩ ∧ g < w.heap.size ∧ w.cell? ⟨g, k, none⟩ = some (.int .u8 (zs[k]?.getD 0)) := by
  rcases h.2 with ⟨_, rfl⟩ | ⟨g, cap, hv, hg, hc⟩
  · simp at hk
  · cases hv
    exact ⟨g, rfl, hg, hc k hk⟩
theorem join_range {X Y : List Int} (hX : ∀ i : Nat, 0 ≤ X[i]?.getD 0 ∧ X[i]?.getD 0 ≤ 255) (hY : ∀ i : Nat, 0 ≤ Y[i]?.getD 0 ∧ Y[i]?.getD 0 ≤ 255) : ∀ i : Nat, 0 ≤ (X ++ Y)[i]?.getD 0 ∧ (X ++ Y)[i]?.getD 0 ≤ 255 := by
  intro i
  rw [List.getElem?_append]
  split
  · exact hX i
  · exact hY _

set_option maxHeartbeats 1000000 in
theorem concat24 (ax ay : Option Addr) (nx cx ny cy : Nat) (X Y : List Int) (w : World) (hx : nx = X.length) (hy : ny = Y.length) (rx : Reads w (.slice ax nx cx) X) (ry : Reads w (.slice ay ny cy) Y) (hl : nx + ny ≤ 1048576) :
    Calls Try.prog 24 #[.slice ax nx cx, .slice ay ny cy] w fun e w' => e = .returned (.slice (some ⟨w.heap.size, 0, none⟩) (nx + ny) (nx + ny)) ∧ Reads w' (.slice (some ⟨w.heap.size, 0, none⟩) (nx + ny) (nx + ny)) (X ++ Y) ∧ Below w.heap.size w w' := by
  obtain ⟨i0, hi, hz0, hz1, hz2⟩ := info_parts Try.info5
  have HX : Hid (nx = X.length) := hx
  have HY : Hid (ny = Y.length) := hy
  have AX : ∀ (wr : World), Below w.heap.size w wr → ∀ k, k < nx → ∃ g, ax = some ⟨g, 0, none⟩ ∧ wr.cell? ⟨g, k, none⟩ = some (.int .u8 (X[k]?.getD 0)) := fun wr hb k hk => by
    obtain ⟨g, h1, h2, h3⟩ := rx.at (k := k) (by rw [← HX.out]; exact hk)
    exact ⟨g, h1, (hb.cell (p := ⟨g, k, none⟩) h2).trans h3⟩
  have AY : ∀ (wr : World), Below w.heap.size w wr → ∀ k, k < ny → ∃ g, ay = some ⟨g, 0, none⟩ ∧ wr.cell? ⟨g, k, none⟩ = some (.int .u8 (Y[k]?.getD 0)) := fun wr hb k hk => by
    obtain ⟨g, h1, h2, h3⟩ := ry.at (k := k) (by rw [← HY.out]; exact hk)
    exact ⟨g, h1, (hb.cell (p := ⟨g, k, none⟩) h2).trans h3⟩
  have HR := join_range rx.1 ry.1
  have EX : ∀ k, k < nx → (X ++ Y)[k]?.getD 0 = X[k]?.getD 0 := fun k hk => by rw [List.getElem?_append_left (by rw [← HX.out]; exact hk)]
  have EY : ∀ k, (X ++ Y)[nx + k]?.getD 0 = Y[k]?.getD 0 := fun k => by rw [List.getElem?_append_right (by rw [← HX.out]; omega), ← HX.out, Nat.add_sub_cancel_left]
  have KEEP : Hid ((∀ i : Nat, 0 ≤ (X ++ Y)[i]?.getD 0 ∧ (X ++ Y)[i]?.getD 0 ≤ 255) ∧ (∀ k, k < nx → (X ++ Y)[k]?.getD 0 = X[k]?.getD 0) ∧ (∀ k, (X ++ Y)[nx + k]?.getD 0 = Y[k]?.getD 0)) := ⟨HR, EX, EY⟩
  have KA : Hid ((∀ (wr : World), Below w.heap.size w wr → ∀ k, k < nx → ∃ g, ax = some ⟨g, 0, none⟩ ∧ wr.cell? ⟨g, k, none⟩ = some (.int .u8 (X[k]?.getD 0))) ∧ (∀ (wr : World), Below w.heap.size w wr → ∀ k, k < ny → ∃ g, ay = some ⟨g, 0, none⟩ ∧ wr.cell? ⟨g, k, none⟩ = some (.int .u8 (Y[k]?.getD 0)))) := ⟨AX, AY⟩
  clear AX AY HR EX EY hx hy rx ry
  go_enter Try.func24, Try.ntmps24
  go_wp2_with (at_make; refine wpList_make_full _ rfl _ _ 24 rfl w.heap.size 5 i0 (.int .u8 0) 1 Try.underlying24 hi hz0 hz1 .i64 .i64 _ _ (nx + ny) rfl rfl (by omega) (by omega) (by rw [hz2]; omega) (by unfold maxLen; omega) (Nat.le_refl _) ?_; intro w0 hown0 hgrow0)
  rw [made_zero, upto_start (X ++ Y)] at hown0
  have hbel0 : Below w.heap.size w w0 := (Below.refl _ _).grown hgrow0 (Nat.le_refl _) (fun _ h => by cases h)
  clear hgrow0
  go_loopw [6] (fun i wr => ∃ k : Nat, k ≤ nx ∧ i = .int .i64 k ∧ wr.ownsRow w.heap.size 5 1 (.slice (some ⟨w.heap.size, 0, none⟩) (nx + ny) (nx + ny)) (nx + ny) (rowOf .u8 (upto (X ++ Y) k) (nx + ny)) ∧ Below w.heap.size w wr) (fun i _ => nx - (intOf i).toNat)
  case atStart => exact ⟨0, Nat.zero_le _, rfl, hown0, hbel0⟩
  case round =>
    clear hown0 hbel0
    obtain ⟨k, hk, rfl, hown, hbel⟩ := hrel
    by_cases hlt : k < nx
    · obtain ⟨g, hax, c1⟩ := KA.out.1 wr hbel k hlt
      subst hax
      have hlt' : k < nx + ny := by omega
      have c2 := own_cell hown hlt'
      have f2 := hown.frozenAt k
      have R := upto_step hown hbel (X[k]?.getD 0) (KEEP.out.2.1 k hlt)
      clear hown hbel
      go_wp2
      go_roundw
      case rel => exact ⟨k + 1, by omega, by go_num, R.1, R.2⟩
      case measure => simp [intOf]; omega
    · obtain rfl : k = nx := by omega
      go_wp2
      go_loopw [7] (fun i wr => ∃ j : Nat, j ≤ ny ∧ i = .int .i64 j ∧ wr.ownsRow w.heap.size 5 1 (.slice (some ⟨w.heap.size, 0, none⟩) (k + ny) (k + ny)) (k + ny) (rowOf .u8 (upto (X ++ Y) (k + j)) (k + ny)) ∧ Below w.heap.size w wr) (fun i _ => ny - (intOf i).toNat)
      case atStart => exact ⟨0, Nat.zero_le _, rfl, hown, hbel⟩
      case round =>
        clear hown hbel
        obtain ⟨j, hj, rfl, hown, hbel⟩ := hrel
        by_cases hlt2 : j < ny
        · obtain ⟨g, hay, c1⟩ := KA.out.2 _ hbel j hlt2
          subst hay
          have hlt' : k + j < k + ny := by omega
          have c2 := own_cell hown hlt'
          have f2 := hown.frozenAt (k + j)
          have R := upto_step hown hbel (Y[j]?.getD 0) (KEEP.out.2.2 j)
          clear hown hbel
          go_wp2
          go_roundw
          case rel => exact ⟨j + 1, by omega, by go_num, R.1, R.2⟩
          case measure => simp [intOf]; omega
        · obtain rfl : j = ny := by omega
          have F := Reads.made KEEP.out.1 (by rw [List.length_append, ← HX.out, ← HY.out]) (fun i hi => upto_all (X ++ Y) (k + j) i hi) hown (owns_lt hown)
          clear hown
          go_wp2
          go_ret
          exact ⟨rfl, F, hbel⟩
end Go.Proofs.Qxb6603104a
