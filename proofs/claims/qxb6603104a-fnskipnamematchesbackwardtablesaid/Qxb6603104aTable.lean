/-
  THE WALK OF b1SkipByBackwardTable (22): it answers 'Pl.sk'; nothing old turns.
-/
import Derived.Test.Qxb6603104aMem
namespace Go.Proofs.Qxb6603104a
open Go.RowKit

theorem table_end (ao : Option Addr) (n c : Nat) (off : Int) (w : World) (h : (n : Int) ≤ off) :
    Calls Try.prog 22 #[.slice ao n c, .int .i64 off] w fun e w' => e = .returned (.int .i64 (-1)) ∧ w' = w := by
  go_enter Try.func22, Try.ntmps22
  go_wp2
  go_ret
  exact ⟨rfl, rfl⟩

/-- The table behind place k: the ends from k on. -/
def tab (m : List Int) (k : Nat) : Nat → Int := fun i => if k ≤ i then Pl.sk m i else 0
theorem tab_step {w0 w : World} {B n cap p : Nat} {m : List Int} (hown : w.ownsRow B 3 1 (.slice (some ⟨B, 0, none⟩) n cap) n (rowOf .i64 (tab m (p + 1)) n)) (hb : Below B w0 w) (v : Int) (hv : Pl.sk m p = v) :
    (w.setCell ⟨B, p, none⟩ (.int .i64 v)).ownsRow B 3 1 (.slice (some ⟨B, 0, none⟩) n cap) n (rowOf .i64 (tab m p) n) ∧ Below B w0 (w.setCell ⟨B, p, none⟩ (.int .i64 v)) :=
  own_store (g' := tab m p) hown hb v (by simp [tab, hv]) (fun i _ hne => by
    unfold tab
    by_cases h : p ≤ i
    · rw [if_pos h, if_pos (by omega)]
    · rw [if_neg h, if_neg (by omega)])

set_option maxRecDepth 100000 in
set_option maxHeartbeats 1000000 in
theorem table_at (g cap : Nat) (m : List Int) (o : Nat) (w : World) (ho : o < m.length) (hl : m.length ≤ 1048576) (hg : g < w.heap.size)
    (hr : ∀ i : Nat, 0 ≤ m[i]?.getD 0 ∧ m[i]?.getD 0 ≤ 255) (hc : ∀ i, i < m.length → w.cell? ⟨g, i, none⟩ = some (.int .u8 (m[i]?.getD 0))) :
    Calls Try.prog 22 #[.slice (some ⟨g, 0, none⟩) m.length cap, .int .i64 o] w fun e w' => e = .returned (.int .i64 (Pl.sk m o)) ∧ Below w.heap.size w w' := by
  obtain ⟨i0, hi, hz0, hz1, hz2⟩ := info_parts Try.info3
  obtain ⟨n, hn⟩ : ∃ n, n = m.length := ⟨_, rfl⟩
  rw [← hn] at ho hl hc ⊢
  have HN : Hid (n = m.length) := hn
  clear hn
  go_enter Try.func22, Try.ntmps22
  go_wp2_with (at_make; refine wpList_make_full _ rfl _ _ 33 rfl w.heap.size 3 i0 (.int .i64 0) 1 Try.underlying33 hi hz0 hz1 .i64 .i64 _ _ n rfl rfl (by omega) (by omega) (by rw [hz2]; omega) (by unfold maxLen; omega) (Nat.le_refl _) ?_; intro w0 hown0 hgrow0)
  rw [made_zero] at hown0
  have hbel0 : Below w.heap.size w w0 := (Below.refl _ _).grown hgrow0 (Nat.le_refl _) (fun _ h => by cases h)
  have E0 := rowOf_congr .i64 (n := n) (g := fun _ => 0) (g' := tab m n) (fun i hi => by unfold tab; rw [if_neg (by omega)])
  rw [E0] at hown0
  clear hgrow0 E0
  go_loopw [7] (fun i wr => ∃ k : Nat, k ≤ n ∧ ((k = 0 ∧ i = .int .i64 (-1)) ∨ ∃ p : Nat, k = p + 1 ∧ i = .int .i64 (p : Int)) ∧ wr.ownsRow w.heap.size 3 1 (.slice (some ⟨w.heap.size, 0, none⟩) n n) n (rowOf .i64 (tab m k) n) ∧ Below w.heap.size w wr) (fun i _ => (intOf i + 1).toNat)
  case atStart => exact ⟨n, Nat.le_refl _, .inr ⟨n - 1, by omega, by go_num⟩, hown0, hbel0⟩
  case round =>
    clear hown0 hbel0
    obtain ⟨k, hk, hi, hown, hbel⟩ := hrel
    rcases hi with ⟨rfl, rfl⟩ | ⟨p, rfl, rfl⟩
    · have c1 := own_cell hown ho
      have e1 : tab m 0 o = Pl.sk m o := by simp [tab]
      rw [e1] at c1
      clear hr hc e1
      go_wp2
      go_ret
      exact ⟨rfl, hbel⟩
    · have hp : p < n := by omega
      have c1 : wr.cell? ⟨g, p, none⟩ = some (.int .u8 (m[p]?.getD 0)) := (hbel.cell (p := ⟨g, p, none⟩) hg).trans (hc p hp)
      have f2 := hown.frozenAt p
      have c2 := own_cell hown hp
      obtain ⟨r1, r2⟩ := hr p
      obtain ⟨z, hz⟩ := Int.eq_ofNat_of_zero_le r1
      rw [hz] at c1 r1 r2
      have HZ : Hid (m[p]?.getD 0 = (z : Int)) := hz
      have hpm : p < m.length := by rw [← HN.out]; exact hp
      have T := fun v hv => tab_step hown hbel v hv
      have S : ∀ q, p < q → q < n → wr.cell? ⟨w.heap.size, q, none⟩ = some (.int .i64 (Pl.sk m q)) := fun q h1 h2 => by
        rw [own_cell hown h2, tab, if_pos (by omega)]
      clear hz hr hc hown hbel
      by_cases a0 : z = 0
      · subst a0
        have R := T ((p : Int) + 1) (Pl.sk_zero hpm HZ.out)
        clear T S HZ
        go_wp2
        go_roundw
        case rel => exact ⟨p, by omega, by rcases p with _ | p; exact .inl ⟨rfl, rfl⟩; exact .inr ⟨p, rfl, by go_num⟩, R.1, R.2⟩
        case measure => simp [intOf]
      · have b0 : ((z : Int) == 0) = false := beq_eq_false_iff_ne.2 (by omega)
        by_cases a1 : 192 ≤ z
        · by_cases a2 : p + 1 < n
          · have R := T ((p : Int) + 2) (Pl.sk_ptr (by rw [← HN.out]; omega) (by rw [HZ.out]; omega))
            clear T S HZ
            go_wp2
            go_roundw
            case rel => exact ⟨p, by omega, by rcases p with _ | p; exact .inl ⟨rfl, rfl⟩; exact .inr ⟨p, rfl, by go_num⟩, R.1, R.2⟩
            case measure => simp [intOf]
          · have R := T (-1) (Pl.sk_cut (by rw [← HN.out]; omega) (by rw [HZ.out]; omega))
            clear T S HZ
            go_wp2
            go_roundw
            case rel => exact ⟨p, by omega, by rcases p with _ | p; exact .inl ⟨rfl, rfl⟩; exact .inr ⟨p, rfl, by go_num⟩, R.1, R.2⟩
            case measure => simp [intOf]
        · by_cases a2 : 64 ≤ z
          · have R := T (-1) (Pl.sk_bad (by rw [HZ.out]; omega) (by rw [HZ.out]; omega))
            clear T S HZ
            go_wp2
            go_roundw
            case rel => exact ⟨p, by omega, by rcases p with _ | p; exact .inl ⟨rfl, rfl⟩; exact .inr ⟨p, rfl, by go_num⟩, R.1, R.2⟩
            case measure => simp [intOf]
          · have G := Pl.sk_go hpm (by rw [HZ.out]; omega) (by rw [HZ.out]; omega)
            rw [HZ.out, Int.toNat_natCast] at G
            by_cases a3 : p + 1 + z < n
            · have R := T (Pl.sk m (p + 1 + z)) G
              have c3 := S (p + 1 + z) (by omega) a3
              clear T S HZ G
              go_wp2
              go_roundw
              case rel => exact ⟨p, by omega, by rcases p with _ | p; exact .inl ⟨rfl, rfl⟩; exact .inr ⟨p, rfl, by go_num⟩, R.1, R.2⟩
              case measure => simp [intOf]
            · have R := T (-1) (by rw [G]; exact Pl.sk_end (by rw [← HN.out]; omega))
              clear T S HZ G
              go_wp2
              go_roundw
              case rel => exact ⟨p, by omega, by rcases p with _ | p; exact .inl ⟨rfl, rfl⟩; exact .inr ⟨p, rfl, by go_num⟩, R.1, R.2⟩
              case measure => simp [intOf]

/-- The table's answer at every place that is not negative. -/
theorem table22 (ao : Option Addr) (n c : Nat) (m : List Int) (off : Int) (w : World) (hn : n = m.length) (h : Reads w (.slice ao n c) m) (h0 : 0 ≤ off) (hl : m.length ≤ 1048576) :
    Calls Try.prog 22 #[.slice ao n c, .int .i64 off] w fun e w' => e = .returned (.int .i64 (Pl.sk m off.toNat)) ∧ Below w.heap.size w w' := by
  by_cases hlt : (n : Int) ≤ off
  · refine (table_end ao n c off w hlt).mono ?_
    rintro e w' ⟨rfl, rfl⟩
    exact ⟨ret_int (Pl.sk_end (by omega)).symm, Below.refl _ _⟩
  · obtain ⟨o, rfl⟩ := Int.eq_ofNat_of_zero_le h0
    rw [Int.toNat_natCast]
    obtain ⟨hr, h⟩ := h
    rcases h with ⟨hv, rfl⟩ | ⟨g, cap, hv, hg, hc⟩
    · simp at hn
      omega
    · cases hv
      exact table_at g c m o w (by omega) hl hg hr hc
end Go.Proofs.Qxb6603104a
