/-
  THE WALKS OF b1SameFoldByBits (15), equalFoldASCII (27) AND ZZequalFoldASCII (16).
-/
import Derived.Test.Qxb6603104aMem
import Derived.Deep.QuietTactic
import Derived.BigQuiet
import Derived.Deep.RegionWith
namespace Go.Proofs.Qxb6603104a
open Go.RowKit

/-- An octet with bit 32 set. -/
theorem or32 {x : Int} (h0 : 0 ≤ x) (h1 : x ≤ 255) : bits BinOp.or IntKind.u8 x 32 = if x / 32 % 2 = 1 then x else x + 32 := by
  have h : ∀ j : Fin 256, bits BinOp.or IntKind.u8 (j.1 : Int) 32 = if (j.1 : Int) / 32 % 2 = 1 then (j.1 : Int) else (j.1 : Int) + 32 := by decide +kernel
  obtain ⟨n, rfl⟩ := Int.eq_ofNat_of_zero_le h0
  exact h ⟨n, by omega⟩
theorem same_yes {x y : Int} (h : Pl.low x = Pl.low y) : Pl.same x y = true := decide_eq_true h
theorem same_no {x y : Int} (h : ¬ Pl.low x = Pl.low y) : Pl.same x y = false := decide_eq_false h
theorem same_eq {x y : Int} (h : (x == y) = true) : Pl.same x y = true := by
  rw [beq_iff_eq] at h
  exact same_yes (by rw [h])
theorem same_bit {x y : Int} (hx0 : 0 ≤ x) (hx1 : x ≤ 255) (hy0 : 0 ≤ y) (hy1 : y ≤ 255) (h : (bits BinOp.or IntKind.u8 x 32 != bits BinOp.or IntKind.u8 y 32) = true) : Pl.same x y = false := by
  rw [bne_iff_ne, or32 hx0 hx1, or32 hy0 hy1] at h
  refine same_no (fun e => h ?_)
  unfold Pl.low at e
  split at e <;> split at e <;> split <;> split <;> omega
theorem same_letter {x y : Int} (hx0 : 0 ≤ x) (hx1 : x ≤ 255) (hy0 : 0 ≤ y) (hy1 : y ≤ 255) (hne : (x == y) = false) (h : (bits BinOp.or IntKind.u8 x 32 != bits BinOp.or IntKind.u8 y 32) = false) (h97 : 97 ≤ bits BinOp.or IntKind.u8 x 32) :
    decide (bits BinOp.or IntKind.u8 x 32 ≤ 122) = Pl.same x y := by
  rw [beq_eq_false_iff_ne] at hne
  rw [bne_eq_false_iff_eq] at h
  rw [or32 hx0 hx1, or32 hy0 hy1] at h
  rw [or32 hx0 hx1] at h97 ⊢
  unfold Pl.same
  refine decide_eq_decide.2 ?_
  unfold Pl.low
  constructor
  · intro q
    split at h <;> split at h <;> split <;> split <;> omega
  · intro q
    split at h <;> split at h <;> split at q <;> split at q <;> omega
theorem same_other {x y : Int} (hx0 : 0 ≤ x) (hx1 : x ≤ 255) (hy0 : 0 ≤ y) (hy1 : y ≤ 255) (hne : (x == y) = false) (h : (bits BinOp.or IntKind.u8 x 32 != bits BinOp.or IntKind.u8 y 32) = false) (h97 : bits BinOp.or IntKind.u8 x 32 < 97) :
    Pl.same x y = false := by
  rw [beq_eq_false_iff_ne] at hne
  rw [bne_eq_false_iff_eq] at h
  rw [or32 hx0 hx1, or32 hy0 hy1] at h
  rw [or32 hx0 hx1] at h97
  refine same_no (fun q => ?_)
  unfold Pl.low at q
  split at h <;> split at h <;> split at q <;> split at q <;> omega

theorem same15 (x y : Int) (w : World) (hx0 : 0 ≤ x) (hx1 : x ≤ 255) (hy0 : 0 ≤ y) (hy1 : y ≤ 255) :
    Calls Try.prog 15 #[.int .u8 x, .int .u8 y] w fun e w' => e = .returned (.bool (Pl.same x y)) ∧ w' = w := by
  go_enter Try.func15, Try.ntmps15
  go_wp2
  · go_ret
    have a : (x == y) = true := by assumption
    exact ⟨ret_bool (same_eq a).symm, rfl⟩
  · go_ret
    have b : (bits BinOp.or IntKind.u8 x 32 != bits BinOp.or IntKind.u8 y 32) = true := by assumption
    exact ⟨ret_bool (same_bit hx0 hx1 hy0 hy1 b).symm, rfl⟩
  · go_ret
    have a : (x == y) = false := by assumption
    have b : (bits BinOp.or IntKind.u8 x 32 != bits BinOp.or IntKind.u8 y 32) = false := by assumption
    have c : 97 ≤ bits BinOp.or IntKind.u8 x 32 := by assumption
    exact ⟨ret_bool (same_letter hx0 hx1 hy0 hy1 a b c), rfl⟩
  · go_ret
    have a : (x == y) = false := by assumption
    have b : (bits BinOp.or IntKind.u8 x 32 != bits BinOp.or IntKind.u8 y 32) = false := by assumption
    have c : bits BinOp.or IntKind.u8 x 32 < 97 := by assumption
    exact ⟨ret_bool (same_other hx0 hx1 hy0 hy1 a b c).symm, rfl⟩

/-- The same, its answer under a name. -/
theorem same15_as (x y : Int) (r : Bool) (w : World) (hx0 : 0 ≤ x) (hx1 : x ≤ 255) (hy0 : 0 ≤ y) (hy1 : y ≤ 255) (hr : Pl.same x y = r) :
    Calls Try.prog 15 #[.int .u8 x, .int .u8 y] w fun e w' => e = .returned (.bool r) ∧ w' = w := by
  rw [← hr]
  exact same15 x y w hx0 hx1 hy0 hy1

theorem draws {B : Nat} {a w : World} (h : Below B a w) (n : Nat) : Below B a (w.drewN n) := h.trans ⟨rfl, rfl, rfl, Nat.le_refl _, fun _ _ => rfl⟩

set_option maxHeartbeats 1000000 in
theorem fold_at (g g' c c' n : Nat) (A B : List Int) (w : World) (ha : n = A.length) (hb : n = B.length) (hl : n ≤ 1048576)
    (ra : ∀ i : Nat, 0 ≤ A[i]?.getD 0 ∧ A[i]?.getD 0 ≤ 255) (rb : ∀ i : Nat, 0 ≤ B[i]?.getD 0 ∧ B[i]?.getD 0 ≤ 255) (hg : g < w.heap.size) (hg' : g' < w.heap.size)
    (ca : ∀ i, i < n → w.cell? ⟨g, i, none⟩ = some (.int .u8 (A[i]?.getD 0))) (cb : ∀ i, i < n → w.cell? ⟨g', i, none⟩ = some (.int .u8 (B[i]?.getD 0))) :
    Calls Try.prog 27 #[.slice (some ⟨g, 0, none⟩) n c, .slice (some ⟨g', 0, none⟩) n c'] w fun e w' => e = .returned (.bool (Pl.eqf A B)) ∧ Below w.heap.size w w' := by
  have HA : Hid (n = A.length) := ha
  have HB : Hid (n = B.length) := hb
  clear ha hb
  go_enter Try.func27, Try.ntmps27
  go_wp2
  go_loopw [8] (fun i wr => ∃ k : Nat, k ≤ n ∧ i = .int .i64 k ∧ Below w.heap.size w wr ∧ ∀ j, j < k → Pl.low (A[j]?.getD 0) = Pl.low (B[j]?.getD 0)) (fun i _ => n - (intOf i).toNat)
  case atStart => exact ⟨0, Nat.zero_le _, rfl, Below.refl _ _, fun j hj => absurd hj (by omega)⟩
  case round =>
    obtain ⟨k, hk, rfl, hbel, hall⟩ := hrel
    by_cases hlt : k < n
    · have HALL : Hid (∀ j, j < k → Pl.low (A[j]?.getD 0) = Pl.low (B[j]?.getD 0)) := hall
      obtain ⟨ra1, ra2⟩ := ra k
      obtain ⟨rb1, rb2⟩ := rb k
      have c1 := (hbel.cell (p := ⟨g, k, none⟩) hg).trans (ca k hlt)
      have c2 := (hbel.cell (p := ⟨g', k, none⟩) hg').trans (cb k hlt)
      obtain ⟨x, hx⟩ : ∃ x, A[k]?.getD 0 = x := ⟨_, rfl⟩
      obtain ⟨y, hy⟩ : ∃ y, B[k]?.getD 0 = y := ⟨_, rfl⟩
      rw [hx] at c1 ra1 ra2
      rw [hy] at c2 rb1 rb2
      have HX : Hid (A[k]?.getD 0 = x) := hx
      have HY : Hid (B[k]?.getD 0 = y) := hy
      have i1 : (k : Int) < (n : Int) := by omega
      have i0 : (0 : Int) ≤ (k : Int) := by omega
      clear hall hx hy ra rb ca cb
      go_wp2
      go_quiet (first | (go_at_call_of 26 (Value.int IntKind.u8 x); exact Calls.quiet_of_same (low26 x ra1 ra2 _)) | (go_at_call_of 26 (Value.int IntKind.u8 y); exact Calls.quiet_of_same (low26 y rb1 rb2 _)))
      go_wp2
      · go_ret
        have t : (Pl.low x != Pl.low y) = true := by assumption
        rw [bne_iff_ne] at t
        have e : Pl.eqf A B = false := Pl.eqf_no (by rw [← HA.out, ← HB.out]) (by rw [← HA.out]; exact hlt) (by rw [HX.out, HY.out]; exact t)
        exact ⟨ret_bool e.symm, draws hbel _⟩
      · have t : (Pl.low x != Pl.low y) = false := by assumption
        rw [bne_eq_false_iff_eq] at t
        have F : ∀ j, j < k + 1 → Pl.low (A[j]?.getD 0) = Pl.low (B[j]?.getD 0) := fun j hj => by
          by_cases h : j < k
          · exact HALL.out j h
          · obtain rfl : j = k := by omega
            rw [HX.out, HY.out]
            exact t
        go_roundw
        case rel => exact ⟨k + 1, by omega, by go_num, draws hbel _, F⟩
        case measure => simp [intOf]; omega
    · obtain rfl : k = n := by omega
      have e : Pl.eqf A B = true := Pl.eqf_yes (by rw [← HA.out, ← HB.out]) (by rw [← HA.out]; exact hall)
      have E : Hid (Pl.eqf A B = true) := e
      clear e hall ra rb ca cb
      go_wp2
      go_ret
      exact ⟨ret_bool E.out.symm, hbel⟩

theorem fold_none (a b : Option Addr) (c c' : Nat) (w : World) :
    Calls Try.prog 27 #[.slice a 0 c, .slice b 0 c'] w fun e w' => e = .returned (.bool true) ∧ w' = w := by
  go_enter Try.func27, Try.ntmps27
  go_wp2
  refine wp_loop_rounds 1 ?_
  rw [rounds_succ]
  go_wp2
  go_ret
  exact ⟨rfl, rfl⟩

/-- equalFoldASCII, at every two slices of one length. -/
theorem fold27 (a b : Option Addr) (n c c' : Nat) (A B : List Int) (w : World) (ha : n = A.length) (hb : n = B.length) (hl : n ≤ 1048576) (rA : Reads w (.slice a n c) A) (rB : Reads w (.slice b n c') B) :
    Calls Try.prog 27 #[.slice a n c, .slice b n c'] w fun e w' => e = .returned (.bool (Pl.eqf A B)) ∧ Below w.heap.size w w' := by
  by_cases h0 : n = 0
  · subst h0
    refine (fold_none a b c c' w).mono ?_
    rintro e w' ⟨rfl, rfl⟩
    obtain rfl : A = [] := List.length_eq_zero_iff.1 ha.symm
    obtain rfl : B = [] := List.length_eq_zero_iff.1 hb.symm
    exact ⟨rfl, Below.refl _ _⟩
  · rcases rA.2 with ⟨_, h⟩ | ⟨g, cap, hv, hg, hc⟩
    · exact absurd (by rw [ha, h]; rfl) h0
    rcases rB.2 with ⟨_, h⟩ | ⟨g', cap', hv', hg', hc'⟩
    · exact absurd (by rw [hb, h]; rfl) h0
    injection hv with hv1 _ _
    injection hv' with hv1' _ _
    subst hv1 hv1'
    exact fold_at g g' c c' n A B w ha hb hl rA.1 rB.1 hg hg' (fun i hi => hc i (by omega)) (fun i hi => hc' i (by omega))

theorem fold16 (a b : Option Addr) (n c c' : Nat) (A B : List Int) (r : Bool) (w : World) (ha : n = A.length) (hb : n = B.length) (hl : n ≤ 1048576) (rA : Reads w (.slice a n c) A) (rB : Reads w (.slice b n c') B) (hr : Pl.eqf A B = r) :
    Calls Try.prog 16 #[.slice a n c, .slice b n c'] w fun e w' => e = .returned (.bool r) ∧ Below w.heap.size w w' := by
  subst hr
  have HA : Hid (n = A.length) := ha
  have HB : Hid (n = B.length) := hb
  clear ha hb
  go_enter Try.func16, Try.ntmps16
  go_wp2_with fail
  refine (fold27 a b n c c' A B _ HA.out HB.out hl rA rB).mono ?_
  rintro e w1 ⟨rfl, h⟩
  go_wp2
  go_ret
  exact ⟨rfl, h⟩
end Go.Proofs.Qxb6603104a
