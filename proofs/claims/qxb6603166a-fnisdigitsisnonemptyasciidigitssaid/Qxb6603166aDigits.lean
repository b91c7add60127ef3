/-
  THE WALKS OF isDigits (8), ZZisDigits (6) AND THE BOUND zzBytes_.. (5).
-/
import Derived.Test.Qxb6603166aRows
import Derived.WalkKit
import Derived.WalkSpells
import Derived.Lib.Strings
import Derived.Laws.RangeString
import Derived.Laws.RangeAny
namespace Go.Proofs.Qxb6603166a
open Go.RowKit

theorem ret_bool {a b : Bool} (h : a = b) : Ending.returned (.bool a) = .returned (.bool b) := by rw [h]

/-- The first k octets of s are digits. -/
def digs (s : ByteArray) (k : Nat) : Prop := ∀ j (h : j < s.size), j < k → 48 ≤ (s[j]'h).toNat ∧ (s[j]'h).toNat ≤ 57
/-- s is not empty and all its octets are digits; 'r' says which. -/
def Says (s : ByteArray) (r : Bool) : Prop := r = true ↔ (0 < s.size ∧ digs s s.size)

theorem digs_zero (s : ByteArray) : digs s 0 := fun _ _ h => absurd h (by omega)
theorem digs_step {s : ByteArray} {k : Nat} (hk : k < s.size) (h : digs s k) (h1 : 48 ≤ (s[k]'hk).toNat) (h2 : (s[k]'hk).toNat ≤ 57) : digs s (k + 1) := by
  intro j hj hlt
  by_cases e : j < k
  · exact h j hj e
  · obtain rfl : j = k := by omega
    exact ⟨h1, h2⟩
theorem digs_not {s : ByteArray} {k n : Nat} (hk : k < s.size) (hn : k < n) (h : ¬ (48 ≤ (s[k]'hk).toNat ∧ (s[k]'hk).toNat ≤ 57)) : ¬ digs s n := fun q => h (q k hk hn)
theorem digs_pred {s : ByteArray} {k : Nat} (h : digs s (k + 1)) : digs s k := fun j hj hlt => h j hj (by omega)
theorem says_no {s : ByteArray} {r : Bool} {k : Nat} (hr : Says s r) (hk : k < s.size) (h : ¬ (48 ≤ (s[k]'hk).toNat ∧ (s[k]'hk).toNat ≤ 57)) : r = false := by
  cases r with
  | false => rfl
  | true => exact absurd (hr.1 rfl).2 (digs_not hk hk h)

theorem empty_iff (s : ByteArray) : (!s.toList.isEmpty) = decide (0 < s.size) := by
  rw [Lib.toList_data]
  have e : s.size = s.data.toList.length := by simp
  rw [e]
  cases s.data.toList <;> simp
theorem says_end {s : ByteArray} {r : Bool} (hr : Says s r) (h : digs s s.size) : (!s.toList.isEmpty) = r := by
  rw [empty_iff]
  cases r with
  | false => exact decide_eq_false (fun q => absurd (hr.2 ⟨q, h⟩) (by simp))
  | true => exact decide_eq_true (hr.1 rfl).1

theorem grown_iter (w : World) (s : ByteArray) (pos : Nat) : Grown w (w.iter s pos) := by
  refine ⟨World.keptBut_alloc _ _ _, fun a => ?_, by show w.heap.size ≤ (w.heap.push _).size; simp⟩
  by_cases h : a.block = w.heap.size
  · have e1 : (w.iter s pos).heap[a.block]? = some (.stringIter s pos) := by rw [h]; exact World.iter_heap w s pos
    have e2 : w.heap[a.block]? = none := by rw [h]; simp
    simp [World.frozen?, e1, e2]
  · exact World.frozen?_alloc_old _ _ _ h

set_option maxRecDepth 100000 in
set_option maxHeartbeats 1000000 in
theorem digits8 (s : ByteArray) (r : Bool) (w : World) (hr : Says s r) :
    Calls Try.prog 8 #[.string s] w fun e w' => e = .returned (.bool r) ∧ Grown w w' := by
  have HR : Hid (Says s r) := hr
  clear hr
  go_enter Try.func8, Try.ntmps8
  go_wp2
  go_loopw [4] (fun _ wr => ∃ pos, pos ≤ s.size ∧ wr = w.iter s pos ∧ Hid (digs s pos)) (fun _ wr => s.size - wr.iterPos w.heap.size)
  case atStart => exact ⟨0, Nat.zero_le _, rfl, digs_zero s⟩
  case round =>
    obtain ⟨pos, hpos, rfl, HD⟩ := hrel
    by_cases hp : pos < s.size
    · by_cases ha : (s[pos]'hp).toNat < 128
      · have hnx : ∀ ty, (Instr.next (.pointer (some ⟨w.heap.size, 0, none⟩)) true ty).run Try.prog (w.iter s pos) = _ := fun ty => run_next_ascii w s pos ty hp ha
        obtain ⟨d, hd⟩ : ∃ d, (s[pos]'hp).toNat = d := ⟨_, rfl⟩
        rw [hd] at hnx ha
        have H2 : Hid ((s[pos]'hp).toNat = d) := hd
        clear hd
        by_cases t1 : d < 48
        · go_wp2
          go_ret
          exact ⟨ret_bool (says_no HR.out hp (by rw [H2.out]; omega)).symm, grown_iter _ _ _⟩
        · by_cases t2 : 57 < d
          · go_wp2
            go_ret
            exact ⟨ret_bool (says_no HR.out hp (by rw [H2.out]; omega)).symm, grown_iter _ _ _⟩
          · go_wp2
            go_roundw
            case rel => exact ⟨pos + 1, by omega, rfl, digs_step hp HD.out (by rw [H2.out]; omega) (by rw [H2.out]; omega)⟩
            case measure => simp; omega
      · have hnx : ∀ ty, (Instr.next (.pointer (some ⟨w.heap.size, 0, none⟩)) true ty).run Try.prog (w.iter s pos) = _ := fun ty => run_next_any w s pos ty hp
        have hh := (decode_high s pos hp (by omega)).1
        generalize (Utf8.decode s pos).1 = d at hnx hh
        generalize (Utf8.decode s pos).2 = wd at hnx
        have E : Hid (r = false) := says_no HR.out hp (by omega)
        clear ha
        go_wp2
        go_ret
        exact ⟨ret_bool E.out.symm, grown_iter _ _ _⟩
    · have hnx : ∀ ty, (Instr.next (.pointer (some ⟨w.heap.size, 0, none⟩)) true ty).run Try.prog (w.iter s pos) = _ := fun ty => run_next_end w s pos ty hp
      obtain rfl : pos = s.size := by omega
      go_wp2
      go_ret
      exact ⟨ret_bool (says_end HR.out HD.out), grown_iter _ _ _⟩

theorem digits6 (s : ByteArray) (r : Bool) (w : World) (hr : Says s r) :
    Calls Try.prog 6 #[.string s] w fun e w' => e = .returned (.bool r) ∧ Grown w w' := by
  have HR : Hid (Says s r) := hr
  clear hr
  go_enter Try.func6, Try.ntmps6
  go_wp2_with fail
  refine (digits8 s r _ HR.out).mono ?_
  rintro e w1 ⟨rfl, h⟩
  go_wp2
  go_ret
  exact ⟨rfl, h⟩

theorem bytes5_yes (s : ByteArray) (w : World) (h : s.size ≤ 1048576) :
    Calls Try.prog 5 #[.string s] w fun e w' => e = .returned (.bool true) ∧ w' = w := by
  go_enter Try.func5, Try.ntmps5
  go_wp2
  go_ret
  exact ⟨rfl, rfl⟩
theorem bytes5_no (s : ByteArray) (w : World) (h : 1048576 < s.size) :
    Calls Try.prog 5 #[.string s] w fun e w' => e = .returned (.bool false) ∧ w' = w := by
  go_enter Try.func5, Try.ntmps5
  go_wp2
  go_ret
  exact ⟨rfl, rfl⟩
end Go.Proofs.Qxb6603166a
