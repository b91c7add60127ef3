/-
  THE WALKS OF THE FIVE BOUNDS 'zzBytes_..' (20: one slice; 23, 25: two and a number; 13, 17: two): 'do the lengths add up to at most 2^20?'
-/
import Derived.Test.Qxb6603104aLow
namespace Go.Proofs.Qxb6603104a
open Go.RowKit

theorem bytes20_yes (ao : Option Addr) (n c : Nat) (x : Int) (w : World) (h : n ≤ 1048576) :
    Calls Try.prog 20 #[.slice ao n c, .int .i64 x] w fun e w' => e = .returned (.bool true) ∧ w' = w := by
  go_enter Try.func20, Try.ntmps20
  go_wp2
  go_ret
  exact ⟨rfl, rfl⟩
theorem bytes20_no (ao : Option Addr) (n c : Nat) (x : Int) (w : World) (h : 1048576 < n) :
    Calls Try.prog 20 #[.slice ao n c, .int .i64 x] w fun e w' => e = .returned (.bool false) ∧ w' = w := by
  go_enter Try.func20, Try.ntmps20
  go_wp2
  go_ret
  exact ⟨rfl, rfl⟩

theorem bytes23_yes (a b : Option Addr) (n c n' c' : Nat) (x : Int) (w : World) (h : n + n' ≤ 1048576) :
    Calls Try.prog 23 #[.slice a n c, .slice b n' c', .int .i64 x] w fun e w' => e = .returned (.bool true) ∧ w' = w := by
  have h1 : n ≤ 1048576 := by omega
  have h2 : n' ≤ 1048576 := by omega
  go_enter Try.func23, Try.ntmps23
  go_wp2
  go_ret
  exact ⟨rfl, rfl⟩
theorem bytes23_no (a b : Option Addr) (n c n' c' : Nat) (x : Int) (w : World) (h : 1048576 < n + n') :
    Calls Try.prog 23 #[.slice a n c, .slice b n' c', .int .i64 x] w fun e w' => e = .returned (.bool false) ∧ w' = w := by
  by_cases h1 : n ≤ 1048576
  · by_cases h2 : n' ≤ 1048576
    · go_enter Try.func23, Try.ntmps23
      go_wp2
      go_ret
      exact ⟨rfl, rfl⟩
    · go_enter Try.func23, Try.ntmps23
      go_wp2
      go_ret
      exact ⟨rfl, rfl⟩
  · go_enter Try.func23, Try.ntmps23
    go_wp2
    go_ret
    exact ⟨rfl, rfl⟩

theorem bytes25_yes (a b : Option Addr) (n c n' c' : Nat) (x : Int) (w : World) (h : n + n' ≤ 1048576) :
    Calls Try.prog 25 #[.slice a n c, .slice b n' c', .int .i64 x] w fun e w' => e = .returned (.bool true) ∧ w' = w := by
  have h1 : n ≤ 1048576 := by omega
  have h2 : n' ≤ 1048576 := by omega
  go_enter Try.func25, Try.ntmps25
  go_wp2
  go_ret
  exact ⟨rfl, rfl⟩
theorem bytes25_no (a b : Option Addr) (n c n' c' : Nat) (x : Int) (w : World) (h : 1048576 < n + n') :
    Calls Try.prog 25 #[.slice a n c, .slice b n' c', .int .i64 x] w fun e w' => e = .returned (.bool false) ∧ w' = w := by
  by_cases h1 : n ≤ 1048576
  · by_cases h2 : n' ≤ 1048576
    · go_enter Try.func25, Try.ntmps25
      go_wp2
      go_ret
      exact ⟨rfl, rfl⟩
    · go_enter Try.func25, Try.ntmps25
      go_wp2
      go_ret
      exact ⟨rfl, rfl⟩
  · go_enter Try.func25, Try.ntmps25
    go_wp2
    go_ret
    exact ⟨rfl, rfl⟩

theorem bytes13_yes (a b : Option Addr) (n c n' c' : Nat) (w : World) (h : n + n' ≤ 1048576) :
    Calls Try.prog 13 #[.slice a n c, .slice b n' c'] w fun e w' => e = .returned (.bool true) ∧ w' = w := by
  have h1 : n ≤ 1048576 := by omega
  have h2 : n' ≤ 1048576 := by omega
  go_enter Try.func13, Try.ntmps13
  go_wp2
  go_ret
  exact ⟨rfl, rfl⟩
theorem bytes13_no (a b : Option Addr) (n c n' c' : Nat) (w : World) (h : 1048576 < n + n') :
    Calls Try.prog 13 #[.slice a n c, .slice b n' c'] w fun e w' => e = .returned (.bool false) ∧ w' = w := by
  by_cases h1 : n ≤ 1048576
  · by_cases h2 : n' ≤ 1048576
    · go_enter Try.func13, Try.ntmps13
      go_wp2
      go_ret
      exact ⟨rfl, rfl⟩
    · go_enter Try.func13, Try.ntmps13
      go_wp2
      go_ret
      exact ⟨rfl, rfl⟩
  · go_enter Try.func13, Try.ntmps13
    go_wp2
    go_ret
    exact ⟨rfl, rfl⟩

theorem bytes17_yes (a b : Option Addr) (n c n' c' : Nat) (w : World) (h : n + n' ≤ 1048576) :
    Calls Try.prog 17 #[.slice a n c, .slice b n' c'] w fun e w' => e = .returned (.bool true) ∧ w' = w := by
  have h1 : n ≤ 1048576 := by omega
  have h2 : n' ≤ 1048576 := by omega
  go_enter Try.func17, Try.ntmps17
  go_wp2
  go_ret
  exact ⟨rfl, rfl⟩
theorem bytes17_no (a b : Option Addr) (n c n' c' : Nat) (w : World) (h : 1048576 < n + n') :
    Calls Try.prog 17 #[.slice a n c, .slice b n' c'] w fun e w' => e = .returned (.bool false) ∧ w' = w := by
  by_cases h1 : n ≤ 1048576
  · by_cases h2 : n' ≤ 1048576
    · go_enter Try.func17, Try.ntmps17
      go_wp2
      go_ret
      exact ⟨rfl, rfl⟩
    · go_enter Try.func17, Try.ntmps17
      go_wp2
      go_ret
      exact ⟨rfl, rfl⟩
  · go_enter Try.func17, Try.ntmps17
    go_wp2
    go_ret
    exact ⟨rfl, rfl⟩
end Go.Proofs.Qxb6603104a
