/-
  'Rows.FnIsDigitsIsNonEmptyAsciiDigitsSaid' PROVED. The frame is the shell's, as it was given, but for the row's closed facts ('facts'); the walk is ours.
-/
import Derived.Test.Qxb6603166aRows
import Derived.Test.Qxb6603166aHead
import Derived.Test.Qxb6603166aDigits
import Derived.WalkKit
import Derived.ProofKit
import Derived.OpenShut
import Derived.ShutString
namespace Go.Proofs.Qxb6603166a.fnIsDigitsIsNonEmptyAsciiDigits
open Go.ChangeShapes Go.WideShapes Go.ChangeAt Go.RowKit
open Go.ChangeMaps (open_string shut_string)
set_option linter.unusedVariables false      -- a walk need not use every 'w<i>' (that an integer argument fits its kind)

theorem own : ownKnob Try.prog.godebug = none := by kernel_rfl

/-! ### STEP 1: THE WALK: the Go text returns true. 'Grown w w'': the world has at most new blocks (Derived/RowKit3.lean). Part the cases AHEAD of 'go_enter' where a test parts the walk; take each callee by a contract of your own. -/
theorem walk (a0 : ByteArray) (w0 : a0.size ≤ maxLen) (w : World) :
    Calls Try.prog 3 #[.string a0] w fun e w' => e = .returned (.bool true) ∧ Grown w w' := by
  clear w0
  by_cases hl : a0.size ≤ 1048576
  · go_enter Try.func3, Try.ntmps3
    go_wp2_with fail
    refine (bytes5_yes a0 _ hl).mono ?_
    rintro e w' ⟨rfl, rfl⟩
    go_wp2
    go_loop [3, 4] (fun t i => ∃ (k : Nat) (b : Bool), k ≤ a0.size ∧ t = .bool b ∧ i = .int .i64 k ∧ Hid (b = true ↔ (0 < a0.size ∧ digs a0 k))) (fun _ i => a0.size - (intOf i).toNat)
    case atStart => exact ⟨0, _, Nat.zero_le _, rfl, rfl, ⟨fun h => ⟨by simpa using h, digs_zero _⟩, fun h => by simpa using h.1⟩⟩
    case round =>
      obtain ⟨k, b, hk, rfl, rfl, HB⟩ := hrel
      by_cases hlt : k < a0.size
      · by_cases t : 48 ≤ (a0[k]'hlt).toNat ∧ (a0[k]'hlt).toNat ≤ 57
        · obtain ⟨t1, t2⟩ := t
          have F : Hid (b = true ↔ (0 < a0.size ∧ digs a0 (k + 1))) := ⟨fun h => ⟨(HB.out.1 h).1, digs_step hlt (HB.out.1 h).2 t1 t2⟩, fun h => HB.out.2 ⟨h.1, digs_pred h.2⟩⟩
          go_wp2
          go_round
          case rel => exact ⟨k + 1, b, by omega, rfl, by go_num, F⟩
          case measure => simp [intOf]; omega
        · have F : Hid (false = true ↔ (0 < a0.size ∧ digs a0 (k + 1))) := ⟨fun h => Bool.noConfusion h, fun h => absurd h.2 (digs_not hlt (by omega) t)⟩
          by_cases t1 : 48 ≤ (a0[k]'hlt).toNat
          · have t2 : 57 < (a0[k]'hlt).toNat := by omega
            clear t
            go_wp2
            go_round
            case rel => exact ⟨k + 1, false, by omega, rfl, by go_num, F⟩
            case measure => simp [intOf]; omega
          · clear t
            go_wp2
            go_round
            case rel => exact ⟨k + 1, false, by omega, rfl, by go_num, F⟩
            case measure => simp [intOf]; omega
      · obtain rfl : k = a0.size := by omega
        go_wp2_with fail
        refine (digits6 a0 b _ HB.out).mono ?_
        rintro e w1 ⟨rfl, h⟩
        go_wp2
        go_ret
        exact ⟨ret_bool (by simp), h⟩
  · have hl' : 1048576 < a0.size := by omega
    go_enter Try.func3, Try.ntmps3
    go_wp2_with fail
    refine (bytes5_no a0 _ hl').mono ?_
    rintro e w' ⟨rfl, rfl⟩
    go_wp2
    go_ret
    exact ⟨rfl, Grown.refl _⟩

/-! ### THE ROW's STEP: WRITTEN OUT: LEAVE IT -/
set_option maxRecDepth 100000 in
theorem lifted (os : Os) (started : os.Started) (H : Type) (enc : TypeId × Value → H) :
    ReturnsInHanded {} Try.checked os 3 .any (Rows.fnIsDigitsIsNonEmptyAsciiDigitsSpec.pre6 enc Try.prog Try.f3 Rows.fnIsDigitsIsNonEmptyAsciiDigitsRow.domain false) (Rows.fnIsDigitsIsNonEmptyAsciiDigitsSpec.post enc Try.prog Try.f3 false true false false) := by
  refine returnsInHanded_of_change (C := Try.checked) own started (by kernel_rfl) Try.func3
    (ChangeSpec.witness6 (enc := enc) (C := Try.checked) false ⟨#[], #[.string ByteArray.empty], []⟩ 8 (by kernel_rfl) (by kernel_rfl) (by kernel_rfl) (by kernel_rfl)) ?_
  intro W base args ds gs before hval0 hW hcnd _
  have hval : ∀ (j : Nat) t v, Try.f3.params[j]? = some t → args[j]? = some v → Value.okWide Try.prog W .any base t v := hval0
  have hW' := hW
  obtain ⟨p, q, hA0, hV, rfl, hfz, hnd⟩ := hW
  have hA : DataW.TrodAll enc Try.prog W 0 (fun _ => true) true Try.f3.params.toList args.toList ds p := hA0
  rw [Try.params3] at hA hval
  obtain ⟨v0, vs0, d0, ds0, p0, q0, hargs, rfl, rfl, h0, r0⟩ := trodAll_cons hA
  obtain ⟨rfl, rfl, rfl⟩ := trodAll_nil r0
  obtain rfl : args = #[v0] := by cases args; simp_all
  obtain ⟨rfl, rfl⟩ := trodVars_none hV
  obtain ⟨a0, rfl, rfl, rfl, w0⟩ := open_string Try.underlying9 (hval 0 9 v0 rfl rfl) h0
  clear hA0 hval0
  simp only [List.append_nil] at hW'
  refine (walk a0 w0 W).mono fun e W' ⟨he, hg⟩ => ?_
  subst he
  exact ⟨_, rfl, post_of_same (pa := []) (pv := []) hW' (fun _ _ _ => (trodAll_cons_mk (shut_bool Try.underlying4 _) trodAll_mk0)) (fun sp _ => (trodAll_cons_mk (shut_string Try.underlying9 w0) trodAll_mk0)) (fun _ _ => rfl) rfl
    (hg.frame _) hg.2.1 (ok_one (by kernel_rfl) rfl (okWide_bool_mk Try.underlying4 _))⟩

/-- The row's closed facts. -/
theorem facts : joinedFacts Try.prog 3 Try.f3 Rows.fnIsDigitsIsNonEmptyAsciiDigitsSpec Rows.fnIsDigitsIsNonEmptyAsciiDigitsRow = true := by
  unfold joinedFacts
  rw [Head.mayEnter, Head.liftsFinal, Head.make]
  kernel_rfl

theorem over : Rows.fnIsDigitsIsNonEmptyAsciiDigitsRow.holds Try.pinned (OpenSpec.ofChange Rows.fnIsDigitsIsNonEmptyAsciiDigitsSpec) :=
  OpenClaim.holds_of_wide 3 Try.f3 rfl rfl rfl rfl rfl rfl rfl ⟨rfl, rfl, rfl, rfl, rfl⟩ rfl rfl rfl rfl rfl (by kernel_rfl) Try.func3 facts
    (of_decide_eq_true (by kernel_rfl)) (by unfold Func.isWrapper; first | (rw [if_pos (by decide +kernel)]; kernel_rfl) | (rw [if_neg (by decide +kernel)]; exact ⟨rfl, rfl⟩))
    (fun os started H enc _ => lifted os started H enc)

/-- ████ THE STATEMENT ████ -/
theorem proved : Rows.FnIsDigitsIsNonEmptyAsciiDigitsSaid :=
  over
#print axioms proved
end Go.Proofs.Qxb6603166a.fnIsDigitsIsNonEmptyAsciiDigits
