/-
  'Rows.FnEqualFoldASCIISymmetricReflexiveCaseBlindSaid' PROVED. The frame is the shell's, as it was given, but for the row's closed facts ('facts'); the walk is ours.
-/
import Derived.Test.Qxb6603104aRows
import Derived.Test.Qxb6603104aHead
import Derived.Test.Qxb6603104aBytes
import Derived.Test.Qxb6603104aClone
import Derived.Test.Qxb6603104aConcat
import Derived.Test.Qxb6603104aFold
import Derived.Test.Qxb6603104aUpper
import Derived.WalkKit
import Derived.ProofKit
import Derived.OpenShut
import Derived.ShutString
import Derived.ChangeOld
import Derived.Below
namespace Go.Proofs.Qxb6603104a.fnEqualFoldASCIISymmetricReflexiveCaseBlind
open Go.ChangeShapes Go.WideShapes Go.ChangeAt Go.RowKit
open Go.ChangeMaps (open_string shut_string)
set_option linter.unusedVariables false

theorem own : ownKnob Try.prog.godebug = none := by kernel_rfl
theorem laidOut : laidOutB Try.prog = true := by kernel_rfl

/-- WHAT THE WALK IS TOLD OF A SLICE OF INTEGERS THAT CAME IN: it is nil; or it leads to a row of 'cap' cells, the numbers 'zs' (the first 'len' are its elements, the rest its spare room), each fitting its kind. -/
def IsRow (k : IntKind) (w : World) (a : Option Addr) (len cap : Nat) (zs : List Int) : Prop :=
  (a = none ∧ len = 0 ∧ cap = 0 ∧ zs = []) ∨
  ∃ x, a = some x ∧ len ≤ cap ∧ cap ≤ maxLen ∧ zs.length = cap ∧ (∀ i, i < zs.length → w.cell? (x.add i) = some (.int k (zs.getD i 0))) ∧ ∀ n ∈ zs, (Lit.int k n).wf = true

/-! ### STEP 1: THE WALK: the Go text returns true, AND WRITES NOTHING THAT WAS THERE: 'Below w.heap.size w w'' (Derived/Below.lean: '.refl', '.alloc', '.drew', '.setCell' at a new block, '.trans'). Open each 'IsRow' by 'rcases' AHEAD of 'go_enter'; part every test ahead of the walk. -/
theorem walk (a0 : Option Addr) (len0 cap0 : Nat) (z0 : List Int) (a1 : Option Addr) (len1 cap1 : Nat) (z1 : List Int) (w : World) (w0 : IsRow .u8 w a0 len0 cap0 z0) (w1 : IsRow .u8 w a1 len1 cap1 z1) :
    Calls Try.prog 6 #[.slice a0 len0 cap0, .slice a1 len1 cap1] w fun e w' => e = .returned (.bool true) ∧ Below w.heap.size w w' := by
  obtain ⟨A, hA, cA⟩ := came_of w0
  obtain ⟨B, hB, cB⟩ := came_of w1
  clear w0 w1
  by_cases hl : len0 + len1 ≤ 1048576
  · have hl0 : len0 ≤ 1048576 := by omega
    have hl1 : len1 ≤ 1048576 := by omega
    by_cases he : len0 = len1
    · subst he
      have HA : Hid (len0 = A.length) := hA
      have HB : Hid (len0 = B.length) := hB
      have HU : Hid (len0 = (A.map Pl.upp).length) := by show _ = _; rw [List.length_map]; exact hA
      clear hA hB
      obtain ⟨r, hr⟩ : ∃ r, Pl.eqf A B = r := ⟨_, rfl⟩
      have R1 : Hid (Pl.eqf A B = r) := hr
      have R2 : Hid (Pl.eqf B A = r) := by show _ = _; rw [Pl.eqf_symm]; exact hr
      have R3 : Hid (Pl.eqf (A.map Pl.upp) B = r) := by show _ = _; rw [Pl.eqf_upp_left]; exact hr
      have S1 : Hid (Pl.eqf A (A.map Pl.upp) = true) := by show _ = _; rw [Pl.eqf_upp_right]; exact Pl.eqf_refl A
      have S2 : Hid (Pl.eqf (A.map Pl.upp) A = true) := by show _ = _; rw [Pl.eqf_upp_left]; exact Pl.eqf_refl A
      clear hr
      go_enter Try.func6, Try.ntmps6
      go_wp2_with fail
      refine (bytes17_yes a0 a1 len0 cap0 len0 cap1 _ hl).mono ?_
      rintro e w' ⟨rfl, rfl⟩
      go_wp2_with fail
      refine (clone14n a0 len0 cap0 A _ HA.out cA hl0).mono ?_
      rintro e w1 ⟨ao, c, rfl, rA, b1⟩
      go_wp2_with fail
      refine (clone14n a1 len0 cap1 B _ HB.out (cB.later b1) hl0).mono ?_
      rintro e w2 ⟨ao', c', rfl, rB, b2⟩
      replace rA := rA.later b2
      have BW := b1.trans (b2.mono b1.size)
      clear b1 b2 cA cB
      go_wp2_with fail
      refine (fold16 ao ao' len0 c c' A B r _ HA.out HB.out hl0 rA rB R1.out).mono ?_
      rintro e w3 ⟨rfl, b3⟩
      replace rA := rA.later b3
      replace rB := rB.later b3
      replace BW := BW.trans (b3.mono BW.size)
      clear b3
      go_wp2_with fail
      refine (fold16 ao' ao len0 c' c B A r _ HB.out HA.out hl0 rB rA R2.out).mono ?_
      rintro e w4 ⟨rfl, b4⟩
      replace rA := rA.later b4
      replace rB := rB.later b4
      replace BW := BW.trans (b4.mono BW.size)
      clear b4
      have q : (r != r) = false := by simp
      go_wp2_with fail
      refine (fold16 ao ao len0 c c A A true _ HA.out HA.out hl0 rA rA (Pl.eqf_refl A)).mono ?_
      rintro e w5 ⟨rfl, b5⟩
      replace rA := rA.later b5
      replace rB := rB.later b5
      replace BW := BW.trans (b5.mono BW.size)
      clear b5
      go_wp2_with fail
      refine (upper18 ao len0 c A _ HA.out rA hl0).mono ?_
      rintro e w6 ⟨rfl, rU, b6⟩
      replace rA := rA.later b6
      replace rB := rB.later b6
      replace BW := BW.trans (b6.mono BW.size)
      clear b6
      go_wp2_with fail
      refine (fold16 ao _ len0 c len0 A (A.map Pl.upp) true _ HA.out HU.out hl0 rA rU S1.out).mono ?_
      rintro e w7 ⟨rfl, b7⟩
      replace rA := rA.later b7
      replace rB := rB.later b7
      replace rU := rU.later b7
      replace BW := BW.trans (b7.mono BW.size)
      clear b7
      go_wp2_with fail
      refine (fold16 _ ao len0 len0 c (A.map Pl.upp) A true _ HU.out HA.out hl0 rU rA S2.out).mono ?_
      rintro e w8 ⟨rfl, b8⟩
      replace rA := rA.later b8
      replace rB := rB.later b8
      replace rU := rU.later b8
      replace BW := BW.trans (b8.mono BW.size)
      clear b8
      go_wp2_with fail
      refine (fold16 _ ao' len0 len0 c' (A.map Pl.upp) B r _ HU.out HB.out hl0 rU rB R3.out).mono ?_
      rintro e w9 ⟨rfl, b9⟩
      replace BW := BW.trans (b9.mono BW.size)
      clear b9
      go_wp2
      go_ret
      exact ⟨ret_bool (by simp), BW⟩
    · have q : ((len0 : Int) != (len1 : Int)) = true := by rw [bne_iff_ne]; omega
      clear hA hB cA cB
      go_enter Try.func6, Try.ntmps6
      go_wp2_with fail
      refine (bytes17_yes a0 a1 len0 cap0 len1 cap1 _ hl).mono ?_
      rintro e w' ⟨rfl, rfl⟩
      go_wp2
      go_ret
      exact ⟨rfl, Below.refl _ _⟩
  · have hl' : 1048576 < len0 + len1 := by omega
    clear hA hB cA cB
    go_enter Try.func6, Try.ntmps6
    go_wp2_with fail
    refine (bytes17_no a0 a1 len0 cap0 len1 cap1 _ hl').mono ?_
    rintro e w' ⟨rfl, rfl⟩
    go_wp2
    go_ret
    exact ⟨rfl, Below.refl _ _⟩

/-! ### THE ROW's STEP: WRITTEN OUT: LEAVE IT -/
set_option maxRecDepth 100000 in
theorem lifted (os : Os) (started : os.Started) (H : Type) (enc : TypeId × Value → H) :
    ReturnsInHanded {} Try.checked os 6 .any (Rows.fnEqualFoldASCIISymmetricReflexiveCaseBlindSpec.pre6 enc Try.prog Try.f6 Rows.fnEqualFoldASCIISymmetricReflexiveCaseBlindRow.domain false) (Rows.fnEqualFoldASCIISymmetricReflexiveCaseBlindSpec.post enc Try.prog Try.f6 false true false false) := by
  refine returnsInHanded_of_change (C := Try.checked) own started (by kernel_rfl) Try.func6
    (ChangeSpec.witness6 (enc := enc) (C := Try.checked) false ⟨#[], #[.slice none 0 0, .slice none 0 0], []⟩ 8 (by kernel_rfl) (by kernel_rfl) (by kernel_rfl) (by kernel_rfl)) ?_
  intro W base args ds gs before hval0 hW hcnd _
  have hval : ∀ (j : Nat) t v, Try.f6.params[j]? = some t → args[j]? = some v → Value.okWide Try.prog W .any base t v := hval0
  have hW' := hW
  obtain ⟨p, q, hA0, hV, rfl, hfz, hnd⟩ := hW
  have hA : DataW.TrodAll enc Try.prog W 0 (fun _ => true) true Try.f6.params.toList args.toList ds p := hA0
  rw [Try.params6] at hA hval
  obtain ⟨v0, vs0, d0, ds0, p0, q0, hargs, rfl, rfl, h0, r0⟩ := trodAll_cons hA
  obtain ⟨v1, vs1, d1, ds1, p1, q1, rfl, rfl, rfl, h1, r1⟩ := trodAll_cons r0
  obtain ⟨rfl, rfl, rfl⟩ := trodAll_nil r1
  obtain rfl : args = #[v0, v1] := by cases args; simp_all
  obtain ⟨rfl, rfl⟩ := trodVars_none hV
  obtain ⟨a0, len0, cap0, rfl⟩ := okWide_slice Try.underlying24 (hval 0 24 v0 rfl rfl)
  have k0 := h0
  have lt0 : ∀ x ∈ p0, x.block < W.heap.size := by obtain ⟨m, hm⟩ := k0; exact DataW.trod_lt m _ _ _ hm
  obtain ⟨z0, w0⟩ : ∃ zs, IsRow .u8 W a0 len0 cap0 zs := by
    obtain ⟨fuel, hf⟩ := h0
    rcases open_ints Try.underlying24 Try.underlying5 (by kernel_rfl) hf with ⟨hcs, _⟩ | ⟨x, l, c, zs, hcs, _, hl, hm, hz, _, hcell, hwz⟩
    · simp [Value.cells] at hcs
      obtain ⟨rfl, rfl, rfl⟩ := hcs
      exact ⟨[], .inl ⟨rfl, rfl, rfl, rfl⟩⟩
    · simp [Value.cells] at hcs
      obtain ⟨rfl, rfl, rfl⟩ := hcs
      exact ⟨zs, .inr ⟨_, rfl, hl, hm, by simpa using hz, hcell, hwz⟩⟩
  obtain ⟨a1, len1, cap1, rfl⟩ := okWide_slice Try.underlying24 (hval 1 24 v1 rfl rfl)
  have k1 := h1
  have lt1 : ∀ x ∈ p1, x.block < W.heap.size := by obtain ⟨m, hm⟩ := k1; exact DataW.trod_lt m _ _ _ hm
  obtain ⟨z1, w1⟩ : ∃ zs, IsRow .u8 W a1 len1 cap1 zs := by
    obtain ⟨fuel, hf⟩ := h1
    rcases open_ints Try.underlying24 Try.underlying5 (by kernel_rfl) hf with ⟨hcs, _⟩ | ⟨x, l, c, zs, hcs, _, hl, hm, hz, _, hcell, hwz⟩
    · simp [Value.cells] at hcs
      obtain ⟨rfl, rfl, rfl⟩ := hcs
      exact ⟨[], .inl ⟨rfl, rfl, rfl, rfl⟩⟩
    · simp [Value.cells] at hcs
      obtain ⟨rfl, rfl, rfl⟩ := hcs
      exact ⟨zs, .inr ⟨_, rfl, hl, hm, by simpa using hz, hcell, hwz⟩⟩
  clear hA0 hval0
  refine (walk a0 len0 cap0 z0 a1 len1 cap1 z1 W w0 w1).mono fun e W' ⟨he, bel⟩ => ?_
  subst he
  exact ⟨_, rfl, _, _, _, [], _, [], hW', trodAll_mk1 (shut_bool Try.underlying4 _), (trodAll_cons_mk (Below.trod laidOut (by kernel_rfl) (of_decide_eq_true (by kernel_rfl)) k0 bel lt0) (trodAll_cons_mk (Below.trod laidOut (by kernel_rfl) (of_decide_eq_true (by kernel_rfl)) k1 bel lt1) trodAll_mk0)), rfl, bel.frame _, fun h => by cases h⟩

/-- The row's closed facts. -/
theorem facts : joinedFacts Try.prog 6 Try.f6 Rows.fnEqualFoldASCIISymmetricReflexiveCaseBlindSpec Rows.fnEqualFoldASCIISymmetricReflexiveCaseBlindRow = true := by
  unfold joinedFacts
  rw [Head.mayEnter, Head.liftsFinal, Head.make]
  kernel_rfl

theorem over : Rows.fnEqualFoldASCIISymmetricReflexiveCaseBlindRow.holds Try.pinned (OpenSpec.ofChange Rows.fnEqualFoldASCIISymmetricReflexiveCaseBlindSpec) :=
  OpenClaim.holds_of_wide 6 Try.f6 rfl rfl rfl rfl rfl rfl rfl ⟨rfl, rfl, rfl, rfl, rfl⟩ rfl rfl rfl rfl rfl (by kernel_rfl) Try.func6 facts
    (of_decide_eq_true (by kernel_rfl)) (by unfold Func.isWrapper; first | (rw [if_pos (by decide +kernel)]; kernel_rfl) | (rw [if_neg (by decide +kernel)]; exact ⟨rfl, rfl⟩))
    (fun os started H enc _ => lifted os started H enc)

/-- ████ THE STATEMENT ████ -/
theorem proved : Rows.FnEqualFoldASCIISymmetricReflexiveCaseBlindSaid := over
#print axioms proved
end Go.Proofs.Qxb6603104a.fnEqualFoldASCIISymmetricReflexiveCaseBlind
