/-
  'Rows.FnEqualFoldASCIIMatchesBitModelSaid' PROVED. The frame is the shell's, as it was given, but for the row's closed facts ('facts'); the walk is ours.
-/
import Derived.Test.Qxb6603104aRows
import Derived.Test.Qxb6603104aHead
import Derived.Test.Qxb6603104aBytes
import Derived.Test.Qxb6603104aClone
import Derived.Test.Qxb6603104aConcat
import Derived.Test.Qxb6603104aFold
import Derived.WalkKit
import Derived.ProofKit
import Derived.OpenShut
import Derived.ShutString
import Derived.ChangeOld
import Derived.Below
namespace Go.Proofs.Qxb6603104a.fnEqualFoldASCIIMatchesBitModel
open Go.ChangeShapes Go.WideShapes Go.ChangeAt Go.RowKit
open Go.ChangeMaps (open_string shut_string)
set_option linter.unusedVariables false

theorem own : ownKnob Try.prog.godebug = none := by kernel_rfl
theorem laidOut : laidOutB Try.prog = true := by kernel_rfl

/-- WHAT THE WALK IS TOLD OF A SLICE OF INTEGERS THAT CAME IN: it is nil; or it leads to a row of 'cap' cells, the numbers 'zs' (the first 'len' are its elements, the rest its spare room), each fitting its kind. -/
def IsRow (k : IntKind) (w : World) (a : Option Addr) (len cap : Nat) (zs : List Int) : Prop :=
  (a = none ∧ len = 0 ∧ cap = 0 ∧ zs = []) ∨
  ∃ x, a = some x ∧ len ≤ cap ∧ cap ≤ maxLen ∧ zs.length = cap ∧ (∀ i, i < zs.length → w.cell? (x.add i) = some (.int k (zs.getD i 0))) ∧ ∀ n ∈ zs, (Lit.int k n).wf = true

/-! ### STEP 1: THE WALK: the Go text returns true, AND WRITES NOTHING THAT WAS THERE: 'Below w.heap.size w w'' (Derived/Below.lean: '.refl', '.alloc', '.drew', '.setCell' at a new block, '.trans'). Open each 'IsRow' by 'rcases' AHEAD of 'go_enter'; part every test ahead of the walk. -/
theorem walk (a0 : Option Addr) (len0 cap0 : Nat) (z0 : List Int) (a1 : Option Addr) (len1 cap1 : Nat) (z1 : List Int) (w : World) (w0 : IsRow .u8 w a0 len0 cap0 z0) (w1 : IsRow .u8 w a1 len1 cap1 z1) :
    Calls Try.prog 5 #[.slice a0 len0 cap0, .slice a1 len1 cap1] w fun e w' => e = .returned (.bool true) ∧ Below w.heap.size w w' := by
  obtain ⟨A, hA, cA⟩ := came_of w0
  obtain ⟨B, hB, cB⟩ := came_of w1
  clear w0 w1
  by_cases hl : len0 + len1 ≤ 1048576
  · have hl0 : len0 ≤ 1048576 := by omega
    have hl1 : len1 ≤ 1048576 := by omega
    by_cases he : len0 = len1
    · subst he
      have HA : Hid (len0 = A.length) := hA
      have HB : Hid (len0 = B.length) := hB
      clear hA hB
      go_enter Try.func5, Try.ntmps5
      go_wp2_with fail
      refine (bytes13_yes a0 a1 len0 cap0 len0 cap1 _ hl).mono ?_
      rintro e w' ⟨rfl, rfl⟩
      go_wp2_with fail
      refine (clone14n a0 len0 cap0 A _ HA.out cA hl0).mono ?_
      rintro e w1 ⟨ao, c, rfl, rA, b1⟩
      go_wp2_with fail
      refine (clone14n a1 len0 cap1 B _ HB.out (cB.later b1) hl0).mono ?_
      rintro e w2 ⟨ao', c', rfl, rB, b2⟩
      have rA2 := rA.later b2
      have BW := b1.trans (b2.mono b1.size)
      have hsz := BW.size
      clear rA b1 b2 cA cB
      go_wp2
      go_loopw [5, 6] (fun t i wr => ∃ k : Nat, k ≤ len0 ∧ t = .bool true ∧ i = .int .i64 k ∧ Below w2.heap.size w2 wr ∧ ∀ j, j < k → Pl.low (A[j]?.getD 0) = Pl.low (B[j]?.getD 0)) (fun _ i _ => len0 - (intOf i).toNat)
      case atStart => exact ⟨0, Nat.zero_le _, rfl, rfl, Below.refl _ _, fun j hj => absurd hj (by omega)⟩
      case round =>
        obtain ⟨k, hk, rfl, rfl, hbel, hall⟩ := hrel
        by_cases hlt : k < len0
        · have HALL : Hid (∀ j, j < k → Pl.low (A[j]?.getD 0) = Pl.low (B[j]?.getD 0)) := hall
          obtain ⟨g, hg, hgs, c1⟩ := rA2.at (k := k) (by rw [← HA.out]; exact hlt)
          obtain ⟨g', hg', hgs', c2⟩ := rB.at (k := k) (by rw [← HB.out]; exact hlt)
          subst hg hg'
          obtain ⟨ra1, ra2⟩ := rA2.1 k
          obtain ⟨rb1, rb2⟩ := rB.1 k
          replace c1 := (hbel.cell (p := ⟨g, k, none⟩) hgs).trans c1
          replace c2 := (hbel.cell (p := ⟨g', k, none⟩) hgs').trans c2
          obtain ⟨x, hx⟩ : ∃ x, A[k]?.getD 0 = x := ⟨_, rfl⟩
          obtain ⟨y, hy⟩ : ∃ y, B[k]?.getD 0 = y := ⟨_, rfl⟩
          rw [hx] at c1 ra1 ra2
          rw [hy] at c2 rb1 rb2
          have HX : Hid (A[k]?.getD 0 = x) := hx
          have HY : Hid (B[k]?.getD 0 = y) := hy
          have i1 : (k : Int) < (len0 : Int) := by omega
          have i0 : (0 : Int) ≤ (k : Int) := by omega
          clear hall hx hy
          by_cases hs : Pl.low x = Pl.low y
          · have t : Hid (Pl.same x y = true) := same_yes hs
            have F : ∀ j, j < k + 1 → Pl.low (A[j]?.getD 0) = Pl.low (B[j]?.getD 0) := fun j hj => by
              by_cases h : j < k
              · exact HALL.out j h
              · obtain rfl : j = k := by omega
                rw [HX.out, HY.out]
                exact hs
            have F' : Hid (∀ j, j < k + 1 → Pl.low (A[j]?.getD 0) = Pl.low (B[j]?.getD 0)) := F
            clear F hs
            go_wp2
            go_quiet ((go_at_call 15; exact Calls.quiet_of_same (same15_as x y true _ ra1 ra2 rb1 rb2 t.out)))
            go_wp2
            go_roundw
            case rel => exact ⟨k + 1, by omega, rfl, by go_num, draws hbel _, F'.out⟩
            case measure => simp [intOf]; omega
          · have t : Hid (Pl.same x y = false) := same_no hs
            have E : Hid (Pl.eqf A B = false) := Pl.eqf_no (by rw [← HA.out, ← HB.out]) (by rw [← HA.out]; exact hlt) (by rw [HX.out, HY.out]; exact hs)
            clear hs
            go_wp2
            go_quiet ((go_at_call 15; exact Calls.quiet_of_same (same15_as x y false _ ra1 ra2 rb1 rb2 t.out)))
            have rA3 := rA2.later (draws hbel nq)
            have rB3 := rB.later (draws hbel nq)
            go_wp2_with fail
            refine (fold16 _ _ len0 c c' A B false _ HA.out HB.out hl0 rA3 rB3 E.out).mono ?_
            rintro e w5 ⟨rfl, b5⟩
            go_wp2
            go_ret
            exact ⟨rfl, (BW.trans ((draws hbel nq).mono hsz)).trans (b5.mono (Nat.le_trans hsz (draws hbel nq).size))⟩
        · obtain rfl : k = len0 := by omega
          have E : Hid (Pl.eqf A B = true) := Pl.eqf_yes (by rw [← HA.out, ← HB.out]) (by rw [← HA.out]; exact hall)
          clear hall
          have rA3 := rA2.later hbel
          have rB3 := rB.later hbel
          go_wp2_with fail
          refine (fold16 _ _ k c c' A B true _ HA.out HB.out hl0 rA3 rB3 E.out).mono ?_
          rintro e w5 ⟨rfl, b5⟩
          go_wp2
          go_ret
          exact ⟨rfl, (BW.trans (hbel.mono hsz)).trans (b5.mono (Nat.le_trans hsz hbel.size))⟩
    · have q : ((len0 : Int) != (len1 : Int)) = true := by rw [bne_iff_ne]; omega
      clear hA hB cA cB
      go_enter Try.func5, Try.ntmps5
      go_wp2_with fail
      refine (bytes13_yes a0 a1 len0 cap0 len1 cap1 _ hl).mono ?_
      rintro e w' ⟨rfl, rfl⟩
      go_wp2
      go_ret
      exact ⟨rfl, Below.refl _ _⟩
  · have hl' : 1048576 < len0 + len1 := by omega
    clear hA hB cA cB
    go_enter Try.func5, Try.ntmps5
    go_wp2_with fail
    refine (bytes13_no a0 a1 len0 cap0 len1 cap1 _ hl').mono ?_
    rintro e w' ⟨rfl, rfl⟩
    go_wp2
    go_ret
    exact ⟨rfl, Below.refl _ _⟩

/-! ### THE ROW's STEP: WRITTEN OUT: LEAVE IT -/
set_option maxRecDepth 100000 in
theorem lifted (os : Os) (started : os.Started) (H : Type) (enc : TypeId × Value → H) :
    ReturnsInHanded {} Try.checked os 5 .any (Rows.fnEqualFoldASCIIMatchesBitModelSpec.pre6 enc Try.prog Try.f5 Rows.fnEqualFoldASCIIMatchesBitModelRow.domain false) (Rows.fnEqualFoldASCIIMatchesBitModelSpec.post enc Try.prog Try.f5 false true false false) := by
  refine returnsInHanded_of_change (C := Try.checked) own started (by kernel_rfl) Try.func5
    (ChangeSpec.witness6 (enc := enc) (C := Try.checked) false ⟨#[], #[.slice none 0 0, .slice none 0 0], []⟩ 8 (by kernel_rfl) (by kernel_rfl) (by kernel_rfl) (by kernel_rfl)) ?_
  intro W base args ds gs before hval0 hW hcnd _
  have hval : ∀ (j : Nat) t v, Try.f5.params[j]? = some t → args[j]? = some v → Value.okWide Try.prog W .any base t v := hval0
  have hW' := hW
  obtain ⟨p, q, hA0, hV, rfl, hfz, hnd⟩ := hW
  have hA : DataW.TrodAll enc Try.prog W 0 (fun _ => true) true Try.f5.params.toList args.toList ds p := hA0
  rw [Try.params5] at hA hval
  obtain ⟨v0, vs0, d0, ds0, p0, q0, hargs, rfl, rfl, h0, r0⟩ := trodAll_cons hA
  obtain ⟨v1, vs1, d1, ds1, p1, q1, rfl, rfl, rfl, h1, r1⟩ := trodAll_cons r0
  obtain ⟨rfl, rfl, rfl⟩ := trodAll_nil r1
  obtain rfl : args = #[v0, v1] := by cases args; simp_all
  obtain ⟨rfl, rfl⟩ := trodVars_none hV
  obtain ⟨a0, len0, cap0, rfl⟩ := okWide_slice Try.underlying24 (hval 0 24 v0 rfl rfl)
  have k0 := h0
  have lt0 : ∀ x ∈ p0, x.block < W.heap.size := by obtain ⟨m, hm⟩ := k0; exact DataW.trod_lt m _ _ _ hm
  obtain ⟨z0, w0⟩ : ∃ zs, IsRow .u8 W a0 len0 cap0 zs := by
    obtain ⟨fuel, hf⟩ := h0
    rcases open_ints Try.underlying24 Try.underlying5 (by kernel_rfl) hf with ⟨hcs, _⟩ | ⟨x, l, c, zs, hcs, _, hl, hm, hz, _, hcell, hwz⟩
    · simp [Value.cells] at hcs
      obtain ⟨rfl, rfl, rfl⟩ := hcs
      exact ⟨[], .inl ⟨rfl, rfl, rfl, rfl⟩⟩
    · simp [Value.cells] at hcs
      obtain ⟨rfl, rfl, rfl⟩ := hcs
      exact ⟨zs, .inr ⟨_, rfl, hl, hm, by simpa using hz, hcell, hwz⟩⟩
  obtain ⟨a1, len1, cap1, rfl⟩ := okWide_slice Try.underlying24 (hval 1 24 v1 rfl rfl)
  have k1 := h1
  have lt1 : ∀ x ∈ p1, x.block < W.heap.size := by obtain ⟨m, hm⟩ := k1; exact DataW.trod_lt m _ _ _ hm
  obtain ⟨z1, w1⟩ : ∃ zs, IsRow .u8 W a1 len1 cap1 zs := by
    obtain ⟨fuel, hf⟩ := h1
    rcases open_ints Try.underlying24 Try.underlying5 (by kernel_rfl) hf with ⟨hcs, _⟩ | ⟨x, l, c, zs, hcs, _, hl, hm, hz, _, hcell, hwz⟩
    · simp [Value.cells] at hcs
      obtain ⟨rfl, rfl, rfl⟩ := hcs
      exact ⟨[], .inl ⟨rfl, rfl, rfl, rfl⟩⟩
    · simp [Value.cells] at hcs
      obtain ⟨rfl, rfl, rfl⟩ := hcs
      exact ⟨zs, .inr ⟨_, rfl, hl, hm, by simpa using hz, hcell, hwz⟩⟩
  clear hA0 hval0
  refine (walk a0 len0 cap0 z0 a1 len1 cap1 z1 W w0 w1).mono fun e W' ⟨he, bel⟩ => ?_
  subst he
  exact ⟨_, rfl, _, _, _, [], _, [], hW', trodAll_mk1 (shut_bool Try.underlying4 _), (trodAll_cons_mk (Below.trod laidOut (by kernel_rfl) (of_decide_eq_true (by kernel_rfl)) k0 bel lt0) (trodAll_cons_mk (Below.trod laidOut (by kernel_rfl) (of_decide_eq_true (by kernel_rfl)) k1 bel lt1) trodAll_mk0)), rfl, bel.frame _, fun h => by cases h⟩

/-- The row's closed facts. -/
theorem facts : joinedFacts Try.prog 5 Try.f5 Rows.fnEqualFoldASCIIMatchesBitModelSpec Rows.fnEqualFoldASCIIMatchesBitModelRow = true := by
  unfold joinedFacts
  rw [Head.mayEnter, Head.liftsFinal, Head.make]
  kernel_rfl

theorem over : Rows.fnEqualFoldASCIIMatchesBitModelRow.holds Try.pinned (OpenSpec.ofChange Rows.fnEqualFoldASCIIMatchesBitModelSpec) :=
  OpenClaim.holds_of_wide 5 Try.f5 rfl rfl rfl rfl rfl rfl rfl ⟨rfl, rfl, rfl, rfl, rfl⟩ rfl rfl rfl rfl rfl (by kernel_rfl) Try.func5 facts
    (of_decide_eq_true (by kernel_rfl)) (by unfold Func.isWrapper; first | (rw [if_pos (by decide +kernel)]; kernel_rfl) | (rw [if_neg (by decide +kernel)]; exact ⟨rfl, rfl⟩))
    (fun os started H enc _ => lifted os started H enc)

/-- ████ THE STATEMENT ████ -/
theorem proved : Rows.FnEqualFoldASCIIMatchesBitModelSaid := over
#print axioms proved
end Go.Proofs.Qxb6603104a.fnEqualFoldASCIIMatchesBitModel
