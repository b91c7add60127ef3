/-
  'Rows.FnSkipNameShiftsWithPrefixSaid' PROVED. The frame is the shell's, as it was given, but for the row's closed facts ('facts'); the walk is ours.
-/
import Derived.Test.Qxb6603104aRows
import Derived.Test.Qxb6603104aHead
import Derived.Test.Qxb6603104aBytes
import Derived.Test.Qxb6603104aClone
import Derived.Test.Qxb6603104aSkip
import Derived.Test.Qxb6603104aConcat
import Derived.WalkKit
import Derived.ProofKit
import Derived.OpenShut
import Derived.ShutString
import Derived.ChangeOld
import Derived.Below
namespace Go.Proofs.Qxb6603104a.fnSkipNameShiftsWithPrefix
open Go.ChangeShapes Go.WideShapes Go.ChangeAt Go.RowKit
open Go.ChangeMaps (open_string shut_string)
set_option linter.unusedVariables false

theorem own : ownKnob Try.prog.godebug = none := by kernel_rfl
theorem laidOut : laidOutB Try.prog = true := by kernel_rfl

/-- WHAT THE WALK IS TOLD OF A SLICE OF INTEGERS THAT CAME IN: it is nil; or it leads to a row of 'cap' cells, the numbers 'zs' (the first 'len' are its elements, the rest its spare room), each fitting its kind. -/
def IsRow (k : IntKind) (w : World) (a : Option Addr) (len cap : Nat) (zs : List Int) : Prop :=
  (a = none ∧ len = 0 ∧ cap = 0 ∧ zs = []) ∨
  ∃ x, a = some x ∧ len ≤ cap ∧ cap ≤ maxLen ∧ zs.length = cap ∧ (∀ i, i < zs.length → w.cell? (x.add i) = some (.int k (zs.getD i 0))) ∧ ∀ n ∈ zs, (Lit.int k n).wf = true

/-! ### STEP 1: THE WALK: the Go text returns true, AND WRITES NOTHING THAT WAS THERE: 'Below w.heap.size w w'' (Derived/Below.lean: '.refl', '.alloc', '.drew', '.setCell' at a new block, '.trans'). Open each 'IsRow' by 'rcases' AHEAD of 'go_enter'; part every test ahead of the walk. -/
theorem walk (a0 : Option Addr) (len0 cap0 : Nat) (z0 : List Int) (a1 : Option Addr) (len1 cap1 : Nat) (z1 : List Int) (a2 : Int) (w : World) (w0 : IsRow .u8 w a0 len0 cap0 z0) (w1 : IsRow .u8 w a1 len1 cap1 z1) (w2 : (Lit.int .i64 a2).wf = true) :
    Calls Try.prog 9 #[.slice a0 len0 cap0, .slice a1 len1 cap1, .int .i64 a2] w fun e w' => e = .returned (.bool true) ∧ Below w.heap.size w w' := by
  obtain ⟨X, rfl, hX⟩ := came_of w0
  obtain ⟨m, rfl, hm⟩ := came_of w1
  have hx := bounds_i64 w2
  clear w0 w1 w2
  obtain ⟨hx0, hx1⟩ := hx
  by_cases hl : X.length + m.length ≤ 1048576
  · have hlX : X.length ≤ 1048576 := by omega
    have hlm : m.length ≤ 1048576 := by omega
    by_cases ho : a2 < 0
    · go_enter Try.func9, Try.ntmps9
      go_wp2_with fail
      refine (bytes23_yes a0 a1 X.length cap0 m.length cap1 a2 _ hl).mono ?_
      rintro e w' ⟨rfl, rfl⟩
      go_wp2
      go_ret
      exact ⟨rfl, Below.refl _ _⟩
    · by_cases ho2 : 1073741824 < a2
      · go_enter Try.func9, Try.ntmps9
        go_wp2_with fail
        refine (bytes23_yes a0 a1 X.length cap0 m.length cap1 a2 _ hl).mono ?_
        rintro e w' ⟨rfl, rfl⟩
        go_wp2
        go_ret
        exact ⟨rfl, Below.refl _ _⟩
      · have ho' : 0 ≤ a2 := by omega
        have hj : (a2 + (X.length : Int)).toNat = a2.toNat + X.length := by omega
        have hs := Pl.sk_shift X m m.length a2.toNat (by omega)
        have hg := Pl.sk_range m m.length a2.toNat (by omega)
        obtain ⟨r, hr⟩ : ∃ r, Pl.sk m a2.toNat = r := ⟨_, rfl⟩
        obtain ⟨s, hs2⟩ : ∃ s, Pl.sk (X ++ m) (a2 + (X.length : Int)).toNat = s := ⟨_, rfl⟩
        have HR : Hid (Pl.sk m a2.toNat = r) := hr
        have HS : Hid (Pl.sk (X ++ m) (a2 + (X.length : Int)).toNat = s) := hs2
        rw [← hj, hs2, hr] at hs
        rw [hr] at hg
        have g1 : -1 ≤ r := by omega
        have g2 : r ≤ 1048576 := by omega
        have HT : Hid (s = if r = -1 then -1 else r + X.length) := hs
        clear hs hg hr hs2 hj
        by_cases hr1 : r = -1
        · have t : (r == -1) = true := beq_iff_eq.2 hr1
          have u : (s == -1) = true := by rw [HT.out, if_pos hr1]; rfl
          clear hr1
          go_enter Try.func9, Try.ntmps9
          go_wp2_with fail
          refine (bytes23_yes a0 a1 X.length cap0 m.length cap1 a2 _ hl).mono ?_
          rintro e w' ⟨rfl, rfl⟩
          go_wp2_with fail
          refine (clone14 a0 cap0 X _ hX hlX).mono ?_
          rintro e w1 ⟨ao, c, rfl, rX, b1⟩
          go_wp2_with fail
          refine (clone14 a1 cap1 m _ (hm.later b1) hlm).mono ?_
          rintro e w2 ⟨ao', c', rfl, rm, b2⟩
          have rX2 := rX.later b2
          go_wp2_with fail
          refine (skip21_as ao' m.length c' m a2 r _ rfl rm ho' hx1 hlm HR.out).mono ?_
          rintro e w' ⟨rfl, rfl⟩
          go_wp2_with fail
          refine (concat24 ao ao' X.length c m.length c' X m _ rfl rfl rX2 rm hl).mono ?_
          rintro e w3 ⟨rfl, rJ, b3⟩
          go_wp2_with fail
          refine (skip21_as _ _ _ (X ++ m) _ s _ (by simp) rJ (by omega) (by omega) (by simp; omega) HS.out).mono ?_
          rintro e w' ⟨rfl, rfl⟩
          go_wp2
          go_ret
          exact ⟨rfl, (b1.trans (b2.mono b1.size)).trans (b3.mono (Nat.le_trans b1.size b2.size))⟩
        · have t : (r == -1) = false := beq_eq_false_iff_ne.2 hr1
          have u : (s == r + (X.length : Int)) = true := by rw [HT.out, if_neg hr1]; simp
          clear hr1
          go_enter Try.func9, Try.ntmps9
          go_wp2_with fail
          refine (bytes23_yes a0 a1 X.length cap0 m.length cap1 a2 _ hl).mono ?_
          rintro e w' ⟨rfl, rfl⟩
          go_wp2_with fail
          refine (clone14 a0 cap0 X _ hX hlX).mono ?_
          rintro e w1 ⟨ao, c, rfl, rX, b1⟩
          go_wp2_with fail
          refine (clone14 a1 cap1 m _ (hm.later b1) hlm).mono ?_
          rintro e w2 ⟨ao', c', rfl, rm, b2⟩
          have rX2 := rX.later b2
          go_wp2_with fail
          refine (skip21_as ao' m.length c' m a2 r _ rfl rm ho' hx1 hlm HR.out).mono ?_
          rintro e w' ⟨rfl, rfl⟩
          go_wp2_with fail
          refine (concat24 ao ao' X.length c m.length c' X m _ rfl rfl rX2 rm hl).mono ?_
          rintro e w3 ⟨rfl, rJ, b3⟩
          go_wp2_with fail
          refine (skip21_as _ _ _ (X ++ m) _ s _ (by simp) rJ (by omega) (by omega) (by simp; omega) HS.out).mono ?_
          rintro e w' ⟨rfl, rfl⟩
          go_wp2
          go_ret
          exact ⟨rfl, (b1.trans (b2.mono b1.size)).trans (b3.mono (Nat.le_trans b1.size b2.size))⟩
  · have hl' : 1048576 < X.length + m.length := by omega
    go_enter Try.func9, Try.ntmps9
    go_wp2_with fail
    refine (bytes23_no a0 a1 X.length cap0 m.length cap1 a2 _ hl').mono ?_
    rintro e w' ⟨rfl, rfl⟩
    go_wp2
    go_ret
    exact ⟨rfl, Below.refl _ _⟩

/-! ### THE ROW's STEP: WRITTEN OUT: LEAVE IT -/
set_option maxRecDepth 100000 in
theorem lifted (os : Os) (started : os.Started) (H : Type) (enc : TypeId × Value → H) :
    ReturnsInHanded {} Try.checked os 9 .any (Rows.fnSkipNameShiftsWithPrefixSpec.pre6 enc Try.prog Try.f9 Rows.fnSkipNameShiftsWithPrefixRow.domain false) (Rows.fnSkipNameShiftsWithPrefixSpec.post enc Try.prog Try.f9 false true false false) := by
  refine returnsInHanded_of_change (C := Try.checked) own started (by kernel_rfl) Try.func9
    (ChangeSpec.witness6 (enc := enc) (C := Try.checked) false ⟨#[], #[.slice none 0 0, .slice none 0 0, .int .i64 0], []⟩ 8 (by kernel_rfl) (by kernel_rfl) (by kernel_rfl) (by kernel_rfl)) ?_
  intro W base args ds gs before hval0 hW hcnd _
  have hval : ∀ (j : Nat) t v, Try.f9.params[j]? = some t → args[j]? = some v → Value.okWide Try.prog W .any base t v := hval0
  have hW' := hW
  obtain ⟨p, q, hA0, hV, rfl, hfz, hnd⟩ := hW
  have hA : DataW.TrodAll enc Try.prog W 0 (fun _ => true) true Try.f9.params.toList args.toList ds p := hA0
  rw [Try.params9] at hA hval
  obtain ⟨v0, vs0, d0, ds0, p0, q0, hargs, rfl, rfl, h0, r0⟩ := trodAll_cons hA
  obtain ⟨v1, vs1, d1, ds1, p1, q1, rfl, rfl, rfl, h1, r1⟩ := trodAll_cons r0
  obtain ⟨v2, vs2, d2, ds2, p2, q2, rfl, rfl, rfl, h2, r2⟩ := trodAll_cons r1
  obtain ⟨rfl, rfl, rfl⟩ := trodAll_nil r2
  obtain rfl : args = #[v0, v1, v2] := by cases args; simp_all
  obtain ⟨rfl, rfl⟩ := trodVars_none hV
  obtain ⟨a0, len0, cap0, rfl⟩ := okWide_slice Try.underlying24 (hval 0 24 v0 rfl rfl)
  have k0 := h0
  have lt0 : ∀ x ∈ p0, x.block < W.heap.size := by obtain ⟨m, hm⟩ := k0; exact DataW.trod_lt m _ _ _ hm
  obtain ⟨z0, w0⟩ : ∃ zs, IsRow .u8 W a0 len0 cap0 zs := by
    obtain ⟨fuel, hf⟩ := h0
    rcases open_ints Try.underlying24 Try.underlying5 (by kernel_rfl) hf with ⟨hcs, _⟩ | ⟨x, l, c, zs, hcs, _, hl, hm, hz, _, hcell, hwz⟩
    · simp [Value.cells] at hcs
      obtain ⟨rfl, rfl, rfl⟩ := hcs
      exact ⟨[], .inl ⟨rfl, rfl, rfl, rfl⟩⟩
    · simp [Value.cells] at hcs
      obtain ⟨rfl, rfl, rfl⟩ := hcs
      exact ⟨zs, .inr ⟨_, rfl, hl, hm, by simpa using hz, hcell, hwz⟩⟩
  obtain ⟨a1, len1, cap1, rfl⟩ := okWide_slice Try.underlying24 (hval 1 24 v1 rfl rfl)
  have k1 := h1
  have lt1 : ∀ x ∈ p1, x.block < W.heap.size := by obtain ⟨m, hm⟩ := k1; exact DataW.trod_lt m _ _ _ hm
  obtain ⟨z1, w1⟩ : ∃ zs, IsRow .u8 W a1 len1 cap1 zs := by
    obtain ⟨fuel, hf⟩ := h1
    rcases open_ints Try.underlying24 Try.underlying5 (by kernel_rfl) hf with ⟨hcs, _⟩ | ⟨x, l, c, zs, hcs, _, hl, hm, hz, _, hcell, hwz⟩
    · simp [Value.cells] at hcs
      obtain ⟨rfl, rfl, rfl⟩ := hcs
      exact ⟨[], .inl ⟨rfl, rfl, rfl, rfl⟩⟩
    · simp [Value.cells] at hcs
      obtain ⟨rfl, rfl, rfl⟩ := hcs
      exact ⟨zs, .inr ⟨_, rfl, hl, hm, by simpa using hz, hcell, hwz⟩⟩
  obtain ⟨a2, rfl, rfl, rfl, w2⟩ := open_int Try.underlying3 (hval 2 3 v2 rfl rfl) h2
  clear hA0 hval0
  refine (walk a0 len0 cap0 z0 a1 len1 cap1 z1 a2 W w0 w1 w2).mono fun e W' ⟨he, bel⟩ => ?_
  subst he
  exact ⟨_, rfl, _, _, _, [], _, [], hW', trodAll_mk1 (shut_bool Try.underlying4 _), (trodAll_cons_mk (Below.trod laidOut (by kernel_rfl) (of_decide_eq_true (by kernel_rfl)) k0 bel lt0) (trodAll_cons_mk (Below.trod laidOut (by kernel_rfl) (of_decide_eq_true (by kernel_rfl)) k1 bel lt1) (trodAll_cons_mk (shut_int Try.underlying3 w2) trodAll_mk0))), rfl, bel.frame _, fun h => by cases h⟩

/-- The row's closed facts. -/
theorem facts : joinedFacts Try.prog 9 Try.f9 Rows.fnSkipNameShiftsWithPrefixSpec Rows.fnSkipNameShiftsWithPrefixRow = true := by
  unfold joinedFacts
  rw [Head.mayEnter, Head.liftsFinal, Head.make]
  kernel_rfl

theorem over : Rows.fnSkipNameShiftsWithPrefixRow.holds Try.pinned (OpenSpec.ofChange Rows.fnSkipNameShiftsWithPrefixSpec) :=
  OpenClaim.holds_of_wide 9 Try.f9 rfl rfl rfl rfl rfl rfl rfl ⟨rfl, rfl, rfl, rfl, rfl⟩ rfl rfl rfl rfl rfl (by kernel_rfl) Try.func9 facts
    (of_decide_eq_true (by kernel_rfl)) (by unfold Func.isWrapper; first | (rw [if_pos (by decide +kernel)]; kernel_rfl) | (rw [if_neg (by decide +kernel)]; exact ⟨rfl, rfl⟩))
    (fun os started H enc _ => lifted os started H enc)

/-- ████ THE STATEMENT ████ -/
theorem proved : Rows.FnSkipNameShiftsWithPrefixSaid := over
#print axioms proved
end Go.Proofs.Qxb6603104a.fnSkipNameShiftsWithPrefix
