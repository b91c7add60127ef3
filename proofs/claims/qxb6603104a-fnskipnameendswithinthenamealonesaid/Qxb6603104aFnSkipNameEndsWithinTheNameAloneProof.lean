/-
  'Rows.FnSkipNameEndsWithinTheNameAloneSaid' PROVED. The frame is the shell's, as it was given, but for the row's closed facts ('facts'); the walk is ours.
-/
import Derived.Test.Qxb6603104aRows
import Derived.Test.Qxb6603104aHead
import Derived.Test.Qxb6603104aBytes
import Derived.Test.Qxb6603104aClone
import Derived.Test.Qxb6603104aSkip
import Derived.Test.Qxb6603104aConcat
import Derived.WalkKit
import Derived.ProofKit
import Derived.OpenShut
import Derived.ShutString
import Derived.ChangeOld
import Derived.Below
namespace Go.Proofs.Qxb6603104a.fnSkipNameEndsWithinTheNameAlone
open Go.ChangeShapes Go.WideShapes Go.ChangeAt Go.RowKit
open Go.ChangeMaps (open_string shut_string)
set_option linter.unusedVariables false

theorem own : ownKnob Try.prog.godebug = none := by kernel_rfl
theorem laidOut : laidOutB Try.prog = true := by kernel_rfl

/-- WHAT THE WALK IS TOLD OF A SLICE OF INTEGERS THAT CAME IN: it is nil; or it leads to a row of 'cap' cells, the numbers 'zs' (the first 'len' are its elements, the rest its spare room), each fitting its kind. -/
def IsRow (k : IntKind) (w : World) (a : Option Addr) (len cap : Nat) (zs : List Int) : Prop :=
  (a = none ∧ len = 0 ∧ cap = 0 ∧ zs = []) ∨
  ∃ x, a = some x ∧ len ≤ cap ∧ cap ≤ maxLen ∧ zs.length = cap ∧ (∀ i, i < zs.length → w.cell? (x.add i) = some (.int k (zs.getD i 0))) ∧ ∀ n ∈ zs, (Lit.int k n).wf = true

/-! ### STEP 1: THE WALK: the Go text returns true, AND WRITES NOTHING THAT WAS THERE: 'Below w.heap.size w w'' (Derived/Below.lean: '.refl', '.alloc', '.drew', '.setCell' at a new block, '.trans'). Open each 'IsRow' by 'rcases' AHEAD of 'go_enter'; part every test ahead of the walk. -/
theorem walk (a0 : Option Addr) (len0 cap0 : Nat) (z0 : List Int) (a1 : Option Addr) (len1 cap1 : Nat) (z1 : List Int) (a2 : Int) (w : World) (w0 : IsRow .u8 w a0 len0 cap0 z0) (w1 : IsRow .u8 w a1 len1 cap1 z1) (w2 : (Lit.int .i64 a2).wf = true) :
    Calls Try.prog 10 #[.slice a0 len0 cap0, .slice a1 len1 cap1, .int .i64 a2] w fun e w' => e = .returned (.bool true) ∧ Below w.heap.size w w' := by
  obtain ⟨m, rfl, hm⟩ := came_of w0
  obtain ⟨t, rfl, ht⟩ := came_of w1
  have hx := bounds_i64 w2
  clear w0 w1 w2
  obtain ⟨hx0, hx1⟩ := hx
  by_cases hl : m.length + t.length ≤ 1048576
  · have hlm : m.length ≤ 1048576 := by omega
    have hlt : t.length ≤ 1048576 := by omega
    by_cases ho : a2 < 0
    · go_enter Try.func10, Try.ntmps10
      go_wp2_with fail
      refine (bytes25_yes a0 a1 m.length cap0 t.length cap1 a2 _ hl).mono ?_
      rintro e w' ⟨rfl, rfl⟩
      go_wp2
      go_ret
      exact ⟨rfl, Below.refl _ _⟩
    · have ho' : 0 ≤ a2 := by omega
      clear ho
      obtain ⟨r, hr⟩ : ∃ r, Pl.sk m a2.toNat = r := ⟨_, rfl⟩
      obtain ⟨s, hs⟩ : ∃ s, Pl.sk (m ++ t) a2.toNat = s := ⟨_, rfl⟩
      have HR : Hid (Pl.sk m a2.toNat = r) := hr
      have HS : Hid (Pl.sk (m ++ t) a2.toNat = s) := hs
      have hp := Pl.sk_past m t m.length a2.toNat (by omega)
      have hg := Pl.sk_range m m.length a2.toNat (by omega)
      have hk := Pl.sk_keeps m (m ++ t) m.length a2.toNat (by omega)
      have hc := fun n => Pl.sk_keeps m (m.take n) m.length a2.toNat (by omega)
      rw [hr] at hg
      by_cases hr1 : r = -1
      · have q : (r == -1) = true := beq_iff_eq.2 hr1
        have hp' := hp (hr.trans hr1)
        rw [hs] at hp'
        clear hp hk hc hg hr hs hr1
        by_cases hs1 : s = -1
        · have u : (s == -1) = true := beq_iff_eq.2 hs1
          clear hs1 hp'
          go_enter Try.func10, Try.ntmps10
          go_wp2_with fail
          refine (bytes25_yes a0 a1 m.length cap0 t.length cap1 a2 _ hl).mono ?_
          rintro e w' ⟨rfl, rfl⟩
          go_wp2_with fail
          refine (clone14 a0 cap0 m _ hm hlm).mono ?_
          rintro e w1 ⟨ao, c, rfl, rm, b1⟩
          go_wp2_with fail
          refine (clone14 a1 cap1 t _ (ht.later b1) hlt).mono ?_
          rintro e w2 ⟨ao', c', rfl, rt, b2⟩
          have rm2 := rm.later b2
          go_wp2_with fail
          refine (skip21_as ao m.length c m a2 r _ rfl rm2 ho' hx1 hlm HR.out).mono ?_
          rintro e w' ⟨rfl, rfl⟩
          go_wp2_with fail
          refine (concat24 ao ao' m.length c t.length c' m t _ rfl rfl rm2 rt hl).mono ?_
          rintro e w3 ⟨rfl, rJ, b3⟩
          go_wp2_with fail
          refine (skip21_as _ _ _ (m ++ t) _ s _ (by simp) rJ ho' hx1 (by simp; omega) HS.out).mono ?_
          rintro e w' ⟨rfl, rfl⟩
          go_wp2
          go_ret
          exact ⟨rfl, (b1.trans (b2.mono b1.size)).trans (b3.mono (Nat.le_trans b1.size b2.size))⟩
        · have u : (s == -1) = false := beq_eq_false_iff_ne.2 hs1
          have v : (m.length : Int) < s := by omega
          clear hs1 hp'
          go_enter Try.func10, Try.ntmps10
          go_wp2_with fail
          refine (bytes25_yes a0 a1 m.length cap0 t.length cap1 a2 _ hl).mono ?_
          rintro e w' ⟨rfl, rfl⟩
          go_wp2_with fail
          refine (clone14 a0 cap0 m _ hm hlm).mono ?_
          rintro e w1 ⟨ao, c, rfl, rm, b1⟩
          go_wp2_with fail
          refine (clone14 a1 cap1 t _ (ht.later b1) hlt).mono ?_
          rintro e w2 ⟨ao', c', rfl, rt, b2⟩
          have rm2 := rm.later b2
          go_wp2_with fail
          refine (skip21_as ao m.length c m a2 r _ rfl rm2 ho' hx1 hlm HR.out).mono ?_
          rintro e w' ⟨rfl, rfl⟩
          go_wp2_with fail
          refine (concat24 ao ao' m.length c t.length c' m t _ rfl rfl rm2 rt hl).mono ?_
          rintro e w3 ⟨rfl, rJ, b3⟩
          go_wp2_with fail
          refine (skip21_as _ _ _ (m ++ t) _ s _ (by simp) rJ ho' hx1 (by simp; omega) HS.out).mono ?_
          rintro e w' ⟨rfl, rfl⟩
          go_wp2
          go_ret
          exact ⟨rfl, (b1.trans (b2.mono b1.size)).trans (b3.mono (Nat.le_trans b1.size b2.size))⟩
      · have g1 : a2 < r := by omega
        have g2 : r ≤ m.length := by omega
        have q : (r == -1) = false := beq_eq_false_iff_ne.2 hr1
        rw [hr, hs] at hk
        have es : s = r := hk hr1 (by simp; omega) (fun i hi => by rw [List.getElem?_append_left (by omega)])
        subst es
        obtain ⟨n, rfl⟩ := Int.eq_ofNat_of_zero_le (show 0 ≤ s by omega)
        have HC : Hid (Pl.sk (m.take n) a2.toNat = (n : Int)) := by
          have := hc n
          rw [hr] at this
          exact this hr1 (by simp; omega) (fun i hi => by rw [List.getElem?_take, if_pos (by omega)])
        have u : ((n : Int) != (n : Int)) = false := by simp
        have hn : n ≤ m.length := by omega
        have hn1 : 0 < m.length := by omega
        clear hp hk hc hg hr hs hr1
        obtain ⟨i0, hi, hz0, hz1, hz2⟩ := info_parts Try.info5
        go_enter Try.func10, Try.ntmps10
        go_wp2_with fail
        refine (bytes25_yes a0 a1 m.length cap0 t.length cap1 a2 _ hl).mono ?_
        rintro e w' ⟨rfl, rfl⟩
        go_wp2_with fail
        refine (clone14 a0 cap0 m _ hm hlm).mono ?_
        rintro e w1 ⟨ao, c, rfl, rm, b1⟩
        go_wp2_with fail
        refine (clone14 a1 cap1 t _ (ht.later b1) hlt).mono ?_
        rintro e w2 ⟨ao', c', rfl, rt, b2⟩
        have rm2 := rm.later b2
        go_wp2_with fail
        refine (skip21_as ao m.length c m a2 n _ rfl rm2 ho' hx1 hlm HR.out).mono ?_
        rintro e w' ⟨rfl, rfl⟩
        go_wp2_with fail
        refine (concat24 ao ao' m.length c t.length c' m t _ rfl rfl rm2 rt hl).mono ?_
        rintro e w3 ⟨rfl, rJ, b3⟩
        go_wp2_with fail
        refine (skip21_as _ _ _ (m ++ t) _ n _ (by simp) rJ ho' hx1 (by simp; omega) HS.out).mono ?_
        rintro e w' ⟨rfl, rfl⟩
        obtain ⟨W, hW⟩ : ∃ W : World, W = w' := ⟨_, rfl⟩
        subst hW
        have rm3 := rm2.later b3
        obtain ⟨g, rfl, hg3, _⟩ := rm3.at hn1
        go_wp2_with (at_make; refine wpList_make_full _ rfl _ _ 24 rfl W.heap.size 5 i0 (.int .u8 0) 1 Try.underlying24 hi hz0 hz1 .i64 .i64 _ _ n rfl rfl (by omega) (by omega) (by rw [hz2]; omega) (by unfold maxLen; omega) (Nat.le_refl _) ?_; intro w4 hown0 hgrow0)
        rw [made_zero, upto_start m] at hown0
        have hbel0 : Below W.heap.size W w4 := (Below.refl _ _).grown hgrow0 (Nat.le_refl _) (fun _ h => by cases h)
        have BW := (b1.trans (b2.mono b1.size)).trans (b3.mono (Nat.le_trans b1.size b2.size))
        have hsz := BW.size
        clear hgrow0 rm rm2 rt rJ b1 b2 b3
        go_loopw [11] (fun i wr => ∃ k : Nat, k ≤ n ∧ i = .int .i64 k ∧ wr.ownsRow W.heap.size 5 1 (.slice (some ⟨W.heap.size, 0, none⟩) n n) n (rowOf .u8 (upto m k) n) ∧ Below W.heap.size W wr) (fun i _ => n - (intOf i).toNat)
        case atStart => exact ⟨0, Nat.zero_le _, rfl, hown0, hbel0⟩
        case round =>
          clear hown0 hbel0
          obtain ⟨k, hk, rfl, hown, hbel⟩ := hrel
          by_cases hkn : k < n
          · have c1 : wr.cell? ⟨g, k, none⟩ = some (.int .u8 (m[k]?.getD 0)) := by
              obtain ⟨g', hg', _, h3⟩ := rm3.at (k := k) (by omega)
              cases hg'
              exact (hbel.cell (p := ⟨g, k, none⟩) hg3).trans h3
            have hkm : k < m.length := by omega
            have c2 := own_cell hown hkn
            have f2 := hown.frozenAt k
            obtain ⟨z, hz⟩ : ∃ z, m[k]?.getD 0 = z := ⟨_, rfl⟩
            have R := upto_step hown hbel z hz
            rw [hz] at c1
            clear hown hbel rm3 hz
            go_wp2
            go_roundw
            case rel => exact ⟨k + 1, by omega, by go_num, R.1, R.2⟩
            case measure => simp [intOf]; omega
          · obtain rfl : k = n := by omega
            have F := Reads.made (take_range rm3.1 k) (by simp; omega) (fun i hi => by rw [upto_all m k i hi, List.getElem?_take, if_pos hi]) hown (owns_lt hown)
            clear hown
            go_wp2_with fail
            refine (skip21_as _ _ _ (m.take k) _ k _ (by simp; omega) F ho' hx1 (by simp; omega) HC.out).mono ?_
            rintro e w5 ⟨rfl, rfl⟩
            go_wp2
            go_ret
            exact ⟨ret_bool (by simp), BW.trans (hbel.mono hsz)⟩
  · have hl' : 1048576 < m.length + t.length := by omega
    go_enter Try.func10, Try.ntmps10
    go_wp2_with fail
    refine (bytes25_no a0 a1 m.length cap0 t.length cap1 a2 _ hl').mono ?_
    rintro e w' ⟨rfl, rfl⟩
    go_wp2
    go_ret
    exact ⟨rfl, Below.refl _ _⟩

/-! ### THE ROW's STEP: WRITTEN OUT: LEAVE IT -/
set_option maxRecDepth 100000 in
theorem lifted (os : Os) (started : os.Started) (H : Type) (enc : TypeId × Value → H) :
    ReturnsInHanded {} Try.checked os 10 .any (Rows.fnSkipNameEndsWithinTheNameAloneSpec.pre6 enc Try.prog Try.f10 Rows.fnSkipNameEndsWithinTheNameAloneRow.domain false) (Rows.fnSkipNameEndsWithinTheNameAloneSpec.post enc Try.prog Try.f10 false true false false) := by
  refine returnsInHanded_of_change (C := Try.checked) own started (by kernel_rfl) Try.func10
    (ChangeSpec.witness6 (enc := enc) (C := Try.checked) false ⟨#[], #[.slice none 0 0, .slice none 0 0, .int .i64 0], []⟩ 8 (by kernel_rfl) (by kernel_rfl) (by kernel_rfl) (by kernel_rfl)) ?_
  intro W base args ds gs before hval0 hW hcnd _
  have hval : ∀ (j : Nat) t v, Try.f10.params[j]? = some t → args[j]? = some v → Value.okWide Try.prog W .any base t v := hval0
  have hW' := hW
  obtain ⟨p, q, hA0, hV, rfl, hfz, hnd⟩ := hW
  have hA : DataW.TrodAll enc Try.prog W 0 (fun _ => true) true Try.f10.params.toList args.toList ds p := hA0
  rw [Try.params10] at hA hval
  obtain ⟨v0, vs0, d0, ds0, p0, q0, hargs, rfl, rfl, h0, r0⟩ := trodAll_cons hA
  obtain ⟨v1, vs1, d1, ds1, p1, q1, rfl, rfl, rfl, h1, r1⟩ := trodAll_cons r0
  obtain ⟨v2, vs2, d2, ds2, p2, q2, rfl, rfl, rfl, h2, r2⟩ := trodAll_cons r1
  obtain ⟨rfl, rfl, rfl⟩ := trodAll_nil r2
  obtain rfl : args = #[v0, v1, v2] := by cases args; simp_all
  obtain ⟨rfl, rfl⟩ := trodVars_none hV
  obtain ⟨a0, len0, cap0, rfl⟩ := okWide_slice Try.underlying24 (hval 0 24 v0 rfl rfl)
  have k0 := h0
  have lt0 : ∀ x ∈ p0, x.block < W.heap.size := by obtain ⟨m, hm⟩ := k0; exact DataW.trod_lt m _ _ _ hm
  obtain ⟨z0, w0⟩ : ∃ zs, IsRow .u8 W a0 len0 cap0 zs := by
    obtain ⟨fuel, hf⟩ := h0
    rcases open_ints Try.underlying24 Try.underlying5 (by kernel_rfl) hf with ⟨hcs, _⟩ | ⟨x, l, c, zs, hcs, _, hl, hm, hz, _, hcell, hwz⟩
    · simp [Value.cells] at hcs
      obtain ⟨rfl, rfl, rfl⟩ := hcs
      exact ⟨[], .inl ⟨rfl, rfl, rfl, rfl⟩⟩
    · simp [Value.cells] at hcs
      obtain ⟨rfl, rfl, rfl⟩ := hcs
      exact ⟨zs, .inr ⟨_, rfl, hl, hm, by simpa using hz, hcell, hwz⟩⟩
  obtain ⟨a1, len1, cap1, rfl⟩ := okWide_slice Try.underlying24 (hval 1 24 v1 rfl rfl)
  have k1 := h1
  have lt1 : ∀ x ∈ p1, x.block < W.heap.size := by obtain ⟨m, hm⟩ := k1; exact DataW.trod_lt m _ _ _ hm
  obtain ⟨z1, w1⟩ : ∃ zs, IsRow .u8 W a1 len1 cap1 zs := by
    obtain ⟨fuel, hf⟩ := h1
    rcases open_ints Try.underlying24 Try.underlying5 (by kernel_rfl) hf with ⟨hcs, _⟩ | ⟨x, l, c, zs, hcs, _, hl, hm, hz, _, hcell, hwz⟩
    · simp [Value.cells] at hcs
      obtain ⟨rfl, rfl, rfl⟩ := hcs
      exact ⟨[], .inl ⟨rfl, rfl, rfl, rfl⟩⟩
    · simp [Value.cells] at hcs
      obtain ⟨rfl, rfl, rfl⟩ := hcs
      exact ⟨zs, .inr ⟨_, rfl, hl, hm, by simpa using hz, hcell, hwz⟩⟩
  obtain ⟨a2, rfl, rfl, rfl, w2⟩ := open_int Try.underlying3 (hval 2 3 v2 rfl rfl) h2
  clear hA0 hval0
  refine (walk a0 len0 cap0 z0 a1 len1 cap1 z1 a2 W w0 w1 w2).mono fun e W' ⟨he, bel⟩ => ?_
  subst he
  exact ⟨_, rfl, _, _, _, [], _, [], hW', trodAll_mk1 (shut_bool Try.underlying4 _), (trodAll_cons_mk (Below.trod laidOut (by kernel_rfl) (of_decide_eq_true (by kernel_rfl)) k0 bel lt0) (trodAll_cons_mk (Below.trod laidOut (by kernel_rfl) (of_decide_eq_true (by kernel_rfl)) k1 bel lt1) (trodAll_cons_mk (shut_int Try.underlying3 w2) trodAll_mk0))), rfl, bel.frame _, fun h => by cases h⟩

/-- The row's closed facts. -/
theorem facts : joinedFacts Try.prog 10 Try.f10 Rows.fnSkipNameEndsWithinTheNameAloneSpec Rows.fnSkipNameEndsWithinTheNameAloneRow = true := by
  unfold joinedFacts
  rw [Head.mayEnter, Head.liftsFinal, Head.make]
  kernel_rfl

theorem over : Rows.fnSkipNameEndsWithinTheNameAloneRow.holds Try.pinned (OpenSpec.ofChange Rows.fnSkipNameEndsWithinTheNameAloneSpec) :=
  OpenClaim.holds_of_wide 10 Try.f10 rfl rfl rfl rfl rfl rfl rfl ⟨rfl, rfl, rfl, rfl, rfl⟩ rfl rfl rfl rfl rfl (by kernel_rfl) Try.func10 facts
    (of_decide_eq_true (by kernel_rfl)) (by unfold Func.isWrapper; first | (rw [if_pos (by decide +kernel)]; kernel_rfl) | (rw [if_neg (by decide +kernel)]; exact ⟨rfl, rfl⟩))
    (fun os started H enc _ => lifted os started H enc)

/-- ████ THE STATEMENT ████ -/
theorem proved : Rows.FnSkipNameEndsWithinTheNameAloneSaid := over
#print axioms proved
end Go.Proofs.Qxb6603104a.fnSkipNameEndsWithinTheNameAlone
