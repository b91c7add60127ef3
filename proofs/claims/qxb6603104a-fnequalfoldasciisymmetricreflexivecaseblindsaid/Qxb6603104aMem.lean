/-
  MEMORY: rows of integers that a call makes; what a slice of octets reads as.
-/
import Derived.Test.Qxb6603104aLow
import Derived.WalkSpells
import Derived.ProofKit
import Derived.OpenShut
namespace Go.Proofs.Qxb6603104a
open Go.RowKit

theorem Try.info5 : (Try.prog.info? 5).map (fun i => (i.zero, i.size, i.bytes)) = some (some (.int .u8 0), 1, 1) := by kernel_rfl
theorem Try.info3 : (Try.prog.info? 3).map (fun i => (i.zero, i.size, i.bytes)) = some (some (.int .i64 0), 1, 8) := by kernel_rfl

/-- The first 'n' numbers of 'g', as cells. -/
def rowOf (κ : IntKind) (g : Nat → Int) (n : Nat) : List Value := (List.range n).map fun i => .int κ (g i)
theorem rowOf_length (κ : IntKind) (g : Nat → Int) (n : Nat) : (rowOf κ g n).length = n := by simp [rowOf]
theorem rowOf_at (κ : IntKind) (g : Nat → Int) {n j : Nat} (h : j < n) : (rowOf κ g n)[j]? = some (.int κ (g j)) := by simp [rowOf, h]
theorem rowOf_zero (κ : IntKind) (z : Int) (n : Nat) : List.replicate n (Value.int κ z) = rowOf κ (fun _ => z) n := by simp [rowOf, List.map_const']
theorem made_zero (κ : IntKind) (n : Nat) : (madeCells (Value.int κ 0).cells (n * 1)).toList = rowOf κ (fun _ => 0) n := by
  rw [Nat.mul_one, ← rowOf_zero]
  exact toList_madeCells_one _ _
theorem rowOf_congr (κ : IntKind) {g g' : Nat → Int} {n : Nat} (h : ∀ i, i < n → g i = g' i) : rowOf κ g n = rowOf κ g' n := by
  unfold rowOf
  refine List.map_congr_left (fun i hi => ?_)
  rw [h i (List.mem_range.1 hi)]
theorem rowOf_set (κ : IntKind) {g g' : Nat → Int} {n k : Nat} (v : Int) (hv : g' k = v) (ho : ∀ i, i < n → i ≠ k → g' i = g i) : (rowOf κ g n).set k (.int κ v) = rowOf κ g' n := by
  refine List.ext_getElem? (fun i => ?_)
  by_cases hi : i < n
  · rw [rowOf_at κ g' hi]
    by_cases hk : k = i
    · subst hk
      rw [List.getElem?_set_self (by rw [rowOf_length]; exact hi), hv]
    · rw [List.getElem?_set_ne hk, rowOf_at κ g hi, ho i hi (fun e => hk e.symm)]
  · rw [List.getElem?_eq_none (by rw [List.length_set, rowOf_length]; omega), List.getElem?_eq_none (by rw [rowOf_length]; omega)]

/-- What a store into the call's own row does. -/
theorem own_store {w0 w : World} {B e n cap k : Nat} {κ : IntKind} {g g' : Nat → Int} (hown : w.ownsRow B e 1 (.slice (some ⟨B, 0, none⟩) n cap) n (rowOf κ g n)) (hb : Below B w0 w) (v : Int) (hv : g' k = v) (ho : ∀ i, i < n → i ≠ k → g' i = g i) :
    (w.setCell ⟨B, k, none⟩ (.int κ v)).ownsRow B e 1 (.slice (some ⟨B, 0, none⟩) n cap) n (rowOf κ g' n) ∧ Below B w0 (w.setCell ⟨B, k, none⟩ (.int κ v)) := by
  have h := (hown.stored k (.int κ v)).1
  rw [rowOf_set κ v hv ho] at h
  exact ⟨h, hb.setCell (Nat.le_refl _) _⟩
theorem own_cell {w : World} {B e n cap k : Nat} {κ : IntKind} {g : Nat → Int} (hown : w.ownsRow B e 1 (.slice (some ⟨B, 0, none⟩) n cap) n (rowOf κ g n)) (hk : k < n) : w.cell? ⟨B, k, none⟩ = some (.int κ (g k)) := by
  rw [hown.cellAt k (by omega), rowOf_at κ g hk]

/-- The value 'v' is a slice that reads as the octets 'zs' in the world 'w': nil, or at the head of a block. -/
def Reads (w : World) (v : Value) (zs : List Int) : Prop :=
  (∀ i : Nat, 0 ≤ zs[i]?.getD 0 ∧ zs[i]?.getD 0 ≤ 255) ∧
  ((v = .slice none 0 0 ∧ zs = []) ∨
    ∃ g cap, v = .slice (some ⟨g, 0, none⟩) zs.length cap ∧ g < w.heap.size ∧ ∀ i, i < zs.length → w.cell? ⟨g, i, none⟩ = some (.int .u8 (zs[i]?.getD 0)))

/-- It reads the same as long as nothing old has turned. -/
theorem Reads.later {w w' : World} {v : Value} {zs : List Int} (h : Reads w v zs) (hb : Below w.heap.size w w') : Reads w' v zs := by
  obtain ⟨h1, h2⟩ := h
  refine ⟨h1, ?_⟩
  rcases h2 with h2 | ⟨g, cap, hv, hg, hc⟩
  · exact .inl h2
  · exact .inr ⟨g, cap, hv, Nat.lt_of_lt_of_le hg hb.size, fun i hi => (hb.cell (p := ⟨g, i, none⟩) hg).trans (hc i hi)⟩

/-- What a call has made and filled reads as it was filled. -/
theorem Reads.made {w : World} {B cap : Nat} {zs : List Int} (hr : ∀ i : Nat, 0 ≤ zs[i]?.getD 0 ∧ zs[i]?.getD 0 ≤ 255) {g : Nat → Int} {n : Nat} (hn : n = zs.length) (hg : ∀ i, i < n → g i = zs[i]?.getD 0)
    (hown : w.ownsRow B 5 1 (.slice (some ⟨B, 0, none⟩) n cap) n (rowOf .u8 g n)) (hB : B < w.heap.size) : Reads w (.slice (some ⟨B, 0, none⟩) n cap) zs := by
  subst hn
  exact ⟨hr, .inr ⟨B, cap, rfl, hB, fun i hi => by rw [own_cell hown hi, hg i hi]⟩⟩

theorem owns_lt {w : World} {B e n cap : Nat} {xs : List Value} (hown : w.ownsRow B e 1 (.slice (some ⟨B, 0, none⟩) n cap) n xs) : B < w.heap.size := by
  rcases hown.2 with ⟨h, _⟩ | ⟨g, c, cur, h, _, hh, _⟩
  · cases h
  · cases h
    exact (Array.getElem?_eq_some_iff.1 hh).1

theorem take_range {zs : List Int} (h : ∀ i : Nat, 0 ≤ zs[i]?.getD 0 ∧ zs[i]?.getD 0 ≤ 255) (n : Nat) : ∀ i : Nat, 0 ≤ (zs.take n)[i]?.getD 0 ∧ (zs.take n)[i]?.getD 0 ≤ 255 := by
  intro i
  rw [List.getElem?_take]
  split
  · exact h i
  · simp

/-- A slice of octets that came in: nil, or empty, or at some place of an old block. -/
def Came (w : World) (a : Option Addr) (m : List Int) : Prop :=
  (∀ i : Nat, 0 ≤ m[i]?.getD 0 ∧ m[i]?.getD 0 ≤ 255) ∧
  ((a = none ∧ m = []) ∨ (m = [] ∧ ∃ x, a = some x) ∨
    ∃ b off, a = some ⟨b, off, none⟩ ∧ b < w.heap.size ∧ ∀ i, i < m.length → w.cell? ⟨b, off + i, none⟩ = some (.int .u8 (m[i]?.getD 0)))

theorem Came.later {w w' : World} {a : Option Addr} {m : List Int} (h : Came w a m) (hb : Below w.heap.size w w') : Came w' a m := by
  obtain ⟨h1, h2⟩ := h
  refine ⟨h1, ?_⟩
  rcases h2 with h2 | h2 | ⟨b, off, hv, hg, hc⟩
  · exact .inl h2
  · exact .inr (.inl h2)
  · exact .inr (.inr ⟨b, off, hv, Nat.lt_of_lt_of_le hg hb.size, fun i hi => (hb.cell (p := ⟨b, off + i, none⟩) hg).trans (hc i hi)⟩)

/-- From what a shell hands the walk (its 'IsRow' at u8) to the octets 'm' of the slice. -/
theorem came_of {w : World} {a : Option Addr} {len cap : Nat} {zs : List Int} (h : (a = none ∧ len = 0 ∧ cap = 0 ∧ zs = []) ∨
    ∃ x, a = some x ∧ len ≤ cap ∧ cap ≤ maxLen ∧ zs.length = cap ∧ (∀ i, i < zs.length → w.cell? (x.add i) = some (.int .u8 (zs.getD i 0))) ∧ ∀ n ∈ zs, (Lit.int .u8 n).wf = true) :
    ∃ m : List Int, len = m.length ∧ Came w a m := by
  rcases h with ⟨rfl, rfl, rfl, rfl⟩ | ⟨x, rfl, hl, _, hz, hc, hw⟩
  · exact ⟨[], rfl, by simp, .inl ⟨rfl, rfl⟩⟩
  · refine ⟨zs.take len, by simp; omega, take_range (range_u8 hw) len, ?_⟩
    by_cases h0 : len = 0
    · subst h0
      exact .inr (.inl ⟨by simp, x, rfl⟩)
    · obtain ⟨b, off, spot⟩ := x
      have hspot : spot = none := by simpa [Addr.add] using World.cell?_spot (hc 0 (by omega))
      subst hspot
      have hcell : ∀ j, j < zs.length → w.cell? ⟨b, off + j, none⟩ = some (.int .u8 (zs.getD j 0)) := fun j hj => by rw [← WideShapes.add_plain]; exact hc j hj
      refine .inr (.inr ⟨b, off, rfl, World.block_lt_of_cell? w _ (hcell 0 (by omega)), fun i hi => ?_⟩)
      have hi' : i < len := by simp at hi; omega
      rw [hcell i (by omega), List.getElem?_take, if_pos hi', List.getD_eq_getElem?_getD]
end Go.Proofs.Qxb6603104a
