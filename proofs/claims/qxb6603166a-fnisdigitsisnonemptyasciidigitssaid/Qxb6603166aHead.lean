/-
  THREE CLOSED FACTS ON THE PROGRAM's HEAD, SHARED BY ALL STATEMENTS OF THE SEAT. Asked of the kernel outright, inside 'joinedFacts', they cut the head's 900 signs into words, three times, for some 10 GB; here only its first three words are cut, by a law.
-/
import Derived.Test.Qxb6603166aRows
import Derived.JoinedOf
import Derived.KernelRfl
namespace Go.Proofs.Qxb6603166a.Head

/-- A word without blanks, a blank, and what follows. -/
theorem words_cut (r : List Char) : ∀ (a : List Char), a.all (fun c => c != ' ') = true → wordsSigns (a ++ ' ' :: r) = a :: wordsSigns r
  | [], _ => by simp [wordsSigns]
  | c :: a, h => by
    simp only [List.all_cons, Bool.and_eq_true, bne_iff_ne, ne_eq] at h
    have ih := words_cut r a h.2
    rw [List.cons_append, wordsSigns, ih]
    intro e
    exact h.1 e

theorem behind (l A B r : List Char) (h : l = A ++ ' ' :: (B ++ ' ' :: ("cut".toList ++ ' ' :: r))) (hA : A.all (fun c => c != ' ') = true) (hB : B.all (fun c => c != ' ') = true)
    (hH : A = "harness".toList) (hS : isSumSigns B = true) : behindMainWord (wordsSigns l) = "cut".toList :: wordsSigns r := by
  rw [h, words_cut _ A hA, words_cut _ B hB, words_cut _ "cut".toList (by decide)]
  simp [behindMainWord, hH, hS]

theorem behind_at (l : List Char) (h : l = l.take 7 ++ ' ' :: ((l.drop 8).take 64 ++ ' ' :: ("cut".toList ++ ' ' :: l.drop 77))) (hA : (l.take 7).all (fun c => c != ' ') = true) (hB : ((l.drop 8).take 64).all (fun c => c != ' ') = true)
    (hH : l.take 7 = "harness".toList) (hS : isSumSigns ((l.drop 8).take 64) = true) : ∃ r, behindMainWord (wordsSigns l) = "cut".toList :: wordsSigns r :=
  ⟨_, behind l _ _ _ h hA hB hH hS⟩

set_option maxRecDepth 100000 in
theorem order : ∃ l, Try.prog.initOrder = String.ofList l ∧ l = l.take 7 ++ ' ' :: ((l.drop 8).take 64 ++ ' ' :: ("cut".toList ++ ' ' :: l.drop 77)) ∧ (l.take 7).all (fun c => c != ' ') = true ∧ ((l.drop 8).take 64).all (fun c => c != ' ') = true ∧
    l.take 7 = "harness".toList ∧ isSumSigns ((l.drop 8).take 64) = true := ⟨_, rfl, by kernel_rfl, by kernel_rfl, by kernel_rfl, by kernel_rfl, by kernel_rfl⟩

theorem signs : ∃ r, behindMainWord (wordsSigns Try.prog.initOrder.toList) = "cut".toList :: wordsSigns r := by
  obtain ⟨l, h, h1, h2, h3, h4, h5⟩ := order
  rw [h, String.toList_ofList]
  exact behind_at l h1 h2 h3 h4 h5

/-! The same over whatever program, so that the kernel never looks into ours. -/
theorem strip (ws : List (List Char)) : stripLifts liftWords ("cut".toList :: ws) = ([], "cut".toList :: ws) := by kernel_rfl
theorem mayEnter_of (P : Program) (ws : List (List Char)) (h : behindMainWord (wordsSigns P.initOrder.toList) = "cut".toList :: ws) (h1 : P.laysLater = false) (h2 : P.bearsReflect = false) (h3 : P.doorFits [] = true) : P.mayEnter = true := by
  unfold Program.mayEnter
  rw [h]
  simp only [strip, h1, h2, h3]
  simp
theorem headLifts_of (P : Program) (ws : List (List Char)) (h : behindMainWord (wordsSigns P.initOrder.toList) = "cut".toList :: ws) : P.headLifts = [] := by
  unfold Program.headLifts
  rw [h, strip]
  simp
theorem liftsFinal_of (P : Program) (ws : List (List Char)) (h : behindMainWord (wordsSigns P.initOrder.toList) = "cut".toList :: ws) : P.liftsFinal = false := by
  unfold Program.liftsFinal
  rw [headLifts_of P ws h, h]
  simp
theorem make_of (P : Program) (ws : List (List Char)) (h : behindMainWord (wordsSigns P.initOrder.toList) = "cut".toList :: ws) : P.make = some .cut := by
  unfold Program.make
  rw [h]
  simp

theorem mayEnter : Try.prog.mayEnter = true := by
  obtain ⟨r, h⟩ := signs
  exact mayEnter_of _ _ h (by kernel_rfl) (by kernel_rfl) (by kernel_rfl)
theorem liftsFinal : Try.prog.liftsFinal = false := by
  obtain ⟨r, h⟩ := signs
  exact liftsFinal_of _ _ h
theorem make : Try.prog.make = some .cut := by
  obtain ⟨r, h⟩ := signs
  exact make_of _ _ h

end Go.Proofs.Qxb6603166a.Head
