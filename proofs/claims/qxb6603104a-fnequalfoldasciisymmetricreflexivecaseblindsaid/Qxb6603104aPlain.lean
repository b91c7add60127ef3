/-
  THE PLAIN LAWS OF SEAT b6603104a: no Go in sight. Octets are integers; a message is a list of them.
-/
namespace Go.Proofs.Qxb6603104a.Pl

/-- An octet in lower case: a capital letter moves up by 32. -/
def low (c : Int) : Int := if 65 ≤ c ∧ c ≤ 90 then c + 32 else c
/-- An octet as a capital. -/
def upp (c : Int) : Int := if 97 ≤ c ∧ c ≤ 122 then c - 32 else c

theorem low_up {c : Int} (h1 : 65 ≤ c) (h2 : c ≤ 90) : low c = c + 32 := by unfold low; rw [if_pos ⟨h1, h2⟩]
theorem low_lo {c : Int} (h : c < 65) : low c = c := by unfold low; rw [if_neg (by omega)]
theorem low_hi {c : Int} (h : 90 < c) : low c = c := by unfold low; rw [if_neg (by omega)]
theorem low_low (c : Int) : low (low c) = low c := by
  by_cases h : 65 ≤ c ∧ c ≤ 90
  · rw [low_up h.1 h.2, low_hi (by omega)]
  · have e : low c = c := by unfold low; rw [if_neg h]
    rw [e, e]
theorem low_upp (c : Int) : low (upp c) = low c := by unfold low upp; split <;> split <;> (try split) <;> omega
theorem upp_byte {c : Int} (h0 : 0 ≤ c) (h1 : c ≤ 255) : 0 ≤ upp c ∧ upp c ≤ 255 := by unfold upp; split <;> omega

/-- Two rows of octets agree up to the case of letters. -/
def eqf (a b : List Int) : Bool := decide (a.map low = b.map low)
/-- One pair of octets does. -/
def same (x y : Int) : Bool := decide (low x = low y)

theorem eqf_symm (a b : List Int) : eqf a b = eqf b a := by
  unfold eqf
  by_cases h : a.map low = b.map low
  · rw [decide_eq_true h, decide_eq_true h.symm]
  · rw [decide_eq_false h, decide_eq_false (fun e => h e.symm)]
theorem eqf_refl (a : List Int) : eqf a a = true := by unfold eqf; exact decide_eq_true rfl
theorem map_upp (a : List Int) : (a.map upp).map low = a.map low := by
  rw [List.map_map]
  exact List.map_congr_left (fun x _ => low_upp x)
theorem eqf_upp_left (a b : List Int) : eqf (a.map upp) b = eqf a b := by unfold eqf; rw [map_upp]
theorem eqf_upp_right (a b : List Int) : eqf a (b.map upp) = eqf a b := by unfold eqf; rw [map_upp]

theorem eqf_no {a b : List Int} {k : Nat} (hl : a.length = b.length) (hk : k < a.length) (h : low (a[k]?.getD 0) ≠ low (b[k]?.getD 0)) : eqf a b = false := by
  unfold eqf
  refine decide_eq_false (fun e => h ?_)
  have e2 : (a.map low)[k]? = (b.map low)[k]? := by rw [e]
  have hk2 : k < b.length := by omega
  rw [List.getElem?_map, List.getElem?_map, List.getElem?_eq_getElem hk, List.getElem?_eq_getElem hk2] at e2
  simp only [Option.map_some, Option.some.injEq] at e2
  rw [List.getElem?_eq_getElem hk, List.getElem?_eq_getElem hk2]
  exact e2
theorem eqf_yes {a b : List Int} (hl : a.length = b.length) (h : ∀ i, i < a.length → low (a[i]?.getD 0) = low (b[i]?.getD 0)) : eqf a b = true := by
  unfold eqf
  refine decide_eq_true ?_
  refine List.ext_getElem (by simp [hl]) (fun i h1 h2 => ?_)
  have ha : i < a.length := by simpa using h1
  have hb : i < b.length := by simpa using h2
  have := h i ha
  rw [List.getElem?_eq_getElem ha, List.getElem?_eq_getElem hb] at this
  simpa using this

/-- Where a name that starts at 'off' ends in 'm' (-1: no name), by at most 'fuel' labels. -/
def skf (m : List Int) : Nat → Nat → Int
  | 0, _ => -1
  | f + 1, off =>
    if off < m.length then
      if m[off]?.getD 0 = 0 then (off : Int) + 1
      else if 192 ≤ m[off]?.getD 0 then (if off + 2 ≤ m.length then (off : Int) + 2 else -1)
      else if 64 ≤ m[off]?.getD 0 then -1
      else skf m f (off + 1 + (m[off]?.getD 0).toNat)
    else -1
def sk (m : List Int) (off : Nat) : Int := skf m m.length off

theorem skf_end (m : List Int) (f off : Nat) (h : ¬ off < m.length) : skf m f off = -1 := by
  cases f with
  | zero => rfl
  | succ f => simp [skf, h]

/-- More fuel than octets are left changes nothing. -/
theorem skf_more (m : List Int) : ∀ (f g off : Nat), m.length ≤ f + off → m.length ≤ g + off → skf m f off = skf m g off
  | 0, g, off, h1, _ => by rw [skf_end m 0 off (by omega), skf_end m g off (by omega)]
  | f + 1, 0, off, _, h2 => by rw [skf_end m _ off (by omega), skf_end m 0 off (by omega)]
  | f + 1, g + 1, off, h1, h2 => by
    have ih := skf_more m f g (off + 1 + (m[off]?.getD 0).toNat) (by omega) (by omega)
    simp only [skf]
    rw [ih]

/-- One step of the road. -/
theorem sk_step (m : List Int) (off : Nat) : sk m off =
    if off < m.length then
      if m[off]?.getD 0 = 0 then (off : Int) + 1
      else if 192 ≤ m[off]?.getD 0 then (if off + 2 ≤ m.length then (off : Int) + 2 else -1)
      else if 64 ≤ m[off]?.getD 0 then -1
      else sk m (off + 1 + (m[off]?.getD 0).toNat)
    else -1 := by
  by_cases h : off < m.length
  · have e : skf m m.length off = skf m (m.length + 1) off := skf_more m _ _ _ (by omega) (by omega)
    unfold sk
    rw [e]
    simp only [skf]
  · unfold sk
    rw [skf_end m _ off h, if_neg h]

theorem sk_end {m : List Int} {off : Nat} (h : m.length ≤ off) : sk m off = -1 := by rw [sk_step, if_neg (by omega)]
theorem sk_zero {m : List Int} {off : Nat} (h : off < m.length) (h0 : m[off]?.getD 0 = 0) : sk m off = (off : Int) + 1 := by rw [sk_step, if_pos h, if_pos h0]
theorem sk_ptr {m : List Int} {off : Nat} (h : off + 2 ≤ m.length) (h0 : 192 ≤ m[off]?.getD 0) : sk m off = (off : Int) + 2 := by
  rw [sk_step, if_pos (by omega), if_neg (by omega), if_pos h0, if_pos h]
theorem sk_cut {m : List Int} {off : Nat} (h1 : m.length < off + 2) (h0 : 192 ≤ m[off]?.getD 0) : sk m off = -1 := by
  by_cases h : off < m.length
  · rw [sk_step, if_pos h, if_neg (by omega), if_pos h0, if_neg (by omega)]
  · exact sk_end (by omega)
theorem sk_bad {m : List Int} {off : Nat} (h1 : 64 ≤ m[off]?.getD 0) (h2 : m[off]?.getD 0 < 192) : sk m off = -1 := by
  by_cases h : off < m.length
  · rw [sk_step, if_pos h, if_neg (by omega), if_neg (by omega), if_pos h1]
  · exact sk_end (by omega)
theorem sk_go {m : List Int} {off : Nat} (h : off < m.length) (h1 : 1 ≤ m[off]?.getD 0) (h2 : m[off]?.getD 0 < 64) : sk m off = sk m (off + 1 + (m[off]?.getD 0).toNat) := by
  rw [sk_step, if_pos h, if_neg (by omega), if_neg (by omega), if_neg (by omega)]

/-- What it answers: -1, or a place past 'off' and within 'm'. -/
theorem sk_range (m : List Int) : ∀ (d off : Nat), m.length ≤ d + off → sk m off = -1 ∨ ((off : Int) < sk m off ∧ sk m off ≤ m.length)
  | 0, off, h => .inl (sk_end (by omega))
  | d + 1, off, h => by
    by_cases hlt : off < m.length
    · by_cases h0 : m[off]?.getD 0 = 0
      · right; rw [sk_zero hlt h0]; omega
      · by_cases h1 : 192 ≤ m[off]?.getD 0
        · by_cases h2 : off + 2 ≤ m.length
          · right; rw [sk_ptr h2 h1]; omega
          · left; exact sk_cut (by omega) h1
        · by_cases h2 : 64 ≤ m[off]?.getD 0
          · left; exact sk_bad h2 (by omega)
          · have ih := sk_range m d (off + 1 + (m[off]?.getD 0).toNat) (by omega)
            rw [sk_step, if_pos hlt, if_neg h0, if_neg h1, if_neg h2]
            omega
    · exact .inl (sk_end (by omega))

/-- Octets put before move the answer by as many. -/
theorem sk_shift (p m : List Int) : ∀ (d off : Nat), m.length ≤ d + off → sk (p ++ m) (off + p.length) = if sk m off = -1 then -1 else sk m off + p.length
  | 0, off, h => by rw [sk_end (m := m) (by omega), sk_end (by simp; omega), if_pos rfl]
  | d + 1, off, h => by
    by_cases hlt : off < m.length
    · have hg : (p ++ m)[off + p.length]?.getD 0 = m[off]?.getD 0 := by
        rw [List.getElem?_append_right (by omega), Nat.add_sub_cancel]
      have ih := sk_shift p m d (off + 1 + (m[off]?.getD 0).toNat) (by omega)
      have hl : (p ++ m).length = p.length + m.length := by simp
      by_cases h0 : m[off]?.getD 0 = 0
      · rw [sk_zero hlt h0, sk_zero (by omega) (by rw [hg]; exact h0), if_neg (by omega)]; omega
      · by_cases h1 : 192 ≤ m[off]?.getD 0
        · by_cases h2 : off + 2 ≤ m.length
          · rw [sk_ptr h2 h1, sk_ptr (by omega) (by rw [hg]; exact h1), if_neg (by omega)]; omega
          · rw [sk_cut (by omega) h1, sk_cut (by omega) (by rw [hg]; exact h1), if_pos rfl]
        · by_cases h2 : 64 ≤ m[off]?.getD 0
          · rw [sk_bad h2 (by omega), sk_bad (by rw [hg]; exact h2) (by rw [hg]; omega), if_pos rfl]
          · by_cases hneg : 1 ≤ m[off]?.getD 0
            · rw [sk_go hlt hneg (by omega), sk_go (by omega) (by rw [hg]; exact hneg) (by rw [hg]; omega), hg]
              rw [show off + p.length + 1 + (m[off]?.getD 0).toNat = off + 1 + (m[off]?.getD 0).toNat + p.length from by omega]
              exact ih
            · have e0 : (m[off]?.getD 0).toNat = 0 := by omega
              rw [sk_step m off, if_pos hlt, if_neg h0, if_neg h1, if_neg h2]
              rw [sk_step (p ++ m), if_pos (by omega), if_neg (by rw [hg]; exact h0), if_neg (by rw [hg]; exact h1), if_neg (by rw [hg]; exact h2), hg]
              rw [show off + p.length + 1 + (m[off]?.getD 0).toNat = off + 1 + (m[off]?.getD 0).toNat + p.length from by omega]
              exact ih
    · rw [sk_end (m := m) (by omega), sk_end (by simp; omega), if_pos rfl]

/-- A name that is found in 'm' is found at the same end wherever the first 'r' octets are the same ('r': its end). -/
theorem sk_keeps (m t : List Int) : ∀ (d off : Nat), m.length ≤ d + off → (sk m off ≠ -1) → (sk m off ≤ t.length) → (∀ i : Nat, (i : Int) < sk m off → t[i]?.getD 0 = m[i]?.getD 0) → sk t off = sk m off
  | 0, off, h, hn, _, _ => absurd (sk_end (by omega)) hn
  | d + 1, off, h, hn, hle, hag => by
    by_cases hlt : off < m.length
    · have hr := sk_range m m.length off (by omega)
      have hr' : (off : Int) < sk m off := by omega
      have hg : t[off]?.getD 0 = m[off]?.getD 0 := hag off hr'
      have hlt' : off < t.length := by omega
      by_cases h0 : m[off]?.getD 0 = 0
      · rw [sk_zero hlt h0, sk_zero hlt' (by rw [hg]; exact h0)]
      · by_cases h1 : 192 ≤ m[off]?.getD 0
        · by_cases h2 : off + 2 ≤ m.length
          · have e := sk_ptr h2 h1
            rw [e, sk_ptr (by omega) (by rw [hg]; exact h1)]
          · exact absurd (sk_cut (by omega) h1) hn
        · by_cases h2 : 64 ≤ m[off]?.getD 0
          · exact absurd (sk_bad h2 (by omega)) hn
          · have e : sk m off = sk m (off + 1 + (m[off]?.getD 0).toNat) := by rw [sk_step m off, if_pos hlt, if_neg h0, if_neg h1, if_neg h2]
            have e' : sk t off = sk t (off + 1 + (m[off]?.getD 0).toNat) := by
              rw [sk_step t off, if_pos hlt', if_neg (by rw [hg]; exact h0), if_neg (by rw [hg]; exact h1), if_neg (by rw [hg]; exact h2), hg]
            rw [e] at hn hle hag
            rw [e, e']
            exact sk_keeps m t d _ (by omega) hn hle hag
    · exact absurd (sk_end (by omega)) hn

/-- A name that is not found in 'm' is, with octets behind it, not found or ends past the old end. -/
theorem sk_past (m t : List Int) : ∀ (d off : Nat), m.length ≤ d + off → sk m off = -1 → sk (m ++ t) off = -1 ∨ (m.length : Int) < sk (m ++ t) off
  | 0, off, h, _ => by
    have hr := sk_range (m ++ t) (m ++ t).length off (by omega)
    omega
  | d + 1, off, h, hn => by
    have hr := sk_range (m ++ t) (m ++ t).length off (by omega)
    by_cases hlt : off < m.length
    · have hg : (m ++ t)[off]?.getD 0 = m[off]?.getD 0 := by rw [List.getElem?_append_left hlt]
      have hl : (m ++ t).length = m.length + t.length := by simp
      by_cases h0 : m[off]?.getD 0 = 0
      · rw [sk_zero hlt h0] at hn; omega
      · by_cases h1 : 192 ≤ m[off]?.getD 0
        · by_cases h2 : off + 2 ≤ m.length
          · rw [sk_ptr h2 h1] at hn; omega
          · by_cases h3 : off + 2 ≤ (m ++ t).length
            · rw [sk_ptr h3 (by rw [hg]; exact h1)]; omega
            · left; exact sk_cut (by omega) (by rw [hg]; exact h1)
        · by_cases h2 : 64 ≤ m[off]?.getD 0
          · left; exact sk_bad (by rw [hg]; exact h2) (by rw [hg]; omega)
          · have e : sk m off = sk m (off + 1 + (m[off]?.getD 0).toNat) := by rw [sk_step m off, if_pos hlt, if_neg h0, if_neg h1, if_neg h2]
            have e' : sk (m ++ t) off = sk (m ++ t) (off + 1 + (m[off]?.getD 0).toNat) := by
              rw [sk_step (m ++ t) off, if_pos (by omega), if_neg (by rw [hg]; exact h0), if_neg (by rw [hg]; exact h1), if_neg (by rw [hg]; exact h2), hg]
            rw [e] at hn
            rw [e']
            exact sk_past m t d _ (by omega) hn
    · omega

end Go.Proofs.Qxb6603104a.Pl
