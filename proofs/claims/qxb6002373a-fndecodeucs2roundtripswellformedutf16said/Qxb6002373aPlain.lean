/-
  SEAT b6002373a: THE PLAIN LAWS: bytes, 16-bit units, runes: no Go, no program.
-/
namespace Go.Proofs.Qxb6002373a.Plain

/-- The number of the byte at place k; 0 behind the end. -/
def byteAt (l : List UInt8) (k : Nat) : Nat := (l.getD k 0).toNat
theorem byteAt_lt (l : List UInt8) (k : Nat) : byteAt l k < 256 := UInt8.toNat_lt _
theorem byteAt_get (l : List UInt8) (k : Nat) (h : k < l.length) : byteAt l k = (l[k]).toNat := by
  unfold byteAt; simp [List.getD, h]
theorem byteAt_drop (l : List UInt8) (i k : Nat) : byteAt (l.drop i) k = byteAt l (i + k) := by
  unfold byteAt; simp [List.getD, List.getElem?_drop]

/-- The units ahead of the first zero unit; none where there is no zero unit. -/
def scan : List UInt8 → Option (List Nat)
  | a :: b :: rest => if a.toNat + 256 * b.toNat = 0 then some [] else (scan rest).map fun us => (a.toNat + 256 * b.toNat) :: us
  | _ => none

theorem two_of (l : List UInt8) (h : 2 ≤ l.length) : ∃ a b r, l = a :: b :: r := by
  match l, h with
  | a :: b :: r, _ => exact ⟨a, b, r, rfl⟩

theorem scan_short (l : List UInt8) (h : l.length < 2) : scan l = none := by
  match l, h with
  | [], _ => rfl
  | [a], _ => rfl
  | a :: b :: r, h => simp at h; omega

/-- ONE STEP OF THE SCAN, at place i. -/
theorem scan_zero (l : List UInt8) (i : Nat) (h : i + 1 < l.length) (hz : byteAt l i + 256 * byteAt l (i + 1) = 0) : scan (l.drop i) = some [] := by
  obtain ⟨a, b, r, e⟩ := two_of (l.drop i) (by rw [List.length_drop]; omega)
  have ha : byteAt l i = a.toNat := by have := byteAt_drop l i 0; rw [e] at this; simpa [byteAt] using this.symm
  have hb : byteAt l (i + 1) = b.toNat := by have := byteAt_drop l i 1; rw [e] at this; simpa [byteAt] using this.symm
  rw [e, scan, if_pos (by omega)]
theorem scan_step (l : List UInt8) (i : Nat) (h : i + 1 < l.length) (hz : byteAt l i + 256 * byteAt l (i + 1) ≠ 0) : scan (l.drop i) = (scan (l.drop (i + 2))).map fun us => (byteAt l i + 256 * byteAt l (i + 1)) :: us := by
  obtain ⟨a, b, r, e⟩ := two_of (l.drop i) (by rw [List.length_drop]; omega)
  have ha : byteAt l i = a.toNat := by have := byteAt_drop l i 0; rw [e] at this; simpa [byteAt] using this.symm
  have hb : byteAt l (i + 1) = b.toNat := by have := byteAt_drop l i 1; rw [e] at this; simpa [byteAt] using this.symm
  have er : l.drop (i + 2) = r := by
    have : (l.drop i).drop 2 = r := by rw [e]; rfl
    rw [← this, List.drop_drop]
  rw [e, scan, if_neg (by omega), er, ha, hb]

/-- WHAT A SCAN THAT FINDS NO ZERO UNIT SAYS. -/
theorem scan_none (l : List UInt8) (h : scan l = none) : ∀ k, 2 * k + 1 < l.length → byteAt l (2 * k) + 256 * byteAt l (2 * k + 1) ≠ 0 := by
  intro k hk hz
  have key : ∀ j, j ≤ k → scan (l.drop (2 * j)) = none := by
    intro j
    induction j with
    | zero => intro _; simpa using h
    | succ j ih =>
      intro hj
      have h1 := ih (by omega)
      by_cases hz1 : byteAt l (2 * j) + 256 * byteAt l (2 * j + 1) = 0
      · rw [scan_zero l (2 * j) (by omega) hz1] at h1; cases h1
      · rw [scan_step l (2 * j) (by omega) hz1] at h1
        have : 2 * (j + 1) = 2 * j + 2 := by omega
        rw [this]
        simpa using h1
  have := key k (Nat.le_refl _)
  rw [scan_zero l (2 * k) hk hz] at this
  cases this

/-- WHAT A SCAN THAT FINDS ONE SAYS. -/
theorem scan_some (l : List UInt8) (us : List Nat) (h : scan l = some us) : 2 * us.length + 2 ≤ l.length ∧ byteAt l (2 * us.length) = 0 ∧ byteAt l (2 * us.length + 1) = 0 ∧ (∀ k, k < us.length → us.getD k 0 = byteAt l (2 * k) + 256 * byteAt l (2 * k + 1) ∧ us.getD k 0 ≠ 0) := by
  induction us generalizing l with
  | nil =>
    by_cases hl : l.length < 2
    · rw [scan_short l hl] at h; cases h
    · by_cases hz : byteAt l 0 + 256 * byteAt l (0 + 1) = 0
      · refine ⟨by simp; omega, by simp at hz ⊢; omega, by simp at hz ⊢; omega, fun k hk => by simp at hk⟩
      · have := scan_step l 0 (by omega) hz
        simp only [List.drop_zero] at this
        rw [this] at h
        simp at h
  | cons u us ih =>
    by_cases hl : l.length < 2
    · rw [scan_short l hl] at h; cases h
    · by_cases hz : byteAt l 0 + 256 * byteAt l (0 + 1) = 0
      · have := scan_zero l 0 (by omega) hz
        simp only [List.drop_zero] at this
        rw [this] at h
        simp at h
      · have := scan_step l 0 (by omega) hz
        simp only [List.drop_zero] at this
        rw [this] at h
        simp only [Option.map_eq_some_iff, List.cons.injEq] at h
        obtain ⟨vs, hv, hu, rfl⟩ := h
        obtain ⟨h1, h2, h3, h4⟩ := ih (l.drop (0 + 2)) hv
        rw [List.length_drop] at h1
        rw [byteAt_drop] at h2 h3
        have e2 : 2 * (u :: vs).length = 0 + 2 + 2 * vs.length := by rw [List.length_cons]; omega
        refine ⟨by rw [e2]; omega, by rw [e2]; exact h2, by rw [e2]; exact h3, fun k hk => ?_⟩
        cases k with
        | zero => simp at hu hz ⊢; omega
        | succ k =>
          have := h4 k (by simpa using hk)
          rw [byteAt_drop, byteAt_drop] at this
          have e3 : 2 * (k + 1) = 0 + 2 + 2 * k := by omega
          rw [e3]
          simpa [Nat.add_assoc] using this

/-! ### UTF-16 -/
/-- The rune of a surrogate pair. -/
def pairRune (u v : Nat) : Nat := 65536 + (u - 55296) * 1024 + (v - 56320)
theorem pairRune_int (u v : Nat) (h1 : 55296 ≤ u) (h3 : 56320 ≤ v) : (pairRune u v : Int) = ((u : Int) - 55296) * 1024 + ((v : Int) - 56320) + 65536 := by unfold pairRune; omega
def dec16 : List Nat → List Nat
  | [] => []
  | [u] => if u < 55296 ∨ 57344 ≤ u then [u] else [65533]
  | u :: v :: r =>
    if u < 55296 ∨ 57344 ≤ u then u :: dec16 (v :: r)
    else if u < 56320 ∧ 56320 ≤ v ∧ v < 57344 then pairRune u v :: dec16 r
    else 65533 :: dec16 (v :: r)

theorem dec16_plain (u : Nat) (r : List Nat) (h : u < 55296 ∨ 57344 ≤ u) : dec16 (u :: r) = u :: dec16 r := by
  cases r with
  | nil => simp [dec16, h]
  | cons v r => simp [dec16, h]
theorem dec16_pair (u v : Nat) (r : List Nat) (h1 : 55296 ≤ u) (h2 : u < 56320) (h3 : 56320 ≤ v) (h4 : v < 57344) : dec16 (u :: v :: r) = pairRune u v :: dec16 r := by
  have a : ¬ (u < 55296 ∨ 57344 ≤ u) := by omega
  simp [dec16, a, h2, h3, h4]
theorem dec16_lone (u : Nat) (r : List Nat) (h1 : 55296 ≤ u) (h2 : u < 57344) (h : ¬ (u < 56320 ∧ 56320 ≤ r.getD 0 0 ∧ r.getD 0 0 < 57344)) : dec16 (u :: r) = 65533 :: dec16 r := by
  have a : ¬ (u < 55296 ∨ 57344 ≤ u) := by omega
  cases r with
  | nil => simp [dec16, a]
  | cons v r =>
    have b : ¬ (u < 56320 ∧ 56320 ≤ v ∧ v < 57344) := by simpa using h
    simp [dec16, a, b]
theorem dec16_length (us : List Nat) : (dec16 us).length ≤ us.length := by
  have key : ∀ n, ∀ us : List Nat, us.length ≤ n → (dec16 us).length ≤ us.length := by
    intro n
    induction n with
    | zero => intro us h; have : us = [] := List.eq_nil_of_length_eq_zero (by omega); subst this; simp [dec16]
    | succ n ih =>
      intro us h
      match us, h with
      | [], _ => simp [dec16]
      | [u], _ => simp only [dec16]; split <;> simp
      | u :: v :: r, h =>
        have h1 := ih (v :: r) (by simpa using h)
        have h2 := ih r (by simp at h; omega)
        simp only [dec16]
        split
        · simpa using h1
        · split
          · simp at h2 ⊢; omega
          · simpa using h1
  exact key _ us (Nat.le_refl _)

#print axioms scan_some
end Go.Proofs.Qxb6002373a.Plain
