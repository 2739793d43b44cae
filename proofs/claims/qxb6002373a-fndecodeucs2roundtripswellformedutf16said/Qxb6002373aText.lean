/-
  SEAT b6002373a: THE PLAIN LAWS OF UTF-8 AND UTF-16: no Go, no program.
-/
import Derived.Test.Qxb6002373aPlain
namespace Go.Proofs.Qxb6002373a.Plain

def scalar (r : Nat) : Prop := r < 55296 ∨ (57344 ≤ r ∧ r ≤ 1114111)

/-- A rune's UTF-8 bytes. -/
def enc8 (r : Nat) : List UInt8 :=
  if r < 128 then [UInt8.ofNat r]
  else if r < 2048 then [UInt8.ofNat (192 + r / 64), UInt8.ofNat (128 + r % 64)]
  else if r < 65536 then [UInt8.ofNat (224 + r / 4096), UInt8.ofNat (128 + r / 64 % 64), UInt8.ofNat (128 + r % 64)]
  else [UInt8.ofNat (240 + r / 262144), UInt8.ofNat (128 + r / 4096 % 64), UInt8.ofNat (128 + r / 64 % 64), UInt8.ofNat (128 + r % 64)]

theorem enc8_pos (r : Nat) : 1 ≤ (enc8 r).length := by
  unfold enc8
  split
  · simp
  · split
    · simp
    · split <;> simp
theorem enc8_le (r : Nat) : (enc8 r).length ≤ 4 := by
  unfold enc8
  split
  · simp
  · split
    · simp
    · split <;> simp
theorem enc8_le3 (r : Nat) (h : r < 65536) : (enc8 r).length ≤ 3 := by
  unfold enc8
  split
  · simp
  · split
    · simp
    · simp

/-- Reading one rune at place i: the rune and how many bytes it took; no byte where it is no good. -/
def dec8 (l : List UInt8) (i : Nat) : Nat × Nat :=
  let c0 := byteAt l i
  let c1 := byteAt l (i + 1)
  let c2 := byteAt l (i + 2)
  let c3 := byteAt l (i + 3)
  if c0 < 128 then (c0, 1)
  else if 194 ≤ c0 ∧ c0 ≤ 223 then
    if i + 1 < l.length ∧ 128 ≤ c1 ∧ c1 ≤ 191 then (c0 % 32 * 64 + c1 % 64, 2) else (0, 0)
  else if 224 ≤ c0 ∧ c0 ≤ 239 then
    if i + 2 < l.length ∧ (if c0 = 224 then 160 else 128) ≤ c1 ∧ c1 ≤ (if c0 = 237 then 159 else 191) ∧ 128 ≤ c2 ∧ c2 ≤ 191 then ((c0 % 16 * 64 + c1 % 64) * 64 + c2 % 64, 3) else (0, 0)
  else if 240 ≤ c0 ∧ c0 ≤ 244 then
    if i + 3 < l.length ∧ (if c0 = 240 then 144 else 128) ≤ c1 ∧ c1 ≤ (if c0 = 244 then 143 else 191) ∧ 128 ≤ c2 ∧ c2 ≤ 191 ∧ 128 ≤ c3 ∧ c3 ≤ 191 then (((c0 % 8 * 64 + c1 % 64) * 64 + c2 % 64) * 64 + c3 % 64, 4) else (0, 0)
  else (0, 0)

theorem ofNat_toNat (n : Nat) (h : n < 256) : (UInt8.ofNat n).toNat = n := by rw [UInt8.toNat_ofNat']; omega

theorem byteAt_cons (a : UInt8) (r : List UInt8) (k : Nat) : byteAt (a :: r) (k + 1) = byteAt r k := by simp [byteAt]
theorem byteAt_zero (a : UInt8) (r : List UInt8) : byteAt (a :: r) 0 = a.toNat := by simp [byteAt]

/-- WHAT IS WRITTEN IS READ BACK. -/
theorem dec8_enc8 (l : List UInt8) (i : Nat) (r : Nat) (rest : List UInt8) (hs : scalar r) (e : l.drop i = enc8 r ++ rest) : dec8 l i = (r, (enc8 r).length) := by
  have hlen : l.length - i = (enc8 r).length + rest.length := by rw [← List.length_drop, e, List.length_append]
  have hp := enc8_pos r
  have b0 : byteAt l i = byteAt (enc8 r ++ rest) 0 := by rw [← e, byteAt_drop]; rfl
  have b1 : byteAt l (i + 1) = byteAt (enc8 r ++ rest) 1 := by rw [← e, byteAt_drop]
  have b2 : byteAt l (i + 2) = byteAt (enc8 r ++ rest) 2 := by rw [← e, byteAt_drop]
  have b3 : byteAt l (i + 3) = byteAt (enc8 r ++ rest) 3 := by rw [← e, byteAt_drop]
  unfold scalar at hs
  unfold dec8
  simp only [b0, b1, b2, b3]
  by_cases c1 : r < 128
  · have ee : enc8 r = [UInt8.ofNat r] := by unfold enc8; rw [if_pos c1]
    rw [ee]
    simp only [List.cons_append, List.nil_append, byteAt_zero, List.length_cons, List.length_nil]
    rw [ofNat_toNat r (by omega), if_pos c1]
  · by_cases c2 : r < 2048
    · have ee : enc8 r = [UInt8.ofNat (192 + r / 64), UInt8.ofNat (128 + r % 64)] := by unfold enc8; rw [if_neg c1, if_pos c2]
      rw [ee] at hlen ⊢
      simp only [List.length_cons, List.length_nil] at hlen
      simp only [List.cons_append, List.nil_append, byteAt_zero, byteAt_cons, List.length_cons, List.length_nil]
      rw [ofNat_toNat (192 + r / 64) (by omega), ofNat_toNat (128 + r % 64) (by omega), if_neg (by omega), if_pos (by omega), if_pos (by omega)]
      exact Prod.ext (by simp only; omega) rfl
    · by_cases c3 : r < 65536
      · have ee : enc8 r = [UInt8.ofNat (224 + r / 4096), UInt8.ofNat (128 + r / 64 % 64), UInt8.ofNat (128 + r % 64)] := by unfold enc8; rw [if_neg c1, if_neg c2, if_pos c3]
        rw [ee] at hlen ⊢
        simp only [List.length_cons, List.length_nil] at hlen
        simp only [List.cons_append, List.nil_append, byteAt_zero, byteAt_cons, List.length_cons, List.length_nil]
        rw [ofNat_toNat (224 + r / 4096) (by omega), ofNat_toNat (128 + r / 64 % 64) (by omega), ofNat_toNat (128 + r % 64) (by omega), if_neg (by omega), if_neg (by omega), if_pos (by omega), if_pos (by refine ⟨by omega, ?_, ?_, by omega, by omega⟩ <;> split <;> omega)]
        exact Prod.ext (by simp only; omega) rfl
      · have ee : enc8 r = [UInt8.ofNat (240 + r / 262144), UInt8.ofNat (128 + r / 4096 % 64), UInt8.ofNat (128 + r / 64 % 64), UInt8.ofNat (128 + r % 64)] := by unfold enc8; rw [if_neg c1, if_neg c2, if_neg c3]
        rw [ee] at hlen ⊢
        simp only [List.length_cons, List.length_nil] at hlen
        simp only [List.cons_append, List.nil_append, byteAt_zero, byteAt_cons, List.length_cons, List.length_nil]
        rw [ofNat_toNat (240 + r / 262144) (by omega), ofNat_toNat (128 + r / 4096 % 64) (by omega), ofNat_toNat (128 + r / 64 % 64) (by omega), ofNat_toNat (128 + r % 64) (by omega), if_neg (by omega), if_neg (by omega), if_neg (by omega), if_pos (by omega), if_pos (by refine ⟨by omega, ?_, ?_, by omega, by omega, by omega, by omega⟩ <;> split <;> omega)]
        exact Prod.ext (by simp only; omega) rfl

theorem toNat_ofByte (l : List UInt8) (i : Nat) (h : i < l.length) : UInt8.ofNat (byteAt l i) = l[i] := by
  rw [byteAt_get l i h]; simp

theorem drop_cons (l : List UInt8) (i : Nat) (h : i < l.length) : l.drop i = UInt8.ofNat (byteAt l i) :: l.drop (i + 1) := by
  rw [toNat_ofByte l i h]; exact List.drop_eq_getElem_cons h

/-- WHAT IS READ WAS WRITTEN SO. -/
theorem dec8_inv (l : List UInt8) (i : Nat) (h : i < l.length) (hk : (dec8 l i).2 ≠ 0) : scalar (dec8 l i).1 ∧ (dec8 l i).2 = (enc8 (dec8 l i).1).length ∧ l.drop i = enc8 (dec8 l i).1 ++ l.drop (i + (dec8 l i).2) ∧ i + (dec8 l i).2 ≤ l.length := by
  have l0 := byteAt_lt l i
  have l1 := byteAt_lt l (i + 1)
  have l2 := byteAt_lt l (i + 2)
  have l3 := byteAt_lt l (i + 3)
  unfold dec8 at hk ⊢
  simp only at hk ⊢
  generalize e0 : byteAt l i = c0 at *
  generalize e1 : byteAt l (i + 1) = c1 at *
  generalize e2 : byteAt l (i + 2) = c2 at *
  generalize e3 : byteAt l (i + 3) = c3 at *
  by_cases a1 : c0 < 128
  · rw [if_pos a1] at hk ⊢
    simp only
    have ee : enc8 c0 = [UInt8.ofNat c0] := by unfold enc8; rw [if_pos a1]
    rw [ee]
    refine ⟨.inl (by omega), rfl, ?_, by omega⟩
    rw [drop_cons l i h, e0]; rfl
  · rw [if_neg a1] at hk ⊢
    by_cases a2 : 194 ≤ c0 ∧ c0 ≤ 223
    · rw [if_pos a2] at hk ⊢
      by_cases b : i + 1 < l.length ∧ 128 ≤ c1 ∧ c1 ≤ 191
      · rw [if_pos b] at hk ⊢
        simp only
        generalize er : c0 % 32 * 64 + c1 % 64 = r
        have ee : enc8 r = [UInt8.ofNat c0, UInt8.ofNat c1] := by
          unfold enc8; rw [if_neg (by omega), if_pos (by omega)]
          rw [show 192 + r / 64 = c0 by omega, show 128 + r % 64 = c1 by omega]
        rw [ee]
        refine ⟨.inl (by omega), rfl, ?_, by omega⟩
        rw [drop_cons l i h, drop_cons l (i + 1) b.1, e0, e1]; rfl
      · rw [if_neg b] at hk; exact absurd rfl hk
    · rw [if_neg a2] at hk ⊢
      by_cases a3 : 224 ≤ c0 ∧ c0 ≤ 239
      · rw [if_pos a3] at hk ⊢
        by_cases b : i + 2 < l.length ∧ (if c0 = 224 then 160 else 128) ≤ c1 ∧ c1 ≤ (if c0 = 237 then 159 else 191) ∧ 128 ≤ c2 ∧ c2 ≤ 191
        · rw [if_pos b] at hk ⊢
          simp only
          obtain ⟨k1, k2, k3, k4, k5⟩ := b
          have m1 : 128 ≤ c1 ∧ (c0 = 224 → 160 ≤ c1) := by split at k2 <;> omega
          have m2 : c1 ≤ 191 ∧ (c0 = 237 → c1 ≤ 159) := by split at k3 <;> omega
          clear k2 k3
          generalize er : (c0 % 16 * 64 + c1 % 64) * 64 + c2 % 64 = r
          have ee : enc8 r = [UInt8.ofNat c0, UInt8.ofNat c1, UInt8.ofNat c2] := by
            unfold enc8; rw [if_neg (by omega), if_neg (by omega), if_pos (by omega)]
            rw [show 224 + r / 4096 = c0 by omega, show 128 + r / 64 % 64 = c1 by omega, show 128 + r % 64 = c2 by omega]
          rw [ee]
          refine ⟨by unfold scalar; omega, rfl, ?_, by omega⟩
          rw [drop_cons l i h, drop_cons l (i + 1) (by omega), drop_cons l (i + 1 + 1) (by omega), e0, e1, show byteAt l (i + 1 + 1) = c2 from e2]; rfl
        · rw [if_neg b] at hk; exact absurd rfl hk
      · rw [if_neg a3] at hk ⊢
        by_cases a4 : 240 ≤ c0 ∧ c0 ≤ 244
        · rw [if_pos a4] at hk ⊢
          by_cases b : i + 3 < l.length ∧ (if c0 = 240 then 144 else 128) ≤ c1 ∧ c1 ≤ (if c0 = 244 then 143 else 191) ∧ 128 ≤ c2 ∧ c2 ≤ 191 ∧ 128 ≤ c3 ∧ c3 ≤ 191
          · rw [if_pos b] at hk ⊢
            simp only
            obtain ⟨k1, k2, k3, k4, k5, k6, k7⟩ := b
            have m1 : 128 ≤ c1 ∧ (c0 = 240 → 144 ≤ c1) := by split at k2 <;> omega
            have m2 : c1 ≤ 191 ∧ (c0 = 244 → c1 ≤ 143) := by split at k3 <;> omega
            clear k2 k3
            generalize er : ((c0 % 8 * 64 + c1 % 64) * 64 + c2 % 64) * 64 + c3 % 64 = r
            have ee : enc8 r = [UInt8.ofNat c0, UInt8.ofNat c1, UInt8.ofNat c2, UInt8.ofNat c3] := by
              unfold enc8; rw [if_neg (by omega), if_neg (by omega), if_neg (by omega)]
              rw [show 240 + r / 262144 = c0 by omega, show 128 + r / 4096 % 64 = c1 by omega, show 128 + r / 64 % 64 = c2 by omega, show 128 + r % 64 = c3 by omega]
            rw [ee]
            refine ⟨by unfold scalar; omega, rfl, ?_, by omega⟩
            rw [drop_cons l i h, drop_cons l (i + 1) (by omega), drop_cons l (i + 1 + 1) (by omega), drop_cons l (i + 1 + 1 + 1) (by omega), e0, e1, show byteAt l (i + 1 + 1) = c2 from e2, show byteAt l (i + 1 + 1 + 1) = c3 from e3]; rfl
          · rw [if_neg b] at hk; exact absurd rfl hk
        · rw [if_neg a4] at hk; exact absurd rfl hk

/-! ### texts -/
def text8 (rs : List Nat) : List UInt8 := rs.flatMap enc8
/-- UTF-8 text without U+0000. -/
def Good (l : List UInt8) : Prop := ∃ rs : List Nat, (∀ r ∈ rs, scalar r ∧ r ≠ 0) ∧ l = text8 rs

theorem text8_cons (r : Nat) (rs : List Nat) : text8 (r :: rs) = enc8 r ++ text8 rs := rfl
theorem text8_append (a b : List Nat) : text8 (a ++ b) = text8 a ++ text8 b := by simp [text8]

theorem good_nil (l : List UInt8) (i : Nat) (h : l.length ≤ i) : Good (l.drop i) := ⟨[], by simp, by rw [List.drop_of_length_le h]; rfl⟩

/-- One step of the check, where the rune is good. -/
theorem good_step (l : List UInt8) (i : Nat) (h : i < l.length) (hk : (dec8 l i).2 ≠ 0) (h0 : (dec8 l i).1 ≠ 0) : Good (l.drop i) ↔ Good (l.drop (i + (dec8 l i).2)) := by
  obtain ⟨hs, he, hd, hle⟩ := dec8_inv l i h hk
  constructor
  · rintro ⟨rs, hr, e⟩
    cases rs with
    | nil => rw [hd] at e; have := congrArg List.length e; have hp := enc8_pos (dec8 l i).1; rw [List.length_append] at this; have e0 : (text8 []).length = 0 := rfl; omega
    | cons r rs =>
      have hsr := (hr r (by simp)).1
      have e2 := dec8_enc8 l i r (text8 rs) hsr (by rw [e]; rfl)
      refine ⟨rs, fun x hx => hr x (by simp [hx]), ?_⟩
      rw [hd, text8_cons] at e
      have e3 : (dec8 l i).1 = r := by rw [e2]
      rw [e3] at e
      exact List.append_cancel_left e
  · rintro ⟨rs, hr, e⟩
    refine ⟨(dec8 l i).1 :: rs, ?_, by rw [hd, e]; rfl⟩
    intro x hx
    rcases List.mem_cons.1 hx with rfl | hx
    · exact ⟨hs, h0⟩
    · exact hr x hx

/-- Where it is no good. -/
theorem bad_step (l : List UInt8) (i : Nat) (h : i < l.length) (hk : (dec8 l i).2 = 0 ∨ (dec8 l i).1 = 0) : ¬ Good (l.drop i) := by
  rintro ⟨rs, hr, e⟩
  cases rs with
  | nil => have := congrArg List.length e; simp [text8] at this; omega
  | cons r rs =>
    have hsr := hr r (by simp)
    have e2 := dec8_enc8 l i r (text8 rs) hsr.1 (by rw [e]; rfl)
    have hp := enc8_pos r
    rw [e2] at hk
    simp only at hk
    omega

/-! ### UTF-16 -/
def units16 (r : Nat) : List Nat := if r < 65536 then [r] else [55296 + (r - 65536) / 1024, 56320 + (r - 65536) % 1024]
def le2 (u : Nat) : List UInt8 := [UInt8.ofNat (u % 256), UInt8.ofNat (u / 256)]
def bytes16 (us : List Nat) : List UInt8 := us.flatMap le2
theorem bytes16_length (us : List Nat) : (bytes16 us).length = 2 * us.length := by
  induction us with
  | nil => rfl
  | cons u us ih => simp [bytes16, le2] at ih ⊢; omega
theorem bytes16_append (a b : List Nat) : bytes16 (a ++ b) = bytes16 a ++ bytes16 b := by simp [bytes16]

theorem dec16_units (rs : List Nat) (h : ∀ r ∈ rs, scalar r) : dec16 (rs.flatMap units16) = rs := by
  induction rs with
  | nil => rfl
  | cons r rs ih =>
    have hr := h r (by simp)
    have ih' := ih (fun x hx => h x (by simp [hx]))
    unfold scalar at hr
    rw [List.flatMap_cons]
    unfold units16
    by_cases c : r < 65536
    · rw [if_pos c, List.cons_append, List.nil_append, dec16_plain _ _ (by omega)]
      rw [show rs.flatMap (fun r => if r < 65536 then [r] else [55296 + (r - 65536) / 1024, 56320 + (r - 65536) % 1024]) = rs.flatMap units16 from rfl, ih']
    · rw [if_neg c, List.cons_append, List.cons_append, List.nil_append, dec16_pair _ _ _ (by omega) (by omega) (by omega) (by omega)]
      rw [show rs.flatMap (fun r => if r < 65536 then [r] else [55296 + (r - 65536) / 1024, 56320 + (r - 65536) % 1024]) = rs.flatMap units16 from rfl, ih']
      have e : pairRune (55296 + (r - 65536) / 1024) (56320 + (r - 65536) % 1024) = r := by unfold pairRune; omega
      rw [e]

theorem units16_ok (r : Nat) (hs : scalar r) (h0 : r ≠ 0) : ∀ u ∈ units16 r, u < 65536 ∧ u ≠ 0 := by
  unfold scalar at hs
  unfold units16
  intro u hu
  split at hu
  · simp at hu; omega
  · simp at hu; omega

/-- The scan of units, a zero unit and whatever behind it. -/
theorem scan_bytes16 (us : List Nat) (tail : List UInt8) (h : ∀ u ∈ us, u < 65536 ∧ u ≠ 0) : scan (bytes16 us ++ 0 :: 0 :: tail) = some us := by
  induction us with
  | nil => rfl
  | cons u us ih =>
    have hu := h u (by simp)
    have e : bytes16 (u :: us) ++ 0 :: 0 :: tail = UInt8.ofNat (u % 256) :: UInt8.ofNat (u / 256) :: (bytes16 us ++ 0 :: 0 :: tail) := rfl
    rw [e, scan, ofNat_toNat _ (by omega), ofNat_toNat _ (by omega), if_neg (by omega), ih (fun x hx => h x (by simp [hx]))]
    simp
    omega

/-- Every rune that comes out of units of 16 bits is a scalar value. -/
theorem dec16_scalar (us : List Nat) (h : ∀ u ∈ us, u < 65536) : ∀ r ∈ dec16 us, scalar r := by
  have key : ∀ n, ∀ us : List Nat, us.length ≤ n → (∀ u ∈ us, u < 65536) → ∀ r ∈ dec16 us, scalar r := by
    intro n
    induction n with
    | zero => intro us hn _ r hr; have : us = [] := List.eq_nil_of_length_eq_zero (by omega); subst this; simp [dec16] at hr
    | succ n ih =>
      intro us hn hu r hr
      match us, hn, hu, hr with
      | [], _, _, hr => simp [dec16] at hr
      | [u], _, hu, hr =>
        have := hu u (by simp)
        simp only [dec16] at hr
        unfold scalar
        split at hr <;> simp at hr <;> omega
      | u :: v :: t, hn, hu, hr =>
        have a1 := hu u (by simp)
        have a2 := hu v (by simp)
        have i1 := ih (v :: t) (by simpa using hn) (fun x hx => hu x (by simp [List.mem_cons.1 hx]))
        have i2 := ih t (by simp at hn; omega) (fun x hx => hu x (by simp [hx]))
        simp only [dec16] at hr
        split at hr
        · rcases List.mem_cons.1 hr with e | hr
          · rw [e]; unfold scalar; omega
          · exact i1 r hr
        · split at hr
          · rcases List.mem_cons.1 hr with e | hr
            · rw [e]; unfold scalar pairRune; omega
            · exact i2 r hr
          · rcases List.mem_cons.1 hr with hr | hr
            · unfold scalar; omega
            · exact i1 r hr
  exact key _ us (Nat.le_refl _) h

#print axioms dec8_inv
#print axioms dec8_enc8
end Go.Proofs.Qxb6002373a.Plain
