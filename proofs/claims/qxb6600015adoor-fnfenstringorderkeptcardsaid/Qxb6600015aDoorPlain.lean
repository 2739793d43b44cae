/-
  THE PLAIN LAWS OF SEAT b6600015aD: the yuan text of a number of fen, as lists of bytes: no Go, no program.
-/
import Derived.Lib.ItoaNum
namespace Go.Proofs.Qxb6600015aDoor.Plain
open Go.Lib (decDigits nDigits)

/-- The text of a magnitude of fen: the yuan's numeral, a point, two decimals. -/
def fenDigits (a : Nat) : List UInt8 := decDigits (a / 100) ++ [46, UInt8.ofNat (48 + a / 10 % 10), UInt8.ofNat (48 + a % 10)]
/-- The text of f fen. -/
def fenText (f : Int) : List UInt8 := if f < 0 then 45 :: fenDigits f.natAbs else fenDigits f.natAbs

/-! ### digits -/
def isDig (c : UInt8) : Prop := 48 ≤ c.toNat ∧ c.toNat ≤ 57
/-- What a row of digits comes to. -/
def val (l : List UInt8) : Nat := l.foldl (fun v c => v * 10 + (c.toNat - 48)) 0

theorem val_snoc (l : List UInt8) (c : UInt8) : val (l ++ [c]) = val l * 10 + (c.toNat - 48) := by simp [val]

theorem dig_of (n : Nat) (h : n < 10) : (UInt8.ofNat (48 + n)).toNat = 48 + n := by
  simp; omega

theorem decDigits_small {u : Nat} (h : u < 10) : decDigits u = [UInt8.ofNat (48 + u)] := by rw [decDigits, dif_pos h]
theorem decDigits_big {u : Nat} (h : ¬ u < 10) : decDigits u = decDigits (u / 10) ++ [UInt8.ofNat (48 + u % 10)] := by rw [decDigits, dif_neg h]

theorem decDigits_dig (u : Nat) : ∀ c ∈ decDigits u, isDig c := by
  induction u using Nat.strongRecOn with
  | _ u ih =>
    by_cases h : u < 10
    · rw [decDigits_small h]
      intro c hc
      simp only [List.mem_singleton] at hc
      subst hc
      unfold isDig
      rw [dig_of u h]
      omega
    · rw [decDigits_big h]
      intro c hc
      simp only [List.mem_append, List.mem_singleton] at hc
      rcases hc with hc | rfl
      · exact ih (u / 10) (by omega) c hc
      · unfold isDig
        rw [dig_of (u % 10) (by omega)]
        omega

theorem val_decDigits (u : Nat) : val (decDigits u) = u := by
  induction u using Nat.strongRecOn with
  | _ u ih =>
    by_cases h : u < 10
    · rw [decDigits_small h]
      have : val [UInt8.ofNat (48 + u)] = (UInt8.ofNat (48 + u)).toNat - 48 := by simp [val]
      rw [this, dig_of u h]
      omega
    · rw [decDigits_big h, val_snoc, ih (u / 10) (by omega), dig_of (u % 10) (by omega)]
      omega

/-- A numeral of more than one digit begins with no zero. -/
theorem decDigits_head (u : Nat) (h : 1 < (decDigits u).length) : ∃ c l, decDigits u = c :: l ∧ c ≠ 48 := by
  have key : ∀ u : Nat, 1 ≤ u → ∃ c l, decDigits u = c :: l ∧ c ≠ 48 := by
    intro u
    induction u using Nat.strongRecOn with
    | _ u ih =>
      intro hu
      by_cases h : u < 10
      · refine ⟨_, [], decDigits_small h, fun e => ?_⟩
        have := congrArg UInt8.toNat e
        rw [dig_of u h] at this
        simp at this
        omega
      · obtain ⟨c, l, e, hc⟩ := ih (u / 10) (by omega) (by omega)
        exact ⟨c, l ++ [UInt8.ofNat (48 + u % 10)], by rw [decDigits_big h, e]; rfl, hc⟩
  by_cases h0 : u = 0
  · subst h0
    rw [decDigits_small (by decide)] at h
    simp at h
  · exact key u (by omega)

theorem decDigits_pos (u : Nat) : 1 ≤ (decDigits u).length := by
  rw [Lib.decDigits_length]
  exact Lib.nDigits_pos u

theorem nDigits_le (k : Nat) : ∀ u : Nat, u < 10 ^ (k + 1) → nDigits u ≤ k + 1 := by
  induction k with
  | zero => intro u h; rw [Lib.nDigits_small (by simpa using h)]; omega
  | succ k ih =>
    intro u h
    by_cases h10 : u < 10
    · rw [Lib.nDigits_small h10]; omega
    · rw [Lib.nDigits_big h10]
      have := ih (u / 10) (by rw [Nat.pow_succ] at h; omega)
      omega

theorem decDigits_le17 (u : Nat) (h : u ≤ 92233720368547758) : (decDigits u).length ≤ 17 := by
  rw [Lib.decDigits_length]
  exact nDigits_le 16 u (by have : (10 : Nat) ^ (16 + 1) = 100000000000000000 := by decide +kernel
                            omega)

/-- A list is empty or a list and one more behind it. -/
theorem snoc_ind {p : List UInt8 → Prop} (h0 : p []) (h1 : ∀ l c, p l → p (l ++ [c])) (l : List UInt8) : p l := by
  have key : ∀ m : List UInt8, p m.reverse := by
    intro m
    induction m with
    | nil => exact h0
    | cons c m ih => rw [List.reverse_cons]; exact h1 _ _ ih
  have := key l.reverse
  rwa [List.reverse_reverse] at this

/-- A row of digits stays below its power of ten. -/
theorem val_lt (l : List UInt8) (h : ∀ c ∈ l, isDig c) : val l < 10 ^ l.length := by
  induction l using snoc_ind with
  | h0 => simp [val]
  | h1 l c ih =>
    have hl := ih (fun x hx => h x (by simp [hx]))
    have hc : isDig c := h c (by simp)
    rw [val_snoc, List.length_append, List.length_singleton, Nat.pow_succ]
    unfold isDig at hc
    omega

/-! ### the text -/
theorem fenDigits_length (a : Nat) : (fenDigits a).length = (decDigits (a / 100)).length + 3 := by simp [fenDigits]

theorem fenDigits_head (a : Nat) : ∃ c l, fenDigits a = c :: l ∧ isDig c := by
  have h := decDigits_pos (a / 100)
  have hd := decDigits_dig (a / 100)
  unfold fenDigits
  cases e : decDigits (a / 100) with
  | nil => rw [e] at h; simp at h
  | cons c l => exact ⟨c, _, rfl, hd c (by rw [e]; simp)⟩

/-! ### shortlex -/
/-- At the first place where they part the first is the lesser. -/
def lexLt : List UInt8 → List UInt8 → Bool
  | x :: xs, y :: ys => if x = y then lexLt xs ys else decide (x.toNat < y.toNat)
  | _, _ => false
def less (a b : List UInt8) : Bool := if a.length = b.length then lexLt a b else decide (a.length < b.length)

theorem lexLt_append (xs ys s t : List UInt8) (hl : xs.length = ys.length) : lexLt (xs ++ s) (ys ++ t) = if xs = ys then lexLt s t else lexLt xs ys := by
  induction xs generalizing ys with
  | nil =>
    cases ys with
    | nil => simp
    | cons y ys => simp at hl
  | cons x xs ih =>
    cases ys with
    | nil => simp at hl
    | cons y ys =>
      simp only [List.length_cons, Nat.add_right_cancel_iff] at hl
      by_cases e : x = y
      · subst e
        simp only [List.cons_append, lexLt, if_true, ih ys hl]
        by_cases e2 : xs = ys
        · simp [e2]
        · simp [e2]
      · simp [lexLt, e]

/-- Two rows of digits of one length that come to one number are the same. -/
theorem val_inj (xs ys : List UInt8) (hl : xs.length = ys.length) (hx : ∀ c ∈ xs, isDig c) (hy : ∀ c ∈ ys, isDig c) (h : val xs = val ys) : xs = ys := by
  induction xs using snoc_ind generalizing ys with
  | h0 => exact (List.eq_nil_of_length_eq_zero (by simpa using hl.symm)).symm
  | h1 xs x ih =>
    rcases List.eq_nil_or_concat ys with rfl | ⟨zs, z, rfl⟩
    · simp at hl
    · rw [List.concat_eq_append] at *
      have hl' : xs.length = zs.length := by simpa using hl
      rw [val_snoc, val_snoc] at h
      have hxd : isDig x := hx x (by simp)
      have hzd : isDig z := hy z (by simp)
      unfold isDig at hxd hzd
      have e1 := ih zs hl' (fun c hc => hx c (by simp [hc])) (fun c hc => hy c (by simp [hc])) (by omega)
      subst e1
      have e2 : x = z := UInt8.toNat_inj.1 (by omega)
      rw [e2]

/-- A lesser row of digits, of the same length, comes first. -/
theorem lexLt_of_val (xs ys : List UInt8) (hl : xs.length = ys.length) (hx : ∀ c ∈ xs, isDig c) (hy : ∀ c ∈ ys, isDig c) (h : val xs < val ys) : lexLt xs ys = true := by
  induction xs using snoc_ind generalizing ys with
  | h0 =>
    have : ys = [] := List.eq_nil_of_length_eq_zero (by simpa using hl.symm)
    subst this
    simp at h
  | h1 xs x ih =>
    rcases List.eq_nil_or_concat ys with rfl | ⟨zs, z, rfl⟩
    · simp at hl
    · rw [List.concat_eq_append] at *
      have hl' : xs.length = zs.length := by simpa using hl
      rw [val_snoc, val_snoc] at h
      rw [lexLt_append xs zs [x] [z] hl']
      have hxd : isDig x := hx x (by simp)
      have hzd : isDig z := hy z (by simp)
      unfold isDig at hxd hzd
      by_cases e : xs = zs
      · subst e
        rw [if_pos rfl]
        have hlt : x.toNat < z.toNat := by omega
        have hne : x ≠ z := fun e => by rw [e] at hlt; omega
        simp [lexLt, hne, hlt]
      · rw [if_neg e]
        by_cases hv : val xs < val zs
        · exact ih zs hl' (fun c hc => hx c (by simp [hc])) (fun c hc => hy c (by simp [hc])) hv
        · exfalso
          refine e (val_inj xs zs hl' (fun c hc => hx c (by simp [hc])) (fun c hc => hy c (by simp [hc])) ?_)
          omega

theorem nDigits_mono (a b : Nat) (h : a ≤ b) : nDigits a ≤ nDigits b := by
  induction b using Nat.strongRecOn generalizing a with
  | _ b ih =>
    by_cases hb : b < 10
    · rw [Lib.nDigits_small hb, Lib.nDigits_small (by omega)]; omega
    · rw [Lib.nDigits_big hb]
      by_cases ha : a < 10
      · rw [Lib.nDigits_small ha]; omega
      · rw [Lib.nDigits_big ha]
        have := ih (b / 10) (by omega) (a / 10) (by omega)
        omega

theorem ofNat_ne (m n : Nat) (hm : m < 10) (hn : n < 10) (h : m < n) : UInt8.ofNat (48 + m) ≠ UInt8.ofNat (48 + n) := fun e => by
  have := congrArg UInt8.toNat e
  rw [dig_of m hm, dig_of n hn] at this
  omega

theorem lex_tail (a b : Nat) (h : a % 100 < b % 100) : lexLt [46, UInt8.ofNat (48 + a / 10 % 10), UInt8.ofNat (48 + a % 10)] [46, UInt8.ofNat (48 + b / 10 % 10), UInt8.ofNat (48 + b % 10)] = true := by
  simp only [lexLt, if_true]
  by_cases e : a / 10 % 10 = b / 10 % 10
  · rw [e, if_pos rfl, if_neg (ofNat_ne _ _ (by omega) (by omega) (by omega)), dig_of _ (by omega), dig_of _ (by omega)]
    simp; omega
  · rw [if_neg (ofNat_ne _ _ (by omega) (by omega) (by omega)), dig_of _ (by omega), dig_of _ (by omega)]
    simp; omega

/-- THE ORDER IS KEPT. -/
theorem less_fen (a b : Nat) (h : a < b) : less (fenDigits a) (fenDigits b) = true := by
  unfold less
  rw [fenDigits_length, fenDigits_length]
  have hm := nDigits_mono (a / 100) (b / 100) (by omega)
  rw [← Lib.decDigits_length, ← Lib.decDigits_length] at hm
  by_cases hl : (decDigits (a / 100)).length = (decDigits (b / 100)).length
  · rw [if_pos (by omega)]
    unfold fenDigits
    rw [lexLt_append _ _ _ _ hl]
    by_cases e : decDigits (a / 100) = decDigits (b / 100)
    · rw [if_pos e]
      have ev : a / 100 = b / 100 := by rw [← val_decDigits (a / 100), e, val_decDigits]
      exact lex_tail a b (by omega)
    · rw [if_neg e]
      have hne : a / 100 ≠ b / 100 := fun x => e (by rw [x])
      exact lexLt_of_val _ _ hl (decDigits_dig _) (decDigits_dig _) (by rw [val_decDigits, val_decDigits]; omega)
  · rw [if_neg (by omega)]
    simp; omega

#print axioms less_fen
end Go.Proofs.Qxb6600015aDoor.Plain
