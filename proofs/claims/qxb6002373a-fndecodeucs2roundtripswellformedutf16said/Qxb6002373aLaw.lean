/-
  SEAT b6002373a: THE TEXT THAT DecodeUCS2 GIVES, AS BYTES: plain.
-/
import Derived.Test.Qxb6002373aText
import Derived.Test.Qxb6002373aShare
namespace Go.Proofs.Qxb6002373a
open Go
open Plain (byteAt dec16 pairRune scan scalar enc8 text8)

theorem encode_eq (r : Nat) (h : scalar r) : (Utf8.encode (r : Int)).data.toList = enc8 r := by
  unfold scalar at h
  have hv : Utf8.valid (r : Int) = true := by
    unfold Utf8.valid
    simp
    omega
  unfold Utf8.encode
  simp only [hv, if_true, Int.toNat_natCast]
  unfold enc8
  by_cases c1 : r < 128
  · rw [if_pos c1, if_pos c1]
  · rw [if_neg c1, if_neg c1]
    by_cases c2 : r < 2048
    · rw [if_pos c2, if_pos c2]
    · rw [if_neg c2, if_neg c2]
      by_cases c3 : r < 65536
      · rw [if_pos c3, if_pos c3]
      · rw [if_neg c3, if_neg c3]

theorem foldl_list (ns : List Nat) (h : ∀ r ∈ ns, scalar r) : ∀ s : ByteArray, ((ns.map fun (r : Nat) => (r : Int)).foldl (fun r n => r ++ Utf8.encode n) s).data.toList = s.data.toList ++ text8 ns := by
  induction ns with
  | nil => intro s; simp [text8]
  | cons r ns ih =>
    intro s
    rw [List.map_cons, List.foldl_cons, ih (fun x hx => h x (by simp [hx]))]
    rw [Plain.text8_cons, ← encode_eq r (h r (by simp))]
    simp

theorem text_list (rs : List Nat) (h : ∀ r ∈ rs, scalar r) : (textOf rs).data.toList = text8 rs := by
  unfold textOf runesBytes
  rw [foldl_list rs h]
  rfl

theorem text_size (rs : List Nat) (h : ∀ r ∈ rs, scalar r) : (textOf rs).size = (text8 rs).length := by
  rw [← text_list rs h, Array.length_toList]; rfl

/-- No rune is 0 where no unit is. -/
theorem dec16_nonzero (us : List Nat) (h : ∀ u ∈ us, u ≠ 0) : ∀ r ∈ dec16 us, r ≠ 0 := by
  have key : ∀ n, ∀ us : List Nat, us.length ≤ n → (∀ u ∈ us, u ≠ 0) → ∀ r ∈ dec16 us, r ≠ 0 := by
    intro n
    induction n with
    | zero => intro us hn _ r hr; have : us = [] := List.eq_nil_of_length_eq_zero (by omega); subst this; simp [dec16] at hr
    | succ n ih =>
      intro us hn hu r hr
      match us, hn, hu, hr with
      | [], _, _, hr => simp [dec16] at hr
      | [u], _, hu, hr =>
        have := hu u (by simp)
        simp only [dec16] at hr
        split at hr <;> simp at hr <;> omega
      | u :: v :: t, hn, hu, hr =>
        have a1 := hu u (by simp)
        have i1 := ih (v :: t) (by simpa using hn) (fun x hx => hu x (by simp [List.mem_cons.1 hx]))
        have i2 := ih t (by simp at hn; omega) (fun x hx => hu x (by simp [hx]))
        simp only [dec16] at hr
        split at hr
        · rcases List.mem_cons.1 hr with e | hr
          · rw [e]; exact a1
          · exact i1 r hr
        · split at hr
          · rcases List.mem_cons.1 hr with e | hr
            · rw [e]; unfold pairRune; omega
            · exact i2 r hr
          · rcases List.mem_cons.1 hr with e | hr
            · omega
            · exact i1 r hr
  exact key _ us (Nat.le_refl _) h

/-- One to three bytes a unit. -/
theorem text_bounds (us : List Nat) (h : ∀ u ∈ us, u < 65536) : us.length ≤ (text8 (dec16 us)).length ∧ (text8 (dec16 us)).length ≤ 3 * us.length := by
  have key : ∀ n, ∀ us : List Nat, us.length ≤ n → (∀ u ∈ us, u < 65536) → us.length ≤ (text8 (dec16 us)).length ∧ (text8 (dec16 us)).length ≤ 3 * us.length := by
    intro n
    induction n with
    | zero => intro us hn _; have : us = [] := List.eq_nil_of_length_eq_zero (by omega); subst this; simp [dec16, text8]
    | succ n ih =>
      intro us hn hu
      cases us with
      | nil => simp [dec16, text8]
      | cons u r =>
        have a1 := hu u (by simp)
        have i1 := ih r (by simpa using hn) (fun x hx => hu x (by simp [hx]))
        by_cases c : u < 55296 ∨ 57344 ≤ u
        · rw [Plain.dec16_plain u r c, Plain.text8_cons, List.length_append, List.length_cons]
          have := Plain.enc8_pos u
          have := Plain.enc8_le3 u a1
          omega
        · by_cases d : u < 56320 ∧ 56320 ≤ r.getD 0 0 ∧ r.getD 0 0 < 57344
          · cases r with
            | nil => simp at d
            | cons v t =>
              simp at d
              have i2 := ih t (by simp at hn; omega) (fun x hx => hu x (by simp [hx]))
              rw [Plain.dec16_pair u v t (by omega) d.1 d.2.1 d.2.2, Plain.text8_cons, List.length_append, List.length_cons, List.length_cons]
              have h4 := Plain.enc8_le (pairRune u v)
              have h2 : 2 ≤ (enc8 (pairRune u v)).length := by
                have hp : ¬ pairRune u v < 65536 := by unfold pairRune; omega
                unfold enc8
                rw [if_neg (by omega), if_neg (by omega), if_neg hp]
                simp
              omega
          · rw [Plain.dec16_lone u r (by omega) (by omega) d, Plain.text8_cons, List.length_append, List.length_cons]
            have e3 : (enc8 65533).length = 3 := by decide +kernel
            omega
  exact key _ us (Nat.le_refl _) h

theorem mem_units {l : List UInt8} {us : List Nat} (h : scan l = some us) : ∀ u ∈ us, u < 65536 ∧ u ≠ 0 := by
  obtain ⟨_, _, _, h4⟩ := Plain.scan_some l us h
  intro u hu
  obtain ⟨k, hk, rfl⟩ := List.getElem_of_mem hu
  have := h4 k hk
  have e : us.getD k 0 = us[k] := by simp [List.getD, hk]
  have c1 := Plain.byteAt_lt l (2 * k)
  have c2 := Plain.byteAt_lt l (2 * k + 1)
  rw [e] at this
  omega

theorem good_text {l : List UInt8} {us : List Nat} (h : scan l = some us) : Plain.Good (textOf (dec16 us)).data.toList := by
  have hm := mem_units h
  have hs := Plain.dec16_scalar us (fun u hu => (hm u hu).1)
  refine ⟨dec16 us, fun r hr => ⟨hs r hr, dec16_nonzero us (fun u hu => (hm u hu).2) r hr⟩, text_list _ hs⟩

theorem size_text {l : List UInt8} {us : List Nat} (h : scan l = some us) : us.length ≤ (textOf (dec16 us)).size ∧ (textOf (dec16 us)).size ≤ 3 * us.length := by
  have hm := mem_units h
  have hs := Plain.dec16_scalar us (fun u hu => (hm u hu).1)
  rw [text_size _ hs]
  exact text_bounds us (fun u hu => (hm u hu).1)

#print axioms good_text
#print axioms size_text
end Go.Proofs.Qxb6002373a
