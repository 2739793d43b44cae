/-
  SEAT b6002373a: THE WALK OF validTextNoNul.
-/
import Derived.Test.Qxb6002373aUtf8g
namespace Go.Proofs.Qxb6002373a
open Go Go.RowKit
open Plain (byteAt dec8)

/-- The rune at place i, and how many bytes it takes, as the walk sees them. -/
def rz (l : List UInt8) (i : Nat) : Int := ((dec8 l i).1 : Nat)
def sz (l : List UInt8) (i : Nat) : Int := ((dec8 l i).2 : Nat)

theorem d8_z (s : ByteArray) (i : Nat) (hi : i < s.size) (hm : (s.size : Int) ≤ 1000000) (w : World) :
    Calls Try.prog 21 #[.string s, .int .i64 i] w fun e w' => e = .returned (.tuple #[.int .i32 (rz s.data.toList i), .int .i64 (sz s.data.toList i)]) ∧ w' = w := d8_any s i hi hm w

/-- What validTextNoNul answers. -/
def ValidAns (l : List UInt8) (e : Ending) : Prop := ∃ b : Bool, e = .returned (.bool b) ∧ (b = true ↔ Plain.Good l)

set_option maxHeartbeats 1000000 in
theorem valid_any (s : ByteArray) (hm : (s.size : Int) ≤ 1000000) (w : World) :
    Calls Try.prog 13 #[.string s] w fun e w' => ValidAns s.data.toList e ∧ w' = w := by
  have el := len_size s
  have EL := Lib.hid el
  clear el
  go_enter Try.func13, Try.ntmps13
  go_wp2
  go_loop [3] (fun i => ∃ k : Nat, k ≤ s.size ∧ i = .int .i64 k ∧ (Plain.Good s.data.toList ↔ Plain.Good (s.data.toList.drop k))) (fun i => s.size - (intOf i).toNat)
  case atStart => exact ⟨0, Nat.zero_le _, rfl, by simp⟩
  case round =>
    obtain ⟨k, hk, rfl, hg⟩ := hrel
    have HG := Lib.hid hg
    clear hg
    by_cases hlt : k < s.size
    · by_cases hz : (dec8 s.data.toList k).2 = 0
      · have b1 : (sz s.data.toList k == 0) = true := by unfold sz; rw [beq_iff_eq]; omega
        have HB := Lib.hid (Plain.bad_step s.data.toList k (by rw [EL.out]; exact hlt) (.inl hz))
        clear hz
        go_wp2_with (go_at_call 21; refine (d8_z s k hlt hm _).mono ?_; rintro e w' ⟨rfl, rfl⟩)
        go_ret
        exact ⟨⟨false, rfl, by rw [HG.out]; simp [HB.out]⟩, rfl⟩
      · have b1 : (sz s.data.toList k == 0) = false := by unfold sz; rw [beq_eq_false_iff_ne]; omega
        by_cases hr : (dec8 s.data.toList k).1 = 0
        · have b2 : (rz s.data.toList k == 0) = true := by unfold rz; rw [beq_iff_eq]; omega
          have HB := Lib.hid (Plain.bad_step s.data.toList k (by rw [EL.out]; exact hlt) (.inr hr))
          clear hz hr
          go_wp2_with (go_at_call 21; refine (d8_z s k hlt hm _).mono ?_; rintro e w' ⟨rfl, rfl⟩)
          go_ret
          exact ⟨⟨false, rfl, by rw [HG.out]; simp [HB.out]⟩, rfl⟩
        · have b2 : (rz s.data.toList k == 0) = false := by unfold rz; rw [beq_eq_false_iff_ne]; omega
          have HB := Lib.hid (Plain.good_step s.data.toList k (by rw [EL.out]; exact hlt) hz hr)
          obtain ⟨-, hE, -, hle⟩ := Plain.dec8_inv s.data.toList k (by rw [EL.out]; exact hlt) hz
          rw [EL.out] at hle
          have ES := Lib.hid (show sz s.data.toList k = ((dec8 s.data.toList k).2 : Int) from rfl)
          have s1 : 1 ≤ sz s.data.toList k := by rw [ES.out]; omega
          have s2 : (k : Int) + sz s.data.toList k ≤ s.size := by rw [ES.out]; omega
          clear hz hr hE
          have HLE := Lib.hid hle
          clear hle
          go_wp2_with (go_at_call 21; refine (d8_z s k hlt hm _).mono ?_; rintro e w' ⟨rfl, rfl⟩)
          exact ⟨⟨k + (dec8 s.data.toList k).2, HLE.out, by rw [ES.out]; go_num, HG.out.trans HB.out⟩, by have := ES.out; have := HLE.out; simp [intOf]; omega⟩
    · have HX := Lib.hid (Plain.good_nil s.data.toList k (by rw [EL.out]; omega))
      go_wp2
      go_ret
      exact ⟨⟨true, rfl, by rw [HG.out]; simp [HX.out]⟩, rfl⟩

#print axioms valid_any
end Go.Proofs.Qxb6002373a
