/-
  SEAT b6002373a: THE WALK OF decodeUTF8.
-/
import Derived.Test.Qxb6002373aText
import Derived.Test.Qxb6002373aProg
import Derived.WalkKit
import Derived.Below
import Derived.Lib.Hide
import Derived.Laws.BitsLemmas
namespace Go.Proofs.Qxb6002373a
open Go Go.RowKit
open Plain (byteAt dec8)

/-- The byte at place k, as the walk sees it. -/
def bz (l : List UInt8) (k : Nat) : Int := (byteAt l k : Nat)
theorem bz_get (s : ByteArray) (k : Nat) (h : k < s.size) : ((s[k]'h).toNat : Int) = bz s.data.toList k := by
  unfold bz
  rw [Plain.byteAt_get _ _ (by simpa using h)]
  rfl
theorem bz_lo (l : List UInt8) (k : Nat) : 0 ≤ bz l k := by unfold bz; omega
theorem bz_hi (l : List UInt8) (k : Nat) : bz l k < 256 := by unfold bz; have := Plain.byteAt_lt l k; omega
/-- Reading the string at i + k, for the walk to take. -/
theorem at_k (s : ByteArray) (i k : Nat) (h : i + k < s.size) (W : World) : (Instr.index 9 (.string s) (.int .i64 ((i : Int) + (k : Int)))).run Try.prog W = .ok (.int .u8 (bz s.data.toList (i + k))) W := by
  rw [run_index_string W 9 s .i64 _ Try.underlying9]
  rw [← bz_get s (i + k) h, dif_pos ⟨by omega, by omega⟩]
  simp only [show ((i : Int) + (k : Int)).toNat = i + k from by omega]
theorem len_size (s : ByteArray) : s.data.toList.length = s.size := by rw [Array.length_toList]; rfl

/-- What decodeUTF8 answers. -/
def D8 (l : List UInt8) (i : Nat) : Value := .tuple #[.int .i32 ((dec8 l i).1 : Nat), .int .i64 ((dec8 l i).2 : Nat)]

theorem and192_fin : ∀ c : Fin 256, (bits .and .u8 ((c.val : Nat) : Int) 192 != 128) = !(decide (128 ≤ c.val) && decide (c.val ≤ 191)) := by decide +kernel
theorem cont_ok (l : List UInt8) (k : Nat) (h1 : 128 ≤ bz l k) (h2 : bz l k ≤ 191) : (bits .and .u8 (bz l k) 192 != 128) = false := by
  have := and192_fin ⟨byteAt l k, Plain.byteAt_lt l k⟩
  unfold bz at *
  rw [this]
  simp
  omega
theorem cont_bad (l : List UInt8) (k : Nat) (h : bz l k < 128 ∨ 191 < bz l k) : (bits .and .u8 (bz l k) 192 != 128) = true := by
  have := and192_fin ⟨byteAt l k, Plain.byteAt_lt l k⟩
  unfold bz at *
  rw [this]
  simp
  omega

set_option maxHeartbeats 400000 in
theorem d8_ascii (s : ByteArray) (i : Nat) (hi : i < s.size) (h : bz s.data.toList i < 128) (w : World) :
    Calls Try.prog 21 #[.string s, .int .i64 i] w fun e w' => e = .returned (D8 s.data.toList i) ∧ w' = w := by
  have e0 := bz_get s i hi
  have h0 := bz_lo s.data.toList i
  have HF := Lib.hid (show D8 s.data.toList i = .tuple #[.int .i32 (bz s.data.toList i), .int .i64 1] by
    unfold D8 dec8 bz at *; simp only; rw [if_pos (by omega)]; rfl)
  go_enter Try.func21, Try.ntmps21
  go_wp2
  go_ret2
  exact ⟨by rw [HF.out]; rfl, rfl⟩

set_option maxHeartbeats 400000 in
theorem d8_lead1 (s : ByteArray) (i : Nat) (hi : i < s.size) (h1 : 128 ≤ bz s.data.toList i) (h2 : bz s.data.toList i ≤ 193) (w : World) :
    Calls Try.prog 21 #[.string s, .int .i64 i] w fun e w' => e = .returned (D8 s.data.toList i) ∧ w' = w := by
  have e0 := bz_get s i hi
  have HF := Lib.hid (show D8 s.data.toList i = .tuple #[.int .i32 0, .int .i64 0] by
    have el := len_size s
    unfold D8 dec8 bz at *; simp only; rw [if_neg (by omega), if_neg (by omega), if_neg (by omega), if_neg (by omega)]; rfl)
  have l0 : decide (bz s.data.toList i < 128) = false := by simp; omega
  have l1 : decide (194 ≤ bz s.data.toList i) = false := by simp; omega
  have l2 : decide (bz s.data.toList i ≤ 223) = true := by simp; omega
  have l3 : decide (224 ≤ bz s.data.toList i) = false := by simp; omega
  have l4 : decide (bz s.data.toList i ≤ 239) = true := by simp; omega
  have l5 : decide (240 ≤ bz s.data.toList i) = false := by simp; omega
  have l6 : decide (bz s.data.toList i ≤ 244) = true := by simp; omega
  have q224 : (bz s.data.toList i == 224) = false := by rw [beq_eq_false_iff_ne]; omega
  have q237 : (bz s.data.toList i == 237) = false := by rw [beq_eq_false_iff_ne]; omega
  have q240 : (bz s.data.toList i == 240) = false := by rw [beq_eq_false_iff_ne]; omega
  have q244 : (bz s.data.toList i == 244) = false := by rw [beq_eq_false_iff_ne]; omega
  clear h1 h2
  go_enter Try.func21, Try.ntmps21
  go_wp2
  go_ret2
  exact ⟨by rw [HF.out]; rfl, rfl⟩

set_option maxHeartbeats 400000 in
theorem d8_lead2 (s : ByteArray) (i : Nat) (hi : i < s.size) (h1 : 245 ≤ bz s.data.toList i) (h2 : bz s.data.toList i ≤ 255) (w : World) :
    Calls Try.prog 21 #[.string s, .int .i64 i] w fun e w' => e = .returned (D8 s.data.toList i) ∧ w' = w := by
  have e0 := bz_get s i hi
  have HF := Lib.hid (show D8 s.data.toList i = .tuple #[.int .i32 0, .int .i64 0] by
    have el := len_size s
    unfold D8 dec8 bz at *; simp only; rw [if_neg (by omega), if_neg (by omega), if_neg (by omega), if_neg (by omega)]; rfl)
  have l0 : decide (bz s.data.toList i < 128) = false := by simp; omega
  have l1 : decide (194 ≤ bz s.data.toList i) = true := by simp; omega
  have l2 : decide (bz s.data.toList i ≤ 223) = false := by simp; omega
  have l3 : decide (224 ≤ bz s.data.toList i) = true := by simp; omega
  have l4 : decide (bz s.data.toList i ≤ 239) = false := by simp; omega
  have l5 : decide (240 ≤ bz s.data.toList i) = true := by simp; omega
  have l6 : decide (bz s.data.toList i ≤ 244) = false := by simp; omega
  have q224 : (bz s.data.toList i == 224) = false := by rw [beq_eq_false_iff_ne]; omega
  have q237 : (bz s.data.toList i == 237) = false := by rw [beq_eq_false_iff_ne]; omega
  have q240 : (bz s.data.toList i == 240) = false := by rw [beq_eq_false_iff_ne]; omega
  have q244 : (bz s.data.toList i == 244) = false := by rw [beq_eq_false_iff_ne]; omega
  clear h1 h2
  go_enter Try.func21, Try.ntmps21
  go_wp2
  go_ret2
  exact ⟨by rw [HF.out]; rfl, rfl⟩

set_option maxHeartbeats 400000 in
theorem d8_two_short (s : ByteArray) (i : Nat) (hi : i < s.size) (h1 : 194 ≤ bz s.data.toList i) (h2 : bz s.data.toList i ≤ 223) (hs : ¬ i + 1 < s.size) (w : World) :
    Calls Try.prog 21 #[.string s, .int .i64 i] w fun e w' => e = .returned (D8 s.data.toList i) ∧ w' = w := by
  have e0 := bz_get s i hi
  have h0 := bz_lo s.data.toList i
  have hh := bz_hi s.data.toList i
  have HF := Lib.hid (show D8 s.data.toList i = .tuple #[.int .i32 0, .int .i64 0] by
    have el := len_size s
    unfold D8 dec8 bz at *; simp only; rw [if_neg (by omega), if_pos (by omega), if_neg (by omega)]; rfl)
  have l0 : decide (bz s.data.toList i < 128) = false := by simp; omega
  have l1 : decide (194 ≤ bz s.data.toList i) = true := by simp; omega
  have l2 : decide (bz s.data.toList i ≤ 223) = true := by simp; omega
  have l3 : decide (224 ≤ bz s.data.toList i) = false := by simp; omega
  have l4 : decide (bz s.data.toList i ≤ 239) = true := by simp; omega
  have l5 : decide (240 ≤ bz s.data.toList i) = false := by simp; omega
  have l6 : decide (bz s.data.toList i ≤ 244) = true := by simp; omega
  have q224 : (bz s.data.toList i == 224) = false := by rw [beq_eq_false_iff_ne]; omega
  have q237 : (bz s.data.toList i == 237) = false := by rw [beq_eq_false_iff_ne]; omega
  have q240 : (bz s.data.toList i == 240) = false := by rw [beq_eq_false_iff_ne]; omega
  have q244 : (bz s.data.toList i == 244) = false := by rw [beq_eq_false_iff_ne]; omega
  have bs : decide ((s.size : Int) - (i : Int) ≤ 1) = true := by simp; omega
  clear h1 h2
  go_enter Try.func21, Try.ntmps21
  go_wp2
  go_ret2
  exact ⟨by rw [HF.out]; rfl, rfl⟩

set_option maxHeartbeats 1000000 in
theorem d8_two_badlo (s : ByteArray) (i : Nat) (hi : i < s.size) (hm : (s.size : Int) ≤ 1000000) (h1 : 194 ≤ bz s.data.toList i) (h2 : bz s.data.toList i ≤ 223) (hs : i + 1 < s.size) (hb : bz s.data.toList (i + 1) < 128) (w : World) :
    Calls Try.prog 21 #[.string s, .int .i64 i] w fun e w' => e = .returned (D8 s.data.toList i) ∧ w' = w := by
  have e0 := bz_get s i hi
  have h0 := bz_lo s.data.toList i
  have hh := bz_hi s.data.toList i
  have e1 := bz_get s (i + 1) (by omega)
  have g1 := bz_lo s.data.toList (i + 1)
  have f1 := bz_hi s.data.toList (i + 1)
  have a0 := u8_and31 (bz s.data.toList i) h0 hh
  have a1 := u8_and63 (bz s.data.toList (i + 1)) g1 f1
  have HF := Lib.hid (show D8 s.data.toList i = .tuple #[.int .i32 0, .int .i64 0] by
    have el := len_size s
    unfold D8 dec8 bz at *; simp only; rw [if_neg (by omega), if_pos (by omega), if_neg (by omega)]; rfl)
  have l0 : decide (bz s.data.toList i < 128) = false := by simp; omega
  have l1 : decide (194 ≤ bz s.data.toList i) = true := by simp; omega
  have l2 : decide (bz s.data.toList i ≤ 223) = true := by simp; omega
  have l3 : decide (224 ≤ bz s.data.toList i) = false := by simp; omega
  have l4 : decide (bz s.data.toList i ≤ 239) = true := by simp; omega
  have l5 : decide (240 ≤ bz s.data.toList i) = false := by simp; omega
  have l6 : decide (bz s.data.toList i ≤ 244) = true := by simp; omega
  have q224 : (bz s.data.toList i == 224) = false := by rw [beq_eq_false_iff_ne]; omega
  have q237 : (bz s.data.toList i == 237) = false := by rw [beq_eq_false_iff_ne]; omega
  have q240 : (bz s.data.toList i == 240) = false := by rw [beq_eq_false_iff_ne]; omega
  have q244 : (bz s.data.toList i == 244) = false := by rw [beq_eq_false_iff_ne]; omega
  have bs : decide ((s.size : Int) - (i : Int) ≤ 1) = false := by simp; omega
  have r1 : decide (bz s.data.toList (i + 1) < 128) = true := by simp; omega
  clear h1 h2 hb
  go_enter Try.func21, Try.ntmps21
  go_wp2
  go_ret2
  exact ⟨by rw [HF.out]; rfl, rfl⟩

set_option maxHeartbeats 1000000 in
theorem d8_two_badhi (s : ByteArray) (i : Nat) (hi : i < s.size) (hm : (s.size : Int) ≤ 1000000) (h1 : 194 ≤ bz s.data.toList i) (h2 : bz s.data.toList i ≤ 223) (hs : i + 1 < s.size) (hb : 191 < bz s.data.toList (i + 1)) (w : World) :
    Calls Try.prog 21 #[.string s, .int .i64 i] w fun e w' => e = .returned (D8 s.data.toList i) ∧ w' = w := by
  have e0 := bz_get s i hi
  have h0 := bz_lo s.data.toList i
  have hh := bz_hi s.data.toList i
  have e1 := bz_get s (i + 1) (by omega)
  have g1 := bz_lo s.data.toList (i + 1)
  have f1 := bz_hi s.data.toList (i + 1)
  have a0 := u8_and31 (bz s.data.toList i) h0 hh
  have a1 := u8_and63 (bz s.data.toList (i + 1)) g1 f1
  have HF := Lib.hid (show D8 s.data.toList i = .tuple #[.int .i32 0, .int .i64 0] by
    have el := len_size s
    unfold D8 dec8 bz at *; simp only; rw [if_neg (by omega), if_pos (by omega), if_neg (by omega)]; rfl)
  have l0 : decide (bz s.data.toList i < 128) = false := by simp; omega
  have l1 : decide (194 ≤ bz s.data.toList i) = true := by simp; omega
  have l2 : decide (bz s.data.toList i ≤ 223) = true := by simp; omega
  have l3 : decide (224 ≤ bz s.data.toList i) = false := by simp; omega
  have l4 : decide (bz s.data.toList i ≤ 239) = true := by simp; omega
  have l5 : decide (240 ≤ bz s.data.toList i) = false := by simp; omega
  have l6 : decide (bz s.data.toList i ≤ 244) = true := by simp; omega
  have q224 : (bz s.data.toList i == 224) = false := by rw [beq_eq_false_iff_ne]; omega
  have q237 : (bz s.data.toList i == 237) = false := by rw [beq_eq_false_iff_ne]; omega
  have q240 : (bz s.data.toList i == 240) = false := by rw [beq_eq_false_iff_ne]; omega
  have q244 : (bz s.data.toList i == 244) = false := by rw [beq_eq_false_iff_ne]; omega
  have bs : decide ((s.size : Int) - (i : Int) ≤ 1) = false := by simp; omega
  have r1 : decide (bz s.data.toList (i + 1) < 128) = false := by simp; omega
  have r2 : decide (191 < bz s.data.toList (i + 1)) = true := by simp; omega
  clear h1 h2 hb
  go_enter Try.func21, Try.ntmps21
  go_wp2
  go_ret2
  exact ⟨by rw [HF.out]; rfl, rfl⟩

set_option maxHeartbeats 1000000 in
theorem d8_two_ok (s : ByteArray) (i : Nat) (hi : i < s.size) (hm : (s.size : Int) ≤ 1000000) (h1 : 194 ≤ bz s.data.toList i) (h2 : bz s.data.toList i ≤ 223) (hs : i + 1 < s.size) (k1 : 128 ≤ bz s.data.toList (i + 1)) (k2 : bz s.data.toList (i + 1) ≤ 191) (w : World) :
    Calls Try.prog 21 #[.string s, .int .i64 i] w fun e w' => e = .returned (D8 s.data.toList i) ∧ w' = w := by
  have e0 := bz_get s i hi
  have h0 := bz_lo s.data.toList i
  have hh := bz_hi s.data.toList i
  have e1 := bz_get s (i + 1) (by omega)
  have g1 := bz_lo s.data.toList (i + 1)
  have f1 := bz_hi s.data.toList (i + 1)
  have a0 := u8_and31 (bz s.data.toList i) h0 hh
  have a1 := u8_and63 (bz s.data.toList (i + 1)) g1 f1
  have HF := Lib.hid (show D8 s.data.toList i = .tuple #[.int .i32 (bz s.data.toList i % 32 * 64 + bz s.data.toList (i + 1) % 64), .int .i64 2] by
    have el := len_size s
    unfold D8 dec8 bz at *; simp only; rw [if_neg (by omega), if_pos (by omega), if_pos (by omega)]; rfl)
  have l0 : decide (bz s.data.toList i < 128) = false := by simp; omega
  have l1 : decide (194 ≤ bz s.data.toList i) = true := by simp; omega
  have l2 : decide (bz s.data.toList i ≤ 223) = true := by simp; omega
  have l3 : decide (224 ≤ bz s.data.toList i) = false := by simp; omega
  have l4 : decide (bz s.data.toList i ≤ 239) = true := by simp; omega
  have l5 : decide (240 ≤ bz s.data.toList i) = false := by simp; omega
  have l6 : decide (bz s.data.toList i ≤ 244) = true := by simp; omega
  have q224 : (bz s.data.toList i == 224) = false := by rw [beq_eq_false_iff_ne]; omega
  have q237 : (bz s.data.toList i == 237) = false := by rw [beq_eq_false_iff_ne]; omega
  have q240 : (bz s.data.toList i == 240) = false := by rw [beq_eq_false_iff_ne]; omega
  have q244 : (bz s.data.toList i == 244) = false := by rw [beq_eq_false_iff_ne]; omega
  have r1 : decide (bz s.data.toList (i + 1) < 128) = false := by simp; omega
  have r2 : decide (191 < bz s.data.toList (i + 1)) = false := by simp; omega
  have o1 := i32_or6 (bz s.data.toList i % 32 * 64) (bz s.data.toList (i + 1) % 64) (by omega) (by omega) (by omega) (by omega) (by omega)
  have bs : decide ((s.size : Int) - (i : Int) ≤ 1) = false := by simp; omega
  clear h1 h2 k1 k2
  go_enter Try.func21, Try.ntmps21
  go_wp2
  go_loop [10, 12] (fun r k => (r = .int .i32 (bz s.data.toList i % 32 * 64 + bz s.data.toList (i + 1) % 64) ∧ k = .int .i64 2)) (fun _ k => 5 - (intOf k).toNat)
  case atStart => exact ⟨rfl, rfl⟩
  case round =>
    obtain ⟨rfl, rfl⟩ := hrel
    go_wp2
    go_ret2
    exact ⟨by rw [HF.out]; rfl, rfl⟩

end Go.Proofs.Qxb6002373a
