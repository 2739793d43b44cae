/-
  SEAT b6002373a: THE WALK OF decodeUTF8, further leads.
-/
import Derived.Test.Qxb6002373aUtf8
namespace Go.Proofs.Qxb6002373a
open Go Go.RowKit
open Plain (byteAt dec8)

set_option maxHeartbeats 400000 in
theorem d8_four_a_short (s : ByteArray) (i : Nat) (hi : i < s.size) (h1 : 240 ≤ bz s.data.toList i) (h2 : bz s.data.toList i ≤ 240) (hs : ¬ i + 3 < s.size) (w : World) :
    Calls Try.prog 21 #[.string s, .int .i64 i] w fun e w' => e = .returned (D8 s.data.toList i) ∧ w' = w := by
  have e0 := bz_get s i hi
  have h0 := bz_lo s.data.toList i
  have hh := bz_hi s.data.toList i
  have HF := Lib.hid (show D8 s.data.toList i = .tuple #[.int .i32 0, .int .i64 0] by
    have el := len_size s
    unfold D8 dec8 bz at *; simp only; rw [if_neg (by omega), if_neg (by omega), if_neg (by omega), if_pos (by omega), if_neg (by omega)]; rfl)
  have l0 : decide (bz s.data.toList i < 128) = false := by simp; omega
  have l1 : decide (194 ≤ bz s.data.toList i) = true := by simp; omega
  have l2 : decide (bz s.data.toList i ≤ 223) = false := by simp; omega
  have l3 : decide (224 ≤ bz s.data.toList i) = true := by simp; omega
  have l4 : decide (bz s.data.toList i ≤ 239) = false := by simp; omega
  have l5 : decide (240 ≤ bz s.data.toList i) = true := by simp; omega
  have l6 : decide (bz s.data.toList i ≤ 244) = true := by simp; omega
  have q224 : (bz s.data.toList i == 224) = false := by rw [beq_eq_false_iff_ne]; omega
  have q237 : (bz s.data.toList i == 237) = false := by rw [beq_eq_false_iff_ne]; omega
  have q240 : (bz s.data.toList i == 240) = true := by rw [beq_iff_eq]; omega
  have q244 : (bz s.data.toList i == 244) = false := by rw [beq_eq_false_iff_ne]; omega
  have bs : decide ((s.size : Int) - (i : Int) ≤ 3) = true := by simp; omega
  clear h1 h2
  go_enter Try.func21, Try.ntmps21
  go_wp2
  go_ret2
  exact ⟨by rw [HF.out]; rfl, rfl⟩

set_option maxHeartbeats 1000000 in
theorem d8_four_a_badlo (s : ByteArray) (i : Nat) (hi : i < s.size) (hm : (s.size : Int) ≤ 1000000) (h1 : 240 ≤ bz s.data.toList i) (h2 : bz s.data.toList i ≤ 240) (hs : i + 3 < s.size) (hb : bz s.data.toList (i + 1) < 144) (w : World) :
    Calls Try.prog 21 #[.string s, .int .i64 i] w fun e w' => e = .returned (D8 s.data.toList i) ∧ w' = w := by
  have e0 := bz_get s i hi
  have h0 := bz_lo s.data.toList i
  have hh := bz_hi s.data.toList i
  have e1 := bz_get s (i + 1) (by omega)
  have g1 := bz_lo s.data.toList (i + 1)
  have f1 := bz_hi s.data.toList (i + 1)
  have a0 := u8_and7 (bz s.data.toList i) h0 hh
  have a1 := u8_and63 (bz s.data.toList (i + 1)) g1 f1
  have HF := Lib.hid (show D8 s.data.toList i = .tuple #[.int .i32 0, .int .i64 0] by
    have el := len_size s
    unfold D8 dec8 bz at *; simp only; rw [if_neg (by omega), if_neg (by omega), if_neg (by omega), if_pos (by omega), if_neg (by intro ⟨_, k2, k3, _⟩; split at k2 <;> split at k3 <;> omega)]; rfl)
  have l0 : decide (bz s.data.toList i < 128) = false := by simp; omega
  have l1 : decide (194 ≤ bz s.data.toList i) = true := by simp; omega
  have l2 : decide (bz s.data.toList i ≤ 223) = false := by simp; omega
  have l3 : decide (224 ≤ bz s.data.toList i) = true := by simp; omega
  have l4 : decide (bz s.data.toList i ≤ 239) = false := by simp; omega
  have l5 : decide (240 ≤ bz s.data.toList i) = true := by simp; omega
  have l6 : decide (bz s.data.toList i ≤ 244) = true := by simp; omega
  have q224 : (bz s.data.toList i == 224) = false := by rw [beq_eq_false_iff_ne]; omega
  have q237 : (bz s.data.toList i == 237) = false := by rw [beq_eq_false_iff_ne]; omega
  have q240 : (bz s.data.toList i == 240) = true := by rw [beq_iff_eq]; omega
  have q244 : (bz s.data.toList i == 244) = false := by rw [beq_eq_false_iff_ne]; omega
  have bs : decide ((s.size : Int) - (i : Int) ≤ 3) = false := by simp; omega
  have r1 : decide (bz s.data.toList (i + 1) < 144) = true := by simp; omega
  clear h1 h2 hb
  go_enter Try.func21, Try.ntmps21
  go_wp2
  go_ret2
  exact ⟨by rw [HF.out]; rfl, rfl⟩

set_option maxHeartbeats 1000000 in
theorem d8_four_a_badhi (s : ByteArray) (i : Nat) (hi : i < s.size) (hm : (s.size : Int) ≤ 1000000) (h1 : 240 ≤ bz s.data.toList i) (h2 : bz s.data.toList i ≤ 240) (hs : i + 3 < s.size) (hb : 191 < bz s.data.toList (i + 1)) (w : World) :
    Calls Try.prog 21 #[.string s, .int .i64 i] w fun e w' => e = .returned (D8 s.data.toList i) ∧ w' = w := by
  have e0 := bz_get s i hi
  have h0 := bz_lo s.data.toList i
  have hh := bz_hi s.data.toList i
  have e1 := bz_get s (i + 1) (by omega)
  have g1 := bz_lo s.data.toList (i + 1)
  have f1 := bz_hi s.data.toList (i + 1)
  have a0 := u8_and7 (bz s.data.toList i) h0 hh
  have a1 := u8_and63 (bz s.data.toList (i + 1)) g1 f1
  have HF := Lib.hid (show D8 s.data.toList i = .tuple #[.int .i32 0, .int .i64 0] by
    have el := len_size s
    unfold D8 dec8 bz at *; simp only; rw [if_neg (by omega), if_neg (by omega), if_neg (by omega), if_pos (by omega), if_neg (by intro ⟨_, k2, k3, _⟩; split at k2 <;> split at k3 <;> omega)]; rfl)
  have l0 : decide (bz s.data.toList i < 128) = false := by simp; omega
  have l1 : decide (194 ≤ bz s.data.toList i) = true := by simp; omega
  have l2 : decide (bz s.data.toList i ≤ 223) = false := by simp; omega
  have l3 : decide (224 ≤ bz s.data.toList i) = true := by simp; omega
  have l4 : decide (bz s.data.toList i ≤ 239) = false := by simp; omega
  have l5 : decide (240 ≤ bz s.data.toList i) = true := by simp; omega
  have l6 : decide (bz s.data.toList i ≤ 244) = true := by simp; omega
  have q224 : (bz s.data.toList i == 224) = false := by rw [beq_eq_false_iff_ne]; omega
  have q237 : (bz s.data.toList i == 237) = false := by rw [beq_eq_false_iff_ne]; omega
  have q240 : (bz s.data.toList i == 240) = true := by rw [beq_iff_eq]; omega
  have q244 : (bz s.data.toList i == 244) = false := by rw [beq_eq_false_iff_ne]; omega
  have bs : decide ((s.size : Int) - (i : Int) ≤ 3) = false := by simp; omega
  have r1 : decide (bz s.data.toList (i + 1) < 144) = false := by simp; omega
  have r2 : decide (191 < bz s.data.toList (i + 1)) = true := by simp; omega
  clear h1 h2 hb
  go_enter Try.func21, Try.ntmps21
  go_wp2
  go_ret2
  exact ⟨by rw [HF.out]; rfl, rfl⟩

set_option maxHeartbeats 1000000 in
theorem d8_four_a_bad2 (s : ByteArray) (i : Nat) (hi : i < s.size) (hm : (s.size : Int) ≤ 1000000) (h1 : 240 ≤ bz s.data.toList i) (h2 : bz s.data.toList i ≤ 240) (hs : i + 3 < s.size) (k1 : 144 ≤ bz s.data.toList (i + 1)) (k2 : bz s.data.toList (i + 1) ≤ 191) (hb : bz s.data.toList (i + 2) < 128 ∨ 191 < bz s.data.toList (i + 2)) (w : World) :
    Calls Try.prog 21 #[.string s, .int .i64 i] w fun e w' => e = .returned (D8 s.data.toList i) ∧ w' = w := by
  have e0 := bz_get s i hi
  have h0 := bz_lo s.data.toList i
  have hh := bz_hi s.data.toList i
  have e1 := bz_get s (i + 1) (by omega)
  have g1 := bz_lo s.data.toList (i + 1)
  have f1 := bz_hi s.data.toList (i + 1)
  have g2 := bz_lo s.data.toList (i + 2)
  have f2 := bz_hi s.data.toList (i + 2)
  have a0 := u8_and7 (bz s.data.toList i) h0 hh
  have x2 : ∀ W, (Instr.index 9 (.string s) (.int .i64 ((i : Int) + 2))).run Try.prog W = .ok (.int .u8 (bz s.data.toList (i + 2))) W := at_k s i 2 (by omega)
  have a1 := u8_and63 (bz s.data.toList (i + 1)) g1 f1
  have a2 := u8_and63 (bz s.data.toList (i + 2)) g2 f2
  have HF := Lib.hid (show D8 s.data.toList i = .tuple #[.int .i32 0, .int .i64 0] by
    have el := len_size s
    unfold D8 dec8 bz at *; simp only; rw [if_neg (by omega), if_neg (by omega), if_neg (by omega), if_pos (by omega), if_neg (by omega)]; rfl)
  have l0 : decide (bz s.data.toList i < 128) = false := by simp; omega
  have l1 : decide (194 ≤ bz s.data.toList i) = true := by simp; omega
  have l2 : decide (bz s.data.toList i ≤ 223) = false := by simp; omega
  have l3 : decide (224 ≤ bz s.data.toList i) = true := by simp; omega
  have l4 : decide (bz s.data.toList i ≤ 239) = false := by simp; omega
  have l5 : decide (240 ≤ bz s.data.toList i) = true := by simp; omega
  have l6 : decide (bz s.data.toList i ≤ 244) = true := by simp; omega
  have q224 : (bz s.data.toList i == 224) = false := by rw [beq_eq_false_iff_ne]; omega
  have q237 : (bz s.data.toList i == 237) = false := by rw [beq_eq_false_iff_ne]; omega
  have q240 : (bz s.data.toList i == 240) = true := by rw [beq_iff_eq]; omega
  have q244 : (bz s.data.toList i == 244) = false := by rw [beq_eq_false_iff_ne]; omega
  have r1 : decide (bz s.data.toList (i + 1) < 144) = false := by simp; omega
  have r2 : decide (191 < bz s.data.toList (i + 1)) = false := by simp; omega
  have o1 := i32_or6 (bz s.data.toList i % 8 * 64) (bz s.data.toList (i + 1) % 64) (by omega) (by omega) (by omega) (by omega) (by omega)
  have bs : decide ((s.size : Int) - (i : Int) ≤ 3) = false := by simp; omega
  have n2 := cont_bad s.data.toList (i + 2) hb
  clear h1 h2 k1 k2 hb
  go_enter Try.func21, Try.ntmps21
  go_wp2
  go_loop [10, 12] (fun r k => (r = .int .i32 (bz s.data.toList i % 8 * 64 + bz s.data.toList (i + 1) % 64) ∧ k = .int .i64 2)) (fun _ k => 5 - (intOf k).toNat)
  case atStart => exact ⟨rfl, rfl⟩
  case round =>
    obtain ⟨rfl, rfl⟩ := hrel
    go_wp2
    go_ret2
    exact ⟨by rw [HF.out]; rfl, rfl⟩

set_option maxHeartbeats 1000000 in
theorem d8_four_a_bad3 (s : ByteArray) (i : Nat) (hi : i < s.size) (hm : (s.size : Int) ≤ 1000000) (h1 : 240 ≤ bz s.data.toList i) (h2 : bz s.data.toList i ≤ 240) (hs : i + 3 < s.size) (k1 : 144 ≤ bz s.data.toList (i + 1)) (k2 : bz s.data.toList (i + 1) ≤ 191) (p2 : 128 ≤ bz s.data.toList (i + 2)) (z2 : bz s.data.toList (i + 2) ≤ 191) (hb : bz s.data.toList (i + 3) < 128 ∨ 191 < bz s.data.toList (i + 3)) (w : World) :
    Calls Try.prog 21 #[.string s, .int .i64 i] w fun e w' => e = .returned (D8 s.data.toList i) ∧ w' = w := by
  have e0 := bz_get s i hi
  have h0 := bz_lo s.data.toList i
  have hh := bz_hi s.data.toList i
  have e1 := bz_get s (i + 1) (by omega)
  have g1 := bz_lo s.data.toList (i + 1)
  have f1 := bz_hi s.data.toList (i + 1)
  have g2 := bz_lo s.data.toList (i + 2)
  have f2 := bz_hi s.data.toList (i + 2)
  have g3 := bz_lo s.data.toList (i + 3)
  have f3 := bz_hi s.data.toList (i + 3)
  have a0 := u8_and7 (bz s.data.toList i) h0 hh
  have x2 : ∀ W, (Instr.index 9 (.string s) (.int .i64 ((i : Int) + 2))).run Try.prog W = .ok (.int .u8 (bz s.data.toList (i + 2))) W := at_k s i 2 (by omega)
  have x3 : ∀ W, (Instr.index 9 (.string s) (.int .i64 ((i : Int) + 3))).run Try.prog W = .ok (.int .u8 (bz s.data.toList (i + 3))) W := at_k s i 3 (by omega)
  have a1 := u8_and63 (bz s.data.toList (i + 1)) g1 f1
  have a2 := u8_and63 (bz s.data.toList (i + 2)) g2 f2
  have a3 := u8_and63 (bz s.data.toList (i + 3)) g3 f3
  have HF := Lib.hid (show D8 s.data.toList i = .tuple #[.int .i32 0, .int .i64 0] by
    have el := len_size s
    unfold D8 dec8 bz at *; simp only; rw [if_neg (by omega), if_neg (by omega), if_neg (by omega), if_pos (by omega), if_neg (by omega)]; rfl)
  have l0 : decide (bz s.data.toList i < 128) = false := by simp; omega
  have l1 : decide (194 ≤ bz s.data.toList i) = true := by simp; omega
  have l2 : decide (bz s.data.toList i ≤ 223) = false := by simp; omega
  have l3 : decide (224 ≤ bz s.data.toList i) = true := by simp; omega
  have l4 : decide (bz s.data.toList i ≤ 239) = false := by simp; omega
  have l5 : decide (240 ≤ bz s.data.toList i) = true := by simp; omega
  have l6 : decide (bz s.data.toList i ≤ 244) = true := by simp; omega
  have q224 : (bz s.data.toList i == 224) = false := by rw [beq_eq_false_iff_ne]; omega
  have q237 : (bz s.data.toList i == 237) = false := by rw [beq_eq_false_iff_ne]; omega
  have q240 : (bz s.data.toList i == 240) = true := by rw [beq_iff_eq]; omega
  have q244 : (bz s.data.toList i == 244) = false := by rw [beq_eq_false_iff_ne]; omega
  have r1 : decide (bz s.data.toList (i + 1) < 144) = false := by simp; omega
  have r2 : decide (191 < bz s.data.toList (i + 1)) = false := by simp; omega
  have o1 := i32_or6 (bz s.data.toList i % 8 * 64) (bz s.data.toList (i + 1) % 64) (by omega) (by omega) (by omega) (by omega) (by omega)
  have o2 := i32_or6 ((bz s.data.toList i % 8 * 64 + bz s.data.toList (i + 1) % 64) * 64) (bz s.data.toList (i + 2) % 64) (by omega) (by omega) (by omega) (by omega) (by omega)
  have bs : decide ((s.size : Int) - (i : Int) ≤ 3) = false := by simp; omega
  have n2 := cont_ok s.data.toList (i + 2) p2 z2
  have n3 := cont_bad s.data.toList (i + 3) hb
  clear h1 h2 k1 k2 hb p2 z2
  go_enter Try.func21, Try.ntmps21
  go_wp2
  go_loop [10, 12] (fun r k => (r = .int .i32 (bz s.data.toList i % 8 * 64 + bz s.data.toList (i + 1) % 64) ∧ k = .int .i64 2) ∨ (r = .int .i32 ((bz s.data.toList i % 8 * 64 + bz s.data.toList (i + 1) % 64) * 64 + bz s.data.toList (i + 2) % 64) ∧ k = .int .i64 3)) (fun _ k => 5 - (intOf k).toNat)
  case atStart => exact .inl ⟨rfl, rfl⟩
  case round =>
    rcases hrel with ⟨rfl, rfl⟩ | ⟨rfl, rfl⟩
    · go_wp2
      exact ⟨.inr ⟨rfl, rfl⟩, by simp [intOf]⟩
    · go_wp2
      go_ret2
      exact ⟨by rw [HF.out]; rfl, rfl⟩

set_option maxHeartbeats 1000000 in
theorem d8_four_a_ok (s : ByteArray) (i : Nat) (hi : i < s.size) (hm : (s.size : Int) ≤ 1000000) (h1 : 240 ≤ bz s.data.toList i) (h2 : bz s.data.toList i ≤ 240) (hs : i + 3 < s.size) (k1 : 144 ≤ bz s.data.toList (i + 1)) (k2 : bz s.data.toList (i + 1) ≤ 191) (p2 : 128 ≤ bz s.data.toList (i + 2)) (z2 : bz s.data.toList (i + 2) ≤ 191) (p3 : 128 ≤ bz s.data.toList (i + 3)) (z3 : bz s.data.toList (i + 3) ≤ 191) (w : World) :
    Calls Try.prog 21 #[.string s, .int .i64 i] w fun e w' => e = .returned (D8 s.data.toList i) ∧ w' = w := by
  have e0 := bz_get s i hi
  have h0 := bz_lo s.data.toList i
  have hh := bz_hi s.data.toList i
  have e1 := bz_get s (i + 1) (by omega)
  have g1 := bz_lo s.data.toList (i + 1)
  have f1 := bz_hi s.data.toList (i + 1)
  have g2 := bz_lo s.data.toList (i + 2)
  have f2 := bz_hi s.data.toList (i + 2)
  have g3 := bz_lo s.data.toList (i + 3)
  have f3 := bz_hi s.data.toList (i + 3)
  have a0 := u8_and7 (bz s.data.toList i) h0 hh
  have x2 : ∀ W, (Instr.index 9 (.string s) (.int .i64 ((i : Int) + 2))).run Try.prog W = .ok (.int .u8 (bz s.data.toList (i + 2))) W := at_k s i 2 (by omega)
  have x3 : ∀ W, (Instr.index 9 (.string s) (.int .i64 ((i : Int) + 3))).run Try.prog W = .ok (.int .u8 (bz s.data.toList (i + 3))) W := at_k s i 3 (by omega)
  have a1 := u8_and63 (bz s.data.toList (i + 1)) g1 f1
  have a2 := u8_and63 (bz s.data.toList (i + 2)) g2 f2
  have a3 := u8_and63 (bz s.data.toList (i + 3)) g3 f3
  have HF := Lib.hid (show D8 s.data.toList i = .tuple #[.int .i32 (((bz s.data.toList i % 8 * 64 + bz s.data.toList (i + 1) % 64) * 64 + bz s.data.toList (i + 2) % 64) * 64 + bz s.data.toList (i + 3) % 64), .int .i64 4] by
    have el := len_size s
    unfold D8 dec8 bz at *; simp only; rw [if_neg (by omega), if_neg (by omega), if_neg (by omega), if_pos (by omega), if_pos (by refine ⟨by omega, ?_, ?_, by omega, by omega, by omega, by omega⟩ <;> split <;> omega)]; rfl)
  have l0 : decide (bz s.data.toList i < 128) = false := by simp; omega
  have l1 : decide (194 ≤ bz s.data.toList i) = true := by simp; omega
  have l2 : decide (bz s.data.toList i ≤ 223) = false := by simp; omega
  have l3 : decide (224 ≤ bz s.data.toList i) = true := by simp; omega
  have l4 : decide (bz s.data.toList i ≤ 239) = false := by simp; omega
  have l5 : decide (240 ≤ bz s.data.toList i) = true := by simp; omega
  have l6 : decide (bz s.data.toList i ≤ 244) = true := by simp; omega
  have q224 : (bz s.data.toList i == 224) = false := by rw [beq_eq_false_iff_ne]; omega
  have q237 : (bz s.data.toList i == 237) = false := by rw [beq_eq_false_iff_ne]; omega
  have q240 : (bz s.data.toList i == 240) = true := by rw [beq_iff_eq]; omega
  have q244 : (bz s.data.toList i == 244) = false := by rw [beq_eq_false_iff_ne]; omega
  have r1 : decide (bz s.data.toList (i + 1) < 144) = false := by simp; omega
  have r2 : decide (191 < bz s.data.toList (i + 1)) = false := by simp; omega
  have o1 := i32_or6 (bz s.data.toList i % 8 * 64) (bz s.data.toList (i + 1) % 64) (by omega) (by omega) (by omega) (by omega) (by omega)
  have o2 := i32_or6 ((bz s.data.toList i % 8 * 64 + bz s.data.toList (i + 1) % 64) * 64) (bz s.data.toList (i + 2) % 64) (by omega) (by omega) (by omega) (by omega) (by omega)
  have o3 := i32_or6 (((bz s.data.toList i % 8 * 64 + bz s.data.toList (i + 1) % 64) * 64 + bz s.data.toList (i + 2) % 64) * 64) (bz s.data.toList (i + 3) % 64) (by omega) (by omega) (by omega) (by omega) (by omega)
  have bs : decide ((s.size : Int) - (i : Int) ≤ 3) = false := by simp; omega
  have n2 := cont_ok s.data.toList (i + 2) p2 z2
  have n3 := cont_ok s.data.toList (i + 3) p3 z3
  clear h1 h2 k1 k2 p2 z2 p3 z3
  go_enter Try.func21, Try.ntmps21
  go_wp2
  go_loop [10, 12] (fun r k => (r = .int .i32 (bz s.data.toList i % 8 * 64 + bz s.data.toList (i + 1) % 64) ∧ k = .int .i64 2) ∨ (r = .int .i32 ((bz s.data.toList i % 8 * 64 + bz s.data.toList (i + 1) % 64) * 64 + bz s.data.toList (i + 2) % 64) ∧ k = .int .i64 3) ∨ (r = .int .i32 (((bz s.data.toList i % 8 * 64 + bz s.data.toList (i + 1) % 64) * 64 + bz s.data.toList (i + 2) % 64) * 64 + bz s.data.toList (i + 3) % 64) ∧ k = .int .i64 4)) (fun _ k => 5 - (intOf k).toNat)
  case atStart => exact .inl ⟨rfl, rfl⟩
  case round =>
    rcases hrel with ⟨rfl, rfl⟩ | ⟨rfl, rfl⟩ | ⟨rfl, rfl⟩
    · go_wp2
      exact ⟨.inr (.inl ⟨rfl, rfl⟩), by simp [intOf]⟩
    · go_wp2
      exact ⟨.inr (.inr ⟨rfl, rfl⟩), by simp [intOf]⟩
    · go_wp2
      go_ret2
      exact ⟨by rw [HF.out]; rfl, rfl⟩

end Go.Proofs.Qxb6002373a
