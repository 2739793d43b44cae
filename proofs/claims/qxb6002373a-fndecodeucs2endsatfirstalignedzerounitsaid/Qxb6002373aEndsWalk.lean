/-
  SEAT b6002373a: THE WALK OF THE LAW FnDecodeUCS2EndsAtFirstAlignedZeroUnit.
-/
import Derived.Test.Qxb6002373aShare
namespace Go.Proofs.Qxb6002373a
open Go Go.RowKit
open Plain (byteAt dec16 pairRune scan)

/-! ### the bound on the length -/
set_option maxHeartbeats 400000 in
theorem zz8_no (a : Option Addr) (n c : Nat) (h : (1048576 : Int) < n) (w : World) : Calls Try.prog 8 #[.slice a n c] w fun e w' => e = .returned (.bool false) ∧ w' = w := by
  have b1 : decide ((1048576 : Int) < n) = true := by simp; omega
  clear h
  go_enter Try.func8, Try.ntmps8
  go_wp2
  go_ret
  exact ⟨rfl, rfl⟩
set_option maxHeartbeats 400000 in
theorem zz8_yes (a : Option Addr) (n c : Nat) (h : (n : Int) ≤ 1048576) (w : World) : Calls Try.prog 8 #[.slice a n c] w fun e w' => e = .returned (.bool true) ∧ w' = w := by
  have b1 : decide ((1048576 : Int) < n) = false := by simp; omega
  have hw : wrap64 (n : Int) = n := by unfold wrap64; omega
  clear h
  go_enter Try.func8, Try.ntmps8
  go_wp2
  go_ret
  exact ⟨rfl, rfl⟩

set_option maxHeartbeats 400000 in
theorem ends_far (a : Option Addr) (n c : Nat) (h : (65536 : Int) < n) (w : World) : Calls Try.prog 3 #[.slice a n c] w fun e w' => e = .returned (.bool true) ∧ Below w.heap.size w w' := by
  by_cases h2 : (1048576 : Int) < n
  · go_enter Try.func3, Try.ntmps3
    go_wp2_with (go_at_call 8; refine (zz8_no _ _ _ h2 _).mono ?_; rintro e w1 ⟨rfl, rfl⟩)
    go_ret
    exact ⟨rfl, Below.refl _ _⟩
  · have b1 : decide ((65536 : Int) < n) = true := by simp; omega
    have H2 := Lib.hid h2
    clear h h2
    go_enter Try.func3, Try.ntmps3
    go_wp2_with (go_at_call 8; refine (zz8_yes _ _ _ (by have := H2.out; omega) _).mono ?_; rintro e w1 ⟨rfl, rfl⟩)
    go_ret
    exact ⟨rfl, Below.refl _ _⟩

set_option maxHeartbeats 1000000 in
theorem ends_none (x : Addr) (cap : Nat) (l : List UInt8) (hl : (l.length : Int) ≤ 65536) (w : World) (hc : ∀ j, j < l.length → w.cell? (x.add j) = some (.int .u8 (byteAt l j))) (hs : scan l = none) :
    Calls Try.prog 3 #[.slice (some x) l.length cap] w fun e w' => e = .returned (.bool true) ∧ Below w.heap.size w w' := by
  have b1 : decide ((65536 : Int) < l.length) = false := by simp; omega
  have HN := Lib.hid (Plain.scan_none l hs)
  have HC := Lib.hid hc
  have HL := Lib.hid hl
  have HS := Lib.hid hs
  clear hc hs hl
  go_enter Try.func3, Try.ntmps3
  go_wp2_with fail
  refine (zz8_yes _ _ _ (by have := HL.out; omega) _).mono ?_
  rintro e w0 ⟨rfl, hw0⟩
  rw [hw0]
  clear hw0 w0
  go_wp2_with fail
  refine (clone_some x cap l (by have := HL.out; omega) _ HC.out).mono ?_
  rintro e w1 ⟨rfl, hb1, hz1, hw1⟩
  have HW := Lib.hid hw1
  clear hw1
  go_wp2_with fail
  refine (ucs2_some w.heap.size l.length l (by have := HL.out; omega) _ (by omega) (cell_bytes HW.out)).mono ?_
  rintro e w2 ⟨ha, hb2⟩
  unfold Answer at ha
  rw [HS.out] at ha
  obtain ⟨p, rfl⟩ := ha
  have hbb : Below w.heap.size w w2 := hb1.trans (hb2.mono (by omega))
  have HW2 := Lib.hid (show ∀ j, j < l.length → w2.cell? ⟨w.heap.size, j, none⟩ = some (.int .u8 (byteAt l j)) from fun j hj => (hb2.cell (p := ⟨w.heap.size, j, none⟩) (by show w.heap.size < _; omega)).trans (cell_bytes HW.out j hj))
  clear hb1 hb2
  have hl := HL.out
  clear b1
  go_wp2
  go_loop [6] (fun i => ∃ k : Nat, 2 * k ≤ l.length + 1 ∧ i = .int .i64 ((2 * k : Nat) : Int)) (fun i => l.length + 1 - (intOf i).toNat)
  case atStart => exact ⟨0, by omega, rfl⟩
  case round =>
    obtain ⟨k, hk, rfl⟩ := hrel
    by_cases hlt : 2 * k + 1 < l.length
    · have h1 := HW2.out (2 * k) (by omega)
      have h2 := HW2.out (2 * k + 1) hlt
      have h3 := HN.out k hlt
      by_cases hz : byteAt l (2 * k) = 0
      · have c1 : ((byteAt l (2 * k) : Int) == 0) = true := by rw [beq_iff_eq]; omega
        have c2 : ((byteAt l (2 * k + 1) : Int) == 0) = false := by rw [beq_eq_false_iff_ne]; omega
        clear h3 hz
        go_wp2
        exact ⟨⟨k + 1, by omega, by go_num⟩, by simp [intOf]; omega⟩
      · have c1 : ((byteAt l (2 * k) : Int) == 0) = false := by rw [beq_eq_false_iff_ne]; omega
        clear h3 hz
        go_wp2
        exact ⟨⟨k + 1, by omega, by go_num⟩, by simp [intOf]; omega⟩
    · go_wp2
      go_ret
      exact ⟨rfl, hbb⟩

set_option maxHeartbeats 1000000 in
theorem ends_some (x : Addr) (cap : Nat) (l : List UInt8) (hl : (l.length : Int) ≤ 65536) (w : World) (hc : ∀ j, j < l.length → w.cell? (x.add j) = some (.int .u8 (byteAt l j))) (us : List Nat) (hs : scan l = some us) :
    Calls Try.prog 3 #[.slice (some x) l.length cap] w fun e w' => e = .returned (.bool true) ∧ Below w.heap.size w w' := by
  have b1 : decide ((65536 : Int) < l.length) = false := by simp; omega
  obtain ⟨g1, g2, g3, g4⟩ := Plain.scan_some l us hs
  have HN := Lib.hid g4
  have HC := Lib.hid hc
  have HL := Lib.hid hl
  have HS := Lib.hid hs
  clear hc hs hl g4
  go_enter Try.func3, Try.ntmps3
  go_wp2_with fail
  refine (zz8_yes _ _ _ (by have := HL.out; omega) _).mono ?_
  rintro e w0 ⟨rfl, hw0⟩
  rw [hw0]
  clear hw0 w0
  go_wp2_with fail
  refine (clone_some x cap l (by have := HL.out; omega) _ HC.out).mono ?_
  rintro e w1 ⟨rfl, hb1, hz1, hw1⟩
  have HW := Lib.hid hw1
  clear hw1
  go_wp2_with fail
  refine (ucs2_some w.heap.size l.length l (by have := HL.out; omega) _ (by omega) (cell_bytes HW.out)).mono ?_
  rintro e w2 ⟨ha, hb2⟩
  unfold Answer at ha
  rw [HS.out] at ha
  subst ha
  have hbb : Below w.heap.size w w2 := hb1.trans (hb2.mono (by omega))
  have HW2 := Lib.hid (show ∀ j, j < l.length → w2.cell? ⟨w.heap.size, j, none⟩ = some (.int .u8 (byteAt l j)) from fun j hj => (hb2.cell (p := ⟨w.heap.size, j, none⟩) (by show w.heap.size < _; omega)).trans (cell_bytes HW.out j hj))
  clear hb1 hb2
  have hl := HL.out
  clear b1
  generalize us.length = m at *
  have h1 := HW2.out (2 * m) (by omega)
  have h2 := HW2.out (2 * m + 1) (by omega)
  have c1 : ((byteAt l (2 * m) : Int) != 0) = false := by rw [g2]; rfl
  have c2 : ((byteAt l (2 * m + 1) : Int) != 0) = false := by rw [g3]; rfl
  clear g2 g3
  go_wp2
  go_loop [7] (fun i => ∃ k : Nat, k ≤ m ∧ i = .int .i64 ((2 * k : Nat) : Int)) (fun i => 2 * m - (intOf i).toNat)
  case atStart => exact ⟨0, by omega, rfl⟩
  case round =>
    obtain ⟨k, hk, rfl⟩ := hrel
    by_cases hlt : k < m
    · have k1 := HW2.out (2 * k) (by omega)
      have k2 := HW2.out (2 * k + 1) (by omega)
      have h3 := HN.out k hlt
      clear h1 h2 c1 c2
      by_cases hz : byteAt l (2 * k) = 0
      · have c1 : ((byteAt l (2 * k) : Int) == 0) = true := by rw [beq_iff_eq]; omega
        have c2 : ((byteAt l (2 * k + 1) : Int) == 0) = false := by rw [beq_eq_false_iff_ne]; omega
        clear h3 hz
        go_wp2
        exact ⟨⟨k + 1, by omega, by go_num⟩, by simp [intOf]; omega⟩
      · have c1 : ((byteAt l (2 * k) : Int) == 0) = false := by rw [beq_eq_false_iff_ne]; omega
        clear h3 hz
        go_wp2
        exact ⟨⟨k + 1, by omega, by go_num⟩, by simp [intOf]; omega⟩
    · go_wp2
      go_ret
      exact ⟨rfl, hbb⟩

set_option maxHeartbeats 1000000 in
theorem ends_nil (w : World) : Calls Try.prog 3 #[.slice none 0 0] w fun e w' => e = .returned (.bool true) ∧ Below w.heap.size w w' := by
  go_enter Try.func3, Try.ntmps3
  go_wp2_with fail
  refine (zz8_yes none 0 0 (by omega) _).mono ?_
  rintro e w0 ⟨rfl, hw0⟩
  rw [hw0]
  clear hw0 w0
  go_wp2_with fail
  refine (clone_nil _).mono ?_
  rintro e w0 ⟨rfl, hw0⟩
  rw [hw0]
  clear hw0 w0
  go_wp2_with fail
  refine (ucs2_nil _).mono ?_
  rintro e w2 ⟨ha, hb2⟩
  obtain ⟨p, rfl⟩ := ha
  go_wp2
  go_loop [6] (fun i => i = .int .i64 0) (fun _ => 0)
  case atStart => rfl
  case round =>
    subst hrel
    go_wp2
    go_ret
    exact ⟨rfl, hb2⟩

/-- THE LAW's WALK AT A SLICE THAT IS NOT nil. -/
theorem ends_any (x : Addr) (cap : Nat) (l : List UInt8) (w : World) (hc : ∀ j, j < l.length → w.cell? (x.add j) = some (.int .u8 (byteAt l j))) :
    Calls Try.prog 3 #[.slice (some x) l.length cap] w fun e w' => e = .returned (.bool true) ∧ Below w.heap.size w w' := by
  by_cases h : (65536 : Int) < l.length
  · exact ends_far _ _ _ h w
  · cases hs : scan l with
    | none => exact ends_none x cap l (by omega) w hc hs
    | some us => exact ends_some x cap l (by omega) w hc us hs

#print axioms ends_any
end Go.Proofs.Qxb6002373a
