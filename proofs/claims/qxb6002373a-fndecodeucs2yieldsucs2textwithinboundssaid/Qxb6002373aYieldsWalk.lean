/-
  SEAT b6002373a: THE WALK OF THE LAW FnDecodeUCS2YieldsUCS2TextWithinBounds.
-/
import Derived.Test.Qxb6002373aLaw
import Derived.Test.Qxb6002373aValid
namespace Go.Proofs.Qxb6002373a
open Go Go.RowKit
open Plain (byteAt dec16 pairRune scan)

set_option maxHeartbeats 400000 in
theorem zz15_no (a : Option Addr) (n c : Nat) (h : (1048576 : Int) < n) (w : World) : Calls Try.prog 15 #[.slice a n c] w fun e w' => e = .returned (.bool false) ∧ w' = w := by
  have b1 : decide ((1048576 : Int) < n) = true := by simp; omega
  clear h
  go_enter Try.func15, Try.ntmps15
  go_wp2
  go_ret
  exact ⟨rfl, rfl⟩
set_option maxHeartbeats 400000 in
theorem zz15_yes (a : Option Addr) (n c : Nat) (h : (n : Int) ≤ 1048576) (w : World) : Calls Try.prog 15 #[.slice a n c] w fun e w' => e = .returned (.bool true) ∧ w' = w := by
  have b1 : decide ((1048576 : Int) < n) = false := by simp; omega
  have hw : wrap64 (n : Int) = n := by unfold wrap64; omega
  clear h
  go_enter Try.func15, Try.ntmps15
  go_wp2
  go_ret
  exact ⟨rfl, rfl⟩

set_option maxHeartbeats 400000 in
theorem yields_far (a : Option Addr) (n c : Nat) (h : (65536 : Int) < n) (w : World) : Calls Try.prog 6 #[.slice a n c] w fun e w' => e = .returned (.bool true) ∧ Below w.heap.size w w' := by
  by_cases h2 : (1048576 : Int) < n
  · go_enter Try.func6, Try.ntmps6
    go_wp2_with (go_at_call 15; refine (zz15_no _ _ _ h2 _).mono ?_; rintro e w1 ⟨rfl, rfl⟩)
    go_ret
    exact ⟨rfl, Below.refl _ _⟩
  · have b1 : decide ((65536 : Int) < n) = true := by simp; omega
    have H2 := Lib.hid h2
    clear h h2
    go_enter Try.func6, Try.ntmps6
    go_wp2_with (go_at_call 15; refine (zz15_yes _ _ _ (by have := H2.out; omega) _).mono ?_; rintro e w1 ⟨rfl, rfl⟩)
    go_ret
    exact ⟨rfl, Below.refl _ _⟩

set_option maxHeartbeats 1000000 in
theorem yields_nil (w : World) : Calls Try.prog 6 #[.slice none 0 0] w fun e w' => e = .returned (.bool true) ∧ Below w.heap.size w w' := by
  go_enter Try.func6, Try.ntmps6
  go_wp2_with fail
  refine (zz15_yes none 0 0 (by omega) _).mono ?_
  rintro e w0 ⟨rfl, hw0⟩
  rw [hw0]
  clear hw0 w0
  go_wp2_with fail
  refine (clone_nil _).mono ?_
  rintro e w0 ⟨rfl, hw0⟩
  rw [hw0]
  clear hw0 w0
  go_wp2_with fail
  refine (ucs2_nil _).mono ?_
  rintro e w2 ⟨ha, hb2⟩
  obtain ⟨p, rfl⟩ := ha
  go_wp2
  go_ret
  exact ⟨rfl, hb2⟩

set_option maxHeartbeats 1000000 in
theorem yields_none (x : Addr) (cap : Nat) (l : List UInt8) (hl : (l.length : Int) ≤ 65536) (w : World) (hc : ∀ j, j < l.length → w.cell? (x.add j) = some (.int .u8 (byteAt l j))) (hs : scan l = none) :
    Calls Try.prog 6 #[.slice (some x) l.length cap] w fun e w' => e = .returned (.bool true) ∧ Below w.heap.size w w' := by
  have b1 : decide ((65536 : Int) < l.length) = false := by simp; omega
  have HC := Lib.hid hc
  have HL := Lib.hid hl
  have HS := Lib.hid hs
  clear hc hs hl
  go_enter Try.func6, Try.ntmps6
  go_wp2_with fail
  refine (zz15_yes _ _ _ (by have := HL.out; omega) _).mono ?_
  rintro e w0 ⟨rfl, hw0⟩
  rw [hw0]
  clear hw0 w0
  go_wp2_with fail
  refine (clone_some x cap l (by have := HL.out; omega) _ HC.out).mono ?_
  rintro e w1 ⟨rfl, hb1, hz1, hw1⟩
  have HW := Lib.hid hw1
  clear hw1
  go_wp2_with fail
  refine (ucs2_some w.heap.size l.length l (by have := HL.out; omega) _ (by omega) (cell_bytes HW.out)).mono ?_
  rintro e w2 ⟨ha, hb2⟩
  unfold Answer at ha
  rw [HS.out] at ha
  obtain ⟨p, rfl⟩ := ha
  have hbb : Below w.heap.size w w2 := hb1.trans (hb2.mono (by omega))
  go_wp2
  go_ret
  exact ⟨rfl, hbb⟩

set_option maxHeartbeats 1000000 in
theorem yields_some (x : Addr) (cap : Nat) (l : List UInt8) (hl : (l.length : Int) ≤ 65536) (w : World) (hc : ∀ j, j < l.length → w.cell? (x.add j) = some (.int .u8 (byteAt l j))) (us : List Nat) (hs : scan l = some us) :
    Calls Try.prog 6 #[.slice (some x) l.length cap] w fun e w' => e = .returned (.bool true) ∧ Below w.heap.size w w' := by
  have b1 : decide ((65536 : Int) < l.length) = false := by simp; omega
  have HC := Lib.hid hc
  have HL := Lib.hid hl
  have HS := Lib.hid hs
  clear hc hs hl
  go_enter Try.func6, Try.ntmps6
  go_wp2_with fail
  refine (zz15_yes _ _ _ (by have := HL.out; omega) _).mono ?_
  rintro e w0 ⟨rfl, hw0⟩
  rw [hw0]
  clear hw0 w0
  go_wp2_with fail
  refine (clone_some x cap l (by have := HL.out; omega) _ HC.out).mono ?_
  rintro e w1 ⟨rfl, hb1, hz1, hw1⟩
  have HW := Lib.hid hw1
  clear hw1
  go_wp2_with fail
  refine (ucs2_some w.heap.size l.length l (by have := HL.out; omega) _ (by omega) (cell_bytes HW.out)).mono ?_
  rintro e w2 ⟨ha, hb2⟩
  unfold Answer at ha
  rw [HS.out] at ha
  subst ha
  have hbb : Below w.heap.size w w2 := hb1.trans (hb2.mono (by omega))
  clear hb1 hb2 hz1
  obtain ⟨g1, -, -, -⟩ := Plain.scan_some l us HS.out
  obtain ⟨t1, t2⟩ := size_text HS.out
  have HG := Lib.hid (good_text HS.out)
  have hl := HL.out
  clear b1
  generalize textOf (dec16 us) = txt at *
  generalize us.length = m at *
  go_wp2_with fail
  refine (valid_any txt (by omega) _).mono ?_
  rintro e w3 ⟨hv, hw3⟩
  rw [hw3]
  clear hw3 w3
  obtain ⟨b, rfl, hbg⟩ := hv
  obtain rfl : b = true := hbg.2 HG.out
  clear hbg
  have d1 : decide ((txt.size : Int) ≤ 3 * (m : Int)) = true := by simp; omega
  go_wp2
  go_ret
  exact ⟨rfl, hbb⟩

/-- THE LAW's WALK AT A SLICE THAT IS NOT nil. -/
theorem yields_any (x : Addr) (cap : Nat) (l : List UInt8) (w : World) (hc : ∀ j, j < l.length → w.cell? (x.add j) = some (.int .u8 (byteAt l j))) :
    Calls Try.prog 6 #[.slice (some x) l.length cap] w fun e w' => e = .returned (.bool true) ∧ Below w.heap.size w w' := by
  by_cases h : (65536 : Int) < l.length
  · exact yields_far _ _ _ h w
  · cases hs : scan l with
    | none => exact yields_none x cap l (by omega) w hc hs
    | some us => exact yields_some x cap l (by omega) w hc us hs

#print axioms yields_any
end Go.Proofs.Qxb6002373a
