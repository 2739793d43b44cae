/-
  SEAT b6002373a: THE WALK OF THE LAW FnDecodeUCS2RoundTripsWellFormedUTF16.
-/
import Derived.Test.Qxb6002373aWellWalk
import Derived.Deep.RegionWith
namespace Go.Proofs.Qxb6002373a
open Go Go.RowKit
open Plain (byteAt dec16 pairRune scan scalar units16 bytes16 text8)

theorem unit_of {l : List UInt8} {us : List Nat} (h : scan l = some us) : ∀ k, k < us.length → unitZ l (2 * k) = (unitAt us k : Int) := by
  obtain ⟨_, _, _, h4⟩ := Plain.scan_some l us h
  intro k hk
  have := (h4 k hk).1
  unfold unitZ unitAt
  rw [this]
  omega

theorem unit_lt {l : List UInt8} {us : List Nat} (h : scan l = some us) : ∀ k, unitAt us k < 65536 := by
  intro k
  by_cases hk : k < us.length
  · have := mem_units h (us[k]) (List.getElem_mem hk)
    have e : unitAt us k = us[k] := by simp [unitAt, List.getD, hk]
    omega
  · have : unitAt us k = 0 := by simp [unitAt, List.getD, List.getElem?_eq_none (Nat.le_of_not_lt hk)]
    omega

/-- The first 2 * n bytes are the units' bytes. -/
theorem bytes_of {l : List UInt8} {us : List Nat} (h : scan l = some us) : ∀ j, j < (bytes16 us).length → byteAt (bytes16 us) j = byteAt l j := by
  have key : ∀ (us : List Nat) (l : List UInt8), (∀ k, k < us.length → us.getD k 0 = byteAt l (2 * k) + 256 * byteAt l (2 * k + 1)) → ∀ j, j < (bytes16 us).length → byteAt (bytes16 us) j = byteAt l j := by
    intro us
    induction us with
    | nil => intro l _ j hj; simp [bytes16] at hj
    | cons u us ih =>
      intro l hu j hj
      have h0 := hu 0 (by simp)
      simp at h0
      have c1 := Plain.byteAt_lt l 0
      have c2 := Plain.byteAt_lt l 1
      have e : bytes16 (u :: us) = UInt8.ofNat (u % 256) :: UInt8.ofNat (u / 256) :: bytes16 us := rfl
      rw [e] at hj ⊢
      match j, hj with
      | 0, _ => rw [Plain.byteAt_zero, Plain.ofNat_toNat _ (by omega)]; omega
      | 1, _ => rw [Plain.byteAt_cons, Plain.byteAt_zero, Plain.ofNat_toNat _ (by omega)]; omega
      | j + 2, hj =>
        rw [Plain.byteAt_cons, Plain.byteAt_cons, ih (l.drop 2) (fun k hk => by
          rw [Plain.byteAt_drop, Plain.byteAt_drop]
          have := hu (k + 1) (by simpa using hk)
          rw [show 2 + 2 * k = 2 * (k + 1) by omega, show 2 + (2 * k + 1) = 2 * (k + 1) + 1 by omega]
          simpa using this) j (by simpa using hj), Plain.byteAt_drop]
        congr 1
        omega
  obtain ⟨_, _, _, h4⟩ := Plain.scan_some l us h
  exact key us l (fun k hk => (h4 k hk).1)

/-- Well-formed units: the runes, written anew, are the units again. -/
theorem enc_of {us : List Nat} (h : Formed us) : enc16 (dec16 us) = bytes16 us := by
  obtain ⟨rs, hs, rfl⟩ := h
  rw [Plain.dec16_units rs hs]
  rfl

/-- encodeUTF16LE at the text of well-formed units. -/
theorem enc_here {l : List UInt8} {us : List Nat} (hs : scan l = some us) (hf : Formed us) (hm : ((textOf (dec16 us)).size : Int) ≤ 1000000) (w : World) :
    Calls Try.prog 14 #[.string (textOf (dec16 us))] w fun e w' => ∃ g c, e = .returned (.slice (some ⟨g, 0, none⟩) (2 * us.length) c) ∧ (∀ j, j < 2 * us.length → w'.cell? ⟨g, j, none⟩ = some (.int .u8 (byteAt l j))) ∧ Below w.heap.size w w' := by
  have hmem := mem_units hs
  have hsc := Plain.dec16_scalar us (fun u hu => (hmem u hu).1)
  refine (enc16_any (textOf (dec16 us)) (dec16 us) hm hsc (text_list _ hsc) w).mono ?_
  rintro e w' ⟨g, c, rfl, hown, hb⟩
  rw [enc_of hf] at hown
  have hl := Plain.bytes16_length us
  refine ⟨g, c, by rw [enc_of hf, hl], fun j hj => ?_, hb⟩
  have hj' : j < (bytes16 us).length := by omega
  have := hown.cells (g := g) rfl j (.int .u8 (byteAt l j)) (by rw [← bytes_of hs j hj', Plain.byteAt_get _ j hj']; simp only [Lib.byteCells, List.getElem?_map, List.getElem?_eq_getElem hj', Option.map_some])
  rwa [Addr.add_lit, Nat.zero_add] at this

/-- equalBytes at two rows of the same bytes. -/
theorem equal_here {l : List UInt8} {us : List Nat} (hs : scan l = some us) (hl : (us.length : Int) ≤ 100000) (g1 g2 ca cb : Nat) (w : World)
    (h1 : ∀ j, j < 2 * us.length → w.cell? ⟨g1, j, none⟩ = some (.int .u8 (byteAt l j))) (h2 : ∀ j, j < 2 * us.length → w.cell? ⟨g2, j, none⟩ = some (.int .u8 (byteAt l j))) :
    Calls Try.prog 18 #[.slice (some ⟨g1, 0, none⟩) (2 * us.length) ca, .slice (some ⟨g2, 0, none⟩) (2 * us.length) cb] w fun e w' => e = .returned (.bool true) ∧ ∃ n, w' = w.drewN n := by
  have hb := Plain.bytes16_length us
  have := equal_same (some ⟨g1, 0, none⟩) (some ⟨g2, 0, none⟩) ca cb (bytes16 us) (by omega) w
    (fun _ => ⟨g1, rfl, fun j hj => by rw [bytes_of hs j hj]; exact h1 j (by omega)⟩) (fun _ => ⟨g2, rfl, fun j hj => by rw [bytes_of hs j hj]; exact h2 j (by omega)⟩)
  rwa [hb] at this

set_option maxHeartbeats 400000 in
theorem zz16_no (a : Option Addr) (n c : Nat) (h : (1048576 : Int) < n) (w : World) : Calls Try.prog 16 #[.slice a n c] w fun e w' => e = .returned (.bool false) ∧ w' = w := by
  have b1 : decide ((1048576 : Int) < n) = true := by simp; omega
  clear h
  go_enter Try.func16, Try.ntmps16
  go_wp2
  go_ret
  exact ⟨rfl, rfl⟩
set_option maxHeartbeats 400000 in
theorem zz16_yes (a : Option Addr) (n c : Nat) (h : (n : Int) ≤ 1048576) (w : World) : Calls Try.prog 16 #[.slice a n c] w fun e w' => e = .returned (.bool true) ∧ w' = w := by
  have b1 : decide ((1048576 : Int) < n) = false := by simp; omega
  have hw : wrap64 (n : Int) = n := by unfold wrap64; omega
  clear h
  go_enter Try.func16, Try.ntmps16
  go_wp2
  go_ret
  exact ⟨rfl, rfl⟩

set_option maxHeartbeats 400000 in
theorem round_far (a : Option Addr) (n c : Nat) (h : (65536 : Int) < n) (w : World) : Calls Try.prog 7 #[.slice a n c] w fun e w' => e = .returned (.bool true) ∧ Below w.heap.size w w' := by
  by_cases h2 : (1048576 : Int) < n
  · go_enter Try.func7, Try.ntmps7
    go_wp2_with (go_at_call 16; refine (zz16_no _ _ _ h2 _).mono ?_; rintro e w1 ⟨rfl, rfl⟩)
    go_ret
    exact ⟨rfl, Below.refl _ _⟩
  · have b1 : decide ((65536 : Int) < n) = true := by simp; omega
    have H2 := Lib.hid h2
    clear h h2
    go_enter Try.func7, Try.ntmps7
    go_wp2_with (go_at_call 16; refine (zz16_yes _ _ _ (by have := H2.out; omega) _).mono ?_; rintro e w1 ⟨rfl, rfl⟩)
    go_ret
    exact ⟨rfl, Below.refl _ _⟩

set_option maxHeartbeats 1000000 in
theorem round_nil (w : World) : Calls Try.prog 7 #[.slice none 0 0] w fun e w' => e = .returned (.bool true) ∧ Below w.heap.size w w' := by
  go_enter Try.func7, Try.ntmps7
  go_wp2_with fail
  refine (zz16_yes none 0 0 (by omega) _).mono ?_
  rintro e w0 ⟨rfl, hw0⟩
  rw [hw0]
  clear hw0 w0
  go_wp2_with fail
  refine (clone_nil _).mono ?_
  rintro e w0 ⟨rfl, hw0⟩
  rw [hw0]
  clear hw0 w0
  go_wp2_with fail
  refine (ucs2_nil _).mono ?_
  rintro e w2 ⟨ha, hb2⟩
  obtain ⟨p, rfl⟩ := ha
  go_wp2
  go_ret
  exact ⟨rfl, hb2⟩

set_option maxHeartbeats 1000000 in
theorem round_none (x : Addr) (cap : Nat) (l : List UInt8) (hl : (l.length : Int) ≤ 65536) (w : World) (hc : ∀ j, j < l.length → w.cell? (x.add j) = some (.int .u8 (byteAt l j))) (hs : scan l = none) :
    Calls Try.prog 7 #[.slice (some x) l.length cap] w fun e w' => e = .returned (.bool true) ∧ Below w.heap.size w w' := by
  have b1 : decide ((65536 : Int) < l.length) = false := by simp; omega
  have HC := Lib.hid hc
  have HL := Lib.hid hl
  have HS := Lib.hid hs
  clear hc hs hl
  go_enter Try.func7, Try.ntmps7
  go_wp2_with fail
  refine (zz16_yes _ _ _ (by have := HL.out; omega) _).mono ?_
  rintro e w0 ⟨rfl, hw0⟩
  rw [hw0]
  clear hw0 w0
  go_wp2_with fail
  refine (clone_some x cap l (by have := HL.out; omega) _ HC.out).mono ?_
  rintro e w1 ⟨rfl, hb1, hz1, hw1⟩
  have HW := Lib.hid hw1
  clear hw1
  go_wp2_with fail
  refine (ucs2_some w.heap.size l.length l (by have := HL.out; omega) _ (by omega) (cell_bytes HW.out)).mono ?_
  rintro e w2 ⟨ha, hb2⟩
  unfold Answer at ha
  rw [HS.out] at ha
  obtain ⟨p, rfl⟩ := ha
  have hbb : Below w.heap.size w w2 := hb1.trans (hb2.mono (by omega))
  go_wp2
  go_ret
  exact ⟨rfl, hbb⟩

set_option maxHeartbeats 1000000 in
theorem round_some (x : Addr) (cap : Nat) (l : List UInt8) (hl : (l.length : Int) ≤ 65536) (w : World) (hc : ∀ j, j < l.length → w.cell? (x.add j) = some (.int .u8 (byteAt l j))) (us : List Nat) (hs : scan l = some us) :
    Calls Try.prog 7 #[.slice (some x) l.length cap] w fun e w' => e = .returned (.bool true) ∧ Below w.heap.size w w' := by
  have b1 : decide ((65536 : Int) < l.length) = false := by simp; omega
  have HC := Lib.hid hc
  have HL := Lib.hid hl
  have HS := Lib.hid hs
  clear hc hs hl
  go_enter Try.func7, Try.ntmps7
  go_wp2_with fail
  refine (zz16_yes _ _ _ (by have := HL.out; omega) _).mono ?_
  rintro e w0 ⟨rfl, hw0⟩
  rw [hw0]
  clear hw0 w0
  go_wp2_with fail
  refine (clone_some x cap l (by have := HL.out; omega) _ HC.out).mono ?_
  rintro e w1 ⟨rfl, hb1, hz1, hw1⟩
  have HW := Lib.hid hw1
  clear hw1
  go_wp2_with fail
  refine (ucs2_some w.heap.size l.length l (by have := HL.out; omega) _ (by omega) (cell_bytes HW.out)).mono ?_
  rintro e w2 ⟨ha, hb2⟩
  unfold Answer at ha
  rw [HS.out] at ha
  subst ha
  have hbb : Below w.heap.size w w2 := hb1.trans (hb2.mono (by omega))
  obtain ⟨g1, -, -, -⟩ := Plain.scan_some l us HS.out
  obtain ⟨t1, t2⟩ := size_text HS.out
  have hl := HL.out
  have HW2 := Lib.hid (show ∀ j, j < l.length → w2.cell? ⟨w.heap.size, j, none⟩ = some (.int .u8 (byteAt l j)) from fun j hj => (hb2.cell (p := ⟨w.heap.size, j, none⟩) (by show w.heap.size < _; omega)).trans (cell_bytes HW.out j hj))
  have hz2 : w.heap.size < w2.heap.size := by have := hb2.size; omega
  clear hb1 hb2 hz1 b1
  have eN : ((2 * us.length + 2 : Nat) : Int) - 2 = ((2 * us.length : Nat) : Int) := by omega
  have HEN := Lib.hid eN
  clear eN
  have hm : ((textOf (dec16 us)).size : Int) ≤ 1000000 := by omega
  have hul : (us.length : Int) ≤ 100000 := by omega
  clear t1 t2
  go_wp2_with fail
  refine (well_any w.heap.size l.length l us hul _ (fun j hj => HW2.out j (by omega)) (unit_of HS.out) (unit_lt HS.out)).mono ?_
  rintro e w3 ⟨⟨b, rfl, hbf⟩, n3, rfl⟩
  have hbb3 : Below w.heap.size w (w2.drewN n3) := hbb.trans ⟨rfl, rfl, rfl, Nat.le_refl _, fun _ _ => rfl⟩
  cases b with
  | false =>
    clear hbf
    go_wp2
    go_ret
    exact ⟨rfl, hbb3⟩
  | true =>
    have HF := Lib.hid (hbf rfl)
    clear hbf
    have hsl : ∀ W, (Instr.slice 22 (.slice (some ⟨w.heap.size, 0, none⟩) l.length l.length) none (some (.int .i64 (2 * (us.length : Int)))) none).run Try.prog W = .ok (.slice (some ⟨w.heap.size, 0, none⟩) (2 * us.length) l.length) W := fun W => by
      rw [run_slice_h W 22 _ _ _ Try.underlying22 .i64 (2 * (us.length : Int)) (by omega) (by omega)]
      have e : (2 * (us.length : Int)).toNat = 2 * us.length := by omega
      rw [e]
      go_simp
    have hwr : IntKind.i64.wrap (2 * (us.length : Int)) = 2 * (us.length : Int) := by rw [IntKind.wrap_i64]; omega
    go_wp2_with fail
    go_region_with (first
      | (go_at_call 14; refine (enc_here HS.out HF.out hm _).mono ?_; rintro e w5 ⟨g, c, rfl, hc5, hb5⟩)
      | (go_at_call 18; refine (equal_here HS.out hul g w.heap.size c l.length _ ?_ ?_).mono ?_; exact hc5; exact (fun j hj => (hb5.cell (p := ⟨w.heap.size, j, none⟩) (by simp; omega)).trans (HW2.out j (by omega))); rintro e w6 ⟨rfl, n6, rfl⟩))
    all_goals
      have h7 : Below w.heap.size w (w2.drewN (n3 + 1)) := hbb.trans ⟨rfl, rfl, rfl, Nat.le_refl _, fun _ _ => rfl⟩
      have h8 : Below w.heap.size w (w5.drewN n6) := (h7.trans (hb5.mono h7.size)).trans ⟨rfl, rfl, rfl, Nat.le_refl _, fun _ _ => rfl⟩
      clear hsl hwr
      go_wp2
      go_ret
      exact ⟨rfl, h8⟩

/-- THE LAW's WALK AT A SLICE THAT IS NOT nil. -/
theorem round_any (x : Addr) (cap : Nat) (l : List UInt8) (w : World) (hc : ∀ j, j < l.length → w.cell? (x.add j) = some (.int .u8 (byteAt l j))) :
    Calls Try.prog 7 #[.slice (some x) l.length cap] w fun e w' => e = .returned (.bool true) ∧ Below w.heap.size w w' := by
  by_cases h : (65536 : Int) < l.length
  · exact round_far _ _ _ h w
  · cases hs : scan l with
    | none => exact round_none x cap l (by omega) w hc hs
    | some us => exact round_some x cap l (by omega) w hc us hs

#print axioms round_any
end Go.Proofs.Qxb6002373a
