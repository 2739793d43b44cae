/-
  SEAT b6002373a: THE WALK OF THE LAW FnDecodeUCS2InvertsUTF16LE.
-/
import Derived.Test.Qxb6002373aEnc16
import Derived.Test.Qxb6002373aLaw
namespace Go.Proofs.Qxb6002373a
open Go Go.RowKit
open Plain (byteAt dec8 dec16 scan scalar enc8 text8 units16 le2 bytes16)

/-! ### the bound on the lengths -/
set_option maxHeartbeats 400000 in
theorem zz12_yes (s : ByteArray) (a : Option Addr) (n c : Nat) (hs : (s.size : Int) ≤ 65536) (h : (n : Int) ≤ 65536) (w : World) : Calls Try.prog 12 #[.string s, .slice a n c] w fun e w' => e = .returned (.bool true) ∧ w' = w := by
  have b1 : decide ((1048576 : Int) < s.size) = false := by simp; omega
  have b2 : decide ((1048576 : Int) < n) = false := by simp; omega
  have b3 : decide ((1048576 : Int) < (s.size : Int) + n) = false := by simp; omega
  go_enter Try.func12, Try.ntmps12
  go_wp2
  go_ret
  exact ⟨rfl, rfl⟩

set_option maxHeartbeats 400000 in
theorem zz12_any (s : ByteArray) (a : Option Addr) (n c : Nat) (w : World) : Calls Try.prog 12 #[.string s, .slice a n c] w fun e w' => (e = .returned (.bool true) ∨ e = .returned (.bool false)) ∧ w' = w := by
  by_cases h1 : (1048576 : Int) < s.size
  · have b1 : decide ((1048576 : Int) < s.size) = true := by simp; omega
    clear h1
    go_enter Try.func12, Try.ntmps12
    go_wp2
    go_ret
    exact ⟨.inr rfl, rfl⟩
  · have b1 : decide ((1048576 : Int) < s.size) = false := by simp; omega
    have ws : wrap64 (s.size : Int) = s.size := by unfold wrap64; omega
    by_cases h2 : (1048576 : Int) < n
    · have b2 : decide ((1048576 : Int) < n) = true := by simp; omega
      clear h1 h2
      go_enter Try.func12, Try.ntmps12
      go_wp2
      go_ret
      exact ⟨.inr rfl, rfl⟩
    · have b2 : decide ((1048576 : Int) < n) = false := by simp; omega
      have ww : wrap64 ((s.size : Int) + n) = (s.size : Int) + n := by unfold wrap64; omega
      by_cases h3 : (1048576 : Int) < (s.size : Int) + n
      · have b3 : decide ((1048576 : Int) < (s.size : Int) + n) = true := by simp; omega
        clear h1 h2 h3
        go_enter Try.func12, Try.ntmps12
        go_wp2
        go_ret
        exact ⟨.inr rfl, rfl⟩
      · have b3 : decide ((1048576 : Int) < (s.size : Int) + n) = false := by simp; omega
        clear h1 h2 h3
        go_enter Try.func12, Try.ntmps12
        go_wp2
        go_ret
        exact ⟨.inl rfl, rfl⟩

set_option maxHeartbeats 400000 in
theorem inv_far (s : ByteArray) (a : Option Addr) (n c : Nat) (h : (65536 : Int) < s.size ∨ (65536 : Int) < n) (w : World) : Calls Try.prog 5 #[.string s, .slice a n c] w fun e w' => e = .returned (.bool true) ∧ Below w.heap.size w w' := by
  by_cases h1 : (65536 : Int) < s.size
  · have b1 : decide ((65536 : Int) < s.size) = true := by simp; omega
    clear h h1
    go_enter Try.func5, Try.ntmps5
    go_wp2_with fail
    refine (zz12_any s a n c _).mono ?_
    rintro e w1 ⟨he | he, rfl⟩
    all_goals
      subst he
      go_wp2
      go_ret
      exact ⟨rfl, Below.refl _ _⟩
  · have b1 : decide ((65536 : Int) < s.size) = false := by simp; omega
    have b2 : decide ((65536 : Int) < n) = true := by simp; omega
    clear h h1
    go_enter Try.func5, Try.ntmps5
    go_wp2_with fail
    refine (zz12_any s a n c _).mono ?_
    rintro e w1 ⟨he | he, rfl⟩
    all_goals
      subst he
      go_wp2
      go_ret
      exact ⟨rfl, Below.refl _ _⟩

/-- What cloneBytes gives, nil or not. -/
def Cloned (l : List UInt8) (w : World) (e : Ending) (w' : World) : Prop :=
  ∃ ao, e = .returned (.slice ao l.length l.length) ∧ (ao = none → l = []) ∧ (∀ ad, ao = some ad → ad.block < w'.heap.size ∧ ∀ j u, (Lib.byteCells l)[j]? = some u → w'.cell? (ad.add j) = some u) ∧ Below w.heap.size w w'

theorem cloned_nil (w : World) : Calls Try.prog 9 #[.slice none 0 0] w (Cloned [] w) :=
  (clone_nil w).mono fun e w' ⟨he, hw⟩ => by subst hw; exact ⟨none, he, fun _ => rfl, fun _ h => (by cases h), Below.refl _ _⟩

theorem cloned_some (x : Addr) (cap : Nat) (l : List UInt8) (hl : l.length ≤ 65536) (w : World) (hc : ∀ j, j < l.length → w.cell? (x.add j) = some (.int .u8 (byteAt l j))) :
    Calls Try.prog 9 #[.slice (some x) l.length cap] w (Cloned l w) :=
  (clone_some x cap l hl w hc).mono fun e w' ⟨he, hb, hz, hw⟩ => by
    refine ⟨some ⟨w.heap.size, 0, none⟩, he, fun h => (by cases h), fun ad had => ?_, hb⟩
    obtain rfl := Option.some.inj had
    refine ⟨by show w.heap.size < _; omega, fun j u hj => ?_⟩
    rw [Addr.add_lit, Nat.zero_add, cell_of_row w' w.heap.size j _ 5 (0, 0) hw]
    simpa using hj

/-- The bytes that DecodeUCS2 is handed. -/
theorem inv_cells {w : World} {B g c : Nat} (rs : List Nat) (l : List UInt8) (h : w.ownsRow B 5 1 (.slice (some ⟨g, 0, none⟩) ((enc16 rs).length + 2 + l.length) c) ((enc16 rs).length + 2 + l.length) (Lib.byteCells (enc16 rs) ++ .int .u8 0 :: .int .u8 0 :: Lib.byteCells l)) :
    ∀ j, j < (enc16 rs ++ 0 :: 0 :: l).length → w.cell? ⟨g, j, none⟩ = some (.int .u8 (byteAt (enc16 rs ++ 0 :: 0 :: l) j)) := by
  intro j hj
  have e : Lib.byteCells (enc16 rs) ++ Value.int .u8 0 :: Value.int .u8 0 :: Lib.byteCells l = Lib.byteCells (enc16 rs ++ 0 :: 0 :: l) := by simp [Lib.byteCells]
  rw [e] at h
  have := h.cells (g := g) rfl j (.int .u8 (byteAt (enc16 rs ++ 0 :: 0 :: l) j)) (by rw [Plain.byteAt_get _ j hj]; simp only [Lib.byteCells, List.getElem?_map, List.getElem?_eq_getElem hj, Option.map_some])
  rwa [Addr.add_lit, Nat.zero_add] at this

theorem inv_scan (rs : List Nat) (l : List UInt8) (h : ∀ r ∈ rs, scalar r ∧ r ≠ 0) : scan (enc16 rs ++ 0 :: 0 :: l) = some (rs.flatMap units16) := by
  refine Plain.scan_bytes16 _ l fun u hu => ?_
  obtain ⟨r, hr, hur⟩ := List.mem_flatMap.1 hu
  exact Plain.units16_ok r (h r hr).1 (h r hr).2 u hur

theorem inv_text (s : ByteArray) (rs : List Nat) (h : ∀ r ∈ rs, scalar r) (ht : s.data.toList = text8 rs) : textOf (dec16 (rs.flatMap units16)) = s := by
  rw [Plain.dec16_units rs h]
  apply ByteArray.ext
  apply Array.ext'
  rw [text_list rs h, ht]

set_option maxHeartbeats 1000000 in
theorem inv_main (s : ByteArray) (a : Option Addr) (cap : Nat) (l : List UInt8) (hs : (s.size : Int) ≤ 65536) (hl : (l.length : Int) ≤ 65536) (w : World) (hcl : Calls Try.prog 9 #[.slice a l.length cap] w (Cloned l w)) :
    Calls Try.prog 5 #[.string s, .slice a l.length cap] w fun e w' => e = .returned (.bool true) ∧ Below w.heap.size w w' := by
  have b1 : decide ((65536 : Int) < s.size) = false := by simp; omega
  have b2 : decide ((65536 : Int) < l.length) = false := by simp; omega
  have HL := Lib.hid hl
  have HS := Lib.hid hs
  have HCL := Lib.hid hcl
  clear hl hs hcl
  go_enter Try.func5, Try.ntmps5
  go_wp2_with fail
  refine (zz12_yes s a l.length cap HS.out HL.out _).mono ?_
  rintro e w0 ⟨rfl, hw0⟩
  rw [hw0]
  clear hw0 w0
  go_wp2_with fail
  refine HCL.out.mono ?_
  rintro e w1 ⟨ao, rfl, hao, had, hb1⟩
  have HAO := Lib.hid hao
  have HAD := Lib.hid had
  clear hao had
  go_wp2_with fail
  refine (valid_any s (by have := HS.out; omega) _).mono ?_
  rintro e w0 ⟨hv, hw0⟩
  rw [hw0]
  clear hw0 w0
  obtain ⟨b, rfl, hbg⟩ := hv
  cases b with
  | false =>
    clear hbg
    go_wp2
    go_ret
    exact ⟨rfl, hb1⟩
  | true =>
    obtain ⟨rs, hrs, htx⟩ := hbg.1 rfl
    clear hbg
    have HR := Lib.hid hrs
    have HT := Lib.hid htx
    clear hrs htx
    go_wp2_with fail
    refine (enc16_any s rs (by have := HS.out; omega) (fun r hr => (HR.out r hr).1) HT.out _).mono ?_
    rintro e w2 ⟨g, c, rfl, hown, hb2⟩
    obtain ⟨i0, hi, hz0, hz1, hz2⟩ := info_parts Try.infoByte
    have hE : ((enc16 rs).length : Int) ≤ 262144 := by
      have h1 := enc16_len rs
      have h2 := text8_len rs
      have h3 := congrArg List.length HT.out
      rw [len_size] at h3
      have := HS.out
      omega
    have hl := HL.out
    clear b1 b2
    have HO := Lib.hid hown
    clear hown
    obtain ⟨cs, hcs, hmk0⟩ := run_make_empty ((enc16 rs).length + 2 + l.length) (by omega) w2
    have hmk : (Instr.makeSlice 22 (.int .i64 0) (.int .i64 (((enc16 rs).length : Int) + 2 + (l.length : Int)))).run Try.prog w2 = .ok (.slice (some ⟨w2.heap.size, 0, none⟩) 0 ((enc16 rs).length + 2 + l.length)) (w2.alloc (.cells cs 5)) := by
      have e : (((enc16 rs).length : Int) + 2 + (l.length : Int)) = (((enc16 rs).length + 2 + l.length : Nat) : Int) := by omega
      rw [e]; exact hmk0
    have hmade : (w2.alloc (.cells cs 5)).ownsRow w2.heap.size 5 1 (.slice (some ⟨w2.heap.size, 0, none⟩) 0 ((enc16 rs).length + 2 + l.length)) 0 [] := World.ownsRow_made w2 cs _ (Nat.le_refl _) (by unfold maxLen; omega) (by rw [hcs, Nat.mul_one])
    have HM := Lib.hid hmade
    clear hmade hmk0
    go_wp2_with (at_builtin; refine wpList_append_fits _ rfl _ _ 22 rfl w2.heap.size 5 i0 1 Try.underlying22 hi hz1 w2.heap.size 0 ((enc16 rs).length + 2 + l.length) [] rfl HM.out ⟨g, 0, none⟩ (enc16 rs).length c (Lib.byteCells (enc16 rs)) rfl ?c0 ?c1 ?c2 ?c3 ?_)
    case c0 => rw [Lib.byteCells_length, Nat.mul_one]
    case c1 => exact (HO.out.alloc _).cells (g := g) rfl
    case c2 => intro u' hu'; simp only [Lib.byteCells, List.mem_map] at hu'; obtain ⟨b, _, rfl⟩ := hu'; rfl
    case c3 => omega
    intro w3 hown3 hg3
    clear hmk
    have hb3 : Below w1.heap.size w1 w3 := (hb2.alloc hb2.size _).grown hg3 (by have := hb2.size; simp; omega) (fun k hk => by have := Option.some.inj hk; have := hb2.size; omega)
    have HO3 := Lib.hid hown3
    clear hown3 hg3
    have hz3 : w2.heap.size < w3.heap.size := (HO3.out.lt w2.heap.size rfl).2
    go_wp2_with (at_builtin; refine wpList_append_fits _ rfl _ _ 22 rfl w2.heap.size 5 i0 1 Try.underlying22 hi hz1 w2.heap.size (enc16 rs).length ((enc16 rs).length + 2 + l.length) (Lib.byteCells (enc16 rs)) rfl (HO3.out.alloc _) ⟨w3.heap.size, 0, none⟩ 2 2 [.int .u8 0, .int .u8 0] rfl rfl (two_cells _ _ _ _) (by intro u' hu'; simp at hu'; subst hu'; rfl) (by omega) ?_)
    intro w4 hown4 hg4
    have hb4 : Below w1.heap.size w1 w4 := (hb3.alloc hb3.size _).grown hg4 (by have := hb3.size; simp; omega) (fun k hk => by have := Option.some.inj hk; have := hb2.size; omega)
    have HO4 := Lib.hid hown4
    clear hown4 hg4
    go_wp2_with (at_builtin; refine wpList_append_fits_any _ rfl _ _ 22 rfl w2.heap.size 5 i0 1 Try.underlying22 hi hz1 w2.heap.size ((enc16 rs).length + 2) ((enc16 rs).length + 2 + l.length) (Lib.byteCells (enc16 rs) ++ [.int .u8 0, .int .u8 0]) rfl HO4.out ao l.length l.length (Lib.byteCells l) rfl ?d0 ?d1 ?d2 ?d3 ?d4 ?_)
    case d0 => rw [Lib.byteCells_length, Nat.mul_one]
    case d1 => intro h; have := HAO.out h; subst this; exact ⟨rfl, rfl⟩
    case d2 =>
      intro ad h j u hj
      obtain ⟨h1, h2⟩ := HAD.out ad h
      rw [hb4.cell (p := ad.add j) (by rw [add_block]; exact h1)]
      exact h2 j u hj
    case d3 => intro u' hu'; simp only [Lib.byteCells, List.mem_map] at hu'; obtain ⟨b, _, rfl⟩ := hu'; rfl
    case d4 => omega
    intro w5 hown5 hg5
    have hb5 : Below w1.heap.size w1 w5 := hb4.grown hg5 hb4.size (fun k hk => by have := Option.some.inj hk; have := hb2.size; omega)
    have hz5 := (hown5.lt w2.heap.size rfl).2
    have HB5 := Lib.hid (hb1.trans (hb5.mono hb1.size))
    have HC5 := Lib.hid (inv_cells rs l hown5)
    clear hown5 hg5 hb5 hb4 hb3 hb2
    obtain ⟨L, hL⟩ : ∃ L, L = enc16 rs ++ 0 :: 0 :: l := ⟨_, rfl⟩
    rw [← hL] at HC5
    have HLL := Lib.hid hL
    clear hL
    have E1 := Lib.hid (show (enc16 rs).length + 2 + l.length = L.length by rw [HLL.out]; simp; omega)
    go_wp2_with fail
    rw [E1.out]
    refine (ucs2_some w2.heap.size _ L (by have := E1.out; omega) _ hz5 HC5.out).mono ?_
    rintro e w6 ⟨ha, hb6⟩
    have HB6 := Lib.hid (HB5.out.trans (hb6.mono HB5.out.size))
    clear hb6
    unfold Answer at ha
    rw [HLL.out, inv_scan rs l HR.out] at ha
    simp only at ha
    rw [inv_text s rs (fun r hr => (HR.out r hr).1) HT.out] at ha
    have e2 : ((2 * (rs.flatMap units16).length + 2 : Nat) : Int) = ((enc16 rs).length : Int) + 2 := by unfold enc16; rw [Plain.bytes16_length]; omega
    rw [e2] at ha
    subst ha
    clear e2
    go_wp2
    go_ret
    exact ⟨rfl, HB6.out⟩

/-- THE LAW's WALK AT A TAIL THAT IS nil. -/
theorem inv_nil (s : ByteArray) (w : World) : Calls Try.prog 5 #[.string s, .slice none 0 0] w fun e w' => e = .returned (.bool true) ∧ Below w.heap.size w w' := by
  by_cases h : (65536 : Int) < s.size
  · exact inv_far s none 0 0 (.inl h) w
  · exact inv_main s none 0 [] (by omega) (by simp) w (cloned_nil w)

/-- AND AT ONE THAT IS NOT. -/
theorem inv_any (s : ByteArray) (x : Addr) (cap : Nat) (l : List UInt8) (w : World) (hc : ∀ j, j < l.length → w.cell? (x.add j) = some (.int .u8 (byteAt l j))) :
    Calls Try.prog 5 #[.string s, .slice (some x) l.length cap] w fun e w' => e = .returned (.bool true) ∧ Below w.heap.size w w' := by
  by_cases h : (65536 : Int) < s.size ∨ (65536 : Int) < l.length
  · exact inv_far s _ _ _ h w
  · exact inv_main s _ _ l (by omega) (by omega) w (cloned_some x cap l (by omega) w hc)

#print axioms inv_any

end Go.Proofs.Qxb6002373a
