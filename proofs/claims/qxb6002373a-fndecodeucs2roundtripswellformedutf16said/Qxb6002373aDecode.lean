/-
  SEAT b6002373a: THE WALKS OF unicode utf16.Decode, errors.New AND efi.DecodeUCS2.
-/
import Derived.Test.Qxb6002373aUtf16
import Derived.Deep.QuietTactic
import Derived.BigQuiet
namespace Go.Proofs.Qxb6002373a
open Go Go.RowKit
open Plain (byteAt dec16 pairRune scan)

/-- The text of a list of runes. -/
def textOf (rs : List Nat) : ByteArray := runesBytes (rs.map fun (r : Nat) => (r : Int))

theorem conv_runes (w : World) (B : Nat) (v : Value) (rs : List Nat) (h : w.ownsRow B 21 1 v rs.length (runeCells rs)) : (convert 36 9 v).run Try.prog w = .ok (.string (textOf rs)) w := by
  rcases h.2 with ⟨rfl, h0⟩ | ⟨g, cap, cur, rfl, -, -, -, -, -, -⟩
  · have : rs = [] := List.eq_nil_of_length_eq_zero h0
    subst this
    exact run_convert_runes_nil w 36 9 21 0 0 Try.underlying36 Try.underlying21 Try.underlying9
  · have := run_convert_runes (P := Try.prog) w 36 9 21 ⟨g, 0, none⟩ rs.length cap (rs.map fun (r : Nat) => (r : Int)) (by simp) Try.underlying36 Try.underlying21 Try.underlying9 (fun j hj => by
      refine h.cells (g := g) rfl j _ ?_
      simp at hj
      simp [runeCells, hj])
    rw [this]
    rw [List.take_of_length_le (by simp)]
    rfl

theorem run_make_runes (w : World) : ∃ cs : Array Value, cs.size = 64 ∧ (Instr.makeSlice 36 (.int .i64 0) (.int .i64 64)).run Try.prog w = .ok (.slice (some ⟨w.heap.size, 0, none⟩) 0 64) (w.alloc (.cells cs 21)) := by
  obtain ⟨i0, hi, hz0, hz1, hz2⟩ := info_parts Try.info21
  have := run_make (P := Try.prog) w 36 21 i0 (.int .i32 0) Try.underlying36 hi hz0 .i64 .i64 0 64 (by omega) (by omega) (by rw [hz2]; omega) (by omega)
  rw [hz1, Nat.mul_one] at this
  exact ⟨_, size_madeCells _ _, this⟩

set_option maxHeartbeats 400000 in
/-- unicode utf16.Decode. -/
theorem Decode_any (B : Nat) (us : List Nat) (v : Value) (w : World) (hown : w.ownsRow B 34 1 v us.length (unitCells us)) (hus : (us.length : Int) ≤ 1000000) (hu16 : ∀ k, uz us k < 65536) :
    Calls Try.prog 19 #[v] w fun e w' => ∃ v', e = .returned v' ∧ w'.ownsRow w.heap.size 21 1 v' (dec16 us).length (runeCells (dec16 us)) ∧ Below w.heap.size w w' := by
  obtain ⟨cs, hcs, hmk⟩ := run_make_runes w
  have hmade : (w.alloc (.cells cs 21)).ownsRow w.heap.size 21 1 (.slice (some ⟨w.heap.size, 0, none⟩) 0 64) 0 [] := World.ownsRow_made w cs 64 (Nat.le_refl _) (by unfold maxLen; omega) (by rw [hcs])
  have hbel : Below w.heap.size w (w.alloc (.cells cs 21)) := (Below.refl _ _).alloc (Nat.le_refl _) _
  rcases hown.2 with ⟨rfl, h0⟩ | ⟨g, cap, cur, rfl, hBg, hg, -, -, -, -⟩
  · have : us = [] := List.eq_nil_of_length_eq_zero h0
    subst this
    have HM := Lib.hid hmade
    clear hmade
    go_enter Try.func19, Try.ntmps19
    go_wp2_with fail
    refine (decode_nil _ _).mono ?_
    rintro e w1 ⟨rfl, rfl⟩
    go_wp2
    go_ret
    exact ⟨_, rfl, HM.out, hbel⟩
  · have hglt : g < w.heap.size := (Array.getElem?_eq_some_iff.1 hg).1
    have hcell : ∀ j, j < us.length → (w.alloc (.cells cs 21)).cell? ⟨g, j, none⟩ = some (.int .u16 (uz us j)) := by
      intro j hj
      rw [hbel.cell (p := ⟨g, j, none⟩) hglt]
      have := hown.cells (g := g) rfl j (.int .u16 (uz us j)) (by simp [unitCells, uz, unitAt, hj])
      rwa [Addr.add_lit, Nat.zero_add] at this
    have HM := Lib.hid hmade
    have HC := Lib.hid hcell
    have HU := Lib.hid hu16
    have HO := Lib.hid hown
    clear hmade hcell hu16 hown hg
    go_enter Try.func19, Try.ntmps19
    go_wp2_with fail
    refine (decode_some w.heap.size g cap us hus HU.out _ _ hglt (by simp) HM.out HC.out).mono ?_
    rintro e w1 ⟨v', rfl, h1, h2⟩
    go_wp2
    go_ret
    exact ⟨_, rfl, h1, hbel.trans h2⟩

set_option maxHeartbeats 400000 in
theorem errorsNew_any (s : ByteArray) (w : World) : Calls Try.prog 20 #[.string s] w fun e w' => ∃ p, e = .returned (.iface 42 p) ∧ Below w.heap.size w w' := by
  go_enter Try.func20, Try.ntmps20
  go_wp2
  go_ret
  exact ⟨_, rfl, (Below.refl _ _).alloc (Nat.le_refl _) _⟩

#print axioms Decode_any
end Go.Proofs.Qxb6002373a
