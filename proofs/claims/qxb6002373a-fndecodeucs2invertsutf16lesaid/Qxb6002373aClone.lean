/-
  SEAT b6002373a: THE WALK OF cloneBytes.
-/
import Derived.Test.Qxb6002373aProg
import Derived.Test.Qxb6002373aPlain
import Derived.WalkKit
import Derived.OwnWalk
import Derived.Below
import Derived.Lib.RuneBytes
import Derived.Lib.Hide
import Derived.Lib.SliceRun
namespace Go.Proofs.Qxb6002373a
open Go Go.RowKit
open Plain (byteAt)

theorem Try.infoByte : (Try.prog.info? 5).map (fun i => (i.zero, i.size, i.bytes)) = some (some (.int .u8 0), 1, 1) := by kernel_rfl

theorem eq_nil (a : Option Addr) (n c : Nat) (W : World) : (binOp .eql 22 (.slice a n c) (.slice none 0 0)).run Try.prog W = .ok (.bool a.isNone) W := Lib.run_eql_slice_nil W 22 5 a n c 0 0 Try.underlying22

set_option maxHeartbeats 400000 in
theorem clone_nil (w : World) : Calls Try.prog 9 #[.slice none 0 0] w fun e w' => e = .returned (.slice none 0 0) ∧ w' = w := by
  have hn := eq_nil none 0 0
  go_enter Try.func9, Try.ntmps9
  go_wp2
  go_ret
  exact ⟨rfl, rfl⟩

theorem add_block (x : Addr) (k : Nat) : (x.add k).block = x.block := by unfold Addr.add; split <;> rfl

/-- 'make([]byte, n)'. -/
theorem run_make_bytes (n : Nat) (hn : n ≤ 1048576) (w : World) : ∃ cs : Array Value, cs.size = n ∧ (Instr.makeSlice 22 (.int .i64 n) (.int .i64 n)).run Try.prog w = .ok (.slice (some ⟨w.heap.size, 0, none⟩) n n) (w.alloc (.cells cs 5)) := by
  obtain ⟨i0, hi, hz0, hz1, hz2⟩ := info_parts Try.infoByte
  have := run_make (P := Try.prog) w 22 5 i0 (.int .u8 0) Try.underlying22 hi hz0 .i64 .i64 n n (by omega) (Int.le_refl _) (by rw [hz2]; omega) (by omega)
  rw [hz1, Int.toNat_natCast, Nat.mul_one] at this
  exact ⟨_, size_madeCells _ _, this⟩

/-- The block that cloneBytes fills, k cells of it laid. -/
def Filled (w : World) (g : Nat) (l : List UInt8) (k : Nat) : Prop := ∃ cur : Array Value, w.heap[g]? = some (.cells cur 5 (0, 0)) ∧ cur.size = l.length ∧ ∀ j, j < k → cur[j]? = some (.int .u8 (byteAt l j))

theorem Filled.cell {w : World} {g : Nat} {l : List UInt8} {k : Nat} (h : Filled w g l k) (j : Nat) (hj : j < l.length) : (∃ u, w.cell? ⟨g, j, none⟩ = some u) ∧ w.frozen? ⟨g, j, none⟩ = false := by
  obtain ⟨cur, hg, hs, _⟩ := h
  refine ⟨⟨cur[j]'(by omega), ?_⟩, ?_⟩
  · rw [cell_of_row w g j cur 5 (0, 0) hg]; simp
  · simp [World.frozen?, hg]

theorem Filled.set {w : World} {g : Nat} {l : List UInt8} {k : Nat} (h : Filled w g l k) (hk : k < l.length) : Filled (w.setCell ⟨g, k, none⟩ (.int .u8 (byteAt l k))) g l (k + 1) := by
  obtain ⟨cur, hg, hs, hc⟩ := h
  refine ⟨cur.set! k (.int .u8 (byteAt l k)), ?_, by simpa using hs, fun j hj => ?_⟩
  · simp only [World.setCell, Array.getElem?_modify, if_true, hg]
    rfl
  · by_cases e : j = k
    · subst e; rw [Array.set!_eq_setIfInBounds, Array.getElem?_setIfInBounds_self_of_lt (by omega)]
    · have := hc j (by omega)
      simp [Ne.symm e, this]

theorem Filled.whole {w : World} {g : Nat} {l : List UInt8} (h : Filled w g l l.length) : w.heap[g]? = some (.cells (Lib.byteCells l).toArray 5 (0, 0)) := by
  obtain ⟨cur, hg, hs, hc⟩ := h
  rw [hg]
  congr 2
  apply Array.ext_getElem?
  intro j
  by_cases hj : j < l.length
  · rw [hc j hj]
    simp [Lib.byteCells, Plain.byteAt_get l j hj, hj]
  · rw [Array.getElem?_eq_none (by omega), Array.getElem?_eq_none (by simp [Lib.byteCells]; omega)]

set_option maxHeartbeats 400000 in
theorem clone_some (x : Addr) (cap : Nat) (l : List UInt8) (hl : l.length ≤ 65536) (w : World) (hc : ∀ j, j < l.length → w.cell? (x.add j) = some (.int .u8 (byteAt l j))) :
    Calls Try.prog 9 #[.slice (some x) l.length cap] w fun e w' => e = .returned (.slice (some ⟨w.heap.size, 0, none⟩) l.length l.length) ∧ Below w.heap.size w w' ∧ w'.heap.size = w.heap.size + 1 ∧ w'.heap[w.heap.size]? = some (.cells (Lib.byteCells l).toArray 5 (0, 0)) := by
  have HC := Lib.hid hc
  clear hc
  have hn := eq_nil (some x) l.length cap
  obtain ⟨cs, hcs, hmk⟩ := run_make_bytes l.length (by omega) w
  go_enter Try.func9, Try.ntmps9
  go_wp2
  clear hmk hn
  go_loopw [4] (fun i wr => ∃ k : Nat, k ≤ l.length ∧ i = .int .i64 k ∧ Below w.heap.size w wr ∧ wr.heap.size = w.heap.size + 1 ∧ Filled wr w.heap.size l k) (fun i _ => l.length - (intOf i).toNat)
  case atStart => exact ⟨0, Nat.zero_le _, rfl, (Below.refl _ _).alloc (Nat.le_refl _) _, by simp, ⟨cs, heap_alloc_new w _, hcs, fun j hj => by omega⟩⟩
  case round =>
    obtain ⟨k, hk, rfl, hb, hsz, hF⟩ := hrel
    by_cases hlt : k < l.length
    · have hx : x.block < w.heap.size := by have := World.block_lt_of_cell? w (x.add k) (HC.out k hlt); rwa [add_block] at this
      have h1 := (hb.cell (p := x.add k) (by rw [add_block]; exact hx)).trans (HC.out k hlt)
      obtain ⟨⟨u, h2⟩, h3⟩ := hF.cell k hlt
      have HF := Lib.hid hF
      clear hF hcs
      go_wp2
      exact ⟨⟨k + 1, by omega, by go_num, hb.setCell (Nat.le_refl _) _, by simpa [World.setCell] using hsz, HF.out.set hlt⟩, by simp [intOf]; omega⟩
    · obtain rfl : k = l.length := by omega
      have HF := Lib.hid hF
      clear hF
      go_wp2
      go_ret
      exact ⟨rfl, hb, hsz, HF.out.whole⟩

#print axioms clone_some
end Go.Proofs.Qxb6002373a
