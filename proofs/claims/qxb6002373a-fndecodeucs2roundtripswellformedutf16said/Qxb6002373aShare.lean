/-
  SEAT b6002373a: WHAT THE LAWS' WALKS SHARE: bytes in a block; from the row's own words on a slice of bytes.
-/
import Derived.Test.Qxb6002373aUcs2
namespace Go.Proofs.Qxb6002373a
open Go Go.RowKit
open Plain (byteAt dec16 pairRune scan)

theorem cell_bytes {w : World} {g : Nat} {l : List UInt8} (h : w.heap[g]? = some (.cells (Lib.byteCells l).toArray 5 (0, 0))) (j : Nat) (hj : j < l.length) : w.cell? ⟨g, j, none⟩ = some (.int .u8 (byteAt l j)) := by
  rw [cell_of_row w g j _ 5 (0, 0) h]
  simp [Lib.byteCells, Plain.byteAt_get l j hj, hj]

/-! ### from the row's own words on a slice of bytes -/
/-- The first n of the numbers, as bytes. -/
def bytesOf (zs : List Int) (n : Nat) : List UInt8 := (zs.take n).map fun z => UInt8.ofNat z.toNat
theorem bytesOf_length (zs : List Int) (n : Nat) (h : n ≤ zs.length) : (bytesOf zs n).length = n := by simp [bytesOf]; omega
theorem byteAt_bytesOf (zs : List Int) (n j : Nat) (h : n ≤ zs.length) (hj : j < n) (hw : ∀ z ∈ zs, (Lit.int .u8 z).wf = true) : (byteAt (bytesOf zs n) j : Int) = zs.getD j 0 := by
  have hb := hw (zs[j]'(by omega)) (List.getElem_mem _)
  have hb' : 0 ≤ zs[j]'(by omega) ∧ zs[j]'(by omega) ≤ 255 := by simpa [Lit.wf, IntKind.min, IntKind.max, IntKind.signed, IntKind.bits] using hb
  rw [Plain.byteAt_get _ _ (by rw [bytesOf_length zs n h]; exact hj)]
  simp only [bytesOf, List.getElem_map, List.getElem_take, List.getD, List.getElem?_eq_getElem (show j < zs.length by omega), Option.getD_some]
  rw [UInt8.toNat_ofNat']
  omega

/-- WHAT THE ROW SAYS OF A SLICE OF INTEGERS THAT CAME IN: it is nil; or it leads to a row of cap cells, the numbers zs, each fitting its kind. -/
def IsRow (k : IntKind) (w : World) (a : Option Addr) (len cap : Nat) (zs : List Int) : Prop :=
  (a = none ∧ len = 0 ∧ cap = 0 ∧ zs = []) ∨
  ∃ x, a = some x ∧ len ≤ cap ∧ cap ≤ maxLen ∧ zs.length = cap ∧ (∀ i, i < zs.length → w.cell? (x.add i) = some (.int k (zs.getD i 0))) ∧ ∀ n ∈ zs, (Lit.int k n).wf = true

/-- So it is nil, or it holds the bytes l. -/
theorem IsRow.bytes {w : World} {a : Option Addr} {len cap : Nat} {zs : List Int} (h : IsRow .u8 w a len cap zs) :
    (a = none ∧ len = 0 ∧ cap = 0) ∨ ∃ x l, a = some x ∧ len = List.length l ∧ ∀ j, j < l.length → w.cell? (x.add j) = some (.int .u8 (byteAt l j)) := by
  rcases h with ⟨h1, h2, h3, _⟩ | ⟨x, h1, hl, _, hz, hc, hw⟩
  · exact .inl ⟨h1, h2, h3⟩
  · have hlen := bytesOf_length zs len (by omega)
    refine .inr ⟨x, bytesOf zs len, h1, hlen.symm, fun j hj => ?_⟩
    rw [hlen] at hj
    rw [byteAt_bytesOf zs len j (by omega) hj hw]
    exact hc j (by omega)

end Go.Proofs.Qxb6002373a
