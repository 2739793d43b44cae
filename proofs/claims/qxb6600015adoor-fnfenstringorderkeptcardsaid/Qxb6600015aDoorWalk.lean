/-
  SEAT b6600015aD: THE WALK OF (money.Fen).String.
-/
import Derived.Test.Qxb6600015aDoorText
import Derived.Test.Qxb6600015aDoorPlain
import Derived.Test.Qxb6600015aDoorLays
import Derived.Laws.IdiomStrings
namespace Go.Proofs.Qxb6600015aDoor
open Go Go.Shelf Go.RowKit Go.Sort Go.Lib
open Plain (fenText fenDigits)

theorem Tryd.infoByte : (Tryd.prog.info? 5).map (fun i => (i.zero, i.size, i.bytes)) = some (some (.int .u8 0), 1, 1) := by kernel_rfl

/-- internal/strconv.AppendUint at this dump. -/
theorem appendUint10 (g n u : Nat) (hu64 : u < 18446744073709551616) (xs : List Value) (w : World) (hown : Txt w g 30 21 n xs) (hroom : n + (Lib.decDigits u).length ≤ 21)
    (htab : Lib.TabIs Tryd.prog w powName .u64 Lib.pow10Tab) :
    Calls Tryd.prog 10 #[.slice (some ⟨g, 0, none⟩) n 21, .int .u64 u, .int .i64 10] w fun e w' => e = .returned (.slice (some ⟨g, 0, none⟩) (n + (Lib.decDigits u).length) 21) ∧ Txt w' g 30 21 (n + (Lib.decDigits u).length) (xs ++ Lib.byteCells (Lib.decDigits u)) ∧ RowKit.Below g w w' :=
  appendUint_any Tryd.lays288 30 g n u hu64 xs w hown hroom htab

set_option maxHeartbeats 800000 in
/-- strconv.AppendUint hands on. -/
theorem appendUint9 (g n u : Nat) (hu64 : u < 18446744073709551616) (xs : List Value) (w : World) (hown : Txt w g 30 21 n xs) (hroom : n + (Lib.decDigits u).length ≤ 21)
    (htab : Lib.TabIs Tryd.prog w powName .u64 Lib.pow10Tab) :
    Calls Tryd.prog 9 #[.slice (some ⟨g, 0, none⟩) n 21, .int .u64 u, .int .i64 10] w fun e w' => e = .returned (.slice (some ⟨g, 0, none⟩) (n + (Lib.decDigits u).length) 21) ∧ Txt w' g 30 21 (n + (Lib.decDigits u).length) (xs ++ Lib.byteCells (Lib.decDigits u)) ∧ RowKit.Below g w w' := by
  go_enter Tryd.func9, Tryd.ntmps9
  go_wp2_with (go_at_call 10; refine (appendUint10 g n u hu64 xs _ hown hroom htab).mono ?_; rintro e w' ⟨rfl, h1, h2⟩)
  go_ret
  exact ⟨rfl, h1, h2⟩

/-- The three last bytes as cells. -/
theorem tail_cells (a : Nat) : Lib.byteCells (decDigits (a / 100)) ++ [Value.int .u8 46, Value.int .u8 (48 + (a : Int) / 10 % 10), Value.int .u8 (48 + (a : Int) % 10)] = Lib.byteCells (fenDigits a) := by
  have h1 : ((UInt8.ofNat (48 + a / 10 % 10)).toNat : Int) = 48 + (a : Int) / 10 % 10 := by rw [Plain.dig_of _ (by omega)]; omega
  have h2 : ((UInt8.ofNat (48 + a % 10)).toNat : Int) = 48 + (a : Int) % 10 := by rw [Plain.dig_of _ (by omega)]; omega
  unfold fenDigits Lib.byteCells
  rw [List.map_append, List.map_cons, List.map_cons, List.map_cons, List.map_nil, h1, h2]
  rfl

theorem three_cells (w : World) (x y z : Value) (T : TypeId) : ∀ j u, [x, y, z][j]? = some u → (w.alloc (.cells #[x, y, z] T)).cell? ((⟨w.heap.size, 0, none⟩ : Addr).add j) = some u := by
  intro j u hj
  match j, hj with
  | 0, hj => simp at hj; subst hj; simp [Addr.add]
  | 1, hj => simp at hj; subst hj; simp [Addr.add]
  | 2, hj => simp at hj; subst hj; simp [Addr.add]

theorem one_cell (w : World) (x : Value) (T : TypeId) : ∀ j u, [x][j]? = some u → (w.alloc (.cells #[x] T)).cell? ((⟨w.heap.size, 0, none⟩ : Addr).add j) = some u := by
  intro j u hj
  match j, hj with
  | 0, hj => simp at hj; subst hj; simp [Addr.add]

set_option maxHeartbeats 800000 in
theorem string_pos (a : Nat) (ha : a ≤ 9223372036854775807) (w : World) (htab : Lib.TabIs Tryd.prog w powName .u64 Lib.pow10Tab) :
    Calls Tryd.prog 6 #[.int .i64 a] w fun e w' => e = .returned (.string ⟨(fenDigits a).toArray⟩) ∧ RowKit.Below w.heap.size w w' := by
  obtain ⟨i0, hi, hz0, hz1, hz2⟩ := info_parts Tryd.infoByte
  have hl := Plain.decDigits_le17 (a / 100) (by omega)
  go_enter Tryd.func6, Tryd.ntmps6
  go_wp2_with fail
  rw [show ((a : Int) / 100) = ((a / 100 : Nat) : Int) from by omega]
  refine (appendUint9 w.heap.size 0 (a / 100) (by omega) [] _ (Txt.new w 30 _) (by omega) (Lib.tabIs_alloc htab _)).mono ?_
  rintro e w1 ⟨rfl, hown1, hnx1⟩
  rw [Nat.zero_add, List.nil_append] at hown1
  have hnx : RowKit.Below w.heap.size w w1 := ((Below.refl _ _).alloc (Nat.le_refl _) _).trans hnx1
  clear hnx1
  go_wp2_with (at_builtin; refine wpList_append_txt _ rfl _ _ 31 rfl 5 30 i0 Tryd.underlying31 hi hz1 w.heap.size _ 21 _ rfl (hown1.alloc _) ⟨w1.heap.size, 0, none⟩ 3 3 [Value.int .u8 46, Value.int .u8 (48 + (a : Int) / 10 % 10), Value.int .u8 (48 + (a : Int) % 10)] rfl rfl (three_cells _ _ _ _ _) (by intro u' hu'; simp at hu'; rcases hu' with rfl | rfl | rfl <;> rfl) (by omega) ?_)
  intro w2 hown2 hgrow
  rw [tail_cells, ← Plain.fenDigits_length] at hown2
  rw [← Plain.fenDigits_length]
  have hnx2 : RowKit.Below w.heap.size w w2 := (hnx.alloc hnx.size _).grown hgrow (by have := hnx.size; simp; omega) (fun k hk => by have := Option.some.inj hk; omega)
  have hcv := run_convert_bytes_back (P := Tryd.prog) w2 31 9 5 ⟨w.heap.size, 0, none⟩ 21 (fenDigits a) Tryd.underlying31 Tryd.underlying5 Tryd.underlying9 (fun j hj => hown2.cells j _ (by simp [Lib.byteCells, hj]))
  go_wp2
  go_ret
  exact ⟨rfl, hnx2⟩

theorem neg_wrap (a : Nat) (ha : a ≤ 9223372036854775808) : IntKind.u64.wrap (-IntKind.u64.wrap (-(a : Int))) = (a : Int) := by
  have e : (2 : Int) ^ 64 = 18446744073709551616 := by decide
  simp only [IntKind.wrap, IntKind.signed, IntKind.bits, Bool.false_and, Bool.false_eq_true, if_false, e]
  omega

theorem head_cells (a : Nat) : Value.int .u8 45 :: (Lib.byteCells (decDigits (a / 100)) ++ [Value.int .u8 46, Value.int .u8 (48 + (a : Int) / 10 % 10), Value.int .u8 (48 + (a : Int) % 10)]) = Lib.byteCells (45 :: fenDigits a) := by
  rw [tail_cells]
  rfl

set_option maxHeartbeats 800000 in
theorem string_neg (a : Nat) (h1 : 1 ≤ a) (ha : a ≤ 9223372036854775808) (w : World) (htab : Lib.TabIs Tryd.prog w powName .u64 Lib.pow10Tab) :
    Calls Tryd.prog 6 #[.int .i64 (-(a : Int))] w fun e w' => e = .returned (.string ⟨(45 :: fenDigits a).toArray⟩) ∧ RowKit.Below w.heap.size w w' := by
  obtain ⟨i0, hi, hz0, hz1, hz2⟩ := info_parts Tryd.infoByte
  have hl := Plain.decDigits_le17 (a / 100) (by omega)
  have hw := neg_wrap a ha
  go_enter Tryd.func6, Tryd.ntmps6
  go_wp2_with fail
  rw [show ((a : Int) / 100) = ((a / 100 : Nat) : Int) from by omega]
  refine (appendUint9 w.heap.size 1 (a / 100) (by omega) [.int .u8 45] _ ((Txt.made w 30 _ 21 1 [.int .u8 45] rfl rfl (by omega) rfl).alloc _) (by omega) (Lib.tabIs_alloc (Lib.tabIs_alloc htab _) _)).mono ?_
  rintro e w1 ⟨rfl, hown1, hnx1⟩
  have hnx : RowKit.Below w.heap.size w w1 := (((Below.refl _ _).alloc (Nat.le_refl _) _).alloc (by simp) _).trans hnx1
  clear hnx1
  go_wp2_with (at_builtin; refine wpList_append_txt _ rfl _ _ 31 rfl 5 30 i0 Tryd.underlying31 hi hz1 w.heap.size _ 21 _ rfl (hown1.alloc _) ⟨w1.heap.size, 0, none⟩ 3 3 [Value.int .u8 46, Value.int .u8 (48 + (a : Int) / 10 % 10), Value.int .u8 (48 + (a : Int) % 10)] rfl rfl (three_cells _ _ _ _ _) (by intro u' hu'; simp at hu'; rcases hu' with rfl | rfl | rfl <;> rfl) (by omega) ?_)
  intro w2 hown2 hgrow
  have el : 1 + (decDigits (a / 100)).length + 3 = (45 :: fenDigits a).length := by rw [List.length_cons, Plain.fenDigits_length]; omega
  rw [head_cells, el] at hown2
  rw [el]
  clear el
  obtain ⟨l, hl5⟩ : ∃ l, l = 45 :: fenDigits a := ⟨_, rfl⟩
  rw [← hl5] at hown2 ⊢
  have HL := Lib.hid hl5
  clear hl5
  have hnx2 : RowKit.Below w.heap.size w w2 := (hnx.alloc hnx.size _).grown hgrow (by have := hnx.size; simp; omega) (fun k hk => by have := Option.some.inj hk; omega)
  have hcv := run_convert_bytes_back (P := Tryd.prog) w2 31 9 5 ⟨w.heap.size, 0, none⟩ 21 l Tryd.underlying31 Tryd.underlying5 Tryd.underlying9 (fun j hj => hown2.cells j _ (by simp [Lib.byteCells, hj]))
  go_wp2
  go_ret
  have hl5 := HL.out
  subst hl5
  exact ⟨rfl, hnx2⟩

/-- (money.Fen).String AT EVERY int64. -/
theorem string_any (f : Int) (h0 : -9223372036854775808 ≤ f) (h1 : f ≤ 9223372036854775807) (w : World) (htab : Lib.TabIs Tryd.prog w powName .u64 Lib.pow10Tab) :
    Calls Tryd.prog 6 #[.int .i64 f] w fun e w' => e = .returned (.string ⟨(fenText f).toArray⟩) ∧ RowKit.Below w.heap.size w w' := by
  unfold fenText
  by_cases h : f < 0
  · rw [if_pos h]
    have e : f = -((f.natAbs : Nat) : Int) := by omega
    have := string_neg f.natAbs (by omega) (by omega) w htab
    rwa [← e] at this
  · rw [if_neg h]
    have e : f = ((f.natAbs : Nat) : Int) := by omega
    have := string_pos f.natAbs (by omega) w htab
    rwa [← e] at this

#print axioms string_any
end Go.Proofs.Qxb6600015aDoor
