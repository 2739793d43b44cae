/-
  SEAT b6600015aD: THE WALK OF THE LAW FnFenStringNegationSymmetric.
-/
import Derived.Test.Qxb6600015aDoorWalk
namespace Go.Proofs.Qxb6600015aDoor
open Go Go.Shelf Go.RowKit Go.Sort Go.Lib
open Plain (fenText fenDigits)

theorem cat_minus (l : List UInt8) : (⟨#[45]⟩ : ByteArray) ++ ⟨l.toArray⟩ = ⟨(45 :: l).toArray⟩ := by
  apply ByteArray.ext
  simp

set_option maxHeartbeats 800000 in
theorem neg_le (f : Int) (h : f ≤ 0) (w : World) : Calls Tryd.prog 4 #[.int .i64 f] w fun e w' => e = .returned (.bool true) ∧ RowKit.Below w.heap.size w w' := by
  go_enter Tryd.func4, Tryd.ntmps4
  go_wp2
  go_ret
  exact ⟨rfl, Below.refl _ _⟩

set_option maxHeartbeats 800000 in
theorem neg_gt (a : Nat) (h1 : 1 ≤ a) (ha : a ≤ 9223372036854775807) (w : World) (htab : Lib.TabIs Tryd.prog w powName .u64 Lib.pow10Tab) :
    Calls Tryd.prog 4 #[.int .i64 a] w fun e w' => e = .returned (.bool true) ∧ RowKit.Below w.heap.size w w' := by
  have hT := Lib.tabBelow_of_tabIs htab
  go_enter Tryd.func4, Tryd.ntmps4
  go_wp2_with fail
  refine (string_neg a h1 (by omega) _ htab).mono ?_
  rintro e w1 ⟨rfl, hb1⟩
  go_wp2_with fail
  refine (string_pos a ha _ (hT w1 hb1)).mono ?_
  rintro e w2 ⟨rfl, hb2⟩
  have hc := cat_minus (fenDigits a)
  have hb : RowKit.Below w.heap.size w w2 := hb1.trans (hb2.mono hb1.size)
  have hlen : (fenDigits a).length ≤ 20 := by rw [Plain.fenDigits_length]; have := Plain.decDigits_le17 (a / 100) (by omega); omega
  go_wp2
  go_ret
  exact ⟨rfl, hb⟩

theorem law4 (f : Int) (h0 : -9223372036854775808 ≤ f) (h1 : f ≤ 9223372036854775807) (w : World) (htab : Lib.TabIs Tryd.prog w powName .u64 Lib.pow10Tab) :
    Calls Tryd.prog 4 #[.int .i64 f] w fun e w' => e = .returned (.bool true) ∧ RowKit.Below w.heap.size w w' := by
  by_cases h : f ≤ 0
  · exact neg_le f h w
  · obtain ⟨a, rfl⟩ := Int.eq_ofNat_of_zero_le (show 0 ≤ f by omega)
    exact neg_gt a (by omega) (by omega) w htab

end Go.Proofs.Qxb6600015aDoor
