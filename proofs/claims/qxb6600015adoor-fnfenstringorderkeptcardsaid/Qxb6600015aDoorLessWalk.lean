/-
  SEAT b6600015aD: THE WALK OF zzShortlexLessB1 AND OF THE LAW FnFenStringOrderKept.
-/
import Derived.Test.Qxb6600015aDoorWalk
import Derived.Deep.QuietTactic
import Derived.BigQuiet
namespace Go.Proofs.Qxb6600015aDoor
open Go Go.Shelf Go.RowKit Go.Sort Go.Lib
open Plain (fenText fenDigits less lexLt)

set_option maxHeartbeats 400000 in
theorem less_len (s t : ByteArray) (hne : s.size ≠ t.size) (w : World) :
    Calls Tryd.prog 8 #[.string s, .string t] w fun e w' => e = .returned (.bool (decide (s.size < t.size))) ∧ ∃ n, w' = w.drewN n := by
  have hb : ((s.size : Int) != (t.size : Int)) = true := by rw [bne_iff_ne]; omega
  go_enter Tryd.func8, Tryd.ntmps8
  go_wp2
  go_ret
  exact ⟨rfl, 0, rfl⟩

theorem drop_step (s t : ByteArray) (k : Nat) (hk : k < s.size) (hk' : k < t.size) : lexLt (s.data.toList.drop k) (t.data.toList.drop k) = if s[k] = t[k] then lexLt (s.data.toList.drop (k + 1)) (t.data.toList.drop (k + 1)) else decide (s[k].toNat < t[k].toNat) := by
  rw [List.drop_eq_getElem_cons (show k < s.data.toList.length by simpa using hk), List.drop_eq_getElem_cons (show k < t.data.toList.length by simpa using hk')]
  rfl

set_option maxHeartbeats 400000 in
theorem less_same (s t : ByteArray) (hs : s.size ≤ 1000) (hst : s.size = t.size) (w : World) (b : Bool) (hb : lexLt s.data.toList t.data.toList = b) :
    Calls Tryd.prog 8 #[.string s, .string t] w fun e w' => e = .returned (.bool b) ∧ ∃ n, w' = w.drewN n := by
  have HB := Lib.hid hb
  clear hb
  go_enter Tryd.func8, Tryd.ntmps8
  go_wp2
  go_loopw [5] (fun i wr => (∃ k : Nat, k ≤ s.size ∧ i = .int .i64 k ∧ lexLt (s.data.toList.drop k) (t.data.toList.drop k) = b) ∧ ∃ n, wr = w.drewN n) (fun i _ => s.size - (RowKit.intOf i).toNat)
  case atStart => exact ⟨⟨0, Nat.zero_le _, rfl, HB.out⟩, 0, rfl⟩
  case round =>
    obtain ⟨⟨k, hk, rfl, hlex⟩, n, rfl⟩ := hrel
    have HX := Lib.hid hlex
    clear hlex
    by_cases hlt : k < s.size
    · have hlt' : k < t.size := by omega
      have HD := Lib.hid (drop_step s t k hlt hlt')
      by_cases he : s[k] = t[k]
      · have hne : ((s[k].toNat : Int) != (t[k].toNat : Int)) = false := by rw [he]; simp
        go_wp2
        go_quiet (fail)
        go_wp2
        exact ⟨⟨⟨k + 1, by omega, by go_num, by rw [← HX.out, HD.out, if_pos he]⟩, _, rfl⟩, by simp [RowKit.intOf]; omega⟩
      · have hne : ((s[k].toNat : Int) != (t[k].toNat : Int)) = true := by
          rw [bne_iff_ne]; intro h; exact he (UInt8.toNat_inj.1 (by omega))
        go_wp2
        go_quiet (fail)
        go_wp2
        go_quiet (fail)
        go_wp2
        go_ret
        exact ⟨by rw [← HX.out, HD.out, if_neg he]; rfl, _, by rw [World.drewN_drewN, World.drewN_drewN]⟩
    · go_wp2
      go_ret
      exact ⟨by rw [← HX.out, List.drop_of_length_le (by simpa using hlt)]; rfl, n, rfl⟩

/-- zzShortlexLessB1 AT TWO SHORT STRINGS. -/
theorem less_any (a b : List UInt8) (hb : b.length ≤ 1000) (w : World) :
    Calls Tryd.prog 8 #[.string ⟨a.toArray⟩, .string ⟨b.toArray⟩] w fun e w' => e = .returned (.bool (less a b)) ∧ ∃ n, w' = w.drewN n := by
  have ea : (⟨a.toArray⟩ : ByteArray).size = a.length := by simp [ByteArray.size]
  have eb : (⟨b.toArray⟩ : ByteArray).size = b.length := by simp [ByteArray.size]
  unfold less
  by_cases h : a.length = b.length
  · rw [if_pos h]
    exact less_same _ _ (by omega) (by omega) w _ rfl
  · rw [if_neg h]
    have := less_len ⟨a.toArray⟩ ⟨b.toArray⟩ (by omega) w
    rwa [ea, eb] at this

theorem below_drewN (B : Nat) (w : World) (n : Nat) : RowKit.Below B w (w.drewN n) := ⟨rfl, rfl, rfl, Nat.le_refl _, fun _ _ => rfl⟩

set_option maxHeartbeats 400000 in
theorem order_out (f g : Int) (h : f < 0 ∨ (0 ≤ f ∧ g ≤ f)) (w : World) : Calls Tryd.prog 5 #[.int .i64 f, .int .i64 g] w fun e w' => e = .returned (.bool true) ∧ RowKit.Below w.heap.size w w' := by
  rcases h with h | ⟨h, h2⟩
  all_goals
    go_enter Tryd.func5, Tryd.ntmps5
    go_wp2
    go_ret
    exact ⟨rfl, Below.refl _ _⟩

set_option maxHeartbeats 400000 in
theorem order_in (a b : Nat) (hab : a < b) (hb : b ≤ 9223372036854775807) (w : World) (htab : Lib.TabIs Tryd.prog w powName .u64 Lib.pow10Tab) :
    Calls Tryd.prog 5 #[.int .i64 a, .int .i64 b] w fun e w' => e = .returned (.bool true) ∧ RowKit.Below w.heap.size w w' := by
  have hT := Lib.tabBelow_of_tabIs htab
  go_enter Tryd.func5, Tryd.ntmps5
  go_wp2_with fail
  refine (string_pos a (by omega) _ htab).mono ?_
  rintro e w1 ⟨rfl, hb1⟩
  go_wp2_with fail
  refine (string_pos b hb _ (hT w1 hb1)).mono ?_
  rintro e w2 ⟨rfl, hb2⟩
  have hbb : RowKit.Below w.heap.size w w2 := hb1.trans (hb2.mono hb1.size)

  have lb := Plain.decDigits_le17 (b / 100) (by omega)
  go_wp2_with fail
  refine (less_any (fenDigits a) (fenDigits b) (by rw [Plain.fenDigits_length]; omega) _).mono ?_
  rintro e w3 ⟨rfl, n, rfl⟩
  rw [Plain.less_fen a b hab]
  go_wp2
  go_ret
  exact ⟨rfl, hbb.trans (below_drewN _ _ _)⟩

theorem law5 (f g : Int) (f0 : -9223372036854775808 ≤ f) (f1 : f ≤ 9223372036854775807) (g0 : -9223372036854775808 ≤ g) (g1 : g ≤ 9223372036854775807) (w : World) (htab : Lib.TabIs Tryd.prog w powName .u64 Lib.pow10Tab) :
    Calls Tryd.prog 5 #[.int .i64 f, .int .i64 g] w fun e w' => e = .returned (.bool true) ∧ RowKit.Below w.heap.size w w' := by
  by_cases h : f < 0 ∨ (0 ≤ f ∧ g ≤ f)
  · exact order_out f g h w
  · have ef : f = ((f.natAbs : Nat) : Int) := by omega
    have eg : g = ((g.natAbs : Nat) : Int) := by omega
    have := order_in f.natAbs g.natAbs (by omega) (by omega) w htab
    rwa [← ef, ← eg] at this

#print axioms law5
end Go.Proofs.Qxb6600015aDoor
