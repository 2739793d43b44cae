/-
  SEAT b6600015aD: THE WALK OF zzParseYuanB1 AT A TEXT OF THE RIGHT FORM.
-/
import Derived.Test.Qxb6600015aDoorWalk
namespace Go.Proofs.Qxb6600015aDoor
open Go Go.Shelf Go.RowKit Go.Sort Go.Lib
open Plain (fenText fenDigits val)

set_option maxHeartbeats 1000000 in
theorem parse_pos (s : ByteArray) (n : Nat) (hn : s.size = n + 3) (h1 : 1 ≤ n) (h17 : n ≤ 17)
    (hA : (((s[0]'(by omega)).toNat : Int) == 45) = false) (hP : (((s[n]'(by omega)).toNat : Int) != 46) = false)
    (hZ : 1 < n → (((s[0]'(by omega)).toNat : Int) == 48) = false)
    (hD : ∀ k (h : k < n), 48 ≤ ((s[k]'(by omega)).toNat : Int) ∧ ((s[k]'(by omega)).toNat : Int) ≤ 57)
    (hB : ∀ k, k ≤ n → val (s.data.toList.take k) < 100000000000000000)
    (hS : ∀ k (h : k < n), (val (s.data.toList.take (k + 1)) : Int) = (val (s.data.toList.take k) : Int) * 10 + (((s[k]'(by omega)).toNat : Int) - 48))
    (hE : 48 ≤ ((s[n + 1]'(by omega)).toNat : Int) ∧ ((s[n + 1]'(by omega)).toNat : Int) ≤ 57)
    (hF : 48 ≤ ((s[n + 2]'(by omega)).toNat : Int) ∧ ((s[n + 2]'(by omega)).toNat : Int) ≤ 57)
    (r : Nat) (hR : (r : Int) = (val (s.data.toList.take n) : Int) * 100 + (((s[n + 1]'(by omega)).toNat : Int) - 48) * 10 + (((s[n + 2]'(by omega)).toNat : Int) - 48)) (w : World) :
    Calls Tryd.prog 7 #[.string s] w fun e w' => e = .returned (.tuple #[.bool false, .int .u64 r, .bool true]) ∧ w' = w := by
  have HR := Lib.hid hR
  have HD := Lib.hid hD
  have HB := Lib.hid hB
  have HS := Lib.hid hS
  obtain ⟨e1, e2⟩ := hE
  obtain ⟨f1, f2⟩ := hF
  clear hR hD hB hS
  have hz : n ≤ 1 ∨ (1 < n ∧ (((s[0]'(by omega)).toNat : Int) == 48) = false) := by
    by_cases h : n ≤ 1
    · exact .inl h
    · exact .inr ⟨by omega, hZ (by omega)⟩
  clear hZ
  rcases hz with hn1 | ⟨hn1, hz⟩
  all_goals
    go_enter Tryd.func7, Tryd.ntmps7
    go_wp2_with fail
    go_loop [10, 11] (fun v j => ∃ k : Nat, k ≤ n ∧ j = .int .i64 k ∧ v = .int .u64 (val (s.data.toList.take k))) (fun _ j => n - (RowKit.intOf j).toNat)
    case atStart => exact ⟨0, Nat.zero_le _, rfl, rfl⟩
    case round =>
      obtain ⟨k, hk, rfl, rfl⟩ := hrel
      have hb := HB.out k hk
      by_cases hlt : k < n
      · obtain ⟨d1, d2⟩ := HD.out k hlt
        go_wp2
        go_round
        case rel => exact ⟨k + 1, by omega, by go_num, by rw [HS.out k hlt]⟩
        case measure => simp [RowKit.intOf]; omega
      · obtain rfl : k = n := by omega
        go_wp2
        go_ret3
        exact ⟨by rw [HR.out]; rfl, rfl⟩

set_option maxHeartbeats 1000000 in
theorem parse_neg (s : ByteArray) (n : Nat) (hn : s.size = n + 4) (h1 : 1 ≤ n) (h17 : n ≤ 17)
    (hA : (((s[0]'(by omega)).toNat : Int) == 45) = true) (hP : (((s[n + 1]'(by omega)).toNat : Int) != 46) = false)
    (hZ : 1 < n → (((s[1]'(by omega)).toNat : Int) == 48) = false)
    (hD : ∀ k (h : k < n), 48 ≤ ((s[k + 1]'(by omega)).toNat : Int) ∧ ((s[k + 1]'(by omega)).toNat : Int) ≤ 57)
    (hB : ∀ k, k ≤ n → val (s.data.toList.tail.take k) < 100000000000000000)
    (hS : ∀ k (h : k < n), (val (s.data.toList.tail.take (k + 1)) : Int) = (val (s.data.toList.tail.take k) : Int) * 10 + (((s[k + 1]'(by omega)).toNat : Int) - 48))
    (hE : 48 ≤ ((s[n + 2]'(by omega)).toNat : Int) ∧ ((s[n + 2]'(by omega)).toNat : Int) ≤ 57)
    (hF : 48 ≤ ((s[n + 3]'(by omega)).toNat : Int) ∧ ((s[n + 3]'(by omega)).toNat : Int) ≤ 57)
    (r : Nat) (hR : (r : Int) = (val (s.data.toList.tail.take n) : Int) * 100 + (((s[n + 2]'(by omega)).toNat : Int) - 48) * 10 + (((s[n + 3]'(by omega)).toNat : Int) - 48)) (w : World) :
    Calls Tryd.prog 7 #[.string s] w fun e w' => e = .returned (.tuple #[.bool true, .int .u64 r, .bool true]) ∧ w' = w := by
  have HR := Lib.hid hR
  have HD := Lib.hid hD
  have HB := Lib.hid hB
  have HS := Lib.hid hS
  obtain ⟨e1, e2⟩ := hE
  obtain ⟨f1, f2⟩ := hF
  clear hR hD hB hS
  have hz : n ≤ 1 ∨ (1 < n ∧ (((s[1]'(by omega)).toNat : Int) == 48) = false) := by
    by_cases h : n ≤ 1
    · exact .inl h
    · exact .inr ⟨by omega, hZ (by omega)⟩
  clear hZ
  rcases hz with hn1 | ⟨hn1, hz⟩
  all_goals
    go_enter Tryd.func7, Tryd.ntmps7
    go_wp2_with fail
    go_loop [10, 11] (fun v j => ∃ k : Nat, k ≤ n ∧ j = .int .i64 ((k : Int) + 1) ∧ v = .int .u64 (val (s.data.toList.tail.take k))) (fun _ j => n + 1 - (RowKit.intOf j).toNat)
    case atStart => exact ⟨0, Nat.zero_le _, by simp, by simp [val]⟩
    case round =>
      obtain ⟨k, hk, rfl, rfl⟩ := hrel
      have hb := HB.out k hk
      by_cases hlt : k < n
      · obtain ⟨d1, d2⟩ := HD.out k hlt
        go_wp2
        go_round
        case rel => exact ⟨k + 1, by omega, by go_num, by rw [HS.out k hlt]⟩
        case measure => simp [RowKit.intOf]; omega
      · obtain rfl : k = n := by omega
        go_wp2
        go_ret3
        exact ⟨by rw [HR.out]; rfl, rfl⟩

end Go.Proofs.Qxb6600015aDoor
