/-
  SEAT b6600015aD: zzParseYuanB1 AT THE TEXTS THAT String WRITES; THE WALK OF THE LAW FnFenStringParsesBack.
-/
import Derived.Test.Qxb6600015aDoorParseWalk
namespace Go.Proofs.Qxb6600015aDoor
open Go Go.Shelf Go.RowKit Go.Sort Go.Lib
open Plain (fenText fenDigits val isDig)

theorem ba_get (l : List UInt8) (k : Nat) (h : k < l.length) : (⟨l.toArray⟩ : ByteArray)[k]'(by simpa [ByteArray.size] using h) = l[k] := rfl
theorem ba_size (l : List UInt8) : (⟨l.toArray⟩ : ByteArray).size = l.length := by simp [ByteArray.size]

section
variable (a : Nat)

theorem fd_lt (k : Nat) (h : k < (decDigits (a / 100)).length) (h' : k < (fenDigits a).length) : (fenDigits a)[k] = (decDigits (a / 100))[k] :=
  List.getElem_append_left (bs := [46, UInt8.ofNat (48 + a / 10 % 10), UInt8.ofNat (48 + a % 10)]) h
theorem fd_0 (h' : (decDigits (a / 100)).length < (fenDigits a).length) : (fenDigits a)[(decDigits (a / 100)).length] = 46 :=
  (List.getElem_append_right (bs := [46, UInt8.ofNat (48 + a / 10 % 10), UInt8.ofNat (48 + a % 10)]) (Nat.le_refl _) (h₂ := h')).trans (by simp)
theorem fd_1 (h' : (decDigits (a / 100)).length + 1 < (fenDigits a).length) : (fenDigits a)[(decDigits (a / 100)).length + 1] = UInt8.ofNat (48 + a / 10 % 10) :=
  (List.getElem_append_right (bs := [46, UInt8.ofNat (48 + a / 10 % 10), UInt8.ofNat (48 + a % 10)]) (by omega) (h₂ := h')).trans (by simp)
theorem fd_2 (h' : (decDigits (a / 100)).length + 2 < (fenDigits a).length) : (fenDigits a)[(decDigits (a / 100)).length + 2] = UInt8.ofNat (48 + a % 10) :=
  (List.getElem_append_right (bs := [46, UInt8.ofNat (48 + a / 10 % 10), UInt8.ofNat (48 + a % 10)]) (by omega) (h₂ := h')).trans (by simp)
theorem fd_take (k : Nat) (h : k ≤ (decDigits (a / 100)).length) : (fenDigits a).take k = (decDigits (a / 100)).take k := by
  unfold fenDigits; rw [List.take_append_of_le_length h]
theorem fd_dig (k : Nat) (h : k < (decDigits (a / 100)).length) (h' : k < (fenDigits a).length) : 48 ≤ (((fenDigits a)[k]).toNat : Int) ∧ (((fenDigits a)[k]).toNat : Int) ≤ 57 := by
  rw [fd_lt a k h h']
  have := Plain.decDigits_dig (a / 100) _ (List.getElem_mem h)
  unfold isDig at this
  omega
theorem fd_bound (ha : a ≤ 9223372036854775808) (k : Nat) (h : k ≤ (decDigits (a / 100)).length) : val ((fenDigits a).take k) < 100000000000000000 := by
  rw [fd_take a k h]
  have h1 := Plain.val_lt ((decDigits (a / 100)).take k) (fun c hc => Plain.decDigits_dig _ c (List.mem_of_mem_take hc))
  have h2 := Plain.decDigits_le17 (a / 100) (by omega)
  have h3 : ((decDigits (a / 100)).take k).length ≤ 17 := by rw [List.length_take]; omega
  have h4 : (10 : Nat) ^ ((decDigits (a / 100)).take k).length ≤ 10 ^ 17 := Nat.pow_le_pow_right (by omega) h3
  have h5 : (10 : Nat) ^ 17 = 100000000000000000 := by decide +kernel
  omega
theorem fd_step (k : Nat) (h : k < (decDigits (a / 100)).length) (h' : k < (fenDigits a).length) : (val ((fenDigits a).take (k + 1)) : Int) = (val ((fenDigits a).take k) : Int) * 10 + ((((fenDigits a)[k]).toNat : Int) - 48) := by
  have hd := fd_dig a k h h'
  rw [List.take_succ_eq_append_getElem h', Plain.val_snoc]
  omega
theorem fd_val : val ((fenDigits a).take (decDigits (a / 100)).length) = a / 100 := by
  rw [fd_take a _ (Nat.le_refl _), List.take_length, Plain.val_decDigits]
theorem fd_head (h : 1 < (decDigits (a / 100)).length) (h' : 0 < (fenDigits a).length) : ((((fenDigits a)[0]).toNat : Int) == 48) = false := by
  obtain ⟨c, l, e, hc⟩ := Plain.decDigits_head (a / 100) h
  rw [fd_lt a 0 (by omega) h']
  have e0 : (decDigits (a / 100))[0]'(by omega) = c := by simp [e]
  rw [e0]
  refine beq_eq_false_iff_ne.2 fun x => hc (UInt8.toNat_inj.1 ?_)
  simp
  omega
theorem fd_sum : (a : Int) = (val ((fenDigits a).take (decDigits (a / 100)).length) : Int) * 100 + (((UInt8.ofNat (48 + a / 10 % 10)).toNat : Int) - 48) * 10 + (((UInt8.ofNat (48 + a % 10)).toNat : Int) - 48) := by
  rw [fd_val, Plain.dig_of _ (by omega), Plain.dig_of _ (by omega)]
  omega
end

theorem parse_at_pos (a : Nat) (ha : a ≤ 9223372036854775808) (w : World) :
    Calls Tryd.prog 7 #[.string ⟨(fenDigits a).toArray⟩] w fun e w' => e = .returned (.tuple #[.bool false, .int .u64 a, .bool true]) ∧ w' = w := by
  have hl := Plain.fenDigits_length a
  have h1 := Plain.decDigits_pos (a / 100)
  have h17 := Plain.decDigits_le17 (a / 100) (by omega)
  have d0 := fd_dig a 0 (by omega) (by omega)
  refine parse_pos ⟨(fenDigits a).toArray⟩ (decDigits (a / 100)).length (by rw [ba_size, hl]) h1 h17 ?_ ?_ ?_ ?_ ?_ ?_ ?_ ?_ a ?_ w
  · rw [ba_get _ _ (by omega)]
    exact beq_eq_false_iff_ne.2 (by omega)
  · rw [ba_get _ _ (by omega), fd_0]
    rfl
  · intro h
    rw [ba_get _ _ (by omega)]
    exact fd_head a h (by omega)
  · intro k hk
    rw [ba_get _ _ (by omega)]
    exact fd_dig a k hk (by omega)
  · intro k hk
    exact fd_bound a ha k hk
  · intro k hk
    rw [ba_get _ _ (by omega)]
    exact fd_step a k hk (by omega)
  · rw [ba_get _ _ (by omega), fd_1, Plain.dig_of _ (by omega)]
    omega
  · rw [ba_get _ _ (by omega), fd_2, Plain.dig_of _ (by omega)]
    omega
  · rw [ba_get _ _ (by omega), ba_get _ _ (by omega), fd_1, fd_2]
    exact fd_sum a

theorem parse_at_neg (a : Nat) (ha : a ≤ 9223372036854775808) (w : World) :
    Calls Tryd.prog 7 #[.string ⟨(45 :: fenDigits a).toArray⟩] w fun e w' => e = .returned (.tuple #[.bool true, .int .u64 a, .bool true]) ∧ w' = w := by
  have hl := Plain.fenDigits_length a
  have h1 := Plain.decDigits_pos (a / 100)
  have h17 := Plain.decDigits_le17 (a / 100) (by omega)
  have hc : (45 :: fenDigits a).length = (decDigits (a / 100)).length + 4 := by rw [List.length_cons, hl]
  refine parse_neg ⟨(45 :: fenDigits a).toArray⟩ (decDigits (a / 100)).length (by rw [ba_size, hc]) h1 h17 ?_ ?_ ?_ ?_ ?_ ?_ ?_ ?_ a ?_ w
  · rfl
  · rw [ba_get _ _ (by omega), List.getElem_cons_succ, fd_0]
    rfl
  · intro h
    rw [ba_get _ _ (by omega)]
    exact fd_head a h (by omega)
  · intro k hk
    rw [ba_get _ _ (by omega), List.getElem_cons_succ]
    exact fd_dig a k hk (by omega)
  · intro k hk
    exact fd_bound a ha k hk
  · intro k hk
    rw [ba_get _ _ (by omega), List.getElem_cons_succ]
    exact fd_step a k hk (by omega)
  · rw [ba_get _ _ (by omega), List.getElem_cons_succ, fd_1, Plain.dig_of _ (by omega)]
    omega
  · rw [ba_get _ _ (by omega), List.getElem_cons_succ, fd_2, Plain.dig_of _ (by omega)]
    omega
  · rw [ba_get _ _ (by omega), ba_get _ _ (by omega), List.getElem_cons_succ, List.getElem_cons_succ, fd_1, fd_2]
    exact fd_sum a

set_option maxHeartbeats 800000 in
theorem back_pos (a : Nat) (ha : a ≤ 9223372036854775807) (w : World) (htab : Lib.TabIs Tryd.prog w powName .u64 Lib.pow10Tab) :
    Calls Tryd.prog 3 #[.int .i64 a] w fun e w' => e = .returned (.bool true) ∧ RowKit.Below w.heap.size w w' := by
  go_enter Tryd.func3, Tryd.ntmps3
  go_wp2_with fail
  refine (string_pos a ha _ htab).mono ?_
  rintro e w1 ⟨rfl, hb1⟩
  go_wp2_with fail
  refine (parse_at_pos a (by omega) _).mono ?_
  rintro e w2 ⟨rfl, rfl⟩
  go_wp2
  go_ret
  exact ⟨rfl, hb1⟩

set_option maxHeartbeats 800000 in
theorem back_neg (a : Nat) (h1 : 1 ≤ a) (ha : a ≤ 9223372036854775808) (w : World) (htab : Lib.TabIs Tryd.prog w powName .u64 Lib.pow10Tab) :
    Calls Tryd.prog 3 #[.int .i64 (-(a : Int))] w fun e w' => e = .returned (.bool true) ∧ RowKit.Below w.heap.size w w' := by
  have hz : ((a : Int) == 0) = false := beq_eq_false_iff_ne.2 (by omega)
  go_enter Tryd.func3, Tryd.ntmps3
  go_wp2_with fail
  refine (string_neg a h1 ha _ htab).mono ?_
  rintro e w1 ⟨rfl, hb1⟩
  go_wp2_with fail
  refine (parse_at_neg a ha _).mono ?_
  rintro e w2 ⟨rfl, rfl⟩
  go_wp2
  go_ret
  exact ⟨rfl, hb1⟩

theorem law3 (f : Int) (h0 : -9223372036854775808 ≤ f) (h1 : f ≤ 9223372036854775807) (w : World) (htab : Lib.TabIs Tryd.prog w powName .u64 Lib.pow10Tab) :
    Calls Tryd.prog 3 #[.int .i64 f] w fun e w' => e = .returned (.bool true) ∧ RowKit.Below w.heap.size w w' := by
  by_cases h : f < 0
  · have e : f = -((f.natAbs : Nat) : Int) := by omega
    have := back_neg f.natAbs (by omega) (by omega) w htab
    rwa [← e] at this
  · have e : f = ((f.natAbs : Nat) : Int) := by omega
    have := back_pos f.natAbs (by omega) w htab
    rwa [← e] at this

#print axioms law3
end Go.Proofs.Qxb6600015aDoor
