/-
  SEAT b6002373a: THE WALKS OF wellFormedUTF16LE AND equalBytes.
-/
import Derived.Test.Qxb6002373aEnc16
import Derived.Test.Qxb6002373aLaw
namespace Go.Proofs.Qxb6002373a
open Go Go.RowKit
open Plain (byteAt dec16 pairRune scan scalar units16 le2 bytes16)

/-! ### equalBytes -/
set_option maxHeartbeats 400000 in
theorem equal_same (a b : Option Addr) (ca cb : Nat) (l : List UInt8) (hl : (l.length : Int) ≤ 1000000) (w : World)
    (ha : l ≠ [] → ∃ g, a = some ⟨g, 0, none⟩ ∧ ∀ j, j < l.length → w.cell? ⟨g, j, none⟩ = some (.int .u8 (byteAt l j)))
    (hb : l ≠ [] → ∃ g, b = some ⟨g, 0, none⟩ ∧ ∀ j, j < l.length → w.cell? ⟨g, j, none⟩ = some (.int .u8 (byteAt l j))) :
    Calls Try.prog 18 #[.slice a l.length ca, .slice b l.length cb] w fun e w' => e = .returned (.bool true) ∧ ∃ n, w' = w.drewN n := by
  by_cases hn : l = []
  · subst hn
    clear ha hb hl
    go_enter Try.func18, Try.ntmps18
    go_wp2
    go_loop [5] (fun i => i = .int .i64 0) (fun _ => 0)
    case atStart => rfl
    case round =>
      subst hrel
      go_wp2
      go_ret
      exact ⟨rfl, 0, rfl⟩
  · obtain ⟨g1, rfl, h1⟩ := ha hn
    obtain ⟨g2, rfl, h2⟩ := hb hn
    have H1 := Lib.hid h1
    have H2 := Lib.hid h2
    clear ha hb h1 h2 hn
    go_enter Try.func18, Try.ntmps18
    go_wp2
    go_loopw [5] (fun i wr => (∃ k : Nat, k ≤ l.length ∧ i = .int .i64 k) ∧ ∃ n, wr = w.drewN n) (fun i _ => l.length - (intOf i).toNat)
    case atStart => exact ⟨⟨0, Nat.zero_le _, rfl⟩, 0, rfl⟩
    case round =>
      obtain ⟨⟨k, hk, rfl⟩, n, rfl⟩ := hrel
      by_cases hlt : k < l.length
      · have c1 : (w.drewN n).cell? ⟨g1, k, none⟩ = some (.int .u8 (byteAt l k)) := H1.out k hlt
        have c2 : (w.drewN n).cell? ⟨g2, k, none⟩ = some (.int .u8 (byteAt l k)) := H2.out k hlt
        have d1 := H1.out k hlt
        have d2 := H2.out k hlt
        have ne : ((byteAt l k : Int) != (byteAt l k : Int)) = false := by simp
        go_wp2
        go_quiet (fail)
        go_wp2
        exact ⟨⟨⟨k + 1, by omega, by go_num⟩, _, rfl⟩, by simp [intOf]; omega⟩
      · go_wp2
        go_ret
        exact ⟨rfl, n, rfl⟩

/-! ### wellFormedUTF16LE -/
/-- The units are just what some runes are written as. -/
def Formed (us : List Nat) : Prop := ∃ rs : List Nat, (∀ r ∈ rs, scalar r) ∧ us = rs.flatMap units16
/-- What wellFormedUTF16LE answers: where it says yes, the units are well formed. -/
def WellAns (us : List Nat) (e : Ending) : Prop := ∃ b : Bool, e = .returned (.bool b) ∧ (b = true → Formed us)

/-- The loop: the first k units are what some runes are written as. -/
def Upto (us : List Nat) (k : Nat) : Prop := k ≤ us.length ∧ ∃ dn : List Nat, (∀ r ∈ dn, scalar r) ∧ us.take k = dn.flatMap units16

theorem upto_one {us : List Nat} {k : Nat} (h : Upto us k) (hk : k < us.length) (hu : unitAt us k < 55296 ∨ (57344 ≤ unitAt us k ∧ unitAt us k < 65536)) : Upto us (k + 1) := by
  obtain ⟨_, dn, hs, e⟩ := h
  refine ⟨hk, dn ++ [unitAt us k], ?_, ?_⟩
  · intro r hr
    rcases List.mem_append.1 hr with hr | hr
    · exact hs r hr
    · have := List.mem_singleton.1 hr; rw [this]; unfold scalar; omega
  · rw [List.take_succ_eq_append_getElem hk, e, List.flatMap_append]
    congr 1
    have : unitAt us k = us[k] := by simp [unitAt, List.getD, hk]
    rw [← this]
    simp only [List.flatMap_cons, List.flatMap_nil, List.append_nil]
    unfold units16
    rw [if_pos (by omega)]

theorem upto_two {us : List Nat} {k : Nat} (h : Upto us k) (hk : k + 1 < us.length) (h1 : 55296 ≤ unitAt us k) (h2 : unitAt us k < 56320) (h3 : 56320 ≤ unitAt us (k + 1)) (h4 : unitAt us (k + 1) < 57344) : Upto us (k + 2) := by
  obtain ⟨_, dn, hs, e⟩ := h
  refine ⟨hk, dn ++ [pairRune (unitAt us k) (unitAt us (k + 1))], ?_, ?_⟩
  · intro r hr
    rcases List.mem_append.1 hr with hr | hr
    · exact hs r hr
    · have := List.mem_singleton.1 hr; rw [this]; unfold scalar pairRune; omega
  · rw [List.take_succ_eq_append_getElem hk, List.take_succ_eq_append_getElem (show k < us.length by omega), e, List.flatMap_append, List.append_assoc]
    have e1 : unitAt us k = us[k]'(by omega) := by simp [unitAt, List.getD, show k < us.length by omega]
    have e2 : unitAt us (k + 1) = us[k + 1] := by simp [unitAt, List.getD, hk]
    rw [← e1, ← e2]
    have e5 : [pairRune (unitAt us k) (unitAt us (k + 1))].flatMap units16 = [unitAt us k] ++ [unitAt us (k + 1)] := by
      simp only [List.flatMap_cons, List.flatMap_nil, List.append_nil, List.cons_append, List.nil_append]
      unfold units16 pairRune
      rw [if_neg (by omega)]
      have e3 : 55296 + (65536 + (unitAt us k - 55296) * 1024 + (unitAt us (k + 1) - 56320) - 65536) / 1024 = unitAt us k := by omega
      have e4 : 56320 + (65536 + (unitAt us k - 55296) * 1024 + (unitAt us (k + 1) - 56320) - 65536) % 1024 = unitAt us (k + 1) := by omega
      rw [e3, e4]
    rw [e5]

theorem upto_all {us : List Nat} {k : Nat} (h : Upto us k) (hk : ¬ k < us.length) : Formed us := by
  obtain ⟨h1, dn, hs, e⟩ := h
  have : k = us.length := by omega
  subst this
  rw [List.take_length] at e
  exact ⟨dn, hs, e⟩

set_option maxHeartbeats 1000000 in
theorem well_any (g cap : Nat) (l : List UInt8) (us : List Nat) (hl : (us.length : Int) ≤ 100000) (w : World) (hc : ∀ j, j < 2 * us.length → w.cell? ⟨g, j, none⟩ = some (.int .u8 (byteAt l j)))
    (hu : ∀ k, k < us.length → unitZ l (2 * k) = (unitAt us k : Int)) (h16 : ∀ k, unitAt us k < 65536) :
    Calls Try.prog 17 #[.slice (some ⟨g, 0, none⟩) (2 * us.length) cap] w fun e w' => WellAns us e ∧ ∃ n, w' = w.drewN n := by
  have HC := Lib.hid hc
  have HU := Lib.hid hu
  have H16 := Lib.hid h16
  clear hc hu h16
  go_enter Try.func17, Try.ntmps17
  go_wp2
  go_loopw [3] (fun i wr => (∃ k : Nat, Upto us k ∧ i = .int .i64 ((2 * k : Nat) : Int)) ∧ ∃ n, wr = w.drewN n) (fun i _ => 2 * us.length - (intOf i).toNat)
  case atStart => exact ⟨⟨0, ⟨Nat.zero_le _, [], by simp, by simp⟩, rfl⟩, 0, rfl⟩
  case round =>
    obtain ⟨⟨k, hk, rfl⟩, n, rfl⟩ := hrel
    have hkl := hk.1
    have HK := Lib.hid hk
    clear hk
    by_cases hlt : k < us.length
    · have b0 : decide (2 * (k : Int) + 1 < 2 * (us.length : Int)) = true := by simp; omega
      have h1 := HC.out (2 * k) (by omega)
      have h2 := HC.out (2 * k + 1) (by omega)
      have ho := or_unit l (2 * k)
      have c1 := Plain.byteAt_lt l (2 * k)
      have c2 := Plain.byteAt_lt l (2 * k + 1)
      have EU := Lib.hid (HU.out k hlt)
      by_cases p1 : unitZ l (2 * k) < 55296
      · have P1 := Lib.hid p1
        have b1 : decide (55296 ≤ unitZ l (2 * k)) = false := by simp; omega
        have b2 : decide (unitZ l (2 * k) ≤ 56319) = true := by simp; omega
        have b3 : decide (56320 ≤ unitZ l (2 * k)) = false := by simp; omega
        have b4 : decide (unitZ l (2 * k) ≤ 57343) = true := by simp; omega
        clear p1
        go_wp2
        go_quiet (fail)
        go_wp2
        exact ⟨⟨⟨k + 1, upto_one HK.out hlt (by have := EU.out; have := P1.out; omega), by go_num⟩, _, rfl⟩, by simp [intOf]; omega⟩
      · by_cases p2 : (57343 : Int) < unitZ l (2 * k)
        · have P2 := Lib.hid p2
          have b1 : decide (55296 ≤ unitZ l (2 * k)) = true := by simp; omega
          have b2 : decide (unitZ l (2 * k) ≤ 56319) = false := by simp; omega
          have b3 : decide (56320 ≤ unitZ l (2 * k)) = true := by simp; omega
          have b4 : decide (unitZ l (2 * k) ≤ 57343) = false := by simp; omega
          clear p1 p2
          go_wp2
          go_quiet (fail)
          go_wp2
          exact ⟨⟨⟨k + 1, upto_one HK.out hlt (by have := EU.out; have := P2.out; have := H16.out k; omega), by go_num⟩, _, rfl⟩, by simp [intOf]; omega⟩
        · by_cases p3 : unitZ l (2 * k) < 56320
          · have P1 := Lib.hid p1
            have P3 := Lib.hid p3
            have b1 : decide (55296 ≤ unitZ l (2 * k)) = true := by simp; omega
            have b2 : decide (unitZ l (2 * k) ≤ 56319) = true := by simp; omega
            have b3 : decide (56320 ≤ unitZ l (2 * k)) = false := by simp; omega
            have b4 : decide (unitZ l (2 * k) ≤ 57343) = true := by simp; omega
            clear p1 p2 p3
            by_cases hk1 : k + 1 < us.length
            · have h3 := HC.out (2 * k + 2) (by omega)
              have h4 := HC.out (2 * k + 3) (by omega)
              have ho2 : bits .or .u16 (byteAt l (2 * k + 2) : Int) ((byteAt l (2 * k + 3) : Int) * 256) = unitZ l (2 * k + 2) := or_unit l (2 * k + 2)
              have c3 := Plain.byteAt_lt l (2 * k + 2)
              have c4 := Plain.byteAt_lt l (2 * k + 3)
              have EV := Lib.hid (show unitZ l (2 * k + 2) = (unitAt us (k + 1) : Int) from HU.out (k + 1) hk1)
              have b7 : decide (2 * (us.length : Int) ≤ 2 * (k : Int) + 3) = false := by simp; omega
              by_cases q1 : unitZ l (2 * k + 2) < 56320
              · have b5 : decide (unitZ l (2 * k + 2) < 56320) = true := by simp; omega
                clear q1
                go_wp2
                go_quiet (fail)
                go_wp2
                go_quiet (fail)
                go_wp2
                go_ret
                exact ⟨⟨false, rfl, fun h => by cases h⟩, _, rfl⟩
              · by_cases q2 : (57343 : Int) < unitZ l (2 * k + 2)
                · have b5 : decide (unitZ l (2 * k + 2) < 56320) = false := by simp; omega
                  have b6 : decide (57343 < unitZ l (2 * k + 2)) = true := by simp; omega
                  clear q1 q2
                  go_wp2
                  go_quiet (fail)
                  go_wp2
                  go_quiet (fail)
                  go_wp2
                  go_ret
                  exact ⟨⟨false, rfl, fun h => by cases h⟩, _, rfl⟩
                · have Q1 := Lib.hid q1
                  have Q2 := Lib.hid q2
                  have b5 : decide (unitZ l (2 * k + 2) < 56320) = false := by simp; omega
                  have b6 : decide (57343 < unitZ l (2 * k + 2)) = false := by simp; omega
                  clear q1 q2
                  go_wp2
                  go_quiet (fail)
                  go_wp2
                  go_quiet (fail)
                  go_wp2
                  exact ⟨⟨⟨k + 2, upto_two HK.out hk1 (by have := EU.out; have := P1.out; omega) (by have := EU.out; have := P3.out; omega) (by have := EV.out; have := Q1.out; omega) (by have := EV.out; have := Q2.out; omega), by go_num⟩, _, rfl⟩, by simp [intOf]; omega⟩
            · have b7 : decide (2 * (us.length : Int) ≤ 2 * (k : Int) + 3) = true := by simp; omega
              go_wp2
              go_quiet (fail)
              go_wp2
              go_ret
              exact ⟨⟨false, rfl, fun h => by cases h⟩, _, rfl⟩
          · have b1 : decide (55296 ≤ unitZ l (2 * k)) = true := by simp; omega
            have b2 : decide (unitZ l (2 * k) ≤ 56319) = false := by simp; omega
            have b3 : decide (56320 ≤ unitZ l (2 * k)) = true := by simp; omega
            have b4 : decide (unitZ l (2 * k) ≤ 57343) = true := by simp; omega
            clear p1 p2 p3
            go_wp2
            go_quiet (fail)
            go_wp2
            go_ret
            exact ⟨⟨false, rfl, fun h => by cases h⟩, _, rfl⟩
    · go_wp2
      go_ret
      exact ⟨⟨true, rfl, fun _ => upto_all HK.out hlt⟩, n, rfl⟩

#print axioms well_any
end Go.Proofs.Qxb6002373a
