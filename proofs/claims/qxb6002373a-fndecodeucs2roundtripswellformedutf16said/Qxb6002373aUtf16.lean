/-
  SEAT b6002373a: THE WALKS OF unicode utf16: DecodeRune, decode, Decode.
-/
import Derived.Test.Qxb6002373aClone
import Derived.Laws.BitsLemmas
import Derived.Laws.Cover4
namespace Go.Proofs.Qxb6002373a
open Go Go.RowKit
open Plain (byteAt dec16 pairRune)

def unitCells (us : List Nat) : List Value := us.map fun (u : Nat) => Value.int .u16 (u : Int)
def runeCells (rs : List Nat) : List Value := rs.map fun (r : Nat) => Value.int .i32 (r : Int)
theorem unitCells_length (us : List Nat) : (unitCells us).length = us.length := by simp [unitCells]
theorem runeCells_length (rs : List Nat) : (runeCells rs).length = rs.length := by simp [runeCells]
theorem Try.info34 : (Try.prog.info? 34).map (fun i => (i.zero, i.size, i.bytes)) = some (some (.int .u16 0), 1, 2) := by kernel_rfl
theorem Try.info21 : (Try.prog.info? 21).map (fun i => (i.zero, i.size, i.bytes)) = some (some (.int .i32 0), 1, 4) := by kernel_rfl

def unitAt (us : List Nat) (k : Nat) : Nat := us.getD k 0
theorem drop_unit (us : List Nat) (k : Nat) (h : k < us.length) : us.drop k = unitAt us k :: us.drop (k + 1) := by
  rw [List.drop_eq_getElem_cons h]; simp [unitAt, List.getD, h]

/-- The unit at place k, as the walk sees it (no cast in the frame). -/
def uz (us : List Nat) (k : Nat) : Int := (unitAt us k : Nat)

def pz (u v : Int) : Int := (u - 55296) * 1024 + (v - 56320) + 65536
theorem or10 (u v : Int) (h1 : 55296 ≤ u) (h2 : u < 56320) (h3 : 56320 ≤ v) (h4 : v < 57344) : bits .or .i32 ((u - 55296) * 1024) (v - 56320) = (u - 55296) * 1024 + (v - 56320) :=
  bits_join .i32 31 (by decide) wraps_i32 10 _ _ (by omega) (by omega) (by omega) (by omega) (by omega) (by omega)

set_option maxHeartbeats 400000 in
theorem decodeRune_pair (u v : Int) (h1 : 55296 ≤ u) (h2 : u < 56320) (h3 : 56320 ≤ v) (h4 : v < 57344) (w : World) :
    Calls Try.prog 23 #[.int .i32 u, .int .i32 v] w fun e w' => e = .returned (.int .i32 (pz u v)) ∧ w' = w := by
  have ho := or10 u v h1 h2 h3 h4
  go_enter Try.func23, Try.ntmps23
  go_wp2
  go_ret
  exact ⟨rfl, rfl⟩

set_option maxHeartbeats 400000 in
theorem decode_nil (bv : Value) (w : World) : Calls Try.prog 22 #[.slice none 0 0, bv] w fun e w' => e = .returned bv ∧ w' = w := by
  go_enter Try.func22, Try.ntmps22
  go_wp2
  go_loop [1, 5] (fun b i => b = bv ∧ i = .int .i64 0) (fun _ _ => 0)
  case atStart => exact ⟨rfl, rfl⟩
  case round =>
    obtain ⟨rfl, rfl⟩ := hrel
    go_wp2
    go_ret
    exact ⟨rfl, rfl⟩

theorem one_cell (w : World) (x : Value) (T : TypeId) : ∀ j u, [x][j]? = some u → (w.alloc (.cells #[x] T)).cell? ((⟨w.heap.size, 0, none⟩ : Addr).add j) = some u := by
  intro j u hj
  match j, hj with
  | 0, hj => simp at hj; subst hj; simp [Addr.add]

/-- What decode's loop carries. -/
def Dec (w : World) (B : Nat) (us : List Nat) (k : Nat) (b : Value) (wr : World) : Prop :=
  ∃ ys : List Nat, wr.ownsRow B 21 1 b ys.length (runeCells ys) ∧ Below B w wr ∧ ys ++ dec16 (us.drop k) = dec16 us ∧ B ≤ wr.heap.size

/-- One round: one rune more. -/
theorem Dec.step {w wr w' : World} {B : Nat} {us : List Nat} {k k' : Nat} {b v' : Value} {ys : List Nat} {o : Obj} {z : Int} {r : Nat} (HY : ys ++ dec16 (us.drop k) = dec16 us) (hb : Below B w wr) (hBr : B ≤ wr.heap.size)
    (hown : wr.ownsRow B 21 1 b ys.length (runeCells ys)) (hown' : w'.ownsRow B 21 1 v' (ys.length + 1) (runeCells ys ++ [Value.int .i32 z])) (hg : (wr.alloc o).grownBy w' b.ownBlock) (hz : z = (r : Int)) (he : dec16 (us.drop k) = r :: dec16 (us.drop k')) : Dec w B us k' v' w' := by
  subst hz
  refine ⟨ys ++ [r], ?_, (hb.alloc hBr _).grown hg (by simp; omega) (fun k hk => (hown.lt k hk).1), by rw [List.append_assoc, ← HY, he]; rfl, ?_⟩
  · have e : runeCells (ys ++ [r]) = runeCells ys ++ [Value.int .i32 (r : Int)] := by simp [runeCells]
    rw [e, List.length_append]
    exact hown'
  · have := hg.size
    simp at this
    omega

set_option maxHeartbeats 1000000 in
theorem decode_some (B gs cap : Nat) (us : List Nat) (hus : (us.length : Int) ≤ 1000000) (hu16 : ∀ k, uz us k < 65536) (bv : Value) (w : World) (hg : gs < B) (hB : B ≤ w.heap.size)
    (hown : w.ownsRow B 21 1 bv 0 []) (hc : ∀ j, j < us.length → w.cell? ⟨gs, j, none⟩ = some (.int .u16 (uz us j))) :
    Calls Try.prog 22 #[.slice (some ⟨gs, 0, none⟩) us.length cap, bv] w fun e w' => ∃ v', e = .returned v' ∧ w'.ownsRow B 21 1 v' (dec16 us).length (runeCells (dec16 us)) ∧ Below B w w' := by
  obtain ⟨i0, hi, hz0, hz1, hz2⟩ := info_parts Try.info21
  have HC := Lib.hid hc
  have HO := Lib.hid hown
  have HU := Lib.hid hu16
  clear hc hown hu16
  go_enter Try.func22, Try.ntmps22
  go_wp2
  go_loopw [1, 5] (fun b i wr => ∃ k : Nat, k ≤ us.length ∧ i = .int .i64 k ∧ Dec w B us k b wr) (fun _ i _ => us.length - (intOf i).toNat)
  case atStart => exact ⟨0, Nat.zero_le _, rfl, [], HO.out, Below.refl _ _, by simp, hB⟩
  case round =>
    obtain ⟨k, hk, rfl, ys, hown, hb, hys, hBr⟩ := hrel
    have hyl : (ys.length : Int) ≤ 1000000 := by
      have := congrArg List.length hys
      rw [List.length_append] at this
      have h2 := Plain.dec16_length us
      omega
    have HY := Lib.hid hys
    clear hys
    by_cases hlt : k < us.length
    · have h1 := (hb.cell (p := ⟨gs, k, none⟩) hg).trans (HC.out k hlt)
      have EU := Lib.hid (show uz us k = (unitAt us k : Int) from rfl)
      have hu := HU.out k
      have hu0 : 0 ≤ uz us k := by rw [EU.out]; omega
      have hd := Lib.hid (drop_unit us k hlt)
      by_cases hp : uz us k < 55296
      · have P1 := Lib.hid hp
        have b1 : decide (uz us k < 55296) = true := by simp; omega
        clear hp
        go_wp2_with (at_builtin; refine wpList_append_own _ rfl _ _ 36 rfl B 21 i0 (.int .i32 0) 1 4 Try.underlying36 hi hz0 hz1 hz2 rfl (by decide) _ _ _ rfl (hown.alloc _) ⟨wr.heap.size, 0, none⟩ 1 1 [Value.int .i32 (uz us k)] rfl rfl (one_cell _ _ _) (by intro u' hu'; simp at hu'; subst hu'; rfl) (by unfold maxLen; omega) (by omega) (by simp; omega) ?_)
        intro v' w1 hown' hgrow' _
        have hD := Dec.step (k' := k + 1) HY.out hb hBr hown hown' hgrow' EU.out (by rw [hd.out, Plain.dec16_plain _ _ (by have := EU.out; have := P1.out; omega)])
        clear hown' hgrow'
        have HD := Lib.hid hD
        clear hD
        go_wp2
        exact ⟨⟨k + 1, by omega, by go_num, HD.out⟩, by simp [intOf]; omega⟩
      · have P1 := Lib.hid hp
        have b1 : decide (uz us k < 55296) = false := by simp; omega
        have b3 : decide (55296 ≤ uz us k) = true := by simp; omega
        clear hp
        by_cases hp2 : (57344 : Int) ≤ uz us k
        · have P2 := Lib.hid hp2
          have b2 : decide (57344 ≤ uz us k) = true := by simp; omega
          clear hp2
          go_wp2_with (at_builtin; refine wpList_append_own _ rfl _ _ 36 rfl B 21 i0 (.int .i32 0) 1 4 Try.underlying36 hi hz0 hz1 hz2 rfl (by decide) _ _ _ rfl (hown.alloc _) ⟨wr.heap.size, 0, none⟩ 1 1 [Value.int .i32 (uz us k)] rfl rfl (one_cell _ _ _) (by intro u' hu'; simp at hu'; subst hu'; rfl) (by unfold maxLen; omega) (by omega) (by simp; omega) ?_)
          intro v' w1 hown' hgrow' _
          have hD := Dec.step (k' := k + 1) HY.out hb hBr hown hown' hgrow' EU.out (by rw [hd.out, Plain.dec16_plain _ _ (by have := EU.out; have := P2.out; omega)])
          clear hown' hgrow'
          have HD := Lib.hid hD
          clear hD
          go_wp2
          exact ⟨⟨k + 1, by omega, by go_num, HD.out⟩, by simp [intOf]; omega⟩
        · have P2 := Lib.hid hp2
          have b2 : decide (57344 ≤ uz us k) = false := by simp; omega
          clear hp2
          by_cases hp3 : uz us k < 56320
          · have P3 := Lib.hid hp3
            have b4 : decide (uz us k < 56320) = true := by simp; omega
            clear hp3
            by_cases hk1 : k + 1 < us.length
            · have b7 : decide ((k : Int) + 1 < (us.length : Int)) = true := by simp; omega
              have h2 := (hb.cell (p := ⟨gs, k + 1, none⟩) hg).trans (HC.out (k + 1) hk1)
              have EV := Lib.hid (show uz us (k + 1) = (unitAt us (k + 1) : Int) from rfl)
              have hv := HU.out (k + 1)
              have hv0 : 0 ≤ uz us (k + 1) := by rw [EV.out]; omega
              have hd2 := Lib.hid (drop_unit us (k + 1) hk1)
              have hg0 := Lib.hid (show (us.drop (k + 1)).getD 0 0 = unitAt us (k + 1) by rw [hd2.out]; rfl)
              by_cases hp4 : uz us (k + 1) < 56320
              · have P4 := Lib.hid hp4
                have b5 : decide (56320 ≤ uz us (k + 1)) = false := by simp; omega
                clear hp4
                go_wp2_with (at_builtin; refine wpList_append_own _ rfl _ _ 36 rfl B 21 i0 (.int .i32 0) 1 4 Try.underlying36 hi hz0 hz1 hz2 rfl (by decide) _ _ _ rfl (hown.alloc _) ⟨wr.heap.size, 0, none⟩ 1 1 [Value.int .i32 65533] rfl rfl (one_cell _ _ _) (by intro u' hu'; simp at hu'; subst hu'; rfl) (by unfold maxLen; omega) (by omega) (by simp; omega) ?_)
                intro v' w1 hown' hgrow' _
                have hD := Dec.step (k' := k + 1) HY.out hb hBr hown hown' hgrow' (r := 65533) rfl (by rw [hd.out, Plain.dec16_lone _ _ (by have := EU.out; have := P1.out; omega) (by have := EU.out; have := P2.out; omega) (by rw [hg0.out]; have := EV.out; have := P4.out; omega)])
                clear hown' hgrow'
                have HD := Lib.hid hD
                clear hD
                go_wp2
                exact ⟨⟨k + 1, by omega, by go_num, HD.out⟩, by simp [intOf]; omega⟩
              · have P4 := Lib.hid hp4
                have b5 : decide (56320 ≤ uz us (k + 1)) = true := by simp; omega
                clear hp4
                by_cases hp5 : (57344 : Int) ≤ uz us (k + 1)
                · have P5 := Lib.hid hp5
                  have b6 : decide (uz us (k + 1) < 57344) = false := by simp; omega
                  clear hp5
                  go_wp2_with (at_builtin; refine wpList_append_own _ rfl _ _ 36 rfl B 21 i0 (.int .i32 0) 1 4 Try.underlying36 hi hz0 hz1 hz2 rfl (by decide) _ _ _ rfl (hown.alloc _) ⟨wr.heap.size, 0, none⟩ 1 1 [Value.int .i32 65533] rfl rfl (one_cell _ _ _) (by intro u' hu'; simp at hu'; subst hu'; rfl) (by unfold maxLen; omega) (by omega) (by simp; omega) ?_)
                  intro v' w1 hown' hgrow' _
                  have hD := Dec.step (k' := k + 1) HY.out hb hBr hown hown' hgrow' (r := 65533) rfl (by rw [hd.out, Plain.dec16_lone _ _ (by have := EU.out; have := P1.out; omega) (by have := EU.out; have := P2.out; omega) (by rw [hg0.out]; have := EV.out; have := P5.out; omega)])
                  clear hown' hgrow'
                  have HD := Lib.hid hD
                  clear hD
                  go_wp2
                  exact ⟨⟨k + 1, by omega, by go_num, HD.out⟩, by simp [intOf]; omega⟩
                · have P5 := Lib.hid hp5
                  have b6 : decide (uz us (k + 1) < 57344) = true := by simp; omega
                  clear hp5
                  go_wp2_with (first | (go_at_call 23; refine (decodeRune_pair (uz us k) (uz us (k + 1)) (by have := P1.out; omega) P3.out (by have := P4.out; omega) (by have := P5.out; omega) _).mono ?_; rintro e w2 ⟨rfl, hw2⟩; rw [hw2]; clear hw2 w2) | (at_builtin; refine wpList_append_own _ rfl _ _ 36 rfl B 21 i0 (.int .i32 0) 1 4 Try.underlying36 hi hz0 hz1 hz2 rfl (by decide) _ _ _ rfl (hown.alloc _) ⟨wr.heap.size, 0, none⟩ 1 1 [Value.int .i32 (pz (uz us k) (uz us (k + 1)))] rfl rfl (one_cell _ _ _) (by intro u' hu'; simp at hu'; subst hu'; rfl) (by unfold maxLen; omega) (by omega) (by simp; omega) ?_))
                  intro v' w1 hown' hgrow' _
                  have hD := Dec.step (k' := k + 2) HY.out hb hBr hown hown' hgrow' (by unfold pz; rw [EU.out, EV.out]; exact (Plain.pairRune_int _ _ (by have := EU.out; have := P1.out; omega) (by have := EV.out; have := P4.out; omega)).symm) (by rw [hd.out, hd2.out, Plain.dec16_pair _ _ _ (by have := EU.out; have := P1.out; omega) (by have := EU.out; have := P3.out; omega) (by have := EV.out; have := P4.out; omega) (by have := EV.out; have := P5.out; omega)])
                  clear hown' hgrow'
                  have HD := Lib.hid hD
                  clear hD
                  go_wp2
                  exact ⟨⟨k + 2, by omega, by go_num, HD.out⟩, by simp [intOf]; omega⟩
            · have b7 : decide ((k : Int) + 1 < (us.length : Int)) = false := by simp; omega
              have hg0 := Lib.hid (show (us.drop (k + 1)).getD 0 0 = 0 by rw [List.drop_of_length_le (by omega)]; rfl)
              go_wp2_with (at_builtin; refine wpList_append_own _ rfl _ _ 36 rfl B 21 i0 (.int .i32 0) 1 4 Try.underlying36 hi hz0 hz1 hz2 rfl (by decide) _ _ _ rfl (hown.alloc _) ⟨wr.heap.size, 0, none⟩ 1 1 [Value.int .i32 65533] rfl rfl (one_cell _ _ _) (by intro u' hu'; simp at hu'; subst hu'; rfl) (by unfold maxLen; omega) (by omega) (by simp; omega) ?_)
              intro v' w1 hown' hgrow' _
              have hD := Dec.step (k' := k + 1) HY.out hb hBr hown hown' hgrow' (r := 65533) rfl (by rw [hd.out, Plain.dec16_lone _ _ (by have := EU.out; have := P1.out; omega) (by have := EU.out; have := P2.out; omega) (by rw [hg0.out]; omega)])
              clear hown' hgrow'
              have HD := Lib.hid hD
              clear hD
              go_wp2
              exact ⟨⟨k + 1, by omega, by go_num, HD.out⟩, by simp [intOf]; omega⟩
          · have P3 := Lib.hid hp3
            have b4 : decide (uz us k < 56320) = false := by simp; omega
            clear hp3
            go_wp2_with (at_builtin; refine wpList_append_own _ rfl _ _ 36 rfl B 21 i0 (.int .i32 0) 1 4 Try.underlying36 hi hz0 hz1 hz2 rfl (by decide) _ _ _ rfl (hown.alloc _) ⟨wr.heap.size, 0, none⟩ 1 1 [Value.int .i32 65533] rfl rfl (one_cell _ _ _) (by intro u' hu'; simp at hu'; subst hu'; rfl) (by unfold maxLen; omega) (by omega) (by simp; omega) ?_)
            intro v' w1 hown' hgrow' _
            have hD := Dec.step (k' := k + 1) HY.out hb hBr hown hown' hgrow' (r := 65533) rfl (by rw [hd.out, Plain.dec16_lone _ _ (by have := EU.out; have := P1.out; omega) (by have := EU.out; have := P2.out; omega) (by have := EU.out; have := P3.out; omega)])
            clear hown' hgrow'
            have HD := Lib.hid hD
            clear hD
            go_wp2
            exact ⟨⟨k + 1, by omega, by go_num, HD.out⟩, by simp [intOf]; omega⟩
    · obtain rfl : k = us.length := by omega
      have he := HY.out
      rw [List.drop_length] at he
      simp only [dec16, List.append_nil] at he
      subst he
      go_wp2
      go_ret
      exact ⟨_, rfl, hown, hb⟩

#print axioms decode_some
end Go.Proofs.Qxb6002373a
