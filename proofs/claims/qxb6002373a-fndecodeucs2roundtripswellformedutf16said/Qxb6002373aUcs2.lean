/-
  SEAT b6002373a: THE WALK OF efi.DecodeUCS2.
-/
import Derived.Test.Qxb6002373aDecode
namespace Go.Proofs.Qxb6002373a
open Go Go.RowKit
open Plain (byteAt dec16 pairRune scan)

/-- What DecodeUCS2 answers. -/
def Answer (l : List UInt8) (e : Ending) : Prop :=
  match scan l with
  | some us => e = .returned (.tuple #[.string (textOf (dec16 us)), .int .i64 ((2 * us.length + 2 : Nat) : Int), .nilIface])
  | none => ∃ p, e = .returned (.tuple #[.string ⟨#[]⟩, .int .i64 0, .iface 42 p])

theorem Answer.yes {l : List UInt8} {us : List Nat} {e : Ending} (h : scan l = some us) (he : e = .returned (.tuple #[.string (textOf (dec16 us)), .int .i64 ((2 * us.length + 2 : Nat) : Int), .nilIface])) : Answer l e := by
  unfold Answer; rw [h]; exact he
theorem Answer.no {l : List UInt8} {e : Ending} (h : scan l = none) (he : ∃ p, e = .returned (.tuple #[.string ⟨#[]⟩, .int .i64 0, .iface 42 p])) : Answer l e := by
  unfold Answer; rw [h]; exact he

/-- The unit at place i, as the walk sees it. -/
def unitZ (l : List UInt8) (i : Nat) : Int := (byteAt l i : Int) + (byteAt l (i + 1) : Int) * 256

theorem wraps_u16 (n : Int) (h₀ : 0 ≤ n) (h₁ : n < 2 ^ 16) : IntKind.u16.wrap n = n := by
  simp only [IntKind.wrap, IntKind.bits, IntKind.signed, Bool.false_and, Bool.false_eq_true, if_false]
  omega

theorem or_comm16 (a b : Nat) (ha : a < 65536) (hb : b < 65536) : bits .or .u16 (a : Int) (b : Int) = bits .or .u16 (b : Int) (a : Int) := by
  rw [(bits_nat .u16 16 (by decide) wraps_u16 a b (by simpa using ha) (by simpa using hb)).2, (bits_nat .u16 16 (by decide) wraps_u16 b a (by simpa using hb) (by simpa using ha)).2, Nat.or_comm]

theorem or_unit (l : List UInt8) (i : Nat) : bits .or .u16 (byteAt l i : Int) ((byteAt l (i + 1) : Int) * 256) = unitZ l i := by
  have h1 := Plain.byteAt_lt l i
  have h2 := Plain.byteAt_lt l (i + 1)
  have e : ((byteAt l (i + 1) : Int) * 256) = ((byteAt l (i + 1) * 256 : Nat) : Int) := by omega
  unfold unitZ
  rw [e, or_comm16 _ _ (by omega) (by omega), bits_join .u16 16 (by decide) wraps_u16 8 _ _ (by omega) (by omega) (by omega) (by omega) (by omega) (by omega)]
  omega

/-- What DecodeUCS2's loop carries. -/
def Scan (w : World) (l : List UInt8) (us : List Nat) (v : Value) (wr : World) : Prop :=
  wr.ownsRow w.heap.size 34 1 v us.length (unitCells us) ∧ Below w.heap.size w wr ∧ (scan l = (scan (l.drop (2 * us.length))).map fun xs => us ++ xs) ∧ ∀ k, uz us k < 65536

theorem scan_end {l : List UInt8} {us : List Nat} {m : Nat} (hs : scan l = (scan (l.drop (2 * m))).map fun xs => us ++ xs) (h : 2 * m + 1 < l.length) (hz : byteAt l (2 * m) + 256 * byteAt l (2 * m + 1) = 0) : scan l = some us := by
  rw [hs, Plain.scan_zero l (2 * m) h hz]; simp
theorem scan_out {l : List UInt8} {us : List Nat} {m : Nat} (hs : scan l = (scan (l.drop (2 * m))).map fun xs => us ++ xs) (h : ¬ 2 * m + 1 < l.length) : scan l = none := by
  rw [hs, Plain.scan_short _ (by rw [List.length_drop]; omega)]; rfl

/-- One round: one unit more. -/
theorem Scan.step {w wr w' : World} {l : List UInt8} {us : List Nat} {m : Nat} {v v' : Value} {o : Obj} (hm : us.length = m) (hown : wr.ownsRow w.heap.size 34 1 v m (unitCells us)) (hb : Below w.heap.size w wr)
    (hs : scan l = (scan (l.drop (2 * m))).map fun xs => us ++ xs) (h16 : ∀ k, uz us k < 65536) (h : 2 * m + 1 < l.length) (hz : byteAt l (2 * m) + 256 * byteAt l (2 * m + 1) ≠ 0)
    (hown' : w'.ownsRow w.heap.size 34 1 v' (m + 1) (unitCells us ++ [Value.int .u16 (unitZ l (2 * m))])) (hg : (wr.alloc o).grownBy w' v.ownBlock) :
    ∃ us' : List Nat, us'.length = m + 1 ∧ Scan w l us' v' w' := by
  subst hm
  have c1 := Plain.byteAt_lt l (2 * us.length)
  have c2 := Plain.byteAt_lt l (2 * us.length + 1)
  refine ⟨us ++ [byteAt l (2 * us.length) + 256 * byteAt l (2 * us.length + 1)], by simp, ?_, (hb.alloc hb.size _).grown hg (by have := hb.size; simp; omega) (fun k hk => (hown.lt k hk).1), ?_, ?_⟩
  · have e : unitCells (us ++ [byteAt l (2 * us.length) + 256 * byteAt l (2 * us.length + 1)]) = unitCells us ++ [Value.int .u16 (unitZ l (2 * us.length))] := by
      simp only [unitCells, List.map_append, List.map_cons, List.map_nil, unitZ]
      congr 3
      omega
    rw [e, List.length_append]
    exact hown'
  · rw [hs, Plain.scan_step l _ h hz, List.length_append]
    cases scan (l.drop (2 * us.length + 2)) with
    | none => simp [*]
    | some xs => simp [*]
  · intro k
    by_cases hk : k < us.length
    · have := h16 k
      unfold uz unitAt at this ⊢
      simp only [List.getD, List.getElem?_append_left hk] at this ⊢
      exact this
    · unfold uz unitAt
      simp only [List.getD, List.getElem?_append_right (Nat.le_of_not_lt hk)]
      by_cases hk2 : k - us.length = 0
      · rw [hk2]; simp; omega
      · rw [List.getElem?_eq_none (by simp; omega)]; simp

set_option maxHeartbeats 1000000 in
theorem ucs2_some (g cap : Nat) (l : List UInt8) (hl : (l.length : Int) ≤ 1000000) (w : World) (hg : g < w.heap.size) (hc : ∀ j, j < l.length → w.cell? ⟨g, j, none⟩ = some (.int .u8 (byteAt l j))) :
    Calls Try.prog 10 #[.slice (some ⟨g, 0, none⟩) l.length cap] w fun e w' => Answer l e ∧ Below w.heap.size w w' := by
  obtain ⟨i0, hi, hz0, hz1, hz2⟩ := info_parts Try.info34
  have HC := Lib.hid hc
  clear hc
  go_enter Try.func10, Try.ntmps10
  go_wp2
  go_loopw [5, 6] (fun v i wr => ∃ us : List Nat, 2 * us.length ≤ l.length ∧ i = .int .i64 ((2 * us.length : Nat) : Int) ∧ Scan w l us v wr) (fun _ i _ => l.length - (intOf i).toNat)
  case atStart => exact ⟨[], by simp, rfl, World.ownsRow_nil _ _ _ _, Below.refl _ _, by simp, fun k => by simp [uz, unitAt]⟩
  case round =>
    obtain ⟨us, hul, rfl, hown, hb, hs, h16⟩ := hrel
    have HS := Lib.hid hs
    have H16 := Lib.hid h16
    have HO := Lib.hid hown
    clear hs h16 hown
    generalize hm : us.length = m at *
    have HM := Lib.hid hm
    clear hm
    by_cases hlt : 2 * m + 1 < l.length
    · have h1 := (hb.cell (p := ⟨g, 2 * m, none⟩) hg).trans (HC.out (2 * m) (by omega))
      have h2 := (hb.cell (p := ⟨g, 2 * m + 1, none⟩) hg).trans (HC.out (2 * m + 1) hlt)
      have ho := or_unit l (2 * m)
      have c1 := Plain.byteAt_lt l (2 * m)
      have c2 := Plain.byteAt_lt l (2 * m + 1)
      by_cases hz : byteAt l (2 * m) + 256 * byteAt l (2 * m + 1) = 0
      · have hzz : (unitZ l (2 * m) == 0) = true := by unfold unitZ; rw [beq_iff_eq]; omega
        have HZ := Lib.hid hz
        clear hz
        go_wp2
        go_quiet (fail)
        go_wp2_with fail
        refine (Decode_any w.heap.size us u5 _ (by rw [HM.out]; exact HO.out) (by have := HM.out; omega) H16.out).mono ?_
        rintro e w1 ⟨v', rfl, h5, h6⟩
        have hcv := conv_runes w1 _ v' _ h5
        have HF := Lib.hid (scan_end HS.out hlt HZ.out)
        have hb6 : Below w.heap.size w w1 := hb.trans ((show Below wr.heap.size wr (wr.drewN nq) from ⟨rfl, rfl, rfl, Nat.le_refl _, fun _ _ => rfl⟩).trans h6 |>.mono hb.size)
        clear h5 h6
        go_wp2
        go_ret3
        exact ⟨Answer.yes HF.out (by rw [HM.out]; rfl), hb6⟩
      · have hzz : (unitZ l (2 * m) == 0) = false := by unfold unitZ; rw [beq_eq_false_iff_ne]; omega
        have HZ := Lib.hid hz
        clear hz
        go_wp2
        go_quiet (fail)
        go_wp2_with (at_builtin; refine wpList_append_own _ rfl _ _ 33 rfl w.heap.size 34 i0 (.int .u16 0) 1 2 Try.underlying33 hi hz0 hz1 hz2 rfl (by decide) _ _ _ rfl (World.ownsRow.alloc (w := wr.drewN nq) HO.out _) ⟨wr.heap.size, 0, none⟩ 1 1 [Value.int .u16 (unitZ l (2 * m))] rfl rfl (one_cell _ _ _) (by intro u' hu'; simp at hu'; subst hu'; rfl) (by unfold maxLen; omega) (by omega) (by have := hb.size; simp; omega) ?_)
        intro v' w1 hown' hgrow' _
        have hb' : Below w.heap.size w (wr.drewN nq) := hb.trans ⟨rfl, rfl, rfl, Nat.le_refl _, fun _ _ => rfl⟩
        have HX := Lib.hid (Scan.step (wr := wr.drewN nq) HM.out HO.out hb' HS.out H16.out hlt HZ.out hown' hgrow')
        clear hown' hgrow'
        go_wp2
        obtain ⟨us', hm', hsc⟩ := HX.out
        exact ⟨⟨us', by omega, by rw [hm']; go_num, hsc⟩, by simp [intOf]; omega⟩
    · have HF := Lib.hid (scan_out HS.out hlt)
      go_wp2_with fail
      refine (errorsNew_any _ _).mono ?_
      rintro e w1 ⟨p, rfl, h6⟩
      have hb6 : Below w.heap.size w w1 := hb.trans (h6.mono hb.size)
      clear h6
      go_wp2
      go_ret3
      exact ⟨Answer.no HF.out ⟨p, rfl⟩, hb6⟩

set_option maxHeartbeats 400000 in
theorem ucs2_nil (w : World) : Calls Try.prog 10 #[.slice none 0 0] w fun e w' => Answer [] e ∧ Below w.heap.size w w' := by
  go_enter Try.func10, Try.ntmps10
  go_wp2
  go_loop [5, 6] (fun v i => v = .slice none 0 0 ∧ i = .int .i64 0) (fun _ _ => 0)
  case atStart => exact ⟨rfl, rfl⟩
  case round =>
    obtain ⟨rfl, rfl⟩ := hrel
    go_wp2_with fail
    refine (errorsNew_any _ _).mono ?_
    rintro e w1 ⟨p, rfl, h6⟩
    go_wp2
    go_ret3
    exact ⟨Answer.no rfl ⟨p, rfl⟩, h6⟩

#print axioms ucs2_some
end Go.Proofs.Qxb6002373a
