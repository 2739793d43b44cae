/-
  SEAT b6002373a: THE WALK OF encodeUTF16LE AT A VALID TEXT.
-/
import Derived.Test.Qxb6002373aValid
import Derived.Test.Qxb6002373aShare
namespace Go.Proofs.Qxb6002373a
open Go Go.RowKit
open Plain (byteAt dec8 scalar enc8 text8 units16 le2 bytes16)

def enc16 (rs : List Nat) : List UInt8 := bytes16 (rs.flatMap units16)

theorem two_cells (w : World) (x y : Value) (T : TypeId) : ∀ j u, [x, y][j]? = some u → (w.alloc (.cells #[x, y] T)).cell? ((⟨w.heap.size, 0, none⟩ : Addr).add j) = some u := by
  intro j u hj
  match j, hj with
  | 0, hj => simp at hj; subst hj; simp [Addr.add]
  | 1, hj => simp at hj; subst hj; simp [Addr.add]
theorem four_cells (w : World) (x y z t : Value) (T : TypeId) : ∀ j u, [x, y, z, t][j]? = some u → (w.alloc (.cells #[x, y, z, t] T)).cell? ((⟨w.heap.size, 0, none⟩ : Addr).add j) = some u := by
  intro j u hj
  match j, hj with
  | 0, hj => simp at hj; subst hj; simp [Addr.add]
  | 1, hj => simp at hj; subst hj; simp [Addr.add]
  | 2, hj => simp at hj; subst hj; simp [Addr.add]
  | 3, hj => simp at hj; subst hj; simp [Addr.add]

/-- 'make([]byte, 0, n)'. -/
theorem run_make_empty (n : Nat) (hn : n ≤ 10000000) (w : World) : ∃ cs : Array Value, cs.size = n ∧ (Instr.makeSlice 22 (.int .i64 0) (.int .i64 n)).run Try.prog w = .ok (.slice (some ⟨w.heap.size, 0, none⟩) 0 n) (w.alloc (.cells cs 5)) := by
  obtain ⟨i0, hi, hz0, hz1, hz2⟩ := info_parts Try.infoByte
  have := run_make (P := Try.prog) w 22 5 i0 (.int .u8 0) Try.underlying22 hi hz0 .i64 .i64 0 n (by omega) (by omega) (by rw [hz2]; omega) (by omega)
  rw [hz1, Int.toNat_natCast, Nat.mul_one] at this
  exact ⟨_, size_madeCells _ _, this⟩

/-- What encodeUTF16LE's loop carries: the runes 'done' are written, those of 'todo' lie ahead. -/
def Enc (w : World) (l : List UInt8) (rs : List Nat) (k : Nat) (v : Value) (wr : World) : Prop :=
  ∃ dn td : List Nat, rs = dn ++ td ∧ l.drop k = text8 td ∧ k ≤ l.length ∧ wr.ownsRow w.heap.size 5 1 v (enc16 dn).length (Lib.byteCells (enc16 dn)) ∧ Below w.heap.size w wr ∧ v ≠ .slice none 0 0

theorem units16_len (r : Nat) : (units16 r).length ≤ 2 := by unfold units16; split <;> simp
theorem enc16_len (rs : List Nat) : (enc16 rs).length ≤ 4 * rs.length := by
  unfold enc16
  rw [Plain.bytes16_length]
  induction rs with
  | nil => simp
  | cons r rs ih =>
    rw [List.flatMap_cons, List.length_append, List.length_cons]
    have := units16_len r
    omega
theorem text8_len (rs : List Nat) : rs.length ≤ (text8 rs).length := by
  induction rs with
  | nil => simp
  | cons r rs ih =>
    rw [Plain.text8_cons, List.length_append, List.length_cons]
    have := Plain.enc8_pos r
    omega
theorem enc16_snoc (dn : List Nat) (r : Nat) : enc16 (dn ++ [r]) = enc16 dn ++ bytes16 (units16 r) := by
  unfold enc16
  rw [List.flatMap_append, Plain.bytes16_append]
  simp

/-- One round: one rune more. -/
theorem Enc.step {w wr w' : World} {l : List UInt8} {rs dn tr : List Nat} {r k : Nat} {v v' : Value} {o : Obj} {c : Nat} {news : List Value} (hrs : rs = dn ++ r :: tr) (hdr : l.drop k = text8 (r :: tr)) (hk : k + (enc8 r).length ≤ l.length)
    (hown : wr.ownsRow w.heap.size 5 1 v (enc16 dn).length (Lib.byteCells (enc16 dn))) (hb : Below w.heap.size w wr) (hn : Lib.byteCells (bytes16 (units16 r)) = news) (hc : (bytes16 (units16 r)).length = c)
    (hown' : w'.ownsRow w.heap.size 5 1 v' ((enc16 dn).length + c) (Lib.byteCells (enc16 dn) ++ news)) (hg : (wr.alloc o).grownBy w' v.ownBlock) (hne : ¬ v' = .slice none 0 0) : Enc w l rs (k + (enc8 r).length) v' w' := by
  refine ⟨dn ++ [r], tr, by rw [hrs]; simp, ?_, hk, ?_, (hb.alloc hb.size _).grown hg (by have := hb.size; simp; omega) (fun k hk => (hown.lt k hk).1), hne⟩
  · rw [← List.drop_drop, hdr, Plain.text8_cons]
    exact List.drop_left
  · rw [enc16_snoc, Lib.byteCells_append, List.length_append, hn, hc]
    exact hown'

theorem cells_one (r : Nat) (h : r < 65536) (z : Int) (hz : z = (r : Int)) : Lib.byteCells (bytes16 (units16 r)) = [Value.int .u8 (z % 256), Value.int .u8 (z / 256 % 256)] := by
  subst hz
  have e : bytes16 (units16 r) = [UInt8.ofNat (r % 256), UInt8.ofNat (r / 256)] := by unfold units16; rw [if_pos h]; rfl
  rw [e]
  unfold Lib.byteCells
  simp only [List.map_cons, List.map_nil]
  rw [Plain.ofNat_toNat _ (by omega), Plain.ofNat_toNat _ (by omega)]
  have e1 : ((r % 256 : Nat) : Int) = (r : Int) % 256 := by omega
  have e2 : ((r / 256 : Nat) : Int) = (r : Int) / 256 % 256 := by omega
  rw [e1, e2]

theorem cells_two (r : Nat) (h : ¬ r < 65536) (h2 : r ≤ 1114111) (z : Int) (hz : z = (r : Int)) : Lib.byteCells (bytes16 (units16 r)) = [Value.int .u8 ((55296 + (z - 65536) / 1024) % 256), Value.int .u8 ((55296 + (z - 65536) / 1024) / 256), Value.int .u8 ((56320 + (z - 65536) % 1024) % 256), Value.int .u8 ((56320 + (z - 65536) % 1024) / 256)] := by
  subst hz
  have e : bytes16 (units16 r) = [UInt8.ofNat ((55296 + (r - 65536) / 1024) % 256), UInt8.ofNat ((55296 + (r - 65536) / 1024) / 256), UInt8.ofNat ((56320 + (r - 65536) % 1024) % 256), UInt8.ofNat ((56320 + (r - 65536) % 1024) / 256)] := by unfold units16; rw [if_neg h]; rfl
  rw [e]
  unfold Lib.byteCells
  simp only [List.map_cons, List.map_nil]
  rw [Plain.ofNat_toNat _ (by omega), Plain.ofNat_toNat _ (by omega), Plain.ofNat_toNat _ (by omega), Plain.ofNat_toNat _ (by omega)]
  have e1 : (((55296 + (r - 65536) / 1024) % 256 : Nat) : Int) = (55296 + ((r : Int) - 65536) / 1024) % 256 := by omega
  have e2 : (((55296 + (r - 65536) / 1024) / 256 : Nat) : Int) = (55296 + ((r : Int) - 65536) / 1024) / 256 := by omega
  have e3 : (((56320 + (r - 65536) % 1024) % 256 : Nat) : Int) = (56320 + ((r : Int) - 65536) % 1024) % 256 := by omega
  have e4 : (((56320 + (r - 65536) % 1024) / 256 : Nat) : Int) = (56320 + ((r : Int) - 65536) % 1024) / 256 := by omega
  rw [e1, e2, e3, e4]

theorem len_one (r : Nat) (h : r < 65536) : (bytes16 (units16 r)).length = 2 := by unfold units16; rw [if_pos h]; rfl
theorem len_two (r : Nat) (h : ¬ r < 65536) : (bytes16 (units16 r)).length = 4 := by unfold units16; rw [if_neg h]; rfl

set_option maxHeartbeats 1000000 in
theorem enc16_any (s : ByteArray) (rs : List Nat) (hm : (s.size : Int) ≤ 1000000) (hsc : ∀ r ∈ rs, scalar r) (htx : s.data.toList = text8 rs) (w : World) :
    Calls Try.prog 14 #[.string s] w fun e w' => ∃ g c, e = .returned (.slice (some ⟨g, 0, none⟩) (enc16 rs).length c) ∧ w'.ownsRow w.heap.size 5 1 (.slice (some ⟨g, 0, none⟩) (enc16 rs).length c) (enc16 rs).length (Lib.byteCells (enc16 rs)) ∧ Below w.heap.size w w' := by
  obtain ⟨i0, hi, hz0, hz1, hz2⟩ := info_parts Try.infoByte
  obtain ⟨cs, hcs, hmk0⟩ := run_make_empty (2 * s.size) (by omega) w
  have hmk : (Instr.makeSlice 22 (.int .i64 0) (.int .i64 (2 * (s.size : Int)))).run Try.prog w = .ok (.slice (some ⟨w.heap.size, 0, none⟩) 0 (2 * s.size)) (w.alloc (.cells cs 5)) := by
    have e : (2 * (s.size : Int)) = ((2 * s.size : Nat) : Int) := by omega
    rw [e]; exact hmk0
  have HM := Lib.hid (show (w.alloc (.cells cs 5)).ownsRow w.heap.size 5 1 (.slice (some ⟨w.heap.size, 0, none⟩) 0 (2 * s.size)) 0 [] from World.ownsRow_made w cs (2 * s.size) (Nat.le_refl _) (by unfold maxLen; omega) (by rw [hcs, Nat.mul_one]))
  have EL := Lib.hid (len_size s)
  have HSC := Lib.hid hsc
  have HTX := Lib.hid htx
  clear hmk0 hsc htx
  go_enter Try.func14, Try.ntmps14
  go_wp2
  go_loopw [3, 4] (fun v i wr => ∃ k : Nat, i = .int .i64 k ∧ Enc w s.data.toList rs k v wr) (fun _ i _ => s.size - (intOf i).toNat)
  case atStart => exact ⟨0, rfl, [], rs, rfl, HTX.out, Nat.zero_le _, HM.out, (Below.refl _ _).alloc (Nat.le_refl _) _, by simp⟩
  case round =>
    clear hmk
    obtain ⟨k, rfl, dn, td, hrs, hdr, hk, hown, hb, hnn⟩ := hrel
    have HNN := Lib.hid hnn
    clear hnn
    have hkl : k ≤ s.size := by rw [← EL.out]; exact hk
    have hdl : (dn.length : Int) ≤ 1000000 := by
      have h1 := text8_len rs
      have h2 := congrArg List.length HTX.out
      have h3 := congrArg List.length hrs
      rw [EL.out] at h2
      rw [List.length_append] at h3
      omega
    have hel : ((enc16 dn).length : Int) ≤ 4000000 := by have := enc16_len dn; omega
    have HRS := Lib.hid hrs
    have HDR := Lib.hid hdr
    have HO := Lib.hid hown
    clear hrs hdr hown hk
    by_cases hlt : k < s.size
    · have hne : td ≠ [] := by
        rintro rfl
        have := congrArg List.length HDR.out
        rw [List.length_drop, EL.out] at this
        simp [text8] at this
        omega
      obtain ⟨r, tr, rfl⟩ : ∃ r tr, td = r :: tr := by
        cases td with
        | nil => exact absurd rfl hne
        | cons r tr => exact ⟨r, tr, rfl⟩
      clear hne
      have hr : scalar r := HSC.out r (by rw [HRS.out]; simp)
      have hdec := Plain.dec8_enc8 s.data.toList k r (text8 tr) hr HDR.out
      have ER := Lib.hid (show rz s.data.toList k = (r : Int) by unfold rz; rw [hdec])
      have ES := Lib.hid (show sz s.data.toList k = ((enc8 r).length : Int) by unfold sz; rw [hdec])
      have hle := Plain.enc8_le r
      have hpo := Plain.enc8_pos r
      have hkr : k + (enc8 r).length ≤ s.size := by
        have := congrArg List.length HDR.out
        rw [List.length_drop, EL.out, Plain.text8_cons, List.length_append] at this
        omega
      have b1 : (sz s.data.toList k == 0) = false := by rw [ES.out, beq_eq_false_iff_ne]; omega
      have s1 : 1 ≤ sz s.data.toList k := by rw [ES.out]; omega
      have s2 : (k : Int) + sz s.data.toList k ≤ s.size := by rw [ES.out]; omega
      have r0 : 0 ≤ rz s.data.toList k := by rw [ER.out]; omega
      have r1 : rz s.data.toList k ≤ 1114111 := by rw [ER.out]; unfold scalar at hr; omega
      clear hdec hle hpo
      have HKR := Lib.hid hkr
      have HR := Lib.hid hr
      clear hkr hr
      by_cases hc : r < 65536
      · have b2 : decide (rz s.data.toList k < 65536) = true := by rw [ER.out]; simp; omega
        have HCC := Lib.hid hc
        clear hc
        go_wp2_with (first | (go_at_call 21; refine (d8_z s k hlt hm _).mono ?_; rintro e w5 ⟨rfl, hw5⟩; rw [hw5]; clear hw5 w5) | (at_builtin; refine wpList_append_own _ rfl _ _ 22 rfl w.heap.size 5 i0 (.int .u8 0) 1 1 Try.underlying22 hi hz0 hz1 hz2 rfl (by decide) _ _ _ rfl (HO.out.alloc _) ⟨wr.heap.size, 0, none⟩ 2 2 [Value.int .u8 (rz s.data.toList k % 256), Value.int .u8 (rz s.data.toList k / 256 % 256)] rfl rfl (two_cells _ _ _ _) (by intro u' hu'; simp at hu'; rcases hu' with rfl | rfl <;> rfl) (by unfold maxLen; omega) (by omega) (by have := hb.size; simp; omega) ?_))
        intro v' w1 hown' hgrow' hne'
        have HX := Lib.hid (Enc.step HRS.out HDR.out (by rw [EL.out]; exact HKR.out) HO.out hb (cells_one r HCC.out _ ER.out) (len_one r HCC.out) hown' hgrow' hne')
        clear hown' hgrow' hne'
        go_wp2
        exact ⟨⟨k + (enc8 r).length, by rw [ES.out]; go_num, HX.out⟩, by have := ES.out; have := HKR.out; have := Plain.enc8_pos r; simp [intOf]; omega⟩
      · have b2 : decide (rz s.data.toList k < 65536) = false := by rw [ER.out]; simp; omega
        have an : bits .and .i32 (rz s.data.toList k - 65536) 1023 = (rz s.data.toList k - 65536) % 1024 := bits_mask .i32 31 (by decide) wraps_i32 10 (by decide) _ (by rw [ER.out]; omega) (by omega)
        have rl : 65536 ≤ rz s.data.toList k := by rw [ER.out]; omega
        have HCC := Lib.hid hc
        clear hc
        go_wp2_with (first | (go_at_call 21; refine (d8_z s k hlt hm _).mono ?_; rintro e w5 ⟨rfl, hw5⟩; rw [hw5]; clear hw5 w5) | (at_builtin; refine wpList_append_own _ rfl _ _ 22 rfl w.heap.size 5 i0 (.int .u8 0) 1 1 Try.underlying22 hi hz0 hz1 hz2 rfl (by decide) _ _ _ rfl (HO.out.alloc _) ⟨wr.heap.size, 0, none⟩ 4 4 [Value.int .u8 ((55296 + (rz s.data.toList k - 65536) / 1024) % 256), Value.int .u8 ((55296 + (rz s.data.toList k - 65536) / 1024) / 256), Value.int .u8 ((56320 + (rz s.data.toList k - 65536) % 1024) % 256), Value.int .u8 ((56320 + (rz s.data.toList k - 65536) % 1024) / 256)] rfl rfl (four_cells _ _ _ _ _ _) (by intro u' hu'; simp at hu'; rcases hu' with rfl | rfl | rfl | rfl <;> rfl) (by unfold maxLen; omega) (by omega) (by have := hb.size; simp; omega) ?_))
        intro v' w1 hown' hgrow' hne'
        have HX := Lib.hid (Enc.step HRS.out HDR.out (by rw [EL.out]; exact HKR.out) HO.out hb (cells_two r HCC.out (by have := ER.out; omega) _ ER.out) (len_two r HCC.out) hown' hgrow' hne')
        clear hown' hgrow' hne'
        go_wp2
        exact ⟨⟨k + (enc8 r).length, by rw [ES.out]; go_num, HX.out⟩, by have := ES.out; have := HKR.out; have := Plain.enc8_pos r; simp [intOf]; omega⟩
    · have HE := Lib.hid (show rs = dn by
        have h1 : k = s.size := by omega
        have h2 := HDR.out
        rw [h1, ← EL.out, List.drop_length] at h2
        have h3 := text8_len td
        rw [← h2] at h3
        have : td = [] := List.eq_nil_of_length_eq_zero (by simpa using h3)
        rw [HRS.out, this, List.append_nil])
      go_wp2
      go_ret
      have h9 := HE.out
      subst h9
      rcases HO.out.2 with ⟨h8, -⟩ | ⟨g, cap, cur, rfl, -, -, -, -, -, -⟩
      · exact absurd h8 HNN.out
      · exact ⟨g, cap, rfl, HO.out, hb⟩

#print axioms enc16_any
end Go.Proofs.Qxb6002373a
