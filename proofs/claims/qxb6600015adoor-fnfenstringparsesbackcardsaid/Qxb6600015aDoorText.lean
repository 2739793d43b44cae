/-
  SEAT b6600015aD: A ROW OF BYTES IN AN ARRAY OF THE CALL's OWN ('var text [21]byte; b := text[:0]; b = append(b, ..)'), APPENDED TO WITHIN ITS CAPACITY: the block bears the array's type, not the element's, so the kit's 'ownsRow' doesn't fit: 'Txt'. And internal/strconv.AppendUint at base 10 onto such a row, after the shelf's own proof, the room given.
-/
import Derived.Shelf.Strconv.AppendUint10
import Derived.Test.Qxb6600015aDoorRows
namespace Go.Proofs.Qxb6600015aDoor
open Go Go.Shelf Go.RowKit Go.Sort Go.Lib

/-- The name of the library's table of powers of ten, as the rows name it. -/
def powName : String := Rows.fnFenStringParsesBackRow.named.headD Rows.fnFenStringParsesBackRow.spec

/-- Block g, an array of 'cap' one-cell elements under the type T, nothing of it frozen, holds the n cells xs at its head. -/
def Txt (w : World) (g : Nat) (T : TypeId) (cap n : Nat) (xs : List Value) : Prop :=
  xs.length = n ∧ n ≤ cap ∧ ∃ cur : Array Value, w.heap[g]? = some (.cells cur T (0, 0)) ∧ cur.size = cap ∧ cur.toList.take n = xs

section
variable {w : World} {g : Nat} {T : TypeId} {cap n : Nat} {xs : List Value}

theorem Txt.lt (h : Txt w g T cap n xs) : g < w.heap.size := by
  obtain ⟨_, _, cur, hg, _⟩ := h
  exact (Array.getElem?_eq_some_iff.1 hg).1

theorem Txt.kept {w' : World} (h : Txt w g T cap n xs) (hb : w'.heap[g]? = w.heap[g]?) : Txt w' g T cap n xs := by
  obtain ⟨h1, h2, cur, hg, h3⟩ := h
  exact ⟨h1, h2, cur, hb.trans hg, h3⟩

theorem Txt.alloc (h : Txt w g T cap n xs) (o : Obj) : Txt (w.alloc o) g T cap n xs := h.kept (Below.heap_alloc w o g h.lt)

theorem Txt.grow (h : Txt w g T cap n xs) (k : Nat) (os : Array Obj) : Txt (Sort.grow (w.drewN k) os) g T cap n xs := h.kept (heap_grow_old w k os g h.lt)

theorem Txt.new (w : World) (T : TypeId) (cur : Array Value) : Txt (w.alloc (.cells cur T)) w.heap.size T cur.size 0 [] :=
  ⟨rfl, Nat.zero_le _, cur, heap_alloc_new w _, rfl, by simp⟩

theorem Txt.made (w : World) (T : TypeId) (cur : Array Value) (cap n : Nat) (xs : List Value) (hc : cur.size = cap) (hx : xs.length = n) (hn : n ≤ cap) (ht : cur.toList.take n = xs) : Txt (w.alloc (.cells cur T)) w.heap.size T cap n xs :=
  ⟨hx, hn, cur, heap_alloc_new w _, hc, ht⟩

theorem Txt.cells (h : Txt w g T cap n xs) : ∀ j u, xs[j]? = some u → w.cell? ((⟨g, 0, none⟩ : Addr).add j) = some u := by
  intro j u hu
  obtain ⟨_, _, cur, hg, _, htake⟩ := h
  have hadd : (⟨g, 0, none⟩ : Addr).add j = ⟨g, j, none⟩ := by unfold Addr.add; split <;> simp_all
  rw [hadd, cell_of_row w g j cur T (0, 0) hg]
  rw [← htake, List.getElem?_take] at hu
  split at hu
  · simpa using hu
  · cases hu
end

section
variable {P : Program} (w : World)

/-- 'append' where there is room: the row's block bears whatever type. -/
theorem run_append_txt (t ty e T : TypeId) (i : TypeInfo) (ht : P.underlying t = some (.slice e)) (hi : P.info? e = some i) (hs1 : i.size = 1)
    (g n cap : Nat) (xs : List Value) (h : Txt w g T cap n xs)
    (a : Addr) (m c : Nat) (news : List Value) (hl : news.length = m) (hnews : ∀ j u, news[j]? = some u → w.cell? (a.add j) = some u) (h1 : ∀ u ∈ news, u.oneCell' = true)
    (hroom : n + m ≤ cap) :
    ∃ w', (Builtin.append_ #[t, t] ty #[.slice (some ⟨g, 0, none⟩) n cap, .slice (some a) m c]).run P w = .ok (.slice (some ⟨g, 0, none⟩) (n + m) cap) w' ∧ Txt w' g T cap (n + m) (xs ++ news) ∧ w.grownBy w' (some g) := by
  obtain ⟨hx, hn, cur, hg, hcs, htake⟩ := h
  have hf := run_firstCells_some (P := P) w i.size m a m c news (by rw [hs1]; omega) hnews
  have hst := run_storeCells_at P g n T news 0 cur w hg (by rw [hcs]; omega) h1
  simp only [Nat.add_zero] at hst
  rw [hs1] at hf
  refine ⟨w.setRow g (cur.toList.take n ++ news ++ cur.toList.drop (n + news.length)).toArray, ?_, ⟨by simp [hx, hl], hroom, _, setRow_heap w g cur _ T _ hg, ?_, ?_⟩, ⟨rfl, rfl, rfl, by simp, fun k _ hk => setRow_other w g k _ (fun e => hk (by simp [e]))⟩⟩
  · simp [Builtin.append_, run_underlying ht, sizeOf, typeInfo, hi, hs1, Builtin.lenOf, hroom, hf, Addr.add_lit, hst]
  · simp only [List.size_toArray, List.length_append, List.length_take, List.length_drop, Array.length_toList]
    omega
  · rw [htake]
    have : n + m = (xs ++ news).length := by simp [hx, hl]
    rw [this]
    exact List.take_left

theorem run_append_txt_string (t u ty e T : TypeId) (i : TypeInfo) (ht : P.underlying t = some (.slice e)) (hu : P.underlying u = some .string) (hi : P.info? e = some i) (hs1 : i.size = 1)
    (g n cap : Nat) (xs : List Value) (h : Txt w g T cap n xs) (s : ByteArray) (hroom : n + s.size ≤ cap) :
    ∃ w', (Builtin.append_ #[t, u] ty #[.slice (some ⟨g, 0, none⟩) n cap, .string s]).run P w = .ok (.slice (some ⟨g, 0, none⟩) (n + s.size) cap) w' ∧ Txt w' g T cap (n + s.size) (xs ++ strCells s) ∧ w.grownBy w' (some g) := by
  obtain ⟨hx, hn, cur, hg, hcs, htake⟩ := h
  have hf := run_firstCells_string (P := P) w 1 s
  have hst := run_storeCells_at P g n T (strCells s) 0 cur w hg (by rw [strCells_length, hcs]; omega) (strCells_oneCell s)
  simp only [Nat.add_zero] at hst
  refine ⟨w.setRow g (cur.toList.take n ++ strCells s ++ cur.toList.drop (n + (strCells s).length)).toArray, ?_, ⟨by simp [hx, strCells_length], hroom, _, setRow_heap w g cur _ T _ hg, ?_, ?_⟩, ⟨rfl, rfl, rfl, by simp, fun k _ hk => setRow_other w g k _ (fun e => hk (by simp [e]))⟩⟩
  · simp [Builtin.append_, run_underlying ht, run_underlying hu, sizeOf, typeInfo, hi, hs1, Builtin.lenOf, hroom, hf, Addr.add_lit, hst]
  · simp only [List.size_toArray, List.length_append, List.length_take, List.length_drop, Array.length_toList, strCells_length]
    omega
  · rw [htake]
    have : n + s.size = (xs ++ strCells s).length := by simp [hx, strCells_length]
    rw [this]
    exact List.take_left

theorem wpList_append_txt {ops : Array Oper} {rest : List Oper} {o : Oper} {a : Act} {Q : Exit → Act → World → Prop} (hgd : o.guard = none) (s x : Operand) (t : TypeId)
    (ho : o.op = .call { callee := .builtin .append, args := #[s, x], argTypes := #[t, t] })
    (e T : TypeId) (i : TypeInfo) (ht : P.underlying t = some (.slice e)) (hi : P.info? e = some i) (hs1 : i.size = 1)
    (g n cap : Nat) (xs : List Value) (hs : a.eval s = .slice (some ⟨g, 0, none⟩) n cap) (hown : Txt w g T cap n xs)
    (ad : Addr) (m c : Nat) (news : List Value) (hx : a.eval x = .slice (some ad) m c) (hl : news.length = m) (hnews : ∀ j u, news[j]? = some u → w.cell? (ad.add j) = some u) (h1 : ∀ u ∈ news, u.oneCell' = true)
    (hroom : n + m ≤ cap)
    (h : ∀ w', Txt w' g T cap (n + m) (xs ++ news) → w.grownBy w' (some g) → wpList P ops Q rest (a.put o.dst (.slice (some ⟨g, 0, none⟩) (n + m) cap)) w') : wpList P ops Q (o :: rest) a w := by
  refine wpList_plain hgd fun K hK => ?_
  obtain ⟨w', hr, h2, h3⟩ := run_append_txt (P := P) w t o.type e T i ht hi hs1 g n cap xs hown ad m c news hl hnews h1 hroom
  unfold Oper.wp execOp
  simp only [ho, resolve, invoke, builtin, Sem.run_bind, Sem.run_pure, Result.andThen_ok, List.map_toArray, List.map_cons, List.map_nil, hs, hx, hr]
  exact hK _ _ (h w' h2 h3)

theorem wpList_append_txt_string {ops : Array Oper} {rest : List Oper} {o : Oper} {a : Act} {Q : Exit → Act → World → Prop} (hgd : o.guard = none) (sl x : Operand) (t u : TypeId)
    (ho : o.op = .call { callee := .builtin .append, args := #[sl, x], argTypes := #[t, u] })
    (e T : TypeId) (i : TypeInfo) (ht : P.underlying t = some (.slice e)) (hu : P.underlying u = some .string) (hi : P.info? e = some i) (hs1 : i.size = 1)
    (g n cap : Nat) (xs : List Value) (hs : a.eval sl = .slice (some ⟨g, 0, none⟩) n cap) (hown : Txt w g T cap n xs) (s : ByteArray) (hx : a.eval x = .string s) (hroom : n + s.size ≤ cap)
    (h : ∀ w', Txt w' g T cap (n + s.size) (xs ++ strCells s) → w.grownBy w' (some g) → wpList P ops Q rest (a.put o.dst (.slice (some ⟨g, 0, none⟩) (n + s.size) cap)) w') : wpList P ops Q (o :: rest) a w := by
  refine wpList_plain hgd fun K hK => ?_
  obtain ⟨w', hr, h2, h3⟩ := run_append_txt_string (P := P) w t u o.type e T i ht hu hi hs1 g n cap xs hown s hroom
  unfold Oper.wp execOp
  simp only [ho, resolve, invoke, builtin, Sem.run_bind, Sem.run_pure, Result.andThen_ok, List.map_toArray, List.map_cons, List.map_nil, hs, hx, hr]
  exact hK _ _ (h w' h2 h3)
end

variable {P : Program} {ρ : Ren}

set_option maxHeartbeats 6400000 in
set_option maxRecDepth 100000 in
/-- internal/strconv.AppendUint(dst, i, 10), i BELOW 100, dst a row of the caller's array with room. -/
theorem appendUint_small (L : LaysM.n288 P ρ) (T : TypeId) (g n u : Nat) (hu : u < 100) (xs : List Value) (w : World) (hown : Txt w g T 21 n xs) (hroom : n + (Lib.decDigits u).length ≤ 21) :
    Calls P (ρ.f 288) #[.slice (some ⟨g, 0, none⟩) n 21, .int .u64 u, .int .i64 10] w fun e w' => e = .returned (.slice (some ⟨g, 0, none⟩) (n + (Lib.decDigits u).length) 21) ∧ Txt w' g T 21 (n + (Lib.decDigits u).length) (xs ++ Lib.byteCells (Lib.decDigits u)) ∧ Below g w w' := by
  have mixed := L.mixed
  have t5 := L.t5; have a5 := L.a5; have z5 := L.z5; have v5 := L.v5
  have t37 := L.t37; have u37 := run_underlying L.t37; have a37 := L.a37; have z37 := L.z37; have v37 := L.v37
  have t53 := L.t53; have a53 := L.a53; have z53 := L.z53; have v53 := L.v53
  have t3 := L.t3; have a3 := L.a3; have z3 := L.z3; have v3 := L.v3
  have t4 := L.t4; have a4 := L.a4; have z4 := L.z4; have v4 := L.v4
  have t9 := L.t9; have a9 := L.a9; have z9 := L.z9; have v9 := L.v9
  have t171 := L.t171; have a171 := L.a171; have z171 := L.z171; have v171 := L.v171
  have t0 := L.t0; have a0 := L.a0; have z0 := L.z0; have v0 := L.v0
  have t173 := L.t173; have a173 := L.a173; have z173 := L.z173; have v173 := L.v173
  have e283 : ∀ args w, (callFunc (ρ.f 283) args).run P w = .ok (.enter (ρ.f 283) args) w := enters_of L.f283 (by kernel_rfl) rfl
  obtain ⟨i0, hi, hz0, hz1, hz2⟩ := info_parts L.i5
  have hsz : (⟨(Lib.decDigits u).toArray⟩ : ByteArray).size = (Lib.decDigits u).length := by simp [ByteArray.size]
  go_enter L.f288, Body.n288_ntmps ρ
  go_wp2_with (first
    | (go_at_fn (ρ.f 283); refine (Any.internal_strconv_small { L with } u hu _).mono ?_; rintro e w' ⟨rfl, rfl⟩)
    | (at_builtin; refine wpList_append_txt_string _ rfl _ _ (ρ.t 37) (ρ.t 9) rfl (ρ.t 5) T i0 L.t37 L.t9 hi hz1 g n 21 xs rfl hown ⟨(Lib.decDigits u).toArray⟩ rfl (by rw [hsz]; exact hroom) ?_))
  intro w1 hown' hgrow
  go_wp2
  go_ret
  exact ⟨rfl, hown', (Below.refl g _).grown hgrow (Nat.le_of_lt hown.lt) (fun k hk => by have := Option.some.inj hk; omega)⟩

set_option maxHeartbeats 12800000 in
set_option maxRecDepth 100000 in
/-- internal/strconv.AppendUint(dst, i, 10), i FROM 100 ON: likewise. -/
theorem appendUint_big (L : LaysM.n288 P ρ) (T : TypeId) (g n u : Nat) (hu : 100 ≤ u) (hu64 : u < 18446744073709551616) (xs : List Value) (w : World) (hown : Txt w g T 21 n xs) (hroom : n + (Lib.decDigits u).length ≤ 21)
    (htab : Lib.TabIs P w powName .u64 Lib.pow10Tab) :
    Calls P (ρ.f 288) #[.slice (some ⟨g, 0, none⟩) n 21, .int .u64 u, .int .i64 10] w fun e w' => e = .returned (.slice (some ⟨g, 0, none⟩) (n + (Lib.decDigits u).length) 21) ∧ Txt w' g T 21 (n + (Lib.decDigits u).length) (xs ++ Lib.byteCells (Lib.decDigits u)) ∧ Below g w w' := by
  have mixed := L.mixed
  have t5 := L.t5; have a5 := L.a5; have z5 := L.z5; have v5 := L.v5
  have t37 := L.t37; have u37 := run_underlying L.t37; have a37 := L.a37; have z37 := L.z37; have v37 := L.v37
  have t53 := L.t53; have a53 := L.a53; have z53 := L.z53; have v53 := L.v53
  have t3 := L.t3; have a3 := L.a3; have z3 := L.z3; have v3 := L.v3
  have t4 := L.t4; have a4 := L.a4; have z4 := L.z4; have v4 := L.v4
  have t9 := L.t9; have a9 := L.a9; have z9 := L.z9; have v9 := L.v9
  have t171 := L.t171; have a171 := L.a171; have z171 := L.z171; have v171 := L.v171
  have t0 := L.t0; have a0 := L.a0; have z0 := L.z0; have v0 := L.v0
  have t173 := L.t173; have a173 := L.a173; have z173 := L.z173; have v173 := L.v173
  have e284 : ∀ args w, (callFunc (ρ.f 284) args).run P w = .ok (.enter (ρ.f 284) args) w := enters_of L.f284 (by kernel_rfl) rfl
  have e285 : ∀ args w, (callFunc (ρ.f 285) args).run P w = .ok (.enter (ρ.f 285) args) w := enters_of L.f285 (by kernel_rfl) rfl
  obtain ⟨i0, hi, hz0, hz1, hz2⟩ := info_parts L.i5
  have hu1 : 1 ≤ u := by omega
  have hnd20 : Lib.nDigits u ≤ 20 := by have := Lib.numDigits_eq u hu1 hu64; split at this <;> omega
  have hal : P.arrayLen (ρ.t 171) = 24 := by simp [Program.arrayLen, L.t171]
  have hsl : ∀ W, (Instr.sliceAt (ρ.t 171) (.pointer (some ⟨w.heap.size, 0, none⟩)) none (some (.int .i64 (Lib.nDigits u : Int))) none).run P W = .ok (.slice (some ⟨w.heap.size, 0, none⟩) (Lib.nDigits u) 24) W := fun W => by
    rw [run_sliceAt_array_h W (ρ.t 171) ⟨w.heap.size, 0, none⟩ (by simp [Program.arrayLen, Program.elem, L.t171]) .i64 (Lib.nDigits u : Int) (by omega) (by rw [hal]; omega)]
    go_simp
  have hH0 := Lib.holds_zero0 w (ρ.t 171) (Lib.nDigits u) (by omega)
  have hfmt := Any.internal_strconv_formatBase10 { L with } w.heap.size 0 24 u (Array.replicate (Lib.nDigits u) 0) (w.alloc (.cells Lib.zeros24 (ρ.t 171))) hH0 (by rw [Array.size_replicate]; exact Lib.lt_pow_nDigits u) hu64 (by rw [Array.size_replicate]; omega)
  rw [Array.size_replicate] at hfmt
  have HH0 := Lib.hid hH0
  have iu : (100 : Int) ≤ (u : Int) := by omega
  clear hH0 hal
  go_enter L.f288, Body.n288_ntmps ρ
  go_wp2_with (first
    | (go_at_fn (ρ.f 284); refine (Any.internal_strconv_numDigits { L with } u hu1 hu64 _ (Lib.tabIs_alloc htab _)).mono ?_; rintro e w' ⟨rfl, rfl⟩))
  go_at_fn (ρ.f 285)
  refine hfmt.mono ?_
  rintro e w' ⟨rfl, k, v', dk, rfl, hF⟩
  have hcells : ∀ j u', (Lib.byteCells (Lib.decDigits u))[j]? = some u' → ((putRow (fun (b : UInt8) => Value.int .u8 (b.toNat : Int)) (w.alloc (.cells Lib.zeros24 (ρ.t 171))) w.heap.size 0 dk).drewN k).cell? ((⟨w.heap.size, 0, none⟩ : Addr).add j) = some u' := by
    intro j u' hj
    have hjl : j < (Lib.decDigits u).length := by
      have h5 := (List.getElem?_eq_some_iff.1 hj).1
      rwa [Lib.byteCells_length] at h5
    have e5 : (Lib.byteCells (Lib.decDigits u))[j]? = some (Value.int .u8 ((Lib.decDigits u)[j].toNat : Int)) := by simp [Lib.byteCells, hjl]
    rw [e5] at hj
    cases hj
    rw [Lib.row_is_numeral hF j hjl, Lib.add_plain, World.cell?_drewN]
    exact cell?_putRow (fun (b : UInt8) => Value.int .u8 (b.toNat : Int)) _ w.heap.size 0 _ dk HH0.out (by rw [hF.size, Array.size_replicate]) j (by rw [hF.size]; rw [Lib.decDigits_length] at hjl; exact hjl)
  obtain ⟨os, eo⟩ := Lib.fin_at w (.cells Lib.zeros24 (ρ.t 171)) dk k 0
  have hown2 : Txt ((putRow (fun (b : UInt8) => Value.int .u8 (b.toNat : Int)) (w.alloc (.cells Lib.zeros24 (ρ.t 171))) w.heap.size 0 dk).drewN k) g T 21 n xs := by rw [eo]; exact hown.grow k os
  have hnx2 : Below g w ((putRow (fun (b : UInt8) => Value.int .u8 (b.toNat : Int)) (w.alloc (.cells Lib.zeros24 (ρ.t 171))) w.heap.size 0 dk).drewN k) := by rw [eo]; exact Lib.below_grow g w (Nat.le_of_lt hown.lt) k os
  generalize (putRow (fun (b : UInt8) => Value.int .u8 (b.toNat : Int)) (w.alloc (.cells Lib.zeros24 (ρ.t 171))) w.heap.size 0 dk).drewN k = W2 at hcells hown2 hnx2 ⊢
  clear eo HH0 hfmt
  go_wp2_with (at_builtin; refine wpList_append_txt _ rfl _ _ (ρ.t 37) rfl (ρ.t 5) T i0 L.t37 hi hz1 g n 21 xs rfl hown2 ⟨w.heap.size, 0, none⟩ (Lib.nDigits u) 24 (Lib.byteCells (Lib.decDigits u)) rfl ?c0 hcells ?c2 ?c3 ?_)
  case c0 => rw [Lib.byteCells_length, Lib.decDigits_length]
  case c2 => intro u' hu'; simp only [Lib.byteCells, List.mem_map] at hu'; obtain ⟨b, _, rfl⟩ := hu'; rfl
  case c3 => rw [Lib.decDigits_length] at hroom; exact hroom
  intro w3 hown' hgrow
  go_wp2
  go_ret
  rw [Lib.decDigits_length]
  exact ⟨rfl, hown', hnx2.grown hgrow (Nat.le_of_lt hown2.lt) (fun k hk => by have := Option.some.inj hk; omega)⟩

/-- THE TWO TOGETHER. -/
theorem appendUint_any (L : LaysM.n288 P ρ) (T : TypeId) (g n u : Nat) (hu64 : u < 18446744073709551616) (xs : List Value) (w : World) (hown : Txt w g T 21 n xs) (hroom : n + (Lib.decDigits u).length ≤ 21)
    (htab : Lib.TabIs P w powName .u64 Lib.pow10Tab) :
    Calls P (ρ.f 288) #[.slice (some ⟨g, 0, none⟩) n 21, .int .u64 u, .int .i64 10] w fun e w' => e = .returned (.slice (some ⟨g, 0, none⟩) (n + (Lib.decDigits u).length) 21) ∧ Txt w' g T 21 (n + (Lib.decDigits u).length) (xs ++ Lib.byteCells (Lib.decDigits u)) ∧ Below g w w' := by
  by_cases h : u < 100
  · exact appendUint_small L T g n u h xs w hown hroom
  · exact appendUint_big L T g n u (by omega) hu64 xs w hown hroom htab

#print axioms appendUint_any
end Go.Proofs.Qxb6600015aDoor
