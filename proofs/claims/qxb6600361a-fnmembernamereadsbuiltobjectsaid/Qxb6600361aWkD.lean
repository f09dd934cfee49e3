import Derived.Test.Qxb6600361aWkC
namespace Go.Proofs.Qxb6600361a
open Go.RowKit

/-! ### a []byte that the call itself builds -/
/-- the slice value (ao, xs.length, cp) owns the bytes xs, in a block from 'base' on -/
def Own (w : World) (base : Nat) (ao : Option Addr) (cp : Nat) (xs : List Int) : Prop := w.ownsRow base 5 1 (.slice ao xs.length cp) xs.length (xs.map (Value.int .u8))

theorem Own.alloc {w : World} {base : Nat} {ao : Option Addr} {cp : Nat} {xs : List Int} (h : Own w base ao cp xs) (o : Obj) : Own (w.alloc o) base ao cp xs := World.ownsRow.alloc h o
/-- nothing that was there has turned: what was owned is owned -/
theorem Own.below {w w' : World} {base : Nat} {ao : Option Addr} {cp : Nat} {xs : List Int} (h : Own w base ao cp xs) (hb : Below w.heap.size w w') : Own w' base ao cp xs := by
  refine ⟨h.1, ?_⟩
  rcases h.2 with hn | ⟨g, cap, cur, e, hbg, hgg, rest⟩
  · exact .inl hn
  · exact .inr ⟨g, cap, cur, e, hbg, by rw [hb.block g (Array.getElem?_eq_some_iff.1 hgg).1]; exact hgg, rest⟩
theorem Own.nil (w : World) (base : Nat) : Own w base none 0 [] := World.ownsRow_nil _ _ _ _
theorem Own.form {w : World} {base : Nat} {v : Value} {n : Nat} {xs : List Int} (h : w.ownsRow base 5 1 v n (xs.map (Value.int .u8))) : ∃ ao cp, v = .slice ao xs.length cp ∧ n = xs.length ∧ Own w base ao cp xs := by
  have hl : n = xs.length := by have := h.1; simpa using this.symm
  subst hl
  rcases h.2 with ⟨rfl, h0⟩ | ⟨g, cap, cur, rfl, _⟩
  · exact ⟨none, 0, by rw [h0], rfl, by unfold Own; rw [h0] at h ⊢; exact h⟩
  · exact ⟨_, _, rfl, rfl, h⟩
/-- what is owned reads so -/
theorem Own.data {w : World} {base : Nat} {ao : Option Addr} {cp : Nat} {xs : List Int} (h : Own w base ao cp xs) (hr : ∀ c ∈ xs, 0 ≤ c ∧ c ≤ 255) (hl : xs.length ≤ 1099511627776) : D4 w ao xs cp ∧ ∀ x, ao = some x → base ≤ x.block := by
  have rng : ∀ i, 0 ≤ xs.getD i 0 ∧ xs.getD i 0 ≤ 255 := by
    intro i
    by_cases hi : i < xs.length
    · have := hr _ (List.getElem_mem hi); simpa [List.getD, hi] using this
    · simp [List.getD, List.getElem?_eq_none (by omega : xs.length ≤ i)]
  have h' := h
  rcases h.2 with ⟨e, h0⟩ | ⟨g, cap, cur, e, hb, hg, h1, h2, h3, h4⟩
  · simp only [Value.slice.injEq] at e
    obtain ⟨rfl, _, rfl⟩ := e
    exact ⟨⟨fun i hi => by omega, rng, hl, by omega, by unfold maxLen; omega⟩, fun x hx => by cases hx⟩
  · simp only [Value.slice.injEq] at e
    obtain ⟨rfl, _, rfl⟩ := e
    refine ⟨⟨fun i hi => ⟨g, rfl, fun j hj => ?_⟩, rng, hl, h1, h2⟩, fun x hx => by cases hx; exact hb⟩
    unfold Own at h'
    rw [h'.cellAt j (by omega)]
    simp [List.getD, hj]

theorem info5 : (Try.prog.info? 5).map (fun i => (i.zero, i.size, i.bytes)) = some (some (.int .u8 0), 1, 1) := by kernel_rfl

/-- append(xs, ys...): a law for the walk -/
theorem wpList_app (w : World) {ops : Array Oper} {rest : List Oper} {o : Oper} {a : Act} {Q : Exit → Act → World → Prop} (hgd : o.guard = none) (s x : Operand)
    (ho : o.op = .call { callee := .builtin .append, args := #[s, x], argTypes := #[22, 22] })
    (base : Nat) (ao : Option Addr) (cp : Nat) (xs : List Int) (hs : a.eval s = .slice ao xs.length cp) (hown : Own w base ao cp xs)
    (ad : Addr) (m c : Nat) (ys : List Int) (hx : a.eval x = .slice (some ad) m c) (hm : ys.length = m) (hnews : ∀ j, j < ys.length → w.cell? (ad.add j) = some (.int .u8 (ys.getD j 0)))
    (hlen : xs.length + ys.length ≤ 140737488355328) (hbase : base ≤ w.heap.size)
    (h : ∀ ao' cp' xs' w', Hid (xs' = xs ++ ys) → xs'.length ≤ xs.length + ys.length → Own w' base ao' cp' xs' → Below base w w' → wpList Try.prog ops Q rest (a.put o.dst (.slice ao' xs'.length cp')) w') : wpList Try.prog ops Q (o :: rest) a w := by
  obtain ⟨i0, hi, hz0, hz1, hz2⟩ := info_parts info5
  subst hm
  refine wpList_append_own w hgd s x 22 ho base 5 i0 (.int .u8 0) 1 1 Try.underlying22 hi hz0 hz1 hz2 rfl (by decide) _ xs.length (xs.map (Value.int .u8)) hs hown ad ys.length c (ys.map (Value.int .u8)) hx (by simp) ?_ (ints_oneCell _ _) (by unfold maxLen; omega) (by omega) hbase ?_
  · intro j u hj
    have hjl : j < ys.length := by have := (List.getElem?_eq_some_iff.1 hj).1; simpa using this
    rw [hnews j hjl]
    simp only [List.getElem?_map, List.getElem?_eq_getElem hjl, Option.map_some] at hj
    simpa [List.getD, hjl] using hj
  · intro v' w' hown' hgrow _
    rw [← List.map_append] at hown'
    obtain ⟨ao', cp', rfl, _, ho'⟩ := Own.form hown'
    exact h ao' cp' (xs ++ ys) w' rfl (by simp) ho' ((Below.refl _ _).grown hgrow hbase (fun k hk => (World.ownsRow.lt hown k hk).1))

/-- append(xs, c): one byte, laid in a new block first -/
theorem one_news (w : World) (c : Int) (t : TypeId) : ∀ j, j < [c].length → (w.alloc (.cells #[.int .u8 c] t)).cell? (Addr.add ⟨w.heap.size, 0, none⟩ j) = some (.int .u8 ([c].getD j 0)) := by
  intro j hj
  simp at hj; subst hj
  simp [Addr.add]

/-! ### the law's own writer of a number -/
/-- THE DIGITS OF u: what the law's own writer of numbers appends. -/
structure Dec (u : Int) (ds : List Int) : Prop where
  ne : ds ≠ []
  len : ds.length ≤ 20
  dig : ∀ c ∈ ds, isD c = true
  zero : u = 0 → ds = [48]
  lead : u ≠ 0 → hd 48 ds = false

/-- the writer's room: from k on it holds the digits ds -/
def Buf (w : World) (B k : Nat) (ds : List Int) : Prop := ∃ cur, w.heap[B]? = some (.cells cur 59 (0, 0)) ∧ cur.size = 20 ∧ cur.toList.drop k = ds.map (Value.int .u8)

/-- at the head of a round: x is left to be written, ds are written -/
structure Half (u x : Int) (k : Nat) (ds : List Int) : Prop where
  x0 : 0 ≤ x
  xk : x < (10 : Int) ^ k
  xu : x ≤ u
  k20 : k ≤ 20
  len : ds.length + k = 20
  dig : ∀ c ∈ ds, isD c = true
  alt : (k = 20 ∧ x = u ∧ ds = []) ∨ (x ≠ 0 ∧ u ≠ 0)

theorem Half.pos {u x : Int} {k : Nat} {ds : List Int} (h : Half u x k ds) : ∃ j, k = j + 1 := by
  cases k with
  | succ j => exact ⟨j, rfl⟩
  | zero =>
    have := h.xk; have := h.x0; simp at *
    rcases h.alt with ⟨h, _⟩ | ⟨h, _⟩ <;> omega

theorem Half.next {u x : Int} {j : Nat} {ds : List Int} (h : Half u x (j + 1) ds) (hx : x / 10 ≠ 0) : Half u (x / 10) j ((48 + x % 10) :: ds) := by
  have hxk := h.xk; have hx0 := h.x0; have hl := h.len; have hk := h.k20
  rw [Int.pow_succ] at hxk
  have hxu := h.xu
  refine ⟨by omega, by omega, by omega, by omega, by simp; omega, ?_, .inr ⟨hx, ?_⟩⟩
  · intro c hc
    rcases List.mem_cons.1 hc with rfl | hc
    · rw [isD_iff]; omega
    · exact h.dig c hc
  · rcases h.alt with ⟨_, rfl, _⟩ | ⟨_, h⟩
    · omega
    · exact h

theorem Half.last {u x : Int} {j : Nat} {ds : List Int} (h : Half u x (j + 1) ds) (hx : x / 10 = 0) : Dec u ((48 + x % 10) :: ds) := by
  have hx0 := h.x0; have hl := h.len; have hk := h.k20
  refine ⟨by simp, by simp; omega, ?_, ?_, ?_⟩
  · intro c hc
    rcases List.mem_cons.1 hc with rfl | hc
    · rw [isD_iff]; omega
    · exact h.dig c hc
  · intro hu
    rcases h.alt with ⟨_, rfl, rfl⟩ | ⟨_, h⟩
    · subst hu; rfl
    · exact absurd hu h
  · intro hu
    simp only [hd, beq_eq_false_iff_ne, ne_eq]
    rcases h.alt with ⟨_, rfl, rfl⟩ | ⟨h, _⟩ <;> omega

theorem Half.start {u : Int} (h0 : 0 ≤ u) (h1 : u < 18446744073709551616) : Half u u 20 [] := ⟨h0, Int.lt_trans h1 (by decide), Int.le_refl _, by omega, by simp, by simp, .inl ⟨rfl, rfl, rfl⟩⟩

theorem Buf.set {w : World} {B j : Nat} {ds : List Int} (h : Buf w B (j + 1) ds) (hj : j < 20) (c : Int) : Buf (w.setCell ⟨B, j, none⟩ (.int .u8 c)) B j (c :: ds) := by
  obtain ⟨cur, h1, h2, h3⟩ := h
  refine ⟨cur.setIfInBounds j (.int .u8 c), heap_setCell_same w B j cur 59 _ h1, by simpa using h2, ?_⟩
  rw [Array.toList_setIfInBounds, List.drop_eq_getElem_cons (by simp; omega), List.getElem_set_self, List.drop_set_of_lt (by omega), h3]
  rfl

theorem Buf.old {w : World} {B j : Nat} {ds : List Int} (h : Buf w B (j + 1) ds) (hj : j < 20) : (∃ v, w.cell? ⟨B, j, none⟩ = some v) ∧ w.frozen? ⟨B, j, none⟩ = false := by
  obtain ⟨cur, h1, h2, h3⟩ := h
  refine ⟨⟨cur[j]'(by omega), ?_⟩, frozen_of_row w B j cur 59 h1⟩
  rw [cell_of_row w B j cur 59 (0, 0) h1]; simp [h2, hj]

theorem Buf.cell {w : World} {B k : Nat} {ds : List Int} (h : Buf w B k ds) : ∀ j, j < ds.length → w.cell? (Addr.add ⟨B, k, none⟩ j) = some (.int .u8 (ds.getD j 0)) := by
  obtain ⟨cur, h1, h2, h3⟩ := h
  intro j hj
  have e : (cur.toList.drop k)[j]? = some (.int .u8 (ds.getD j 0)) := by rw [h3]; simp [List.getD, hj]
  rw [List.getElem?_drop] at e
  rw [Addr.add_lit, cell_of_row w B (k + j) cur 59 (0, 0) h1, ← Array.getElem?_toList]
  exact e

/-- buf[j:] of the writer's room -/
theorem run_room (W : World) (B j : Nat) (hj : j < 20) : (Instr.sliceAt 59 (.pointer (some ⟨B, 0, none⟩)) (some (.int .i64 j)) none none).run Try.prog W = .ok (.slice (some ⟨B, j, none⟩) (20 - j) (20 - j)) W := by
  have e1 : Try.prog.arrayLen 59 = 20 := by kernel_rfl
  have e2 : Try.prog.elem 59 = 5 := by kernel_rfl
  have e3 : Try.prog.underlying 59 = some (.array (Try.prog.arrayLen 59) (Try.prog.elem 59)) := by kernel_rfl
  obtain ⟨i0, hi, hz0, hz1, hz2⟩ := info_parts info5
  rw [run_sliceAt_array_l W 59 ⟨B, 0, none⟩ e3 .i64 (j : Int) (by omega) (by rw [e1]; omega), e1, e2]
  simp [sizeOf, typeInfo, hi, hz1, slicedAt, Addr.add_lit, show ¬ 20 = j by omega, Result.andThen]

set_option maxHeartbeats 1000000 in
theorem appendUint_any (base : Nat) (ao : Option Addr) (cp : Nat) (xs : List Int) (u : Int) (w : World) (hown : Own w base ao cp xs) (hb : base ≤ w.heap.size)
    (hu0 : 0 ≤ u) (hu1 : u < 18446744073709551616) (hn : xs.length ≤ 1099511627776) :
    Calls Try.prog 21 #[.slice ao xs.length cp, .int .u64 u] w fun e w' => ∃ ao' cp' xs' ds, e = .returned (.slice ao' xs'.length cp') ∧ Hid (xs' = xs ++ ds ∧ Dec u ds) ∧ xs'.length ≤ xs.length + 20 ∧ Own w' base ao' cp' xs' ∧ Below base w w' := by
  go_enter Try.func21, Try.ntmps21
  go_wp2
  go_loopg [1, 6] 20 (fun k v i wr => ∃ x ds, v = .int .u64 x ∧ i = .int .i64 k ∧ Half u x k ds ∧ Buf wr w.heap.size k ds ∧ Below w.heap.size w wr ∧ w.heap.size < wr.heap.size)
  case atStart => exact ⟨u, [], rfl, rfl, Half.start hu0 hu1, ⟨_, heap_alloc_new w _, by rfl, by rfl⟩, (Below.refl _ _).alloc (Nat.le_refl _) _, by simp⟩
  case round =>
    obtain ⟨x, ds, rfl, rfl, hH, hB, hbel, hsz⟩ := hrel
    obtain ⟨j, rfl⟩ := hH.pos
    have hj : j < 20 := by have := hH.k20; omega
    have hx0 := hH.x0
    have hx1 : x < 18446744073709551616 := by have := hH.xu; omega
    obtain ⟨⟨c, hc⟩, hf⟩ := hB.old hj
    have hsl := fun W => run_room W w.heap.size j hj
    have HH : Hid (Half u x (j + 1) ds ∧ Buf wr w.heap.size (j + 1) ds) := ⟨hH, hB⟩
    clear hH hB
    by_cases hx : x < 10
    · have hlen : ((48 + x % 10) :: ds).length = 20 - j := by have := HH.out.1.len; simp; omega
      have HL : Hid (((48 + x % 10) :: ds).length = 20 - j) := hlen
      clear hlen
      go_wp2_with (at_builtin; refine wpList_app _ rfl (.tmp 19) (.tmp 21) rfl base ao cp xs rfl (hown.below (hbel.setCell (by simp) _)) ⟨w.heap.size, j, none⟩ (20 - j) (20 - j) ((48 + x % 10) :: ds) rfl HL.out (HH.out.2.set hj _).cell (by have := HL.out; omega) (by simp; omega) ?_; intro ao' cp' xs' w' hX hlx hO' hB')
      go_ret
      have hl20 := HL.out
      exact ⟨ao', cp', xs', _, rfl, ⟨hX.out, HH.out.1.last (by omega)⟩, by omega, hO', ((hbel.setCell (by simp) _).mono hb).trans hB'⟩
    · go_wp2
      go_roundg j
      case measure => omega
      case rel => exact ⟨x / 10, (48 + x % 10) :: ds, by go_num, by go_num, HH.out.1.next (by omega), HH.out.2.set hj _, hbel.setCell (by simp) _, by simpa using hsz⟩
end Go.Proofs.Qxb6600361a
