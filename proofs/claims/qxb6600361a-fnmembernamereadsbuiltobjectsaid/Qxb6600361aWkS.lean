import Derived.Test.Qxb6600361aWkR
import Derived.Lib.SliceRun
namespace Go.Proofs.Qxb6600361a
open Go.RowKit

/-- A SLICE THAT CAME IN, whatever its elements: nil; or a row of 'cap' cells. -/
def IsVec (w : World) (a : Option Addr) (len cap : Nat) (f : Nat → Value) : Prop :=
  (a = none ∧ len = 0 ∧ cap = 0) ∨ ∃ x, a = some x ∧ len ≤ cap ∧ cap ≤ maxLen ∧ ∀ i, i < cap → w.cell? (x.add i) = some (f i)

theorem IsVec.len {w : World} {a : Option Addr} {len cap : Nat} {f : Nat → Value} (h : IsVec w a len cap f) : len ≤ 9223372036854775807 := by
  rcases h with ⟨_, rfl, rfl⟩ | ⟨x, _, h1, h2, _⟩
  · omega
  · unfold maxLen at h2; omega

theorem cells_at {w : World} {a : Addr} {n : Nat} {f : Nat → Value} (h : ∀ i, i < n → w.cell? (a.add i) = some (f i)) (hp : 0 < n) :
    ∃ b off, a = ⟨b, off, none⟩ ∧ ∀ j, j < n → w.cell? ⟨b, off + j, none⟩ = some (f j) := by
  obtain ⟨b, off, spot⟩ := a
  have hspot : spot = none := by simpa [Addr.add] using World.cell?_spot (h 0 hp)
  subst hspot
  exact ⟨b, off, rfl, fun j hj => by have := h j hj; rwa [Addr.add_lit] at this⟩

/-- an element of a slice that came in -/
theorem IsVec.elem {w : World} {a : Option Addr} {len cap : Nat} {f : Nat → Value} (h : IsVec w a len cap f) {j : Nat} (hj : j < len) : ∃ b off, a = some ⟨b, off, none⟩ ∧ w.cell? ⟨b, off + j, none⟩ = some (f j) ∧ len ≤ cap := by
  rcases h with ⟨_, rfl, rfl⟩ | ⟨x, rfl, h1, h2, h3⟩
  · omega
  · obtain ⟨b, off, rfl, hc⟩ := cells_at h3 (by omega)
    exact ⟨b, off, rfl, hc j (by omega), h1⟩

/-- a slice of the call's own, at the head of a block -/
def Vec (w : World) (da : Option Addr) (n : Nat) (f : Nat → Value) : Prop := ∀ j, j < n → ∃ g, da = some ⟨g, 0, none⟩ ∧ w.cell? ⟨g, j, none⟩ = some (f j)
theorem Vec.below {w w' : World} {da : Option Addr} {n : Nat} {f : Nat → Value} (h : Vec w da n f) (hb : Below w.heap.size w w') : Vec w' da n f := by
  intro j hj
  obtain ⟨g, e, hc⟩ := h j hj
  exact ⟨g, e, (hb.cell (p := ⟨g, j, none⟩) (World.block_lt_of_cell? w _ hc)).trans hc⟩

/-- the clone, half made -/
structure Half3 (w wr : World) (e : TypeId) (f : Nat → Value) (n k : Nat) : Prop where
  own : ∃ xs : List Value, wr.ownsRow w.heap.size e 1 (.slice (some ⟨w.heap.size, 0, none⟩) n n) n xs ∧ ∀ j, j < k → xs[j]? = some (f j)
  bel : Below w.heap.size w wr
theorem Half3.cell {w wr : World} {e : TypeId} {f : Nat → Value} {n k : Nat} (h : Half3 w wr e f n k) (hk : k < n) : (∃ v, wr.cell? ⟨w.heap.size, k, none⟩ = some v) ∧ wr.frozen? ⟨w.heap.size, k, none⟩ = false := by
  obtain ⟨xs, h1, h2⟩ := h.own
  refine ⟨⟨xs[k]'(by have := h1.1; omega), ?_⟩, h1.frozenAt k⟩
  rw [h1.cellAt k (by omega)]
  exact List.getElem?_eq_getElem _
theorem Half3.next {w wr : World} {e : TypeId} {f : Nat → Value} {n k : Nat} (h : Half3 w wr e f n k) (hk : k < n) {z : Value} (hz : z = f k) : Half3 w (wr.setCell ⟨w.heap.size, k, none⟩ z) e f n (k + 1) := by
  obtain ⟨xs, h1, h2⟩ := h.own
  obtain ⟨h3, h4⟩ := h1.stored k z
  refine ⟨⟨_, h3, fun j hj => ?_⟩, h.bel.setCell (by simp) _⟩
  by_cases e : j = k
  · subst e
    have := h1.1
    rw [List.getElem?_set_self (by omega), hz]
  · rw [List.getElem?_set_ne (by omega)]
    exact h2 j (by omega)
theorem Half3.done {w wr : World} {e : TypeId} {f : Nat → Value} {n : Nat} (h : Half3 w wr e f n n) : Vec wr (some ⟨w.heap.size, 0, none⟩) n f := by
  obtain ⟨xs, h1, h2⟩ := h.own
  intro j hj
  exact ⟨_, rfl, by rw [h1.cellAt j (by omega)]; exact h2 j hj⟩

theorem info9 : (Try.prog.info? 9).map (fun i => (i.zero, i.size, i.bytes)) = some (some (.string ByteArray.empty), 1, 16) := by kernel_rfl
theorem info2 : (Try.prog.info? 2).map (fun i => (i.zero, i.size, i.bytes)) = some (some (.int .i64 0), 1, 8) := by kernel_rfl
theorem info3 : (Try.prog.info? 3).map (fun i => (i.zero, i.size, i.bytes)) = some (some (.int .i64 0), 1, 8) := by kernel_rfl

theorem cloneStrings_nil (w : World) : Calls Try.prog 23 #[.slice none 0 0] w fun e w' => e = .returned (.slice none 0 0) ∧ w' = w := by
  have hnil := fun W => Lib.run_eql_slice_nil (P := Try.prog) W 44 9 none 0 0 0 0 Try.underlying44
  go_enter Try.func23, Try.ntmps23
  go_wp2
  go_ret
  exact ⟨rfl, rfl⟩

set_option maxHeartbeats 1000000 in
theorem cloneStrings_any {a : Option Addr} {len cap : Nat} (ss : Nat → ByteArray) {w : World} (h : IsVec w a len cap (fun i => .string (ss i))) (hl : len ≤ 1048576) :
    Calls Try.prog 23 #[.slice a len cap] w fun e w' => ∃ da cp, e = .returned (.slice da len cp) ∧ Vec w' da len (fun i => .string (ss i)) ∧ Below w.heap.size w w' := by
  obtain ⟨i0, hi, hz0, hz1, hz2⟩ := info_parts info9
  cases a with
  | none =>
    rcases h with ⟨_, rfl, rfl⟩ | ⟨x, e, _⟩
    · exact (cloneStrings_nil w).mono fun e w' ⟨he, hw⟩ => ⟨none, 0, he, fun j hj => by omega, by subst hw; exact Below.refl _ _⟩
    · cases e
  | some x =>
    have hnil := fun W => Lib.run_eql_slice_nil (P := Try.prog) W 44 9 (some x) len cap 0 0 Try.underlying44
    have hll := h.len
    go_enter Try.func23, Try.ntmps23
    go_wp2_with (at_make; refine wpList_make_full _ rfl (.tmp 8) (.tmp 8) 44 rfl w.heap.size 9 i0 (.string ByteArray.empty) 1 Try.underlying44 hi hz0 hz1 .i64 .i64 _ _ len rfl rfl rfl rfl (by rw [hz2]; omega) (by unfold maxLen; omega) (Nat.le_refl _) ?_; intro w1 hown hgrow)
    clear hnil
    have H0 : Half3 w w1 9 (fun i => .string (ss i)) len 0 := ⟨⟨_, hown, fun j hj => by omega⟩, (Below.refl _ _).grown hgrow (Nat.le_refl _) (fun k hk => by cases hk)⟩
    clear hown hgrow
    go_loopg [4] len (fun k i wr => ∃ j : Nat, k + j = len ∧ i = .int .i64 j ∧ Half3 w wr 9 (fun i => .string (ss i)) len j)
    case atStart => exact ⟨0, by omega, rfl, H0⟩
    case round =>
      clear H0
      obtain ⟨j, hk, rfl, hH⟩ := hrel
      have HK : Hid (gk + j = len) := hk
      by_cases hj : j < len
      · obtain ⟨⟨v, hv⟩, hf⟩ := hH.cell hj
        obtain ⟨b, off, e, hcj, hlc⟩ := h.elem hj
        simp only [Option.some.injEq] at e
        subst e
        rw [← hH.bel.cell (p := ⟨b, off + j, none⟩) (World.block_lt_of_cell? w _ hcj)] at hcj
        have HH : Hid (Half3 w wr 9 (fun i => .string (ss i)) len j) := hH
        clear hH hk h
        go_wp2
        go_roundg (len - (j + 1))
        case measure => have := HK.out; omega
        case rel => exact ⟨j + 1, by omega, by go_num, HH.out.next hj rfl⟩
      · have e : j = len := by omega
        subst e
        clear h
        go_wp2
        go_ret
        exact ⟨_, _, rfl, hH.done, hH.bel⟩

theorem cloneInts_nil (w : World) : Calls Try.prog 24 #[.slice none 0 0] w fun e w' => e = .returned (.slice none 0 0) ∧ w' = w := by
  have hnil := fun W => Lib.run_eql_slice_nil (P := Try.prog) W 45 2 none 0 0 0 0 Try.underlying45
  go_enter Try.func24, Try.ntmps24
  go_wp2
  go_ret
  exact ⟨rfl, rfl⟩

set_option maxHeartbeats 1000000 in
theorem cloneInts_any {a : Option Addr} {len cap : Nat} (vs : Nat → Int) {w : World} (h : IsVec w a len cap (fun i => .int .i64 (vs i))) (hl : len ≤ 1048576) :
    Calls Try.prog 24 #[.slice a len cap] w fun e w' => ∃ da cp, e = .returned (.slice da len cp) ∧ Vec w' da len (fun i => .int .i64 (vs i)) ∧ Below w.heap.size w w' := by
  obtain ⟨i0, hi, hz0, hz1, hz2⟩ := info_parts info2
  cases a with
  | none =>
    rcases h with ⟨_, rfl, rfl⟩ | ⟨x, e, _⟩
    · exact (cloneInts_nil w).mono fun e w' ⟨he, hw⟩ => ⟨none, 0, he, fun j hj => by omega, by subst hw; exact Below.refl _ _⟩
    · cases e
  | some x =>
    have hnil := fun W => Lib.run_eql_slice_nil (P := Try.prog) W 45 2 (some x) len cap 0 0 Try.underlying45
    have hll := h.len
    go_enter Try.func24, Try.ntmps24
    go_wp2_with (at_make; refine wpList_make_full _ rfl (.tmp 8) (.tmp 8) 45 rfl w.heap.size 2 i0 (.int .i64 0) 1 Try.underlying45 hi hz0 hz1 .i64 .i64 _ _ len rfl rfl rfl rfl (by rw [hz2]; omega) (by unfold maxLen; omega) (Nat.le_refl _) ?_; intro w1 hown hgrow)
    clear hnil
    have H0 : Half3 w w1 2 (fun i => .int .i64 (vs i)) len 0 := ⟨⟨_, hown, fun j hj => by omega⟩, (Below.refl _ _).grown hgrow (Nat.le_refl _) (fun k hk => by cases hk)⟩
    clear hown hgrow
    go_loopg [4] len (fun k i wr => ∃ j : Nat, k + j = len ∧ i = .int .i64 j ∧ Half3 w wr 2 (fun i => .int .i64 (vs i)) len j)
    case atStart => exact ⟨0, by omega, rfl, H0⟩
    case round =>
      clear H0
      obtain ⟨j, hk, rfl, hH⟩ := hrel
      have HK : Hid (gk + j = len) := hk
      by_cases hj : j < len
      · obtain ⟨⟨v, hv⟩, hf⟩ := hH.cell hj
        obtain ⟨b, off, e, hcj, hlc⟩ := h.elem hj
        simp only [Option.some.injEq] at e
        subst e
        rw [← hH.bel.cell (p := ⟨b, off + j, none⟩) (World.block_lt_of_cell? w _ hcj)] at hcj
        have HH : Hid (Half3 w wr 2 (fun i => .int .i64 (vs i)) len j) := hH
        clear hH hk h
        go_wp2
        go_roundg (len - (j + 1))
        case measure => have := HK.out; omega
        case rel => exact ⟨j + 1, by omega, by go_num, HH.out.next hj rfl⟩
      · have e : j = len := by omega
        subst e
        clear h
        go_wp2
        go_ret
        exact ⟨_, _, rfl, hH.done, hH.bel⟩

set_option maxHeartbeats 1000000 in
theorem size22_any {a b : Option Addr} {n cn m cm : Nat} (ss : Nat → ByteArray) {w : World} (h : IsVec w a n cn (fun i => .string (ss i))) (hs : ∀ i, i < n → (ss i).size ≤ 9223372036854775807) (hm : m ≤ 9223372036854775807) (sp : Int) :
    Calls Try.prog 22 #[.slice a n cn, .slice b m cm, .int .u8 sp] w fun e w' => ∃ r, e = .returned (.bool r) ∧ w' = w := by
  have hn := h.len
  by_cases h1 : n ≤ 1048576
  · go_enter Try.func22, Try.ntmps22
    go_wp2
    go_loopg [7, 8] n (fun k z i wr => ∃ j t : Nat, k + j = n ∧ t ≤ 1048576 ∧ z = .int .i64 t ∧ i = .int .i64 j ∧ w = wr)
    case atStart => exact ⟨0, n, by omega, h1, rfl, rfl, rfl⟩
    case round =>
      obtain ⟨j, t, hk, ht, rfl, rfl, rfl⟩ := hrel
      have HK : Hid (gk + j = n) := hk
      have hj' : j ≤ n := by omega
      clear hk
      by_cases hj : j < n
      · obtain ⟨x, off, rfl, hc, hlc⟩ := h.elem hj
        have hsj := hs j hj
        have hji : (j : Int) < (n : Int) := by omega
        clear h hs
        by_cases h2 : (ss j).size ≤ 1048576
        · by_cases h3 : t + (ss j).size ≤ 1048576
          · go_wp2
            go_roundg (n - (j + 1))
            case measure => have := HK.out; omega
            case rel => exact ⟨j + 1, t + (ss j).size, by omega, h3, by go_num, by go_num, rfl⟩
          · have h3' : (1048576 : Int) < (t : Int) + ((ss j).size : Int) := by omega
            go_wp2
            go_ret
            exact ⟨_, rfl, rfl⟩
        · have h2' : (1048576 : Int) < ((ss j).size : Int) := by omega
          go_wp2
          go_ret
          exact ⟨_, rfl, rfl⟩
      · clear h hs
        by_cases h4 : m ≤ 1048576
        · by_cases h5 : t + m ≤ 1048576
          · go_wp2
            go_ret
            exact ⟨_, rfl, rfl⟩
          · have h5' : (1048576 : Int) < (t : Int) + (m : Int) := by omega
            go_wp2
            go_ret
            exact ⟨_, rfl, rfl⟩
        · go_wp2
          go_ret
          exact ⟨_, rfl, rfl⟩
  · clear hs
    go_enter Try.func22, Try.ntmps22
    go_wp2
    go_ret
    exact ⟨_, rfl, rfl⟩
end Go.Proofs.Qxb6600361a
