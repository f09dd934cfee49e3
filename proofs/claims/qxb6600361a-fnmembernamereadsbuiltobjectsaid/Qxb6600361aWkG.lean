import Derived.Test.Qxb6600361aWkD
import Derived.OpenShut
import Derived.Lib.SliceRun
namespace Go.Proofs.Qxb6600361a
open Go.RowKit

/-- WHAT THE WALK IS TOLD OF A SLICE OF INTEGERS THAT CAME IN (the shell's own words). -/
def IsRow (k : IntKind) (w : World) (a : Option Addr) (len cap : Nat) (zs : List Int) : Prop :=
  (a = none ∧ len = 0 ∧ cap = 0 ∧ zs = []) ∨
  ∃ x, a = some x ∧ len ≤ cap ∧ cap ≤ maxLen ∧ zs.length = cap ∧ (∀ i, i < zs.length → w.cell? (x.add i) = some (.int k (zs.getD i 0))) ∧ ∀ n ∈ zs, (Lit.int k n).wf = true

theorem IsRow.len {k : IntKind} {w : World} {a : Option Addr} {len cap : Nat} {zs : List Int} (h : IsRow k w a len cap zs) : len ≤ cap ∧ cap ≤ 9223372036854775807 := by
  rcases h with ⟨_, rfl, rfl, _⟩ | ⟨x, _, h1, h2, _⟩
  · omega
  · unfold maxLen at h2; omega

/-- the clone, half made: the first k bytes are written -/
structure Half2 (w wr : World) (zs : List Int) (n k : Nat) : Prop where
  own : ∃ xs : List Value, wr.ownsRow w.heap.size 5 1 (.slice (some ⟨w.heap.size, 0, none⟩) n n) n xs ∧ ∀ j, j < k → xs[j]? = some (.int .u8 (zs.getD j 0))
  bel : Below w.heap.size w wr

theorem Half2.cell {w wr : World} {zs : List Int} {n k : Nat} (h : Half2 w wr zs n k) (hk : k < n) : (∃ v, wr.cell? ⟨w.heap.size, k, none⟩ = some v) ∧ wr.frozen? ⟨w.heap.size, k, none⟩ = false := by
  obtain ⟨xs, h1, h2⟩ := h.own
  refine ⟨⟨xs[k]'(by have := h1.1; omega), ?_⟩, h1.frozenAt k⟩
  rw [h1.cellAt k (by omega)]
  exact List.getElem?_eq_getElem _

theorem Half2.next {w wr : World} {zs : List Int} {n k : Nat} (h : Half2 w wr zs n k) (hk : k < n) {z : Int} (hz : z = zs.getD k 0) : Half2 w (wr.setCell ⟨w.heap.size, k, none⟩ (.int .u8 z)) zs n (k + 1) := by
  obtain ⟨xs, h1, h2⟩ := h.own
  obtain ⟨h3, h4⟩ := h1.stored k (.int .u8 z)
  refine ⟨⟨_, h3, fun j hj => ?_⟩, h.bel.setCell (by simp) _⟩
  by_cases e : j = k
  · subst e
    have := h1.1
    rw [List.getElem?_set_self (by omega), hz]
  · rw [List.getElem?_set_ne (by omega)]
    exact h2 j (by omega)

theorem Half2.done {w wr : World} {zs ys : List Int} {n : Nat} (h : Half2 w wr zs n n) (hy : ys = zs.take n) (hn : n ≤ zs.length) (hr : ∀ c ∈ zs, (Lit.int .u8 c).wf = true) (hl : n ≤ 1048576) : Own wr w.heap.size (some ⟨w.heap.size, 0, none⟩) n ys ∧ D4 wr (some ⟨w.heap.size, 0, none⟩) ys n ∧ ys.length = n := by
  obtain ⟨xs, h1, h2⟩ := h.own
  have hyl : ys.length = n := by rw [hy]; simp; omega
  have e : xs = ys.map (Value.int .u8) := by
    apply List.ext_getElem?
    intro j
    by_cases hj : j < n
    · rw [h2 j hj, hy]
      simp [hj, List.getD, show j < zs.length by omega]
    · rw [List.getElem?_eq_none (by have := h1.1; omega), List.getElem?_eq_none (by simp; omega)]
  subst e
  have ho : Own wr w.heap.size (some ⟨w.heap.size, 0, none⟩) n ys := by unfold Own; rw [hyl]; exact h1
  refine ⟨ho, (ho.data ?_ (by omega)).1, hyl⟩
  intro c hc
  rw [hy] at hc
  have := bounds_u8 (hr c (List.mem_of_mem_take hc))
  omega

theorem ret_slice {a : Option Addr} {n m c : Nat} (h : n = m) : Ending.returned (.slice a n c) = .returned (.slice a m c) := by rw [h]

set_option maxHeartbeats 1000000 in
theorem clone_some (x : Addr) (len cap : Nat) (zs : List Int) (w : World) (h1 : len ≤ cap) (h2 : cap ≤ maxLen) (h3 : zs.length = cap) (h4 : ∀ i, i < zs.length → w.cell? (x.add i) = some (.int .u8 (zs.getD i 0))) (h5 : ∀ n ∈ zs, (Lit.int .u8 n).wf = true) (hl : len ≤ 1048576) :
    Calls Try.prog 9 #[.slice (some x) len cap] w fun e w' => ∃ ys, e = .returned (.slice (some ⟨w.heap.size, 0, none⟩) ys.length len) ∧ Hid (ys = zs.take len) ∧ len ≤ ys.length ∧ ys.length ≤ len ∧ D4 w' (some ⟨w.heap.size, 0, none⟩) ys len ∧ Below w.heap.size w w' := by
  obtain ⟨i0, hi, hz0, hz1, hz2⟩ := info_parts info5
  unfold maxLen at h2
  have hnil := fun W => Lib.run_eql_slice_nil (P := Try.prog) W 22 5 (some x) len cap 0 0 Try.underlying22
  go_enter Try.func9, Try.ntmps9
  go_wp2_with (at_make; refine wpList_make_full _ rfl (.tmp 8) (.tmp 8) 22 rfl w.heap.size 5 i0 (.int .u8 0) 1 Try.underlying22 hi hz0 hz1 .i64 .i64 _ _ len rfl rfl rfl rfl (by rw [hz2]; omega) (by unfold maxLen; omega) (Nat.le_refl _) ?_; intro w1 hown hgrow)
  clear hnil
  have H0 : Half2 w w1 zs len 0 := ⟨⟨_, hown, fun j hj => by omega⟩, (Below.refl _ _).grown hgrow (Nat.le_refl _) (fun k hk => by cases hk)⟩
  clear hown hgrow
  go_loopg [4] len (fun k i wr => ∃ j : Nat, k + j = len ∧ i = .int .i64 j ∧ Half2 w wr zs len j)
  case atStart => exact ⟨0, by omega, rfl, H0⟩
  case round =>
    clear H0
    obtain ⟨j, hk, rfl, hH⟩ := hrel
    by_cases hj : j < len
    · obtain ⟨⟨v, hv⟩, hf⟩ := hH.cell hj
      obtain ⟨b, off, rfl, hc⟩ := ints_at h4 (by omega)
      have hcj := hc j (by omega)
      rw [← hH.bel.cell (p := ⟨b, off + j, none⟩) (World.block_lt_of_cell? w _ hcj)] at hcj
      obtain ⟨z, hz⟩ : ∃ z, z = zs.getD j 0 := ⟨_, rfl⟩
      rw [← hz] at hcj
      have HZ : Hid (z = zs.getD j 0) := hz
      have HH : Hid (Half2 w wr zs len j) := hH
      have HK : Hid (gk + j = len) := hk
      clear hz hH hc h4 h5 hk
      go_wp2
      go_roundg (len - (j + 1))
      case measure => have := HK.out; omega
      case rel => exact ⟨j + 1, by omega, by go_num, HH.out.next hj HZ.out⟩
    · have e : j = len := by omega
      subst e
      go_wp2
      go_ret
      obtain ⟨h6, h7, h8⟩ := hH.done (ys := zs.take j) rfl (by omega) h5 hl
      exact ⟨zs.take j, ret_slice h8.symm, rfl, by omega, by omega, h7, hH.bel⟩

set_option maxHeartbeats 400000 in
theorem clone_nil (w : World) : Calls Try.prog 9 #[.slice none 0 0] w fun e w' => e = .returned (.slice none 0 0) ∧ w' = w := by
  have hnil := fun W => Lib.run_eql_slice_nil (P := Try.prog) W 22 5 none 0 0 0 0 Try.underlying22
  go_enter Try.func9, Try.ntmps9
  go_wp2
  go_ret
  exact ⟨rfl, rfl⟩

/-- zzCloneBytes: a copy of the call's own -/
theorem clone_any {a : Option Addr} {len cap : Nat} {zs : List Int} {w : World} (h : IsRow .u8 w a len cap zs) (hl : len ≤ 1048576) :
    Calls Try.prog 9 #[.slice a len cap] w fun e w' => ∃ da ys cp, e = .returned (.slice da ys.length cp) ∧ Hid (ys = zs.take len) ∧ len ≤ ys.length ∧ ys.length ≤ len ∧ D4 w' da ys cp ∧ Below w.heap.size w w' := by
  rcases h with ⟨rfl, rfl, rfl, rfl⟩ | ⟨x, rfl, h1, h2, h3, h4, h5⟩
  · refine (clone_nil w).mono ?_
    rintro e w' ⟨rfl, rfl⟩
    exact ⟨none, [], 0, rfl, rfl, by simp, by simp, ⟨fun i hi => by simp at hi, fun i => by simp, by simp, by simp, by unfold maxLen; omega⟩, Below.refl _ _⟩
  · refine (clone_some x len cap zs w h1 h2 h3 h4 h5 hl).mono ?_
    rintro e w' ⟨ys, rfl, h6, h7, h8, h9, h10⟩
    exact ⟨_, ys, _, rfl, h6, h7, h8, h9, h10⟩
end Go.Proofs.Qxb6600361a
