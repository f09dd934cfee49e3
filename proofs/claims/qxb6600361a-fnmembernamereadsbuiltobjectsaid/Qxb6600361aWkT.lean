import Derived.Test.Qxb6600361aWkS
import Derived.Test.Qxb6600361aWkQ
namespace Go.Proofs.Qxb6600361a
open Go.RowKit

/-! ### the two arrays of positions -/
/-- block A holds n ints, the first k of them are S 0, S 1, .. -/
def Arr (w : World) (A n k : Nat) (S : Nat → Nat) : Prop := ∃ cur, w.heap[A]? = some (.cells cur 3 (0, 0)) ∧ cur.size = n ∧ ∀ j, j < k → cur[j]? = some (.int .i64 (S j : Int))

theorem Arr.lt {w : World} {A n k : Nat} {S : Nat → Nat} (h : Arr w A n k S) : A < w.heap.size := by
  obtain ⟨cur, h1, _⟩ := h; exact (Array.getElem?_eq_some_iff.1 h1).1
theorem Arr.keep {w w' : World} {A n k : Nat} {S : Nat → Nat} (h : Arr w A n k S) (e : w'.heap[A]? = w.heap[A]?) : Arr w' A n k S := by
  obtain ⟨cur, h1, h2⟩ := h; exact ⟨cur, by rw [e]; exact h1, h2⟩
theorem Arr.below {w w' : World} {A n k B : Nat} {S : Nat → Nat} (h : Arr w A n k S) (hb : Below B w w') (hA : A < B) : Arr w' A n k S := h.keep (hb.block A hA)
theorem Arr.grown {w w' : World} {A n k b : Nat} {S : Nat → Nat} (h : Arr w A n k S) (hg : w.grownBy w' (some b)) (hA : A ≠ b) : Arr w' A n k S := h.keep (hg.block A h.lt (by simpa using hA))
theorem Arr.other {w : World} {A n k : Nat} {S : Nat → Nat} (h : Arr w A n k S) {p : Addr} (hp : A ≠ p.block) (v : Value) : Arr (w.setCell p v) A n k S := h.keep (heap_setCell_other w p A v hp)
theorem Arr.store {w : World} {A n k s : Nat} {S S' : Nat → Nat} (h : Arr w A n k S) (hk : k < n) (h1 : ∀ j, j < k → S' j = S j) (h2 : S' k = s) : Arr (w.setCell ⟨A, k, none⟩ (.int .i64 (s : Int))) A n (k + 1) S' := by
  obtain ⟨cur, a1, a2, a3⟩ := h
  refine ⟨cur.setIfInBounds k (.int .i64 (s : Int)), heap_setCell_same w A k cur 3 _ a1, by simpa using a2, fun j hj => ?_⟩
  by_cases e : j = k
  · subst e; rw [h2]; simp [a2, hk]
  · have hj' : j < k := by omega
    rw [h1 j hj', Array.getElem?_setIfInBounds_ne (by omega)]; exact a3 j hj'
theorem Arr.cell {w : World} {A n k : Nat} {S : Nat → Nat} (h : Arr w A n k S) {j : Nat} (hj : j < n) : (∃ v, w.cell? ⟨A, j, none⟩ = some v) ∧ w.frozen? ⟨A, j, none⟩ = false := by
  obtain ⟨cur, a1, a2, a3⟩ := h
  refine ⟨⟨cur[j]'(by omega), ?_⟩, frozen_of_row w A j cur 3 a1⟩
  rw [cell_of_row w A j cur 3 (0, 0) a1]; simp [a2, hj]
theorem Arr.get {w : World} {A n k : Nat} {S : Nat → Nat} (h : Arr w A n k S) {j : Nat} (hj : j < k) : w.cell? ⟨A, j, none⟩ = some (.int .i64 (S j : Int)) := by
  obtain ⟨cur, a1, a2, a3⟩ := h
  rw [cell_of_row w A j cur 3 (0, 0) a1]; exact a3 j hj
theorem Arr.made {w : World} {A n base : Nat} {xs : List Value} (h : w.ownsRow base 3 1 (.slice (some ⟨A, 0, none⟩) n n) n xs) (S : Nat → Nat) : Arr w A n 0 S := by
  rcases h.2 with ⟨e, _⟩ | ⟨g, cap, cur, e, _, hg, _, _, hc, _⟩
  · simp at e
  · simp only [Value.slice.injEq, Option.some.injEq, Addr.mk.injEq, and_true, true_and] at e
    obtain ⟨rfl, rfl⟩ := e
    exact ⟨cur, hg, by simpa using hc, fun j hj => by omega⟩

theorem Own.setBelow {w : World} {base : Nat} {ao : Option Addr} {cp : Nat} {xs : List Int} (h : Own w base ao cp xs) {p : Addr} (hp : p.block < base) (v : Value) : Own (w.setCell p v) base ao cp xs := ownsRow_setCell_below h hp v

theorem S4.below {w w' : World} {b : Nat} {da : Option Addr} {zs : List Int} {cap p : Nat} {f : Bool} (h : S4 w b da zs cap p f) (hb : Below w.heap.size w w') : S4 w' b da zs cap p f := by
  obtain ⟨dep, h1⟩ := h.blk
  refine ⟨⟨dep, by rw [hb.block b (Array.getElem?_eq_some_iff.1 h1).1]; exact h1⟩, fun i hi => ?_, h.rng, h.pos, h.len, h.cap⟩
  obtain ⟨g, a1, a2, a3⟩ := h.dat i hi
  exact ⟨g, a1, a2, fun j hj => (hb.cell (p := ⟨g, j, none⟩) (World.block_lt_of_cell? w _ (a3 j hj))).trans (a3 j hj)⟩
theorem T4.below {w0 w w' : World} {b : Nat} {da : Option Addr} {zs : List Int} {cap p : Nat} {f : Bool} (h : T4 w0 w b da zs cap p f) (hb : Below w.heap.size w w') : T4 w0 w' b da zs cap p f :=
  ⟨h.st.below hb, ⟨hb.os.trans h.gr.os, hb.tape.trans h.gr.tape, hb.output.trans h.gr.output, Nat.le_trans h.gr.size hb.size, fun k hk hr => (hb.block k (Nat.lt_of_lt_of_le hk h.gr.size)).trans (h.gr.block k hk hr)⟩⟩
theorem T4.call {w0 w w' : World} {b : Nat} {da : Option Addr} {zs : List Int} {cap p q : Nat} {f g : Bool} (h : T4 w0 w b da zs cap p f) (hs : S4 w' b da zs cap q g) (hg : w.grownBy w' (some b)) : T4 w0 w' b da zs cap q g := ⟨hs, grown_trans h.gr hg⟩
theorem Vec.grown {w w' : World} {da : Option Addr} {n b : Nat} {f : Nat → Value} (h : Vec w da n f) (hg : w.grownBy w' (some b)) (hb : ∀ x, da = some x → x.block ≠ b) : Vec w' da n f := by
  intro j hj
  obtain ⟨g, e, hc⟩ := h j hj
  exact ⟨g, e, hg.cell hc (by have := hb _ e; simpa using this)⟩

/-! ### the text, half written -/
/-- how much a member may take -/
def memMax : Nat := 6291500
theorem memMax_le {k : Nat} (h : k ≤ 65536) : 5 + k * memMax ≤ 412320000000 := by
  have : k * memMax ≤ 65536 * memMax := Nat.mul_le_mul_right _ h
  have e : 65536 * memMax = 412319744000 := by decide
  omega
theorem memMax_is : (6291500 : Nat) ≤ memMax := Nat.le_refl _
/-- k members are written: the text xs in memory from 'base' on, the two arrays in blocks A and B, nothing below A has turned since w2 -/
structure L2 (w2 : World) (A B base n k : Nat) (ss : Nat → ByteArray) (S E : Nat → Nat) (ao : Option Addr) (cp : Nat) (xs : List Int) (wr : World) : Prop where
  own : Own wr base ao cp xs
  bel : Below A w2 wr
  arrA : Arr wr A n k S
  arrB : Arr wr B n k E
  ab : A < B ∧ B < base ∧ base ≤ wr.heap.size
  inv : Inv (fun j => bytesOf (ss j)) S E k xs
  rng : ∀ c ∈ xs, 0 ≤ c ∧ c ≤ 255
  len : xs.length ≤ 5 + k * memMax

theorem AllS.rng {l : List Int} (h : AllS l) : ∀ c ∈ l, 0 ≤ c ∧ c ≤ 255 := by
  intro c hc; have := (isS_iff c).1 (h c hc); omega
theorem Pre.rng {k : Nat} {l : List Int} (h : Pre k l) : ∀ c ∈ l, 0 ≤ c ∧ c ≤ 255 := by
  rcases h with ⟨_, rfl⟩ | ⟨_, spa, hs, rfl⟩
  · intro c hc; simp at hc
  · intro c hc
    rcases List.mem_cons.1 hc with rfl | hc
    · omega
    · exact hs.rng c hc

/-- ONE MEMBER MORE, in memory. -/
theorem L2.next {w2 wr v1 v3 v5 : World} {A B base n k : Nat} {ss : Nat → ByteArray} {S E : Nat → Nat} {ao ao5 : Option Addr} {cp cp5 : Nat} {xs pre spb nu spc y1 y3 y5 : List Int} (h : L2 w2 A B base n k ss S E ao cp xs wr) (hk : k < n)
    (hpre : Pre k pre) (hb : AllS spb) (hc : AllS spc) (hn : Ee nu) (hnr : ∀ c ∈ nu, 0 ≤ c ∧ c ≤ 255)
    (e1 : y1 = xs ++ pre ++ qt (bytesOf (ss k)) ++ spb ++ [58]) (b1 : Below base wr v1)
    (e3 : y3 = y1 ++ nu) (b3 : Below base (v1.setCell ⟨A, k, none⟩ (.int .i64 (y1.length : Int))) v3)
    (e5 : y5 = y3 ++ spc) (b5 : Below base (v3.setCell ⟨B, k, none⟩ (.int .i64 (y3.length : Int))) v5) (o5 : Own v5 base ao5 cp5 y5)
    (hl : y5.length ≤ xs.length + memMax) :
    L2 w2 A B base n (k + 1) ss (fun j => if j = k then y1.length else S j) (fun j => if j = k then y3.length else E j) ao5 cp5 y5 v5 := by
  obtain ⟨ab1, ab2, ab3⟩ := h.ab
  have hAB : Below A wr v5 := by
    have c1 := (b1.mono (show A ≤ base by omega))
    have c2 := c1.setCell (p := ⟨A, k, none⟩) (Nat.le_refl _) (.int .i64 (y1.length : Int))
    have c3 := c2.trans (b3.mono (show A ≤ base by omega))
    have c4 := c3.setCell (p := ⟨B, k, none⟩) (show A ≤ B by omega) (.int .i64 (y3.length : Int))
    exact c4.trans (b5.mono (show A ≤ base by omega))
  have inv' := (h.inv.congr (S' := fun j => if j = k then y1.length else S j) (E' := fun j => if j = k then y3.length else E j) (fun j hj => if_neg (by omega)) (fun j hj => if_neg (by omega))).step
    (pre := pre) (spb := spb) (nu := nu) (spc := spc) hpre hb hc hn (bytesOf_rng _) (by simp only [if_true]; rw [e1]) (by simp only [if_true]; rw [e3]; simp)
  refine ⟨o5, h.bel.trans hAB, ?_, ?_, ⟨ab1, ab2, ?_⟩, ?_, ?_, ?_⟩
  · have a1 := (h.arrA.below b1 (show A < base by omega)).store (s := y1.length) (S' := fun j => if j = k then y1.length else S j) hk (fun j hj => if_neg (by omega)) (if_pos rfl)
    have a2 := a1.below b3 (show A < base by omega)
    have a3 := a2.other (p := ⟨B, k, none⟩) (show A ≠ B by omega) (.int .i64 (y3.length : Int))
    exact a3.below b5 (show A < base by omega)
  · have a1 := (h.arrB.below b1 ab2).other (p := ⟨A, k, none⟩) (show B ≠ A by omega) (.int .i64 (y1.length : Int))
    have a2 := (a1.below b3 ab2).store (s := y3.length) (S' := fun j => if j = k then y3.length else E j) hk (fun j hj => if_neg (by omega)) (if_pos rfl)
    exact a2.below b5 ab2
  · exact Nat.le_trans ab3 hAB.size
  · have ey : y5 = xs ++ pre ++ qt (bytesOf (ss k)) ++ spb ++ [58] ++ nu ++ spc := by rw [e5, e3, e1]
    rw [ey]; exact inv'
  · intro c hcc
    rw [e5, e3, e1] at hcc
    simp only [List.mem_append] at hcc
    rcases hcc with (((((hx | hx) | hx) | hx) | hx) | hx) | hx
    · exact h.rng c hx
    · exact hpre.rng c hx
    · exact qt_rng (bytesOf_rng _) c hx
    · exact hb.rng c hx
    · simp at hx; omega
    · exact hnr c hx
    · exact hc.rng c hx
  · have := h.len; rw [Nat.succ_mul]; omega
end Go.Proofs.Qxb6600361a
