/-
  THE SPLITTER IN MEMORY: what a call is told of it, what a store into it leaves. No program is walked here.
-/
import Derived.Test.Qxb6600361aNum
import Derived.WalkKit
import Derived.WalkSmall
namespace Go.Proofs.Qxb6600361a
open Go.RowKit

/-- THE SPLITTER: block b holds the four fields; its data are the bytes zs (nil, or at the head of another block g); it stands at p. -/
structure S4 (w : World) (b : Nat) (da : Option Addr) (zs : List Int) (cap p : Nat) (f : Bool) : Prop where
  blk : ∃ dep : Int, w.heap[b]? = some (.cells #[.slice da zs.length cap, .int .i64 p, .int .i64 dep, .bool f] 57 (0, 0))
  dat : ∀ i, i < zs.length → ∃ g, da = some ⟨g, 0, none⟩ ∧ g ≠ b ∧ ∀ j, j < zs.length → w.cell? ⟨g, j, none⟩ = some (.int .u8 (zs.getD j 0))
  rng : ∀ i, 0 ≤ zs.getD i 0 ∧ zs.getD i 0 ≤ 255
  pos : p ≤ zs.length
  len : zs.length ≤ 1099511627776
  cap : zs.length ≤ cap ∧ cap ≤ maxLen

theorem S4.cells {w : World} {b : Nat} {da : Option Addr} {zs : List Int} {cap p : Nat} {f : Bool} (h : S4 w b da zs cap p f) :
    w.cell? ⟨b, 0, none⟩ = some (.slice da zs.length cap) ∧ w.cell? ⟨b, 1, none⟩ = some (.int .i64 p) ∧ w.cell? ⟨b, 3, none⟩ = some (.bool f) ∧ w.frozen? ⟨b, 1, none⟩ = false ∧ w.frozen? ⟨b, 3, none⟩ = false := by
  obtain ⟨dep, hb⟩ := h.blk
  refine ⟨?_, ?_, ?_, ?_, ?_⟩ <;> simp [World.cell?, World.frozen?, hb]

/-- the world has grown, with writes to block b alone, and b reads so -/
theorem S4.turn {w w' : World} {b : Nat} {da : Option Addr} {zs : List Int} {cap p q : Nat} {f f' : Bool} (h : S4 w b da zs cap p f) (hg : w.grownBy w' (some b))
    (hb : ∃ dep : Int, w'.heap[b]? = some (.cells #[.slice da zs.length cap, .int .i64 q, .int .i64 dep, .bool f'] 57 (0, 0))) (hq : q ≤ zs.length) : S4 w' b da zs cap q f' :=
  ⟨hb, fun i hi => by
    obtain ⟨g, h1, h2, h3⟩ := h.dat i hi
    exact ⟨g, h1, h2, fun j hj => hg.cell (h3 j hj) (by simpa using h2)⟩, h.rng, hq, h.len, h.cap⟩

theorem S4.drewN {w : World} {b : Nat} {da : Option Addr} {zs : List Int} {cap p : Nat} {f : Bool} (h : S4 w b da zs cap p f) (n : Nat) : S4 (w.drewN n) b da zs cap p f :=
  ⟨h.blk, h.dat, h.rng, h.pos, h.len, h.cap⟩

theorem grown_drewN {w w' : World} {r : Option Nat} (h : w.grownBy w' r) (n : Nat) : w.grownBy (w'.drewN n) r := ⟨h.os, h.tape, h.output, h.size, h.block⟩
theorem grown_trans {a b c : World} {r : Option Nat} (h : a.grownBy b r) (k : b.grownBy c r) : a.grownBy c r :=
  ⟨k.os.trans h.os, k.tape.trans h.tape, k.output.trans h.output, Nat.le_trans h.size k.size, fun i hi hr => (k.block i (Nat.lt_of_lt_of_le hi h.size) hr).trans (h.block i hi hr)⟩
theorem grown_set (w : World) (g i : Nat) (v : Value) : w.grownBy (w.setCell ⟨g, i, none⟩ v) (some g) :=
  ⟨rfl, rfl, rfl, by simp [World.setCell], fun k _ hk => heap_setCell_other w ⟨g, i, none⟩ k v (fun e => hk (by simp [e]))⟩

/-- a store into the field 'at' -/
theorem S4.setAt {w : World} {b : Nat} {da : Option Addr} {zs : List Int} {cap p q : Nat} {f : Bool} (h : S4 w b da zs cap p f) (hq : q ≤ zs.length) :
    S4 (w.setCell ⟨b, 1, none⟩ (.int .i64 q)) b da zs cap q f := by
  obtain ⟨dep, hb⟩ := h.blk
  exact h.turn (grown_set w b 1 _) ⟨dep, by rw [heap_setCell_same w b 1 _ 57 _ hb]; simp⟩ hq

/-- a store into the field 'failed' -/
theorem S4.setFailed {w : World} {b : Nat} {da : Option Addr} {zs : List Int} {cap p : Nat} {f : Bool} (h : S4 w b da zs cap p f) (f' : Bool) :
    S4 (w.setCell ⟨b, 3, none⟩ (.bool f')) b da zs cap p f' := by
  obtain ⟨dep, hb⟩ := h.blk
  exact h.turn (grown_set w b 3 _) ⟨dep, by rw [heap_setCell_same w b 3 _ 57 _ hb]; simp⟩ h.pos

theorem drop_lt {zs : List Int} {p : Nat} (h : p < zs.length) : zs.drop p = zs.getD p 0 :: zs.drop (p + 1) := by
  rw [List.drop_eq_getElem_cons h]; simp [List.getD, h]
theorem drop_ge {zs : List Int} {p : Nat} (h : ¬ p < zs.length) : zs.drop p = [] := List.drop_of_length_le (by omega)
/-- the byte where the splitter stands, under a name of its own -/
theorem S4.byte {w : World} {b : Nat} {da : Option Addr} {zs : List Int} {cap p : Nat} {f : Bool} (h : S4 w b da zs cap p f) {q : Nat} (hq : q < zs.length) :
    ∃ z g, 0 ≤ z ∧ z ≤ 255 ∧ Hid (zs.drop q = z :: zs.drop (q + 1)) ∧ da = some ⟨g, 0, none⟩ ∧ g ≠ b ∧ w.cell? ⟨g, q, none⟩ = some (.int .u8 z) := by
  obtain ⟨g, h1, h2, h3⟩ := h.dat q hq
  exact ⟨zs.getD q 0, g, (h.rng q).1, (h.rng q).2, drop_lt hq, h1, h2, h3 q hq⟩
end Go.Proofs.Qxb6600361a
