import Derived.Test.Qxb6600361aWkB
namespace Go.Proofs.Qxb6600361a
open Go.RowKit

/-- BYTES IN MEMORY: a slice value at da, of zs.length bytes zs: nil, or at the head of a block. -/
structure D4 (w : World) (da : Option Addr) (zs : List Int) (cap : Nat) : Prop where
  dat : ∀ i, i < zs.length → ∃ g, da = some ⟨g, 0, none⟩ ∧ ∀ j, j < zs.length → w.cell? ⟨g, j, none⟩ = some (.int .u8 (zs.getD j 0))
  rng : ∀ i, 0 ≤ zs.getD i 0 ∧ zs.getD i 0 ≤ 255
  len : zs.length ≤ 1099511627776
  cap : zs.length ≤ cap ∧ cap ≤ maxLen

theorem D4.made {w : World} {da : Option Addr} {zs : List Int} {cap p : Nat} (h : D4 w da zs cap) (f : Bool) (dep : Int) (hp : p ≤ zs.length) :
    S4 (w.alloc (.cells #[.slice da zs.length cap, .int .i64 p, .int .i64 dep, .bool f] 57)) w.heap.size da zs cap p f :=
  ⟨⟨dep, heap_alloc_new w _⟩, fun i hi => by
    obtain ⟨g, h1, h2⟩ := h.dat i hi
    have hl := World.block_lt_of_cell? w _ (h2 i hi)
    simp only at hl
    refine ⟨g, h1, by omega, fun j hj => ?_⟩
    rw [World.cell?_of_block (w := w) (Below.heap_alloc w _ g hl)]; exact h2 j hj, h.rng, hp, h.len, h.cap⟩

theorem grown_below {w w' : World} {b : Nat} (h : w.grownBy w' (some b)) (B : Nat) (h1 : B ≤ b) (h2 : B ≤ w.heap.size) : Below B w w' :=
  (Below.refl B w).grown h h2 (fun k hk => by cases hk; exact h1)

theorem newSplitter_any (da : Option Addr) (n cap : Nat) (p : Int) (f : Bool) (w : World) :
    Calls Try.prog 16 #[.slice da n cap, .int .i64 p, .bool f] w fun e w' => e = .returned (.pointer (some ⟨w.heap.size, 0, none⟩)) ∧ w' = w.alloc (.cells #[.slice da n cap, .int .i64 p, .int .i64 0, .bool f] 57) := by
  go_enter Try.func16, Try.ntmps16
  go_wp2
  go_ret
  exact ⟨rfl, rfl⟩

theorem at_any {w : World} {b : Nat} {da : Option Addr} {zs : List Int} {cap p : Nat} {f : Bool} (h : S4 w b da zs cap p f) :
    Calls Try.prog 18 #[.pointer (some ⟨b, 0, none⟩)] w fun e w' => e = .returned (.int .i64 p) ∧ w' = w := by
  obtain ⟨c0, c1, c3, f1, f3⟩ := h.cells
  clear h
  go_enter Try.func18, Try.ntmps18
  go_wp2
  go_ret
  exact ⟨rfl, rfl⟩

theorem failed_any {w : World} {b : Nat} {da : Option Addr} {zs : List Int} {cap p : Nat} {f : Bool} (h : S4 w b da zs cap p f) :
    Calls Try.prog 19 #[.pointer (some ⟨b, 0, none⟩)] w fun e w' => e = .returned (.bool f) ∧ w' = w := by
  obtain ⟨c0, c1, c3, f1, f3⟩ := h.cells
  clear h
  go_enter Try.func19, Try.ntmps19
  go_wp2
  go_ret
  exact ⟨rfl, rfl⟩

theorem zzSkipNumber_any {w : World} {b : Nat} {da : Option Addr} {zs : List Int} {cap p : Nat} {f : Bool} (h : S4 w b da zs cap p f) :
    Calls Try.prog 28 #[.pointer (some ⟨b, 0, none⟩)] w fun e w' => e = .returned (.bool (num (zs.drop p)).1) ∧ S4 w' b da zs cap (p + (num (zs.drop p)).2) f ∧ w.grownBy w' (some b) := by
  have H : Hid (S4 w b da zs cap p f) := h
  clear h
  go_enter Try.func28, Try.ntmps28
  go_wp2_with (go_at_call 36; refine (skipNumber_any b da zs cap p f _ H.out).mono ?_; rintro e w' ⟨rfl, hS, hG⟩)
  go_ret
  exact ⟨rfl, hS, hG⟩

theorem runNumber_any (da : Option Addr) (zs : List Int) (cap p : Nat) (f : Bool) (w : World) (h : D4 w da zs cap) (hp : p ≤ zs.length) :
    Calls Try.prog 13 #[.slice da zs.length cap, .int .i64 p, .bool f] w fun e w' =>
      e = .returned (.tuple #[.bool (num (zs.drop p)).1, .int .i64 ((p + (num (zs.drop p)).2 : Nat) : Int), .bool f]) ∧ Below w.heap.size w w' := by
  have hm := h.made f 0 hp
  have hn := num_le (zs.drop p)
  clear h
  obtain ⟨r, hr⟩ : ∃ r, r = (num (zs.drop p)).1 := ⟨_, rfl⟩
  obtain ⟨q, hq⟩ : ∃ q, q = p + (num (zs.drop p)).2 := ⟨_, rfl⟩
  rw [← hr, ← hq]
  have R : Hid (r = (num (zs.drop p)).1 ∧ q = p + (num (zs.drop p)).2) := ⟨hr, hq⟩
  clear hr hq hn
  go_enter Try.func13, Try.ntmps13
  go_wp2_with (first
    | (go_at_call 16; refine (newSplitter_any _ _ _ _ _ _).mono ?_; rintro e w' ⟨rfl, rfl⟩)
    | (go_at_call 28; refine (zzSkipNumber_any hm).mono ?_; rintro e w1 ⟨rfl, hS, hG⟩; rw [← R.out.1]; rw [← R.out.2] at hS; have hB := grown_below hG w.heap.size (by simp) (by simp); clear hG hm)
    | (go_at_call 18; refine (at_any hS).mono ?_; rintro e w' ⟨rfl, rfl⟩)
    | (go_at_call 19; refine (failed_any hS).mono ?_; rintro e w' ⟨rfl, rfl⟩))
  go_ret3
  exact ⟨rfl, ((Below.refl _ _).alloc (Nat.le_refl _) _).trans hB⟩
end Go.Proofs.Qxb6600361a
