import Derived.Test.Qxb6600361aWkI
namespace Go.Proofs.Qxb6600361a
open Go.RowKit

/-- takes(c) at p answered r and stands at q -/
def Tak (zs : List Int) (c : Int) (p : Nat) (r : Bool) (q : Nat) : Prop := r = hd c (zs.drop (p + spaces (zs.drop p))) ∧ q = p + spaces (zs.drop p) + adv c (zs.drop (p + spaces (zs.drop p)))

theorem takes_t {w0 w : World} {b : Nat} {da : Option Addr} {zs : List Int} {cap p : Nat} {f : Bool} (h : T4 w0 w b da zs cap p f) (c : Int) :
    Calls Try.prog 41 #[.pointer (some ⟨b, 0, none⟩), .int .u8 c] w fun e w' => ∃ r q, e = .returned (.bool r) ∧ Hid (Tak zs c p r q) ∧ T4 w0 w' b da zs cap q f := by
  obtain ⟨s, hs⟩ : ∃ s, s = p + spaces (zs.drop p) := ⟨_, rfl⟩
  have HS : Hid (s = p + spaces (zs.drop p)) := hs
  have hk := skipSpace_t h
  rw [← hs] at hk
  have HK : Hid (Calls Try.prog 43 #[.pointer (some ⟨b, 0, none⟩)] w fun e w' => e = .returned (.tuple #[]) ∧ T4 w0 w' b da zs cap s f) := hk
  clear hk hs h
  go_enter Try.func41, Try.ntmps41
  go_wp2_with (first
    | (go_at_call 43; refine HK.out.mono ?_; rintro e w1 ⟨rfl, hT⟩)
    | (go_at_call 45; refine (accepts_t hT c).mono ?_; rintro e w2 ⟨r, q, rfl, hA, hT2⟩))
  go_ret
  refine ⟨r, q, rfl, ?_, hT2⟩
  have := hA.out
  rw [HS.out] at this
  exact this

theorem fail_t {w0 w : World} {b : Nat} {da : Option Addr} {zs : List Int} {cap p : Nat} {f : Bool} (h : T4 w0 w b da zs cap p f) :
    Calls Try.prog 42 #[.pointer (some ⟨b, 0, none⟩)] w fun e w' => e = .returned (.tuple #[.slice none 0 0, .bool false]) ∧ T4 w0 w' b da zs cap p true := by
  obtain ⟨c0, c1, c3, f1, f3⟩ := h.st.cells
  have H : Hid (T4 w0 w b da zs cap p f) := h
  clear h
  go_enter Try.func42, Try.ntmps42
  go_wp2
  go_ret2
  exact ⟨rfl, H.out.setFailed true⟩

set_option maxHeartbeats 1000000 in
theorem isHex_any (c : Int) (w : World) : Calls Try.prog 47 #[.int .u8 c] w fun e w' => e = .returned (.bool (hexB c)) ∧ w' = w := by
  rcases (show c < 48 ∨ (48 ≤ c ∧ c ≤ 57) ∨ (57 < c ∧ c < 65) ∨ (65 ≤ c ∧ c ≤ 70) ∨ (70 < c ∧ c < 97) ∨ (97 ≤ c ∧ c ≤ 102) ∨ 102 < c by omega) with h | ⟨h, h'⟩ | ⟨h, h'⟩ | ⟨h, h'⟩ | ⟨h, h'⟩ | ⟨h, h'⟩ | h
  · rw [(hexB_false c).2 (by omega)]
    have d1 : decide (48 ≤ c) = false := by simp; omega
    have d2 : decide (97 ≤ c) = false := by simp; omega
    have d3 : decide (65 ≤ c) = false := by simp; omega
    go_enter Try.func47, Try.ntmps47
    go_wp2
    go_ret
    exact ⟨rfl, rfl⟩
  · rw [(hexB_iff c).2 (by omega)]
    go_enter Try.func47, Try.ntmps47
    go_wp2
    go_ret
    exact ⟨rfl, rfl⟩
  · rw [(hexB_false c).2 (by omega)]
    have d0 : (48 : Int) ≤ c := by omega
    have d1 : decide (c ≤ 57) = false := by simp; omega
    have d2 : decide (97 ≤ c) = false := by simp; omega
    have d3 : decide (65 ≤ c) = false := by simp; omega
    go_enter Try.func47, Try.ntmps47
    go_wp2
    go_ret
    exact ⟨rfl, rfl⟩
  · rw [(hexB_iff c).2 (by omega)]
    have d0 : (48 : Int) ≤ c := by omega
    have d1 : decide (c ≤ 57) = false := by simp; omega
    have d2 : decide (97 ≤ c) = false := by simp; omega
    go_enter Try.func47, Try.ntmps47
    go_wp2
    go_ret
    exact ⟨rfl, rfl⟩
  · rw [(hexB_false c).2 (by omega)]
    have d0 : (48 : Int) ≤ c := by omega
    have d1 : decide (c ≤ 57) = false := by simp; omega
    have d2 : decide (97 ≤ c) = false := by simp; omega
    have d4 : (65 : Int) ≤ c := by omega
    have d3 : decide (c ≤ 70) = false := by simp; omega
    go_enter Try.func47, Try.ntmps47
    go_wp2
    go_ret
    exact ⟨rfl, rfl⟩
  · rw [(hexB_iff c).2 (by omega)]
    have d0 : (48 : Int) ≤ c := by omega
    have d1 : decide (c ≤ 57) = false := by simp; omega
    go_enter Try.func47, Try.ntmps47
    go_wp2
    go_ret
    exact ⟨rfl, rfl⟩
  · rw [(hexB_false c).2 (by omega)]
    have d0 : (48 : Int) ≤ c := by omega
    have d1 : decide (c ≤ 57) = false := by simp; omega
    have d2 : (97 : Int) ≤ c := by omega
    have d5 : decide (c ≤ 102) = false := by simp; omega
    have d4 : (65 : Int) ≤ c := by omega
    have d3 : decide (c ≤ 70) = false := by simp; omega
    go_enter Try.func47, Try.ntmps47
    go_wp2
    go_ret
    exact ⟨rfl, rfl⟩
end Go.Proofs.Qxb6600361a
