import Derived.Test.Qxb6600655aProg
import Derived.WalkKit
import Derived.Deep.LoopGhost
namespace Go.Proofs.Qxb6600655a
open Go.RowKit

theorem ret_int {k : IntKind} {a b : Int} (h : a = b) : Ending.returned (.int k a) = .returned (.int k b) := by rw [h]

set_option maxHeartbeats 400000 in
/-- pow10, inside its documented domain -/
theorem pow10_any (n : Nat) (hn : n ≤ 19) (w : World) : Calls Try.prog 13 #[.int .u8 n] w fun e w' => e = .returned (.int .u64 ((10 ^ n : Nat) : Int)) ∧ w' = w := by
  go_enter Try.func13, Try.ntmps13
  go_wp2
  go_loopg [3, 5] n (fun k p i wr => ∃ j x : Nat, k + j = n ∧ i = .int .u8 j ∧ p = .int .u64 x ∧ x = 10 ^ j ∧ w = wr)
  case atStart => exact ⟨0, 1, by omega, rfl, rfl, rfl, rfl⟩
  case round =>
    obtain ⟨j, x, hk, rfl, rfl, hx, rfl⟩ := hrel
    have A : Aside (gk + j = n ∧ x = 10 ^ j) := ⟨hk, hx⟩
    have hj0 : j ≤ n := by omega
    clear hk hx
    by_cases hj : j < n
    · have hxb : x ≤ 1000000000000000000 := by
        have := Nat.pow_le_pow_right (show 0 < 10 by omega) (show j ≤ 18 by omega)
        rw [A.out.2]; exact this
      go_wp2
      go_roundg (n - (j + 1))
      case measure => have := A.out.1; omega
      case rel => exact ⟨j + 1, x * 10, by omega, by go_num, by go_num, by rw [A.out.2, Nat.pow_succ], rfl⟩
    · go_wp2
      go_ret
      obtain ⟨h1, h2⟩ := A.out
      exact ⟨ret_int (by rw [h2, show j = n by omega]), rfl⟩

theorem zzpow10_any (n : Nat) (hn : n ≤ 19) (w : World) : Calls Try.prog 8 #[.int .u8 n] w fun e w' => e = .returned (.int .u64 ((10 ^ n : Nat) : Int)) ∧ w' = w := by
  obtain ⟨x, hx⟩ : ∃ x : Nat, x = 10 ^ n := ⟨_, rfl⟩
  have hp := pow10_any n hn w
  rw [← hx] at hp ⊢
  have H : Hid (Calls Try.prog 13 #[.int .u8 n] w fun e w' => e = .returned (.int .u64 (x : Int)) ∧ w' = w) := hp
  clear hp hx
  go_enter Try.func8, Try.ntmps8
  go_wp2_with (go_at_call 13; refine H.out.mono ?_; rintro e w' ⟨rfl, rfl⟩)
  go_ret
  exact ⟨rfl, rfl⟩

set_option maxHeartbeats 1000000 in
theorem decimalPower_any (n : Nat) (hn : n ≤ 19) (w : World) : Calls Try.prog 9 #[.int .u8 n] w fun e w' => e = .returned (.int .u64 ((10 ^ n : Nat) : Int)) ∧ w' = w := by
  rcases (show n = 0 ∨ n = 1 ∨ n = 2 ∨ n = 3 ∨ n = 4 ∨ n = 5 ∨ n = 6 ∨ n = 7 ∨ n = 8 ∨ n = 9 ∨ n = 10 ∨ n = 11 ∨ n = 12 ∨ n = 13 ∨ n = 14 ∨ n = 15 ∨ n = 16 ∨ n = 17 ∨ n = 18 ∨ n = 19 by omega) with rfl | rfl | rfl | rfl | rfl | rfl | rfl | rfl | rfl | rfl | rfl | rfl | rfl | rfl | rfl | rfl | rfl | rfl | rfl | rfl
  all_goals
    go_enter Try.func9, Try.ntmps9
    go_wp2
    go_ret
    exact ⟨ret_int (by decide), rfl⟩

theorem walk3 (a0 : Int) (l0 : 0 ≤ a0) (m0 : a0 ≤ 255) (w : World) :
    Calls Try.prog 3 #[.int .u8 a0] w fun e w' => e = .returned (.bool true) ∧ Grown w w' := by
  by_cases h : a0 ≤ 19
  · obtain ⟨n, rfl⟩ : ∃ n : Nat, a0 = n := ⟨a0.toNat, by omega⟩
    obtain ⟨x, hx⟩ : ∃ x : Nat, x = 10 ^ n := ⟨_, rfl⟩
    have h1 := zzpow10_any n (by omega) w
    have h2 := decimalPower_any n (by omega) w
    rw [← hx] at h1 h2
    have H1 : Hid (Calls Try.prog 8 #[.int .u8 n] w fun e w' => e = .returned (.int .u64 (x : Int)) ∧ w' = w) := h1
    have H2 : Hid (Calls Try.prog 9 #[.int .u8 n] w fun e w' => e = .returned (.int .u64 (x : Int)) ∧ w' = w) := h2
    clear h1 h2 hx
    go_enter Try.func3, Try.ntmps3
    go_wp2_with (first
      | (go_at_call 8; refine H1.out.mono ?_; rintro e w' ⟨rfl, rfl⟩)
      | (go_at_call 9; refine H2.out.mono ?_; rintro e w' ⟨rfl, rfl⟩))
    go_ret
    exact ⟨by simp, Grown.refl _⟩
  · go_enter Try.func3, Try.ntmps3
    go_wp2
    go_ret
    exact ⟨rfl, Grown.refl _⟩
end Go.Proofs.Qxb6600655a
