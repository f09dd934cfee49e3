import Derived.Test.Qxb6600361aWkF
import Derived.Test.Qxb6600361aWkG
namespace Go.Proofs.Qxb6600361a
open Go.RowKit

theorem ret_pair {k : IntKind} {a b : Int} {r t : Bool} (h : a = b) (h' : r = t) : Ending.returned (.tuple #[.int k a, .bool r]) = .returned (.tuple #[.int k b, .bool t]) := by rw [h, h']

set_option maxHeartbeats 1000000 in
theorem numberModel_any (da : Option Addr) (ys : List Int) (cp p : Nat) (w : World) (h : D4 w da ys cp) (hp : p ≤ ys.length) :
    Calls Try.prog 12 #[.slice da ys.length cp, .int .i64 p] w fun e w' => e = .returned (.tuple #[.int .i64 ((p + (num (ys.drop p)).2 : Nat) : Int), .bool (num (ys.drop p)).1]) ∧ w' = w := by
  have hlen := h.len
  have hcap := h.cap
  unfold maxLen at hcap
  go_enter Try.func12, Try.ntmps12
  go_wp2
  go_loopg [6, 7] (ys.length - p) (fun k st i wr => ∃ (q : Nat) (s : Int), k + q = ys.length ∧ p ≤ q ∧ i = .int .i64 q ∧ st = .int .i64 s ∧ 0 ≤ s ∧ s ≤ 8 ∧ num (ys.drop p) = ((runs s (ys.drop q)).1, (q - p) + (runs s (ys.drop q)).2) ∧ w = wr)
  case atStart => exact ⟨p, 0, by omega, by omega, rfl, rfl, by omega, by omega, by rw [num_runs]; simp, rfl⟩
  case round =>
    obtain ⟨q, s, h1, h2, rfl, rfl, s0, s8, hR, rfl⟩ := hrel
    have A : Aside (gk + q = ys.length ∧ num (ys.drop p) = ((runs s (ys.drop q)).1, (q - p) + (runs s (ys.drop q)).2)) := ⟨h1, hR⟩
    have hq : q ≤ ys.length := by omega
    clear h1 hR
    by_cases hlt : q < ys.length
    · obtain ⟨z, g, hz0, hz1, E, rfl, hc⟩ := h.byte hlt
      have hlt' : (q : Int) < (ys.length : Int) := by omega
      obtain ⟨n1, n8⟩ := step_rng s z
      obtain ⟨n, hn⟩ : ∃ n, n = step s z := ⟨_, rfl⟩
      have hst := numStep_any s z s0 s8 hz0 hz1 w
      rw [← hn] at hst n1 n8
      have HS : Hid (n = step s z) := hn
      have HC : Hid (Calls Try.prog 30 #[.int .i64 s, .int .u8 z] w fun e w' => e = .returned (.int .i64 n) ∧ w' = w) := hst
      clear hn hst h
      by_cases hneg : n < 0
      · go_wp2_with (first
          | (go_at_call 30; refine HC.out.mono ?_; rintro e w' ⟨rfl, rfl⟩)
          | (go_at_call 31; refine (numAccepting_any _ _).mono ?_; rintro e w' ⟨rfl, rfl⟩))
        go_ret2
        obtain ⟨h1, hR⟩ := A.out
        rw [E.out, runs_stop _ (by rw [← HS.out]; exact hneg)] at hR
        exact ⟨ret_pair (by rw [hR]; simp; omega) (by rw [hR]), rfl⟩
      · go_wp2_with (go_at_call 30; refine HC.out.mono ?_; rintro e w' ⟨rfl, rfl⟩)
        go_roundg (ys.length - (q + 1))
        case measure => have := A.out.1; omega
        case rel =>
          obtain ⟨h1, hR⟩ := A.out
          rw [E.out, runs_go _ (by rw [← HS.out]; omega), ← HS.out] at hR
          refine ⟨q + 1, n, by omega, by omega, by go_num, rfl, by omega, by omega, ?_, rfl⟩
          rw [hR]; simp; omega
    · go_wp2_with (go_at_call 31; refine (numAccepting_any _ _).mono ?_; rintro e w' ⟨rfl, rfl⟩)
      go_ret2
      obtain ⟨h1, hR⟩ := A.out
      rw [drop_ge hlt, runs_nil] at hR
      exact ⟨ret_pair (by rw [hR]; simp; omega) (by rw [hR]), rfl⟩

theorem size11_any (a : Option Addr) (len cap : Nat) (v : Int) (f : Bool) (w : World) (h : len ≤ 1048576) : Calls Try.prog 11 #[.slice a len cap, .int .i64 v, .bool f] w fun e w' => e = .returned (.bool true) ∧ w' = w := by
  go_enter Try.func11, Try.ntmps11
  go_wp2
  go_ret
  exact ⟨rfl, rfl⟩
theorem size11_no (a : Option Addr) (len cap : Nat) (v : Int) (f : Bool) (w : World) (h : 1048576 < len) (hc : len ≤ 9223372036854775807) : Calls Try.prog 11 #[.slice a len cap, .int .i64 v, .bool f] w fun e w' => e = .returned (.bool false) ∧ w' = w := by
  go_enter Try.func11, Try.ntmps11
  go_wp2
  go_ret
  exact ⟨rfl, rfl⟩

set_option maxRecDepth 20000 in
set_option maxHeartbeats 1000000 in
theorem walk4 (a0 : Option Addr) (len0 cap0 : Nat) (z0 : List Int) (a1 : Int) (a2 : Bool) (w : World) (w0 : IsRow .u8 w a0 len0 cap0 z0) (w1 : (Lit.int .i64 a1).wf = true) :
    Calls Try.prog 4 #[.slice a0 len0 cap0, .int .i64 a1, .bool a2] w fun e w' => e = .returned (.bool true) ∧ Below w.heap.size w w' := by
  obtain ⟨hl1, hl2⟩ := w0.len
  by_cases hl : len0 ≤ 1048576
  · by_cases h0 : a1 < 0
    · go_enter Try.func4, Try.ntmps4
      go_wp2_with (go_at_call 11; refine (size11_any _ _ _ _ _ _ hl).mono ?_; rintro e w' ⟨rfl, rfl⟩)
      go_ret
      exact ⟨rfl, Below.refl _ _⟩
    by_cases h1 : (len0 : Int) < a1
    · go_enter Try.func4, Try.ntmps4
      go_wp2_with (go_at_call 11; refine (size11_any _ _ _ _ _ _ hl).mono ?_; rintro e w' ⟨rfl, rfl⟩)
      go_ret
      exact ⟨rfl, Below.refl _ _⟩
    obtain ⟨p, rfl⟩ : ∃ p : Nat, a1 = p := ⟨a1.toNat, by omega⟩
    have W0 : Hid (IsRow .u8 w a0 len0 cap0 z0) := w0
    clear w0
    go_enter Try.func4, Try.ntmps4
    go_wp2_with (first
      | (go_at_call 11; refine (size11_any _ _ _ _ _ _ hl).mono ?_; rintro e w' ⟨rfl, rfl⟩)
      | (go_at_call 9; refine (clone_any W0.out hl).mono ?_; rintro e w2 ⟨da, ys, cp, rfl, hY, k1, k2, hD, hB⟩)
      | (go_at_call 12; refine (numberModel_any da ys cp p _ hD (by omega)).mono ?_; rintro e w' ⟨rfl, rfl⟩)
      | (go_at_call 13; refine (runNumber_any da ys cp p a2 _ hD (by omega)).mono ?_; rintro e w3 ⟨rfl, hB3⟩))
    go_ret
    exact ⟨by simp, hB.trans (hB3.mono hB.size)⟩
  · go_enter Try.func4, Try.ntmps4
    go_wp2_with (go_at_call 11; refine (size11_no _ _ _ _ _ _ (by omega) (by omega)).mono ?_; rintro e w' ⟨rfl, rfl⟩)
    go_ret
    exact ⟨rfl, Below.refl _ _⟩
end Go.Proofs.Qxb6600361a
