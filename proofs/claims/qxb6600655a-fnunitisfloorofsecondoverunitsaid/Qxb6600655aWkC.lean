import Derived.Test.Qxb6600655aWkB
namespace Go.Proofs.Qxb6600655a
open Go.RowKit

set_option maxRecDepth 20000 in
set_option maxHeartbeats 2000000 in
theorem binaryTable_any (n : Nat) (hn : n ≤ 255) (w : World) : Calls Try.prog 10 #[.int .u8 n] w fun e w' => e = .returned (.int .i64 (ub n)) ∧ w' = w := by
  by_cases h : n ≤ 29
  · rcases small_cases h with rfl | rfl | rfl | rfl | rfl | rfl | rfl | rfl | rfl | rfl | rfl | rfl | rfl | rfl | rfl | rfl | rfl | rfl | rfl | rfl | rfl | rfl | rfl | rfl | rfl | rfl | rfl | rfl | rfl | rfl
    all_goals
      go_enter Try.func10, Try.ntmps10
      go_wp2
      go_ret
      exact ⟨ret_int (by decide), rfl⟩
  · rw [ub_one h]
    go_enter Try.func10, Try.ntmps10
    go_wp2
    go_ret
    exact ⟨rfl, rfl⟩

theorem ud_one {n : Nat} (h : ¬ n ≤ 8) : ud n = 1 := by simp [ud, h]
theorem nine_cases {n : Nat} (h : n ≤ 8) : n = 0 ∨ n = 1 ∨ n = 2 ∨ n = 3 ∨ n = 4 ∨ n = 5 ∨ n = 6 ∨ n = 7 ∨ n = 8 := by omega

set_option maxRecDepth 20000 in
set_option maxHeartbeats 1000000 in
theorem decimalTable_any (n : Nat) (hn : n ≤ 255) (w : World) : Calls Try.prog 11 #[.int .u8 n] w fun e w' => e = .returned (.int .i64 (ud n)) ∧ w' = w := by
  by_cases h : n ≤ 8
  · rcases nine_cases h with rfl | rfl | rfl | rfl | rfl | rfl | rfl | rfl | rfl
    all_goals
      go_enter Try.func11, Try.ntmps11
      go_wp2
      go_ret
      exact ⟨ret_int (by decide), rfl⟩
  · rw [ud_one h]
    go_enter Try.func11, Try.ntmps11
    go_wp2
    go_ret
    exact ⟨rfl, rfl⟩

set_option maxHeartbeats 1000000 in
theorem walk5 (a0 : Int) (a1 : Int) (a2 : Bool) (n : Nat) (a4 : Int) (hn : n ≤ 255) (w : World) :
    Calls Try.prog 5 #[.int .u16 a0, .int .u32 a1, .bool a2, .int .u8 n, .int .i64 a4] w fun e w' => e = .returned (.bool true) ∧ Grown w w' := by
  cases a2
  · go_enter Try.func5, Try.ntmps5
    go_wp2_with (first
      | (go_at_call 10; refine (binaryTable_any n hn _).mono ?_; rintro e w' ⟨rfl, rfl⟩)
      | (go_at_call 12; refine (zzunit_any _ _ _ n _ _ hn).mono ?_; rintro e w' ⟨rfl, rfl⟩))
    go_ret
    exact ⟨by simp [uu], (Grown.refl _).alloc _ _⟩
  · go_enter Try.func5, Try.ntmps5
    go_wp2_with (first
      | (go_at_call 10; refine (binaryTable_any n hn _).mono ?_; rintro e w' ⟨rfl, rfl⟩)
      | (go_at_call 11; refine (decimalTable_any n hn _).mono ?_; rintro e w' ⟨rfl, rfl⟩)
      | (go_at_call 12; refine (zzunit_any _ _ _ n _ _ hn).mono ?_; rintro e w' ⟨rfl, rfl⟩))
    go_ret
    exact ⟨by simp [uu], (Grown.refl _).alloc _ _⟩

/-! ### the unit falls as its exponent rises -/
theorem ub_falls (n : Nat) : ub (n + 1) ≤ ub n ∧ (1 < ub n → ub (n + 1) < ub n) := by
  by_cases h : n ≤ 29
  · rcases small_cases h with rfl | rfl | rfl | rfl | rfl | rfl | rfl | rfl | rfl | rfl | rfl | rfl | rfl | rfl | rfl | rfl | rfl | rfl | rfl | rfl | rfl | rfl | rfl | rfl | rfl | rfl | rfl | rfl | rfl | rfl <;> decide
  · rw [ub_one h, ub_one (by omega)]; decide
theorem ud_ge (n : Nat) : 1 ≤ ud n ∧ ud n ≤ 1000000000 := by
  by_cases h : n ≤ 8
  · rcases nine_cases h with rfl | rfl | rfl | rfl | rfl | rfl | rfl | rfl | rfl <;> decide
  · rw [ud_one h]; decide
theorem ud_falls (n : Nat) : ud (n + 1) ≤ ud n ∧ (1 < ud n → ud (n + 1) < ud n) := by
  by_cases h : n ≤ 8
  · rcases nine_cases h with rfl | rfl | rfl | rfl | rfl | rfl | rfl | rfl | rfl <;> decide
  · rw [ud_one h, ud_one (by omega)]; decide
theorem uu_ge (d : Bool) (n : Nat) : 1 ≤ uu d n ∧ uu d n ≤ 1000000000 := by cases d; exact ub_ge n; exact ud_ge n
theorem uu_falls (d : Bool) (n : Nat) : uu d (n + 1) ≤ uu d n ∧ (1 < uu d n → uu d (n + 1) < uu d n) := by cases d; exact ub_falls n; exact ud_falls n

theorem zzunit_as (a b : Int) (d : Bool) (n : Nat) (o : Int) (w : World) (hn : n ≤ 255) (k u : Int) (hk : k = n) (hu : u = uu d n) :
    Calls Try.prog 12 #[.int .u16 a, .int .u32 b, .bool d, .int .u8 k, .int .i64 o] w fun r w' => r = .returned (.int .i64 u) ∧ w' = w.alloc (.cells #[.int .u16 a, .int .u32 b, .bool d, .int .u8 k, .int .i64 o] 34) := by
  subst hk hu; exact zzunit_any a b d n o w hn

set_option maxHeartbeats 1000000 in
theorem walk6 (d : Bool) (n : Nat) (hn : n ≤ 255) (w : World) :
    Calls Try.prog 6 #[.bool d, .int .u8 n] w fun e w' => e = .returned (.bool true) ∧ Grown w w' := by
  by_cases h : n = 255
  · subst h
    go_enter Try.func6, Try.ntmps6
    go_wp2
    go_ret
    exact ⟨rfl, Grown.refl _⟩
  · obtain ⟨u, hu⟩ : ∃ u, u = uu d n := ⟨_, rfl⟩
    obtain ⟨v, hv⟩ : ∃ v, v = uu d (n + 1) := ⟨_, rfl⟩
    have e : ((n : Int) == 255) = false := by simpa using (show (n : Int) ≠ 255 by omega)
    obtain ⟨u1, u2⟩ := uu_ge d n
    obtain ⟨v1, v2⟩ := uu_ge d (n + 1)
    obtain ⟨f1, f2⟩ := uu_falls d n
    rw [← hu] at u1 u2 f1 f2
    rw [← hv] at v1 f1 f2
    have HU : Hid (u = uu d n) := hu
    have HV : Hid (v = uu d (n + 1)) := hv
    have hn' : n ≤ 254 := by omega
    clear hu hv v2 h
    rcases (show u = 1 ∨ 1 < u by omega) with hu | hu
    · have hv : v = 1 := by omega
      subst hu hv
      clear f2
      go_enter Try.func6, Try.ntmps6
      go_wp2_with fail
      refine (zzunit_as _ _ d n _ _ hn _ 1 rfl HU.out).mono ?_
      rintro e1 w1 ⟨rfl, rfl⟩
      go_wp2_with fail
      refine (zzunit_as _ _ d (n + 1) _ _ (by omega) _ 1 (by omega) HV.out).mono ?_
      rintro e2 w2 ⟨rfl, rfl⟩
      go_wp2
      go_ret
      exact ⟨rfl, ((Grown.refl _).alloc _ _).alloc _ _⟩
    · have f3 := f2 hu
      clear f2
      go_enter Try.func6, Try.ntmps6
      go_wp2_with fail
      refine (zzunit_as _ _ d n _ _ hn _ u rfl HU.out).mono ?_
      rintro e1 w1 ⟨rfl, rfl⟩
      go_wp2_with fail
      refine (zzunit_as _ _ d (n + 1) _ _ (by omega) _ v (by omega) HV.out).mono ?_
      rintro e2 w2 ⟨rfl, rfl⟩
      go_wp2
      go_ret
      exact ⟨rfl, ((Grown.refl _).alloc _ _).alloc _ _⟩
end Go.Proofs.Qxb6600655a
