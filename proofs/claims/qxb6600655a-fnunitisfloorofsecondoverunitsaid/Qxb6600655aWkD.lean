import Derived.Test.Qxb6600655aWkC
namespace Go.Proofs.Qxb6600655a
open Go.RowKit

theorem zzpow10_as (n : Nat) (hn : n ≤ 19) (w : World) (k x : Int) (hk : k = n) (hx : x = ((10 ^ n : Nat) : Int)) : Calls Try.prog 8 #[.int .u8 k] w fun e w' => e = .returned (.int .u64 x) ∧ w' = w := by
  subst hk hx; exact zzpow10_any n hn w

set_option maxRecDepth 20000 in
set_option maxHeartbeats 4000000 in
/-- the binary unit, at an exponent up to 29 -/
theorem walk7_bin (n : Nat) (h : n ≤ 29) (w : World) :
    Calls Try.prog 7 #[.bool false, .int .u8 n] w fun e w' => e = .returned (.bool true) ∧ Grown w w' := by
  rcases small_cases h with rfl | rfl | rfl | rfl | rfl | rfl | rfl | rfl | rfl | rfl | rfl | rfl | rfl | rfl | rfl | rfl | rfl | rfl | rfl | rfl | rfl | rfl | rfl | rfl | rfl | rfl | rfl | rfl | rfl | rfl
  · go_enter Try.func7, Try.ntmps7
    go_wp2_with fail
    refine (zzunit_as 0 0 false 0 0 _ (by decide) 0 1000000000 rfl (by decide)).mono ?_
    rintro e1 w1 ⟨rfl, rfl⟩
    go_wp2
    go_ret
    exact ⟨rfl, (Grown.refl _).alloc _ _⟩
  · go_enter Try.func7, Try.ntmps7
    go_wp2_with fail
    refine (zzunit_as 0 0 false 1 0 _ (by decide) 1 500000000 rfl (by decide)).mono ?_
    rintro e1 w1 ⟨rfl, rfl⟩
    go_wp2
    go_ret
    exact ⟨rfl, (Grown.refl _).alloc _ _⟩
  · go_enter Try.func7, Try.ntmps7
    go_wp2_with fail
    refine (zzunit_as 0 0 false 2 0 _ (by decide) 2 250000000 rfl (by decide)).mono ?_
    rintro e1 w1 ⟨rfl, rfl⟩
    go_wp2
    go_ret
    exact ⟨rfl, (Grown.refl _).alloc _ _⟩
  · go_enter Try.func7, Try.ntmps7
    go_wp2_with fail
    refine (zzunit_as 0 0 false 3 0 _ (by decide) 3 125000000 rfl (by decide)).mono ?_
    rintro e1 w1 ⟨rfl, rfl⟩
    go_wp2
    go_ret
    exact ⟨rfl, (Grown.refl _).alloc _ _⟩
  · go_enter Try.func7, Try.ntmps7
    go_wp2_with fail
    refine (zzunit_as 0 0 false 4 0 _ (by decide) 4 62500000 rfl (by decide)).mono ?_
    rintro e1 w1 ⟨rfl, rfl⟩
    go_wp2
    go_ret
    exact ⟨rfl, (Grown.refl _).alloc _ _⟩
  · go_enter Try.func7, Try.ntmps7
    go_wp2_with fail
    refine (zzunit_as 0 0 false 5 0 _ (by decide) 5 31250000 rfl (by decide)).mono ?_
    rintro e1 w1 ⟨rfl, rfl⟩
    go_wp2
    go_ret
    exact ⟨rfl, (Grown.refl _).alloc _ _⟩
  · go_enter Try.func7, Try.ntmps7
    go_wp2_with fail
    refine (zzunit_as 0 0 false 6 0 _ (by decide) 6 15625000 rfl (by decide)).mono ?_
    rintro e1 w1 ⟨rfl, rfl⟩
    go_wp2
    go_ret
    exact ⟨rfl, (Grown.refl _).alloc _ _⟩
  · go_enter Try.func7, Try.ntmps7
    go_wp2_with fail
    refine (zzunit_as 0 0 false 7 0 _ (by decide) 7 7812500 rfl (by decide)).mono ?_
    rintro e1 w1 ⟨rfl, rfl⟩
    go_wp2
    go_ret
    exact ⟨rfl, (Grown.refl _).alloc _ _⟩
  · go_enter Try.func7, Try.ntmps7
    go_wp2_with fail
    refine (zzunit_as 0 0 false 8 0 _ (by decide) 8 3906250 rfl (by decide)).mono ?_
    rintro e1 w1 ⟨rfl, rfl⟩
    go_wp2
    go_ret
    exact ⟨rfl, (Grown.refl _).alloc _ _⟩
  · go_enter Try.func7, Try.ntmps7
    go_wp2_with fail
    refine (zzunit_as 0 0 false 9 0 _ (by decide) 9 1953125 rfl (by decide)).mono ?_
    rintro e1 w1 ⟨rfl, rfl⟩
    go_wp2
    go_ret
    exact ⟨rfl, (Grown.refl _).alloc _ _⟩
  · go_enter Try.func7, Try.ntmps7
    go_wp2_with fail
    refine (zzunit_as 0 0 false 10 0 _ (by decide) 10 976562 rfl (by decide)).mono ?_
    rintro e1 w1 ⟨rfl, rfl⟩
    go_wp2
    go_ret
    exact ⟨rfl, (Grown.refl _).alloc _ _⟩
  · go_enter Try.func7, Try.ntmps7
    go_wp2_with fail
    refine (zzunit_as 0 0 false 11 0 _ (by decide) 11 488281 rfl (by decide)).mono ?_
    rintro e1 w1 ⟨rfl, rfl⟩
    go_wp2
    go_ret
    exact ⟨rfl, (Grown.refl _).alloc _ _⟩
  · go_enter Try.func7, Try.ntmps7
    go_wp2_with fail
    refine (zzunit_as 0 0 false 12 0 _ (by decide) 12 244140 rfl (by decide)).mono ?_
    rintro e1 w1 ⟨rfl, rfl⟩
    go_wp2
    go_ret
    exact ⟨rfl, (Grown.refl _).alloc _ _⟩
  · go_enter Try.func7, Try.ntmps7
    go_wp2_with fail
    refine (zzunit_as 0 0 false 13 0 _ (by decide) 13 122070 rfl (by decide)).mono ?_
    rintro e1 w1 ⟨rfl, rfl⟩
    go_wp2
    go_ret
    exact ⟨rfl, (Grown.refl _).alloc _ _⟩
  · go_enter Try.func7, Try.ntmps7
    go_wp2_with fail
    refine (zzunit_as 0 0 false 14 0 _ (by decide) 14 61035 rfl (by decide)).mono ?_
    rintro e1 w1 ⟨rfl, rfl⟩
    go_wp2
    go_ret
    exact ⟨rfl, (Grown.refl _).alloc _ _⟩
  · go_enter Try.func7, Try.ntmps7
    go_wp2_with fail
    refine (zzunit_as 0 0 false 15 0 _ (by decide) 15 30517 rfl (by decide)).mono ?_
    rintro e1 w1 ⟨rfl, rfl⟩
    go_wp2
    go_ret
    exact ⟨rfl, (Grown.refl _).alloc _ _⟩
  · go_enter Try.func7, Try.ntmps7
    go_wp2_with fail
    refine (zzunit_as 0 0 false 16 0 _ (by decide) 16 15258 rfl (by decide)).mono ?_
    rintro e1 w1 ⟨rfl, rfl⟩
    go_wp2
    go_ret
    exact ⟨rfl, (Grown.refl _).alloc _ _⟩
  · go_enter Try.func7, Try.ntmps7
    go_wp2_with fail
    refine (zzunit_as 0 0 false 17 0 _ (by decide) 17 7629 rfl (by decide)).mono ?_
    rintro e1 w1 ⟨rfl, rfl⟩
    go_wp2
    go_ret
    exact ⟨rfl, (Grown.refl _).alloc _ _⟩
  · go_enter Try.func7, Try.ntmps7
    go_wp2_with fail
    refine (zzunit_as 0 0 false 18 0 _ (by decide) 18 3814 rfl (by decide)).mono ?_
    rintro e1 w1 ⟨rfl, rfl⟩
    go_wp2
    go_ret
    exact ⟨rfl, (Grown.refl _).alloc _ _⟩
  · go_enter Try.func7, Try.ntmps7
    go_wp2_with fail
    refine (zzunit_as 0 0 false 19 0 _ (by decide) 19 1907 rfl (by decide)).mono ?_
    rintro e1 w1 ⟨rfl, rfl⟩
    go_wp2
    go_ret
    exact ⟨rfl, (Grown.refl _).alloc _ _⟩
  · go_enter Try.func7, Try.ntmps7
    go_wp2_with fail
    refine (zzunit_as 0 0 false 20 0 _ (by decide) 20 953 rfl (by decide)).mono ?_
    rintro e1 w1 ⟨rfl, rfl⟩
    go_wp2
    go_ret
    exact ⟨rfl, (Grown.refl _).alloc _ _⟩
  · go_enter Try.func7, Try.ntmps7
    go_wp2_with fail
    refine (zzunit_as 0 0 false 21 0 _ (by decide) 21 476 rfl (by decide)).mono ?_
    rintro e1 w1 ⟨rfl, rfl⟩
    go_wp2
    go_ret
    exact ⟨rfl, (Grown.refl _).alloc _ _⟩
  · go_enter Try.func7, Try.ntmps7
    go_wp2_with fail
    refine (zzunit_as 0 0 false 22 0 _ (by decide) 22 238 rfl (by decide)).mono ?_
    rintro e1 w1 ⟨rfl, rfl⟩
    go_wp2
    go_ret
    exact ⟨rfl, (Grown.refl _).alloc _ _⟩
  · go_enter Try.func7, Try.ntmps7
    go_wp2_with fail
    refine (zzunit_as 0 0 false 23 0 _ (by decide) 23 119 rfl (by decide)).mono ?_
    rintro e1 w1 ⟨rfl, rfl⟩
    go_wp2
    go_ret
    exact ⟨rfl, (Grown.refl _).alloc _ _⟩
  · go_enter Try.func7, Try.ntmps7
    go_wp2_with fail
    refine (zzunit_as 0 0 false 24 0 _ (by decide) 24 59 rfl (by decide)).mono ?_
    rintro e1 w1 ⟨rfl, rfl⟩
    go_wp2
    go_ret
    exact ⟨rfl, (Grown.refl _).alloc _ _⟩
  · go_enter Try.func7, Try.ntmps7
    go_wp2_with fail
    refine (zzunit_as 0 0 false 25 0 _ (by decide) 25 29 rfl (by decide)).mono ?_
    rintro e1 w1 ⟨rfl, rfl⟩
    go_wp2
    go_ret
    exact ⟨rfl, (Grown.refl _).alloc _ _⟩
  · go_enter Try.func7, Try.ntmps7
    go_wp2_with fail
    refine (zzunit_as 0 0 false 26 0 _ (by decide) 26 14 rfl (by decide)).mono ?_
    rintro e1 w1 ⟨rfl, rfl⟩
    go_wp2
    go_ret
    exact ⟨rfl, (Grown.refl _).alloc _ _⟩
  · go_enter Try.func7, Try.ntmps7
    go_wp2_with fail
    refine (zzunit_as 0 0 false 27 0 _ (by decide) 27 7 rfl (by decide)).mono ?_
    rintro e1 w1 ⟨rfl, rfl⟩
    go_wp2
    go_ret
    exact ⟨rfl, (Grown.refl _).alloc _ _⟩
  · go_enter Try.func7, Try.ntmps7
    go_wp2_with fail
    refine (zzunit_as 0 0 false 28 0 _ (by decide) 28 3 rfl (by decide)).mono ?_
    rintro e1 w1 ⟨rfl, rfl⟩
    go_wp2
    go_ret
    exact ⟨rfl, (Grown.refl _).alloc _ _⟩
  · go_enter Try.func7, Try.ntmps7
    go_wp2_with fail
    refine (zzunit_as 0 0 false 29 0 _ (by decide) 29 1 rfl (by decide)).mono ?_
    rintro e1 w1 ⟨rfl, rfl⟩
    go_wp2
    go_ret
    exact ⟨rfl, (Grown.refl _).alloc _ _⟩

set_option maxRecDepth 20000 in
set_option maxHeartbeats 2000000 in
/-- the decimal unit, at an exponent up to 9 -/
theorem walk7_dec (n : Nat) (h : n ≤ 9) (w : World) :
    Calls Try.prog 7 #[.bool true, .int .u8 n] w fun e w' => e = .returned (.bool true) ∧ Grown w w' := by
  rcases (show n = 0 ∨ n = 1 ∨ n = 2 ∨ n = 3 ∨ n = 4 ∨ n = 5 ∨ n = 6 ∨ n = 7 ∨ n = 8 ∨ n = 9 by omega) with rfl | rfl | rfl | rfl | rfl | rfl | rfl | rfl | rfl | rfl
  · go_enter Try.func7, Try.ntmps7
    go_wp2_with fail
    refine (zzunit_as 0 0 true 0 0 _ (by decide) 0 1000000000 rfl (by decide)).mono ?_
    rintro e1 w1 ⟨rfl, rfl⟩
    go_wp2_with fail
    refine (zzpow10_as 0 (by decide) _ 0 1 rfl (by decide)).mono ?_
    rintro e2 w2 ⟨rfl, rfl⟩
    go_wp2_with fail
    refine (zzpow10_as 9 (by decide) _ 9 1000000000 rfl (by decide)).mono ?_
    rintro e3 w3 ⟨rfl, rfl⟩
    go_wp2
    go_ret
    exact ⟨rfl, (Grown.refl _).alloc _ _⟩
  · go_enter Try.func7, Try.ntmps7
    go_wp2_with fail
    refine (zzunit_as 0 0 true 1 0 _ (by decide) 1 100000000 rfl (by decide)).mono ?_
    rintro e1 w1 ⟨rfl, rfl⟩
    go_wp2_with fail
    refine (zzpow10_as 1 (by decide) _ 1 10 rfl (by decide)).mono ?_
    rintro e2 w2 ⟨rfl, rfl⟩
    go_wp2_with fail
    refine (zzpow10_as 9 (by decide) _ 9 1000000000 rfl (by decide)).mono ?_
    rintro e3 w3 ⟨rfl, rfl⟩
    go_wp2
    go_ret
    exact ⟨rfl, (Grown.refl _).alloc _ _⟩
  · go_enter Try.func7, Try.ntmps7
    go_wp2_with fail
    refine (zzunit_as 0 0 true 2 0 _ (by decide) 2 10000000 rfl (by decide)).mono ?_
    rintro e1 w1 ⟨rfl, rfl⟩
    go_wp2_with fail
    refine (zzpow10_as 2 (by decide) _ 2 100 rfl (by decide)).mono ?_
    rintro e2 w2 ⟨rfl, rfl⟩
    go_wp2_with fail
    refine (zzpow10_as 9 (by decide) _ 9 1000000000 rfl (by decide)).mono ?_
    rintro e3 w3 ⟨rfl, rfl⟩
    go_wp2
    go_ret
    exact ⟨rfl, (Grown.refl _).alloc _ _⟩
  · go_enter Try.func7, Try.ntmps7
    go_wp2_with fail
    refine (zzunit_as 0 0 true 3 0 _ (by decide) 3 1000000 rfl (by decide)).mono ?_
    rintro e1 w1 ⟨rfl, rfl⟩
    go_wp2_with fail
    refine (zzpow10_as 3 (by decide) _ 3 1000 rfl (by decide)).mono ?_
    rintro e2 w2 ⟨rfl, rfl⟩
    go_wp2_with fail
    refine (zzpow10_as 9 (by decide) _ 9 1000000000 rfl (by decide)).mono ?_
    rintro e3 w3 ⟨rfl, rfl⟩
    go_wp2
    go_ret
    exact ⟨rfl, (Grown.refl _).alloc _ _⟩
  · go_enter Try.func7, Try.ntmps7
    go_wp2_with fail
    refine (zzunit_as 0 0 true 4 0 _ (by decide) 4 100000 rfl (by decide)).mono ?_
    rintro e1 w1 ⟨rfl, rfl⟩
    go_wp2_with fail
    refine (zzpow10_as 4 (by decide) _ 4 10000 rfl (by decide)).mono ?_
    rintro e2 w2 ⟨rfl, rfl⟩
    go_wp2_with fail
    refine (zzpow10_as 9 (by decide) _ 9 1000000000 rfl (by decide)).mono ?_
    rintro e3 w3 ⟨rfl, rfl⟩
    go_wp2
    go_ret
    exact ⟨rfl, (Grown.refl _).alloc _ _⟩
  · go_enter Try.func7, Try.ntmps7
    go_wp2_with fail
    refine (zzunit_as 0 0 true 5 0 _ (by decide) 5 10000 rfl (by decide)).mono ?_
    rintro e1 w1 ⟨rfl, rfl⟩
    go_wp2_with fail
    refine (zzpow10_as 5 (by decide) _ 5 100000 rfl (by decide)).mono ?_
    rintro e2 w2 ⟨rfl, rfl⟩
    go_wp2_with fail
    refine (zzpow10_as 9 (by decide) _ 9 1000000000 rfl (by decide)).mono ?_
    rintro e3 w3 ⟨rfl, rfl⟩
    go_wp2
    go_ret
    exact ⟨rfl, (Grown.refl _).alloc _ _⟩
  · go_enter Try.func7, Try.ntmps7
    go_wp2_with fail
    refine (zzunit_as 0 0 true 6 0 _ (by decide) 6 1000 rfl (by decide)).mono ?_
    rintro e1 w1 ⟨rfl, rfl⟩
    go_wp2_with fail
    refine (zzpow10_as 6 (by decide) _ 6 1000000 rfl (by decide)).mono ?_
    rintro e2 w2 ⟨rfl, rfl⟩
    go_wp2_with fail
    refine (zzpow10_as 9 (by decide) _ 9 1000000000 rfl (by decide)).mono ?_
    rintro e3 w3 ⟨rfl, rfl⟩
    go_wp2
    go_ret
    exact ⟨rfl, (Grown.refl _).alloc _ _⟩
  · go_enter Try.func7, Try.ntmps7
    go_wp2_with fail
    refine (zzunit_as 0 0 true 7 0 _ (by decide) 7 100 rfl (by decide)).mono ?_
    rintro e1 w1 ⟨rfl, rfl⟩
    go_wp2_with fail
    refine (zzpow10_as 7 (by decide) _ 7 10000000 rfl (by decide)).mono ?_
    rintro e2 w2 ⟨rfl, rfl⟩
    go_wp2_with fail
    refine (zzpow10_as 9 (by decide) _ 9 1000000000 rfl (by decide)).mono ?_
    rintro e3 w3 ⟨rfl, rfl⟩
    go_wp2
    go_ret
    exact ⟨rfl, (Grown.refl _).alloc _ _⟩
  · go_enter Try.func7, Try.ntmps7
    go_wp2_with fail
    refine (zzunit_as 0 0 true 8 0 _ (by decide) 8 10 rfl (by decide)).mono ?_
    rintro e1 w1 ⟨rfl, rfl⟩
    go_wp2_with fail
    refine (zzpow10_as 8 (by decide) _ 8 100000000 rfl (by decide)).mono ?_
    rintro e2 w2 ⟨rfl, rfl⟩
    go_wp2_with fail
    refine (zzpow10_as 9 (by decide) _ 9 1000000000 rfl (by decide)).mono ?_
    rintro e3 w3 ⟨rfl, rfl⟩
    go_wp2
    go_ret
    exact ⟨rfl, (Grown.refl _).alloc _ _⟩
  · go_enter Try.func7, Try.ntmps7
    go_wp2_with fail
    refine (zzunit_as 0 0 true 9 0 _ (by decide) 9 1 rfl (by decide)).mono ?_
    rintro e1 w1 ⟨rfl, rfl⟩
    go_wp2_with fail
    refine (zzpow10_as 9 (by decide) _ 9 1000000000 rfl (by decide)).mono ?_
    rintro e2 w2 ⟨rfl, rfl⟩
    go_wp2_with fail
    refine (zzpow10_as 9 (by decide) _ 9 1000000000 rfl (by decide)).mono ?_
    rintro e3 w3 ⟨rfl, rfl⟩
    go_wp2
    go_ret
    exact ⟨rfl, (Grown.refl _).alloc _ _⟩

set_option maxHeartbeats 1000000 in
/-- past those it is 1 -/
theorem walk7_one (d : Bool) (n : Nat) (hn : n ≤ 255) (h : (if d then 9 else 29) < n) (w : World) :
    Calls Try.prog 7 #[.bool d, .int .u8 n] w fun e w' => e = .returned (.bool true) ∧ Grown w w' := by
  have e : 1 = uu d n := by
    cases d
    · exact (ub_one (by simpa using h)).symm
    · exact (ud_one (by have : 9 < n := by simpa using h
                        omega)).symm
  have E : Hid (1 = uu d n) := e
  clear e
  cases d
  all_goals
    simp at h
    go_enter Try.func7, Try.ntmps7
    go_wp2_with fail
    refine (zzunit_as 0 0 _ n 0 _ hn _ 1 rfl E.out).mono ?_
    rintro e1 w1 ⟨rfl, rfl⟩
    go_wp2
    go_ret
    exact ⟨rfl, (Grown.refl _).alloc _ _⟩

theorem walk7 (d : Bool) (n : Nat) (hn : n ≤ 255) (w : World) :
    Calls Try.prog 7 #[.bool d, .int .u8 n] w fun e w' => e = .returned (.bool true) ∧ Grown w w' := by
  by_cases h : (if d then 9 else 29) < n
  · exact walk7_one d n hn h w
  · cases d
    · exact walk7_bin n (by simpa using h) w
    · exact walk7_dec n (by simpa using h) w
end Go.Proofs.Qxb6600655a
