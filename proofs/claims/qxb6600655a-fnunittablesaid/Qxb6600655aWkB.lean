import Derived.Test.Qxb6600655aWkA
namespace Go.Proofs.Qxb6600655a
open Go.RowKit

/-- the binary unit: whole nanoseconds in 2^-n seconds, 1 at least -/
def ub (n : Nat) : Int := if n ≤ 29 then 1000000000 / 2 ^ n else 1
/-- the decimal unit: nanoseconds in 10^-n seconds, 1 at least -/
def ud (n : Nat) : Int := if n ≤ 8 then ((10 ^ (9 - n) : Nat) : Int) else 1
def uu (d : Bool) (n : Nat) : Int := if d then ud n else ub n

theorem half_small {n : Nat} (h : 30 ≤ n) : (1000000000 : Int) / 2 ^ n = 0 := by
  apply Int.ediv_eq_zero_of_lt (by decide)
  have h1 : 2 ^ 30 ≤ 2 ^ n := Nat.pow_le_pow_right (by decide) h
  have h2 : ((2 ^ n : Nat) : Int) = 2 ^ n := by simp
  rw [← h2]
  have h3 : (2 : Nat) ^ 30 = 1073741824 := by decide
  omega

theorem small_cases {n : Nat} (h : n ≤ 29) : n = 0 ∨ n = 1 ∨ n = 2 ∨ n = 3 ∨ n = 4 ∨ n = 5 ∨ n = 6 ∨ n = 7 ∨ n = 8 ∨ n = 9 ∨ n = 10 ∨ n = 11 ∨ n = 12 ∨ n = 13 ∨ n = 14 ∨ n = 15 ∨ n = 16 ∨ n = 17 ∨ n = 18 ∨ n = 19 ∨ n = 20 ∨ n = 21 ∨ n = 22 ∨ n = 23 ∨ n = 24 ∨ n = 25 ∨ n = 26 ∨ n = 27 ∨ n = 28 ∨ n = 29 := by omega

theorem ub_ge (n : Nat) : 1 ≤ ub n ∧ ub n ≤ 1000000000 := by
  by_cases h : n ≤ 29
  · rcases small_cases h with rfl | rfl | rfl | rfl | rfl | rfl | rfl | rfl | rfl | rfl | rfl | rfl | rfl | rfl | rfl | rfl | rfl | rfl | rfl | rfl | rfl | rfl | rfl | rfl | rfl | rfl | rfl | rfl | rfl | rfl <;> decide
  · simp [ub, h]

theorem ub_is {n : Nat} (h : n ≤ 29) : ub n = 1000000000 / 2 ^ n := by simp [ub, h]
theorem ub_one {n : Nat} (h : ¬ n ≤ 29) : ub n = 1 := by simp [ub, h]

theorem ub_big {n : Nat} (h : 1 < (1000000000 : Int) / 2 ^ n) : (1000000000 : Int) / 2 ^ n = ub n := by
  by_cases h' : n ≤ 29
  · exact (ub_is h').symm
  · rw [half_small (by omega)] at h; omega
theorem ub_small {n : Nat} (h : (1000000000 : Int) / 2 ^ n ≤ 1) : 1 = ub n := by
  by_cases h' : n ≤ 29
  · have := (ub_ge n).1
    rw [ub_is h'] at this ⊢; omega
  · exact (ub_one h').symm

set_option maxHeartbeats 400000 in
theorem unit_false (b : Nat) (n : Nat) (w : World) (hn : n ≤ 255) (h2 : w.cell? ⟨b, 2, none⟩ = some (.bool false)) (h3 : w.cell? ⟨b, 3, none⟩ = some (.int .u8 n)) :
    Calls Try.prog 14 #[.pointer (some ⟨b, 0, none⟩)] w fun r w' => r = .returned (.int .i64 (ub n)) ∧ w' = w := by
  by_cases h : n < 63
  · go_enter Try.func14, Try.ntmps14
    go_wp2
    all_goals go_ret
    all_goals
      refine ⟨ret_int ?_, rfl⟩
      first
        | exact ub_big (by assumption)
        | exact ub_small (by assumption)
  · rw [ub_one (by omega)]
    rcases (show n = 63 ∨ 63 < n by omega) with rfl | h63
    · go_enter Try.func14, Try.ntmps14
      go_wp2
      all_goals go_ret
      all_goals exact ⟨rfl, rfl⟩
    · have h64 : (63 : Int) < (n : Int) := by omega
      go_enter Try.func14, Try.ntmps14
      go_wp2
      all_goals go_ret
      all_goals exact ⟨rfl, rfl⟩

set_option maxHeartbeats 400000 in
theorem unit_true (b : Nat) (n : Nat) (w : World) (hn : n ≤ 255) (h2 : w.cell? ⟨b, 2, none⟩ = some (.bool true)) (h3 : w.cell? ⟨b, 3, none⟩ = some (.int .u8 n)) :
    Calls Try.prog 14 #[.pointer (some ⟨b, 0, none⟩)] w fun r w' => r = .returned (.int .i64 (ud n)) ∧ w' = w := by
  by_cases h : n ≤ 8
  · obtain ⟨x, hx⟩ : ∃ x : Nat, x = 10 ^ (9 - n) := ⟨_, rfl⟩
    have hp := pow10_any (9 - n) (by omega) w
    have e : ud n = (x : Int) := by rw [ud, if_pos h, hx]
    have hb : x ≤ 1000000000 := by rw [hx]; exact Nat.pow_le_pow_right (show 0 < 10 by omega) (show 9 - n ≤ 9 by omega)
    rw [← hx, show (((9 - n : Nat)) : Int) = 9 - (n : Int) by omega] at hp
    rw [e]
    have H : Hid (Calls Try.prog 13 #[.int .u8 (9 - (n : Int))] w fun e w' => e = .returned (.int .u64 (x : Int)) ∧ w' = w) := hp
    clear hp hx e
    go_enter Try.func14, Try.ntmps14
    go_wp2_with (go_at_call 13; refine H.out.mono ?_; rintro e w' ⟨rfl, rfl⟩)
    go_ret
    exact ⟨rfl, rfl⟩
  · rw [show ud n = 1 by simp [ud, h]]
    go_enter Try.func14, Try.ntmps14
    go_wp2
    go_ret
    exact ⟨rfl, rfl⟩

theorem zzunit_any (a b : Int) (d : Bool) (n : Nat) (o : Int) (w : World) (hn : n ≤ 255) :
    Calls Try.prog 12 #[.int .u16 a, .int .u32 b, .bool d, .int .u8 n, .int .i64 o] w fun r w' => r = .returned (.int .i64 (uu d n)) ∧ w' = w.alloc (.cells #[.int .u16 a, .int .u32 b, .bool d, .int .u8 n, .int .i64 o] 34) := by
  obtain ⟨u, hu⟩ : ∃ u, u = uu d n := ⟨_, rfl⟩
  have h : Calls Try.prog 14 #[.pointer (some ⟨w.heap.size, 0, none⟩)] (w.alloc (.cells #[.int .u16 a, .int .u32 b, .bool d, .int .u8 n, .int .i64 o] 34)) fun r w' => r = .returned (.int .i64 u) ∧ w' = w.alloc (.cells #[.int .u16 a, .int .u32 b, .bool d, .int .u8 n, .int .i64 o] 34) := by
    rw [hu]
    cases d
    · exact unit_false _ n _ hn (by simp) (by simp)
    · exact unit_true _ n _ hn (by simp) (by simp)
  rw [← hu]
  have H := h
  clear hu
  have HH : Hid (Calls Try.prog 14 #[.pointer (some ⟨w.heap.size, 0, none⟩)] (w.alloc (.cells #[.int .u16 a, .int .u32 b, .bool d, .int .u8 n, .int .i64 o] 34)) fun r w' => r = .returned (.int .i64 u) ∧ w' = w.alloc (.cells #[.int .u16 a, .int .u32 b, .bool d, .int .u8 n, .int .i64 o] 34)) := H
  clear H h
  go_enter Try.func12, Try.ntmps12
  go_wp2_with (go_at_call 14; refine HH.out.mono ?_; rintro e w' ⟨rfl, rfl⟩)
  go_ret
  exact ⟨rfl, rfl⟩
end Go.Proofs.Qxb6600655a
