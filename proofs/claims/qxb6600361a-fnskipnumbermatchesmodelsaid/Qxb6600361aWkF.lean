import Derived.Test.Qxb6600361aWkC
import Derived.OpenShut
namespace Go.Proofs.Qxb6600361a
open Go.RowKit

theorem D4.byte {w : World} {da : Option Addr} {zs : List Int} {cap : Nat} (h : D4 w da zs cap) {q : Nat} (hq : q < zs.length) :
    ∃ z g, 0 ≤ z ∧ z ≤ 255 ∧ Hid (zs.drop q = z :: zs.drop (q + 1)) ∧ da = some ⟨g, 0, none⟩ ∧ w.cell? ⟨g, q, none⟩ = some (.int .u8 z) := by
  obtain ⟨g, h1, h3⟩ := h.dat q hq
  exact ⟨zs.getD q 0, g, (h.rng q).1, (h.rng q).2, drop_lt hq, h1, h3 q hq⟩

theorem step_rng (s c : Int) : -1 ≤ step s c ∧ step s c ≤ 8 := by
  unfold step
  repeat' split
  all_goals omega

theorem numAccepting_any (s : Int) (w : World) : Calls Try.prog 31 #[.int .i64 s] w fun e w' => e = .returned (.bool (accB s)) ∧ w' = w := by
  rcases (show s = 2 ∨ s = 3 ∨ s = 5 ∨ s = 8 ∨ (s ≠ 2 ∧ s ≠ 3 ∧ s ≠ 5 ∧ s ≠ 8) by omega) with rfl | rfl | rfl | rfl | ⟨h2, h3, h5, h8⟩
  · go_enter Try.func31, Try.ntmps31
    go_wp2
    go_ret
    exact ⟨rfl, rfl⟩
  · go_enter Try.func31, Try.ntmps31
    go_wp2
    go_ret
    exact ⟨rfl, rfl⟩
  · go_enter Try.func31, Try.ntmps31
    go_wp2
    go_ret
    exact ⟨rfl, rfl⟩
  · go_enter Try.func31, Try.ntmps31
    go_wp2
    go_ret
    exact ⟨rfl, rfl⟩
  · have e2 : (s == 2) = false := by simpa using h2
    have e3 : (s == 3) = false := by simpa using h3
    have e5 : (s == 5) = false := by simpa using h5
    have e8 : (s == 8) = false := by simpa using h8
    have e : accB s = false := by simp [accB, h2, h3, h5, h8]
    rw [e]
    clear e h2 h3 h5 h8
    go_enter Try.func31, Try.ntmps31
    go_wp2
    go_ret
    exact ⟨by simp [*], rfl⟩

set_option maxRecDepth 20000 in
set_option maxHeartbeats 1000000 in
theorem numStep0 (c : Int) (c0 : 0 ≤ c) (c1 : c ≤ 255) (w : World) : Calls Try.prog 30 #[.int .i64 0, .int .u8 c] w fun e w' => e = .returned (.int .i64 (step 0 c)) ∧ w' = w := by
  rcases (show c = 45 ∨ c = 48 ∨ (49 ≤ c ∧ c ≤ 57) ∨ (c < 48 ∧ c ≠ 45) ∨ 57 < c by omega) with rfl | rfl | ⟨h, h'⟩ | ⟨h, h'⟩ | h
  all_goals try have e43 : (c == 43) = false := beq_eq_false_iff_ne.2 (by omega)
  all_goals try have e45 : (c == 45) = false := beq_eq_false_iff_ne.2 (by omega)
  all_goals try have e46 : (c == 46) = false := beq_eq_false_iff_ne.2 (by omega)
  all_goals try have e48 : (c == 48) = false := beq_eq_false_iff_ne.2 (by omega)
  all_goals try have e69 : (c == 69) = false := beq_eq_false_iff_ne.2 (by omega)
  all_goals try have e101 : (c == 101) = false := beq_eq_false_iff_ne.2 (by omega)
  all_goals
    go_enter Try.func30, Try.ntmps30
    go_wp2
    all_goals go_ret
    all_goals first
      | exact ⟨rfl, rfl⟩
      | exact ⟨ret_int (by simp only [step, isD]; repeat' split
                           all_goals (first | rfl | omega | (simp at *; done) | (simp at *; omega))), rfl⟩
set_option maxRecDepth 20000 in
set_option maxHeartbeats 1000000 in
theorem numStep1 (c : Int) (c0 : 0 ≤ c) (c1 : c ≤ 255) (w : World) : Calls Try.prog 30 #[.int .i64 1, .int .u8 c] w fun e w' => e = .returned (.int .i64 (step 1 c)) ∧ w' = w := by
  rcases (show c = 48 ∨ (49 ≤ c ∧ c ≤ 57) ∨ c < 48 ∨ 57 < c by omega) with rfl | ⟨h, h'⟩ | h | h
  all_goals try have e43 : (c == 43) = false := beq_eq_false_iff_ne.2 (by omega)
  all_goals try have e45 : (c == 45) = false := beq_eq_false_iff_ne.2 (by omega)
  all_goals try have e46 : (c == 46) = false := beq_eq_false_iff_ne.2 (by omega)
  all_goals try have e48 : (c == 48) = false := beq_eq_false_iff_ne.2 (by omega)
  all_goals try have e69 : (c == 69) = false := beq_eq_false_iff_ne.2 (by omega)
  all_goals try have e101 : (c == 101) = false := beq_eq_false_iff_ne.2 (by omega)
  all_goals
    go_enter Try.func30, Try.ntmps30
    go_wp2
    all_goals go_ret
    all_goals first
      | exact ⟨rfl, rfl⟩
      | exact ⟨ret_int (by simp only [step, isD]; repeat' split
                           all_goals (first | rfl | omega | (simp at *; done) | (simp at *; omega))), rfl⟩
set_option maxRecDepth 20000 in
set_option maxHeartbeats 1000000 in
theorem numStep2 (c : Int) (c0 : 0 ≤ c) (c1 : c ≤ 255) (w : World) : Calls Try.prog 30 #[.int .i64 2, .int .u8 c] w fun e w' => e = .returned (.int .i64 (step 2 c)) ∧ w' = w := by
  rcases (show c = 46 ∨ c = 101 ∨ c = 69 ∨ (48 ≤ c ∧ c ≤ 57) ∨ (c < 48 ∧ c ≠ 46) ∨ (57 < c ∧ c ≠ 101 ∧ c ≠ 69) by omega) with rfl | rfl | rfl | ⟨h, h'⟩ | ⟨h, h'⟩ | ⟨h, h', h''⟩
  all_goals try have e43 : (c == 43) = false := beq_eq_false_iff_ne.2 (by omega)
  all_goals try have e45 : (c == 45) = false := beq_eq_false_iff_ne.2 (by omega)
  all_goals try have e46 : (c == 46) = false := beq_eq_false_iff_ne.2 (by omega)
  all_goals try have e48 : (c == 48) = false := beq_eq_false_iff_ne.2 (by omega)
  all_goals try have e69 : (c == 69) = false := beq_eq_false_iff_ne.2 (by omega)
  all_goals try have e101 : (c == 101) = false := beq_eq_false_iff_ne.2 (by omega)
  all_goals
    go_enter Try.func30, Try.ntmps30
    go_wp2
    all_goals go_ret
    all_goals first
      | exact ⟨rfl, rfl⟩
      | exact ⟨ret_int (by simp only [step, isD]; repeat' split
                           all_goals (first | rfl | omega | (simp at *; done) | (simp at *; omega))), rfl⟩
set_option maxRecDepth 20000 in
set_option maxHeartbeats 1000000 in
theorem numStep3 (c : Int) (c0 : 0 ≤ c) (c1 : c ≤ 255) (w : World) : Calls Try.prog 30 #[.int .i64 3, .int .u8 c] w fun e w' => e = .returned (.int .i64 (step 3 c)) ∧ w' = w := by
  rcases (show c = 46 ∨ c = 101 ∨ c = 69 ∨ (48 ≤ c ∧ c ≤ 57) ∨ (c < 48 ∧ c ≠ 46) ∨ (57 < c ∧ c ≠ 101 ∧ c ≠ 69) by omega) with rfl | rfl | rfl | ⟨h, h'⟩ | ⟨h, h'⟩ | ⟨h, h', h''⟩
  all_goals try have e43 : (c == 43) = false := beq_eq_false_iff_ne.2 (by omega)
  all_goals try have e45 : (c == 45) = false := beq_eq_false_iff_ne.2 (by omega)
  all_goals try have e46 : (c == 46) = false := beq_eq_false_iff_ne.2 (by omega)
  all_goals try have e48 : (c == 48) = false := beq_eq_false_iff_ne.2 (by omega)
  all_goals try have e69 : (c == 69) = false := beq_eq_false_iff_ne.2 (by omega)
  all_goals try have e101 : (c == 101) = false := beq_eq_false_iff_ne.2 (by omega)
  all_goals
    go_enter Try.func30, Try.ntmps30
    go_wp2
    all_goals go_ret
    all_goals first
      | exact ⟨rfl, rfl⟩
      | exact ⟨ret_int (by simp only [step, isD]; repeat' split
                           all_goals (first | rfl | omega | (simp at *; done) | (simp at *; omega))), rfl⟩
set_option maxRecDepth 20000 in
set_option maxHeartbeats 1000000 in
theorem numStep4 (c : Int) (c0 : 0 ≤ c) (c1 : c ≤ 255) (w : World) : Calls Try.prog 30 #[.int .i64 4, .int .u8 c] w fun e w' => e = .returned (.int .i64 (step 4 c)) ∧ w' = w := by
  rcases (show (48 ≤ c ∧ c ≤ 57) ∨ c < 48 ∨ 57 < c by omega) with ⟨h, h'⟩ | h | h
  all_goals try have e43 : (c == 43) = false := beq_eq_false_iff_ne.2 (by omega)
  all_goals try have e45 : (c == 45) = false := beq_eq_false_iff_ne.2 (by omega)
  all_goals try have e46 : (c == 46) = false := beq_eq_false_iff_ne.2 (by omega)
  all_goals try have e48 : (c == 48) = false := beq_eq_false_iff_ne.2 (by omega)
  all_goals try have e69 : (c == 69) = false := beq_eq_false_iff_ne.2 (by omega)
  all_goals try have e101 : (c == 101) = false := beq_eq_false_iff_ne.2 (by omega)
  all_goals
    go_enter Try.func30, Try.ntmps30
    go_wp2
    all_goals go_ret
    all_goals first
      | exact ⟨rfl, rfl⟩
      | exact ⟨ret_int (by simp only [step, isD]; repeat' split
                           all_goals (first | rfl | omega | (simp at *; done) | (simp at *; omega))), rfl⟩
set_option maxRecDepth 20000 in
set_option maxHeartbeats 1000000 in
theorem numStep5 (c : Int) (c0 : 0 ≤ c) (c1 : c ≤ 255) (w : World) : Calls Try.prog 30 #[.int .i64 5, .int .u8 c] w fun e w' => e = .returned (.int .i64 (step 5 c)) ∧ w' = w := by
  rcases (show c = 101 ∨ c = 69 ∨ (48 ≤ c ∧ c ≤ 57) ∨ c < 48 ∨ (57 < c ∧ c ≠ 101 ∧ c ≠ 69) by omega) with rfl | rfl | ⟨h, h'⟩ | h | ⟨h, h', h''⟩
  all_goals try have e43 : (c == 43) = false := beq_eq_false_iff_ne.2 (by omega)
  all_goals try have e45 : (c == 45) = false := beq_eq_false_iff_ne.2 (by omega)
  all_goals try have e46 : (c == 46) = false := beq_eq_false_iff_ne.2 (by omega)
  all_goals try have e48 : (c == 48) = false := beq_eq_false_iff_ne.2 (by omega)
  all_goals try have e69 : (c == 69) = false := beq_eq_false_iff_ne.2 (by omega)
  all_goals try have e101 : (c == 101) = false := beq_eq_false_iff_ne.2 (by omega)
  all_goals
    go_enter Try.func30, Try.ntmps30
    go_wp2
    all_goals go_ret
    all_goals first
      | exact ⟨rfl, rfl⟩
      | exact ⟨ret_int (by simp only [step, isD]; repeat' split
                           all_goals (first | rfl | omega | (simp at *; done) | (simp at *; omega))), rfl⟩
set_option maxRecDepth 20000 in
set_option maxHeartbeats 1000000 in
theorem numStep6 (c : Int) (c0 : 0 ≤ c) (c1 : c ≤ 255) (w : World) : Calls Try.prog 30 #[.int .i64 6, .int .u8 c] w fun e w' => e = .returned (.int .i64 (step 6 c)) ∧ w' = w := by
  rcases (show c = 43 ∨ c = 45 ∨ (48 ≤ c ∧ c ≤ 57) ∨ (c < 48 ∧ c ≠ 43 ∧ c ≠ 45) ∨ 57 < c by omega) with rfl | rfl | ⟨h, h'⟩ | ⟨h, h', h''⟩ | h
  all_goals try have e43 : (c == 43) = false := beq_eq_false_iff_ne.2 (by omega)
  all_goals try have e45 : (c == 45) = false := beq_eq_false_iff_ne.2 (by omega)
  all_goals try have e46 : (c == 46) = false := beq_eq_false_iff_ne.2 (by omega)
  all_goals try have e48 : (c == 48) = false := beq_eq_false_iff_ne.2 (by omega)
  all_goals try have e69 : (c == 69) = false := beq_eq_false_iff_ne.2 (by omega)
  all_goals try have e101 : (c == 101) = false := beq_eq_false_iff_ne.2 (by omega)
  all_goals
    go_enter Try.func30, Try.ntmps30
    go_wp2
    all_goals go_ret
    all_goals first
      | exact ⟨rfl, rfl⟩
      | exact ⟨ret_int (by simp only [step, isD]; repeat' split
                           all_goals (first | rfl | omega | (simp at *; done) | (simp at *; omega))), rfl⟩
set_option maxRecDepth 20000 in
set_option maxHeartbeats 1000000 in
theorem numStep7 (c : Int) (c0 : 0 ≤ c) (c1 : c ≤ 255) (w : World) : Calls Try.prog 30 #[.int .i64 7, .int .u8 c] w fun e w' => e = .returned (.int .i64 (step 7 c)) ∧ w' = w := by
  rcases (show (48 ≤ c ∧ c ≤ 57) ∨ c < 48 ∨ 57 < c by omega) with ⟨h, h'⟩ | h | h
  all_goals try have e43 : (c == 43) = false := beq_eq_false_iff_ne.2 (by omega)
  all_goals try have e45 : (c == 45) = false := beq_eq_false_iff_ne.2 (by omega)
  all_goals try have e46 : (c == 46) = false := beq_eq_false_iff_ne.2 (by omega)
  all_goals try have e48 : (c == 48) = false := beq_eq_false_iff_ne.2 (by omega)
  all_goals try have e69 : (c == 69) = false := beq_eq_false_iff_ne.2 (by omega)
  all_goals try have e101 : (c == 101) = false := beq_eq_false_iff_ne.2 (by omega)
  all_goals
    go_enter Try.func30, Try.ntmps30
    go_wp2
    all_goals go_ret
    all_goals first
      | exact ⟨rfl, rfl⟩
      | exact ⟨ret_int (by simp only [step, isD]; repeat' split
                           all_goals (first | rfl | omega | (simp at *; done) | (simp at *; omega))), rfl⟩
set_option maxRecDepth 20000 in
set_option maxHeartbeats 1000000 in
theorem numStep8 (c : Int) (c0 : 0 ≤ c) (c1 : c ≤ 255) (w : World) : Calls Try.prog 30 #[.int .i64 8, .int .u8 c] w fun e w' => e = .returned (.int .i64 (step 8 c)) ∧ w' = w := by
  rcases (show (48 ≤ c ∧ c ≤ 57) ∨ c < 48 ∨ 57 < c by omega) with ⟨h, h'⟩ | h | h
  all_goals try have e43 : (c == 43) = false := beq_eq_false_iff_ne.2 (by omega)
  all_goals try have e45 : (c == 45) = false := beq_eq_false_iff_ne.2 (by omega)
  all_goals try have e46 : (c == 46) = false := beq_eq_false_iff_ne.2 (by omega)
  all_goals try have e48 : (c == 48) = false := beq_eq_false_iff_ne.2 (by omega)
  all_goals try have e69 : (c == 69) = false := beq_eq_false_iff_ne.2 (by omega)
  all_goals try have e101 : (c == 101) = false := beq_eq_false_iff_ne.2 (by omega)
  all_goals
    go_enter Try.func30, Try.ntmps30
    go_wp2
    all_goals go_ret
    all_goals first
      | exact ⟨rfl, rfl⟩
      | exact ⟨ret_int (by simp only [step, isD]; repeat' split
                           all_goals (first | rfl | omega | (simp at *; done) | (simp at *; omega))), rfl⟩
theorem numStep_any (s c : Int) (h0 : 0 ≤ s) (h1 : s ≤ 8) (c0 : 0 ≤ c) (c1 : c ≤ 255) (w : World) : Calls Try.prog 30 #[.int .i64 s, .int .u8 c] w fun e w' => e = .returned (.int .i64 (step s c)) ∧ w' = w := by
  rcases (show s = 0 ∨ s = 1 ∨ s = 2 ∨ s = 3 ∨ s = 4 ∨ s = 5 ∨ s = 6 ∨ s = 7 ∨ s = 8 by omega) with rfl | rfl | rfl | rfl | rfl | rfl | rfl | rfl | rfl
  · exact numStep0 c c0 c1 w
  · exact numStep1 c c0 c1 w
  · exact numStep2 c c0 c1 w
  · exact numStep3 c c0 c1 w
  · exact numStep4 c c0 c1 w
  · exact numStep5 c c0 c1 w
  · exact numStep6 c c0 c1 w
  · exact numStep7 c c0 c1 w
  · exact numStep8 c c0 c1 w
end Go.Proofs.Qxb6600361a
