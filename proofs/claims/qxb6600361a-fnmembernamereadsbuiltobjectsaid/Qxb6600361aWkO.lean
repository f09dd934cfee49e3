import Derived.Test.Qxb6600361aWkN
namespace Go.Proofs.Qxb6600361a
open Go.RowKit

/-- the string's end as the law's model says it: behind the closing quote, or -1 -/
def smEnd (q : Nat) : Option Nat → Int
  | some k => ((q + 1 + k : Nat) : Int)
  | none => -1

set_option maxRecDepth 20000 in
set_option maxHeartbeats 2000000 in
theorem stringEnd_any {w : World} {da : Option Addr} {ys : List Int} {cp : Nat} (h : D4 w da ys cp) (q : Nat) (v : Int) (hv : v = smEnd q (sm false 0 (ys.drop (q + 1)))) (hq : q < ys.length) :
    Calls Try.prog 33 #[.slice da ys.length cp, .int .i64 q] w fun e w' => e = .returned (.int .i64 v) ∧ w' = w := by
  have HV : Hid (v = smEnd q (sm false 0 (ys.drop (q + 1)))) := hv
  have hlen := h.len
  have hcap := h.cap
  unfold maxLen at hcap
  clear hv
  go_enter Try.func33, Try.ntmps33
  go_wp2
  go_loopg [5, 6, 7] (ys.length - (q + 1)) (fun k es ne i wr => ∃ (e : Bool) (n j : Nat), k + j = ys.length ∧ q + 1 ≤ j ∧ n ≤ 4 ∧ es = .bool e ∧ ne = .int .i64 n ∧ i = .int .i64 j ∧ sm false 0 (ys.drop (q + 1)) = sh (j - (q + 1)) (sm e n (ys.drop j)) ∧ w = wr)
  case atStart => exact ⟨false, 0, q + 1, by omega, by omega, by omega, rfl, rfl, by go_num, by simp [sh_zero], rfl⟩
  case round =>
    obtain ⟨e, n, j, h1, h2, hn4, rfl, rfl, rfl, hE, rfl⟩ := hrel
    have A : Aside (gk + j = ys.length ∧ sm false 0 (ys.drop (q + 1)) = sh (j - (q + 1)) (sm e n (ys.drop j))) := ⟨h1, hE⟩
    have hj : j ≤ ys.length := by omega
    clear h1 hE
    by_cases hlt : j < ys.length
    · obtain ⟨z, g, hz0, hz1, E, rfl, hc⟩ := h.at hlt
      have hlt' : (j : Int) < (ys.length : Int) := by omega
      clear h
      cases n with
      | succ n =>
        have hx := hexValue_any z w hz0 hz1
        have HX : Hid (Calls Try.prog 39 #[.int .u8 z] w fun e w' => ∃ v, e = .returned (.int .i64 v) ∧ ((hexB z = true ∧ 0 ≤ v ∧ v ≤ 255) ∨ (hexB z = false ∧ v = -1)) ∧ w' = w) := hx
        clear hx
        by_cases hh : hexB z = true
        · have HH : Hid (hexB z = true) := hh
          clear hh
          go_wp2_with (go_at_call 39; refine HX.out.mono ?_; rintro e w' ⟨u, rfl, hu | hu, rfl⟩; rotate_left; (exact absurd hu.1 (by rw [HH.out]; decide)); obtain ⟨_, hu0, hu1⟩ := hu)
          go_roundg (ys.length - (j + 1))
          case measure => have := A.out.1; omega
          case rel =>
            refine ⟨e, n, j + 1, by omega, by omega, by omega, rfl, by go_num, by go_num, ?_, rfl⟩
            rw [A.out.2, E.out, sm_hex HH.out, sh_sh, show j + 1 - (q + 1) = j - (q + 1) + 1 by omega]
        · have HH : Hid (hexB z = false) := (by simpa using hh : hexB z = false)
          clear hh
          go_wp2_with (go_at_call 39; refine HX.out.mono ?_; rintro e w' ⟨u, rfl, hu | hu, rfl⟩; (exact absurd hu.1 (by rw [HH.out]; decide)); obtain ⟨_, rfl⟩ := hu)
          go_ret
          exact ⟨ret_int (by rw [HV.out, A.out.2, E.out, sm_nohex HH.out]; rfl), rfl⟩
      | zero =>
        cases e with
        | true =>
          by_cases hu : z = 117
          · subst hu
            go_wp2
            go_roundg (ys.length - (j + 1))
            case measure => have := A.out.1; omega
            case rel =>
              refine ⟨false, 4, j + 1, by omega, by omega, by omega, rfl, rfl, by go_num, ?_, rfl⟩
              rw [A.out.2, E.out, sm_u, sh_sh, show j + 1 - (q + 1) = j - (q + 1) + 1 by omega]
          · have e1 : (z == 117) = false := by simpa using hu
            have HU : Hid (z ≠ 117) := hu
            have hs := isShort_any z w
            clear hu
            by_cases hh : shortB z = true
            · rw [hh] at hs
              have HS : Hid (Calls Try.prog 40 #[.int .u8 z] w fun e w' => e = .returned (.bool true) ∧ w' = w) := hs
              have HH : Hid (shortB z = true) := hh
              clear hs hh
              go_wp2_with (go_at_call 40; refine HS.out.mono ?_; rintro e w' ⟨rfl, rfl⟩)
              go_roundg (ys.length - (j + 1))
              case measure => have := A.out.1; omega
              case rel =>
                refine ⟨false, 0, j + 1, by omega, by omega, by omega, rfl, rfl, by go_num, ?_, rfl⟩
                rw [A.out.2, E.out, sm_short HH.out, sh_sh, show j + 1 - (q + 1) = j - (q + 1) + 1 by omega]
            · have hh' : shortB z = false := by simpa using hh
              rw [hh'] at hs
              have HS : Hid (Calls Try.prog 40 #[.int .u8 z] w fun e w' => e = .returned (.bool false) ∧ w' = w) := hs
              have HH : Hid (shortB z = false) := hh'
              clear hs hh hh'
              go_wp2_with (go_at_call 40; refine HS.out.mono ?_; rintro e w' ⟨rfl, rfl⟩)
              go_ret
              exact ⟨ret_int (by rw [HV.out, A.out.2, E.out, sm_bad HH.out HU.out]; rfl), rfl⟩
        | false =>
          rcases (show z = 34 ∨ z < 32 ∨ z = 92 ∨ (32 ≤ z ∧ z ≠ 34 ∧ z ≠ 92) by omega) with hz | hz | hz | ⟨hz, hza, hzb⟩
          · subst hz
            go_wp2
            go_ret
            exact ⟨ret_int (by rw [HV.out, A.out.2, E.out, sm_quote, sh_some, smEnd]; omega), rfl⟩
          · have e1 : (z == 34) = false := by simp; omega
            go_wp2
            go_ret
            exact ⟨ret_int (by rw [HV.out, A.out.2, E.out, sm_ctl hz]; rfl), rfl⟩
          · subst hz
            go_wp2
            go_roundg (ys.length - (j + 1))
            case measure => have := A.out.1; omega
            case rel =>
              refine ⟨true, 0, j + 1, by omega, by omega, by omega, rfl, rfl, by go_num, ?_, rfl⟩
              rw [A.out.2, E.out, sm_bs, sh_sh, show j + 1 - (q + 1) = j - (q + 1) + 1 by omega]
          · have e1 : (z == 34) = false := by simpa using hza
            have e2 : (z == 92) = false := by simpa using hzb
            have HZ : Hid (z ≠ 34 ∧ z ≠ 92) := ⟨hza, hzb⟩
            clear hza hzb
            go_wp2
            go_roundg (ys.length - (j + 1))
            case measure => have := A.out.1; omega
            case rel =>
              refine ⟨false, 0, j + 1, by omega, by omega, by omega, rfl, rfl, by go_num, ?_, rfl⟩
              rw [A.out.2, E.out, sm_plain (by omega) HZ.out.1 HZ.out.2, sh_sh, show j + 1 - (q + 1) = j - (q + 1) + 1 by omega]
    · go_wp2
      go_ret
      exact ⟨ret_int (by rw [HV.out, A.out.2, drop_ge hlt, sm_nil]; rfl), rfl⟩
end Go.Proofs.Qxb6600361a
