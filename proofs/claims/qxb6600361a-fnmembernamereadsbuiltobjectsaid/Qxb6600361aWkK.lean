import Derived.Test.Qxb6600361aWkJ
import Derived.Deep.DeepCutAuto
namespace Go.Proofs.Qxb6600361a
open Go.RowKit

/-- skipEscape at q answered r and stands at q' -/
def Esc (zs : List Int) (q : Nat) (r : Bool) (q' : Nat) : Prop :=
  (r = true → q < q' ∧ q' < zs.length ∧ sm true 0 (zs.drop (q + 1)) = sh (q' - q) (sm false 0 (zs.drop (q' + 1)))) ∧ (r = false → sm true 0 (zs.drop (q + 1)) = none)

set_option maxRecDepth 20000 in
set_option maxHeartbeats 2000000 in
theorem skipEscape_t {w0 w : World} {b : Nat} {da : Option Addr} {zs : List Int} {cap q : Nat} {f : Bool} (h : T4 w0 w b da zs cap q f) (hq : q < zs.length) :
    Calls Try.prog 37 #[.pointer (some ⟨b, 0, none⟩)] w fun e w' => ∃ r q', e = .returned (.bool r) ∧ Hid (Esc zs q r q') ∧ T4 w0 w' b da zs cap q' f := by
  have hlen := h.st.len
  have hcap := h.st.cap
  unfold maxLen at hcap
  obtain ⟨c0, c1, c3, f1, f3⟩ := h.st.cells
  have H : Hid (T4 w0 w b da zs cap q f) := h
  clear h
  go_enter Try.func37, Try.ntmps37
  go_upto_region 1 with fail
  go_cut [] (fun wx => T4 w0 wx b da zs cap (q + 1) f)
  case first =>
    go_wp2
    go_meet
    case rel => simpa using H.out.setAt (q := q + 1) (by omega)
  case rest =>
    clear c0 c1 c3 f1 f3 H
    obtain ⟨c0, c1, c3, f1, f3⟩ := hcut.st.cells
    by_cases hl : q + 1 < zs.length
    · obtain ⟨z, g, hz0, hz1, E, rfl, hg, hcp⟩ := hcut.st.byte hl
      have hl' : (q : Int) + 1 < (zs.length : Int) := by omega
      have d0 : ((q : Int) + 1 == (zs.length : Int)) = false := by simp; omega
      have H : Hid (T4 w0 wc b (some ⟨g, 0, none⟩) zs cap (q + 1) f) := hcut
      clear hcut
      by_cases hs : shortB z = true
      · have HS : Hid (shortB z = true) := hs
        have hs' := (shortB_iff z).1 hs
        clear hs
        rcases hs' with rfl | rfl | rfl | rfl | rfl | rfl | rfl | rfl
        all_goals
          go_wp2
          go_quiet (fail)
          go_wp2
          go_quiet (fail)
          go_wp2
          go_ret
          refine ⟨true, q + 1, rfl, ⟨fun _ => ⟨by omega, hl, ?_⟩, fun h => by cases h⟩, H.out.drewN _⟩
          rw [E.out, sm_short HS.out, show q + 1 - q = 1 by omega]
      · by_cases hu : z = 117
        · subst hu
          by_cases h4 : zs.length - (q + 1) ≤ 4
          · have h4' : (zs.length : Int) - ((q : Int) + 1) ≤ 4 := by omega
            go_wp2
            go_quiet (fail)
            go_wp2
            go_quiet (fail)
            go_wp2
            go_quiet (fail)
            go_wp2
            go_ret
            refine ⟨false, q + 1, rfl, ⟨fun h => (by cases h), fun _ => ?_⟩, (H.out.drewN _).drewN _⟩
            rw [E.out, sm_u, sm_few (by simp; omega)]; rfl
          · have h4' : decide ((zs.length : Int) - ((q : Int) + 1) ≤ 4) = false := by simp; omega
            have h5 : (q : Int) + 6 ≤ (zs.length : Int) := by omega
            have h6 : (q : Int) + 6 ≤ (cap : Int) := by omega
            go_wp2
            go_quiet (fail)
            go_wp2
            go_quiet (fail)
            go_wp2
            go_quiet (fail)
            go_wp2
            go_quiet (fail)
            go_wp2
            rw [show q + 1 + 5 - (q + 1 + 1) = 4 by omega]
            go_loopg [70] 4 (fun k i wr => ∃ j : Nat, k + j = 4 ∧ i = .int .i64 j ∧ T4 w0 wr b (some ⟨g, 0, none⟩) zs cap (q + 1) f ∧ sm false 4 (zs.drop (q + 2)) = sh j (sm false (4 - j) (zs.drop (q + 2 + j))))
            case atStart => exact ⟨0, by omega, rfl, (((H.out.drewN _).drewN _).drewN _), by simp [sh_zero]⟩
            case round =>
              clear H hcp c0 c1 c3 f1 f3
              obtain ⟨j, hk, rfl, hT, hE⟩ := hrel
              have A : Aside (gk + j = 4 ∧ sm false 4 (zs.drop (q + 2)) = sh j (sm false (4 - j) (zs.drop (q + 2 + j)))) := ⟨hk, hE⟩
              have hj4 : j ≤ 4 := by omega
              clear hk hE
              by_cases hj : j < 4
              · obtain ⟨y, g', hy0, hy1, E2, eg, hg', hcy⟩ := hT.st.byte (q := q + 1 + 1 + j) (by omega)
                simp only [Option.some.injEq, Addr.mk.injEq, and_true] at eg
                subst eg
                have hT' : Hid (T4 w0 wr b (some ⟨g, 0, none⟩) zs cap (q + 1) f) := hT
                clear hT
                have hji : (j : Int) < 4 := by omega
                by_cases hx : hexB y = true
                · have HX : Hid (hexB y = true) := hx
                  have hc := isHex_any y wr
                  rw [hx] at hc
                  have HC : Hid (Calls Try.prog 47 #[.int .u8 y] wr fun e w' => e = .returned (.bool true) ∧ w' = wr) := hc
                  clear hx hc
                  go_wp2_with (go_at_call 47; refine HC.out.mono ?_; rintro e w' ⟨rfl, rfl⟩)
                  go_roundg (4 - (j + 1))
                  case measure => have := A.out.1; omega
                  case rel =>
                    refine ⟨j + 1, by omega, by go_num, hT'.out, ?_⟩
                    rw [A.out.2, show q + 2 + j = q + 1 + 1 + j by omega, E2.out, show 4 - j = (4 - (j + 1)) + 1 by omega, sm_hex HX.out, sh_sh]
                    rfl
                · have HX : Hid (hexB y = false) := (by simpa using hx : hexB y = false)
                  have hc := isHex_any y wr
                  rw [HX.out] at hc
                  have HC : Hid (Calls Try.prog 47 #[.int .u8 y] wr fun e w' => e = .returned (.bool false) ∧ w' = wr) := hc
                  clear hx hc
                  go_wp2_with (go_at_call 47; refine HC.out.mono ?_; rintro e w' ⟨rfl, rfl⟩)
                  go_ret
                  refine ⟨false, q + 1, rfl, ⟨fun h => (by cases h), fun _ => ?_⟩, hT'.out⟩
                  rw [E.out, sm_u, show q + 1 + 1 = q + 2 by omega, A.out.2, show q + 2 + j = q + 1 + 1 + j by omega, E2.out, show 4 - j = (4 - (j + 1)) + 1 by omega, sm_nohex HX.out]
                  rfl
              · have e4 : j = 4 := by omega
                subst e4
                obtain ⟨c0, c1, c3, f1, f3⟩ := hT.st.cells
                have hT' : Hid (T4 w0 wr b (some ⟨g, 0, none⟩) zs cap (q + 1) f) := hT
                clear hT
                go_wp2
                go_ret
                refine ⟨true, q + 5, rfl, ⟨fun _ => ⟨by omega, by omega, ?_⟩, fun h => by cases h⟩, ?_⟩
                · rw [E.out, sm_u, show q + 1 + 1 = q + 2 by omega, A.out.2, sh_sh, show q + 5 - q = 1 + 4 by omega]
                · have := hT'.out.setAt (q := q + 5) (by omega)
                  rw [show (((q + 5 : Nat)) : Int) = (q : Int) + 1 + 4 by omega] at this
                  exact this
        · have HS : Hid (shortB z = false) := (by simpa using hs : shortB z = false)
          have HU : Hid (z ≠ 117) := hu
          obtain ⟨n1, n2, n3, n4, n5, n6, n7, n8⟩ := (shortB_false z).1 HS.out
          have e1 : (z == 34) = false := by simpa using n1
          have e2 : (z == 92) = false := by simpa using n2
          have e3 : (z == 47) = false := by simpa using n3
          have e4 : (z == 98) = false := by simpa using n4
          have e5 : (z == 102) = false := by simpa using n5
          have e6 : (z == 110) = false := by simpa using n6
          have e7 : (z == 114) = false := by simpa using n7
          have e8 : (z == 116) = false := by simpa using n8
          have e9 : (z == 117) = false := by simpa using hu
          clear n1 n2 n3 n4 n5 n6 n7 n8 hs hu
          go_wp2
          go_quiet (fail)
          go_wp2
          go_quiet (fail)
          go_wp2
          go_ret
          refine ⟨false, q + 1, rfl, ⟨fun h => (by cases h), fun _ => ?_⟩, H.out.drewN _⟩
          rw [E.out, sm_bad HS.out HU.out]
    · have d0 : ((q : Int) + 1 == (zs.length : Int)) = true := by simp; omega
      have H : Hid (T4 w0 wc b da zs cap (q + 1) f) := hcut
      clear hcut
      go_wp2
      go_quiet (fail)
      go_wp2
      go_ret
      refine ⟨false, q + 1, rfl, ⟨fun h => (by cases h), fun _ => ?_⟩, H.out.drewN _⟩
      rw [drop_ge hl, sm_nil]
end Go.Proofs.Qxb6600361a
