import Derived.Test.Qxb6600361aWkK
namespace Go.Proofs.Qxb6600361a
open Go.RowKit

/-- skipString at p answered r and stands at q -/
def StrE (zs : List Int) (p : Nat) (r : Bool) (q : Nat) : Prop :=
  (r = true → ∃ k, sm false 0 (zs.drop (p + 1)) = some k ∧ q = p + 1 + k) ∧ (r = false → sm false 0 (zs.drop (p + 1)) = none)

set_option maxRecDepth 20000 in
set_option maxHeartbeats 2000000 in
theorem skipString_t {w0 w : World} {b : Nat} {da : Option Addr} {zs : List Int} {cap p : Nat} {f : Bool} (h : T4 w0 w b da zs cap p f) (hp : p < zs.length) :
    Calls Try.prog 44 #[.pointer (some ⟨b, 0, none⟩)] w fun e w' => ∃ r q, e = .returned (.bool r) ∧ Hid (StrE zs p r q) ∧ T4 w0 w' b da zs cap q f := by
  have hlen := h.st.len
  have hcap := h.st.cap
  unfold maxLen at hcap
  obtain ⟨c0, c1, c3, f1, f3⟩ := h.st.cells
  have H : Hid (T4 w0 w b da zs cap p f) := h
  clear h
  go_enter Try.func44, Try.ntmps44
  go_upto_region 1 with fail
  go_cut [] (fun wx => T4 w0 wx b da zs cap (p + 1) f)
  case first =>
    go_wp2
    go_meet
    case rel => simpa using H.out.setAt (q := p + 1) (by omega)
  case rest =>
    clear c0 c1 c3 f1 f3 H
    go_wp2
    go_loopg [] (zs.length - (p + 1)) (fun k wr => ∃ q : Nat, k + q = zs.length ∧ p + 1 ≤ q ∧ sm false 0 (zs.drop (p + 1)) = sh (q - (p + 1)) (sm false 0 (zs.drop q)) ∧ T4 w0 wr b da zs cap q f)
    case atStart => exact ⟨p + 1, by omega, by omega, by simp [sh_zero], hcut⟩
    case round =>
      clear hcut
      obtain ⟨q, h1, h2, hE, hT⟩ := hrel
      obtain ⟨c0, c1, c3, f1, f3⟩ := hT.st.cells
      have A : Aside (gk + q = zs.length ∧ sm false 0 (zs.drop (p + 1)) = sh (q - (p + 1)) (sm false 0 (zs.drop q)) ∧ T4 w0 wr b da zs cap q f) := ⟨h1, hE, hT⟩
      have hq : q ≤ zs.length := by omega
      clear hE h1
      by_cases hlt : q < zs.length
      · obtain ⟨z, g, hz0, hz1, E, rfl, hg, hcp⟩ := hT.st.byte hlt
        have hlt' : (q : Int) < (zs.length : Int) := by omega
        clear hT
        rcases (show z = 34 ∨ z < 32 ∨ z = 92 ∨ (32 ≤ z ∧ z ≠ 34 ∧ z ≠ 92) by omega) with hz | hz | hz | ⟨hz, hza, hzb⟩
        · subst hz
          go_wp2
          go_quiet (fail)
          go_wp2
          go_quiet (fail)
          go_wp2
          go_ret
          obtain ⟨h1, hE, hT⟩ := A.out
          refine ⟨true, q + 1, rfl, ⟨fun _ => ⟨q - (p + 1) + 1, ?_, by omega⟩, fun h => by cases h⟩, ?_⟩
          · rw [hE, E.out, sm_quote, sh_some, Nat.add_comm]
          · simpa using ((hT.drewN _).drewN _).setAt (q := q + 1) (by omega)
        · have e1 : (z == 34) = false := by simp; omega
          go_wp2
          go_quiet (fail)
          go_wp2
          go_quiet (fail)
          go_wp2
          go_ret
          obtain ⟨h1, hE, hT⟩ := A.out
          refine ⟨false, q, rfl, ⟨fun h => (by cases h), fun _ => ?_⟩, ?_⟩
          · rw [hE, E.out, sm_ctl hz]; rfl
          · simpa using ((hT.drewN _).drewN _)
        · subst hz
          go_wp2
          go_quiet (fail)
          go_wp2
          go_quiet (fail)
          go_wp2_with (go_at_call 37; refine (skipEscape_t (q := q) (f := f) (zs := zs) (cap := cap) (da := some ⟨g, 0, none⟩) (w0 := w0) (by first | exact A.out.2.2.drewN _ | exact (A.out.2.2.drewN _).drewN _) hlt).mono ?_; rintro e w' ⟨r, q', rfl, hEs, hT'⟩; obtain ⟨c0', c1', c3', f1', f3'⟩ := hT'.st.cells; have hp' := hT'.st.pos)
          · go_ret
            obtain ⟨h1, hE, hT⟩ := A.out
            refine ⟨false, q', rfl, ⟨fun h => (by cases h), fun _ => ?_⟩, hT'⟩
            rw [hE, E.out, sm_bs, hEs.out.2 (bF (by assumption))]; rfl
          · obtain ⟨h1, hE, hT⟩ := A.out
            obtain ⟨k1, k2, k3⟩ := hEs.out.1 (bT (by assumption))
            go_roundg (zs.length - (q' + 1))
            case measure => omega
            case rel =>
              refine ⟨q' + 1, by omega, by omega, ?_, ?_⟩
              · rw [hE, E.out, sm_bs, k3, sh_sh, sh_sh, show q' + 1 - (p + 1) = q - (p + 1) + 1 + (q' - q) by omega]
              · simpa using hT'.setAt (q := q' + 1) (by omega)
        · have e1 : (z == 34) = false := by simpa using hza
          have e2 : (z == 92) = false := by simpa using hzb
          have e3 : decide (z < 32) = false := by simp; omega
          have HZ : Hid (32 ≤ z ∧ z ≠ 34 ∧ z ≠ 92) := ⟨hz, hza, hzb⟩
          clear hza hzb
          go_wp2
          go_quiet (fail)
          go_wp2
          go_quiet (fail)
          go_wp2
          obtain ⟨h1, hE, hT⟩ := A.out
          go_roundg (zs.length - (q + 1))
          case measure => omega
          case rel =>
            refine ⟨q + 1, by omega, by omega, ?_, ?_⟩
            · rw [hE, E.out, sm_plain (by omega) HZ.out.2.1 HZ.out.2.2, sh_sh, show q + 1 - (p + 1) = q - (p + 1) + 1 by omega]
            · simpa using ((hT.drewN _).drewN _).setAt (q := q + 1) (by omega)
      · have hd' : decide ((q : Int) < (zs.length : Int)) = false := by simpa using hlt
        clear hT
        go_wp2
        go_quiet (fail)
        go_wp2
        go_ret
        obtain ⟨h1, hE, hT⟩ := A.out
        refine ⟨false, q, rfl, ⟨fun h => (by cases h), fun _ => ?_⟩, hT.drewN _⟩
        rw [hE, drop_ge hlt, sm_nil]; rfl
end Go.Proofs.Qxb6600361a
