import Derived.Test.Qxb6600361aProg
import Derived.Test.Qxb6600361aSp
import Derived.Deep.QuietTactic
import Derived.BigQuiet
import Derived.Deep.LoopGhost
namespace Go.Proofs.Qxb6600361a
open Go.RowKit

set_option maxHeartbeats 400000 in
theorem accepts_any (b : Nat) (da : Option Addr) (zs : List Int) (cap p : Nat) (f : Bool) (c : Int) (w : World) (h : S4 w b da zs cap p f) :
    Calls Try.prog 45 #[.pointer (some ⟨b, 0, none⟩), .int .u8 c] w fun e w' => e = .returned (.bool (hd c (zs.drop p))) ∧ S4 w' b da zs cap (p + adv c (zs.drop p)) f ∧ w.grownBy w' (some b) := by
  obtain ⟨c0, c1, c3, f1, f3⟩ := h.cells
  have hlen := h.len
  have hcap := h.cap
  unfold maxLen at hcap
  have hpos := h.pos
  by_cases hp : p < zs.length
  · obtain ⟨z, g, hz0, hz1, E, rfl, hg, hcp⟩ := h.byte hp
    have hp' : (p : Int) < (zs.length : Int) := by omega
    have H : Hid (S4 w b (some ⟨g, 0, none⟩) zs cap p f) := h
    clear h
    by_cases hz : z = c
    · subst hz
      go_enter Try.func45, Try.ntmps45
      go_wp2
      go_quiet (fail)
      go_wp2
      go_ret
      rw [E.out]
      refine ⟨by simp [hd], ?_, grown_trans (grown_drewN (World.grownBy.refl _ _) _) (grown_set _ _ _ _)⟩
      have := (H.out.drewN nq).setAt (q := p + 1) (by omega)
      simpa [adv, hd] using this
    · have hz' : (z == c) = false := by simpa using hz
      go_enter Try.func45, Try.ntmps45
      go_wp2
      go_quiet (fail)
      go_wp2
      go_ret
      rw [E.out]
      refine ⟨by simp only [hd, hz']; rfl, ?_, grown_drewN (World.grownBy.refl _ _) _⟩
      simpa [adv, hd, hz] using H.out.drewN nq
  · have e := drop_ge hp
    have E : Hid (zs.drop p = []) := e
    have hd' : decide ((p : Int) < (zs.length : Int)) = false := by simpa using hp
    clear e
    have H : Hid (S4 w b da zs cap p f) := h
    clear h
    go_enter Try.func45, Try.ntmps45
    go_wp2
    go_quiet (fail)
    go_wp2
    go_ret
    rw [E.out]
    refine ⟨by simp [hd], ?_, grown_drewN (World.grownBy.refl _ _) _⟩
    simpa [adv, hd] using H.out.drewN nq

theorem ret_int {k : IntKind} {a b : Int} (h : a = b) : Ending.returned (.int k a) = .returned (.int k b) := by rw [h]

set_option maxHeartbeats 800000 in
theorem skipDigits_any (b : Nat) (da : Option Addr) (zs : List Int) (cap p : Nat) (f : Bool) (w : World) (h : S4 w b da zs cap p f) :
    Calls Try.prog 46 #[.pointer (some ⟨b, 0, none⟩)] w fun e w' => e = .returned (.int .i64 (digs (zs.drop p))) ∧ S4 w' b da zs cap (p + digs (zs.drop p)) f ∧ w.grownBy w' (some b) := by
  obtain ⟨c0, c1, c3, f1, f3⟩ := h.cells
  have hlen := h.len
  have hcap := h.cap
  unfold maxLen at hcap
  have hpos := h.pos
  go_enter Try.func46, Try.ntmps46
  go_wp2
  go_loopg [] (zs.length - p) (fun k wr => ∃ q : Nat, k + q = zs.length ∧ p ≤ q ∧ digs (zs.drop p) = (q - p) + digs (zs.drop q) ∧ S4 wr b da zs cap q f ∧ w.grownBy wr (some b))
  case atStart => exact ⟨p, by omega, by omega, by simp, h, World.grownBy.refl _ _⟩
  case round =>
    clear c0 c1 c3 f1 f3 h
    obtain ⟨q, h1, h2, hdg, hS, hG⟩ := hrel
    obtain ⟨c0, c1, c3, f1, f3⟩ := hS.cells
    have A : Aside (gk + q = zs.length ∧ digs (zs.drop p) = (q - p) + digs (zs.drop q) ∧ S4 wr b da zs cap q f ∧ w.grownBy wr (some b)) := ⟨h1, hdg, hS, hG⟩
    have hq : q ≤ zs.length := by omega
    clear hdg hG h1
    by_cases hp : q < zs.length
    · obtain ⟨z, g, hz0, hz1, E, rfl, hg, hcp⟩ := hS.byte hp
      have hp' : (q : Int) < (zs.length : Int) := by omega
      clear hS
      by_cases hz : 48 ≤ z
      · by_cases hz2 : z ≤ 57
        · go_wp2
          go_quiet (fail)
          go_wp2
          obtain ⟨h1, hdg, hS, hG⟩ := A.out
          have hi : isD z = true := by rw [isD_iff]; omega
          go_roundg (zs.length - (q + 1))
          case measure => omega
          case rel =>
            refine ⟨q + 1, by omega, by omega, ?_, ?_, ?_⟩
            · rw [hdg, E.out, digs, if_pos hi]; omega
            · simpa using (hS.drewN nq).setAt (q := q + 1) (by omega)
            · exact grown_trans (grown_drewN hG _) (grown_set _ _ _ _)
        · have hd2 : decide (z ≤ 57) = false := by simpa using hz2
          go_wp2
          go_quiet (fail)
          go_wp2
          go_ret
          obtain ⟨h1, hdg, hS, hG⟩ := A.out
          have hi : isD z = false := by rw [isD_false]; omega
          have e : digs (zs.drop q) = 0 := by rw [E.out, digs, hi]; rfl
          rw [hdg, e]
          refine ⟨ret_int (by omega), ?_, grown_drewN hG _⟩
          rw [show p + (q - p + 0) = q by omega]; exact hS.drewN _
      · have hd2 : decide (48 ≤ z) = false := by simpa using hz
        go_wp2
        go_quiet (fail)
        go_wp2
        go_ret
        obtain ⟨h1, hdg, hS, hG⟩ := A.out
        have hi : isD z = false := by rw [isD_false]; omega
        have e : digs (zs.drop q) = 0 := by rw [E.out, digs, hi]; rfl
        rw [hdg, e]
        refine ⟨ret_int (by omega), ?_, grown_drewN hG _⟩
        rw [show p + (q - p + 0) = q by omega]; exact hS.drewN _
    · have hd' : decide ((q : Int) < (zs.length : Int)) = false := by simpa using hp
      clear hS
      go_wp2
      go_quiet (fail)
      go_wp2
      go_ret
      obtain ⟨h1, hdg, hS, hG⟩ := A.out
      have e : digs (zs.drop q) = 0 := by rw [drop_ge hp]; rfl
      rw [hdg, e]
      refine ⟨ret_int (by omega), ?_, grown_drewN hG _⟩
      rw [show p + (q - p + 0) = q by omega]; exact hS.drewN _
end Go.Proofs.Qxb6600361a
