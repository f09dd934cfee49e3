import Derived.Test.Qxb6600361aWkB
import Derived.Test.Qxb6600361aStr
namespace Go.Proofs.Qxb6600361a
open Go.RowKit

theorem T4.drewN {w0 w : World} {b : Nat} {da : Option Addr} {zs : List Int} {cap p : Nat} {f : Bool} (h : T4 w0 w b da zs cap p f) (n : Nat) : T4 w0 (w.drewN n) b da zs cap p f := ⟨h.st.drewN n, grown_drewN h.gr n⟩
theorem T4.setAt {w0 w : World} {b : Nat} {da : Option Addr} {zs : List Int} {cap p q : Nat} {f : Bool} (h : T4 w0 w b da zs cap p f) (hq : q ≤ zs.length) : T4 w0 (w.setCell ⟨b, 1, none⟩ (.int .i64 q)) b da zs cap q f := ⟨h.st.setAt hq, grown_trans h.gr (grown_set _ _ _ _)⟩
theorem T4.setFailed {w0 w : World} {b : Nat} {da : Option Addr} {zs : List Int} {cap p : Nat} {f : Bool} (h : T4 w0 w b da zs cap p f) (f' : Bool) : T4 w0 (w.setCell ⟨b, 3, none⟩ (.bool f')) b da zs cap p f' := ⟨h.st.setFailed f', grown_trans h.gr (grown_set _ _ _ _)⟩

set_option maxHeartbeats 1000000 in
theorem skipSpace_t {w0 w : World} {b : Nat} {da : Option Addr} {zs : List Int} {cap p : Nat} {f : Bool} (h : T4 w0 w b da zs cap p f) :
    Calls Try.prog 43 #[.pointer (some ⟨b, 0, none⟩)] w fun e w' => e = .returned (.tuple #[]) ∧ T4 w0 w' b da zs cap (p + spaces (zs.drop p)) f := by
  have hlen := h.st.len
  have hcap := h.st.cap
  unfold maxLen at hcap
  have hpos := h.st.pos
  go_enter Try.func43, Try.ntmps43
  go_wp2
  go_loopg [] (zs.length - p) (fun k wr => ∃ q : Nat, k + q = zs.length ∧ p ≤ q ∧ p + spaces (zs.drop p) = q + spaces (zs.drop q) ∧ T4 w0 wr b da zs cap q f)
  case atStart => exact ⟨p, by omega, by omega, rfl, h⟩
  case round =>
    clear h
    obtain ⟨q, h1, h2, hsp, hT⟩ := hrel
    obtain ⟨c0, c1, c3, f1, f3⟩ := hT.st.cells
    have A : Aside (gk + q = zs.length ∧ p + spaces (zs.drop p) = q + spaces (zs.drop q) ∧ T4 w0 wr b da zs cap q f) := ⟨h1, hsp, hT⟩
    have hq : q ≤ zs.length := by omega
    clear hsp h1
    by_cases hlt : q < zs.length
    · obtain ⟨z, g, hz0, hz1, E, rfl, hg, hcp⟩ := hT.st.byte hlt
      have hlt' : (q : Int) < (zs.length : Int) := by omega
      clear hT
      by_cases hs : isS z = true
      · have hs' := (isS_iff z).1 hs
        have S : Hid (isS z = true) := hs
        clear hs
        rcases hs' with rfl | rfl | rfl | rfl
        all_goals
          go_wp2
          go_quiet (fail)
          go_wp2
          go_quiet (fail)
          go_wp2
          obtain ⟨h1, hsp, hT⟩ := A.out
          go_roundg (zs.length - (q + 1))
          case measure => omega
          case rel =>
            refine ⟨q + 1, by omega, by omega, ?_, ?_⟩
            · rw [hsp, E.out, spaces, if_pos S.out]; omega
            · simpa using (hT.drewN _).setAt (q := q + 1) (by omega)
      · obtain ⟨n1, n2, n3, n4⟩ := (isS_false z).1 (by simpa using hs)
        have S : Hid (isS z = false) := (by simpa using hs : isS z = false)
        have e1 : (z == 32) = false := by simpa using n1
        have e2 : (z == 9) = false := by simpa using n2
        have e3 : (z == 10) = false := by simpa using n3
        have e4 : (z == 13) = false := by simpa using n4
        clear hs n1 n2 n3 n4
        go_wp2
        go_quiet (fail)
        go_wp2
        go_quiet (fail)
        go_wp2
        refine bodyPost_ret (results_none rfl _ _ _) rfl ?_
        obtain ⟨h1, hsp, hT⟩ := A.out
        refine ⟨rfl, ?_⟩
        rw [hsp, E.out, spaces, S.out]
        exact hT.drewN _
    · have hd' : decide ((q : Int) < (zs.length : Int)) = false := by simpa using hlt
      clear hT
      go_wp2
      go_quiet (fail)
      go_wp2
      go_end0
      obtain ⟨h1, hsp, hT⟩ := A.out
      refine ⟨rfl, ?_⟩
      rw [hsp, drop_ge hlt]
      exact hT.drewN _
end Go.Proofs.Qxb6600361a
