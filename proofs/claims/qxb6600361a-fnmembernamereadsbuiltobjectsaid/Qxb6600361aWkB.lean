import Derived.Test.Qxb6600361aWkA
import Derived.Test.Qxb6600361aStages
namespace Go.Proofs.Qxb6600361a
open Go.RowKit

/-- the splitter now, and that nothing but it has turned since w0 -/
structure T4 (w0 w : World) (b : Nat) (da : Option Addr) (zs : List Int) (cap p : Nat) (f : Bool) : Prop where
  st : S4 w b da zs cap p f
  gr : w0.grownBy w (some b)

theorem accepts_t {w0 w : World} {b : Nat} {da : Option Addr} {zs : List Int} {cap p : Nat} {f : Bool} (h : T4 w0 w b da zs cap p f) (c : Int) :
    Calls Try.prog 45 #[.pointer (some ⟨b, 0, none⟩), .int .u8 c] w fun e w' => ∃ r q, e = .returned (.bool r) ∧ Hid (Acc zs c p r q) ∧ T4 w0 w' b da zs cap q f :=
  (accepts_any b da zs cap p f c w h.st).mono fun _ _ ⟨he, hs, hg⟩ => ⟨_, _, he, ⟨rfl, rfl⟩, hs, grown_trans h.gr hg⟩

theorem skipDigits_t {w0 w : World} {b : Nat} {da : Option Addr} {zs : List Int} {cap p : Nat} {f : Bool} (h : T4 w0 w b da zs cap p f) :
    Calls Try.prog 46 #[.pointer (some ⟨b, 0, none⟩)] w fun e w' => ∃ n q : Nat, e = .returned (.int .i64 n) ∧ Hid (Dig zs p n q) ∧ T4 w0 w' b da zs cap q f :=
  (skipDigits_any b da zs cap p f w h.st).mono fun _ _ ⟨he, hs, hg⟩ => ⟨_, _, he, ⟨rfl, rfl⟩, hs, grown_trans h.gr hg⟩

theorem fin_close {w w' : World} {b : Nat} {da : Option Addr} {zs : List Int} {cap p q : Nat} {f r : Bool} (h : Fin zs p r q) (t : T4 w w' b da zs cap q f) :
    Ending.returned (.bool r) = .returned (.bool (num (zs.drop p)).1) ∧ S4 w' b da zs cap (p + (num (zs.drop p)).2) f ∧ w.grownBy w' (some b) := by
  obtain ⟨h1, h2⟩ := h
  rw [h1, h2]; exact ⟨rfl, t.st, t.gr⟩

set_option maxHeartbeats 2000000 in
theorem skipNumber_any (b : Nat) (da : Option Addr) (zs : List Int) (cap p : Nat) (f : Bool) (w : World) (h : S4 w b da zs cap p f) :
    Calls Try.prog 36 #[.pointer (some ⟨b, 0, none⟩)] w fun e w' => e = .returned (.bool (num (zs.drop p)).1) ∧ S4 w' b da zs cap (p + (num (zs.drop p)).2) f ∧ w.grownBy w' (some b) := by
  have t0 : T4 w w b da zs cap p f := ⟨h, World.grownBy.refl _ _⟩
  clear h
  go_enter Try.func36, Try.ntmps36
  go_wp2_with (first
    | (go_at_call 45; refine (accepts_t (by assumption) _).mono ?_; rintro e w' ⟨r, q, rfl, hA, hT⟩)
    | (go_at_call 46; refine (skipDigits_t (by assumption)).mono ?_; rintro e w' ⟨n, q, rfl, hD, hT⟩))
  all_goals
    go_ret
    have s1 := stage_int (Hid.out (by assumption : Hid (Acc zs 45 p _ _)))
    first
      | exact fin_close (f_digs s1 (Hid.out (by assumption)) (by first | assumption | exact bF (by assumption) | exact bN (by assumption)) (Hid.out (by assumption)) (by assumption)) (by assumption)
      | ((first
            | have s2 := w_zero s1 (Hid.out (by assumption)) (by first | assumption | exact bT (by assumption))
            | have s2 := w_digs s1 (Hid.out (by assumption)) (by first | assumption | exact bF (by assumption) | exact bN (by assumption)) (Hid.out (by assumption)) (by assumption))
         first
            | exact fin_close (f_frac s2 (Hid.out (by assumption)) (by first | assumption | exact bT (by assumption)) (Hid.out (by assumption)) (by assumption)) (by assumption)
            | ((first
                | have s3 := w_nofrac s2 (Hid.out (by assumption)) (by first | assumption | exact bF (by assumption) | exact bN (by assumption))
                | have s3 := w_frac s2 (Hid.out (by assumption)) (by first | assumption | exact bT (by assumption)) (Hid.out (by assumption)) (by assumption))
               first
                | exact fin_close (f_none s3 (Hid.out (by assumption)) (by first | assumption | exact bF (by assumption) | exact bN (by assumption)) (Hid.out (by assumption)) (by first | assumption | exact bF (by assumption) | exact bN (by assumption))) (by assumption)
                | ((first
                    | have s4 := w_low (Hid.out (by assumption : Hid (Acc zs 101 _ _ _))) (by first | assumption | exact bT (by assumption))
                    | have s4 := w_up (Hid.out (by assumption : Hid (Acc zs 101 _ _ _))) (by first | assumption | exact bF (by assumption) | exact bN (by assumption)) (Hid.out (by assumption)) (by first | assumption | exact bT (by assumption)))
                   (first
                    | have s5 := w_plus (Hid.out (by assumption : Hid (Acc zs 43 _ _ _))) (by first | assumption | exact bT (by assumption))
                    | have s5 := w_else (Hid.out (by assumption : Hid (Acc zs 43 _ _ _))) (by first | assumption | exact bF (by assumption) | exact bN (by assumption)) (Hid.out (by assumption)))
                   first
                    | exact fin_close (f_expo0 s3 s4 s5 (Hid.out (by assumption)) (by assumption)) (by assumption)
                    | exact fin_close (f_expo1 s3 s4 s5 (Hid.out (by assumption)) (by assumption)) (by assumption))))
end Go.Proofs.Qxb6600361a
