import Derived.Test.Qxb6600361aWkL
import Derived.StillTailTactics
namespace Go.Proofs.Qxb6600361a
open Go.RowKit

/-- memberName(i) at p answered (v, r), stands at q, and its failed mark is f' (it was f) -/
def Mem (zs : List Int) (da : Option Addr) (cap p : Nat) (i : Int) (f : Bool) (v : Value) (r : Bool) (q : Nat) (f' : Bool) : Prop :=
  (v = .slice none 0 0 ∧ r = false ∧ mem zs p i = (0, 0, q, 0) ∧ f' = f) ∨
  (∃ g ns ne, da = some ⟨g, 0, none⟩ ∧ v = .slice (some ⟨g, ns, none⟩) (ne - ns) (cap - ns) ∧ r = true ∧ mem zs p i = (ns, ne, q, 1) ∧ f' = f ∧ ns < ne ∧ ne ≤ zs.length) ∨
  (v = .slice none 0 0 ∧ r = false ∧ mem zs p i = (0, 0, 0, 2) ∧ f' = true)

theorem Tak.yes {zs : List Int} {c : Int} {p q : Nat} {r : Bool} (h : Tak zs c p r q) (hr : r = true) : hd c (zs.drop (p + spaces (zs.drop p))) = true ∧ q = p + spaces (zs.drop p) + 1 := by
  subst hr; exact Acc.yes h
theorem Tak.no {zs : List Int} {c : Int} {p q : Nat} {r : Bool} (h : Tak zs c p r q) (hr : r = false) : hd c (zs.drop (p + spaces (zs.drop p))) = false ∧ q = p + spaces (zs.drop p) := by
  subst hr; exact Acc.no h
theorem spaces_at (zs : List Int) (p : Nat) : spaces (zs.drop (p + spaces (zs.drop p))) = 0 := by
  have := spaces_drop (zs.drop p); rwa [List.drop_drop] at this

theorem mem_close {zs : List Int} {p q : Nat} {r : Bool} (i : Int) (h : Tak zs 125 p r q) (hr : r = true) : mem zs p i = (0, 0, q, 0) := by
  obtain ⟨h1, rfl⟩ := h.yes hr
  unfold mem; rw [if_pos h1]
theorem mem_nocomma {zs : List Int} {p q q2 : Nat} {r r2 : Bool} {i : Int} (hi : 0 < i) (h : Tak zs 125 p r q) (hr : r = false) (k : Tak zs 44 q r2 q2) (hr2 : r2 = false) : mem zs p i = (0, 0, 0, 2) := by
  obtain ⟨h1, rfl⟩ := h.no hr
  obtain ⟨h2, _⟩ := k.no hr2
  rw [spaces_at, Nat.add_zero] at h2
  unfold mem; rw [h1, h2]; simp [hi]
theorem mem_go1 {zs : List Int} {p q q2 s : Nat} {r r2 : Bool} {i : Int} (hi : 0 < i) (h : Tak zs 125 p r q) (hr : r = false) (k : Tak zs 44 q r2 q2) (hr2 : r2 = true) (hs : s = q2 + spaces (zs.drop q2)) : mem zs p i = mem2 zs s := by
  obtain ⟨h1, rfl⟩ := h.no hr
  obtain ⟨h2, e⟩ := k.yes hr2
  rw [spaces_at, Nat.add_zero] at h2 e
  subst e hs
  unfold mem; rw [h1, h2]; simp [hi]
theorem mem_go0 {zs : List Int} {p q s : Nat} {r : Bool} {i : Int} (hi : ¬ 0 < i) (h : Tak zs 125 p r q) (hr : r = false) (hs : s = q + spaces (zs.drop q)) : mem zs p i = mem2 zs s := by
  obtain ⟨h1, rfl⟩ := h.no hr
  rw [spaces_at, Nat.add_zero] at hs
  subst hs
  unfold mem; rw [h1]; simp [hi]
theorem mem2_no {zs : List Int} {s : Nat} (h : hd 34 (zs.drop s) = false) : mem2 zs s = (0, 0, 0, 2) := by unfold mem2; rw [h]; rfl
theorem mem2_bad {zs : List Int} {s q : Nat} {r : Bool} (h : hd 34 (zs.drop s) = true) (k : StrE zs s r q) (hr : r = false) : mem2 zs s = (0, 0, 0, 2) := by
  unfold mem2; rw [h, k.2 hr]; rfl
theorem mem2_nocolon {zs : List Int} {s q q2 : Nat} {r r2 : Bool} (h : hd 34 (zs.drop s) = true) (k : StrE zs s r q) (hr : r = true) (t : Tak zs 58 q r2 q2) (hr2 : r2 = false) : mem2 zs s = (0, 0, 0, 2) := by
  obtain ⟨n, h1, rfl⟩ := k.1 hr
  obtain ⟨h2, _⟩ := t.no hr2
  unfold mem2; rw [h, h1]; simp [h2]
theorem mem2_ok {zs : List Int} {s q q2 : Nat} {r r2 : Bool} (h : hd 34 (zs.drop s) = true) (k : StrE zs s r q) (hr : r = true) (t : Tak zs 58 q r2 q2) (hr2 : r2 = true) : mem2 zs s = (s, q, q2, 1) := by
  obtain ⟨n, h1, rfl⟩ := k.1 hr
  obtain ⟨h2, rfl⟩ := t.yes hr2
  unfold mem2; rw [h, h1]; simp [h2]

theorem skipSpace_x {w0 w : World} {b : Nat} {da : Option Addr} {zs : List Int} {cap p : Nat} {f : Bool} (h : T4 w0 w b da zs cap p f) :
    Calls Try.prog 43 #[.pointer (some ⟨b, 0, none⟩)] w fun e w' => ∃ s, e = .returned (.tuple #[]) ∧ Hid (s = p + spaces (zs.drop p)) ∧ T4 w0 w' b da zs cap s f :=
  (skipSpace_t h).mono fun _ _ ⟨he, hT⟩ => ⟨_, he, rfl, hT⟩

set_option maxRecDepth 20000 in
set_option maxHeartbeats 4000000 in
theorem memberName_t {w0 w : World} {b : Nat} {da : Option Addr} {zs : List Int} {cap p : Nat} {f : Bool} (h : T4 w0 w b da zs cap p f) (i : Int) :
    Calls Try.prog 34 #[.pointer (some ⟨b, 0, none⟩), .int .i64 i] w fun e w' => ∃ v r q f', e = .returned (.tuple #[v, .bool r]) ∧ Hid (Mem zs da cap p i f v r q f') ∧ T4 w0 w' b da zs cap q f' := by
  have hlen := h.st.len
  have hcap := h.st.cap
  unfold maxLen at hcap
  by_cases hi : 0 < i
  · go_enter Try.func34, Try.ntmps34
    go_wp2_with (first
      | (go_at_call 41; refine (takes_t (by assumption) _).mono ?_; rintro e w' ⟨r, q, rfl, hA, hT⟩)
      | (go_at_call 42; refine (fail_t (by assumption)).mono ?_; rintro e w' ⟨rfl, hT⟩))
    · go_ret2
      exact ⟨_, _, _, f, rfl, .inl ⟨rfl, rfl, mem_close i hA.out (by assumption), rfl⟩, hT⟩
    · go_ret2
      exact ⟨_, _, _, true, rfl, .inr (.inr ⟨rfl, rfl, mem_nocomma hi (Hid.out (by assumption)) (by assumption) (Hid.out (by assumption : Hid (Tak zs 44 _ _ _))) (bF (by assumption)), rfl⟩), by assumption⟩
    · refine (skipSpace_x hT).mono ?_
      rintro e w1 ⟨s, rfl, hs, hT1⟩
      have M : Hid (mem zs p i = mem2 zs s) := mem_go1 hi (Hid.out (by assumption)) (by assumption) (Hid.out (by assumption : Hid (Tak zs 44 _ _ _))) (bT (by assumption)) hs.out
      clear hT hA hs h
      obtain ⟨c0, c1, c3, f1, f3⟩ := hT1.st.cells
      have hpos := hT1.st.pos
      by_cases hlt : s < zs.length
      · obtain ⟨z, g, hz0, hz1, E, rfl, hg, hcp⟩ := hT1.st.byte hlt
        have d0 : ((s : Int) == (zs.length : Int)) = false := by simp; omega
        have hlt' : (s : Int) < (zs.length : Int) := by omega
        by_cases hz : z = 34
        · subst hz
          have Q : Hid (hd 34 (zs.drop s) = true) := (by rw [E.out]; rfl : hd 34 (zs.drop s) = true)
          have H : Hid (T4 w0 w1 b (some ⟨g, 0, none⟩) zs cap s f) := hT1
          clear hT1
          go_wp2_with fail
          go_still_tail 24, (by kernel_rfl)
          go_wp2_with (go_at_call 44; refine (skipString_t (H.out.drewN 1) hlt).mono ?_; rintro e w2 ⟨r, q, rfl, hSt, hT2⟩; obtain ⟨c0', c1', c3', f1', f3'⟩ := hT2.st.cells; have hp' := hT2.st.pos)
          · refine (fail_t hT2).mono ?_
            rintro e3 w3 ⟨rfl, hT3⟩
            go_wp2
            go_ret2
            exact ⟨_, _, _, true, rfl, .inr (.inr ⟨rfl, rfl, by rw [M.out, mem2_bad Q.out hSt.out (bF (by assumption))], rfl⟩), hT3⟩
          · have hr : r = true := bT (by assumption)
            obtain ⟨hsq, hsq'⟩ : s < q ∧ q ≤ zs.length := by
              obtain ⟨k, _, hq⟩ := hSt.out.1 hr
              omega
            have hq1 : (s : Int) ≤ (q : Int) := by omega
            have hq2 : (q : Int) ≤ (cap : Int) := by omega
            have hq3 : ¬ cap = s := by omega
            have HR : Hid (r = true) := hr
            have H2 : Hid (T4 w0 w2 b (some ⟨g, 0, none⟩) zs cap q f) := hT2
            clear hr hT2
            go_quiet (fail)
            go_wp2_with (first
              | (go_at_call 41; refine (takes_t (H2.out.drewN _) _).mono ?_; rintro e w3 ⟨r3, q3, rfl, hA3, hT3⟩)
              | (go_at_call 42; refine (fail_t hT3).mono ?_; rintro e w4 ⟨rfl, hT4⟩))
            · go_ret2
              exact ⟨_, _, _, true, rfl, .inr (.inr ⟨rfl, rfl, by rw [M.out, mem2_nocolon Q.out hSt.out HR.out hA3.out (bF (by assumption))], rfl⟩), hT4⟩
            · go_ret2
              exact ⟨_, _, _, f, rfl, .inr (.inl ⟨g, s, q, rfl, rfl, rfl, by rw [M.out, mem2_ok Q.out hSt.out HR.out hA3.out (bT (by assumption))], rfl, hsq, hsq'⟩), hT3⟩
        · have Q : Hid (hd 34 (zs.drop s) = false) := (by rw [E.out]; simpa [hd] using hz : hd 34 (zs.drop s) = false)
          have e1 : (z == 34) = false := by simpa using hz
          have e2 : (z != 34) = true := by simpa using hz
          have H : Hid (T4 w0 w1 b (some ⟨g, 0, none⟩) zs cap s f) := hT1
          clear hT1
          go_wp2_with fail
          go_quiet (fail)
          go_wp2_with (go_at_call 42; refine (fail_t (H.out.drewN _)).mono ?_; rintro e w' ⟨rfl, hT⟩)
          go_ret2
          exact ⟨_, _, _, true, rfl, .inr (.inr ⟨rfl, rfl, by rw [M.out, mem2_no Q.out], rfl⟩), hT⟩
      · have d0 : ((s : Int) == (zs.length : Int)) = true := by simp; omega
        have Q : Hid (hd 34 (zs.drop s) = false) := (by rw [drop_ge hlt]; rfl : hd 34 (zs.drop s) = false)
        have H : Hid (T4 w0 w1 b da zs cap s f) := hT1
        clear hT1
        go_wp2_with fail
        go_quiet (fail)
        go_wp2_with (go_at_call 42; refine (fail_t (H.out.drewN _)).mono ?_; rintro e w' ⟨rfl, hT⟩)
        go_ret2
        exact ⟨_, _, _, true, rfl, .inr (.inr ⟨rfl, rfl, by rw [M.out, mem2_no Q.out], rfl⟩), hT⟩
  · go_enter Try.func34, Try.ntmps34
    go_wp2_with (first
      | (go_at_call 41; refine (takes_t (by assumption) _).mono ?_; rintro e w' ⟨r, q, rfl, hA, hT⟩)
      | (go_at_call 42; refine (fail_t (by assumption)).mono ?_; rintro e w' ⟨rfl, hT⟩))
    · go_ret2
      exact ⟨_, _, _, f, rfl, .inl ⟨rfl, rfl, mem_close i hA.out (by assumption), rfl⟩, hT⟩
    · refine (skipSpace_x hT).mono ?_
      rintro e w1 ⟨s, rfl, hs, hT1⟩
      have M : Hid (mem zs p i = mem2 zs s) := mem_go0 (by omega) hA.out (by assumption) hs.out
      clear hT hA hs h
      obtain ⟨c0, c1, c3, f1, f3⟩ := hT1.st.cells
      have hpos := hT1.st.pos
      by_cases hlt : s < zs.length
      · obtain ⟨z, g, hz0, hz1, E, rfl, hg, hcp⟩ := hT1.st.byte hlt
        have d0 : ((s : Int) == (zs.length : Int)) = false := by simp; omega
        have hlt' : (s : Int) < (zs.length : Int) := by omega
        by_cases hz : z = 34
        · subst hz
          have Q : Hid (hd 34 (zs.drop s) = true) := (by rw [E.out]; rfl : hd 34 (zs.drop s) = true)
          have H : Hid (T4 w0 w1 b (some ⟨g, 0, none⟩) zs cap s f) := hT1
          clear hT1
          go_wp2_with fail
          go_still_tail 24, (by kernel_rfl)
          go_wp2_with (go_at_call 44; refine (skipString_t (H.out.drewN 1) hlt).mono ?_; rintro e w2 ⟨r, q, rfl, hSt, hT2⟩; obtain ⟨c0', c1', c3', f1', f3'⟩ := hT2.st.cells; have hp' := hT2.st.pos)
          · refine (fail_t hT2).mono ?_
            rintro e3 w3 ⟨rfl, hT3⟩
            go_wp2
            go_ret2
            exact ⟨_, _, _, true, rfl, .inr (.inr ⟨rfl, rfl, by rw [M.out, mem2_bad Q.out hSt.out (bF (by assumption))], rfl⟩), hT3⟩
          · have hr : r = true := bT (by assumption)
            obtain ⟨hsq, hsq'⟩ : s < q ∧ q ≤ zs.length := by
              obtain ⟨k, _, hq⟩ := hSt.out.1 hr
              omega
            have hq1 : (s : Int) ≤ (q : Int) := by omega
            have hq2 : (q : Int) ≤ (cap : Int) := by omega
            have hq3 : ¬ cap = s := by omega
            have HR : Hid (r = true) := hr
            have H2 : Hid (T4 w0 w2 b (some ⟨g, 0, none⟩) zs cap q f) := hT2
            clear hr hT2
            go_quiet (fail)
            go_wp2_with (first
              | (go_at_call 41; refine (takes_t (H2.out.drewN _) _).mono ?_; rintro e w3 ⟨r3, q3, rfl, hA3, hT3⟩)
              | (go_at_call 42; refine (fail_t hT3).mono ?_; rintro e w4 ⟨rfl, hT4⟩))
            · go_ret2
              exact ⟨_, _, _, true, rfl, .inr (.inr ⟨rfl, rfl, by rw [M.out, mem2_nocolon Q.out hSt.out HR.out hA3.out (bF (by assumption))], rfl⟩), hT4⟩
            · go_ret2
              exact ⟨_, _, _, f, rfl, .inr (.inl ⟨g, s, q, rfl, rfl, rfl, by rw [M.out, mem2_ok Q.out hSt.out HR.out hA3.out (bT (by assumption))], rfl, hsq, hsq'⟩), hT3⟩
        · have Q : Hid (hd 34 (zs.drop s) = false) := (by rw [E.out]; simpa [hd] using hz : hd 34 (zs.drop s) = false)
          have e1 : (z == 34) = false := by simpa using hz
          have e2 : (z != 34) = true := by simpa using hz
          have H : Hid (T4 w0 w1 b (some ⟨g, 0, none⟩) zs cap s f) := hT1
          clear hT1
          go_wp2_with fail
          go_quiet (fail)
          go_wp2_with (go_at_call 42; refine (fail_t (H.out.drewN _)).mono ?_; rintro e w' ⟨rfl, hT⟩)
          go_ret2
          exact ⟨_, _, _, true, rfl, .inr (.inr ⟨rfl, rfl, by rw [M.out, mem2_no Q.out], rfl⟩), hT⟩
      · have d0 : ((s : Int) == (zs.length : Int)) = true := by simp; omega
        have Q : Hid (hd 34 (zs.drop s) = false) := (by rw [drop_ge hlt]; rfl : hd 34 (zs.drop s) = false)
        have H : Hid (T4 w0 w1 b da zs cap s f) := hT1
        clear hT1
        go_wp2_with fail
        go_quiet (fail)
        go_wp2_with (go_at_call 42; refine (fail_t (H.out.drewN _)).mono ?_; rintro e w' ⟨rfl, hT⟩)
        go_ret2
        exact ⟨_, _, _, true, rfl, .inr (.inr ⟨rfl, rfl, by rw [M.out, mem2_no Q.out], rfl⟩), hT⟩
end Go.Proofs.Qxb6600361a
