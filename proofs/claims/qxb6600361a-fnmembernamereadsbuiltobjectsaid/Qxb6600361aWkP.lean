import Derived.Test.Qxb6600361aWkO
namespace Go.Proofs.Qxb6600361a
open Go.RowKit

theorem results_tmp4 {fn : Func} {t u v x : Tmp} (h : fn.results = #[.tmp t, .tmp u, .tmp v, .tmp x]) (tmps : Array Value) (P : Program) (w : World) :
    (results fn tmps).run P w = .ok (.tuple #[tmps.getD t undef, tmps.getD u undef, tmps.getD v undef, tmps.getD x undef]) w := by
  simp [results, h]

/-- the answer's four numbers -/
def four (r : Nat × Nat × Nat × Nat) : Value := .tuple #[.int .i64 (r.1 : Int), .int .i64 (r.2.1 : Int), .int .i64 (r.2.2.1 : Int), .int .i64 (r.2.2.2 : Int)]

theorem ret_four {a b c d : Int} {r : Nat × Nat × Nat × Nat} (h1 : a = r.1) (h2 : b = r.2.1) (h3 : c = r.2.2.1) (h4 : d = r.2.2.2) : Ending.returned (.tuple #[.int .i64 a, .int .i64 b, .int .i64 c, .int .i64 d]) = .returned (four r) := by
  rw [h1, h2, h3, h4]; rfl

theorem hd_at {ys : List Int} {p : Nat} {z c : Int} (E : ys.drop p = z :: ys.drop (p + 1)) : hd c (ys.drop p) = (z == c) := by rw [E]; rfl
theorem hd_end {ys : List Int} {p : Nat} {c : Int} (h : ¬ p < ys.length) : hd c (ys.drop p) = false := by rw [drop_ge h]; rfl

theorem mm_close {ys : List Int} {a P : Nat} (i : Int) (hP : P = a + spaces (ys.drop a)) (h : hd 125 (ys.drop P) = true) : mem ys a i = (0, 0, P + 1, 0) := by
  subst hP; unfold mem; rw [if_pos h]
theorem mm_zero {ys : List Int} {a P : Nat} {i : Int} (hP : P = a + spaces (ys.drop a)) (h : hd 125 (ys.drop P) = false) (hi : ¬ 0 < i) : mem ys a i = mem2 ys P := by
  subst hP; unfold mem; rw [h]; simp [hi]
theorem mm_comma {ys : List Int} {a P Q : Nat} {i : Int} (hP : P = a + spaces (ys.drop a)) (h : hd 125 (ys.drop P) = false) (hi : 0 < i) (hc : hd 44 (ys.drop P) = true) (hQ : Q = P + 1 + spaces (ys.drop (P + 1))) : mem ys a i = mem2 ys Q := by
  subst hP hQ; unfold mem; rw [h, hc]; simp [hi]
theorem mm_nocomma {ys : List Int} {a P : Nat} {i : Int} (hP : P = a + spaces (ys.drop a)) (h : hd 125 (ys.drop P) = false) (hi : 0 < i) (hc : hd 44 (ys.drop P) = false) : mem ys a i = (0, 0, 0, 2) := by
  subst hP; unfold mem; rw [h, hc]; simp [hi]
theorem mm2_no {ys : List Int} {p : Nat} (h : hd 34 (ys.drop p) = false) : mem2 ys p = (0, 0, 0, 2) := by unfold mem2; rw [h]; rfl
theorem mm2_none {ys : List Int} {p : Nat} (h : hd 34 (ys.drop p) = true) (hs : sm false 0 (ys.drop (p + 1)) = none) : mem2 ys p = (0, 0, 0, 2) := by unfold mem2; rw [h, hs]; rfl
theorem mm2_nocolon {ys : List Int} {p k F C : Nat} (h : hd 34 (ys.drop p) = true) (hs : sm false 0 (ys.drop (p + 1)) = some k) (hF : F = p + 1 + k) (hC : C = F + spaces (ys.drop F)) (hc : hd 58 (ys.drop C) = false) : mem2 ys p = (0, 0, 0, 2) := by
  subst hC hF; unfold mem2; rw [h, hs]; simp [hc]
theorem mm2_ok {ys : List Int} {p k F C : Nat} (h : hd 34 (ys.drop p) = true) (hs : sm false 0 (ys.drop (p + 1)) = some k) (hF : F = p + 1 + k) (hC : C = F + spaces (ys.drop F)) (hc : hd 58 (ys.drop C) = true) : mem2 ys p = (p, F, C + 1, 1) := by
  subst hC hF; unfold mem2; rw [h, hs]; simp [hc]

set_option maxRecDepth 20000 in
set_option maxHeartbeats 8000000 in
theorem memberModel_any {w : World} {da : Option Addr} {ys : List Int} {cp : Nat} (h : D4 w da ys cp) (a : Nat) (ha : a ≤ ys.length) (i : Int) :
    Calls Try.prog 15 #[.slice da ys.length cp, .int .i64 a, .int .i64 i] w fun e w' => e = .returned (four (mem ys a i)) ∧ w' = w := by
  have hlen := h.len
  have hcap := h.cap
  unfold maxLen at hcap
  have HD : Hid (D4 w da ys cp) := h
  obtain ⟨P, hP⟩ : ∃ P, P = a + spaces (ys.drop a) := ⟨_, rfl⟩
  have hPl : P ≤ ys.length := by have := spaces_le (ys.drop a); simp at this; omega
  have HP : Hid (P = a + spaces (ys.drop a)) := hP
  clear hP
  by_cases hlt : P < ys.length
  · obtain ⟨z, g, hz0, hz1, E, rfl, hc⟩ := h.at hlt
    have hlt' : (P : Int) < (ys.length : Int) := by omega
    have d0 : ((P : Int) == (ys.length : Int)) = false := by simp; omega
    clear h
    by_cases hz : z = 125
    · subst hz
      have M : Hid (mem ys a i = (0, 0, P + 1, 0)) := (mm_close i HP.out (hd_at E.out) : mem ys a i = (0, 0, P + 1, 0))
      go_enter Try.func15, Try.ntmps15
      go_wp2_with fail
      refine (spaceEnd_any HD.out a P a rfl HP.out ha).mono ?_
      rintro e1 w1 ⟨rfl, rfl⟩
      go_wp2
      refine bodyPost_ret (results_tmp4 rfl _ _ _) rfl ⟨?_, rfl⟩
      rw [M.out]
      exact ret_four (by rfl) (by rfl) (by simp) (by rfl)
    · have z1 : (z == 125) = false := by simpa using hz
      have H1 : Hid (hd 125 (ys.drop P) = false) := ((hd_at E.out).trans z1 : hd 125 (ys.drop P) = false)
      clear hz
      by_cases hi : 0 < i
      · by_cases hk : z = 44
        · subst hk
          obtain ⟨Q, hQ⟩ : ∃ Q, Q = P + 1 + spaces (ys.drop (P + 1)) := ⟨_, rfl⟩
          have hQl : Q ≤ ys.length := by have := spaces_le (ys.drop (P + 1)); simp at this; omega
          have HQ : Hid (Q = P + 1 + spaces (ys.drop (P + 1))) := hQ
          clear hQ
          by_cases hqt : Q < ys.length
          · obtain ⟨y, g2, hy0, hy1, E2, eg, hc2⟩ := HD.out.at hqt
            simp only [Option.some.injEq, Addr.mk.injEq, and_true] at eg
            subst eg
            have hqt' : (Q : Int) < (ys.length : Int) := by omega
            have d2 : ((Q : Int) == (ys.length : Int)) = false := by simp; omega
            by_cases hy : y = 34
            · subst hy
              have S34 : Hid (hd 34 (ys.drop Q) = true) := (hd_at E2.out : hd 34 (ys.drop Q) = true)
              have MQ : Hid (mem ys a i = mem2 ys Q) := (mm_comma HP.out H1.out hi (hd_at E.out) HQ.out : mem ys a i = mem2 ys Q)
              cases hsm : sm false 0 (ys.drop (Q + 1)) with
              | none =>
                obtain ⟨v, hv⟩ : ∃ v : Int, v = -1 := ⟨_, rfl⟩
                have HV : Hid (v = smEnd Q (sm false 0 (ys.drop (Q + 1)))) := (by rw [hsm, hv]; rfl : v = smEnd Q (sm false 0 (ys.drop (Q + 1))))
                have M : Hid (mem ys a i = (0, 0, 0, 2)) := (MQ.out.trans (mm2_none S34.out hsm) : mem ys a i = (0, 0, 0, 2))
                have hv' : v < 0 := by omega
                clear hsm hv
                go_enter Try.func15, Try.ntmps15
                go_wp2_with fail
                refine (spaceEnd_any HD.out a P a rfl HP.out ha).mono ?_
                rintro e1 w1 ⟨rfl, rfl⟩
                go_wp2_with fail
                refine (spaceEnd_any HD.out (P + 1) Q _ (by omega) HQ.out (by omega)).mono ?_
                rintro e2 w2 ⟨rfl, rfl⟩
                go_wp2_with fail
                refine (stringEnd_any HD.out Q _ HV.out (by omega)).mono ?_
                rintro e3 w3 ⟨rfl, rfl⟩
                go_wp2
                refine bodyPost_ret (results_tmp4 rfl _ _ _) rfl ⟨?_, rfl⟩
                rw [M.out]
                exact ret_four (by rfl) (by rfl) (by rfl) (by rfl)
              | some k =>
                have hk := sm_le hsm
                obtain ⟨F, hF⟩ : ∃ F, F = Q + 1 + k := ⟨_, rfl⟩
                have hFl : F ≤ ys.length := by simp at hk; omega
                obtain ⟨C, hC⟩ : ∃ C, C = F + spaces (ys.drop F) := ⟨_, rfl⟩
                have hCl : C ≤ ys.length := by have := spaces_le (ys.drop F); simp at this; omega
                have HC : Hid (C = F + spaces (ys.drop F)) := hC
                obtain ⟨v, hv⟩ : ∃ v : Int, v = F := ⟨_, rfl⟩
                have HV : Hid (v = smEnd Q (sm false 0 (ys.drop (Q + 1)))) := (by rw [hsm, hv, hF]; rfl : v = smEnd Q (sm false 0 (ys.drop (Q + 1))))
                by_cases hCt : C < ys.length
                · obtain ⟨x, g3, hx0, hx1, E3, eg3, hc3⟩ := HD.out.at hCt
                  simp only [Option.some.injEq, Addr.mk.injEq, and_true] at eg3
                  subst eg3
                  have hCt' : (C : Int) < (ys.length : Int) := by omega
                  have d3 : ((C : Int) == (ys.length : Int)) = false := by simp; omega
                  by_cases hx : x = 58
                  · subst hx
                    have M : Hid (mem ys a i = (Q, F, C + 1, 1)) := (MQ.out.trans (mm2_ok S34.out hsm hF hC (hd_at E3.out)) : mem ys a i = (Q, F, C + 1, 1))
                    have hv' : ¬ v < 0 := by omega
                    subst hv
                    clear hsm hF hC hk hv'
                    have hF0 : (0 : Int) ≤ (F : Int) := by omega
                    go_enter Try.func15, Try.ntmps15
                    go_wp2_with fail
                    refine (spaceEnd_any HD.out a P a rfl HP.out ha).mono ?_
                    rintro e1 w1 ⟨rfl, rfl⟩
                    go_wp2_with fail
                    refine (spaceEnd_any HD.out (P + 1) Q _ (by omega) HQ.out (by omega)).mono ?_
                    rintro e2 w2 ⟨rfl, rfl⟩
                    go_wp2_with fail
                    refine (stringEnd_any HD.out Q _ HV.out (by omega)).mono ?_
                    rintro e3 w3 ⟨rfl, rfl⟩
                    go_wp2_with fail
                    refine (spaceEnd_any HD.out F C _ rfl HC.out hFl).mono ?_
                    rintro e4 w4 ⟨rfl, rfl⟩
                    go_wp2
                    refine bodyPost_ret (results_tmp4 rfl _ _ _) rfl ⟨?_, rfl⟩
                    rw [M.out]
                    exact ret_four (by simp) (by simp) (by simp) (by rfl)
                  · have x1 : (x == 58) = false := by simpa using hx
                    have x2 : (x != 58) = true := by simpa using hx
                    have M : Hid (mem ys a i = (0, 0, 0, 2)) := (MQ.out.trans (mm2_nocolon S34.out hsm hF hC ((hd_at E3.out).trans x1)) : mem ys a i = (0, 0, 0, 2))
                    subst hv
                    clear hsm hF hC hk hx
                    have hF0 : (0 : Int) ≤ (F : Int) := by omega
                    go_enter Try.func15, Try.ntmps15
                    go_wp2_with fail
                    refine (spaceEnd_any HD.out a P a rfl HP.out ha).mono ?_
                    rintro e1 w1 ⟨rfl, rfl⟩
                    go_wp2_with fail
                    refine (spaceEnd_any HD.out (P + 1) Q _ (by omega) HQ.out (by omega)).mono ?_
                    rintro e2 w2 ⟨rfl, rfl⟩
                    go_wp2_with fail
                    refine (stringEnd_any HD.out Q _ HV.out (by omega)).mono ?_
                    rintro e3 w3 ⟨rfl, rfl⟩
                    go_wp2_with fail
                    refine (spaceEnd_any HD.out F C _ rfl HC.out hFl).mono ?_
                    rintro e4 w4 ⟨rfl, rfl⟩
                    go_wp2
                    refine bodyPost_ret (results_tmp4 rfl _ _ _) rfl ⟨?_, rfl⟩
                    rw [M.out]
                    exact ret_four (by rfl) (by rfl) (by rfl) (by rfl)
                · have d3 : ((C : Int) == (ys.length : Int)) = true := by simp; omega
                  have M : Hid (mem ys a i = (0, 0, 0, 2)) := (MQ.out.trans (mm2_nocolon S34.out hsm hF hC (hd_end hCt)) : mem ys a i = (0, 0, 0, 2))
                  subst hv
                  clear hsm hF hC hk
                  have hF0 : (0 : Int) ≤ (F : Int) := by omega
                  go_enter Try.func15, Try.ntmps15
                  go_wp2_with fail
                  refine (spaceEnd_any HD.out a P a rfl HP.out ha).mono ?_
                  rintro e1 w1 ⟨rfl, rfl⟩
                  go_wp2_with fail
                  refine (spaceEnd_any HD.out (P + 1) Q _ (by omega) HQ.out (by omega)).mono ?_
                  rintro e2 w2 ⟨rfl, rfl⟩
                  go_wp2_with fail
                  refine (stringEnd_any HD.out Q _ HV.out (by omega)).mono ?_
                  rintro e3 w3 ⟨rfl, rfl⟩
                  go_wp2_with fail
                  refine (spaceEnd_any HD.out F C _ rfl HC.out hFl).mono ?_
                  rintro e4 w4 ⟨rfl, rfl⟩
                  go_wp2
                  refine bodyPost_ret (results_tmp4 rfl _ _ _) rfl ⟨?_, rfl⟩
                  rw [M.out]
                  exact ret_four (by rfl) (by rfl) (by rfl) (by rfl)
            · have y1 : (y == 34) = false := by simpa using hy
              have y2 : (y != 34) = true := by simpa using hy
              have M : Hid (mem ys a i = (0, 0, 0, 2)) := ((mm_comma HP.out H1.out hi (hd_at E.out) HQ.out).trans (mm2_no ((hd_at E2.out).trans y1)) : mem ys a i = (0, 0, 0, 2))
              clear hy
              go_enter Try.func15, Try.ntmps15
              go_wp2_with fail
              refine (spaceEnd_any HD.out a P a rfl HP.out ha).mono ?_
              rintro e1 w1 ⟨rfl, rfl⟩
              go_wp2_with fail
              refine (spaceEnd_any HD.out (P + 1) Q _ (by omega) HQ.out (by omega)).mono ?_
              rintro e2 w2 ⟨rfl, rfl⟩
              go_wp2
              refine bodyPost_ret (results_tmp4 rfl _ _ _) rfl ⟨?_, rfl⟩
              rw [M.out]
              exact ret_four (by rfl) (by rfl) (by rfl) (by rfl)
          · have d2 : ((Q : Int) == (ys.length : Int)) = true := by simp; omega
            have M : Hid (mem ys a i = (0, 0, 0, 2)) := ((mm_comma HP.out H1.out hi (hd_at E.out) HQ.out).trans (mm2_no (hd_end hqt)) : mem ys a i = (0, 0, 0, 2))
            go_enter Try.func15, Try.ntmps15
            go_wp2_with fail
            refine (spaceEnd_any HD.out a P a rfl HP.out ha).mono ?_
            rintro e1 w1 ⟨rfl, rfl⟩
            go_wp2_with fail
            refine (spaceEnd_any HD.out (P + 1) Q _ (by omega) HQ.out (by omega)).mono ?_
            rintro e2 w2 ⟨rfl, rfl⟩
            go_wp2
            refine bodyPost_ret (results_tmp4 rfl _ _ _) rfl ⟨?_, rfl⟩
            rw [M.out]
            exact ret_four (by rfl) (by rfl) (by rfl) (by rfl)
        · have k1 : (z == 44) = false := by simpa using hk
          have k2 : (z != 44) = true := by simpa using hk
          have M : Hid (mem ys a i = (0, 0, 0, 2)) := (mm_nocomma HP.out H1.out hi ((hd_at E.out).trans k1) : mem ys a i = (0, 0, 0, 2))
          clear hk
          go_enter Try.func15, Try.ntmps15
          go_wp2_with fail
          refine (spaceEnd_any HD.out a P a rfl HP.out ha).mono ?_
          rintro e1 w1 ⟨rfl, rfl⟩
          go_wp2
          refine bodyPost_ret (results_tmp4 rfl _ _ _) rfl ⟨?_, rfl⟩
          rw [M.out]
          exact ret_four (by rfl) (by rfl) (by rfl) (by rfl)
      · by_cases hy : z = 34
        · subst hy
          have S34 : Hid (hd 34 (ys.drop P) = true) := (hd_at E.out : hd 34 (ys.drop P) = true)
          have MQ : Hid (mem ys a i = mem2 ys P) := (mm_zero HP.out H1.out hi : mem ys a i = mem2 ys P)
          cases hsm : sm false 0 (ys.drop (P + 1)) with
          | none =>
            obtain ⟨v, hv⟩ : ∃ v : Int, v = -1 := ⟨_, rfl⟩
            have HV : Hid (v = smEnd P (sm false 0 (ys.drop (P + 1)))) := (by rw [hsm, hv]; rfl : v = smEnd P (sm false 0 (ys.drop (P + 1))))
            have M : Hid (mem ys a i = (0, 0, 0, 2)) := (MQ.out.trans (mm2_none S34.out hsm) : mem ys a i = (0, 0, 0, 2))
            have hv' : v < 0 := by omega
            clear hsm hv
            go_enter Try.func15, Try.ntmps15
            go_wp2_with fail
            refine (spaceEnd_any HD.out a P a rfl HP.out ha).mono ?_
            rintro e1 w1 ⟨rfl, rfl⟩
            go_wp2_with fail
            refine (stringEnd_any HD.out P _ HV.out (by omega)).mono ?_
            rintro e3 w3 ⟨rfl, rfl⟩
            go_wp2
            refine bodyPost_ret (results_tmp4 rfl _ _ _) rfl ⟨?_, rfl⟩
            rw [M.out]
            exact ret_four (by rfl) (by rfl) (by rfl) (by rfl)
          | some k =>
            have hk := sm_le hsm
            obtain ⟨F, hF⟩ : ∃ F, F = P + 1 + k := ⟨_, rfl⟩
            have hFl : F ≤ ys.length := by simp at hk; omega
            obtain ⟨C, hC⟩ : ∃ C, C = F + spaces (ys.drop F) := ⟨_, rfl⟩
            have hCl : C ≤ ys.length := by have := spaces_le (ys.drop F); simp at this; omega
            have HC : Hid (C = F + spaces (ys.drop F)) := hC
            obtain ⟨v, hv⟩ : ∃ v : Int, v = F := ⟨_, rfl⟩
            have HV : Hid (v = smEnd P (sm false 0 (ys.drop (P + 1)))) := (by rw [hsm, hv, hF]; rfl : v = smEnd P (sm false 0 (ys.drop (P + 1))))
            by_cases hCt : C < ys.length
            · obtain ⟨x, g3, hx0, hx1, E3, eg3, hc3⟩ := HD.out.at hCt
              simp only [Option.some.injEq, Addr.mk.injEq, and_true] at eg3
              subst eg3
              have hCt' : (C : Int) < (ys.length : Int) := by omega
              have d3 : ((C : Int) == (ys.length : Int)) = false := by simp; omega
              by_cases hx : x = 58
              · subst hx
                have M : Hid (mem ys a i = (P, F, C + 1, 1)) := (MQ.out.trans (mm2_ok S34.out hsm hF hC (hd_at E3.out)) : mem ys a i = (P, F, C + 1, 1))
                have hv' : ¬ v < 0 := by omega
                subst hv
                clear hsm hF hC hk hv'
                have hF0 : (0 : Int) ≤ (F : Int) := by omega
                go_enter Try.func15, Try.ntmps15
                go_wp2_with fail
                refine (spaceEnd_any HD.out a P a rfl HP.out ha).mono ?_
                rintro e1 w1 ⟨rfl, rfl⟩
                go_wp2_with fail
                refine (stringEnd_any HD.out P _ HV.out (by omega)).mono ?_
                rintro e3 w3 ⟨rfl, rfl⟩
                go_wp2_with fail
                refine (spaceEnd_any HD.out F C _ rfl HC.out hFl).mono ?_
                rintro e4 w4 ⟨rfl, rfl⟩
                go_wp2
                refine bodyPost_ret (results_tmp4 rfl _ _ _) rfl ⟨?_, rfl⟩
                rw [M.out]
                exact ret_four (by simp) (by simp) (by simp) (by rfl)
              · have x1 : (x == 58) = false := by simpa using hx
                have x2 : (x != 58) = true := by simpa using hx
                have M : Hid (mem ys a i = (0, 0, 0, 2)) := (MQ.out.trans (mm2_nocolon S34.out hsm hF hC ((hd_at E3.out).trans x1)) : mem ys a i = (0, 0, 0, 2))
                subst hv
                clear hsm hF hC hk hx
                have hF0 : (0 : Int) ≤ (F : Int) := by omega
                go_enter Try.func15, Try.ntmps15
                go_wp2_with fail
                refine (spaceEnd_any HD.out a P a rfl HP.out ha).mono ?_
                rintro e1 w1 ⟨rfl, rfl⟩
                go_wp2_with fail
                refine (stringEnd_any HD.out P _ HV.out (by omega)).mono ?_
                rintro e3 w3 ⟨rfl, rfl⟩
                go_wp2_with fail
                refine (spaceEnd_any HD.out F C _ rfl HC.out hFl).mono ?_
                rintro e4 w4 ⟨rfl, rfl⟩
                go_wp2
                refine bodyPost_ret (results_tmp4 rfl _ _ _) rfl ⟨?_, rfl⟩
                rw [M.out]
                exact ret_four (by rfl) (by rfl) (by rfl) (by rfl)
            · have d3 : ((C : Int) == (ys.length : Int)) = true := by simp; omega
              have M : Hid (mem ys a i = (0, 0, 0, 2)) := (MQ.out.trans (mm2_nocolon S34.out hsm hF hC (hd_end hCt)) : mem ys a i = (0, 0, 0, 2))
              subst hv
              clear hsm hF hC hk
              have hF0 : (0 : Int) ≤ (F : Int) := by omega
              go_enter Try.func15, Try.ntmps15
              go_wp2_with fail
              refine (spaceEnd_any HD.out a P a rfl HP.out ha).mono ?_
              rintro e1 w1 ⟨rfl, rfl⟩
              go_wp2_with fail
              refine (stringEnd_any HD.out P _ HV.out (by omega)).mono ?_
              rintro e3 w3 ⟨rfl, rfl⟩
              go_wp2_with fail
              refine (spaceEnd_any HD.out F C _ rfl HC.out hFl).mono ?_
              rintro e4 w4 ⟨rfl, rfl⟩
              go_wp2
              refine bodyPost_ret (results_tmp4 rfl _ _ _) rfl ⟨?_, rfl⟩
              rw [M.out]
              exact ret_four (by rfl) (by rfl) (by rfl) (by rfl)
        · have y1 : (z == 34) = false := by simpa using hy
          have y2 : (z != 34) = true := by simpa using hy
          have M : Hid (mem ys a i = (0, 0, 0, 2)) := ((mm_zero HP.out H1.out hi).trans (mm2_no ((hd_at E.out).trans y1)) : mem ys a i = (0, 0, 0, 2))
          clear hy
          go_enter Try.func15, Try.ntmps15
          go_wp2_with fail
          refine (spaceEnd_any HD.out a P a rfl HP.out ha).mono ?_
          rintro e1 w1 ⟨rfl, rfl⟩
          go_wp2
          refine bodyPost_ret (results_tmp4 rfl _ _ _) rfl ⟨?_, rfl⟩
          rw [M.out]
          exact ret_four (by rfl) (by rfl) (by rfl) (by rfl)
  · have d0 : ((P : Int) == (ys.length : Int)) = true := by simp; omega
    have d1 : decide ((P : Int) < (ys.length : Int)) = false := by simpa using hlt
    have M : Hid (mem ys a i = (0, 0, 0, 2)) := (by
      by_cases hi : 0 < i
      · exact mm_nocomma HP.out (hd_end hlt) hi (hd_end hlt)
      · exact (mm_zero HP.out (hd_end hlt) hi).trans (mm2_no (hd_end hlt)) : mem ys a i = (0, 0, 0, 2))
    by_cases hi : 0 < i
    · go_enter Try.func15, Try.ntmps15
      go_wp2_with fail
      refine (spaceEnd_any HD.out a P a rfl HP.out ha).mono ?_
      rintro e1 w1 ⟨rfl, rfl⟩
      go_wp2
      refine bodyPost_ret (results_tmp4 rfl _ _ _) rfl ⟨?_, rfl⟩
      rw [M.out]
      exact ret_four (by rfl) (by rfl) (by rfl) (by rfl)
    · go_enter Try.func15, Try.ntmps15
      go_wp2_with fail
      refine (spaceEnd_any HD.out a P a rfl HP.out ha).mono ?_
      rintro e1 w1 ⟨rfl, rfl⟩
      go_wp2
      refine bodyPost_ret (results_tmp4 rfl _ _ _) rfl ⟨?_, rfl⟩
      rw [M.out]
      exact ret_four (by rfl) (by rfl) (by rfl) (by rfl)
end Go.Proofs.Qxb6600361a
