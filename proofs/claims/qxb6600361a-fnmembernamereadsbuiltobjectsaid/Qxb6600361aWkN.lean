import Derived.Test.Qxb6600361aWkC
import Derived.Test.Qxb6600361aStr
namespace Go.Proofs.Qxb6600361a
open Go.RowKit

theorem D4.at {w : World} {da : Option Addr} {zs : List Int} {cap : Nat} (h : D4 w da zs cap) {q : Nat} (hq : q < zs.length) :
    ∃ z g, 0 ≤ z ∧ z ≤ 255 ∧ Hid (zs.drop q = z :: zs.drop (q + 1)) ∧ da = some ⟨g, 0, none⟩ ∧ w.cell? ⟨g, q, none⟩ = some (.int .u8 z) := by
  obtain ⟨g, h1, h3⟩ := h.dat q hq
  exact ⟨zs.getD q 0, g, (h.rng q).1, (h.rng q).2, drop_lt hq, h1, h3 q hq⟩

set_option maxHeartbeats 400000 in
theorem isSpace_any (c : Int) (w : World) : Calls Try.prog 38 #[.int .u8 c] w fun e w' => e = .returned (.bool (isS c)) ∧ w' = w := by
  by_cases h : isS c = true
  · rw [h]
    rcases (isS_iff c).1 h with rfl | rfl | rfl | rfl
    all_goals
      go_enter Try.func38, Try.ntmps38
      go_wp2
      go_ret
      exact ⟨rfl, rfl⟩
  · have h' : isS c = false := by simpa using h
    rw [h']
    obtain ⟨n1, n2, n3, n4⟩ := (isS_false c).1 h'
    have e1 : (c == 32) = false := by simpa using n1
    have e2 : (c == 9) = false := by simpa using n2
    have e3 : (c == 10) = false := by simpa using n3
    have e4 : (c == 13) = false := by simpa using n4
    clear h h' n1 n2 n3 n4
    go_enter Try.func38, Try.ntmps38
    go_wp2
    go_ret
    exact ⟨by simp [*], rfl⟩

set_option maxHeartbeats 1000000 in
theorem spaceEnd_any {w : World} {da : Option Addr} {ys : List Int} {cp : Nat} (h : D4 w da ys cp) (p s : Nat) (k : Int) (hk : k = p) (hs : s = p + spaces (ys.drop p)) (hp : p ≤ ys.length) :
    Calls Try.prog 32 #[.slice da ys.length cp, .int .i64 k] w fun e w' => e = .returned (.int .i64 s) ∧ w' = w := by
  subst hk
  have HS : Hid (s = p + spaces (ys.drop p)) := hs
  have hlen := h.len
  have hcap := h.cap
  unfold maxLen at hcap
  clear hs
  go_enter Try.func32, Try.ntmps32
  go_wp2
  go_loopg [1] (ys.length - p) (fun k i wr => ∃ q : Nat, k + q = ys.length ∧ i = .int .i64 q ∧ s = q + spaces (ys.drop q) ∧ w = wr)
  case atStart => exact ⟨p, by omega, rfl, HS.out, rfl⟩
  case round =>
    obtain ⟨q, h1, rfl, h2, rfl⟩ := hrel
    have A : Aside (gk + q = ys.length ∧ s = q + spaces (ys.drop q)) := ⟨h1, h2⟩
    have hq : q ≤ ys.length := by omega
    clear h1 h2
    by_cases hlt : q < ys.length
    · obtain ⟨z, g, hz0, hz1, E, rfl, hc⟩ := h.at hlt
      have hlt' : (q : Int) < (ys.length : Int) := by omega
      have hsp := isSpace_any z w
      clear h
      by_cases hz : isS z = true
      · rw [hz] at hsp
        have HC : Hid (Calls Try.prog 38 #[.int .u8 z] w fun e w' => e = .returned (.bool true) ∧ w' = w) := hsp
        have HZ : Hid (isS z = true) := hz
        clear hsp hz
        go_wp2_with (go_at_call 38; refine HC.out.mono ?_; rintro e w' ⟨rfl, rfl⟩)
        go_roundg (ys.length - (q + 1))
        case measure => have := A.out.1; omega
        case rel => exact ⟨q + 1, by omega, by go_num, by have := A.out.2; rw [E.out, spaces, if_pos HZ.out] at this; omega, rfl⟩
      · have hz' : isS z = false := by simpa using hz
        rw [hz'] at hsp
        have HC : Hid (Calls Try.prog 38 #[.int .u8 z] w fun e w' => e = .returned (.bool false) ∧ w' = w) := hsp
        have HZ : Hid (isS z = false) := hz'
        clear hsp hz hz'
        go_wp2_with (go_at_call 38; refine HC.out.mono ?_; rintro e w' ⟨rfl, rfl⟩)
        go_ret
        exact ⟨ret_int (by have := A.out.2; rw [E.out, spaces, HZ.out] at this; simp at this; omega), rfl⟩
    · have hd' : decide ((q : Int) < (ys.length : Int)) = false := by simpa using hlt
      go_wp2
      go_ret
      exact ⟨ret_int (by have := A.out.2; rw [drop_ge hlt] at this; simp [spaces] at this; omega), rfl⟩

/-! ### the hexadecimal digit: 'c|0x20' -/
def orOK (n : Nat) : Bool := decide (0 ≤ bits BinOp.or IntKind.u8 (n : Int) 32) && decide (bits BinOp.or IntKind.u8 (n : Int) 32 ≤ 255) && ((decide (97 ≤ bits BinOp.or IntKind.u8 (n : Int) 32) && decide (bits BinOp.or IntKind.u8 (n : Int) 32 ≤ 102)) == ((decide (97 ≤ n) && decide (n ≤ 102)) || (decide (65 ≤ n) && decide (n ≤ 70))))
theorem orOK_all : (List.range 256).all orOK = true := by decide +kernel
theorem or_facts {c : Int} (h0 : 0 ≤ c) (h1 : c ≤ 255) : 0 ≤ bits BinOp.or IntKind.u8 c 32 ∧ bits BinOp.or IntKind.u8 c 32 ≤ 255 ∧
    ((97 ≤ bits BinOp.or IntKind.u8 c 32 ∧ bits BinOp.or IntKind.u8 c 32 ≤ 102) ↔ ((97 ≤ c ∧ c ≤ 102) ∨ (65 ≤ c ∧ c ≤ 70))) := by
  obtain ⟨n, rfl⟩ : ∃ n : Nat, c = n := ⟨c.toNat, by omega⟩
  have h := List.all_eq_true.1 orOK_all n (List.mem_range.2 (by omega))
  simp only [orOK, Bool.and_eq_true, decide_eq_true_eq, beq_iff_eq] at h
  obtain ⟨⟨h2, h3⟩, h4⟩ := h
  refine ⟨h2, h3, ?_⟩
  rw [Bool.eq_iff_iff] at h4
  simp only [Bool.and_eq_true, Bool.or_eq_true, decide_eq_true_eq] at h4
  rw [h4]
  omega

set_option maxHeartbeats 1000000 in
theorem hexValue_any (c : Int) (w : World) (h0 : 0 ≤ c) (h1 : c ≤ 255) : Calls Try.prog 39 #[.int .u8 c] w fun e w' => ∃ v, e = .returned (.int .i64 v) ∧ ((hexB c = true ∧ 0 ≤ v ∧ v ≤ 255) ∨ (hexB c = false ∧ v = -1)) ∧ w' = w := by
  obtain ⟨o1, o2, o3⟩ := or_facts h0 h1
  by_cases hd : 48 ≤ c ∧ c ≤ 57
  · obtain ⟨d1, d2⟩ := hd
    clear o1 o2 o3
    go_enter Try.func39, Try.ntmps39
    go_wp2
    go_ret
    exact ⟨_, rfl, .inl ⟨(hexB_iff c).2 (by omega), by omega, by omega⟩, rfl⟩
  · by_cases hl : 97 ≤ bits BinOp.or IntKind.u8 c 32 ∧ bits BinOp.or IntKind.u8 c 32 ≤ 102
    · have hx : hexB c = true := (hexB_iff c).2 (by have := o3.1 hl; omega)
      obtain ⟨l1, l2⟩ := hl
      have HX : Hid (hexB c = true) := hx
      clear o3 hx
      rcases (show c < 48 ∨ 57 < c by omega) with hc | hc
      all_goals
        go_enter Try.func39, Try.ntmps39
        go_wp2
        all_goals (try go_ret)
        all_goals exact ⟨_, rfl, .inl ⟨HX.out, by omega, by omega⟩, rfl⟩
    · have hx : hexB c = false := (hexB_false c).2 (by have := mt o3.2 hl; omega)
      have HX : Hid (hexB c = false) := hx
      have hl' : bits BinOp.or IntKind.u8 c 32 < 97 ∨ 102 < bits BinOp.or IntKind.u8 c 32 := by omega
      clear o3 hx hl
      rcases (show c < 48 ∨ 57 < c by omega) with hc | hc
      all_goals rcases hl' with hl | hl
      all_goals
        go_enter Try.func39, Try.ntmps39
        go_wp2
        all_goals (try go_ret)
        all_goals exact ⟨_, rfl, .inr ⟨HX.out, rfl⟩, rfl⟩

/-! ### the short escapes: a constant string's bytes in turn -/
def shortL : List Int := [34, 92, 47, 98, 102, 110, 114, 116]
theorem shortB_any (c : Int) : shortB c = shortL.any (· == c) := by
  rw [Bool.eq_iff_iff, shortB_iff]
  simp [shortL]
  omega

theorem ret_bool {a b : Bool} (h : a = b) : Ending.returned (.bool a) = .returned (.bool b) := by rw [h]
theorem short_hit {c x : Int} {j : Nat} (h : (x == c) = true) (hx : shortL[j]? = some x) (hE : shortB c = (shortL.drop j).any (· == c)) : true = shortB c := by
  rw [hE, List.drop_eq_getElem?_toList_append, hx]; simp [h]
theorem short_miss {c x : Int} {j : Nat} (h : (x == c) = false) (hx : shortL[j]? = some x) (hE : shortB c = (shortL.drop j).any (· == c)) : shortB c = (shortL.drop (j + 1)).any (· == c) := by
  rw [hE, List.drop_eq_getElem?_toList_append, hx]; simp [h]

set_option maxHeartbeats 1000000 in
theorem isShort_any (c : Int) (w : World) : Calls Try.prog 40 #[.int .u8 c] w fun e w' => e = .returned (.bool (shortB c)) ∧ w' = w := by
  go_enter Try.func40, Try.ntmps40
  go_wp2
  go_loopg [3] 8 (fun k i wr => ∃ j : Nat, k + j = 8 ∧ i = .int .i64 j ∧ shortB c = (shortL.drop j).any (· == c) ∧ w = wr)
  case atStart => exact ⟨0, rfl, rfl, by rw [shortB_any]; rfl, rfl⟩
  case round =>
    obtain ⟨j, hk, rfl, hE, rfl⟩ := hrel
    have A : Aside (gk + j = 8 ∧ shortB c = (shortL.drop j).any (· == c)) := ⟨hk, hE⟩
    have hj : j ≤ 8 := by omega
    clear hk hE
    rcases (show j = 0 ∨ j = 1 ∨ j = 2 ∨ j = 3 ∨ j = 4 ∨ j = 5 ∨ j = 6 ∨ j = 7 ∨ j = 8 by omega) with rfl | rfl | rfl | rfl | rfl | rfl | rfl | rfl | rfl
    · go_wp2
      · go_ret
        exact ⟨ret_bool (short_hit (j := 0) (x := 34) (by assumption) rfl A.out.2), rfl⟩
      · go_roundg 7
        case measure => have := A.out.1; omega
        case rel => exact ⟨1, rfl, rfl, short_miss (j := 0) (x := 34) (by assumption) rfl A.out.2, rfl⟩
    · go_wp2
      · go_ret
        exact ⟨ret_bool (short_hit (j := 1) (x := 92) (by assumption) rfl A.out.2), rfl⟩
      · go_roundg 6
        case measure => have := A.out.1; omega
        case rel => exact ⟨2, rfl, rfl, short_miss (j := 1) (x := 92) (by assumption) rfl A.out.2, rfl⟩
    · go_wp2
      · go_ret
        exact ⟨ret_bool (short_hit (j := 2) (x := 47) (by assumption) rfl A.out.2), rfl⟩
      · go_roundg 5
        case measure => have := A.out.1; omega
        case rel => exact ⟨3, rfl, rfl, short_miss (j := 2) (x := 47) (by assumption) rfl A.out.2, rfl⟩
    · go_wp2
      · go_ret
        exact ⟨ret_bool (short_hit (j := 3) (x := 98) (by assumption) rfl A.out.2), rfl⟩
      · go_roundg 4
        case measure => have := A.out.1; omega
        case rel => exact ⟨4, rfl, rfl, short_miss (j := 3) (x := 98) (by assumption) rfl A.out.2, rfl⟩
    · go_wp2
      · go_ret
        exact ⟨ret_bool (short_hit (j := 4) (x := 102) (by assumption) rfl A.out.2), rfl⟩
      · go_roundg 3
        case measure => have := A.out.1; omega
        case rel => exact ⟨5, rfl, rfl, short_miss (j := 4) (x := 102) (by assumption) rfl A.out.2, rfl⟩
    · go_wp2
      · go_ret
        exact ⟨ret_bool (short_hit (j := 5) (x := 110) (by assumption) rfl A.out.2), rfl⟩
      · go_roundg 2
        case measure => have := A.out.1; omega
        case rel => exact ⟨6, rfl, rfl, short_miss (j := 5) (x := 110) (by assumption) rfl A.out.2, rfl⟩
    · go_wp2
      · go_ret
        exact ⟨ret_bool (short_hit (j := 6) (x := 114) (by assumption) rfl A.out.2), rfl⟩
      · go_roundg 1
        case measure => have := A.out.1; omega
        case rel => exact ⟨7, rfl, rfl, short_miss (j := 6) (x := 114) (by assumption) rfl A.out.2, rfl⟩
    · go_wp2
      · go_ret
        exact ⟨ret_bool (short_hit (j := 7) (x := 116) (by assumption) rfl A.out.2), rfl⟩
      · go_roundg 0
        case measure => have := A.out.1; omega
        case rel => exact ⟨8, rfl, rfl, short_miss (j := 7) (x := 116) (by assumption) rfl A.out.2, rfl⟩
    · go_wp2
      go_ret
      exact ⟨ret_bool (by rw [A.out.2]; rfl), rfl⟩
end Go.Proofs.Qxb6600361a
