import Derived.Test.Qxb6600361aWkM
import Derived.Test.Qxb6600361aWkP
import Derived.Test.Qxb6600361aWkG
namespace Go.Proofs.Qxb6600361a
open Go.RowKit

/-- zzMemberName calls memberName -/
theorem zzMemberName_t {w0 w : World} {b : Nat} {da : Option Addr} {zs : List Int} {cap p : Nat} {f : Bool} (h : T4 w0 w b da zs cap p f) (i : Int) :
    Calls Try.prog 17 #[.pointer (some ⟨b, 0, none⟩), .int .i64 i] w fun e w' => ∃ v r q f', e = .returned (.tuple #[v, .bool r]) ∧ Hid (Mem zs da cap p i f v r q f') ∧ T4 w0 w' b da zs cap q f' := by
  have H : Hid (T4 w0 w b da zs cap p f) := h
  clear h
  go_enter Try.func17, Try.ntmps17
  go_wp2_with (go_at_call 34; refine (memberName_t H.out i).mono ?_; rintro e w' ⟨v, r, q, f', rfl, hM, hT⟩)
  go_ret2
  exact ⟨v, r, q, f', rfl, hM, hT⟩

/-- bytes that can be read: the slice at a holds xs -/
def Rd (w : World) (a : Option Addr) (xs : List Int) : Prop := ∀ j, j < xs.length → ∃ g o, a = some ⟨g, o, none⟩ ∧ ∀ t, t < xs.length → w.cell? ⟨g, o + t, none⟩ = some (.int .u8 (xs.getD t 0))

set_option maxHeartbeats 1000000 in
/-- zzBytesEqual, of two slices that hold the same bytes -/
theorem bytesEqual_same (a b : Option Addr) (c d : Nat) (xs : List Int) (w : World) (ha : Rd w a xs) (hb : Rd w b xs) (hl : xs.length ≤ 1099511627776) :
    Calls Try.prog 20 #[.slice a xs.length c, .slice b xs.length d] w fun e w' => e = .returned (.bool true) ∧ ∃ n, w' = w.drewN n := by
  go_enter Try.func20, Try.ntmps20
  go_wp2
  go_loopg [5] xs.length (fun k i wr => ∃ j n : Nat, k + j = xs.length ∧ i = .int .i64 j ∧ wr = w.drewN n)
  case atStart => exact ⟨0, 0, by omega, rfl, rfl⟩
  case round =>
    obtain ⟨j, n, h1, rfl, rfl⟩ := hrel
    have A : Aside (gk + j = xs.length) := h1
    have hj : j ≤ xs.length := by omega
    clear h1
    by_cases hlt : j < xs.length
    · obtain ⟨g, o, rfl, hc⟩ := ha j hlt
      obtain ⟨g', o', rfl, hc'⟩ := hb j hlt
      obtain ⟨z, hz⟩ : ∃ z, z = xs.getD j 0 := ⟨_, rfl⟩
      have c1 := hc j hlt
      have c2 := hc' j hlt
      rw [← hz] at c1 c2
      have hlt' : (j : Int) < (xs.length : Int) := by omega
      clear hc hc' ha hb hz
      go_wp2
      go_quiet (fail)
      go_wp2
      go_roundg (xs.length - (j + 1))
      case measure => have := A.out; omega
      case rel => exact ⟨j + 1, n + nq, by omega, by go_num, rfl⟩
    · go_wp2
      go_ret
      exact ⟨rfl, n, rfl⟩

theorem bytesEqual_same' {a b : Option Addr} {c d n : Nat} {xs : List Int} {w : World} (hn : xs.length = n) (ha : Rd w a xs) (hb : Rd w b xs) (hl : n ≤ 1099511627776) :
    Calls Try.prog 20 #[.slice a n c, .slice b n d] w fun e w' => e = .returned (.bool true) ∧ ∃ n, w' = w.drewN n := by
  subst hn; exact bytesEqual_same a b c d xs w ha hb hl

theorem size14_any (a : Option Addr) (len cap : Nat) (v i : Int) (f : Bool) (w : World) (h : len ≤ 1048576) : Calls Try.prog 14 #[.slice a len cap, .int .i64 v, .int .i64 i, .bool f] w fun e w' => e = .returned (.bool true) ∧ w' = w := by
  go_enter Try.func14, Try.ntmps14
  go_wp2
  go_ret
  exact ⟨rfl, rfl⟩
theorem size14_no (a : Option Addr) (len cap : Nat) (v i : Int) (f : Bool) (w : World) (h : 1048576 < len) (hc : len ≤ 9223372036854775807) : Calls Try.prog 14 #[.slice a len cap, .int .i64 v, .int .i64 i, .bool f] w fun e w' => e = .returned (.bool false) ∧ w' = w := by
  go_enter Try.func14, Try.ntmps14
  go_wp2
  go_ret
  exact ⟨rfl, rfl⟩

/-- a part of the splitter's data can be read -/
theorem S4.part {w : World} {b : Nat} {da : Option Addr} {zs : List Int} {cap p : Nat} {f : Bool} (h : S4 w b da zs cap p f) {g s n : Nat} (hd : da = some ⟨g, 0, none⟩) (hn : s + n ≤ zs.length) : Rd w (some ⟨g, s, none⟩) ((zs.drop s).take n) := by
  intro j hj
  refine ⟨g, s, rfl, fun t ht => ?_⟩
  have ht' : t < n := by simp at ht; omega
  obtain ⟨g', e, _, hc⟩ := h.dat (s + t) (by omega)
  rw [hd] at e
  simp only [Option.some.injEq, Addr.mk.injEq, and_true] at e
  subst e
  rw [hc (s + t) (by omega)]
  simp [List.getD, ht']

set_option maxRecDepth 20000 in
set_option maxHeartbeats 4000000 in
theorem walk5 (a0 : Option Addr) (len0 cap0 : Nat) (z0 : List Int) (a1 : Int) (a2 : Int) (a3 : Bool) (w : World) (w0 : IsRow .u8 w a0 len0 cap0 z0) :
    Calls Try.prog 5 #[.slice a0 len0 cap0, .int .i64 a1, .int .i64 a2, .bool a3] w fun e w' => e = .returned (.bool true) ∧ Below w.heap.size w w' := by
  obtain ⟨hl1, hl2⟩ := w0.len
  by_cases hl : len0 ≤ 1048576
  · by_cases h0 : a1 < 0
    · go_enter Try.func5, Try.ntmps5
      go_wp2_with (go_at_call 14; refine (size14_any _ _ _ _ _ _ _ hl).mono ?_; rintro e w' ⟨rfl, rfl⟩)
      go_ret
      exact ⟨rfl, Below.refl _ _⟩
    by_cases h1 : (len0 : Int) < a1
    · go_enter Try.func5, Try.ntmps5
      go_wp2_with (go_at_call 14; refine (size14_any _ _ _ _ _ _ _ hl).mono ?_; rintro e w' ⟨rfl, rfl⟩)
      go_ret
      exact ⟨rfl, Below.refl _ _⟩
    obtain ⟨p, rfl⟩ : ∃ p : Nat, a1 = p := ⟨a1.toNat, by omega⟩
    have W0 : Hid (IsRow .u8 w a0 len0 cap0 z0) := w0
    clear w0
    go_enter Try.func5, Try.ntmps5
    go_wp2_with (first
      | (go_at_call 14; refine (size14_any _ _ _ _ _ _ _ hl).mono ?_; rintro e w' ⟨rfl, rfl⟩)
      | (go_at_call 9; refine (clone_any W0.out hl).mono ?_; rintro e w2 ⟨da, ys, cp, rfl, hY, k1, k2, hD, hB⟩))
    obtain ⟨ns, ne, at', o, hm⟩ : ∃ ns ne at' o, mem ys p a2 = (ns, ne, at', o) := ⟨_, _, _, _, rfl⟩
    have hMM := memberModel_any hD p (by omega) a2
    rw [hm] at hMM
    refine hMM.mono ?_
    clear hMM
    rintro e3 w3 ⟨rfl, rfl⟩
    unfold four
    go_wp2_with (go_at_call 16; refine (newSplitter_any _ _ _ _ _ _).mono ?_; rintro e w' ⟨rfl, rfl⟩)
    have hS := hD.made (p := p) a3 0 (by omega)
    refine (zzMemberName_t ⟨hS, World.grownBy.refl _ _⟩ a2).mono ?_
    rintro e4 w4 ⟨v, r, q, f', rfl, hMem, hT⟩
    have hlen := hT.st.len
    have hcp := hT.st.cap
    unfold maxLen at hcp
    have hB4 := (hB.alloc hB.size _).trans (grown_below hT.gr _ hB.size (by have := hB.size; simp; omega))
    have hnil := fun W => Lib.run_eql_slice_nil (P := Try.prog) W 22 5 none 0 0 0 0 Try.underlying22
    rcases hMem.out with ⟨rfl, rfl, hm2, rfl⟩ | ⟨g, ns', ne', rfl, rfl, rfl, hm2, rfl, hlt, hle⟩ | ⟨rfl, rfl, hm2, rfl⟩
    · rw [hm] at hm2
      simp only [Prod.mk.injEq] at hm2
      obtain ⟨rfl, rfl, rfl, rfl⟩ := hm2
      have HT : Hid (T4 _ w4 _ da ys cp at' f') := hT
      clear hm hS hMem hT hD hY
      go_wp2_with (first
        | (go_at_call 18; refine (at_any HT.out.st).mono ?_; rintro e w' ⟨rfl, rfl⟩)
        | (go_at_call 19; refine (failed_any HT.out.st).mono ?_; rintro e w' ⟨rfl, rfl⟩))
      go_ret
      exact ⟨by simp, hB4⟩
    · rw [hm] at hm2
      simp only [Prod.mk.injEq] at hm2
      obtain ⟨rfl, rfl, rfl, rfl⟩ := hm2
      have HT : Hid (T4 _ w4 _ (some ⟨g, 0, none⟩) ys cp at' f') := hT
      have hR : Hid (Rd w4 (some ⟨g, ns, none⟩) ((ys.drop ns).take (ne - ns))) := hT.st.part rfl (by omega)
      have hL : Hid (((ys.drop ns).take (ne - ns)).length = ne - ns) := (by simp; omega : ((ys.drop ns).take (ne - ns)).length = ne - ns)
      have q1 : (ns : Int) ≤ (ne : Int) := by omega
      have q2 : (ne : Int) ≤ (cp : Int) := by omega
      have q3 : ¬ cp = ns := by omega
      clear hm hS hMem hT hD hY hnil
      go_wp2_with (first
        | (go_at_call 18; refine (at_any HT.out.st).mono ?_; rintro e w' ⟨rfl, rfl⟩)
        | (go_at_call 19; refine (failed_any HT.out.st).mono ?_; rintro e w' ⟨rfl, rfl⟩))
      refine (bytesEqual_same' (c := cp - ns) (d := cp - ns) hL.out hR.out hR.out (by omega)).mono ?_
      rintro e5 w5 ⟨rfl, n5, rfl⟩
      go_wp2
      go_ret
      exact ⟨by simp, below_drewN hB4 _⟩
    · rw [hm] at hm2
      simp only [Prod.mk.injEq] at hm2
      obtain ⟨rfl, rfl, rfl, rfl⟩ := hm2
      have HT : Hid (T4 _ w4 _ da ys cp q true) := hT
      clear hm hS hMem hT hD hY
      go_wp2_with (first
        | (go_at_call 18; refine (at_any HT.out.st).mono ?_; rintro e w' ⟨rfl, rfl⟩)
        | (go_at_call 19; refine (failed_any HT.out.st).mono ?_; rintro e w' ⟨rfl, rfl⟩))
      go_ret
      exact ⟨by simp, hB4⟩
  · go_enter Try.func5, Try.ntmps5
    go_wp2_with (go_at_call 14; refine (size14_no _ _ _ _ _ _ _ (by omega) (by omega)).mono ?_; rintro e w' ⟨rfl, rfl⟩)
    go_ret
    exact ⟨rfl, Below.refl _ _⟩
end Go.Proofs.Qxb6600361a
