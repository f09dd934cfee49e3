/-
  THE PROOF OF 'Rows.FnMemberNameReadsBuiltObjectSaid': the frame after the guide's shells (a law over slices), the walk out of the texts that it imports.
-/
import Derived.Test.Qxb6600361aRows
import Derived.Test.Qxb6600361aWkU
import Derived.WalkKit
import Derived.ProofKit
import Derived.OpenShut
import Derived.ShutString
import Derived.SliceStrings
import Derived.ChangeOld
import Derived.Below
namespace Go.Proofs.Qxb6600361a.fnMemberNameReadsBuiltObject
open Go.ChangeShapes Go.WideShapes Go.ChangeAt Go.RowKit
open Go.ChangeMaps (open_string shut_string)
set_option linter.unusedVariables false

theorem own : ownKnob Try.prog.godebug = none := by kernel_rfl
theorem laidOut : laidOutB Try.prog = true := by kernel_rfl

/-! ### STEP 1: THE WALK -/
set_option maxRecDepth 20000 in
set_option maxHeartbeats 1000000 in
/-- too long an input is turned away with true -/
theorem walk_big {a0 a1 : Option Addr} {n0 c0 n1 c1 : Nat} (ss : Nat → ByteArray) (sp : Int) {w : World} (hN : IsVec w a0 n0 c0 (fun i => .string (ss i))) (hm : n1 ≤ 9223372036854775807)
    (hs : ∀ i, i < n0 → (ss i).size ≤ 9223372036854775807) (h : 65536 < n0 ∨ (n0 ≤ 65536 ∧ 65536 < n1) ∨ (n0 ≤ 65536 ∧ n1 ≤ 65536 ∧ 1048576 < 48 * n0 + 8 * n1)) :
    Calls Try.prog 7 #[.slice a0 n0 c0, .slice a1 n1 c1, .int .u8 sp] w fun e w' => e = .returned (.bool true) ∧ Below w.heap.size w w' := by
  have hn := hN.len
  have HN : Hid (IsVec w a0 n0 c0 (fun i => .string (ss i)) ∧ (∀ i, i < n0 → (ss i).size ≤ 9223372036854775807)) := ⟨hN, hs⟩
  clear hN hs
  rcases h with h | ⟨h, h'⟩ | ⟨h, h', h''⟩
  all_goals
    go_enter Try.func7, Try.ntmps7
    go_wp2_with (go_at_call 22; refine (size22_any ss HN.out.1 HN.out.2 hm _).mono ?_; rintro e w1 ⟨r, rfl, hw1⟩; have hw2 := hw1.symm; subst hw2)
    all_goals go_ret
    all_goals exact ⟨rfl, Below.refl _ _⟩

theorem walk (a0 : Option Addr) (n0 c0 : Nat) (ss : Nat → ByteArray) (a1 : Option Addr) (n1 c1 : Nat) (vs : Nat → Int) (sp : Int) (w : World) (hN : IsVec w a0 n0 c0 (fun i => .string (ss i))) (hV : IsVec w a1 n1 c1 (fun i => .int .i64 (vs i)))
    (hs : ∀ i, i < n0 → (ss i).size ≤ 9223372036854775807) (hv : ∀ i, i < n1 → -9223372036854775808 ≤ vs i ∧ vs i ≤ 9223372036854775807) (w2 : (Lit.int .u8 sp).wf = true) :
    Calls Try.prog 7 #[.slice a0 n0 c0, .slice a1 n1 c1, .int .u8 sp] w fun e w' => e = .returned (.bool true) ∧ Below w.heap.size w w' := by
  obtain ⟨p0, p1⟩ := bounds_u8 w2
  by_cases h : 65536 < n0 ∨ (n0 ≤ 65536 ∧ 65536 < n1) ∨ (n0 ≤ 65536 ∧ n1 ≤ 65536 ∧ 1048576 < 48 * n0 + 8 * n1)
  · exact walk_big ss sp hN hV.len hs h
  · exact walk7_go ss vs sp hN hV hs hv p0 p1 (by omega) (by omega) (by omega)

/-! ### THE ROW's STEP -/
set_option maxRecDepth 100000 in
theorem lifted (os : Os) (started : os.Started) (H : Type) (enc : TypeId × Value → H) :
    ReturnsInHanded {} Try.checked os 7 .any (Rows.fnMemberNameReadsBuiltObjectSpec.pre6 enc Try.prog Try.f7 Rows.fnMemberNameReadsBuiltObjectRow.domain false) (Rows.fnMemberNameReadsBuiltObjectSpec.post enc Try.prog Try.f7 false true false false) := by
  refine returnsInHanded_of_change (C := Try.checked) own started (by kernel_rfl) Try.func7
    (ChangeSpec.witness6 (enc := enc) (C := Try.checked) false ⟨#[], #[.slice none 0 0, .slice none 0 0, .int .u8 0], []⟩ 8 (by kernel_rfl) (by kernel_rfl) (by kernel_rfl) (by kernel_rfl)) ?_
  intro W base args ds gs before hval0 hW hcnd _
  have hval : ∀ (j : Nat) t v, Try.f7.params[j]? = some t → args[j]? = some v → Value.okWide Try.prog W .any base t v := hval0
  have hW' := hW
  obtain ⟨p, q, hA0, hV, rfl, hfz, hnd⟩ := hW
  have hA : DataW.TrodAll enc Try.prog W 0 (fun _ => true) true Try.f7.params.toList args.toList ds p := hA0
  rw [Try.params7] at hA hval
  obtain ⟨v0, vs0, d0, ds0, p0, q0, hargs, rfl, rfl, h0, r0⟩ := trodAll_cons hA
  obtain ⟨v1, vs1, d1, ds1, p1, q1, rfl, rfl, rfl, h1, r1⟩ := trodAll_cons r0
  obtain ⟨v2, vs2, d2, ds2, p2, q2, rfl, rfl, rfl, h2, r2⟩ := trodAll_cons r1
  obtain ⟨rfl, rfl, rfl⟩ := trodAll_nil r2
  obtain rfl : args = #[v0, v1, v2] := by cases args; simp_all
  obtain ⟨rfl, rfl⟩ := trodVars_none hV
  obtain ⟨a0, len0, cap0, rfl⟩ := okWide_slice Try.underlying44 (hval 0 44 v0 rfl rfl)
  have k0 := h0
  have lt0 : ∀ x ∈ p0, x.block < W.heap.size := by obtain ⟨m, hm⟩ := k0; exact DataW.trod_lt m _ _ _ hm
  obtain ⟨a1, len1, cap1, rfl⟩ := okWide_slice Try.underlying45 (hval 1 45 v1 rfl rfl)
  have k1 := h1
  have lt1 : ∀ x ∈ p1, x.block < W.heap.size := by obtain ⟨m, hm⟩ := k1; exact DataW.trod_lt m _ _ _ hm
  obtain ⟨ss, w0, hs0⟩ : ∃ ss : Nat → ByteArray, IsVec W a0 len0 cap0 (fun i => .string (ss i)) ∧ ∀ i, i < len0 → (ss i).size ≤ 9223372036854775807 := by
    obtain ⟨fuel, hf⟩ := h0
    rcases open_strings Try.underlying44 Try.underlying9 (by kernel_rfl) hf with ⟨hcs, _⟩ | ⟨x, l, c, ss, hcs, _, hl, hm, hz, _, hcell, hws⟩
    · simp [Value.cells] at hcs
      obtain ⟨rfl, rfl, rfl⟩ := hcs
      exact ⟨fun _ => ByteArray.empty, .inl ⟨rfl, rfl, rfl⟩, fun i hi => by omega⟩
    · simp [Value.cells] at hcs
      obtain ⟨rfl, rfl, rfl⟩ := hcs
      have hz' : ss.length = cap0 := by simpa using hz
      refine ⟨fun i => ss.getD i ByteArray.empty, .inr ⟨_, rfl, hl, hm, fun i hi => hcell i (by omega)⟩, fun i hi => ?_⟩
      have hi' : i < ss.length := by omega
      have := hws _ (List.getElem_mem hi')
      unfold maxLen at this
      simpa [List.getD, hi'] using (show ss[i].size ≤ 9223372036854775807 by omega)
  obtain ⟨vs, w1, hv1⟩ : ∃ vs : Nat → Int, IsVec W a1 len1 cap1 (fun i => .int .i64 (vs i)) ∧ ∀ i, i < len1 → -9223372036854775808 ≤ vs i ∧ vs i ≤ 9223372036854775807 := by
    obtain ⟨fuel, hf⟩ := h1
    rcases open_ints Try.underlying45 Try.underlying2 (by kernel_rfl) hf with ⟨hcs, _⟩ | ⟨x, l, c, zs, hcs, _, hl, hm, hz, _, hcell, hwz⟩
    · simp [Value.cells] at hcs
      obtain ⟨rfl, rfl, rfl⟩ := hcs
      exact ⟨fun _ => 0, .inl ⟨rfl, rfl, rfl⟩, fun i hi => by omega⟩
    · simp [Value.cells] at hcs
      obtain ⟨rfl, rfl, rfl⟩ := hcs
      have hz' : zs.length = cap1 := by simpa using hz
      refine ⟨fun i => zs.getD i 0, .inr ⟨_, rfl, hl, hm, fun i hi => hcell i (by omega)⟩, fun i hi => ?_⟩
      have hi' : i < zs.length := by omega
      have hb := bounds_i64 (hwz _ (List.getElem_mem hi'))
      simpa [List.getD, hi'] using hb
  obtain ⟨a2, rfl, rfl, rfl, w2⟩ := open_int Try.underlying5 (hval 2 5 v2 rfl rfl) h2
  clear hA0 hval0
  refine (walk a0 len0 cap0 ss a1 len1 cap1 vs a2 W w0 w1 hs0 hv1 w2).mono fun e W' ⟨he, bel⟩ => ?_
  subst he
  exact ⟨_, rfl, _, _, _, [], _, [], hW', trodAll_mk1 (shut_bool Try.underlying4 _), (trodAll_cons_mk (Below.trod laidOut (by kernel_rfl) (of_decide_eq_true (by kernel_rfl)) k0 bel lt0) (trodAll_cons_mk (Below.trod laidOut (by kernel_rfl) (of_decide_eq_true (by kernel_rfl)) k1 bel lt1) (trodAll_cons_mk (shut_int Try.underlying5 w2) trodAll_mk0))), rfl, bel.frame _, fun h => by cases h⟩

theorem over : Rows.fnMemberNameReadsBuiltObjectRow.holds Try.pinned (OpenSpec.ofChange Rows.fnMemberNameReadsBuiltObjectSpec) :=
  OpenClaim.holds_of_wide 7 Try.f7 rfl rfl rfl rfl rfl rfl rfl ⟨rfl, rfl, rfl, rfl, rfl⟩ rfl rfl rfl rfl rfl (by kernel_rfl) Try.func7 (by kernel_rfl)
    (of_decide_eq_true (by kernel_rfl)) (by unfold Func.isWrapper; first | (rw [if_pos (by decide +kernel)]; kernel_rfl) | (rw [if_neg (by decide +kernel)]; exact ⟨rfl, rfl⟩))
    (fun os started H enc _ => lifted os started H enc)

/-- ████ THE STATEMENT ████ -/
theorem proved : Rows.FnMemberNameReadsBuiltObjectSaid := over
end Go.Proofs.Qxb6600361a.fnMemberNameReadsBuiltObject

namespace Go.Proofs.Qxb6600361a
theorem fnMemberNameReadsBuiltObjectProved : Rows.FnMemberNameReadsBuiltObjectSaid := fnMemberNameReadsBuiltObject.proved
#print axioms fnMemberNameReadsBuiltObjectProved
end Go.Proofs.Qxb6600361a
