/-
  THE PROOF OF 'Rows.FnSkipNumberReadsWholeBuiltNumberSaid': the shell's frame (by program), the walk out of Qxb6600361aWkE.
-/
import Derived.Test.Qxb6600361aRows
import Derived.Test.Qxb6600361aWkE
import Derived.WalkKit
import Derived.ProofKit
import Derived.OpenShut
import Derived.ShutString
import Derived.ChangeOld
import Derived.Below
namespace Go.Proofs.Qxb6600361a.fnSkipNumberReadsWholeBuiltNumber
open Go.ChangeShapes Go.WideShapes Go.ChangeAt Go.RowKit
open Go.ChangeMaps (open_string shut_string)
set_option linter.unusedVariables false      -- a walk need not use every 'w<i>' (that an integer argument fits its kind)

theorem own : ownKnob Try.prog.godebug = none := by kernel_rfl

/-! ### STEP 1: THE WALK: the Go text returns true and writes nothing that was there -/
set_option maxRecDepth 20000 in
set_option maxHeartbeats 1000000 in
theorem walk_tail (a0 : Bool) (a1 : Int) (a2 : Int) (a3 : Bool) (a4 : Int) (a5 : Int) (a6 : Bool) (a7 : Bool) (a8 : Int) (a9 : Int) (a10 : Int) (a11 : Int) (l2 : 0 ≤ a2) (m2 : a2 ≤ 65535) (l4 : 0 ≤ a4) (m4 : a4 ≤ 65535) (l9 : 0 ≤ a9) (m9 : a9 ≤ 65535) (l11 : 0 ≤ a11) (m11 : a11 ≤ 255)
    (t : (48 ≤ a11 ∧ a11 ≤ 57) ∨ a11 = 46 ∨ a11 = 101 ∨ a11 = 69) (w : World) :
    Calls Try.prog 6 #[.bool a0, .int .u64 a1, .int .u16 a2, .bool a3, .int .u16 a4, .int .u64 a5, .bool a6, .bool a7, .int .u8 a8, .int .u16 a9, .int .u64 a10, .int .u8 a11] w fun e w' => e = .returned (.bool true) ∧ Below w.heap.size w w' := by
  rcases t with ⟨t1, t2⟩ | rfl | rfl | rfl
  all_goals
    go_enter Try.func6, Try.ntmps6
    go_wp2
    go_ret
    exact ⟨rfl, Below.refl _ _⟩

theorem walk (a0 : Bool) (a1 : Int) (a2 : Int) (a3 : Bool) (a4 : Int) (a5 : Int) (a6 : Bool) (a7 : Bool) (a8 : Int) (a9 : Int) (a10 : Int) (a11 : Int) (w1 : (Lit.int .u64 a1).wf = true) (w2 : (Lit.int .u16 a2).wf = true) (w4 : (Lit.int .u16 a4).wf = true) (w5 : (Lit.int .u64 a5).wf = true) (w8 : (Lit.int .u8 a8).wf = true) (w9 : (Lit.int .u16 a9).wf = true) (w10 : (Lit.int .u64 a10).wf = true) (w11 : (Lit.int .u8 a11).wf = true) (w : World) :
    Calls Try.prog 6 #[.bool a0, .int .u64 a1, .int .u16 a2, .bool a3, .int .u16 a4, .int .u64 a5, .bool a6, .bool a7, .int .u8 a8, .int .u16 a9, .int .u64 a10, .int .u8 a11] w fun e w' => e = .returned (.bool true) ∧ Below w.heap.size w w' := by
  obtain ⟨l1, m1⟩ := bounds_u64 w1
  obtain ⟨l2, m2⟩ := bounds_u16 w2
  obtain ⟨l4, m4⟩ := bounds_u16 w4
  obtain ⟨l5, m5⟩ := bounds_u64 w5
  obtain ⟨l8, m8⟩ := bounds_u8 w8
  obtain ⟨l9, m9⟩ := bounds_u16 w9
  obtain ⟨l10, m10⟩ := bounds_u64 w10
  obtain ⟨l11, m11⟩ := bounds_u8 w11
  by_cases t : (48 ≤ a11 ∧ a11 ≤ 57) ∨ a11 = 46 ∨ a11 = 101 ∨ a11 = 69
  · exact walk_tail a0 a1 a2 a3 a4 a5 a6 a7 a8 a9 a10 a11 l2 m2 l4 m4 l9 m9 l11 m11 t w
  · exact walk6_go a0 a1 a2 a3 a4 a5 a6 a7 a8 a9 a10 a11 l1 (by omega) l2 m2 l4 m4 l5 (by omega) l8 m8 l9 m9 l10 (by omega) l11 m11 (by omega) (by omega) (by omega) (by omega) w

/-! ### THE ROW's STEP: WRITTEN OUT: LEAVE IT -/
set_option maxRecDepth 100000 in
theorem lifted (os : Os) (started : os.Started) (H : Type) (enc : TypeId × Value → H) :
    ReturnsInHanded {} Try.checked os 6 .any (Rows.fnSkipNumberReadsWholeBuiltNumberSpec.pre6 enc Try.prog Try.f6 Rows.fnSkipNumberReadsWholeBuiltNumberRow.domain false) (Rows.fnSkipNumberReadsWholeBuiltNumberSpec.post enc Try.prog Try.f6 false true false false) := by
  refine returnsInHanded_of_change (C := Try.checked) own started (by kernel_rfl) Try.func6
    (ChangeSpec.witness6 (enc := enc) (C := Try.checked) false ⟨#[], #[.bool false, .int .u64 0, .int .u16 0, .bool false, .int .u16 0, .int .u64 0, .bool false, .bool false, .int .u8 0, .int .u16 0, .int .u64 0, .int .u8 0], []⟩ 8 (by kernel_rfl) (by kernel_rfl) (by kernel_rfl) (by kernel_rfl)) ?_
  intro W base args ds gs before hval0 hW hcnd _
  have hval : ∀ (j : Nat) t v, Try.f6.params[j]? = some t → args[j]? = some v → Value.okWide Try.prog W .any base t v := hval0
  have hW' := hW
  obtain ⟨p, q, hA0, hV, rfl, hfz, hnd⟩ := hW
  have hA : DataW.TrodAll enc Try.prog W 0 (fun _ => true) true Try.f6.params.toList args.toList ds p := hA0
  rw [Try.params6] at hA hval
  obtain ⟨v0, vs0, d0, ds0, p0, q0, hargs, rfl, rfl, h0, r0⟩ := trodAll_cons hA
  obtain ⟨v1, vs1, d1, ds1, p1, q1, rfl, rfl, rfl, h1, r1⟩ := trodAll_cons r0
  obtain ⟨v2, vs2, d2, ds2, p2, q2, rfl, rfl, rfl, h2, r2⟩ := trodAll_cons r1
  obtain ⟨v3, vs3, d3, ds3, p3, q3, rfl, rfl, rfl, h3, r3⟩ := trodAll_cons r2
  obtain ⟨v4, vs4, d4, ds4, p4, q4, rfl, rfl, rfl, h4, r4⟩ := trodAll_cons r3
  obtain ⟨v5, vs5, d5, ds5, p5, q5, rfl, rfl, rfl, h5, r5⟩ := trodAll_cons r4
  obtain ⟨v6, vs6, d6, ds6, p6, q6, rfl, rfl, rfl, h6, r6⟩ := trodAll_cons r5
  obtain ⟨v7, vs7, d7, ds7, p7, q7, rfl, rfl, rfl, h7, r7⟩ := trodAll_cons r6
  obtain ⟨v8, vs8, d8, ds8, p8, q8, rfl, rfl, rfl, h8, r8⟩ := trodAll_cons r7
  obtain ⟨v9, vs9, d9, ds9, p9, q9, rfl, rfl, rfl, h9, r9⟩ := trodAll_cons r8
  obtain ⟨v10, vs10, d10, ds10, p10, q10, rfl, rfl, rfl, h10, r10⟩ := trodAll_cons r9
  obtain ⟨v11, vs11, d11, ds11, p11, q11, rfl, rfl, rfl, h11, r11⟩ := trodAll_cons r10
  obtain ⟨rfl, rfl, rfl⟩ := trodAll_nil r11
  obtain rfl : args = #[v0, v1, v2, v3, v4, v5, v6, v7, v8, v9, v10, v11] := by cases args; simp_all
  obtain ⟨rfl, rfl⟩ := trodVars_none hV
  obtain ⟨a0, rfl, rfl, rfl⟩ := open_bool Try.underlying4 (hval 0 4 v0 rfl rfl) h0
  obtain ⟨a1, rfl, rfl, rfl, w1⟩ := open_int Try.underlying40 (hval 1 40 v1 rfl rfl) h1
  obtain ⟨a2, rfl, rfl, rfl, w2⟩ := open_int Try.underlying41 (hval 2 41 v2 rfl rfl) h2
  obtain ⟨a3, rfl, rfl, rfl⟩ := open_bool Try.underlying4 (hval 3 4 v3 rfl rfl) h3
  obtain ⟨a4, rfl, rfl, rfl, w4⟩ := open_int Try.underlying41 (hval 4 41 v4 rfl rfl) h4
  obtain ⟨a5, rfl, rfl, rfl, w5⟩ := open_int Try.underlying40 (hval 5 40 v5 rfl rfl) h5
  obtain ⟨a6, rfl, rfl, rfl⟩ := open_bool Try.underlying4 (hval 6 4 v6 rfl rfl) h6
  obtain ⟨a7, rfl, rfl, rfl⟩ := open_bool Try.underlying4 (hval 7 4 v7 rfl rfl) h7
  obtain ⟨a8, rfl, rfl, rfl, w8⟩ := open_int Try.underlying5 (hval 8 5 v8 rfl rfl) h8
  obtain ⟨a9, rfl, rfl, rfl, w9⟩ := open_int Try.underlying41 (hval 9 41 v9 rfl rfl) h9
  obtain ⟨a10, rfl, rfl, rfl, w10⟩ := open_int Try.underlying40 (hval 10 40 v10 rfl rfl) h10
  obtain ⟨a11, rfl, rfl, rfl, w11⟩ := open_int Try.underlying5 (hval 11 5 v11 rfl rfl) h11
  clear hA0 hval0
  simp only [List.append_nil] at hW'
  refine (walk a0 a1 a2 a3 a4 a5 a6 a7 a8 a9 a10 a11 w1 w2 w4 w5 w8 w9 w10 w11 W).mono fun e W' ⟨he, bel⟩ => ?_
  subst he
  exact ⟨_, rfl, _, _, _, [], [], [], hW', trodAll_mk1 (shut_bool Try.underlying4 _), (trodAll_cons_mk (shut_bool Try.underlying4 _) (trodAll_cons_mk (shut_int Try.underlying40 w1) (trodAll_cons_mk (shut_int Try.underlying41 w2) (trodAll_cons_mk (shut_bool Try.underlying4 _) (trodAll_cons_mk (shut_int Try.underlying41 w4) (trodAll_cons_mk (shut_int Try.underlying40 w5) (trodAll_cons_mk (shut_bool Try.underlying4 _) (trodAll_cons_mk (shut_bool Try.underlying4 _) (trodAll_cons_mk (shut_int Try.underlying5 w8) (trodAll_cons_mk (shut_int Try.underlying41 w9) (trodAll_cons_mk (shut_int Try.underlying40 w10) (trodAll_cons_mk (shut_int Try.underlying5 w11) trodAll_mk0)))))))))))), rfl, bel.frame _, fun h => by cases h⟩

theorem over : Rows.fnSkipNumberReadsWholeBuiltNumberRow.holds Try.pinned (OpenSpec.ofChange Rows.fnSkipNumberReadsWholeBuiltNumberSpec) :=
  OpenClaim.holds_of_wide 6 Try.f6 rfl rfl rfl rfl rfl rfl rfl ⟨rfl, rfl, rfl, rfl, rfl⟩ rfl rfl rfl rfl rfl (by kernel_rfl) Try.func6 (by kernel_rfl)
    (of_decide_eq_true (by kernel_rfl)) (by unfold Func.isWrapper; first | (rw [if_pos (by decide +kernel)]; kernel_rfl) | (rw [if_neg (by decide +kernel)]; exact ⟨rfl, rfl⟩))
    (fun os started H enc _ => lifted os started H enc)

/-- ████ THE STATEMENT ████ -/
theorem proved : Rows.FnSkipNumberReadsWholeBuiltNumberSaid :=
  over
end Go.Proofs.Qxb6600361a.fnSkipNumberReadsWholeBuiltNumber

namespace Go.Proofs.Qxb6600361a
theorem fnSkipNumberReadsWholeBuiltNumberProved : Rows.FnSkipNumberReadsWholeBuiltNumberSaid := fnSkipNumberReadsWholeBuiltNumber.proved
#print axioms fnSkipNumberReadsWholeBuiltNumberProved
end Go.Proofs.Qxb6600361a
