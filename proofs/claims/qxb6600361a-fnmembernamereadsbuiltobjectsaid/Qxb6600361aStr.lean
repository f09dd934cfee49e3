/-
  THE PLAIN MATHEMATICS OF WHITE SPACE, QUOTED STRINGS AND MEMBERS' NAMES, over lists of integers (bytes): no Go in sight.
-/
import Derived.Test.Qxb6600361aNum
namespace Go.Proofs.Qxb6600361a

def isS (c : Int) : Bool := c == 32 || c == 9 || c == 10 || c == 13
theorem isS_iff (c : Int) : isS c = true ↔ c = 32 ∨ c = 9 ∨ c = 10 ∨ c = 13 := by simp [isS, or_assoc]
theorem isS_false (c : Int) : isS c = false ↔ c ≠ 32 ∧ c ≠ 9 ∧ c ≠ 10 ∧ c ≠ 13 := by simp [isS, and_assoc]

def spaces : List Int → Nat
  | [] => 0
  | c :: l => if isS c then spaces l + 1 else 0

theorem spaces_le (l : List Int) : spaces l ≤ l.length := by
  induction l with
  | nil => simp [spaces]
  | cons c l ih => simp only [spaces, List.length_cons]; split <;> omega
theorem spaces_drop (l : List Int) : spaces (l.drop (spaces l)) = 0 := by
  induction l with
  | nil => rfl
  | cons c l ih =>
    by_cases hc : isS c = true
    · simp [spaces, hc]; exact ih
    · simp [spaces, hc]

def hexB (c : Int) : Bool := (decide (48 ≤ c) && decide (c ≤ 57)) || (decide (97 ≤ c) && decide (c ≤ 102)) || (decide (65 ≤ c) && decide (c ≤ 70))
theorem hexB_iff (c : Int) : hexB c = true ↔ (48 ≤ c ∧ c ≤ 57) ∨ (97 ≤ c ∧ c ≤ 102) ∨ (65 ≤ c ∧ c ≤ 70) := by simp [hexB, or_assoc]
theorem hexB_false (c : Int) : hexB c = false ↔ ¬ ((48 ≤ c ∧ c ≤ 57) ∨ (97 ≤ c ∧ c ≤ 102) ∨ (65 ≤ c ∧ c ≤ 70)) := by rw [← hexB_iff]; simp
def shortB (c : Int) : Bool := c == 34 || c == 92 || c == 47 || c == 98 || c == 102 || c == 110 || c == 114 || c == 116
theorem shortB_iff (c : Int) : shortB c = true ↔ c = 34 ∨ c = 92 ∨ c = 47 ∨ c = 98 ∨ c = 102 ∨ c = 110 ∨ c = 114 ∨ c = 116 := by simp [shortB, or_assoc]
theorem shortB_false (c : Int) : shortB c = false ↔ c ≠ 34 ∧ c ≠ 92 ∧ c ≠ 47 ∧ c ≠ 98 ∧ c ≠ 102 ∧ c ≠ 110 ∧ c ≠ 114 ∧ c ≠ 116 := by simp [shortB, and_assoc]

/-- k bytes more -/
def sh (k : Nat) (o : Option Nat) : Option Nat := o.map (· + k)
theorem sh_none (k : Nat) : sh k none = none := rfl
theorem sh_some (k n : Nat) : sh k (some n) = some (n + k) := rfl
theorem sh_zero (o : Option Nat) : sh 0 o = o := by cases o <;> rfl
theorem sh_sh (a b : Nat) (o : Option Nat) : sh a (sh b o) = sh (a + b) o := by cases o <;> simp [sh]; omega

/-- THE STRING's STATE MACHINE, behind the opening quote (escaped: a backslash stands before; need: so many hexadecimal digits are due): how many bytes up to the closing quote and with it, or none where no string stands. -/
def sm : Bool → Nat → List Int → Option Nat
  | _, _, [] => none
  | esc, need + 1, c :: l => if hexB c then sh 1 (sm esc need l) else none
  | true, 0, c :: l => if c = 117 then sh 1 (sm false 4 l) else if shortB c then sh 1 (sm false 0 l) else none
  | false, 0, c :: l => if c = 34 then some 1 else if c < 32 then none else sh 1 (sm (c == 92) 0 l)

theorem sm_nil (e : Bool) (n : Nat) : sm e n [] = none := by cases e <;> cases n <;> rfl
theorem sm_hex {c : Int} {l : List Int} {e : Bool} {n : Nat} (h : hexB c = true) : sm e (n + 1) (c :: l) = sh 1 (sm e n l) := by simp [sm, h]
theorem sm_nohex {c : Int} {l : List Int} {e : Bool} {n : Nat} (h : hexB c = false) : sm e (n + 1) (c :: l) = none := by simp [sm, h]
theorem sm_u {l : List Int} : sm true 0 (117 :: l) = sh 1 (sm false 4 l) := by simp [sm]
theorem sm_short {c : Int} {l : List Int} (h : shortB c = true) : sm true 0 (c :: l) = sh 1 (sm false 0 l) := by
  have : c ≠ 117 := by rw [shortB_iff] at h; omega
  simp [sm, h, this]
theorem sm_bad {c : Int} {l : List Int} (h : shortB c = false) (h' : c ≠ 117) : sm true 0 (c :: l) = none := by simp [sm, h, h']
theorem sm_quote {l : List Int} : sm false 0 (34 :: l) = some 1 := by simp [sm]
theorem sm_ctl {c : Int} {l : List Int} (h : c < 32) : sm false 0 (c :: l) = none := by
  have : c ≠ 34 := by omega
  simp [sm, this, h]
theorem sm_bs {l : List Int} : sm false 0 (92 :: l) = sh 1 (sm true 0 l) := by simp [sm]
theorem sm_plain {c : Int} {l : List Int} (h1 : ¬ c < 32) (h2 : c ≠ 34) (h3 : c ≠ 92) : sm false 0 (c :: l) = sh 1 (sm false 0 l) := by
  have : (c == 92) = false := by simpa using h3
  simp [sm, h1, h2, this]
theorem sm_few {l : List Int} {e : Bool} {n : Nat} (h : l.length < n) : sm e n l = none := by
  induction l generalizing n with
  | nil => exact sm_nil e n
  | cons c l ih =>
    cases n with
    | zero => simp at h
    | succ n =>
      by_cases hc : hexB c = true
      · rw [sm_hex hc, ih (by simpa using h)]; rfl
      · exact sm_nohex (by simpa using hc)
theorem sm_le {l : List Int} {e : Bool} {n k : Nat} (h : sm e n l = some k) : k ≤ l.length := by
  induction l generalizing e n k with
  | nil => rw [sm_nil] at h; cases h
  | cons c l ih =>
    have key : ∀ e' n', sh 1 (sm e' n' l) = some k → k ≤ (c :: l).length := by
      intro e' n' hk
      cases hs : sm e' n' l with
      | none => rw [hs] at hk; cases hk
      | some j => rw [hs, sh_some] at hk; have := ih hs; simp at hk ⊢; omega
    cases n with
    | succ n =>
      simp only [sm] at h
      split at h
      · exact key _ _ h
      · cases h
    | zero =>
      cases e with
      | true =>
        simp only [sm] at h
        split at h
        · exact key _ _ h
        · split at h
          · exact key _ _ h
          · cases h
      | false =>
        simp only [sm] at h
        split at h
        · simp at h ⊢; omega
        · split at h
          · cases h
          · exact key _ _ h

/-! ### the place between members -/
/-- from the name's opening quote on: its start, its end, where the reader ends, 1; or a refusal, 2 -/
def mem2 (zs : List Int) (p : Nat) : Nat × Nat × Nat × Nat :=
  if hd 34 (zs.drop p) then
    match sm false 0 (zs.drop (p + 1)) with
    | none => (0, 0, 0, 2)
    | some k => if hd 58 (zs.drop (p + 1 + k + spaces (zs.drop (p + 1 + k)))) then (p, p + 1 + k, p + 1 + k + spaces (zs.drop (p + 1 + k)) + 1, 1) else (0, 0, 0, 2)
  else (0, 0, 0, 2)

def mem (zs : List Int) (a : Nat) (i : Int) : Nat × Nat × Nat × Nat :=
  if hd 125 (zs.drop (a + spaces (zs.drop a))) then (0, 0, a + spaces (zs.drop a) + 1, 0)
  else if 0 < i then
    if hd 44 (zs.drop (a + spaces (zs.drop a))) then mem2 zs (a + spaces (zs.drop a) + 1 + spaces (zs.drop (a + spaces (zs.drop a) + 1))) else (0, 0, 0, 2)
  else mem2 zs (a + spaces (zs.drop a))
end Go.Proofs.Qxb6600361a
