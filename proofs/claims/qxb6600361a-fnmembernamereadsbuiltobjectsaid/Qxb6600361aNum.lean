/-
  THE PLAIN MATHEMATICS OF JSON NUMBERS, over lists of integers (bytes): no Go in sight.
  'num': what the splitter's skipNumber does; 'run': the automaton of the law's own model; they agree.
-/
namespace Go.Proofs.Qxb6600361a

def isD (c : Int) : Bool := decide (48 ≤ c) && decide (c ≤ 57)
theorem isD_iff (c : Int) : isD c = true ↔ 48 ≤ c ∧ c ≤ 57 := by simp [isD]
theorem isD_false (c : Int) : isD c = false ↔ ¬ (48 ≤ c ∧ c ≤ 57) := by rw [← isD_iff]; simp

/-- how many digits stand at the head -/
def digs : List Int → Nat
  | [] => 0
  | c :: l => if isD c then digs l + 1 else 0

theorem digs_le (l : List Int) : digs l ≤ l.length := by
  induction l with
  | nil => simp [digs]
  | cons c l ih => simp only [digs, List.length_cons]; split <;> omega

/-- does c stand at the head? -/
def hd (c : Int) : List Int → Bool
  | [] => false
  | x :: _ => x == c

theorem hd_ne_nil {c : Int} {l : List Int} (h : hd c l = true) : ∃ l', l = c :: l' := by
  cases l with
  | nil => simp [hd] at h
  | cons x l => simp [hd] at h; exact ⟨l, by rw [h]⟩

def adv (c : Int) (l : List Int) : Nat := if hd c l then 1 else 0
theorem adv_le (c : Int) (l : List Int) : adv c l ≤ l.length := by
  unfold adv; split
  · next h => obtain ⟨l', rfl⟩ := hd_ne_nil h; simp
  · omega

/-- the exponent -/
def expo (l : List Int) : Bool × Nat :=
  if hd 101 l || hd 69 l then
    let k := if hd 43 (l.drop 1) || hd 45 (l.drop 1) then 1 else 0
    (digs (l.drop (1 + k)) != 0, 1 + k + digs (l.drop (1 + k)))
  else (true, 0)

/-- the fraction and what follows -/
def frac (l : List Int) : Bool × Nat :=
  if hd 46 l then
    if digs (l.drop 1) = 0 then (false, 1)
    else ((expo (l.drop (1 + digs (l.drop 1)))).1, 1 + digs (l.drop 1) + (expo (l.drop (1 + digs (l.drop 1)))).2)
  else expo l

/-- the integer part and what follows -/
def intp (l : List Int) : Bool × Nat :=
  if hd 48 l then ((frac (l.drop 1)).1, 1 + (frac (l.drop 1)).2)
  else if digs l = 0 then (false, 0)
  else ((frac (l.drop (digs l))).1, digs l + (frac (l.drop (digs l))).2)

/-- the whole number -/
def num (l : List Int) : Bool × Nat :=
  if hd 45 l then ((intp (l.drop 1)).1, 1 + (intp (l.drop 1)).2) else intp l

/-! ### the law's automaton -/
def step (s c : Int) : Int :=
  if s = 0 then (if c = 45 then 1 else if c = 48 then 2 else if isD c then 3 else -1)
  else if s = 1 then (if c = 48 then 2 else if isD c then 3 else -1)
  else if s = 2 then (if c = 46 then 4 else if c = 101 ∨ c = 69 then 6 else -1)
  else if s = 3 then (if isD c then 3 else if c = 46 then 4 else if c = 101 ∨ c = 69 then 6 else -1)
  else if s = 4 then (if isD c then 5 else -1)
  else if s = 5 then (if isD c then 5 else if c = 101 ∨ c = 69 then 6 else -1)
  else if s = 6 then (if c = 43 ∨ c = 45 then 7 else if isD c then 8 else -1)
  else if s = 7 ∨ s = 8 then (if isD c then 8 else -1)
  else -1

def accB (s : Int) : Bool := decide (s = 2) || decide (s = 3) || decide (s = 5) || decide (s = 8)

def run : Int → List Int → Nat × Int
  | s, [] => (0, s)
  | s, c :: l => if step s c < 0 then (0, s) else ((run (step s c) l).1 + 1, (run (step s c) l).2)

def runs (s : Int) (l : List Int) : Bool × Nat := (accB (run s l).2, (run s l).1)

theorem runs_nil (s : Int) : runs s [] = (accB s, 0) := rfl
theorem runs_stop {s c : Int} (l : List Int) (h : step s c < 0) : runs s (c :: l) = (accB s, 0) := by simp [runs, run, h]
theorem runs_go {s c : Int} (l : List Int) (h : ¬ step s c < 0) : runs s (c :: l) = ((runs (step s c) l).1, (runs (step s c) l).2 + 1) := by simp [runs, run, h]

/-- the digits of state s that stays at s -/
theorem runs_digs {s : Int} (hs : s = 3 ∨ s = 5 ∨ s = 8) (l : List Int) : runs s l = ((runs s (l.drop (digs l))).1, digs l + (runs s (l.drop (digs l))).2) := by
  induction l with
  | nil => simp [digs]
  | cons c l ih =>
    by_cases hc : isD c = true
    · have h1 : step s c = s := by rcases hs with rfl | rfl | rfl <;> simp [step, hc]
      rw [runs_go l (by rw [h1]; rcases hs with rfl | rfl | rfl <;> decide), h1, ih]
      simp [digs, hc]; omega
    · simp [digs, hc]

/-- behind its digits no digit stands -/
theorem digs_drop (l : List Int) : digs (l.drop (digs l)) = 0 := by
  induction l with
  | nil => rfl
  | cons c l ih =>
    by_cases hc : isD c = true
    · simp [digs, hc]; exact ih
    · simp [digs, hc]
theorem hd_digs {l : List Int} {c : Int} (h : digs l = 0) (hc : isD c = true) : hd c l = false := by
  cases l with
  | nil => rfl
  | cons x l =>
    simp only [hd]; by_cases hx : x = c
    · subst hx; simp [digs, hc] at h
    · simpa using hx

theorem runs8 (l : List Int) : runs 8 l = (true, digs l) := by
  rw [runs_digs (by simp)]
  cases h : l.drop (digs l) with
  | nil => simp [runs_nil, accB]
  | cons c r =>
    have hd0 := digs_drop l
    rw [h] at hd0
    have hc : isD c = false := by by_cases hc : isD c = true; · simp [digs, hc] at hd0
                                  · simpa using hc
    rw [runs_stop r (by simp [step, hc])]; simp [accB]

theorem runs7 (l : List Int) : runs 7 l = (digs l != 0, digs l) := by
  cases l with
  | nil => rfl
  | cons c l =>
    by_cases hc : isD c = true
    · have h1 : step 7 c = 8 := by simp [step, hc]
      rw [runs_go l (by rw [h1]; decide), h1, runs8]; simp [digs, hc]
    · rw [runs_stop l (by simp [step, hc])]; simp [digs, hc, accB]

theorem runs6 (l : List Int) : runs 6 l = (digs (l.drop (if hd 43 l || hd 45 l then 1 else 0)) != 0, (if hd 43 l || hd 45 l then 1 else 0) + digs (l.drop (if hd 43 l || hd 45 l then 1 else 0))) := by
  cases l with
  | nil => rfl
  | cons c l =>
    by_cases h : c = 43 ∨ c = 45
    · have h1 : step 6 c = 7 := by simp [step, h]
      have h2 : (hd 43 (c :: l) || hd 45 (c :: l)) = true := by rcases h with rfl | rfl <;> simp [hd]
      rw [runs_go l (by rw [h1]; decide), h1, runs7, h2]; simp; omega
    · have h2 : (hd 43 (c :: l) || hd 45 (c :: l)) = false := by simp [hd]; omega
      rw [h2]
      by_cases hc : isD c = true
      · have h1 : step 6 c = 8 := by simp [step, h, hc]
        rw [runs_go l (by rw [h1]; decide), h1, runs8]; simp [digs, hc]
      · rw [runs_stop l (by simp [step, h, hc])]; simp [digs, hc, accB]

/-- the exponent, from a state that takes it and is whole -/
theorem runs_expo {s : Int} {l : List Int} (hacc : accB s = true) (hs : ∀ c r, l = c :: r → step s c = if c = 101 ∨ c = 69 then 6 else -1) : runs s l = expo l := by
  cases l with
  | nil => simp [runs_nil, hacc, expo, hd]
  | cons c l =>
    have h1 := hs c l rfl
    by_cases h : c = 101 ∨ c = 69
    · rw [if_pos h] at h1
      have h2 : (hd 101 (c :: l) || hd 69 (c :: l)) = true := by rcases h with rfl | rfl <;> simp [hd]
      rw [runs_go l (by rw [h1]; decide), h1, runs6, expo, if_pos h2]
      simp only [List.drop_succ_cons, List.drop_zero, Nat.add_comm 1]
      simp; omega
    · rw [if_neg h] at h1
      have h2 : (hd 101 (c :: l) || hd 69 (c :: l)) = false := by simp [hd]; omega
      rw [runs_stop l (by rw [h1]; decide), expo, h2]; simp [hacc]

theorem runs5 (l : List Int) : runs 5 l = ((expo (l.drop (digs l))).1, digs l + (expo (l.drop (digs l))).2) := by
  rw [runs_digs (by simp), runs_expo (by rfl)]
  intro c r h
  have hd0 := digs_drop l
  rw [h] at hd0
  have hc : isD c = false := by
    by_cases hc : isD c = true
    · simp [digs, hc] at hd0
    · simpa using hc
  simp [step, hc]

theorem runs4 (l : List Int) : runs 4 l = if digs l = 0 then (false, 0) else ((expo (l.drop (digs l))).1, digs l + (expo (l.drop (digs l))).2) := by
  cases l with
  | nil => rfl
  | cons c l =>
    by_cases hc : isD c = true
    · have h1 : step 4 c = 5 := by simp [step, hc]
      rw [runs_go l (by rw [h1]; decide), h1, runs5]; simp [digs, hc]; omega
    · rw [runs_stop l (by simp [step, hc])]; simp [digs, hc, accB]

/-- the fraction, from a state that takes it and is whole -/
theorem runs_frac {s : Int} {l : List Int} (hacc : accB s = true) (hs : ∀ c r, l = c :: r → step s c = if c = 46 then 4 else if c = 101 ∨ c = 69 then 6 else -1) : runs s l = frac l := by
  cases l with
  | nil => simp [runs_nil, hacc, frac, expo, hd]
  | cons c l =>
    have h1 := hs c l rfl
    by_cases h : c = 46
    · subst h
      rw [if_pos rfl] at h1
      have h2 : hd 46 (46 :: l) = true := by simp [hd]
      rw [runs_go l (by rw [h1]; decide), h1, runs4, frac, if_pos h2]
      simp only [List.drop_succ_cons, List.drop_zero, Nat.add_comm 1]
      split <;> simp; omega
    · rw [if_neg h] at h1
      have h2 : hd 46 (c :: l) = false := by simp [hd, h]
      rw [frac, h2]; simp only [Bool.false_eq_true, if_false]
      exact runs_expo hacc fun c' r e => by obtain ⟨rfl, rfl⟩ := List.cons.inj e; exact h1

theorem runs3 (l : List Int) : runs 3 l = ((frac (l.drop (digs l))).1, digs l + (frac (l.drop (digs l))).2) := by
  rw [runs_digs (by simp), runs_frac (by rfl)]
  intro c r h
  have hd0 := digs_drop l
  rw [h] at hd0
  have hc : isD c = false := by
    by_cases hc : isD c = true
    · simp [digs, hc] at hd0
    · simpa using hc
  simp [step, hc]

theorem runs2 (l : List Int) : runs 2 l = frac l := runs_frac (by rfl) fun c r _ => by simp [step]

theorem runs_int {s : Int} {l : List Int} (hacc : accB s = false) (hs : ∀ c r, l = c :: r → step s c = if c = 48 then 2 else if isD c then 3 else -1) : runs s l = intp l := by
  cases l with
  | nil => simp [runs_nil, hacc, intp, hd, digs]
  | cons c l =>
    have h1 := hs c l rfl
    by_cases h : c = 48
    · subst h
      rw [if_pos rfl] at h1
      rw [runs_go l (by rw [h1]; decide), h1, runs2, intp, if_pos (by simp [hd])]; simp; omega
    · rw [if_neg h] at h1
      rw [intp, if_neg (by simp [hd, h])]
      by_cases hc : isD c = true
      · rw [if_pos hc] at h1
        rw [runs_go l (by rw [h1]; decide), h1, runs3]; simp [digs, hc]; omega
      · rw [if_neg hc] at h1
        rw [runs_stop l (by rw [h1]; decide)]; simp [digs, hc, hacc]

/-- THE PLAIN LAW: the splitter's reading is the automaton's. -/
theorem num_runs (l : List Int) : runs 0 l = num l := by
  by_cases h : hd 45 l = true
  · obtain ⟨l', rfl⟩ := hd_ne_nil h
    have h1 : step 0 45 = 1 := by rfl
    rw [runs_go l' (by rw [h1]; decide), h1, num, if_pos h, runs_int (by rfl) fun c r _ => by simp [step]]
    simp; omega
  · rw [num, if_neg h]
    exact runs_int (by rfl) fun c r e => by subst e; have : c ≠ 45 := by simpa [hd] using h
                                            simp [step, this]

theorem expo_le (l : List Int) : (expo l).2 ≤ l.length := by
  unfold expo
  split
  · next h =>
    have h0 : 1 ≤ l.length := by
      cases l with
      | nil => simp [hd] at h
      | cons => simp
    split
    · next h2 =>
      have h1 : 2 ≤ l.length := by
        match l, h2 with
        | [], h2 => simp [hd] at h2
        | [_], h2 => simp [hd] at h2
        | _ :: _ :: _, _ => simp
      have := digs_le (l.drop 2); simp at this ⊢; omega
    · have := digs_le (l.drop 1); simp at this ⊢; omega
  · simp
theorem frac_le (l : List Int) : (frac l).2 ≤ l.length := by
  unfold frac
  split
  · next h =>
    obtain ⟨l', rfl⟩ := hd_ne_nil h
    split
    · simp
    · have := expo_le ((46 :: l').drop (1 + digs ((46 :: l').drop 1)))
      have := digs_le l'
      simp at *; omega
  · exact expo_le l
theorem intp_le (l : List Int) : (intp l).2 ≤ l.length := by
  unfold intp
  split
  · next h =>
    obtain ⟨l', rfl⟩ := hd_ne_nil h
    have := frac_le l'; simp; omega
  · split
    · simp
    · have := frac_le (l.drop (digs l)); have := digs_le l; simp at *; omega
theorem num_le (l : List Int) : (num l).2 ≤ l.length := by
  unfold num
  split
  · next h =>
    obtain ⟨l', rfl⟩ := hd_ne_nil h
    have := intp_le l'; simp; omega
  · exact intp_le l

#print axioms num_runs
end Go.Proofs.Qxb6600361a
