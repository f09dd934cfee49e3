/-
  A NUMBER THAT WAS WRITTEN BY JSON's GRAMMAR IS READ WHOLE: no Go in sight.
-/
import Derived.Test.Qxb6600361aNum
namespace Go.Proofs.Qxb6600361a

def AllD (l : List Int) : Prop := ∀ c ∈ l, isD c = true
/-- the number's part b, and whatever goes on behind it but with a digit: the reading goes on by F -/
def Ii (b : List Int) : Prop := ∀ r, digs r = 0 → num (b ++ r) = ((frac r).1, b.length + (frac r).2)
def Ff (b : List Int) : Prop := ∀ r, digs r = 0 → hd 46 r = false → num (b ++ r) = ((expo r).1, b.length + (expo r).2)
def Ee (b : List Int) : Prop := ∀ r, digs r = 0 → hd 46 r = false → hd 101 r = false → hd 69 r = false → num (b ++ r) = (true, b.length)
/-- an integer part: one 0, or digits that begin with no 0 -/
def IntOK (ds : List Int) : Prop := ds ≠ [] ∧ AllD ds ∧ (ds = [48] ∨ hd 48 ds = false)
def Lead (ds : List Int) : Prop := ds ≠ [] ∧ AllD ds ∧ hd 48 ds = false

theorem digs_append {ds : List Int} (h : AllD ds) (r : List Int) : digs (ds ++ r) = ds.length + digs r := by
  induction ds with
  | nil => simp
  | cons c l ih =>
    have hc := h c (by simp)
    simp only [List.cons_append, digs, hc, if_true, List.length_cons]
    rw [ih fun x hx => h x (by simp [hx])]; omega

theorem hd_append {ds : List Int} (h : ds ≠ []) (c : Int) (r : List Int) : hd c (ds ++ r) = hd c ds := by
  cases ds with
  | nil => exact absurd rfl h
  | cons x l => rfl

theorem Lead.snoc {ds : List Int} (h : Lead ds) {c : Int} (hc : isD c = true) : Lead (ds ++ [c]) := by
  obtain ⟨h1, h2, h3⟩ := h
  refine ⟨by simp, ?_, by rw [hd_append h1]; exact h3⟩
  intro x hx
  rcases List.mem_append.1 hx with hx | hx
  · exact h2 x hx
  · simp at hx; rw [hx]; exact hc
theorem Lead.ok {ds : List Int} (h : Lead ds) : IntOK ds := ⟨h.1, h.2.1, .inr h.2.2⟩
theorem AllD.snoc {ds : List Int} (h : AllD ds) {c : Int} (hc : isD c = true) : AllD (ds ++ [c]) := by
  intro x hx
  rcases List.mem_append.1 hx with hx | hx
  · exact h x hx
  · simp at hx; rw [hx]; exact hc
theorem AllD.append {ds es : List Int} (h : AllD ds) (k : AllD es) : AllD (ds ++ es) := by
  intro x hx
  rcases List.mem_append.1 hx with hx | hx
  · exact h x hx
  · exact k x hx

theorem intp_of {ds : List Int} (h : IntOK ds) (r : List Int) (hr : digs r = 0) : intp (ds ++ r) = ((frac r).1, ds.length + (frac r).2) := by
  obtain ⟨h1, h2, h3⟩ := h
  unfold intp
  rcases h3 with rfl | h3
  · simp [hd]
  · rw [hd_append h1, h3, digs_append h2, hr]
    have : ds.length ≠ 0 := by simpa using h1
    simp [this]

theorem Ii_of {sg ds : List Int} (hs : sg = [] ∨ sg = [45]) (h : IntOK ds) : Ii (sg ++ ds) := by
  intro r hr
  unfold num
  rcases hs with rfl | rfl
  · have : hd 45 ([] ++ ds ++ r) = false := by
      have h1 := h.1; have h2 := h.2.1
      rw [List.nil_append, hd_append h1]
      cases ds with
      | nil => exact absurd rfl h1
      | cons c l =>
        have := h2 c (by simp)
        rw [isD_iff] at this
        simp only [hd, beq_eq_false_iff_ne, ne_eq]; omega
    rw [this]
    simpa using intp_of h r hr
  · have e : hd 45 ([45] ++ ds ++ r) = true := by simp [hd]
    rw [if_pos e]
    have := intp_of h r hr
    simp [this]; omega

theorem Ii.noFrac {b : List Int} (h : Ii b) : Ff b := by
  intro r hr h46
  rw [h r hr, frac, h46]; rfl

theorem Ii.frac {b fs : List Int} (h : Ii b) (hf : AllD fs) (hn : fs ≠ []) : Ff (b ++ 46 :: fs) := by
  intro r hr h46
  have e : hd 46 (46 :: (fs ++ r)) = true := by simp [hd]
  have h0 : digs (46 :: (fs ++ r)) = 0 := by simp [digs, isD]
  have := h (46 :: (fs ++ r)) h0
  rw [show b ++ 46 :: fs ++ r = b ++ 46 :: (fs ++ r) by simp, this]
  unfold Qxb6600361a.frac
  have hl : fs.length ≠ 0 := by simpa using hn
  rw [if_pos e]
  simp only [List.drop_succ_cons, List.drop_zero, digs_append hf, hr, Nat.add_zero, if_neg hl, Nat.add_comm 1, List.length_append, List.length_cons, List.drop_left]
  simp only [Prod.mk.injEq, true_and]; omega

theorem Ff.noExp {b : List Int} (h : Ff b) : Ee b := by
  intro r hr h46 h1 h2
  rw [h r hr h46, expo, h1, h2]; rfl

theorem Ff.exp {b sg es : List Int} {c : Int} (h : Ff b) (hc : c = 101 ∨ c = 69) (hs : sg = [] ∨ sg = [43] ∨ sg = [45]) (he : AllD es) (hn : es ≠ []) : Ee (b ++ c :: (sg ++ es)) := by
  intro r hr h46 h1 h2
  have h0 : digs (c :: (sg ++ es ++ r)) = 0 := by rcases hc with rfl | rfl <;> simp [digs, isD]
  have hp : hd 46 (c :: (sg ++ es ++ r)) = false := by rcases hc with rfl | rfl <;> simp [hd]
  have := h (c :: (sg ++ es ++ r)) h0 hp
  rw [show b ++ c :: (sg ++ es) ++ r = b ++ c :: (sg ++ es ++ r) by simp, this]
  have e : (hd 101 (c :: (sg ++ es ++ r)) || hd 69 (c :: (sg ++ es ++ r))) = true := by rcases hc with rfl | rfl <;> simp [hd]
  unfold expo
  rw [if_pos e]
  have hl : es.length ≠ 0 := by simpa using hn
  rcases hs with rfl | rfl | rfl
  · have hx : (hd 43 (es ++ r) || hd 45 (es ++ r)) = false := by
      rw [hd_append hn, hd_append hn]
      cases es with
      | nil => exact absurd rfl hn
      | cons x l =>
        have := he x (by simp)
        rw [isD_iff] at this
        simp only [hd, Bool.or_eq_false_iff, beq_eq_false_iff_ne, ne_eq]; omega
    simp [hx, digs_append he, hr, hl]; omega
  · simp [hd, digs_append he, hr, hl]; omega
  · simp [hd, digs_append he, hr, hl]; omega

/-- THE END: the number, the byte behind it -/
theorem Ee.reads {b : List Int} (h : Ee b) {t : Int} (h1 : ¬ (48 ≤ t ∧ t ≤ 57)) (h2 : t ≠ 46) (h3 : t ≠ 101) (h4 : t ≠ 69) : num (b ++ [t]) = (true, b.length) :=
  h [t] (by simp [digs, (isD_false t).2 h1]) (by simpa [hd] using h2) (by simpa [hd] using h3) (by simpa [hd] using h4)
end Go.Proofs.Qxb6600361a
