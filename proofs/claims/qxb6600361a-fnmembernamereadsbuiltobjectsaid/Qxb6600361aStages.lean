/-
  THE STAGES OF skipNumber, in the words of its callees' contracts: no Go in sight.
-/
import Derived.Test.Qxb6600361aNum
namespace Go.Proofs.Qxb6600361a

/-- accepts(c) at p answered r and stands at q -/
def Acc (zs : List Int) (c : Int) (p : Nat) (r : Bool) (q : Nat) : Prop := r = hd c (zs.drop p) ∧ q = p + adv c (zs.drop p)
/-- skipDigits at p answered n and stands at q -/
def Dig (zs : List Int) (p n q : Nat) : Prop := n = digs (zs.drop p) ∧ q = p + n
/-- the number that began at p goes on at q by F -/
def Stage (zs : List Int) (p : Nat) (F : List Int → Bool × Nat) (q : Nat) : Prop :=
  (num (zs.drop p)).1 = (F (zs.drop q)).1 ∧ p + (num (zs.drop p)).2 = q + (F (zs.drop q)).2
/-- the number that began at p has ended at q with the answer r -/
def Fin (zs : List Int) (p : Nat) (r : Bool) (q : Nat) : Prop := (num (zs.drop p)).1 = r ∧ p + (num (zs.drop p)).2 = q

theorem Acc.yes {zs : List Int} {c : Int} {p q : Nat} (h : Acc zs c p true q) : hd c (zs.drop p) = true ∧ q = p + 1 := by
  obtain ⟨h1, h2⟩ := h; refine ⟨h1.symm, ?_⟩; rw [h2, adv, ← h1]; rfl
theorem Acc.no {zs : List Int} {c : Int} {p q : Nat} (h : Acc zs c p false q) : hd c (zs.drop p) = false ∧ q = p := by
  obtain ⟨h1, h2⟩ := h; refine ⟨h1.symm, ?_⟩; rw [h2, adv, ← h1]; rfl

theorem stage_int {zs : List Int} {p q : Nat} {r : Bool} (h : Acc zs 45 p r q) : Stage zs p intp q := by
  unfold Stage num
  cases r with
  | true => obtain ⟨h1, rfl⟩ := h.yes; rw [if_pos h1]; simp [List.drop_drop]; omega
  | false => obtain ⟨h1, rfl⟩ := h.no; simp [h1]

theorem stage_zero {zs : List Int} {p q q' : Nat} (s : Stage zs p intp q) (h : Acc zs 48 q true q') : Stage zs p frac q' := by
  obtain ⟨h1, rfl⟩ := h.yes
  unfold Stage at *
  rw [s.1, s.2]
  unfold intp
  simp [h1, List.drop_drop]; omega

theorem stage_digs {zs : List Int} {p q q' q'' n : Nat} (s : Stage zs p intp q) (h : Acc zs 48 q false q') (d : Dig zs q' n q'') (hn : n ≠ 0) : Stage zs p frac q'' := by
  obtain ⟨h1, rfl⟩ := h.no
  obtain ⟨rfl, rfl⟩ := d
  unfold Stage at *
  rw [s.1, s.2]
  unfold intp
  simp [h1, hn, List.drop_drop]; omega

theorem fin_digs {zs : List Int} {p q q' q'' n : Nat} (s : Stage zs p intp q) (h : Acc zs 48 q false q') (d : Dig zs q' n q'') (hn : n = 0) : Fin zs p false q'' := by
  obtain ⟨h1, rfl⟩ := h.no
  obtain ⟨e, rfl⟩ := d
  subst hn
  unfold Stage Fin at *
  rw [s.1, s.2]
  unfold intp
  simp [h1, ← e]

theorem stage_frac {zs : List Int} {p q q' q'' n : Nat} (s : Stage zs p frac q) (h : Acc zs 46 q true q') (d : Dig zs q' n q'') (hn : n ≠ 0) : Stage zs p expo q'' := by
  obtain ⟨h1, rfl⟩ := h.yes
  obtain ⟨rfl, rfl⟩ := d
  unfold Stage at *
  rw [s.1, s.2]
  unfold frac
  rw [if_pos h1]
  simp only [List.drop_drop]
  rw [if_neg hn]
  simp only [Nat.add_assoc, and_self]

theorem fin_frac {zs : List Int} {p q q' q'' n : Nat} (s : Stage zs p frac q) (h : Acc zs 46 q true q') (d : Dig zs q' n q'') (hn : n = 0) : Fin zs p false q'' := by
  obtain ⟨h1, rfl⟩ := h.yes
  obtain ⟨e, rfl⟩ := d
  subst hn
  unfold Stage Fin at *
  rw [s.1, s.2]
  unfold frac
  rw [if_pos h1]
  simp only [List.drop_drop]
  rw [if_pos e.symm]
  exact ⟨rfl, rfl⟩

theorem stage_nofrac {zs : List Int} {p q q' : Nat} (s : Stage zs p frac q) (h : Acc zs 46 q false q') : Stage zs p expo q' := by
  obtain ⟨h1, rfl⟩ := h.no
  unfold Stage at *
  rw [s.1, s.2]
  unfold frac
  simp [h1]

/-- the sign: what the two tries left -/
def Sgn (l : List Int) : Nat := if hd 43 l || hd 45 l then 1 else 0

theorem sgn_plus {zs : List Int} {q q' : Nat} (h : Acc zs 43 q true q') : q' = q + Sgn (zs.drop q) := by
  obtain ⟨h1, rfl⟩ := h.yes; simp [Sgn, h1]
theorem sgn_else {zs : List Int} {q q' q'' : Nat} {r : Bool} (h : Acc zs 43 q false q') (k : Acc zs 45 q' r q'') : q'' = q + Sgn (zs.drop q) := by
  obtain ⟨h1, rfl⟩ := h.no
  cases r with
  | true => obtain ⟨h2, rfl⟩ := k.yes; simp [Sgn, h2]
  | false => obtain ⟨h2, rfl⟩ := k.no; simp [Sgn, h1, h2]

theorem e_low {zs : List Int} {q q' : Nat} (h : Acc zs 101 q true q') : (hd 101 (zs.drop q) || hd 69 (zs.drop q)) = true ∧ q' = q + 1 := by
  obtain ⟨h1, rfl⟩ := h.yes; simp [h1]
theorem e_up {zs : List Int} {q q' q'' : Nat} (h : Acc zs 101 q false q') (k : Acc zs 69 q' true q'') : (hd 101 (zs.drop q) || hd 69 (zs.drop q)) = true ∧ q'' = q + 1 := by
  obtain ⟨h1, rfl⟩ := h.no; obtain ⟨h2, rfl⟩ := k.yes; simp [h2]

theorem fin_none {zs : List Int} {p q q' q'' : Nat} (s : Stage zs p expo q) (h : Acc zs 101 q false q') (k : Acc zs 69 q' false q'') : Fin zs p true q'' := by
  obtain ⟨h1, rfl⟩ := h.no; obtain ⟨h2, rfl⟩ := k.no
  unfold Stage Fin at *
  rw [s.1, s.2]
  unfold expo
  simp [h1, h2]

theorem fin_expo {zs : List Int} {p q q1 q2 q3 n : Nat} (s : Stage zs p expo q) (h : (hd 101 (zs.drop q) || hd 69 (zs.drop q)) = true ∧ q1 = q + 1) (k : q2 = q1 + Sgn (zs.drop q1)) (d : Dig zs q2 n q3) : Fin zs p (n != 0) q3 := by
  obtain ⟨h1, rfl⟩ := h
  subst k
  obtain ⟨rfl, rfl⟩ := d
  unfold Stage Fin at *
  rw [s.1, s.2]
  unfold expo
  rw [if_pos h1]
  simp only [List.drop_drop]
  unfold Sgn
  constructor
  · rw [Nat.add_assoc]
  · simp only [Nat.add_assoc]

/-! ### the same, their tests as the walk leaves them -/
theorem bT {r : Bool} (h : (!r) = false) : r = true := by simpa using h
theorem bF {r : Bool} (h : (!r) = true) : r = false := by simpa using h
theorem bN {r : Bool} (h : ¬ r = true) : r = false := by simpa using h
theorem nZ {n : Nat} (h : ((n : Int) == 0) = true) : n = 0 := by simpa using h
theorem nN {n : Nat} (h : ((n : Int) == 0) = false) : n ≠ 0 := by simpa using h

theorem w_zero {zs : List Int} {p q q' : Nat} {r : Bool} (s : Stage zs p intp q) (h : Acc zs 48 q r q') (hr : r = true) : Stage zs p frac q' := by subst hr; exact stage_zero s h
theorem w_digs {zs : List Int} {p q q' q'' n : Nat} {r : Bool} (s : Stage zs p intp q) (h : Acc zs 48 q r q') (hr : r = false) (d : Dig zs q' n q'') (hn : ((n : Int) == 0) = false) : Stage zs p frac q'' := by subst hr; exact stage_digs s h d (nN hn)
theorem f_digs {zs : List Int} {p q q' q'' n : Nat} {r : Bool} (s : Stage zs p intp q) (h : Acc zs 48 q r q') (hr : r = false) (d : Dig zs q' n q'') (hn : ((n : Int) == 0) = true) : Fin zs p false q'' := by subst hr; exact fin_digs s h d (nZ hn)
theorem w_frac {zs : List Int} {p q q' q'' n : Nat} {r : Bool} (s : Stage zs p frac q) (h : Acc zs 46 q r q') (hr : r = true) (d : Dig zs q' n q'') (hn : ((n : Int) == 0) = false) : Stage zs p expo q'' := by subst hr; exact stage_frac s h d (nN hn)
theorem f_frac {zs : List Int} {p q q' q'' n : Nat} {r : Bool} (s : Stage zs p frac q) (h : Acc zs 46 q r q') (hr : r = true) (d : Dig zs q' n q'') (hn : ((n : Int) == 0) = true) : Fin zs p false q'' := by subst hr; exact fin_frac s h d (nZ hn)
theorem w_nofrac {zs : List Int} {p q q' : Nat} {r : Bool} (s : Stage zs p frac q) (h : Acc zs 46 q r q') (hr : r = false) : Stage zs p expo q' := by subst hr; exact stage_nofrac s h
theorem w_plus {zs : List Int} {q q' : Nat} {r : Bool} (h : Acc zs 43 q r q') (hr : r = true) : q' = q + Sgn (zs.drop q) := by subst hr; exact sgn_plus h
theorem w_else {zs : List Int} {q q' q'' : Nat} {r r' : Bool} (h : Acc zs 43 q r q') (hr : r = false) (k : Acc zs 45 q' r' q'') : q'' = q + Sgn (zs.drop q) := by subst hr; exact sgn_else h k
theorem w_low {zs : List Int} {q q' : Nat} {r : Bool} (h : Acc zs 101 q r q') (hr : r = true) : (hd 101 (zs.drop q) || hd 69 (zs.drop q)) = true ∧ q' = q + 1 := by subst hr; exact e_low h
theorem w_up {zs : List Int} {q q' q'' : Nat} {r r' : Bool} (h : Acc zs 101 q r q') (hr : r = false) (k : Acc zs 69 q' r' q'') (hr' : r' = true) : (hd 101 (zs.drop q) || hd 69 (zs.drop q)) = true ∧ q'' = q + 1 := by subst hr hr'; exact e_up h k
theorem f_none {zs : List Int} {p q q' q'' : Nat} {r r' : Bool} (s : Stage zs p expo q) (h : Acc zs 101 q r q') (hr : r = false) (k : Acc zs 69 q' r' q'') (hr' : r' = false) : Fin zs p true q'' := by subst hr hr'; exact fin_none s h k
theorem f_expo0 {zs : List Int} {p q q1 q2 q3 n : Nat} (s : Stage zs p expo q) (h : (hd 101 (zs.drop q) || hd 69 (zs.drop q)) = true ∧ q1 = q + 1) (k : q2 = q1 + Sgn (zs.drop q1)) (d : Dig zs q2 n q3) (hn : ((n : Int) == 0) = true) : Fin zs p false q3 := by
  have := fin_expo s h k d; rw [nZ hn] at this; exact this
theorem f_expo1 {zs : List Int} {p q q1 q2 q3 n : Nat} (s : Stage zs p expo q) (h : (hd 101 (zs.drop q) || hd 69 (zs.drop q)) = true ∧ q1 = q + 1) (k : q2 = q1 + Sgn (zs.drop q1)) (d : Dig zs q2 n q3) (hn : ((n : Int) == 0) = false) : Fin zs p true q3 := by
  have := fin_expo s h k d; rwa [show (n != 0) = true from by simpa using nN hn] at this
end Go.Proofs.Qxb6600361a
