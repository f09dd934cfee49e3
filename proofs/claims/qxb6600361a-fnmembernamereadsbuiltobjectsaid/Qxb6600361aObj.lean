/-
  AN OBJECT THAT WAS WRITTEN IS READ AS IT WAS WRITTEN: no Go in sight.
-/
import Derived.Test.Qxb6600361aStr
import Derived.Test.Qxb6600361aBuilt
namespace Go.Proofs.Qxb6600361a

def AllS (l : List Int) : Prop := ∀ c ∈ l, isS c = true
theorem spaces_append {sp : List Int} (h : AllS sp) (r : List Int) : spaces (sp ++ r) = sp.length + spaces r := by
  induction sp with
  | nil => simp
  | cons c l ih =>
    have hc := h c (by simp)
    simp only [List.cons_append, spaces, hc, if_true, List.length_cons]
    rw [ih fun x hx => h x (by simp [hx])]; omega
theorem spaces_head {c : Int} {l : List Int} (h : isS c = false) : spaces (c :: l) = 0 := by simp [spaces, h]

/-! ### quoting -/
def hxd (v : Int) (u : Bool) : Int := if v < 10 then 48 + v else if u then 55 + v else 87 + v
theorem hxd_hex {v : Int} (u : Bool) (h0 : 0 ≤ v) (h1 : v ≤ 15) : hexB (hxd v u) = true := by
  rw [hexB_iff]; unfold hxd
  split
  · omega
  · split <;> omega
theorem hxd_rng {v : Int} (u : Bool) (h0 : 0 ≤ v) (h1 : v ≤ 15) : 0 ≤ hxd v u ∧ hxd v u ≤ 255 := by
  unfold hxd
  split
  · omega
  · split <;> omega

def qesc (k : Nat) (c : Int) : List Int :=
  if c = 34 then [92, 34] else if c = 92 then [92, 92] else if c = 47 then [92, 47] else if c = 10 then [92, 110] else if c = 9 then [92, 116]
  else if c < 32 then [92, 117, 48, 48, hxd (c / 16) (k % 2 == 1), hxd (c % 16) (k % 2 == 1)] else [c]
def qbody : Nat → List Int → List Int
  | _, [] => []
  | k, c :: l => qesc k c ++ qbody (k + 1) l
def qt (l : List Int) : List Int := 34 :: (qbody 0 l ++ [34])

theorem qesc_len (k : Nat) (c : Int) : (qesc k c).length ≤ 6 := by
  unfold qesc; repeat' split
  all_goals simp
theorem qesc_rng {k : Nat} {c : Int} (h0 : 0 ≤ c) (h1 : c ≤ 255) : ∀ x ∈ qesc k c, 0 ≤ x ∧ x ≤ 255 := by
  have a := hxd_rng (v := c / 16) (k % 2 == 1)
  have b := hxd_rng (v := c % 16) (k % 2 == 1)
  unfold qesc
  intro x hx
  split at hx
  · simp at hx; omega
  split at hx
  · simp at hx; omega
  split at hx
  · simp at hx; omega
  split at hx
  · simp at hx; omega
  split at hx
  · simp at hx; omega
  split at hx
  · next hc =>
    have a := a (by omega) (by omega)
    have b := b (by omega) (by omega)
    simp at hx; omega
  · simp at hx; omega
theorem sm_qesc (k : Nat) {c : Int} (h0 : 0 ≤ c) (l : List Int) : sm false 0 (qesc k c ++ l) = sh (qesc k c).length (sm false 0 l) := by
  unfold qesc
  split
  · simp only [List.cons_append, List.nil_append]; rw [sm_bs, sm_short (by rfl), sh_sh]; rfl
  split
  · simp only [List.cons_append, List.nil_append]; rw [sm_bs, sm_short (by rfl), sh_sh]; rfl
  split
  · simp only [List.cons_append, List.nil_append]; rw [sm_bs, sm_short (by rfl), sh_sh]; rfl
  split
  · simp only [List.cons_append, List.nil_append]; rw [sm_bs, sm_short (by rfl), sh_sh]; rfl
  split
  · simp only [List.cons_append, List.nil_append]; rw [sm_bs, sm_short (by rfl), sh_sh]; rfl
  split
  · next hc =>
    simp only [List.cons_append, List.nil_append]
    rw [sm_bs, sm_u, sm_hex (by rfl), sm_hex (by rfl), sm_hex (hxd_hex _ (by omega) (by omega)), sm_hex (hxd_hex _ (by omega) (by omega)), sh_sh, sh_sh, sh_sh, sh_sh, sh_sh]; rfl
  · next a b _ _ _ hc =>
    simp only [List.cons_append, List.nil_append]
    rw [sm_plain hc a b]; rfl
theorem sm_qbody (k : Nat) {l : List Int} (h : ∀ c ∈ l, 0 ≤ c ∧ c ≤ 255) (r : List Int) : sm false 0 (qbody k l ++ 34 :: r) = some ((qbody k l).length + 1) := by
  induction l generalizing k with
  | nil => simp [qbody, sm_quote]
  | cons c l ih =>
    rw [qbody, List.append_assoc, sm_qesc k (h c (by simp)).1, ih (k + 1) fun x hx => h x (by simp [hx]), sh_some, List.length_append]
    congr 1; omega
theorem qbody_rng (k : Nat) {l : List Int} (h : ∀ c ∈ l, 0 ≤ c ∧ c ≤ 255) : ∀ x ∈ qbody k l, 0 ≤ x ∧ x ≤ 255 := by
  induction l generalizing k with
  | nil => simp [qbody]
  | cons c l ih =>
    intro x hx
    rw [qbody, List.mem_append] at hx
    rcases hx with hx | hx
    · exact qesc_rng (h c (by simp)).1 (h c (by simp)).2 x hx
    · exact ih (k + 1) (fun x hx => h x (by simp [hx])) x hx
theorem qt_rng {l : List Int} (h : ∀ c ∈ l, 0 ≤ c ∧ c ≤ 255) : ∀ x ∈ qt l, 0 ≤ x ∧ x ≤ 255 := by
  intro x hx
  simp only [qt, List.mem_cons, List.mem_append, List.not_mem_nil, or_false] at hx
  rcases hx with rfl | hx | rfl
  · omega
  · exact qbody_rng 0 h x hx
  · omega

/-! ### the members -/
/-- member j, read in T from p on: its name, where its value starts and ends -/
def OKm (T : List Int) (p : Nat) (j : Nat) (nm : List Int) (s e : Nat) : Prop :=
  ∃ ns ne, mem T p (j : Int) = (ns, ne, s, 1) ∧ (T.drop ns).take (ne - ns) = qt nm ∧ ne - ns = (qt nm).length ∧ num (T.drop s) = (true, e - s) ∧ s ≤ e

/-- where the reading of member j starts -/
def startAt (E : Nat → Nat) : Nat → Nat
  | 0 => 1
  | j + 1 => E j

/-- THE TEXT SO FAR: k members are written; whatever follows with a comma or a brace, each is read as it was written. -/
structure Inv (names : Nat → List Int) (S E : Nat → Nat) (k : Nat) (xs : List Int) : Prop where
  pos : startAt E k ≤ xs.length
  sp : AllS (xs.drop (startAt E k))
  ok : ∀ R, hd 44 R = true ∨ hd 125 R = true → ∀ j, j < k → OKm (xs ++ R) (startAt E j) j (names j) (S j) (E j)

theorem Inv.zero {names : Nat → List Int} {S E : Nat → Nat} {sp : List Int} (h : AllS sp) : Inv names S E 0 (123 :: sp) :=
  ⟨by simp [startAt], by simpa [startAt] using h, fun _ _ j hj => by omega⟩

theorem Inv.congr {names : Nat → List Int} {S E S' E' : Nat → Nat} {k : Nat} {xs : List Int} (h : Inv names S E k xs) (hS : ∀ j, j < k → S' j = S j) (hE : ∀ j, j < k → E' j = E j) : Inv names S' E' k xs := by
  have hs : ∀ j, j ≤ k → startAt E' j = startAt E j := by
    intro j hj
    cases j with
    | zero => rfl
    | succ j => exact hE j (by omega)
  refine ⟨by rw [hs k (Nat.le_refl _)]; exact h.pos, by rw [hs k (Nat.le_refl _)]; exact h.sp, fun R hR j hj => ?_⟩
  rw [hs j (by omega), hS j hj, hE j hj]; exact h.ok R hR j hj

/-- what comes before the name: nothing, or a comma and white space -/
def Pre (k : Nat) (pre : List Int) : Prop := (k = 0 ∧ pre = []) ∨ (0 < k ∧ ∃ spa, AllS spa ∧ pre = 44 :: spa)

theorem head_after {spc R : List Int} (h : AllS spc) (hR : hd 44 R = true ∨ hd 125 R = true) : digs (spc ++ R) = 0 ∧ hd 46 (spc ++ R) = false ∧ hd 101 (spc ++ R) = false ∧ hd 69 (spc ++ R) = false := by
  cases spc with
  | nil =>
    rcases hR with hR | hR
    · obtain ⟨l, rfl⟩ := hd_ne_nil hR; simp [digs, isD, hd]
    · obtain ⟨l, rfl⟩ := hd_ne_nil hR; simp [digs, isD, hd]
  | cons c l =>
    have hc := (isS_iff c).1 (h c (by simp))
    have : isD c = false := by rw [isD_false]; omega
    simp only [List.cons_append, digs, this, hd, beq_eq_false_iff_ne, ne_eq]
    refine ⟨rfl, ?_, ?_, ?_⟩ <;> omega

/-- ONE MEMBER MORE. -/
theorem Inv.step {names : Nat → List Int} {S E : Nat → Nat} {k : Nat} {xs pre spb nu spc : List Int} (h : Inv names S E k xs) (hpre : Pre k pre) (hb : AllS spb) (hc : AllS spc) (hn : Ee nu)
    (hr : ∀ c ∈ names k, 0 ≤ c ∧ c ≤ 255) (hS : S k = (xs ++ pre ++ qt (names k) ++ spb ++ [58]).length) (hE : E k = S k + nu.length) :
    Inv names S E (k + 1) (xs ++ pre ++ qt (names k) ++ spb ++ [58] ++ nu ++ spc) := by
  have hlen : (xs ++ pre ++ qt (names k) ++ spb ++ [58] ++ nu).length = E k := by rw [hE, hS]; simp only [List.length_append]
  refine ⟨by show E k ≤ _; rw [← hlen]; simp, by show AllS (List.drop (E k) _); rw [← hlen, List.drop_left]; exact hc, fun R hR j hj => ?_⟩
  by_cases hjk : j < k
  · have e : xs ++ pre ++ qt (names k) ++ spb ++ [58] ++ nu ++ spc ++ R = xs ++ (pre ++ (qt (names k) ++ (spb ++ ([58] ++ (nu ++ (spc ++ R)))))) := by simp only [List.append_assoc]
    rw [e]
    refine h.ok _ (.inl ?_) j hjk
    rcases hpre with ⟨h0, _⟩ | ⟨_, spa, _, rfl⟩
    · omega
    · rfl
  · have ej : j = k := by omega
    subst ej
    obtain ⟨T, hT⟩ : ∃ T, T = xs ++ pre ++ qt (names j) ++ spb ++ [58] ++ nu ++ spc ++ R := ⟨_, rfl⟩
    rw [← hT]
    -- the pieces of T behind each mark
    have d1 : T.drop (startAt E j) = xs.drop (startAt E j) ++ (pre ++ (qt (names j) ++ (spb ++ (58 :: (nu ++ (spc ++ R)))))) := by
      rw [hT]; simp only [List.append_assoc]; rw [List.drop_append_of_le_length h.pos]; rfl
    have d2 : T.drop xs.length = pre ++ (qt (names j) ++ (spb ++ (58 :: (nu ++ (spc ++ R))))) := by
      rw [hT]; simp only [List.append_assoc]; rw [List.drop_left]; rfl
    have d3 : T.drop (xs ++ pre).length = qt (names j) ++ (spb ++ (58 :: (nu ++ (spc ++ R)))) := by
      rw [hT, show xs ++ pre ++ qt (names j) ++ spb ++ [58] ++ nu ++ spc ++ R = (xs ++ pre) ++ (qt (names j) ++ (spb ++ ([58] ++ (nu ++ (spc ++ R))))) by simp only [List.append_assoc], List.drop_left]; rfl
    have d4 : T.drop (xs ++ pre ++ qt (names j)).length = spb ++ (58 :: (nu ++ (spc ++ R))) := by
      rw [hT, show xs ++ pre ++ qt (names j) ++ spb ++ [58] ++ nu ++ spc ++ R = (xs ++ pre ++ qt (names j)) ++ (spb ++ ([58] ++ (nu ++ (spc ++ R)))) by simp only [List.append_assoc], List.drop_left]; rfl
    have d5 : T.drop (xs ++ pre ++ qt (names j) ++ spb).length = 58 :: (nu ++ (spc ++ R)) := by
      rw [hT, show xs ++ pre ++ qt (names j) ++ spb ++ [58] ++ nu ++ spc ++ R = (xs ++ pre ++ qt (names j) ++ spb) ++ ([58] ++ (nu ++ (spc ++ R))) by simp only [List.append_assoc], List.drop_left]; rfl
    have d6 : T.drop (S j) = nu ++ (spc ++ R) := by
      rw [hS, hT, show xs ++ pre ++ qt (names j) ++ spb ++ [58] ++ nu ++ spc ++ R = (xs ++ pre ++ qt (names j) ++ spb ++ [58]) ++ (nu ++ (spc ++ R)) by simp only [List.append_assoc], List.drop_left]
    -- the number
    have hnum : num (T.drop (S j)) = (true, E j - S j) := by
      obtain ⟨a1, a2, a3, a4⟩ := head_after hc hR
      rw [d6, hn _ a1 a2 a3 a4, hE]; simp
    -- the name's place
    have hq34 : isS 34 = false := by rfl
    have hqt : ∀ r, spaces (qt (names j) ++ r) = 0 := fun r => by unfold qt; exact spaces_head hq34
    have hP : startAt E j + spaces (T.drop (startAt E j)) = xs.length := by
      have hp := h.pos
      rw [d1, spaces_append h.sp]
      have : spaces (pre ++ (qt (names j) ++ (spb ++ (58 :: (nu ++ (spc ++ R)))))) = 0 := by
        rcases hpre with ⟨_, rfl⟩ | ⟨_, spa, _, rfl⟩
        · exact hqt _
        · exact spaces_head (by rfl)
      rw [this, List.length_drop]; omega
    have h125 : hd 125 (T.drop xs.length) = false := by
      rw [d2]
      rcases hpre with ⟨_, rfl⟩ | ⟨_, spa, _, rfl⟩
      · rfl
      · rfl
    have hmem : mem T (startAt E j) (j : Int) = mem2 T (xs ++ pre).length := by
      unfold mem
      rw [hP, h125]
      rcases hpre with ⟨h0, rfl⟩ | ⟨h0, spa, hspa, rfl⟩
      · subst h0; simp
      · have hi : (0 : Int) < (j : Int) := by omega
        have h44 : hd 44 (T.drop xs.length) = true := by rw [d2]; rfl
        have hq : xs.length + 1 + spaces (T.drop (xs.length + 1)) = (xs ++ 44 :: spa).length := by
          rw [← List.drop_drop, d2]
          simp only [List.cons_append, List.drop_succ_cons, List.drop_zero]
          rw [spaces_append hspa, hqt]; simp; omega
        rw [h44, hq, if_pos hi]; rfl
    have hlq : (xs ++ pre).length + 1 + ((qbody 0 (names j)).length + 1) = (xs ++ pre ++ qt (names j)).length := by simp [qt]; omega
    have hsm : sm false 0 (T.drop ((xs ++ pre).length + 1)) = some ((qbody 0 (names j)).length + 1) := by
      rw [← List.drop_drop, d3]
      simp only [qt, List.cons_append, List.drop_succ_cons, List.drop_zero, List.append_assoc, List.nil_append]
      exact sm_qbody 0 hr _
    have hcol : (xs ++ pre ++ qt (names j)).length + spaces (T.drop (xs ++ pre ++ qt (names j)).length) = (xs ++ pre ++ qt (names j) ++ spb).length := by
      rw [d4, spaces_append hb, spaces_head (by rfl)]; simp only [List.length_append]; omega
    have h58 : hd 58 (T.drop (xs ++ pre ++ qt (names j) ++ spb).length) = true := by rw [d5]; rfl
    have h34 : hd 34 (T.drop (xs ++ pre).length) = true := by rw [d3]; rfl
    have hm2 : mem2 T (xs ++ pre).length = ((xs ++ pre).length, (xs ++ pre ++ qt (names j)).length, S j, 1) := by
      unfold mem2
      rw [h34, hsm]
      simp only [if_true]
      rw [hlq, hcol, h58, hS]
      simp only [if_true, Prod.mk.injEq, true_and, and_true]
      simp only [List.length_append, List.length_cons, List.length_nil]
    refine ⟨(xs ++ pre).length, (xs ++ pre ++ qt (names j)).length, hmem.trans hm2, ?_, ?_, hnum, by omega⟩
    · rw [d3, show (xs ++ pre ++ qt (names j)).length - (xs ++ pre).length = (qt (names j)).length by simp only [List.length_append]; omega, List.take_left]
    · simp only [List.length_append]; omega

/-- THE END: the closing brace. -/
theorem Inv.close {names : Nat → List Int} {S E : Nat → Nat} {k : Nat} {xs : List Int} (h : Inv names S E k xs) (i : Int) : mem (xs ++ [125]) (startAt E k) i = (0, 0, (xs ++ [125]).length, 0) := by
  have hp := h.pos
  have d1 : (xs ++ [125]).drop (startAt E k) = xs.drop (startAt E k) ++ [125] := List.drop_append_of_le_length h.pos
  have hP : startAt E k + spaces ((xs ++ [125]).drop (startAt E k)) = xs.length := by
    rw [d1, spaces_append h.sp, spaces_head (by rfl), List.length_drop]; omega
  unfold mem
  rw [hP, List.drop_left]
  simp [hd]
end Go.Proofs.Qxb6600361a
