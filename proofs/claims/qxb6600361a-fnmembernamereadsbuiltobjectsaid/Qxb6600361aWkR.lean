import Derived.Test.Qxb6600361aWkD
import Derived.Test.Qxb6600361aObj
import Derived.OpenShut
namespace Go.Proofs.Qxb6600361a
open Go.RowKit

theorem list_news (w : World) (ys : List Int) (cs : Array Value) (t : TypeId) (h : cs = (ys.map (Value.int .u8)).toArray) :
    ∀ j, j < ys.length → (w.alloc (.cells cs t)).cell? (Addr.add ⟨w.heap.size, 0, none⟩ j) = some (.int .u8 (ys.getD j 0)) := by
  intro j hj
  subst h
  rw [Addr.add_lit, Nat.zero_add, cell_of_row (w.alloc _) w.heap.size j _ t (0, 0) (heap_alloc_new w _)]
  simp [List.getD, hj]

/-- a []byte that grew by ss -/
structure Grew (base : Nat) (w : World) (xs ss : List Int) (ao' : Option Addr) (cp' : Nat) (xs' : List Int) (w' : World) : Prop where
  eq : xs' = xs ++ ss
  own : Own w' base ao' cp' xs'
  bel : Below base w w'

set_option maxHeartbeats 1000000 in
theorem appendSpace_any {base : Nat} {ao : Option Addr} {cp : Nat} {xs : List Int} {w : World} (hown : Own w base ao cp xs) (hb : base ≤ w.heap.size) (hl : xs.length ≤ 1099511627776) (sp slot : Int) (s0 : 0 ≤ sp) (s1 : sp ≤ 255) (t0 : 0 ≤ slot) (t1 : slot ≤ 1099511627776) :
    Calls Try.prog 25 #[.slice ao xs.length cp, .int .u8 sp, .int .i64 slot] w fun e w' => ∃ ao' cp' xs' ss, e = .returned (.slice ao' xs'.length cp') ∧ Hid (Grew base w xs ss ao' cp' xs' w' ∧ AllS ss ∧ ss.length ≤ 4) ∧ xs'.length ≤ xs.length + 4 := by
  rcases (show (sp + slot) % 4 = 0 ∨ (sp + slot) % 4 = 1 ∨ (sp + slot) % 4 = 2 ∨ (sp + slot) % 4 = 3 by omega) with h | h | h | h
  · have e1 : ((sp + slot) % 4 == 1) = false := by rw [h]; rfl
    have e2 : ((sp + slot) % 4 == 2) = false := by rw [h]; rfl
    have e3 : ((sp + slot) % 4 == 3) = false := by rw [h]; rfl
    clear h
    go_enter Try.func25, Try.ntmps25
    go_wp2
    go_ret
    exact ⟨ao, cp, xs, [], rfl, ⟨⟨by simp, hown, Below.refl _ _⟩, by intro x hx; simp at hx, by simp⟩, by omega⟩
  · go_enter Try.func25, Try.ntmps25
    go_wp2_with (at_builtin; refine wpList_app _ rfl (.tmp 14) (.tmp 15) rfl base ao cp xs rfl (hown.alloc _) ⟨_, 0, none⟩ 1 1 [32] rfl rfl (list_news _ _ _ _ rfl) (by simp; omega) (by simp; omega) ?_; intro ao' cp' xs' w' hX hlx hO' hB')
    go_ret
    exact ⟨ao', cp', xs', [32], rfl, ⟨⟨hX.out, hO', ((Below.refl _ _).alloc hb _).trans hB'⟩, by intro x hx; simp at hx; subst hx; rfl, by simp⟩, by simp at hlx; omega⟩
  · go_enter Try.func25, Try.ntmps25
    go_wp2_with (at_builtin; refine wpList_app _ rfl (.tmp 19) (.tmp 20) rfl base ao cp xs rfl (hown.alloc _) ⟨_, 0, none⟩ 2 2 [9, 10] rfl rfl (list_news _ _ _ _ rfl) (by simp; omega) (by simp; omega) ?_; intro ao' cp' xs' w' hX hlx hO' hB')
    go_ret
    exact ⟨ao', cp', xs', [9, 10], rfl, ⟨⟨hX.out, hO', ((Below.refl _ _).alloc hb _).trans hB'⟩, by intro x hx; simp at hx; rcases hx with rfl | rfl <;> rfl, by simp⟩, by simp at hlx; omega⟩
  · go_enter Try.func25, Try.ntmps25
    go_wp2_with (at_builtin; refine wpList_app _ rfl (.tmp 24) (.tmp 25) rfl base ao cp xs rfl (hown.alloc _) ⟨_, 0, none⟩ 4 4 [13, 10, 32, 32] rfl rfl (list_news _ _ _ _ rfl) (by simp; omega) (by simp; omega) ?_; intro ao' cp' xs' w' hX hlx hO' hB')
    go_ret
    exact ⟨ao', cp', xs', [13, 10, 32, 32], rfl, ⟨⟨hX.out, hO', ((Below.refl _ _).alloc hb _).trans hB'⟩, by intro x hx; simp at hx; rcases hx with rfl | rfl | rfl <;> rfl, by simp⟩, by simp at hlx; omega⟩

theorem Dec.ee {u : Int} {ds : List Int} (h : Dec u ds) : IntOK ds := by
  by_cases hu : u = 0
  · exact ⟨h.ne, h.dig, .inl (h.zero hu)⟩
  · exact ⟨h.ne, h.dig, .inr (h.lead hu)⟩

set_option maxHeartbeats 1000000 in
theorem appendInt_any {base : Nat} {ao : Option Addr} {cp : Nat} {xs : List Int} {w : World} (hown : Own w base ao cp xs) (hb : base ≤ w.heap.size) (hl : xs.length ≤ 1099511627000) (v : Int) (v0 : -9223372036854775808 ≤ v) (v1 : v ≤ 9223372036854775807) :
    Calls Try.prog 27 #[.slice ao xs.length cp, .int .i64 v] w fun e w' => ∃ ao' cp' xs' ss, e = .returned (.slice ao' xs'.length cp') ∧ Hid (Grew base w xs ss ao' cp' xs' w' ∧ Ee ss ∧ (∀ c ∈ ss, 0 ≤ c ∧ c ≤ 255)) ∧ xs'.length ≤ xs.length + 21 := by
  by_cases h : 0 ≤ v
  · go_enter Try.func27, Try.ntmps27
    go_wp2_with (go_at_call 21; refine (appendUint_any base ao cp xs v _ hown hb (by omega) (by omega) (by omega)).mono ?_; rintro e w1 ⟨ao1, cp1, xs1, ds1, rfl, hX1, hl1, hO1, hB1⟩)
    go_ret
    obtain ⟨e1, hD⟩ := hX1.out
    refine ⟨ao1, cp1, xs1, ds1, rfl, ⟨⟨e1, hO1, hB1⟩, ?_, ?_⟩, by omega⟩
    · exact (Ii_of (sg := []) (.inl rfl) hD.ee).noFrac.noExp
    · intro c hc; have := hD.dig c hc; rw [isD_iff] at this; omega
  · go_enter Try.func27, Try.ntmps27
    go_wp2_with (at_builtin; refine wpList_app _ rfl (.tmp 11) (.tmp 12) rfl base ao cp xs rfl (hown.alloc _) ⟨_, 0, none⟩ 1 1 [45] rfl rfl (list_news _ _ _ _ rfl) (by simp; omega) (by simp; omega) ?_; intro ao' cp' xs' w' hX hlx hO' hB')
    have hsz := hB'.size
    simp at hsz hlx
    refine (appendUint_any base ao' cp' xs' (-(v + 1) + 1) _ hO' (by omega) (by omega) (by omega) (by omega)).mono ?_
    rintro e w1 ⟨ao1, cp1, xs1, ds1, rfl, hX1, hl1, hO1, hB1⟩
    go_wp2
    go_ret
    obtain ⟨e1, hD⟩ := hX1.out
    refine ⟨ao1, cp1, xs1, [45] ++ ds1, rfl, ⟨⟨by rw [e1, hX.out, List.append_assoc], hO1, (((Below.refl _ _).alloc hb _).trans hB').trans hB1⟩, ?_, ?_⟩, by omega⟩
    · exact (Ii_of (sg := [45]) (.inr rfl) hD.ee).noFrac.noExp
    · intro c hc
      rcases List.mem_append.1 hc with hc | hc
      · simp at hc; omega
      · have := hD.dig c hc; rw [isD_iff] at this; omega

/-! ### quoting -/
theorem hexDigit_any (v : Int) (u : Bool) (w : World) (h0 : 0 ≤ v) (h1 : v ≤ 15) : Calls Try.prog 35 #[.int .u8 v, .bool u] w fun e w' => e = .returned (.int .u8 (hxd v u)) ∧ w' = w := by
  by_cases h : v < 10
  · rw [show hxd v u = 48 + v by simp [hxd, h]]
    go_enter Try.func35, Try.ntmps35
    go_wp2
    go_ret
    exact ⟨rfl, rfl⟩
  · cases u
    · rw [show hxd v false = 97 + v - 10 by simp [hxd, h]; omega]
      go_enter Try.func35, Try.ntmps35
      go_wp2
      go_ret
      exact ⟨rfl, rfl⟩
    · rw [show hxd v true = 65 + v - 10 by simp [hxd, h]; omega]
      go_enter Try.func35, Try.ntmps35
      go_wp2
      go_ret
      exact ⟨rfl, rfl⟩

def andOK (n : Nat) : Bool := bits BinOp.and IntKind.u8 (n : Int) 15 == ((n % 16 : Nat) : Int)
theorem andOK_all : (List.range 256).all andOK = true := by decide +kernel
theorem and_fact {c : Int} (h0 : 0 ≤ c) (h1 : c ≤ 255) : bits BinOp.and IntKind.u8 c 15 = c % 16 := by
  obtain ⟨n, rfl⟩ : ∃ n : Nat, c = n := ⟨c.toNat, by omega⟩
  have h := List.all_eq_true.1 andOK_all n (List.mem_range.2 (by omega))
  simp only [andOK, beq_iff_eq] at h
  rw [h]; omega

/-- a string's bytes, as numbers -/
def bytesOf (s : ByteArray) : List Int := s.data.toList.map fun b => (b.toNat : Int)
theorem bytesOf_len (s : ByteArray) : (bytesOf s).length = s.size := by simp [bytesOf]
theorem bytesOf_rng (s : ByteArray) : ∀ c ∈ bytesOf s, 0 ≤ c ∧ c ≤ 255 := by
  intro c hc
  obtain ⟨b, _, rfl⟩ := List.mem_map.1 hc
  have := b.toNat_lt
  omega
theorem bytesOf_drop (s : ByteArray) (k : Nat) (h : k < s.size) : (bytesOf s).drop k = (s[k].toNat : Int) :: (bytesOf s).drop (k + 1) := by
  rw [List.drop_eq_getElem_cons (by rw [bytesOf_len]; exact h)]
  congr 1
  simp [bytesOf]
  rfl

set_option maxRecDepth 20000 in
set_option maxHeartbeats 4000000 in
theorem appendQuoted_any {base : Nat} {ao : Option Addr} {cp : Nat} {xs : List Int} {w : World} (hown : Own w base ao cp xs) (hb : base ≤ w.heap.size) (hl : xs.length ≤ 1000000000000) (s : ByteArray) (hs : s.size ≤ 1048576) :
    Calls Try.prog 26 #[.slice ao xs.length cp, .string s] w fun e w' => ∃ ao' cp' xs', e = .returned (.slice ao' xs'.length cp') ∧ Hid (Grew base w xs (qt (bytesOf s)) ao' cp' xs' w') ∧ xs'.length ≤ xs.length + (6 * s.size + 2) := by
  go_enter Try.func26, Try.ntmps26
  go_wp2_with (at_builtin; refine wpList_app _ rfl (.tmp 8) (.tmp 9) rfl base ao cp xs rfl (hown.alloc _) ⟨_, 0, none⟩ 1 1 [34] rfl rfl (list_news _ _ _ _ rfl) (by simp; omega) (by simp; omega) ?_; intro ao1 cp1 xs1 w1 hX1 hl1 hO1 hB1)
  go_loopg [0, 5] s.size (fun k t i wr => ∃ (j : Nat) (ao2 : Option Addr) (cp2 : Nat) (ys : List Int), k + j = s.size ∧ t = .slice ao2 ys.length cp2 ∧ i = .int .i64 j ∧ Own wr base ao2 cp2 ys ∧ Below base w wr ∧ base ≤ wr.heap.size ∧ ys.length ≤ xs.length + (6 * j + 1) ∧ xs ++ qt (bytesOf s) = ys ++ (qbody j ((bytesOf s).drop j) ++ [34]))
  case atStart =>
    have e := hX1.out
    subst e
    exact ⟨0, ao1, cp1, _, by omega, rfl, rfl, hO1, ((Below.refl _ _).alloc hb _).trans hB1, by have := hB1.size; simp at this; omega, by simp, by simp [qt]⟩
  case round =>
    clear hX1 hl1 hO1 hB1 hown
    obtain ⟨j, ao2, cp2, ys, hk, rfl, rfl, hO, hB, hbs, hly, hE⟩ := hrel
    have A : Aside (gk + j = s.size ∧ xs ++ qt (bytesOf s) = ys ++ (qbody j ((bytesOf s).drop j) ++ [34])) := ⟨hk, hE⟩
    have hj : j ≤ s.size := by omega
    clear hk hE
    by_cases hlt : j < s.size
    · have hlt' : (j : Int) < (s.size : Int) := by omega
      have hr := bytesOf_rng s s[j].toNat (List.mem_of_mem_drop (i := j) (by rw [bytesOf_drop s j hlt]; simp))
      have K : Hid (∀ es, qesc j (s[j].toNat : Int) = es → xs ++ qt (bytesOf s) = (ys ++ es) ++ (qbody (j + 1) ((bytesOf s).drop (j + 1)) ++ [34])) := by
        intro es hes
        rw [A.out.2, bytesOf_drop s j hlt, qbody, hes]; simp only [List.append_assoc]
      rcases (show (s[j].toNat : Int) = 34 ∨ (s[j].toNat : Int) = 92 ∨ (s[j].toNat : Int) = 47 ∨ (s[j].toNat : Int) = 10 ∨ (s[j].toNat : Int) = 9 ∨ ((s[j].toNat : Int) < 32 ∧ (s[j].toNat : Int) ≠ 10 ∧ (s[j].toNat : Int) ≠ 9) ∨ (32 ≤ (s[j].toNat : Int) ∧ (s[j].toNat : Int) ≠ 34 ∧ (s[j].toNat : Int) ≠ 92 ∧ (s[j].toNat : Int) ≠ 47) by omega) with hc | hc | hc | hc | hc | ⟨hc, hc1, hc2⟩ | ⟨hc, hc1, hc2, hc3⟩
      · have KE := K.out [92, 34] (by rw [hc]; rfl)
        have HK : Hid (xs ++ qt (bytesOf s) = (ys ++ [92, 34]) ++ (qbody (j + 1) ((bytesOf s).drop (j + 1)) ++ [34])) := KE
        clear KE K hr
        go_wp2_with (at_builtin; refine wpList_app _ rfl (.tmp 27) (.tmp 28) rfl base ao2 cp2 ys rfl (hO.alloc _) ⟨_, 0, none⟩ 2 2 [92, 34] rfl rfl (list_news _ _ _ _ rfl) (by simp; omega) (by simp; omega) ?_; intro ao3 cp3 ys3 w3 hX hlx hO3 hB3)
        go_roundg (s.size - (j + 1))
        case measure => have := A.out.1; omega
        case rel =>
          have e := hX.out
          subst e
          exact ⟨j + 1, ao3, cp3, _, by omega, rfl, by go_num, hO3, (hB.alloc hbs _).trans hB3, by have := hB3.size; simp at this; omega, by simp; omega, HK.out⟩
      · have KE := K.out [92, 92] (by rw [hc]; rfl)
        have HK : Hid (xs ++ qt (bytesOf s) = (ys ++ [92, 92]) ++ (qbody (j + 1) ((bytesOf s).drop (j + 1)) ++ [34])) := KE
        clear KE K hr
        go_wp2_with (at_builtin; refine wpList_app _ rfl (.tmp 33) (.tmp 34) rfl base ao2 cp2 ys rfl (hO.alloc _) ⟨_, 0, none⟩ 2 2 [92, 92] rfl rfl (list_news _ _ _ _ rfl) (by simp; omega) (by simp; omega) ?_; intro ao3 cp3 ys3 w3 hX hlx hO3 hB3)
        go_roundg (s.size - (j + 1))
        case measure => have := A.out.1; omega
        case rel =>
          have e := hX.out
          subst e
          exact ⟨j + 1, ao3, cp3, _, by omega, rfl, by go_num, hO3, (hB.alloc hbs _).trans hB3, by have := hB3.size; simp at this; omega, by simp; omega, HK.out⟩
      · have KE := K.out [92, 47] (by rw [hc]; rfl)
        have HK : Hid (xs ++ qt (bytesOf s) = (ys ++ [92, 47]) ++ (qbody (j + 1) ((bytesOf s).drop (j + 1)) ++ [34])) := KE
        clear KE K hr
        go_wp2_with (at_builtin; refine wpList_app _ rfl (.tmp 39) (.tmp 40) rfl base ao2 cp2 ys rfl (hO.alloc _) ⟨_, 0, none⟩ 2 2 [92, 47] rfl rfl (list_news _ _ _ _ rfl) (by simp; omega) (by simp; omega) ?_; intro ao3 cp3 ys3 w3 hX hlx hO3 hB3)
        go_roundg (s.size - (j + 1))
        case measure => have := A.out.1; omega
        case rel =>
          have e := hX.out
          subst e
          exact ⟨j + 1, ao3, cp3, _, by omega, rfl, by go_num, hO3, (hB.alloc hbs _).trans hB3, by have := hB3.size; simp at this; omega, by simp; omega, HK.out⟩
      · have KE := K.out [92, 110] (by rw [hc]; rfl)
        have HK : Hid (xs ++ qt (bytesOf s) = (ys ++ [92, 110]) ++ (qbody (j + 1) ((bytesOf s).drop (j + 1)) ++ [34])) := KE
        clear KE K hr
        go_wp2_with (at_builtin; refine wpList_app _ rfl (.tmp 45) (.tmp 46) rfl base ao2 cp2 ys rfl (hO.alloc _) ⟨_, 0, none⟩ 2 2 [92, 110] rfl rfl (list_news _ _ _ _ rfl) (by simp; omega) (by simp; omega) ?_; intro ao3 cp3 ys3 w3 hX hlx hO3 hB3)
        go_roundg (s.size - (j + 1))
        case measure => have := A.out.1; omega
        case rel =>
          have e := hX.out
          subst e
          exact ⟨j + 1, ao3, cp3, _, by omega, rfl, by go_num, hO3, (hB.alloc hbs _).trans hB3, by have := hB3.size; simp at this; omega, by simp; omega, HK.out⟩
      · have KE := K.out [92, 116] (by rw [hc]; rfl)
        have HK : Hid (xs ++ qt (bytesOf s) = (ys ++ [92, 116]) ++ (qbody (j + 1) ((bytesOf s).drop (j + 1)) ++ [34])) := KE
        clear KE K hr
        go_wp2_with (at_builtin; refine wpList_app _ rfl (.tmp 51) (.tmp 52) rfl base ao2 cp2 ys rfl (hO.alloc _) ⟨_, 0, none⟩ 2 2 [92, 116] rfl rfl (list_news _ _ _ _ rfl) (by simp; omega) (by simp; omega) ?_; intro ao3 cp3 ys3 w3 hX hlx hO3 hB3)
        go_roundg (s.size - (j + 1))
        case measure => have := A.out.1; omega
        case rel =>
          have e := hX.out
          subst e
          exact ⟨j + 1, ao3, cp3, _, by omega, rfl, by go_num, hO3, (hB.alloc hbs _).trans hB3, by have := hB3.size; simp at this; omega, by simp; omega, HK.out⟩
      · have e1 : ((s[j].toNat : Int) == 34) = false := by simp only [beq_eq_false_iff_ne, ne_eq]; omega
        have e2 : ((s[j].toNat : Int) == 92) = false := by simp only [beq_eq_false_iff_ne, ne_eq]; omega
        have e3 : ((s[j].toNat : Int) == 47) = false := by simp only [beq_eq_false_iff_ne, ne_eq]; omega
        have e4 : ((s[j].toNat : Int) == 10) = false := by simp only [beq_eq_false_iff_ne, ne_eq]; omega
        have e5 : ((s[j].toNat : Int) == 9) = false := by simp only [beq_eq_false_iff_ne, ne_eq]; omega
        have hub : ((j : Int) % 2 == 1) = (j % 2 == 1) := by rw [Bool.eq_iff_iff]; simp only [beq_iff_eq]; omega
        have hand := and_fact hr.1 hr.2
        have KE := K.out [92, 117, 48, 48, hxd ((s[j].toNat : Int) / 16) ((j : Int) % 2 == 1), hxd ((s[j].toNat : Int) % 16) ((j : Int) % 2 == 1)] (by rw [hub]; unfold qesc; rw [if_neg (by omega), if_neg (by omega), if_neg (by omega), if_neg hc1, if_neg hc2, if_pos hc])
        have HK : Hid (xs ++ qt (bytesOf s) = (ys ++ [92, 117, 48, 48, hxd ((s[j].toNat : Int) / 16) ((j : Int) % 2 == 1), hxd ((s[j].toNat : Int) % 16) ((j : Int) % 2 == 1)]) ++ (qbody (j + 1) ((bytesOf s).drop (j + 1)) ++ [34])) := KE
        clear hc1 hc2 KE K hub
        go_wp2_with fail
        refine (hexDigit_any ((s[j].toNat : Int) / 16) ((j : Int) % 2 == 1) _ (by omega) (by omega)).mono ?_
        rintro e6 w6 ⟨rfl, rfl⟩
        go_wp2_with fail
        refine (hexDigit_any ((s[j].toNat : Int) % 16) ((j : Int) % 2 == 1) _ (by omega) (by omega)).mono ?_
        rintro e7 w7 ⟨rfl, rfl⟩
        go_wp2_with (at_builtin; refine wpList_app _ rfl (.tmp 60) (.tmp 69) rfl base ao2 cp2 ys rfl (hO.alloc _) ⟨_, 0, none⟩ 6 6 [92, 117, 48, 48, hxd ((s[j].toNat : Int) / 16) ((j : Int) % 2 == 1), hxd ((s[j].toNat : Int) % 16) ((j : Int) % 2 == 1)] rfl rfl (list_news _ _ _ _ rfl) (by simp; omega) (by simp; omega) ?_; intro ao3 cp3 ys3 w3 hX hlx hO3 hB3)
        go_roundg (s.size - (j + 1))
        case measure => have := A.out.1; omega
        case rel =>
          have e := hX.out
          subst e
          exact ⟨j + 1, ao3, cp3, _, by omega, rfl, by go_num, hO3, (hB.alloc hbs _).trans hB3, by have := hB3.size; simp at this; omega, by simp; omega, HK.out⟩
      · have KE := K.out [(s[j].toNat : Int)] (by unfold qesc; rw [if_neg hc1, if_neg hc2, if_neg hc3, if_neg (by omega), if_neg (by omega), if_neg (by omega)])
        have HK : Hid (xs ++ qt (bytesOf s) = (ys ++ [(s[j].toNat : Int)]) ++ (qbody (j + 1) ((bytesOf s).drop (j + 1)) ++ [34])) := KE
        have e1 : ((s[j].toNat : Int) == 34) = false := by simp only [beq_eq_false_iff_ne, ne_eq]; omega
        have e2 : ((s[j].toNat : Int) == 92) = false := by simp only [beq_eq_false_iff_ne, ne_eq]; omega
        have e3 : ((s[j].toNat : Int) == 47) = false := by simp only [beq_eq_false_iff_ne, ne_eq]; omega
        have e4 : ((s[j].toNat : Int) == 10) = false := by simp only [beq_eq_false_iff_ne, ne_eq]; omega
        have e5 : ((s[j].toNat : Int) == 9) = false := by simp only [beq_eq_false_iff_ne, ne_eq]; omega
        clear KE K hc1 hc2 hc3
        go_wp2_with (at_builtin; refine wpList_app _ rfl (.tmp 20) (.tmp 22) rfl base ao2 cp2 ys rfl (hO.alloc _) ⟨_, 0, none⟩ 1 1 [(s[j].toNat : Int)] rfl rfl (list_news _ _ _ _ rfl) (by simp; omega) (by simp; omega) ?_; intro ao3 cp3 ys3 w3 hX hlx hO3 hB3)
        go_roundg (s.size - (j + 1))
        case measure => have := A.out.1; omega
        case rel =>
          have e := hX.out
          subst e
          exact ⟨j + 1, ao3, cp3, _, by omega, rfl, by go_num, hO3, (hB.alloc hbs _).trans hB3, by have := hB3.size; simp at this; omega, by simp; omega, HK.out⟩
    · go_wp2_with (at_builtin; refine wpList_app _ rfl (.tmp 71) (.tmp 72) rfl base ao2 cp2 ys rfl (hO.alloc _) ⟨_, 0, none⟩ 1 1 [34] rfl rfl (list_news _ _ _ _ rfl) (by simp; omega) (by simp; omega) ?_; intro ao3 cp3 ys3 w3 hX hlx hO3 hB3)
      go_ret
      have e := A.out.2
      rw [show (bytesOf s).drop j = [] from List.drop_of_length_le (by rw [bytesOf_len]; omega)] at e
      exact ⟨ao3, cp3, ys3, rfl, ⟨by rw [hX.out, e]; rfl, hO3, (hB.alloc hbs _).trans hB3⟩, by simp at hlx; omega⟩
end Go.Proofs.Qxb6600361a
