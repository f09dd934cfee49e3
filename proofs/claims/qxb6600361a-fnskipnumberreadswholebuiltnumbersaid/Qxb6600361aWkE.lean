import Derived.Test.Qxb6600361aWkD
import Derived.Test.Qxb6600361aBuilt
import Derived.Deep.DeepCutAuto
import Derived.OpenShut
namespace Go.Proofs.Qxb6600361a
open Go.RowKit

/-- THE TEXT AS IT IS BEING BUILT: t holds it; it is the call's own; G holds of its bytes -/
structure Txt (w0 : World) (base n : Nat) (G : List Int → Prop) (t : Value) (w : World) : Prop where
  ex : ∃ ao cp xs, t = .slice ao xs.length cp ∧ Own w base ao cp xs ∧ Below base w0 w ∧ base ≤ w.heap.size ∧ xs.length ≤ n ∧ (∀ c ∈ xs, 0 ≤ c ∧ c ≤ 255) ∧ Hid (G xs)

theorem Txt.of_app {w0 wa w' : World} {base n cp' : Nat} {ao' : Option Addr} {xs xs' ys : List Int} {G : List Int → Prop} (hB : Below base w0 wa) (hB' : Below base wa w') (hb : base ≤ wa.heap.size) (hO' : Own w' base ao' cp' xs') (hX : Hid (xs' = xs ++ ys))
    (hl : xs.length + ys.length ≤ n) (hr : ∀ c ∈ xs, 0 ≤ c ∧ c ≤ 255) (hy : ∀ c ∈ ys, 0 ≤ c ∧ c ≤ 255) (hG : G (xs ++ ys)) : Txt w0 base n G (.slice ao' xs'.length cp') w' := by
  have e := hX.out
  subst e
  refine ⟨ao', cp', _, rfl, hO', hB.trans hB', Nat.le_trans hb hB'.size, by simpa using hl, ?_, hG⟩
  intro c hc
  rcases List.mem_append.1 hc with hc | hc
  · exact hr c hc
  · exact hy c hc
theorem one_rng {c : Int} (h0 : 0 ≤ c) (h1 : c ≤ 255) : ∀ x ∈ [c], 0 ≤ x ∧ x ≤ 255 := by intro x hx; simp at hx; omega
theorem dig_rng {ds : List Int} (h : AllD ds) : ∀ x ∈ ds, 0 ≤ x ∧ x ≤ 255 := by intro x hx; have := h x hx; rw [isD_iff] at this; omega
theorem Dec.intOK {u : Int} {ds : List Int} (h : Dec u ds) : IntOK ds := by
  by_cases hu : u = 0
  · exact ⟨h.ne, h.dig, .inl (h.zero hu)⟩
  · exact ⟨h.ne, h.dig, .inr (h.lead hu)⟩
theorem Dec.leads {u : Int} {ds : List Int} (h : Dec u ds) (hu : u ≠ 0) : Lead ds := ⟨h.ne, h.dig, h.lead hu⟩
/-- what the digits' writer leaves, as the text -/
theorem Txt.of_uint {w0 wa w' : World} {base n cp' : Nat} {ao' : Option Addr} {xs xs' ds : List Int} {u : Int} {G : List Int → Prop} (hB : Below base w0 wa) (hB' : Below base wa w') (hb : base ≤ wa.heap.size) (hO' : Own w' base ao' cp' xs') (hX : Hid (xs' = xs ++ ds ∧ Dec u ds))
    (hl : xs.length + 20 ≤ n) (hr : ∀ c ∈ xs, 0 ≤ c ∧ c ≤ 255) (hG : Dec u ds → G (xs ++ ds)) : Txt w0 base n G (.slice ao' xs'.length cp') w' :=
  Txt.of_app hB hB' hb hO' hX.out.1 (by have := hX.out.2.len; omega) hr (dig_rng hX.out.2.dig) (hG hX.out.2)
theorem num_rng (j : Nat) : 0 ≤ 48 + (j : Int) % 10 ∧ 48 + (j : Int) % 10 ≤ 255 ∧ isD (48 + (j : Int) % 10) = true := by
  refine ⟨by omega, by omega, ?_⟩; rw [isD_iff]; omega

theorem runNumber_fit {da : Option Addr} {zs : List Int} {cap p : Nat} {f : Bool} {w : World} (h : D4 w da zs cap) (hp : p ≤ zs.length) {pi : Int} (hpi : pi = (p : Int)) {r : Bool} {q n : Nat} (hn : num (zs.drop p) = (r, n)) (hq : p + n = q) :
    Calls Try.prog 13 #[.slice da zs.length cap, .int .i64 pi, .bool f] w fun e w' => e = .returned (.tuple #[.bool r, .int .i64 q, .bool f]) ∧ Below w.heap.size w w' := by
  have := runNumber_any da zs cap p f w h hp
  rw [hn] at this
  subst hpi hq
  exact this

set_option maxRecDepth 20000 in
set_option maxHeartbeats 4000000 in
theorem walk6_go (a0 : Bool) (a1 : Int) (a2 : Int) (a3 : Bool) (a4 : Int) (a5 : Int) (a6 : Bool) (a7 : Bool) (a8 : Int) (a9 : Int) (a10 : Int) (a11 : Int) (l1 : 0 ≤ a1) (m1 : a1 < 18446744073709551616) (l2 : 0 ≤ a2) (m2 : a2 ≤ 65535) (l4 : 0 ≤ a4) (m4 : a4 ≤ 65535) (l5 : 0 ≤ a5) (m5 : a5 < 18446744073709551616) (l8 : 0 ≤ a8) (m8 : a8 ≤ 255) (l9 : 0 ≤ a9) (m9 : a9 ≤ 65535) (l10 : 0 ≤ a10) (m10 : a10 < 18446744073709551616) (l11 : 0 ≤ a11) (m11 : a11 ≤ 255)
    (t1 : a11 < 48 ∨ 57 < a11) (t2 : a11 ≠ 46) (t3 : a11 ≠ 101) (t4 : a11 ≠ 69) (w : World) :
    Calls Try.prog 6 #[.bool a0, .int .u64 a1, .int .u16 a2, .bool a3, .int .u16 a4, .int .u64 a5, .bool a6, .bool a7, .int .u8 a8, .int .u16 a9, .int .u64 a10, .int .u8 a11] w fun e w' => e = .returned (.bool true) ∧ Below w.heap.size w w' := by
  have d2 : (a11 == 46) = false := by simpa using t2
  have d3 : (a11 == 101) = false := by simpa using t3
  have d4 : (a11 == 69) = false := by simpa using t4
  have T : Hid (¬ (48 ≤ a11 ∧ a11 ≤ 57) ∧ a11 ≠ 46 ∧ a11 ≠ 101 ∧ a11 ≠ 69) := ⟨by omega, t2, t3, t4⟩
  clear t2 t3 t4
  go_enter Try.func6, Try.ntmps6
  go_upto_region 5 with fail
  go_cut [72] (fun s wx => s = .bool false ∧ w = wx)
  case first =>
    rcases t1 with t1 | t1
    all_goals
      go_wp2
      go_meet
      case rel => exact ⟨by first | rfl | (simp; omega), rfl⟩
  case rest =>
    obtain ⟨rfl, rfl⟩ := hcut
    clear t1 d2 d3 d4
    go_upto_region 7 with fail
    go_cut [25] (fun t wx => Txt w w.heap.size 1 (fun xs => xs = [91]) t wx)
    case first =>
      go_wp2
      go_meet
      case rel => exact ⟨_, _, [91], rfl, World.ownsRow_lit w #[.int .u8 91] 1 (Nat.le_refl _) (by decide) rfl, (Below.refl _ _).alloc (Nat.le_refl _) _, by simp, by simp, by simp, rfl⟩
    case rest =>
     obtain ⟨ao, cp, xs, rfl, hO, hB, hb, hl, hr, hG⟩ := hcut.ex
     clear hcut
     go_upto_if 74 with fail
     go_cut [0, 25] (fun _ t wx => Txt w w.heap.size 2 (fun xs => ∃ sg, (sg = [] ∨ sg = [45]) ∧ xs = 91 :: sg) t wx)
     case first =>
      go_wp2_with (at_builtin; refine wpList_app _ rfl (.tmp 75) (.tmp 76) rfl w.heap.size ao cp xs rfl (hO.alloc _) ⟨_, 0, none⟩ 1 1 [45] rfl rfl (one_news _ _ _) (by simp; omega) (by simp; omega) ?_; intro ao' cp' xs' w' hX hlx hO' hB')
      · go_meet
        case rel => exact Txt.of_app (hB.alloc hb _) hB' (by simp; omega) hO' hX (by simp; omega) hr (one_rng (by omega) (by omega)) ⟨[45], by simp, by rw [hG.out]; rfl⟩
      · go_meet
        case rel => exact ⟨ao, cp, xs, rfl, hO, hB, hb, by omega, hr, ⟨[], by simp, hG.out⟩⟩
     case rest =>
      clear hO hB hb hl hr hG ao cp xs
      obtain ⟨ao, cp, xs, rfl, hO, hB, hb, hl, hr, hG⟩ := hcut.ex
      clear hcut
      go_upto_if 82 with (go_at_call 21; refine (appendUint_any w.heap.size ao cp xs a1 _ hO hb l1 m1 (by omega)).mono ?_; rintro e w1 ⟨ao1, cp1, xs1, ds1, rfl, hX1, hl1, hO1, hB1⟩)
      go_cut [1, 25, 26] (fun _ t _ wx => Txt w w.heap.size 65600 (fun xs => ∃ b, xs = 91 :: b ∧ Ii b) t wx)
      case first =>
        by_cases ha : a1 = 0
        · subst ha
          go_wp2
          go_meet
          case rel =>
            refine Txt.of_uint hB hB1 hb hO1 hX1 (by omega) hr fun hD => ?_
            obtain ⟨sg, hsg, e⟩ := hG.out
            exact ⟨sg ++ ds1, by rw [e]; rfl, Ii_of hsg hD.intOK⟩
        · have ha' : (a1 == 0) = false := by simpa using ha
          have HA : Hid (a1 ≠ 0) := ha
          clear ha
          have HT : Txt w w.heap.size 22 (fun xs => ∃ sg ds, (sg = [] ∨ sg = [45]) ∧ xs = 91 :: (sg ++ ds) ∧ Lead ds) (.slice ao1 xs1.length cp1) w1 := by
            refine Txt.of_uint hB hB1 hb hO1 hX1 (by omega) hr fun hD => ?_
            obtain ⟨sg, hsg, e⟩ := hG.out
            exact ⟨sg, ds1, hsg, by rw [e]; rfl, hD.leads HA.out⟩
          go_wp2_with fail
          clear ha'
          rw [show (a1 != 0) = true from by simpa using HA.out]
          go_loopg [25, 26] a2.toNat (fun k t i wr => ∃ j : Nat, (k : Int) + j = a2 ∧ i = .int .i64 j ∧ Txt w w.heap.size (22 + j) (fun xs => ∃ sg ds, (sg = [] ∨ sg = [45]) ∧ xs = 91 :: (sg ++ ds) ∧ Lead ds) t wr)
          case atStart => exact ⟨0, by omega, rfl, HT⟩
          case round =>
            clear HT hX1 hl1 hO1 hB1 hO hB hb hl hr hG
            obtain ⟨j, hk, rfl, hT⟩ := hrel
            obtain ⟨ao, cp, xs, rfl, hO, hB, hb, hl, hr, hG⟩ := hT.ex
            clear hT
            by_cases hj : (j : Int) < a2
            · obtain ⟨r1, r2, r3⟩ := num_rng j
              have R3 : Hid (isD (48 + (j : Int) % 10) = true) := r3
              clear r3
              go_wp2_with (at_builtin; refine wpList_app _ rfl (.tmp 89) (.tmp 94) rfl w.heap.size ao cp xs rfl (hO.alloc _) ⟨_, 0, none⟩ 1 1 [48 + (j : Int) % 10] rfl rfl (one_news _ _ _) (by simp; omega) (by simp; omega) ?_; intro ao' cp' xs' w' hX hlx hO' hB')
              go_roundg (gk - 1)
              case measure => omega
              case rel =>
                refine ⟨j + 1, by omega, by go_num, Txt.of_app (hB.alloc hb _) hB' (by simp; omega) hO' hX (by simp; omega) hr (one_rng r1 r2) ?_⟩
                obtain ⟨sg, ds, hsg, e, hL⟩ := hG.out
                exact ⟨sg, ds ++ [48 + (j : Int) % 10], hsg, by rw [e]; simp, hL.snoc R3.out⟩
            · go_wp2
              go_meet
              case rel =>
                obtain ⟨sg, ds, hsg, e, hL⟩ := hG.out
                exact ⟨ao, cp, xs, rfl, hO, hB, hb, by omega, hr, ⟨sg ++ ds, e, Ii_of hsg hL.ok⟩⟩
      case rest =>
        clear hX1 hl1 hO1 hB1 hO hB hb hl hr hG
        obtain ⟨ao, cp, xs, rfl, hO, hB, hb, hl, hr, hG⟩ := hcut.ex
        clear hcut
        go_upto_if 96 with fail
        go_cut [3, 25, 27] (fun _ t _ wx => Txt w w.heap.size 131200 (fun xs => ∃ b, xs = 91 :: b ∧ Ff b) t wx)
        case first =>
          cases a3
          · go_wp2
            go_meet
            case rel =>
              obtain ⟨b, e, hI⟩ := hG.out
              exact ⟨ao, cp, xs, rfl, hO, hB, hb, by omega, hr, ⟨b, e, hI.noFrac⟩⟩
          · go_wp2_with (at_builtin; refine wpList_app _ rfl (.tmp 97) (.tmp 98) rfl w.heap.size ao cp xs rfl (hO.alloc _) ⟨_, 0, none⟩ 1 1 [46] rfl rfl (one_news _ _ _) (by simp; omega) (by simp; omega) ?_; intro ao1 cp1 xs1 w1 hX1 hl1 hO1 hB1)
            have HT : Txt w w.heap.size 65601 (fun xs => ∃ b fs, xs = 91 :: (b ++ 46 :: fs) ∧ Ii b ∧ AllD fs) (.slice ao1 xs1.length cp1) w1 := by
              obtain ⟨b, e, hI⟩ := hG.out
              exact Txt.of_app (hB.alloc hb _) hB1 (by simp; omega) hO1 hX1 (by simp; omega) hr (one_rng (by omega) (by omega)) ⟨b, [], by rw [e]; rfl, hI, by intro x hx; simp at hx⟩
            go_loopg [25, 27] a4.toNat (fun k t i wr => ∃ j : Nat, (k : Int) + j = a4 ∧ i = .int .i64 j ∧ Txt w w.heap.size (65601 + j) (fun xs => ∃ b fs, xs = 91 :: (b ++ 46 :: fs) ∧ Ii b ∧ AllD fs) t wr)
            case atStart => exact ⟨0, by omega, rfl, HT⟩
            case round =>
              clear HT hX1 hl1 hO1 hB1 hO hB hb hl hr hG
              obtain ⟨j, hk, rfl, hT⟩ := hrel
              obtain ⟨ao, cp, xs, rfl, hO, hB, hb, hl, hr, hG⟩ := hT.ex
              clear hT
              by_cases hj : (j : Int) < a4
              · go_wp2_with (at_builtin; refine wpList_app _ rfl (.tmp 106) (.tmp 107) rfl w.heap.size ao cp xs rfl (hO.alloc _) ⟨_, 0, none⟩ 1 1 [48] rfl rfl (one_news _ _ _) (by simp; omega) (by simp; omega) ?_; intro ao' cp' xs' w' hX hlx hO' hB')
                go_roundg (gk - 1)
                case measure => omega
                case rel =>
                  refine ⟨j + 1, by omega, by go_num, Txt.of_app (hB.alloc hb _) hB' (by simp; omega) hO' hX (by simp; omega) hr (one_rng (by omega) (by omega)) ?_⟩
                  obtain ⟨b, fs, e, hI, hA⟩ := hG.out
                  exact ⟨b, fs ++ [48], by rw [e]; simp, hI, hA.snoc (by rfl)⟩
              · go_wp2_with (go_at_call 21; refine (appendUint_any w.heap.size ao cp xs a5 _ hO hb l5 m5 (by omega)).mono ?_; rintro e w1 ⟨ao1, cp1, xs1, ds1, rfl, hX1, hl1, hO1, hB1⟩)
                go_meet
                case rel =>
                  refine Txt.of_uint hB hB1 hb hO1 hX1 (by omega) hr fun hD => ?_
                  obtain ⟨b, fs, e, hI, hA⟩ := hG.out
                  exact ⟨b ++ 46 :: (fs ++ ds1), by rw [e]; simp, hI.frac (hA.append hD.dig) (by simp [hD.ne])⟩
        case rest =>
          clear hO hB hb hl hr hG
          obtain ⟨ao, cp, xs, rfl, hO, hB, hb, hl, hr, hG⟩ := hcut.ex
          clear hcut
          go_upto_if 112 with fail
          go_cut [6, 7, 25, 28] (fun _ _ t _ wx => Txt w w.heap.size 200000 (fun xs => ∃ b, xs = 91 :: b ∧ Ee b) t wx)
          case first =>
            cases a6
            · go_wp2
              go_meet
              case rel =>
                obtain ⟨b, e, hI⟩ := hG.out
                exact ⟨ao, cp, xs, rfl, hO, hB, hb, by omega, hr, ⟨b, e, hI.noExp⟩⟩
            · go_upto_if 113 with fail
              go_cut [7, 25] (fun _ t wx => Txt w w.heap.size 131201 (fun xs => ∃ b c, xs = 91 :: (b ++ [c]) ∧ Ff b ∧ (c = 101 ∨ c = 69)) t wx)
              case first =>
                cases a7
                · go_wp2_with (at_builtin; refine wpList_app _ rfl (.tmp 117) (.tmp 118) rfl w.heap.size ao cp xs rfl (hO.alloc _) ⟨_, 0, none⟩ 1 1 [101] rfl rfl (one_news _ _ _) (by simp; omega) (by simp; omega) ?_; intro ao' cp' xs' w' hX hlx hO' hB')
                  go_meet
                  case rel =>
                    obtain ⟨b, e, hI⟩ := hG.out
                    exact Txt.of_app (hB.alloc hb _) hB' (by simp; omega) hO' hX (by simp; omega) hr (one_rng (by omega) (by omega)) ⟨b, 101, by rw [e]; rfl, hI, .inl rfl⟩
                · go_wp2_with (at_builtin; refine wpList_app _ rfl (.tmp 114) (.tmp 115) rfl w.heap.size ao cp xs rfl (hO.alloc _) ⟨_, 0, none⟩ 1 1 [69] rfl rfl (one_news _ _ _) (by simp; omega) (by simp; omega) ?_; intro ao' cp' xs' w' hX hlx hO' hB')
                  go_meet
                  case rel =>
                    obtain ⟨b, e, hI⟩ := hG.out
                    exact Txt.of_app (hB.alloc hb _) hB' (by simp; omega) hO' hX (by simp; omega) hr (one_rng (by omega) (by omega)) ⟨b, 69, by rw [e]; rfl, hI, .inr rfl⟩
              case rest =>
                clear hO hB hb hl hr hG
                obtain ⟨ao, cp, xs, rfl, hO, hB, hb, hl, hr, hG⟩ := hcut.ex
                clear hcut
                rcases (show a8 % 3 = 0 ∨ a8 % 3 = 1 ∨ a8 % 3 = 2 by omega) with hs | hs | hs
                · have e1 : (a8 % 3 == 1) = false := by rw [hs]; rfl
                  have e2 : (a8 % 3 == 2) = false := by rw [hs]; rfl
                  clear hs
                  go_wp2_with fail
                  have HT : Txt w w.heap.size 131202 (fun xs => ∃ b c sg es, xs = 91 :: (b ++ c :: (sg ++ es)) ∧ Ff b ∧ (c = 101 ∨ c = 69) ∧ (sg = [] ∨ sg = [43] ∨ sg = [45]) ∧ AllD es) (.slice ao xs.length cp) wc := by
                    obtain ⟨b, c, e, hF, hc⟩ := hG.out
                    exact ⟨ao, cp, xs, rfl, hO, hB, hb, by omega, hr, ⟨b, c, [], [], by rw [e]; rfl, hF, hc, by simp, by intro x hx; simp at hx⟩⟩
                  go_loopg [25, 28] a9.toNat (fun k t i wr => ∃ j : Nat, (k : Int) + j = a9 ∧ i = .int .i64 j ∧ Txt w w.heap.size (131202 + j) (fun xs => ∃ b c sg es, xs = 91 :: (b ++ c :: (sg ++ es)) ∧ Ff b ∧ (c = 101 ∨ c = 69) ∧ (sg = [] ∨ sg = [43] ∨ sg = [45]) ∧ AllD es) t wr)
                  case atStart => exact ⟨0, by omega, rfl, HT⟩
                  case round =>
                    clear HT hO hB hb hl hr hG
                    obtain ⟨j, hk, rfl, hT⟩ := hrel
                    obtain ⟨ao, cp, xs, rfl, hO, hB, hb, hl, hr, hG⟩ := hT.ex
                    clear hT
                    by_cases hj : (j : Int) < a9
                    · go_wp2_with (at_builtin; refine wpList_app _ rfl (.tmp 138) (.tmp 139) rfl w.heap.size ao cp xs rfl (hO.alloc _) ⟨_, 0, none⟩ 1 1 [48] rfl rfl (one_news _ _ _) (by simp; omega) (by simp; omega) ?_; intro ao1 cp1 xs1 w1 hX1 hl1 hO1 hB1)
                      go_roundg (gk - 1)
                      case measure => omega
                      case rel =>
                        refine ⟨j + 1, by omega, by go_num, Txt.of_app (hB.alloc hb _) hB1 (by simp; omega) hO1 hX1 (by simp; omega) hr (one_rng (by omega) (by omega)) ?_⟩
                        obtain ⟨b, c, sg, es, e, hF, hc, hsg, hA⟩ := hG.out
                        exact ⟨b, c, sg, es ++ [48], by rw [e]; simp, hF, hc, hsg, hA.snoc (by rfl)⟩
                    · go_wp2_with (go_at_call 21; refine (appendUint_any w.heap.size ao cp xs a10 _ hO hb l10 m10 (by omega)).mono ?_; rintro e w1 ⟨ao1, cp1, xs1, ds1, rfl, hX1, hl1, hO1, hB1⟩)
                      go_meet
                      case rel =>
                        refine Txt.of_uint hB hB1 hb hO1 hX1 (by omega) hr fun hD => ?_
                        obtain ⟨b, c, sg, es, e, hF, hc, hsg, hA⟩ := hG.out
                        exact ⟨b ++ c :: (sg ++ (es ++ ds1)), by rw [e]; simp, hF.exp hc hsg (hA.append hD.dig) (by simp [hD.ne])⟩
                · go_wp2_with (at_builtin; refine wpList_app _ rfl (.tmp 124) (.tmp 125) rfl w.heap.size ao cp xs rfl (hO.alloc _) ⟨_, 0, none⟩ 1 1 [43] rfl rfl (one_news _ _ _) (by simp; omega) (by simp; omega) ?_; intro ao1 cp1 xs1 w1 hX1 hl1 hO1 hB1)
                  have HT : Txt w w.heap.size 131202 (fun xs => ∃ b c sg es, xs = 91 :: (b ++ c :: (sg ++ es)) ∧ Ff b ∧ (c = 101 ∨ c = 69) ∧ (sg = [] ∨ sg = [43] ∨ sg = [45]) ∧ AllD es) (.slice ao1 xs1.length cp1) w1 := by
                    obtain ⟨b, c, e, hF, hc⟩ := hG.out
                    exact Txt.of_app (hB.alloc hb _) hB1 (by simp; omega) hO1 hX1 (by simp; omega) hr (one_rng (by omega) (by omega)) ⟨b, c, [43], [], by rw [e]; simp, hF, hc, by simp, by intro x hx; simp at hx⟩
                  clear hX1 hl1 hO1 hB1
                  go_loopg [25, 28] a9.toNat (fun k t i wr => ∃ j : Nat, (k : Int) + j = a9 ∧ i = .int .i64 j ∧ Txt w w.heap.size (131202 + j) (fun xs => ∃ b c sg es, xs = 91 :: (b ++ c :: (sg ++ es)) ∧ Ff b ∧ (c = 101 ∨ c = 69) ∧ (sg = [] ∨ sg = [43] ∨ sg = [45]) ∧ AllD es) t wr)
                  case atStart => exact ⟨0, by omega, rfl, HT⟩
                  case round =>
                    clear HT hO hB hb hl hr hG
                    obtain ⟨j, hk, rfl, hT⟩ := hrel
                    obtain ⟨ao, cp, xs, rfl, hO, hB, hb, hl, hr, hG⟩ := hT.ex
                    clear hT
                    by_cases hj : (j : Int) < a9
                    · go_wp2_with (at_builtin; refine wpList_app _ rfl (.tmp 138) (.tmp 139) rfl w.heap.size ao cp xs rfl (hO.alloc _) ⟨_, 0, none⟩ 1 1 [48] rfl rfl (one_news _ _ _) (by simp; omega) (by simp; omega) ?_; intro ao1 cp1 xs1 w1 hX1 hl1 hO1 hB1)
                      go_roundg (gk - 1)
                      case measure => omega
                      case rel =>
                        refine ⟨j + 1, by omega, by go_num, Txt.of_app (hB.alloc hb _) hB1 (by simp; omega) hO1 hX1 (by simp; omega) hr (one_rng (by omega) (by omega)) ?_⟩
                        obtain ⟨b, c, sg, es, e, hF, hc, hsg, hA⟩ := hG.out
                        exact ⟨b, c, sg, es ++ [48], by rw [e]; simp, hF, hc, hsg, hA.snoc (by rfl)⟩
                    · go_wp2_with (go_at_call 21; refine (appendUint_any w.heap.size ao cp xs a10 _ hO hb l10 m10 (by omega)).mono ?_; rintro e w1 ⟨ao1, cp1, xs1, ds1, rfl, hX1, hl1, hO1, hB1⟩)
                      go_meet
                      case rel =>
                        refine Txt.of_uint hB hB1 hb hO1 hX1 (by omega) hr fun hD => ?_
                        obtain ⟨b, c, sg, es, e, hF, hc, hsg, hA⟩ := hG.out
                        exact ⟨b ++ c :: (sg ++ (es ++ ds1)), by rw [e]; simp, hF.exp hc hsg (hA.append hD.dig) (by simp [hD.ne])⟩
                · go_wp2_with (at_builtin; refine wpList_app _ rfl (.tmp 129) (.tmp 130) rfl w.heap.size ao cp xs rfl (hO.alloc _) ⟨_, 0, none⟩ 1 1 [45] rfl rfl (one_news _ _ _) (by simp; omega) (by simp; omega) ?_; intro ao1 cp1 xs1 w1 hX1 hl1 hO1 hB1)
                  have HT : Txt w w.heap.size 131202 (fun xs => ∃ b c sg es, xs = 91 :: (b ++ c :: (sg ++ es)) ∧ Ff b ∧ (c = 101 ∨ c = 69) ∧ (sg = [] ∨ sg = [43] ∨ sg = [45]) ∧ AllD es) (.slice ao1 xs1.length cp1) w1 := by
                    obtain ⟨b, c, e, hF, hc⟩ := hG.out
                    exact Txt.of_app (hB.alloc hb _) hB1 (by simp; omega) hO1 hX1 (by simp; omega) hr (one_rng (by omega) (by omega)) ⟨b, c, [45], [], by rw [e]; simp, hF, hc, by simp, by intro x hx; simp at hx⟩
                  clear hX1 hl1 hO1 hB1
                  go_loopg [25, 28] a9.toNat (fun k t i wr => ∃ j : Nat, (k : Int) + j = a9 ∧ i = .int .i64 j ∧ Txt w w.heap.size (131202 + j) (fun xs => ∃ b c sg es, xs = 91 :: (b ++ c :: (sg ++ es)) ∧ Ff b ∧ (c = 101 ∨ c = 69) ∧ (sg = [] ∨ sg = [43] ∨ sg = [45]) ∧ AllD es) t wr)
                  case atStart => exact ⟨0, by omega, rfl, HT⟩
                  case round =>
                    clear HT hO hB hb hl hr hG
                    obtain ⟨j, hk, rfl, hT⟩ := hrel
                    obtain ⟨ao, cp, xs, rfl, hO, hB, hb, hl, hr, hG⟩ := hT.ex
                    clear hT
                    by_cases hj : (j : Int) < a9
                    · go_wp2_with (at_builtin; refine wpList_app _ rfl (.tmp 138) (.tmp 139) rfl w.heap.size ao cp xs rfl (hO.alloc _) ⟨_, 0, none⟩ 1 1 [48] rfl rfl (one_news _ _ _) (by simp; omega) (by simp; omega) ?_; intro ao1 cp1 xs1 w1 hX1 hl1 hO1 hB1)
                      go_roundg (gk - 1)
                      case measure => omega
                      case rel =>
                        refine ⟨j + 1, by omega, by go_num, Txt.of_app (hB.alloc hb _) hB1 (by simp; omega) hO1 hX1 (by simp; omega) hr (one_rng (by omega) (by omega)) ?_⟩
                        obtain ⟨b, c, sg, es, e, hF, hc, hsg, hA⟩ := hG.out
                        exact ⟨b, c, sg, es ++ [48], by rw [e]; simp, hF, hc, hsg, hA.snoc (by rfl)⟩
                    · go_wp2_with (go_at_call 21; refine (appendUint_any w.heap.size ao cp xs a10 _ hO hb l10 m10 (by omega)).mono ?_; rintro e w1 ⟨ao1, cp1, xs1, ds1, rfl, hX1, hl1, hO1, hB1⟩)
                      go_meet
                      case rel =>
                        refine Txt.of_uint hB hB1 hb hO1 hX1 (by omega) hr fun hD => ?_
                        obtain ⟨b, c, sg, es, e, hF, hc, hsg, hA⟩ := hG.out
                        exact ⟨b ++ c :: (sg ++ (es ++ ds1)), by rw [e]; simp, hF.exp hc hsg (hA.append hD.dig) (by simp [hD.ne])⟩
          case rest =>
            clear hO hB hb hl hr hG
            obtain ⟨ao, cp, xs, rfl, hO, hB, hb, hl, hr, hG⟩ := hcut.ex
            clear hcut
            obtain ⟨b, e, hE⟩ := hG.out
            have N : Hid (1 + (xs.length - 1) = xs.length) := by rw [e]; show 1 + (b.length + 1 - 1) = b.length + 1; omega
            have D : Hid (∀ w1 ao1 cp1 xs1, Hid (xs1 = xs ++ [a11]) → Own w1 w.heap.size ao1 cp1 xs1 → D4 w1 ao1 xs1 cp1) := by
              intro w1 ao1 cp1 xs1 hX hO
              have e1 := hX.out
              subst e1
              refine (hO.data ?_ (by simp; omega)).1
              intro c hc
              rcases List.mem_append.1 hc with hc | hc
              · exact hr c hc
              · simp at hc; omega
            have L : Hid (∀ xs1, Hid (xs1 = xs ++ [a11]) → 1 ≤ xs1.length ∧ num (xs1.drop 1) = (true, xs.length - 1)) := by
              intro xs1 hX
              have e1 := hX.out
              subst e1
              refine ⟨by simp, ?_⟩
              rw [e]
              have := hE.reads T.out.1 T.out.2.1 T.out.2.2.1 T.out.2.2.2
              simpa using this
            clear e hE hG
            go_wp2_with (first
              | (at_builtin; refine wpList_app _ rfl (.tmp 146) (.tmp 148) rfl w.heap.size ao cp xs rfl (hO.alloc _) ⟨_, 0, none⟩ 1 1 [a11] rfl rfl (one_news _ _ _) (by simp; omega) (by simp; omega) ?_; intro ao1 cp1 xs1 w1 hX1 hl1 hO1 hB1)
              | (go_at_call 13; refine (runNumber_fit (p := 1) (r := true) (q := xs.length) (n := xs.length - 1) (D.out w1 ao1 cp1 xs1 hX1 hO1) (L.out xs1 hX1).1 rfl (L.out xs1 hX1).2 N.out).mono ?_; rintro e w2 ⟨rfl, hB2⟩))
            go_ret
            exact ⟨rfl, (((hB.alloc hb _).trans hB1).trans (hB2.mono (by have := hB1.size; simp at this; omega)))⟩
end Go.Proofs.Qxb6600361a
