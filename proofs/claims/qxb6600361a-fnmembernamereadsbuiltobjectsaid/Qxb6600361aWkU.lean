import Derived.Test.Qxb6600361aWkT
import Derived.Deep.DeepCutAuto
import Derived.Deep.RegionWith
namespace Go.Proofs.Qxb6600361a
open Go.RowKit

theorem D4.rd {w : World} {da : Option Addr} {zs : List Int} {cap : Nat} (h : D4 w da zs cap) : Rd w da zs := by
  intro j hj
  obtain ⟨g, e, hc⟩ := h.dat j hj
  exact ⟨g, 0, e, fun t ht => by rw [Nat.zero_add]; exact hc t ht⟩
theorem bytesEqual_two {a b : Option Addr} {c d n m : Nat} {xs : List Int} {w : World} (hn : xs.length = n) (hm : xs.length = m) (ha : Rd w a xs) (hb : Rd w b xs) (hl : n ≤ 1099511627776) :
    Calls Try.prog 20 #[.slice a n c, .slice b m d] w fun e w' => e = .returned (.bool true) ∧ ∃ n, w' = w.drewN n := by
  subst hn hm; exact bytesEqual_same a b c d xs w ha hb hl
theorem skipNum_fit {w0 w : World} {b : Nat} {da : Option Addr} {zs : List Int} {cap p q : Nat} {f : Bool} (h : T4 w0 w b da zs cap p f) (hn : num (zs.drop p) = (true, q - p)) (hq : p ≤ q) :
    Calls Try.prog 28 #[.pointer (some ⟨b, 0, none⟩)] w fun e w' => e = .returned (.bool true) ∧ T4 w0 w' b da zs cap q f := by
  refine (zzSkipNumber_any h.st).mono ?_
  rintro e w' ⟨he, hs, hg⟩
  rw [hn] at he hs
  rw [show p + (true, q - p).2 = q from by show p + (q - p) = q; omega] at hs
  exact ⟨he, h.call hs hg⟩
theorem isVec_below {w w' : World} {a : Option Addr} {len cap : Nat} {f : Nat → Value} (h : IsVec w a len cap f) (hb : Below w.heap.size w w') : IsVec w' a len cap f := by
  rcases h with h | ⟨x, e, h1, h2, h3⟩
  · exact .inl h
  · exact .inr ⟨x, e, h1, h2, fun i hi => (hb.cell (p := x.add i) (World.block_lt_of_cell? w _ (h3 i hi))).trans (h3 i hi)⟩

set_option maxRecDepth 20000 in
set_option maxHeartbeats 8000000 in
theorem walk7_go {a0 a1 : Option Addr} {n0 c0 n1 c1 : Nat} (ss : Nat → ByteArray) (vs : Nat → Int) (sp : Int) {w : World} (hN : IsVec w a0 n0 c0 (fun i => .string (ss i))) (hV : IsVec w a1 n1 c1 (fun i => .int .i64 (vs i)))
    (hs : ∀ i, i < n0 → (ss i).size ≤ 9223372036854775807) (hv : ∀ i, i < n1 → -9223372036854775808 ≤ vs i ∧ vs i ≤ 9223372036854775807) (p0 : 0 ≤ sp) (p1 : sp ≤ 255) (h0 : n0 ≤ 65536) (h1 : n1 ≤ 65536) (h2 : 48 * n0 + 8 * n1 ≤ 1048576) :
    Calls Try.prog 7 #[.slice a0 n0 c0, .slice a1 n1 c1, .int .u8 sp] w fun e w' => e = .returned (.bool true) ∧ Below w.heap.size w w' := by
  have HN : Hid (IsVec w a0 n0 c0 (fun i => .string (ss i)) ∧ IsVec w a1 n1 c1 (fun i => .int .i64 (vs i)) ∧ (∀ i, i < n0 → (ss i).size ≤ 9223372036854775807) ∧ (∀ i, i < n1 → -9223372036854775808 ≤ vs i ∧ vs i ≤ 9223372036854775807)) := ⟨hN, hV, hs, hv⟩
  clear hN hV hs hv
  go_enter Try.func7, Try.ntmps7
  go_upto_if 42 with (go_at_call 22; refine (size22_any ss HN.out.1 HN.out.2.2.1 (by omega) _).mono ?_; rintro e w1 ⟨r, rfl, hw1⟩; have hw2 := hw1.symm; subst hw2)
  · go_ret
    exact ⟨rfl, Below.refl _ _⟩
  · go_cut [25, 24] (fun _ _ wx => w = wx)
    case first =>
      go_wp2
      go_meet
      case rel => rfl
    case rest =>
      subst hcut
      go_wp2
      go_loopg [7, 8] n0 (fun k z i wr => ∃ j t : Nat, k + j = n0 ∧ t ≤ 1048576 ∧ z = .int .i64 t ∧ i = .int .i64 j ∧ (∀ x, x < j → (ss x).size ≤ 1048576) ∧ w = wr)
      case atStart => exact ⟨0, 48 * n0 + 8 * n1, by omega, h2, by go_num, rfl, fun x hx => by omega, rfl⟩
      case round =>
        obtain ⟨j, t, hk, ht, rfl, rfl, hx, rfl⟩ := hrel
        have HK : Hid (gk + j = n0 ∧ ∀ x, x < j → (ss x).size ≤ 1048576) := ⟨hk, hx⟩
        have hj' : j ≤ n0 := by omega
        clear hk hx
        by_cases hj : j < n0
        · obtain ⟨x, off, rfl, hc, hlc⟩ := HN.out.1.elem hj
          have hsj := HN.out.2.2.1 j hj
          have hji : (j : Int) < (n0 : Int) := by omega
          by_cases h3 : (ss j).size ≤ 1048576
          · by_cases h4 : t + 6 * (ss j).size ≤ 1048576
            · go_wp2
              go_roundg (n0 - (j + 1))
              case measure => have := HK.out.1; omega
              case rel =>
                refine ⟨j + 1, t + 6 * (ss j).size, by omega, h4, by go_num, by go_num, fun x hx => ?_, rfl⟩
                by_cases e : x = j
                · subst e; exact h3
                · exact HK.out.2 x (by omega)
            · have h4' : (1048576 : Int) < (t : Int) + 6 * ((ss j).size : Int) := by omega
              go_wp2
              go_ret
              exact ⟨rfl, Below.refl _ _⟩
          · have h3' : (1048576 : Int) < ((ss j).size : Int) := by omega
            go_wp2
            go_ret
            exact ⟨rfl, Below.refl _ _⟩
        · have ej : n0 = j := by omega
          subst ej
          have hss := HK.out.2
          have HS : Hid (∀ x, x < n0 → (ss x).size ≤ 1048576) := hss
          clear hss HK hj hj'
          go_upto_if 74 with (first
            | (go_at_call 23; refine (cloneStrings_any ss HN.out.1 (by omega)).mono ?_; rintro e w1 ⟨dn, cn, rfl, hVn, hBn⟩)
            | (go_at_call 24; refine (cloneInts_any vs (isVec_below HN.out.2.1 hBn) (by omega)).mono ?_; rintro e w2 ⟨dv, cv, rfl, hVv, hBv⟩))
          go_cut [9] (fun t wx => ∃ n : Nat, t = .int .i64 n ∧ n ≤ n0 ∧ n ≤ n1 ∧ w2 = wx)
          case first =>
            by_cases hlt : n1 < n0
            · go_wp2
              go_meet
              case rel => exact ⟨n1, rfl, by omega, by omega, rfl⟩
            · go_wp2
              go_meet
              case rel => exact ⟨n0, rfl, by omega, by omega, rfl⟩
          case rest =>
            obtain ⟨n, rfl, hn0, hn1, rfl⟩ := hcut
            obtain ⟨i3, hi, hz0, hz1, hz2⟩ := info_parts info3
            have hVn' := hVn.below hBv
            have hB2 := hBn.trans (hBv.mono hBn.size)
            have HV : Hid (Vec w2 dn n0 (fun i => .string (ss i)) ∧ Vec w2 dv n1 (fun i => .int .i64 (vs i)) ∧ Below w.heap.size w w2) := ⟨hVn', hVv, hB2⟩
            clear hVn hVn' hVv hBn hBv hB2
            go_upto_region 23 with (first
              | (at_make; refine wpList_make_full _ rfl (.tmp 77) (.tmp 77) 49 rfl w2.heap.size 3 i3 (.int .i64 0) 1 Try.underlying49 hi hz0 hz1 .i64 .i64 _ _ n rfl rfl rfl rfl (by rw [hz2]; omega) (by unfold maxLen; omega) (Nat.le_refl _) ?_; intro w3 hown3 hgrow3)
              | (at_make; refine wpList_make_full _ rfl (.tmp 79) (.tmp 79) 49 rfl w3.heap.size 3 i3 (.int .i64 0) 1 Try.underlying49 hi hz0 hz1 .i64 .i64 _ _ n rfl rfl rfl rfl (by rw [hz2]; omega) (by unfold maxLen; omega) (Nat.le_refl _) ?_; intro w4 hown4 hgrow4))
            have hA3 : Arr w3 w2.heap.size n 0 (fun _ => 0) := Arr.made hown3 _
            have hA4 : Arr w4 w2.heap.size n 0 (fun _ => 0) := hA3.keep (hgrow4.block _ hA3.lt (by simp))
            have hB4 : Arr w4 w3.heap.size n 0 (fun _ => 0) := Arr.made hown4 _
            have hb34 : Below w2.heap.size w2 w4 := ((Below.refl _ _).grown hgrow3 (Nat.le_refl _) (fun k hk => by cases hk)).grown hgrow4 hgrow3.size (fun k hk => by cases hk)
            obtain ⟨A, hA⟩ : ∃ A, A = w2.heap.size := ⟨_, rfl⟩
            obtain ⟨B, hB⟩ : ∃ B, B = w3.heap.size := ⟨_, rfl⟩
            obtain ⟨base, hbase⟩ : ∃ base, base = w4.heap.size := ⟨_, rfl⟩
            have hlt1 := hA3.lt
            have hlt2 := hB4.lt
            rw [← hA] at hA3 hA4 hb34 hlt1
            rw [← hB] at hB4 hlt1 hlt2
            rw [← hbase] at hlt2
            rw [← hA, ← hB]
            have HA : Hid (Arr w4 A n 0 (fun _ => 0) ∧ Arr w4 B n 0 (fun _ => 0) ∧ Below A w2 w4 ∧ A = w2.heap.size ∧ base = w4.heap.size) := ⟨hA4, hB4, hb34, hA, hbase⟩
            clear hA3 hA4 hB4 hb34 hA hB hbase hown3 hown4 hgrow3 hgrow4 hz0 hz1 hz2 hi
            go_cut [12] (fun t wx => ∃ ao cp xs, t = .slice ao xs.length cp ∧ Own wx base ao cp xs ∧ Below base w4 wx ∧ base ≤ wx.heap.size ∧ xs.length ≤ 1 ∧ Hid (xs = [123]))
            case first =>
              go_wp2
              go_meet
              case rel =>
                have hbw := HA.out.2.2.2.2
                exact ⟨_, _, [123], rfl, World.ownsRow_lit w4 #[.int .u8 123] 1 (by omega) (by decide) rfl, (Below.refl _ _).alloc (by omega) _, by simp; omega, by simp, rfl⟩
            case rest =>
              obtain ⟨ao, cp, xs, rfl, hO, hb4, hbs, hl, hX⟩ := hcut
              go_wp2_with (go_at_call 25; refine (appendSpace_any hO hbs (by omega) sp 0 p0 p1 (by omega) (by omega)).mono ?_; rintro e w5 ⟨ao5, cp5, xs5, s5, rfl, hG5, hl5⟩)
              have HL : L2 w2 A B base n 0 ss (fun _ => 0) (fun _ => 0) ao5 cp5 xs5 w5 := by
                obtain ⟨⟨e5, o5, b5⟩, as5, ls5⟩ := hG5.out
                obtain ⟨k1, k2, k3, k4, k5⟩ := HA.out
                have b45 := hb4.trans b5
                have e5' : xs5 = 123 :: s5 := by rw [e5, hX.out]; rfl
                refine ⟨o5, k3.trans (b45.mono (by omega)), k1.below b45 (by omega), k2.below b45 (by omega), ⟨by omega, by omega, by have := b5.size; omega⟩, ?_, ?_, ?_⟩
                · rw [e5']; exact Inv.zero as5
                · rw [e5']
                  intro c hc
                  rcases List.mem_cons.1 hc with rfl | hc
                  · omega
                  · exact as5.rng c hc
                · rw [e5']; simp; omega
              clear hO hb4 hbs hl hX hG5 hl5
              go_loopg [12, 13, 14] n (fun k t q i wr => ∃ (j qn : Nat) (S E : Nat → Nat) (ao : Option Addr) (cp : Nat) (xs : List Int), k + j = n ∧ t = .slice ao xs.length cp ∧ q = .int .i64 qn ∧ i = .int .i64 j ∧ qn ≤ 3 * j + 1 ∧ L2 w2 A B base n j ss S E ao cp xs wr)
              case atStart => exact ⟨0, 1, fun _ => 0, fun _ => 0, ao5, cp5, xs5, by omega, rfl, rfl, rfl, by omega, HL⟩
              case round =>
                clear HL
                obtain ⟨j, qn, S, E, ao, cp, xs, hk, rfl, rfl, rfl, hq, hL⟩ := hrel
                have HK : Hid (gk + j = n ∧ L2 w2 A B base n j ss S E ao cp xs wr) := ⟨hk, hL⟩
                have hj' : j ≤ n := by omega
                have hxl : xs.length ≤ 412320000000 := Nat.le_trans hL.len (memMax_le (by omega))
                have hbs := hL.ab.2.2
                have hO := hL.own
                clear hk hL
                by_cases hj : j < n
                · have hji : (j : Int) < (n : Int) := by omega
                  go_upto_if 94 with fail
                  go_cut [12, 13] (fun t q wx => ∃ (ao1 : Option Addr) (cp1 : Nat) (ys pre : List Int) (q1 : Nat), t = .slice ao1 ys.length cp1 ∧ q = .int .i64 q1 ∧ q1 ≤ 3 * j + 2 ∧ Own wx base ao1 cp1 ys ∧ Below base wr wx ∧ base ≤ wx.heap.size ∧ ys.length ≤ xs.length + 5 ∧ Hid (ys = xs ++ pre ∧ Pre j pre))
                  case first =>
                    by_cases h0j : 0 < j
                    · go_wp2_with (first
                        | (at_builtin; refine wpList_app _ rfl (.tmp 95) (.tmp 96) rfl base ao cp xs rfl (hO.alloc _) ⟨_, 0, none⟩ 1 1 [44] rfl rfl (list_news _ _ _ _ rfl) (by simp; omega) (by simp; omega) ?_; intro ao2 cp2 ys2 v2 hX2 hl2 hO2 hB2; have hs2 := hB2.size; simp at hs2)
                        | (go_at_call 25; refine (appendSpace_any hO2 (by omega) (by simp at hl2; omega) sp qn p0 p1 (by omega) (by omega)).mono ?_; rintro e v3 ⟨ao3, cp3, ys3, s3, rfl, hG3, hl3⟩))
                      go_meet
                      case rel =>
                        obtain ⟨⟨e3, o3, b3⟩, as3, ls3⟩ := hG3.out
                        have hs3 := b3.size
                        refine ⟨ao3, cp3, ys3, 44 :: s3, qn + 1, rfl, by go_num, by omega, o3, ((Below.refl _ _).alloc hbs _).trans (hB2.trans b3), by omega, by simp at hl2; omega, ⟨by rw [e3, hX2.out]; simp, .inr ⟨h0j, s3, as3, rfl⟩⟩⟩
                    · go_wp2
                      go_meet
                      case rel => exact ⟨ao, cp, xs, [], qn, rfl, rfl, by omega, hO, Below.refl _ _, hbs, by omega, ⟨by simp, .inl ⟨by omega, rfl⟩⟩⟩
                  case rest =>
                    obtain ⟨ao1, cp1, ys, pre, q1, rfl, rfl, hq1, hO1, hB1, hbs1, hly, hY⟩ := hcut
                    obtain ⟨gN, eN, hcN⟩ := HV.out.1 j (by omega)
                    obtain ⟨gV, eV, hcV⟩ := HV.out.2.1 j (by omega)
                    subst eN eV
                    have hgN : gN < A := by rw [HA.out.2.2.2.1]; exact World.block_lt_of_cell? w2 _ hcN
                    have hgV : gV < A := by rw [HA.out.2.2.2.1]; exact World.block_lt_of_cell? w2 _ hcV
                    have hcN1 : wc.cell? ⟨gN, j, none⟩ = some (.string (ss j)) := by
                      rw [hB1.cell (p := ⟨gN, j, none⟩) (by have := HK.out.2.ab; simp; omega), HK.out.2.bel.cell (p := ⟨gN, j, none⟩) hgN]; exact hcN
                    have hsj := HS.out j (by omega)
                    have HcV : Hid (w2.cell? ⟨gV, j, none⟩ = some (.int .i64 (vs j))) := hcV
                    have hn0i : (j : Int) < (n0 : Int) := by omega
                    have hn1i : (j : Int) < (n1 : Int) := by omega
                    clear hcN hcV hO
                    go_wp2_with fail
                    refine (appendQuoted_any hO1 hbs1 (by omega) (ss j) hsj).mono ?_
                    rintro e2 v2 ⟨ao2, cp2, ys2, rfl, hG2, hl2⟩
                    have hs2 := hG2.out.bel.size
                    go_wp2_with fail
                    refine (appendSpace_any hG2.out.own (by omega) (by omega) sp q1 p0 p1 (by omega) (by omega)).mono ?_
                    rintro e3 v3 ⟨ao3, cp3, ys3, s3, rfl, hG3, hl3⟩
                    have hs3 := hG3.out.1.bel.size
                    go_upto_region 38 with (at_builtin; refine wpList_app _ rfl (.tmp 116) (.tmp 117) rfl base ao3 cp3 ys3 rfl (hG3.out.1.own.alloc _) ⟨_, 0, none⟩ 1 1 [58] rfl rfl (list_news _ _ _ _ rfl) (by simp; omega) (by simp; omega) ?_; intro ao4 cp4 ys4 v4 hX4 hl4 hO4 hB4; have hs4 := hB4.size; simp at hs4 hl4)
                    have hB14 : Below base wr v4 := (hB1.trans (hG2.out.bel.trans hG3.out.1.bel)).trans (((Below.refl base v3).alloc (by omega) _).trans hB4)
                    have hY4 : Hid (ys4 = xs ++ pre ++ qt (bytesOf (ss j)) ++ s3 ++ [58] ∧ Pre j pre ∧ AllS s3) := ⟨by rw [hX4.out, hG3.out.1.eq, hG2.out.eq, hY.out.1], hY.out.2, hG3.out.2.1⟩
                    have hA4 := HK.out.2.arrA.below hB14 (by omega)
                    have hB4' := HK.out.2.arrB.below hB14 (by omega)
                    obtain ⟨⟨vA, hcA⟩, hfA⟩ := hA4.cell hj
                    have hb4 : base ≤ v4.heap.size := by omega
                    have hl4' : ys4.length ≤ xs.length + 6291470 := by omega
                    clear hY hG2 hG3 hX4 hO1 hB1 hbs1 hB4 hcN1 hs2 hs3 hs4 hl2 hl3 hl4 hly
                    have HBr : Hid (Below base wr v4) := hB14
                    clear hB14
                    go_cut [] (fun wx => Hid (wx = v4.setCell ⟨A, j, none⟩ (.int .i64 (ys4.length : Int))))
                    case first =>
                      go_wp2
                      go_meet
                      case rel => exact (rfl : v4.setCell ⟨A, j, none⟩ (.int .i64 (ys4.length : Int)) = _)
                    case rest =>
                      have hwx := hcut.out
                      have hOx : Own wc base ao4 cp4 ys4 := by rw [hwx]; exact hO4.setBelow (by simp; omega) _
                      have hbx : base ≤ wc.heap.size := by rw [hwx]; simpa using hb4
                      have hcx : wc.cell? ⟨gV, j, none⟩ = some (.int .i64 (vs j)) := by
                        rw [hwx, World.cell?_of_block (w := v4) (heap_setCell_other v4 ⟨A, j, none⟩ gV _ (by simp; omega)), HBr.out.cell (p := ⟨gV, j, none⟩) (by simp; omega), HK.out.2.bel.cell (p := ⟨gV, j, none⟩) hgV]; exact HcV.out
                      have hBx : Arr wc B n j E := by rw [hwx]; exact hB4'.other (by simp; omega) _
                      obtain ⟨hvl, hvh⟩ := HN.out.2.2.2 j (by omega)
                      clear hwx hO4 hb4 hcA hfA hA4 hB4'
                      go_wp2_with fail
                      refine (appendInt_any hOx hbx (by omega) (vs j) hvl hvh).mono ?_
                      rintro e5 v5 ⟨ao6, cp6, ys6, nu, rfl, hG6, hl6⟩
                      have hs6 := hG6.out.1.bel.size
                      have b3 : Hid (Below base (v4.setCell ⟨A, j, none⟩ (.int .i64 (ys4.length : Int))) v5) := (by rw [← hcut.out]; exact hG6.out.1.bel : Below base (v4.setCell ⟨A, j, none⟩ (.int .i64 (ys4.length : Int))) v5)
                      obtain ⟨⟨vB, hcB⟩, hfB⟩ := (hBx.below hG6.out.1.bel (by omega)).cell hj
                      have hb6 : base ≤ v5.heap.size := by omega
                      have hO6 := hG6.out.1.own
                      have hY6 : Hid (ys6 = ys4 ++ nu ∧ Ee nu ∧ ∀ c ∈ nu, 0 ≤ c ∧ c ≤ 255) := ⟨hG6.out.1.eq, hG6.out.2.1, hG6.out.2.2⟩
                      clear hOx hbx hcx hBx hs6 hG6 hcut
                      go_upto_region 40 with fail
                      go_cut [] (fun wx => Hid (wx = v5.setCell ⟨B, j, none⟩ (.int .i64 (ys6.length : Int))))
                      case first =>
                        go_wp2
                        go_meet
                        case rel => exact (rfl : v5.setCell ⟨B, j, none⟩ (.int .i64 (ys6.length : Int)) = _)
                      case rest =>
                        have hwx := hcut.out
                        have hOx : Own wc base ao6 cp6 ys6 := by rw [hwx]; exact hO6.setBelow (by simp; omega) _
                        have hbx : base ≤ wc.heap.size := by rw [hwx]; simpa using hb6
                        clear hwx hO6 hb6 hcB hfB
                        go_wp2_with fail
                        refine (appendSpace_any hOx hbx (by omega) sp (q1 + 1) p0 p1 (by omega) (by omega)).mono ?_
                        rintro e7 v7 ⟨ao7, cp7, ys7, s7, rfl, hG7, hl7⟩
                        go_wp2
                        go_roundg (n - (j + 1))
                        case measure => have := HK.out.1; omega
                        case rel =>
                          have b5 : Below base (v5.setCell ⟨B, j, none⟩ (.int .i64 (ys6.length : Int))) v7 := by rw [← hcut.out]; exact hG7.out.1.bel
                          have hmm := memMax_is
                          exact ⟨j + 1, q1 + 2, _, _, ao7, cp7, ys7, by omega, rfl, by go_num, by go_num, by omega,
                            HK.out.2.next hj hY4.out.2.1 hY4.out.2.2 hG7.out.2.1 hY6.out.2.1 hY6.out.2.2 hY4.out.1 HBr.out hY6.out.1 b3.out hG7.out.1.eq b5 hG7.out.1.own (by omega)⟩
                · have en : n = j := by omega
                  subst en
                  clear hj hj'
                  go_wp2_with (first
                    | (at_builtin; refine wpList_app _ rfl (.tmp 141) (.tmp 142) rfl base ao cp xs rfl (hO.alloc _) ⟨_, 0, none⟩ 1 1 [125] rfl rfl (list_news _ _ _ _ rfl) (by simp; omega) (by simp; omega) ?_; intro ao8 cp8 T v8 hX8 hl8 hO8 hB8)
                    | (go_at_call 16; refine (newSplitter_any _ _ _ _ _ _).mono ?_; rintro e9 w9 ⟨rfl, rfl⟩))
                  simp at hl8
                  have hL := HK.out.2
                  have hB18 : Below base wr v8 := ((Below.refl base wr).alloc hbs _).trans hB8
                  have hrT : ∀ c ∈ T, 0 ≤ c ∧ c ≤ 255 := by
                    rw [hX8.out]
                    intro c hc
                    rcases List.mem_append.1 hc with hc | hc
                    · exact hL.rng c hc
                    · simp at hc; omega
                  have hD8 := (hO8.data hrT (by omega)).1
                  have hTl : 1 ≤ T.length := by rw [hX8.out]; simp
                  have hS9 := hD8.made (p := 1) false 0 hTl
                  obtain ⟨v9, hv9⟩ : ∃ v9, v9 = v8.alloc (.cells #[.slice ao8 T.length cp8, .int .i64 ((1 : Nat) : Int), .int .i64 0, .bool false] 57) := ⟨_, rfl⟩
                  have hb89 : Below v8.heap.size v8 v9 := by rw [hv9]; exact (Below.refl _ _).alloc (Nat.le_refl _) _
                  have hb29 : Below A w2 v9 := (hL.bel.trans (hB18.mono (by have := hL.ab; omega))).trans (hb89.mono (by have := hL.ab; have := hB18.size; omega))
                  have hA9 : Arr v9 A n n S := (hL.arrA.below hB18 (by have := hL.ab; omega)).below hb89 (by have := hL.ab; have := hB18.size; omega)
                  have hB9 : Arr v9 B n n E := (hL.arrB.below hB18 (by have := hL.ab; omega)).below hb89 (by have := hL.ab; have := hB18.size; omega)
                  obtain ⟨b, hb⟩ : ∃ b, b = v8.heap.size := ⟨_, rfl⟩
                  have hbb : base ≤ b := by rw [hb]; have := hB18.size; omega
                  rw [← hv9, ← hb] at hS9
                  rw [← hb]
                  have HT9 : T4 v9 v9 b ao8 T cp8 1 false := ⟨hS9, World.grownBy.refl _ _⟩
                  have H9 : Hid (Arr v9 A n n S ∧ Arr v9 B n n E ∧ Below A w2 v9 ∧ base ≤ b ∧ A < B ∧ B < base ∧ T = xs ++ [125] ∧ Inv (fun j => bytesOf (ss j)) S E n xs ∧ v9 = v8.alloc (.cells #[.slice ao8 T.length cp8, .int .i64 ((1 : Nat) : Int), .int .i64 0, .bool false] 57)) := ⟨hA9, hB9, hb29, hbb, hL.ab.1, hL.ab.2.1, hX8.out, hL.inv, hv9⟩
                  have hcp8 := hD8.cap
                  unfold maxLen at hcp8
                  clear hX8 hO8 hB8 hL hB18 hrT hD8 hS9 hb89 hb29 hA9 hB9 hbb hb HK hO hbs hq
                  go_loopg [16] n (fun k i wx => ∃ jj : Nat, k + jj = n ∧ i = .int .i64 jj ∧ T4 v9 wx b ao8 T cp8 (startAt E jj) false)
                  case atStart =>
                    refine ⟨0, by omega, rfl, ?_⟩
                    rw [hv9] at HT9 ⊢
                    exact HT9
                  case round =>
                    clear HT9 hv9
                    obtain ⟨jj, hk, rfl, hT⟩ := hrel
                    have HK : Hid (gk + jj = n) := hk
                    have hjj' : jj ≤ n := by omega
                    clear hk
                    by_cases hjj : jj < n
                    · have hok := H9.out.2.2.2.2.2.2.2.1.ok [125] (.inr rfl) jj hjj
                      rw [← H9.out.2.2.2.2.2.2.1] at hok
                      obtain ⟨ns, ne, hm, htk, hqlen, hnum, hse⟩ := hok
                      obtain ⟨gN, eN, hcN⟩ := HV.out.1 jj (by omega)
                      subst eN
                      have hgN : gN < A := by rw [HA.out.2.2.2.1]; exact World.block_lt_of_cell? w2 _ hcN
                      have hcN9 : v9.cell? ⟨gN, jj, none⟩ = some (.string (ss jj)) := (H9.out.2.2.1.cell (p := ⟨gN, jj, none⟩) hgN).trans hcN
                      have hsj := HS.out jj (by omega)
                      have hji : (jj : Int) < (n : Int) := by omega
                      have hn0i : (jj : Int) < (n0 : Int) := by omega
                      have HO : Hid (mem T (startAt E jj) (jj : Int) = (ns, ne, S jj, 1) ∧ (T.drop ns).take (ne - ns) = qt (bytesOf (ss jj)) ∧ ne - ns = (qt (bytesOf (ss jj))).length ∧ num (T.drop (S jj)) = (true, E jj - S jj) ∧ S jj ≤ E jj ∧ v9.cell? ⟨gN, jj, none⟩ = some (.string (ss jj))) := ⟨hm, htk, hqlen, hnum, hse, hcN9⟩
                      have HT : Hid (T4 v9 wr b ao8 T cp8 (startAt E jj) false) := hT
                      clear hm htk hqlen hnum hse hcN hcN9 hT
                      go_wp2_with fail
                      refine (zzMemberName_t HT.out (jj : Int)).mono ?_
                      rintro e10 w10 ⟨v, r, q, f', rfl, hM, hT10⟩
                      obtain ⟨g, eg, rfl, rfl, rfl, rfl, hlt, hle⟩ : ∃ g, ao8 = some ⟨g, 0, none⟩ ∧ v = .slice (some ⟨g, ns, none⟩) (ne - ns) (cp8 - ns) ∧ r = true ∧ S jj = q ∧ f' = false ∧ ns < ne ∧ ne ≤ T.length := by
                        rcases hM.out with ⟨_, _, hm0, _⟩ | ⟨g, ns', ne', e1, e2, e3, hm1, e4, h5, h6⟩ | ⟨_, _, hm2, _⟩
                        · rw [HO.out.1] at hm0; simp at hm0
                        · rw [HO.out.1] at hm1
                          simp only [Prod.mk.injEq, and_true] at hm1
                          obtain ⟨rfl, rfl, rfl⟩ := hm1
                          exact ⟨g, e1, e2, e3, rfl, e4, h5, h6⟩
                        · rw [HO.out.1] at hm2; simp at hm2
                      subst eg
                      have hcN10 : w10.cell? ⟨gN, jj, none⟩ = some (.string (ss jj)) := hT10.gr.cell HO.out.2.2.2.2.2 (by have := H9.out.2.2.2; simp; omega)
                      clear hM
                      go_wp2_with fail
                      refine (appendQuoted_any (Own.nil w10 w10.heap.size) (Nat.le_refl _) (by simp) (ss jj) hsj).mono ?_
                      rintro e11 w11 ⟨ao11, cp11, ys11, rfl, hG11, hl11⟩
                      have hl11' : ys11.length ≤ 6 * (ss jj).size + 2 := by simpa using hl11
                      have hT11 := hT10.below hG11.out.bel
                      have eY : ys11 = qt (bytesOf (ss jj)) := by rw [hG11.out.eq]; rfl
                      have hR1 : Rd w11 (some ⟨g, ns, none⟩) (qt (bytesOf (ss jj))) := by have := hT11.st.part (g := g) (s := ns) (n := ne - ns) rfl (by omega); rwa [HO.out.2.1] at this
                      have hR2 : Rd w11 ao11 (qt (bytesOf (ss jj))) := by
                        have := (hG11.out.own.data (by rw [eY]; exact qt_rng (bytesOf_rng _)) (by omega)).1.rd
                        rwa [eY] at this
                      have hL1 : (qt (bytesOf (ss jj))).length = ne - ns := HO.out.2.2.1.symm
                      have hL2 : (qt (bytesOf (ss jj))).length = ys11.length := by rw [eY]
                      have HR : Hid (Rd w11 (some ⟨g, ns, none⟩) (qt (bytesOf (ss jj))) ∧ Rd w11 ao11 (qt (bytesOf (ss jj))) ∧ (qt (bytesOf (ss jj))).length = ne - ns ∧ (qt (bytesOf (ss jj))).length = ys11.length ∧ T4 v9 w11 b (some ⟨g, 0, none⟩) T cp8 (S jj) false) := ⟨hR1, hR2, hL1, hL2, hT11⟩
                      clear hR1 hR2 hL1 hL2 hT11 eY hG11 hT10 hcN10
                      go_wp2_with fail
                      refine (bytesEqual_two (c := cp8 - ns) (d := cp11) HR.out.2.2.1 HR.out.2.2.2.1 HR.out.1 HR.out.2.1 (by omega)).mono ?_
                      rintro e12 w12 ⟨rfl, m12, hw12⟩
                      have hS12 : Hid (T4 v9 w12 b (some ⟨g, 0, none⟩) T cp8 (S jj) false) := (by rw [hw12]; exact HR.out.2.2.2.2.drewN m12 : T4 v9 w12 b (some ⟨g, 0, none⟩) T cp8 (S jj) false)
                      clear hw12
                      have hcA := (H9.out.1.grown hS12.out.gr (by have := H9.out; omega)).get hjj
                      go_wp2_with fail
                      go_quiet ((go_at_call 18; exact Calls.quiet_of_same (at_any (hS12.out.st.drewN _))))
                      have hS13 := hS12.out.drewN nq
                      have HS13 : Hid (T4 v9 (w12.drewN nq) b (some ⟨g, 0, none⟩) T cp8 (S jj) false) := hS13
                      clear hS13 hcA
                      go_upto_region 53 with fail
                      go_cut [187] (fun s wx => s = .bool false ∧ T4 v9 wx b (some ⟨g, 0, none⟩) T cp8 (E jj) false)
                      case first =>
                        go_region_with (first
                          | (go_at_call 28; refine (skipNum_fit (hS12.out.drewN _) HO.out.2.2.2.1 HO.out.2.2.2.2.1).mono ?_; rintro e14 w14 ⟨rfl, hT14⟩; have hcB := (H9.out.2.1.grown hT14.gr (by have := H9.out; omega)).get hjj)
                          | (go_at_call 18; refine (at_any hT14.st).mono ?_; rintro e15 w15 ⟨rfl, hw15⟩; have hw15' := hw15.symm; subst hw15'))
                        all_goals
                          go_wp2_with fail
                          go_meet
                          case rel => exact ⟨by first | rfl | simp, by assumption⟩
                      case rest =>
                        obtain ⟨rfl, hT16⟩ := hcut
                        go_wp2
                        go_roundg (n - (jj + 1))
                        case measure => have := HK.out; omega
                        case rel => exact ⟨jj + 1, by omega, by go_num, hT16⟩
                    · have en : n = jj := by omega
                      subst en
                      have hm : mem T (startAt E n) (n : Int) = (0, 0, T.length, 0) := by rw [H9.out.2.2.2.2.2.2.1]; exact H9.out.2.2.2.2.2.2.2.1.close _
                      have HM : Hid (mem T (startAt E n) (n : Int) = (0, 0, T.length, 0)) := hm
                      have HT : Hid (T4 v9 wr b ao8 T cp8 (startAt E n) false) := hT
                      have hnil := fun W => Lib.run_eql_slice_nil (P := Try.prog) W 22 5 none 0 0 0 0 Try.underlying22
                      clear hm hT
                      go_wp2_with fail
                      refine (zzMemberName_t HT.out (n : Int)).mono ?_
                      rintro e10 w10 ⟨v, r, q, f', rfl, hM, hT10⟩
                      obtain ⟨rfl, rfl, rfl, rfl⟩ : v = .slice none 0 0 ∧ r = false ∧ T.length = q ∧ f' = false := by
                        rcases hM.out with ⟨e1, e2, hm0, e3⟩ | ⟨g, ns', ne', e1, e2, e3, hm1, e4, h5, h6⟩ | ⟨_, _, hm2, _⟩
                        · rw [HM.out] at hm0
                          simp only [Prod.mk.injEq, and_true, true_and] at hm0
                          exact ⟨e1, e2, hm0, e3⟩
                        · rw [HM.out] at hm1; simp at hm1
                        · rw [HM.out] at hm2; simp at hm2
                      have HT10 : Hid (T4 v9 w10 b ao8 T cp8 T.length false) := hT10
                      clear hM hT10
                      go_wp2_with (first
                        | (go_at_call 18; refine (at_any HT10.out.st).mono ?_; rintro e11 w11 ⟨rfl, hw11⟩; have hw11' := hw11.symm; subst hw11')
                        | (go_at_call 19; refine (failed_any HT10.out.st).mono ?_; rintro e11 w11 ⟨rfl, hw11⟩; have hw11' := hw11.symm; subst hw11'))
                      go_ret
                      refine ⟨by simp, ?_⟩
                      have k1 := HV.out.2.2
                      have k2 := HA.out.2.2.2.1
                      have k3 := H9.out.2.2
                      have k4 := k1.size
                      exact (k1.trans (k3.1.mono (by omega))).trans (grown_below HT10.out.gr _ (by omega) (by have := k3.1.size; omega))
end Go.Proofs.Qxb6600361a
