import Derived.Test.Qxb6600511aWText
namespace Go.Proofs.Qxb6600511a
open Go.RowKit

set_option maxRecDepth 20000 in
set_option maxHeartbeats 4000000 in
theorem accepts (a0 : Option Addr) (b0 o0 n0 c0 : Nat) (Z0 : Nat → Int) (neg : Bool) (a2 : Option Addr) (b2 o2 n2 c2 : Nat) (Z2 : Nat → Int) (frac : Bool) (a4 : Option Addr) (b4 o4 n4 c4 : Nat) (Z4 : Nat → Int) (exp up : Bool) (sg : Int) (a8 : Option Addr) (b8 o8 n8 c8 : Nat) (Z8 : Nat → Int) (nx : Int) (has : Bool) (w : World)
    (m0 : n0 ≤ maxLen) (m2 : n2 ≤ maxLen) (m4 : n4 ≤ maxLen) (m8 : n8 ≤ maxLen) (k0 : a0 = none → n0 = 0) (k2 : a2 = none → n2 = 0) (k4 : a4 = none → n4 = 0) (k8 : a8 = none → n8 = 0)
    (y0 : Byt Z0 n0) (y2 : Byt Z2 n2) (y4 : Byt Z4 n4) (y8 : Byt Z8 n8) (s0 : -128 ≤ sg) (s1 : sg ≤ 127) (x0 : 0 ≤ nx) (x1 : nx ≤ 255)
    (t0 : BAt w a0 b0 o0 n0 Z0) (t2 : BAt w a2 b2 o2 n2 Z2) (t4 : BAt w a4 b4 o4 n4 Z4) (t8 : BAt w a8 b8 o8 n8 Z8) :
   Calls Try.prog 7 #[.slice a0 n0 c0, .bool neg, .slice a2 n2 c2, .bool frac, .slice a4 n4 c4, .bool exp, .bool up, .int .i8 sg, .slice a8 n8 c8, .int .u8 nx, .bool has] w fun e w' => e = .returned (.bool true) ∧ Below w.heap.size w w' := by
  have T0 := hid t0
  have T2 := hid t2
  have T4 := hid t4
  have T8 := hid t8
  have K0 := hid k0
  have K2 := hid k2
  have K4 := hid k4
  have K8 := hid k8
  have Y0 := hid y0
  have Y2 := hid y2
  have Y4 := hid y4
  have Y8 := hid y8
  clear t0 t2 t4 t8 k0 k2 k4 k8 y0 y2 y4 y8
  go_enter Try.func7, Try.ntmps7
  go_wp2_with fail
  refine (bytes20 a0 n0 c0 neg a2 n2 c2 frac a4 n4 c4 exp up sg a8 n8 c8 nx has _ m0 m2 m4 m8).mono ?_
  rintro e w1 ⟨⟨r, rfl⟩, hw1⟩
  subst hw1
  unfold maxLen at m0 m2 m4 m8
  cases r with
  | false =>
    as_aux_lemma =>
      go_wp2
      go_ret
      exact ⟨rfl, Below.refl _ _⟩
  | true =>
    by_cases q0 : 1048576 < n0
    · as_aux_lemma =>
        go_wp2
        go_ret
        exact ⟨rfl, Below.refl _ _⟩
    by_cases q2 : 1048576 < n2
    · as_aux_lemma =>
        go_wp2
        go_ret
        exact ⟨rfl, Below.refl _ _⟩
    by_cases q4 : 1048576 < n4
    · as_aux_lemma =>
        go_wp2
        go_ret
        exact ⟨rfl, Below.refl _ _⟩
    by_cases q8 : 1048576 < n8
    · as_aux_lemma =>
        go_wp2
        go_ret
        exact ⟨rfl, Below.refl _ _⟩
    by_cases qq : 1048576 < n0 + n2 + n4 + n8
    · as_aux_lemma =>
        go_wp2
        go_ret
        exact ⟨rfl, Below.refl _ _⟩
    clear m0 m2 m4 m8
    go_wp2_with fail
    refine (clone_any a0 b0 o0 n0 c0 Z0 _ (by omega) K0.out T0.out).mono ?_
    rintro e w2 ⟨⟨d0, g0, f0, rfl, hc0, hn0, hs0, ht0⟩, hb2⟩
    have U0 := hid ht0
    have B2 := hid hb2
    clear ht0 hs0 hn0 hb2 hc0 T0 K0
    go_wp2_with fail
    refine (clone_any a2 b2 o2 n2 c2 Z2 _ (by omega) K2.out (T2.out.below B2.out)).mono ?_
    rintro e w3 ⟨⟨d2, g2, f2, rfl, hc0, hn0, hs0, ht0⟩, hb3⟩
    have U2 := hid ht0
    have V0 := hid (U0.out.below hb3)
    have B3 := hid (B2.out.trans (hb3.mono B2.out.size))
    clear ht0 hs0 hn0 hb3 hc0 T2 K2 U0 B2
    go_wp2_with fail
    refine (clone_any a4 b4 o4 n4 c4 Z4 _ (by omega) K4.out (T4.out.below B3.out)).mono ?_
    rintro e w4 ⟨⟨d4, g4, f4, rfl, hc0, hn0, hs0, ht0⟩, hb4⟩
    have U4 := hid ht0
    have W0 := hid (V0.out.below hb4)
    have V2 := hid (U2.out.below hb4)
    have B4 := hid (B3.out.trans (hb4.mono B3.out.size))
    clear ht0 hs0 hn0 hb4 hc0 T4 K4 U2 V0 B3
    go_wp2_with fail
    refine (clone_any a8 b8 o8 n8 c8 Z8 _ (by omega) K8.out (T8.out.below B4.out)).mono ?_
    rintro e w5 ⟨⟨d8, g8, f8, rfl, hc0, hn0, hs0, ht0⟩, hb5⟩
    have R8 := hid ht0
    have R0 := hid (W0.out.below hb5)
    have R2 := hid (V2.out.below hb5)
    have R4 := hid (U4.out.below hb5)
    have B5 := hid (B4.out.trans (hb5.mono B4.out.size))
    clear ht0 hs0 hn0 hb5 hc0 T8 K8 W0 V2 U4 B4
    have hq : n0 + n2 + n4 + n8 ≤ 1048576 := by omega
    clear q0 q2 q4 q8 qq
    obtain ⟨i0, hi, hz0, hz1, hz2⟩ := info_parts Try.info5
    have hHi := hid hi
    have hHz0 := hid hz0
    have hHz1 := hid hz1
    have hHz2 := hid hz2
    clear hi hz0 hz1 hz2
    obtain ⟨lone, hlone⟩ : ∃ lone, ((n2 : Int) == 0) = lone := ⟨_, rfl⟩
    have hmk := make_y ((n2 : Int) + (n4 : Int) + (n8 : Int) + 8) (n2 + n4 + n8 + 8) (by omega) (by omega)
    go_upto_if 92 with fail
    clear hmk
    have O0 : Hid (Ow w5 (w5.alloc (.cells (mkC (n2 + n4 + n8 + 8)) 5)) (.slice (some ⟨w5.heap.size, 0, none⟩) 0 (n2 + n4 + n8 + 8)) []) :=
      ⟨World.ownsRow_made w5 (mkC (n2 + n4 + n8 + 8)) (n2 + n4 + n8 + 8) (Nat.le_refl _) (by unfold maxLen; omega) (mkC_size _), (Below.refl _ _).alloc (Nat.le_refl _) _⟩
    go_cut [23] from 31 (fun x wc => Ow w5 wc x (tN neg))
    case first =>
      as_aux_lemma =>
        cases neg with
        | false =>
          go_wp2_with fail
          go_meet
          case rel => exact O0.out
        | true =>
          go_wp2_with (at_builtin; go_must (refine wpList_append_own _ rfl _ _ 22 rfl w5.heap.size 5 i0 _ 1 1 Try.underlying22 hHi.out hHz0.out hHz1.out hHz2.out rfl (by decide) _ _ _ rfl (O0.out.own.alloc _) _ 1 1 [.int .u8 45] rfl rfl (cell_one_at _ _ (by simp) _ _) (one_int _ _) (by unfold maxLen; simp) (by simp) (by have := O0.out.bel.size; simp; omega) ?_))
          intro v1 w6 hown1 hgrow1 _
          have O1 := hid (Ow.step rfl O0.out hown1 hgrow1)
          clear hown1 hgrow1 O0
          go_wp2_with fail
          go_meet
          case rel => exact O1.out
    case rest =>
      clear O0
      have O0 := hid hcut
      clear hcut
      obtain ⟨w6, hw6⟩ : ∃ w6, w6 = wc := ⟨_, rfl⟩
      subst hw6
      have hL1 := tN_len neg
      generalize hL : tN neg = L1 at *
      have HL1 := hid hL
      clear hL
      go_upto_if 99 with fail
      go_cut [23, 25] from 31 (fun x _ wc => Ow w5 wc x (L1 ++ tI Z2 n2))
      case first =>
        as_aux_lemma =>
          by_cases h0 : n2 = 0
          · have hl : lone = true := by rw [← hlone, h0]; rfl
            subst hl
            have H0 := hid h0
            clear h0 hlone
            go_wp2_with (at_builtin; go_must (refine wpList_append_own _ rfl _ _ 22 rfl w5.heap.size 5 i0 _ 1 1 Try.underlying22 hHi.out hHz0.out hHz1.out hHz2.out rfl (by decide) _ _ _ rfl (O0.out.own.alloc _) _ 1 1 [.int .u8 48] rfl rfl (cell_one_at _ _ rfl _ _) (one_int _ _) (by unfold maxLen; omega) (by omega) (by have := O0.out.bel.size; simp; omega) ?_))
            intro v1 w7 hown1 hgrow1 _
            have O1 := hid (Ow.step rfl O0.out hown1 hgrow1)
            clear hown1 hgrow1 O0
            go_wp2_with fail
            go_meet
            case rel => unfold tI; rw [if_pos H0.out]; exact O1.out
          · have hl : lone = false := by rw [← hlone]; simp; omega
            subst hl
            have hc := (R2.out.below O0.out.bel).cell 0 (by omega)
            have hbl := (R2.out.below O0.out.bel).lt h0
            have ha := R2.out.ad h0
            subst ha
            obtain ⟨y0, y1⟩ := Y2.out 0 (by omega)
            go_wp2_with (at_builtin; go_must (refine wpList_append_own _ rfl _ _ 22 rfl w5.heap.size 5 i0 _ 1 1 Try.underlying22 hHi.out hHz0.out hHz1.out hHz2.out rfl (by decide) _ _ _ rfl (O0.out.own.alloc _) _ 1 1 [.int .u8 (49 + Z2 0 % 9)] rfl rfl (cell_one_at _ _ rfl _ _) (one_int _ _) (by unfold maxLen; omega) (by omega) (by have := O0.out.bel.size; simp; omega) ?_))
            intro v1 w7 hown1 hgrow1 _
            have O1 := hid (Ow.step rfl O0.out hown1 hgrow1)
            clear hown1 hgrow1 O0 hc hbl y0 y1
            go_wp2_with fail
            go_loopw [23, 25] (fun x i wr => ∃ k : Nat, k + 1 ≤ n2 ∧ i = .int .i64 ((k + 1 : Nat) : Int) ∧ Ow w5 wr x (L1 ++ iL Z2 k)) (fun _ i _ => n2 - (intOf i).toNat)
            case atStart => exact ⟨0, by omega, rfl, O1.out⟩
            case round =>
              clear O1
              obtain ⟨k, hk, rfl, hown⟩ := hrel
              have O1 := hid hown
              clear hown
              have hll : (L1 ++ iL Z2 k).length = L1.length + k + 1 := by rw [List.length_append, iL_len]; omega
              by_cases hlt : k + 1 < n2
              · have hc := (R2.out.below O1.out.bel).cell (k + 1) hlt
                rw [Nat.zero_add] at hc
                have hbl := (R2.out.below O1.out.bel).lt h0
                obtain ⟨y0, y1⟩ := Y2.out (k + 1) hlt
                go_wp2_with (at_builtin; go_must (refine wpList_append_own _ rfl _ _ 22 rfl w5.heap.size 5 i0 _ 1 1 Try.underlying22 hHi.out hHz0.out hHz1.out hHz2.out rfl (by decide) _ _ _ rfl (O1.out.own.alloc _) _ 1 1 [.int .u8 (48 + Z2 (k + 1) % 10)] rfl rfl (cell_one_at _ _ rfl _ _) (one_int _ _) (by unfold maxLen; omega) (by omega) (by have := O1.out.bel.size; simp; omega) ?_))
                intro v1 w8 hown1 hgrow1 _
                have O2 := hid (Ow.step hll O1.out hown1 hgrow1)
                clear hown1 hgrow1 O1
                rw [List.append_assoc, ← iL_succ] at O2
                go_wp2
                go_roundw
                case rel => exact ⟨k + 1, by omega, by go_num, O2.out⟩
                case measure => simp [intOf]; omega
              · have hk1 : n2 - 1 = k := by omega
                go_wp2_with fail
                go_meet
                case rel => unfold tI; rw [if_neg h0, hk1]; exact O1.out
      case rest =>
        clear O0
        have O0 := hid hcut
        clear hcut
        obtain ⟨w7, hw7⟩ : ∃ w7, w7 = wc := ⟨_, rfl⟩
        subst hw7
        have hL2 : (L1 ++ tI Z2 n2).length ≤ n2 + 2 := by have := tI_len Z2 n2; rw [List.length_append]; omega
        clear hL1
        generalize hL : L1 ++ tI Z2 n2 = L2 at *
        have HL2 := hid hL
        clear hL
        have HLO := hid hlone
        clear hlone
        go_upto_if 126 with fail
        go_cut [23] from 31 (fun x wc => Ow w5 wc x (L2 ++ tF frac (adl Z4 n4)))
        case first =>
          as_aux_lemma =>
            cases frac with
            | false =>
              go_wp2_with fail
              go_meet
              case rel => rw [show tF false (adl Z4 n4) = [] from rfl, List.append_nil]; exact O0.out
            | true =>
              go_wp2_with (at_builtin; go_must (refine wpList_append_own _ rfl _ _ 22 rfl w5.heap.size 5 i0 _ 1 1 Try.underlying22 hHi.out hHz0.out hHz1.out hHz2.out rfl (by decide) _ _ _ rfl (O0.out.own.alloc _) _ 1 1 [.int .u8 46] rfl rfl (cell_one_at _ _ rfl _ _) (one_int _ _) (by unfold maxLen; omega) (by omega) (by have := O0.out.bel.size; simp; omega) ?_))
              intro v1 w8 hown1 hgrow1 _
              have O1 := hid (Ow.step rfl O0.out hown1 hgrow1)
              clear hown1 hgrow1 O0
              go_wp2_with fail
              refine (appendDigits_any w5 v1 (L2 ++ [46]) d4 g4 n4 f4 Z4 _ (by simp; omega) (by omega) Y4.out R4.out O1.out).mono ?_
              rintro e w9 ⟨v2, rfl, ho⟩
              have O2 := hid ho
              clear ho O1
              rw [List.append_assoc] at O2
              go_wp2_with fail
              go_meet
              case rel => exact O2.out
        case rest =>
          clear O0
          have O0 := hid hcut
          clear hcut
          obtain ⟨w8, hw8⟩ : ∃ w8, w8 = wc := ⟨_, rfl⟩
          subst hw8
          have hL3 : (L2 ++ tF frac (adl Z4 n4)).length ≤ n2 + n4 + 4 := by
            have := adl_len Z4 n4
            have h2 : (tF frac (adl Z4 n4)).length ≤ (adl Z4 n4).length + 1 := by cases frac <;> simp [tF]
            rw [List.length_append]; omega
          clear hL2
          generalize hL : L2 ++ tF frac (adl Z4 n4) = L3 at *
          have HL3 := hid hL
          clear hL
          go_upto_if 133 with fail
          go_cut [23] from 31 (fun x wc => Ow w5 wc x (L3 ++ tE exp (eC up) (eS sg) (adl Z8 n8)))
          case first =>
            as_aux_lemma =>
              cases exp with
              | false =>
                go_wp2_with fail
                go_meet
                case rel => rw [show tE false (eC up) (eS sg) (adl Z8 n8) = [] from rfl, List.append_nil]; exact O0.out
              | true =>
                cases up with
                | true =>
                  go_wp2_with (at_builtin; go_must (refine wpList_append_own _ rfl _ _ 22 rfl w5.heap.size 5 i0 _ 1 1 Try.underlying22 hHi.out hHz0.out hHz1.out hHz2.out rfl (by decide) _ _ _ rfl (O0.out.own.alloc _) _ 1 1 [.int .u8 69] rfl rfl (cell_one_at _ _ rfl _ _) (one_int _ _) (by unfold maxLen; omega) (by omega) (by have := O0.out.bel.size; simp; omega) ?_))
                  intro v1 w9 hown1 hgrow1 _
                  have O1 := hid (Ow.step rfl O0.out hown1 hgrow1)
                  clear hown1 hgrow1 O0
                  have hl1 : (L3 ++ [69]).length = L3.length + 1 := by simp
                  rcases Int.lt_trichotomy sg 0 with h | h | h
                  · have hs1 : decide (sg < 0) = true := by simp; omega
                    have HS : Hid (eS sg = [45]) := by show eS sg = [45]; unfold eS; rw [if_pos h]
                    go_wp2_with (at_builtin; go_must (refine wpList_append_own _ rfl _ _ 22 rfl w5.heap.size 5 i0 _ 1 1 Try.underlying22 hHi.out hHz0.out hHz1.out hHz2.out rfl (by decide) _ _ _ rfl (O1.out.own.alloc _) _ 1 1 [.int .u8 45] rfl rfl (cell_one_at _ _ rfl _ _) (one_int _ _) (by unfold maxLen; omega) (by omega) (by have := O1.out.bel.size; simp; omega) ?_))
                    intro v2 w10 hown1 hgrow1 _
                    have O2 := hid (Ow.step hl1 O1.out hown1 hgrow1)
                    clear hown1 hgrow1 O1
                    have hl2 : (L3 ++ [69] ++ [45]).length = L3.length + 2 := by simp
                    go_wp2_with fail
                    refine (appendDigits_any w5 v2 (L3 ++ [69] ++ [45]) d8 g8 n8 f8 Z8 _ (by omega) (by omega) Y8.out R8.out O2.out).mono ?_
                    rintro e w11 ⟨v3, rfl, ho⟩
                    have O3 := hid ho
                    clear ho O2
                    go_wp2_with fail
                    go_meet
                    case rel => rw [HS.out]; simpa [tE, eC] using O3.out
                  · have hs1 : decide (sg < 0) = false := by simp; omega
                    have hs2 : decide (0 < sg) = false := by simp; omega
                    have HS : Hid (eS sg = []) := by show eS sg = []; unfold eS; rw [if_neg (by omega), if_neg (by omega)]
                    clear h
                    go_wp2_with fail
                    refine (appendDigits_any w5 v1 (L3 ++ [69]) d8 g8 n8 f8 Z8 _ (by omega) (by omega) Y8.out R8.out O1.out).mono ?_
                    rintro e w11 ⟨v3, rfl, ho⟩
                    have O3 := hid ho
                    clear ho O1
                    go_wp2_with fail
                    go_meet
                    case rel => rw [HS.out]; simpa [tE, eC] using O3.out
                  · have hs1 : decide (sg < 0) = false := by simp; omega
                    have hs2 : decide (0 < sg) = true := by simp; omega
                    have HS : Hid (eS sg = [43]) := by show eS sg = [43]; unfold eS; rw [if_neg (by omega), if_pos h]
                    go_wp2_with (at_builtin; go_must (refine wpList_append_own _ rfl _ _ 22 rfl w5.heap.size 5 i0 _ 1 1 Try.underlying22 hHi.out hHz0.out hHz1.out hHz2.out rfl (by decide) _ _ _ rfl (O1.out.own.alloc _) _ 1 1 [.int .u8 43] rfl rfl (cell_one_at _ _ rfl _ _) (one_int _ _) (by unfold maxLen; omega) (by omega) (by have := O1.out.bel.size; simp; omega) ?_))
                    intro v2 w10 hown1 hgrow1 _
                    have O2 := hid (Ow.step hl1 O1.out hown1 hgrow1)
                    clear hown1 hgrow1 O1
                    have hl2 : (L3 ++ [69] ++ [43]).length = L3.length + 2 := by simp
                    go_wp2_with fail
                    refine (appendDigits_any w5 v2 (L3 ++ [69] ++ [43]) d8 g8 n8 f8 Z8 _ (by omega) (by omega) Y8.out R8.out O2.out).mono ?_
                    rintro e w11 ⟨v3, rfl, ho⟩
                    have O3 := hid ho
                    clear ho O2
                    go_wp2_with fail
                    go_meet
                    case rel => rw [HS.out]; simpa [tE, eC] using O3.out
                | false =>
                  go_wp2_with (at_builtin; go_must (refine wpList_append_own _ rfl _ _ 22 rfl w5.heap.size 5 i0 _ 1 1 Try.underlying22 hHi.out hHz0.out hHz1.out hHz2.out rfl (by decide) _ _ _ rfl (O0.out.own.alloc _) _ 1 1 [.int .u8 101] rfl rfl (cell_one_at _ _ rfl _ _) (one_int _ _) (by unfold maxLen; omega) (by omega) (by have := O0.out.bel.size; simp; omega) ?_))
                  intro v1 w9 hown1 hgrow1 _
                  have O1 := hid (Ow.step rfl O0.out hown1 hgrow1)
                  clear hown1 hgrow1 O0
                  have hl1 : (L3 ++ [101]).length = L3.length + 1 := by simp
                  rcases Int.lt_trichotomy sg 0 with h | h | h
                  · have hs1 : decide (sg < 0) = true := by simp; omega
                    have HS : Hid (eS sg = [45]) := by show eS sg = [45]; unfold eS; rw [if_pos h]
                    go_wp2_with (at_builtin; go_must (refine wpList_append_own _ rfl _ _ 22 rfl w5.heap.size 5 i0 _ 1 1 Try.underlying22 hHi.out hHz0.out hHz1.out hHz2.out rfl (by decide) _ _ _ rfl (O1.out.own.alloc _) _ 1 1 [.int .u8 45] rfl rfl (cell_one_at _ _ rfl _ _) (one_int _ _) (by unfold maxLen; omega) (by omega) (by have := O1.out.bel.size; simp; omega) ?_))
                    intro v2 w10 hown1 hgrow1 _
                    have O2 := hid (Ow.step hl1 O1.out hown1 hgrow1)
                    clear hown1 hgrow1 O1
                    have hl2 : (L3 ++ [101] ++ [45]).length = L3.length + 2 := by simp
                    go_wp2_with fail
                    refine (appendDigits_any w5 v2 (L3 ++ [101] ++ [45]) d8 g8 n8 f8 Z8 _ (by omega) (by omega) Y8.out R8.out O2.out).mono ?_
                    rintro e w11 ⟨v3, rfl, ho⟩
                    have O3 := hid ho
                    clear ho O2
                    go_wp2_with fail
                    go_meet
                    case rel => rw [HS.out]; simpa [tE, eC] using O3.out
                  · have hs1 : decide (sg < 0) = false := by simp; omega
                    have hs2 : decide (0 < sg) = false := by simp; omega
                    have HS : Hid (eS sg = []) := by show eS sg = []; unfold eS; rw [if_neg (by omega), if_neg (by omega)]
                    clear h
                    go_wp2_with fail
                    refine (appendDigits_any w5 v1 (L3 ++ [101]) d8 g8 n8 f8 Z8 _ (by omega) (by omega) Y8.out R8.out O1.out).mono ?_
                    rintro e w11 ⟨v3, rfl, ho⟩
                    have O3 := hid ho
                    clear ho O1
                    go_wp2_with fail
                    go_meet
                    case rel => rw [HS.out]; simpa [tE, eC] using O3.out
                  · have hs1 : decide (sg < 0) = false := by simp; omega
                    have hs2 : decide (0 < sg) = true := by simp; omega
                    have HS : Hid (eS sg = [43]) := by show eS sg = [43]; unfold eS; rw [if_neg (by omega), if_pos h]
                    go_wp2_with (at_builtin; go_must (refine wpList_append_own _ rfl _ _ 22 rfl w5.heap.size 5 i0 _ 1 1 Try.underlying22 hHi.out hHz0.out hHz1.out hHz2.out rfl (by decide) _ _ _ rfl (O1.out.own.alloc _) _ 1 1 [.int .u8 43] rfl rfl (cell_one_at _ _ rfl _ _) (one_int _ _) (by unfold maxLen; omega) (by omega) (by have := O1.out.bel.size; simp; omega) ?_))
                    intro v2 w10 hown1 hgrow1 _
                    have O2 := hid (Ow.step hl1 O1.out hown1 hgrow1)
                    clear hown1 hgrow1 O1
                    have hl2 : (L3 ++ [101] ++ [43]).length = L3.length + 2 := by simp
                    go_wp2_with fail
                    refine (appendDigits_any w5 v2 (L3 ++ [101] ++ [43]) d8 g8 n8 f8 Z8 _ (by omega) (by omega) Y8.out R8.out O2.out).mono ?_
                    rintro e w11 ⟨v3, rfl, ho⟩
                    have O3 := hid ho
                    clear ho O2
                    go_wp2_with fail
                    go_meet
                    case rel => rw [HS.out]; simpa [tE, eC] using O3.out
          case rest =>
            clear O0
            have O0 := hid hcut
            clear hcut
            obtain ⟨w9, hw9⟩ : ∃ w9, w9 = wc := ⟨_, rfl⟩
            subst hw9
            have hL4 : (L3 ++ tE exp (eC up) (eS sg) (adl Z8 n8)).length ≤ n2 + n4 + n8 + 8 := by
              have := adl_len Z8 n8
              have h3 : (eS sg).length ≤ 1 := by unfold eS; split; · simp
                                                 split <;> simp
              have h2 : (tE exp (eC up) (eS sg) (adl Z8 n8)).length ≤ (adl Z8 n8).length + (eS sg).length + 1 := by cases exp <;> simp [tE]; omega
              rw [List.length_append]; omega
            clear hL3
            generalize hL : L3 ++ tE exp (eC up) (eS sg) (adl Z8 n8) = L at *
            have HL := hid hL
            clear hL
            have hne : L ≠ [] := by
              rw [← HL.out, ← HL3.out, ← HL2.out]
              have : tI Z2 n2 ≠ [] := by rcases tI_ok Z2 n2 with ⟨_, h⟩ | ⟨_, _, c, t, h, _⟩ <;> rw [h] <;> simp
              simp [this]
            obtain ⟨g, cc, rfl, hgc, hba⟩ := O0.out.bat hne
            have HBA := hid hba
            have B9 := hid (B5.out.trans (O0.out.bel.mono B5.out.size))
            have S0 := hid (R0.out.below O0.out.bel)
            clear hba O0 R0 R2 R4 R8 B5 Y2 Y4 Y8
            have hmk := make_y ((n0 : Int) + (L.length : Int) + 1) (n0 + L.length + 1) (by omega) (by omega)
            go_wp2_with fail
            clear hmk
            have P0 : Hid (Ow w9 (w9.alloc (.cells (mkC (n0 + L.length + 1)) 5)) (.slice (some ⟨w9.heap.size, 0, none⟩) 0 (n0 + L.length + 1)) []) :=
              ⟨World.ownsRow_made w9 (mkC (n0 + L.length + 1)) (n0 + L.length + 1) (Nat.le_refl _) (by unfold maxLen; omega) (mkC_size _), (Below.refl _ _).alloc (Nat.le_refl _) _⟩
            go_loopw [26, 27] (fun x i wr => ∃ k : Nat, k ≤ n0 ∧ i = .int .i64 k ∧ Ow w9 wr x (spl Z0 k)) (fun _ i _ => n0 - (intOf i).toNat)
            case atStart => exact ⟨0, Nat.zero_le _, rfl, P0.out⟩
            case round =>
              clear P0
              obtain ⟨k, hk, rfl, hown⟩ := hrel
              have P0 := hid hown
              clear hown
              have hll := spl_len Z0 k
              by_cases hlt : k < n0
              · have hc := (S0.out.below P0.out.bel).cell k hlt
                rw [Nat.zero_add] at hc
                have hbl := (S0.out.below P0.out.bel).lt (by omega)
                have ha := S0.out.ad (by omega)
                subst ha
                obtain ⟨y0, y1⟩ := Y0.out k hlt
                as_aux_lemma =>
                  go_wp2_with (first | (go_at_call 22; refine (spaceByte_any _ _ y0 y1).mono ?_; rintro e w' ⟨rfl, rfl⟩) | (at_builtin; go_must (refine wpList_append_own _ rfl _ _ 22 rfl w9.heap.size 5 i0 _ 1 1 Try.underlying22 hHi.out hHz0.out hHz1.out hHz2.out rfl (by decide) _ _ _ rfl (P0.out.own.alloc _) _ 1 1 [.int .u8 (spB (Z0 k))] rfl rfl (cell_one_at _ _ rfl _ _) (one_int _ _) (by unfold maxLen; omega) (by omega) (by have := P0.out.bel.size; simp; omega) ?_)))
                  intro v1 w10 hown1 hgrow1 _
                  have P1 := hid (Ow.step hll P0.out hown1 hgrow1)
                  clear hown1 hgrow1 P0
                  rw [← spl_succ] at P1
                  go_wp2
                  go_roundw
                  case rel => exact ⟨k + 1, by omega, by go_num, P1.out⟩
                  case measure => simp [intOf]; omega
              · obtain rfl : k = n0 := by omega
                have HBL := hid (HBA.out.below P0.out.bel)
                go_wp2_with (at_builtin; go_must (refine wpList_append_own _ rfl _ _ 22 rfl w9.heap.size 5 i0 _ 1 1 Try.underlying22 hHi.out hHz0.out hHz1.out hHz2.out rfl (by decide) _ _ _ rfl P0.out.own _ L.length cc (ys L) rfl (by simp [ys_len]) (cells_lf HBL.out) (ys_one L) (by unfold maxLen; omega) (by omega) P0.out.bel.size ?_))
                intro v1 w10 hown1 hgrow1 _
                have P1 := hid (Ow.app hll rfl P0.out hown1 hgrow1)
                clear hown1 hgrow1 P0 HBL
                have HLL := hid hll
                clear hll
                go_upto_region 40 with fail
                go_cut [187] from 31 (fun x wc => x = .bool (has && !cont nx lone frac exp) ∧ wc = w10)
                case first =>
                  as_aux_lemma =>
                    cases has with
                    | false =>
                      go_wp2_with fail
                      go_meet
                      case rel => exact ⟨rfl, rfl⟩
                    | true =>
                      go_wp2_with (go_at_call 23; refine (continues_any nx lone frac exp _ x0 x1).mono ?_; rintro e w' ⟨rfl, rfl⟩)
                      go_meet
                      case rel => exact ⟨vbool (by simp), rfl⟩
                case rest =>
                  obtain ⟨rfl, rfl⟩ := hcut
                  obtain ⟨w11, hw11⟩ : ∃ w11, w11 = wc := ⟨_, rfl⟩
                  subst hw11
                  obtain ⟨bb, hbb⟩ : ∃ bb, (has && !cont nx lone frac exp) = bb := ⟨_, rfl⟩
                  rw [hbb]
                  have HBB := hid hbb
                  clear hbb
                  have hl5 : (spl Z0 k ++ L).length = k + L.length := by rw [List.length_append, HLL.out]
                  go_upto_if 187 with fail
                  go_cut [26] from 31 (fun x wc => Ow w9 wc x (spl Z0 k ++ L ++ (if bb then [nx] else [])))
                  case first =>
                    as_aux_lemma =>
                      cases bb with
                      | false =>
                        go_wp2_with fail
                        go_meet
                        case rel => simpa using P1.out
                      | true =>
                        go_wp2_with (at_builtin; go_must (refine wpList_append_own _ rfl _ _ 22 rfl w9.heap.size 5 i0 _ 1 1 Try.underlying22 hHi.out hHz0.out hHz1.out hHz2.out rfl (by decide) _ _ _ rfl (P1.out.own.alloc _) _ 1 1 [.int .u8 nx] rfl rfl (cell_one_at _ _ rfl _ _) (one_int _ _) (by unfold maxLen; omega) (by omega) (by have := P1.out.bel.size; simp; omega) ?_))
                        intro v2 w12 hown1 hgrow1 _
                        have P2 := hid (Ow.step hl5 P1.out hown1 hgrow1)
                        clear hown1 hgrow1 P1
                        go_wp2_with fail
                        go_meet
                        case rel => exact P2.out
                  case rest =>
                    clear P1
                    have P1 := hid hcut
                    clear hcut
                    have hB : (if bb then [nx] else []) = [] ∨ ∃ c, (if bb then [nx] else []) = [c] ∧ cont c lone frac exp = false := by
                      cases bb with
                      | false => exact .inl rfl
                      | true =>
                        refine .inr ⟨nx, rfl, ?_⟩
                        have := HBB.out
                        cases hc : cont nx lone frac exp with
                        | false => rfl
                        | true => rw [hc] at this; simp at this
                    have hBl : (if bb then [nx] else []).length ≤ 1 := by cases bb <;> simp
                    generalize (if bb then [nx] else []) = B at *
                    have hT : L = tN neg ++ tI Z2 n2 ++ tF frac (adl Z4 n4) ++ tE exp (eC up) (eS sg) (adl Z8 n8) := by
                      rw [← HL.out, ← HL3.out, ← HL2.out, ← HL1.out]
                    have hI := tI_ok Z2 n2
                    rw [HLO.out] at hI
                    have hE : eC up = 101 ∨ eC up = 69 := by cases up <;> simp [eC]
                    have hS : eS sg = [] ∨ eS sg = [43] ∨ eS sg = [45] := by
                      unfold eS; split
                      · simp
                      · split <;> simp
                    obtain ⟨hsp, hnf⟩ := read_back (spl Z0 k) L B neg lone frac exp (tI Z2 n2) (adl Z4 n4) (eC up) (eS sg) (adl Z8 n8) (spl_sp Z0 k) hT hI (adl_ne _ _) (adl_dig _ _) hE hS (adl_ne _ _) (adl_dig _ _) hB
                    rw [HLL.out] at hsp hnf
                    have hlen : (spl Z0 k ++ L ++ B).length = k + L.length + B.length := by rw [List.length_append, hl5]
                    have hIn : spl Z0 k ++ L ++ B ≠ [] := by simp [hne]
                    obtain ⟨gi, ci, rfl, hgi, hbi⟩ := P1.out.bat hIn
                    rw [hlen] at hsp hnf hgi hbi ⊢
                    have HI := hid hbi
                    have HSP := hid hsp
                    have HNF := hid hnf
                    have B12 := hid (B9.out.trans (P1.out.bel.mono B9.out.size))
                    have HBL := hid (HBA.out.below P1.out.bel)
                    have HZ : Hid (∀ i, i < L.length → lf (spl Z0 k ++ L ++ B) (k + i) = lf L i) := by
                      intro i hi
                      unfold lf
                      have hk' := HLL.out
                      simp only [List.getD_eq_getElem?_getD]
                      rw [List.append_assoc, List.getElem?_append_right (by omega), List.getElem?_append_left (by omega)]
                      congr 2
                      omega
                    clear hbi hsp hnf P1 B9 HBA hI hE hS hB hT
                    have hlp : 0 < L.length := List.length_pos_iff.2 hne
                    generalize lf (spl Z0 k ++ L ++ B) = ZI at *
                    clear hIn hlen hne
                    go_wp2_with fail
                    refine (zznumber_any _ gi 0 (k + L.length + B.length) ci ZI 0 _ (by omega) hgi (by omega) HI.out k HSP.out (true, k + L.length) HNF.out).mono ?_
                    rintro e w13 ⟨⟨v, j, rfl, hres⟩, hb13⟩
                    obtain ⟨rfl, rfl⟩ := hres rfl
                    have HI2 := hid ((HI.out.below hb13).part k L.length (by omega))
                    rw [Nat.zero_add] at HI2
                    have HBL2 := hid (HBL.out.below hb13)
                    have B13 := hid (B12.out.trans (hb13.mono B12.out.size))
                    clear hres hb13 HI HBL B12 HSP HNF
                    rw [Nat.zero_add, show (true, k + L.length).2 - k = L.length from Nat.add_sub_cancel_left _ _, show (true, k + L.length).1 = true from rfl, show (((true, k + L.length).2 : Nat) : Int) = (k : Int) + (L.length : Int) from by simp]
                    as_aux_lemma =>
                      go_wp2_with fail
                      refine (sameBytes_any _ gi k L.length (ci - k) (fun i => ZI (k + i)) _ g 0 cc (lf L) _ (by omega) HI2.out HBL2.out HZ.out).mono ?_
                      rintro e w14 ⟨rfl, hb14⟩
                      have B14 := hid (B13.out.trans (hb14.mono B13.out.size))
                      clear hb14
                      go_wp2
                      go_ret
                      exact ⟨rfl, B14.out⟩

end Go.Proofs.Qxb6600511a
