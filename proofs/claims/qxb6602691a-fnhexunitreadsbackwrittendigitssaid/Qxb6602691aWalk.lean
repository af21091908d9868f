import Derived.Test.Qxb6602691aBase
namespace Go.Proofs.Qxb6602691a
open Go.RowKit

set_option maxRecDepth 8000 in
set_option maxHeartbeats 2000000 in
theorem readsBack (a : Option Addr) (b off len cap : Nat) (Z : Nat → Int) (u m : Int) (a' : Option Addr) (b' off' len' cap' : Nat) (Z' : Nat → Int) (w : World) (hu0 : 0 ≤ u) (hu1 : u ≤ 65535) (hm0 : 0 ≤ m) (hm1 : m ≤ 255)
    (hl : len ≤ maxLen) (hl' : len' ≤ maxLen) (hn : a = none → len = 0) (hn' : a' = none → len' = 0) (hy : Byt Z len) (hy' : Byt Z' len') (ht : BAt w a b off len Z) (ht' : BAt w a' b' off' len' Z') :
   Calls Try.prog 5 #[.slice a len cap, .int .u16 u, .int .u8 m, .slice a' len' cap'] w fun e w' => e = .returned (.bool true) ∧ Below w.heap.size w w' := by
  have HT := hid ht
  have HN := hid hn
  have HT' := hid ht'
  have HN' := hid hn'
  have HY := hid hy
  have HY' := hid hy'
  clear ht hn ht' hn' hy hy'
  go_enter Try.func5, Try.ntmps5
  go_wp2_with fail
  refine (bytes13 a len cap u m a' len' cap' _ hl hl').mono ?_
  rintro e w1 ⟨⟨r, rfl⟩, hw1⟩
  subst hw1
  unfold maxLen at hl hl'
  cases r with
  | false =>
    go_wp2
    go_ret
    exact ⟨rfl, Below.refl _ _⟩
  | true =>
    by_cases hlen : 65536 < len
    · go_wp2
      go_ret
      exact ⟨rfl, Below.refl _ _⟩
    by_cases hlen' : 65536 < len'
    · go_wp2
      go_ret
      exact ⟨rfl, Below.refl _ _⟩
    go_wp2_with fail
    refine (clone_any a b off len cap Z _ (by omega) HN.out HT.out).mono ?_
    rintro e w2 ⟨⟨a2, b2, c2, rfl, hc2, hn2, hs2, ht2⟩, hb2⟩
    have HT2 := hid ht2
    have HB2 := hid hb2
    have HT2' := hid (HT'.out.below hb2)
    have hL : len ≤ 65536 := by omega
    have hL' : len' ≤ 65536 := by omega
    clear ht2 hs2 hn2 hb2 HT HN HT' hlen hlen' hl hl' hc2
    go_wp2_with fail
    refine (clone_any a' b' off' len' cap' Z' _ (by omega) HN'.out HT2'.out).mono ?_
    rintro e w3 ⟨⟨a3, b3, c3, rfl, hc3, hn3, hs3, ht3⟩, hb3⟩
    have HT3 := hid ht3
    have HT4 := hid (HT2.out.below hb3)
    have HB3 := hid (HB2.out.trans (hb3.mono HB2.out.size))
    clear ht3 hs3 hn3 hb3 HT2 HB2 HT2' HN' hc3
    have hmk := make_y ((len : Int) + 4 + (len' : Int)) (len + 4 + len') (by omega) (by omega)
    obtain ⟨i0, hi, hz0, hz1, hz2⟩ := info_parts Try.info5
    have hHi := hid hi
    have hHz0 := hid hz0
    have hHz1 := hid hz1
    have hHz2 := hid hz2
    clear hi hz0 hz1 hz2
    go_wp2_with fail
    clear hmk
    go_loopw [9, 10] (fun v i wr => ∃ k : Nat, k ≤ len ∧ i = .int .i64 k ∧ wr.ownsRow w3.heap.size 5 1 v k (ys (yl (Bf Z len u m Z') k)) ∧ Below w3.heap.size w3 wr) (fun _ i _ => len - (intOf i).toNat)
    case atStart => exact ⟨0, Nat.zero_le _, rfl, World.ownsRow_made w3 (mkC (len + 4 + len')) (len + 4 + len') (Nat.le_refl _) (by unfold maxLen; omega) (mkC_size _), (Below.refl _ _).alloc (Nat.le_refl _) _⟩
    case round =>
      obtain ⟨k, hk, rfl, hown, hbel⟩ := hrel
      have HO := hid hown
      have HB := hid hbel
      clear hown hbel
      by_cases hlt : k < len
      · have hc := (HT4.out.below HB.out).cell k hlt
        rw [Nat.zero_add] at hc
        have hbl := (HT4.out.below HB.out).lt (by omega)
        have ha := HT4.out.ad (by omega)
        subst ha
        go_wp2_with (at_builtin; go_must (refine wpList_append_own _ rfl _ _ 22 rfl w3.heap.size 5 i0 _ 1 1 Try.underlying22 hHi.out hHz0.out hHz1.out hHz2.out rfl (by decide) _ _ _ rfl (HO.out.alloc _) _ 1 1 [.int .u8 (Z k)] rfl rfl (cell_one_at _ _ rfl _ _) (one_int _ _) (by unfold maxLen; omega) (by omega) (by have := HB.out.size; simp; omega) ?_))
        intro v1 w4 hown1 hgrow1 _
        have HB4 := hid (own_stepW HO.out HB.out ((Below.refl _ _).alloc (Nat.le_refl _) _) hgrow1)
        have HO4 : Hid (w4.ownsRow w3.heap.size 5 1 v1 (k + 1) (ys (yl (Bf Z len u m Z') (k + 1)))) := by
          show w4.ownsRow w3.heap.size 5 1 v1 (k + 1) (ys (yl (Bf Z len u m Z') (k + 1)))
          rw [yl_succ, Bf_1 hlt]; exact hown1
        clear hown1 hgrow1 HO HB
        go_wp2
        go_roundw
        case rel => exact ⟨k + 1, by omega, by go_num, HO4.out, HB4.out⟩
        case measure => simp [intOf]; omega
      · obtain rfl : k = len := by omega
        go_wp2_with fail
        go_loopw [9, 11, 12] (fun v i d wx => ∃ j : Nat, j ≤ 4 ∧ i = .int .i64 (3 - (j : Int)) ∧ wx.ownsRow w3.heap.size 5 1 v (k + j) (ys (yl (Bf Z k u m Z') (k + j))) ∧ Below w3.heap.size w3 wx) (fun _ i _ _ => (intOf i + 1).toNat)
        case atStart => exact ⟨0, by omega, rfl, HO.out, HB.out⟩
        case round =>
          clear HO HB
          obtain ⟨j, hj, rfl, hown, hbel⟩ := hrel
          have HO := hid hown
          have HB := hid hbel
          clear hown hbel
          by_cases hlt : j < 4
          · have hdg := dg_bd u j
            match j, hlt with
            | 0, _ =>
              have e2 : (bits .and .u8 (m / 8) 1 == 1) = bt m 0 := and1 _ (by omega) (by omega)
              go_wp2_with (first | (go_at_call 14; refine (hexDigit_any (dg u 0) (bt m 0) _ hdg.1 hdg.2).mono ?_; rintro e w' ⟨rfl, rfl⟩) | (at_builtin; go_must (refine wpList_append_own _ rfl _ _ 22 rfl w3.heap.size 5 i0 _ 1 1 Try.underlying22 hHi.out hHz0.out hHz1.out hHz2.out rfl (by decide) _ _ _ rfl (HO.out.alloc _) _ 1 1 [.int .u8 (hexD (dg u 0) (bt m 0))] rfl rfl (cell_one_at _ _ rfl _ _) (one_int _ _) (by unfold maxLen; omega) (by omega) (by have := HB.out.size; simp; omega) ?_)))
              clear e2
              intro v1 w4 hown1 hgrow1 _
              have HB4 := hid (own_stepW HO.out HB.out ((Below.refl _ _).alloc (Nat.le_refl _) _) hgrow1)
              have HO4 : Hid (w4.ownsRow w3.heap.size 5 1 v1 (k + (0 + 1)) (ys (yl (Bf Z k u m Z') (k + (0 + 1))))) := by
                have eL : ys (yl (Bf Z k u m Z') (k + (0 + 1))) = ys (yl (Bf Z k u m Z') (k + 0)) ++ [.int .u8 (hexD (dg u 0) (bt m 0))] := by
                  have h := yl_succ (Bf Z k u m Z') (k + 0)
                  rw [Bf_2 (by omega : 0 < 4)] at h
                  exact h
                show w4.ownsRow w3.heap.size 5 1 v1 (k + (0 + 1)) (ys (yl (Bf Z k u m Z') (k + (0 + 1))))
                rw [eL]; exact hown1
              clear hown1 hgrow1 HO HB
              go_wp2
              go_roundw
              case rel => exact ⟨0 + 1, by omega, by go_num, HO4.out, HB4.out⟩
              case measure => simp [intOf]
            | 1, _ =>
              have e2 : (bits .and .u8 (m / 4) 1 == 1) = bt m 1 := and1 _ (by omega) (by omega)
              go_wp2_with (first | (go_at_call 14; refine (hexDigit_any (dg u 1) (bt m 1) _ hdg.1 hdg.2).mono ?_; rintro e w' ⟨rfl, rfl⟩) | (at_builtin; go_must (refine wpList_append_own _ rfl _ _ 22 rfl w3.heap.size 5 i0 _ 1 1 Try.underlying22 hHi.out hHz0.out hHz1.out hHz2.out rfl (by decide) _ _ _ rfl (HO.out.alloc _) _ 1 1 [.int .u8 (hexD (dg u 1) (bt m 1))] rfl rfl (cell_one_at _ _ rfl _ _) (one_int _ _) (by unfold maxLen; omega) (by omega) (by have := HB.out.size; simp; omega) ?_)))
              clear e2
              intro v1 w4 hown1 hgrow1 _
              have HB4 := hid (own_stepW HO.out HB.out ((Below.refl _ _).alloc (Nat.le_refl _) _) hgrow1)
              have HO4 : Hid (w4.ownsRow w3.heap.size 5 1 v1 (k + (1 + 1)) (ys (yl (Bf Z k u m Z') (k + (1 + 1))))) := by
                have eL : ys (yl (Bf Z k u m Z') (k + (1 + 1))) = ys (yl (Bf Z k u m Z') (k + 1)) ++ [.int .u8 (hexD (dg u 1) (bt m 1))] := by
                  have h := yl_succ (Bf Z k u m Z') (k + 1)
                  rw [Bf_2 (by omega : 1 < 4)] at h
                  exact h
                show w4.ownsRow w3.heap.size 5 1 v1 (k + (1 + 1)) (ys (yl (Bf Z k u m Z') (k + (1 + 1))))
                rw [eL]; exact hown1
              clear hown1 hgrow1 HO HB
              go_wp2
              go_roundw
              case rel => exact ⟨1 + 1, by omega, by go_num, HO4.out, HB4.out⟩
              case measure => simp [intOf]
            | 2, _ =>
              have e2 : (bits .and .u8 (m / 2) 1 == 1) = bt m 2 := and1 _ (by omega) (by omega)
              go_wp2_with (first | (go_at_call 14; refine (hexDigit_any (dg u 2) (bt m 2) _ hdg.1 hdg.2).mono ?_; rintro e w' ⟨rfl, rfl⟩) | (at_builtin; go_must (refine wpList_append_own _ rfl _ _ 22 rfl w3.heap.size 5 i0 _ 1 1 Try.underlying22 hHi.out hHz0.out hHz1.out hHz2.out rfl (by decide) _ _ _ rfl (HO.out.alloc _) _ 1 1 [.int .u8 (hexD (dg u 2) (bt m 2))] rfl rfl (cell_one_at _ _ rfl _ _) (one_int _ _) (by unfold maxLen; omega) (by omega) (by have := HB.out.size; simp; omega) ?_)))
              clear e2
              intro v1 w4 hown1 hgrow1 _
              have HB4 := hid (own_stepW HO.out HB.out ((Below.refl _ _).alloc (Nat.le_refl _) _) hgrow1)
              have HO4 : Hid (w4.ownsRow w3.heap.size 5 1 v1 (k + (2 + 1)) (ys (yl (Bf Z k u m Z') (k + (2 + 1))))) := by
                have eL : ys (yl (Bf Z k u m Z') (k + (2 + 1))) = ys (yl (Bf Z k u m Z') (k + 2)) ++ [.int .u8 (hexD (dg u 2) (bt m 2))] := by
                  have h := yl_succ (Bf Z k u m Z') (k + 2)
                  rw [Bf_2 (by omega : 2 < 4)] at h
                  exact h
                show w4.ownsRow w3.heap.size 5 1 v1 (k + (2 + 1)) (ys (yl (Bf Z k u m Z') (k + (2 + 1))))
                rw [eL]; exact hown1
              clear hown1 hgrow1 HO HB
              go_wp2
              go_roundw
              case rel => exact ⟨2 + 1, by omega, by go_num, HO4.out, HB4.out⟩
              case measure => simp [intOf]
            | 3, _ =>
              have e2 : (bits .and .u8 (m) 1 == 1) = bt m 3 := and1 _ (by omega) (by omega)
              go_wp2_with (first | (go_at_call 14; refine (hexDigit_any (dg u 3) (bt m 3) _ hdg.1 hdg.2).mono ?_; rintro e w' ⟨rfl, rfl⟩) | (at_builtin; go_must (refine wpList_append_own _ rfl _ _ 22 rfl w3.heap.size 5 i0 _ 1 1 Try.underlying22 hHi.out hHz0.out hHz1.out hHz2.out rfl (by decide) _ _ _ rfl (HO.out.alloc _) _ 1 1 [.int .u8 (hexD (dg u 3) (bt m 3))] rfl rfl (cell_one_at _ _ rfl _ _) (one_int _ _) (by unfold maxLen; omega) (by omega) (by have := HB.out.size; simp; omega) ?_)))
              clear e2
              intro v1 w4 hown1 hgrow1 _
              have HB4 := hid (own_stepW HO.out HB.out ((Below.refl _ _).alloc (Nat.le_refl _) _) hgrow1)
              have HO4 : Hid (w4.ownsRow w3.heap.size 5 1 v1 (k + (3 + 1)) (ys (yl (Bf Z k u m Z') (k + (3 + 1))))) := by
                have eL : ys (yl (Bf Z k u m Z') (k + (3 + 1))) = ys (yl (Bf Z k u m Z') (k + 3)) ++ [.int .u8 (hexD (dg u 3) (bt m 3))] := by
                  have h := yl_succ (Bf Z k u m Z') (k + 3)
                  rw [Bf_2 (by omega : 3 < 4)] at h
                  exact h
                show w4.ownsRow w3.heap.size 5 1 v1 (k + (3 + 1)) (ys (yl (Bf Z k u m Z') (k + (3 + 1))))
                rw [eL]; exact hown1
              clear hown1 hgrow1 HO HB
              go_wp2
              go_roundw
              case rel => exact ⟨3 + 1, by omega, by go_num, HO4.out, HB4.out⟩
              case measure => simp [intOf]
          · obtain rfl : j = 4 := by omega
            rw [show (3 - ((4 : Nat) : Int)) = -1 from rfl]
            go_wp2_with fail
            go_loopw [9, 13] (fun v i wx => ∃ j : Nat, j ≤ len' ∧ i = .int .i64 j ∧ wx.ownsRow w3.heap.size 5 1 v (k + 4 + j) (ys (yl (Bf Z k u m Z') (k + 4 + j))) ∧ Below w3.heap.size w3 wx) (fun _ i _ => len' - (intOf i).toNat)
            case atStart => exact ⟨0, by omega, rfl, HO.out, HB.out⟩
            case round =>
              clear HO HB
              obtain ⟨j, hj, rfl, hown, hbel⟩ := hrel
              have HO := hid hown
              have HB := hid hbel
              clear hown hbel
              by_cases hlt : j < len'
              · have hc := (HT3.out.below HB.out).cell j hlt
                rw [Nat.zero_add] at hc
                have hbl := (HT3.out.below HB.out).lt (by omega)
                have ha := HT3.out.ad (by omega)
                subst ha
                go_wp2_with (at_builtin; go_must (refine wpList_append_own _ rfl _ _ 22 rfl w3.heap.size 5 i0 _ 1 1 Try.underlying22 hHi.out hHz0.out hHz1.out hHz2.out rfl (by decide) _ _ _ rfl (HO.out.alloc _) _ 1 1 [.int .u8 (Z' j)] rfl rfl (cell_one_at _ _ rfl _ _) (one_int _ _) (by unfold maxLen; omega) (by omega) (by have := HB.out.size; simp; omega) ?_))
                intro v1 w4 hown1 hgrow1 _
                have HB4 := hid (own_stepW HO.out HB.out ((Below.refl _ _).alloc (Nat.le_refl _) _) hgrow1)
                have HO4 : Hid (w4.ownsRow w3.heap.size 5 1 v1 (k + 4 + (j + 1)) (ys (yl (Bf Z k u m Z') (k + 4 + (j + 1))))) := by
                  show w4.ownsRow w3.heap.size 5 1 v1 (k + 4 + j + 1) (ys (yl (Bf Z k u m Z') (k + 4 + j + 1)))
                  rw [yl_succ, Bf_3]; exact hown1
                clear hown1 hgrow1 HO HB
                go_wp2
                go_roundw
                case rel => exact ⟨j + 1, by omega, by go_num, HO4.out, HB4.out⟩
                case measure => simp [intOf]; omega
              · obtain rfl : j = len' := by omega
                obtain ⟨g, c, rfl, hgc, hba⟩ := bat_of_owns HO.out (by omega)
                have HBA := hid hba
                have HBY := hid (Bf_byt (u := u) (m := m) HY.out HY'.out)
                have HB0 := hid (HB3.out.trans (HB.out.mono HB3.out.size))
                clear hba HO HB HT3 HT4 HB3 HY HY'
                have huk := hu_back Z k u m Z' (k + 4 + j) hu0 hu1 (by omega)
                have hus := hu_short Z k u m Z'
                have HUK := hid huk
                have HUS := hid hus
                clear huk hus
                go_wp2_with fail
                refine (zzhexUnit_any _ g 0 (k + 4 + j) c (Bf Z k u m Z') 0 k _ (by omega) (by omega) (by omega) HBY.out HBA.out).mono ?_
                rintro e w5 ⟨rfl, hb5⟩
                rw [Nat.zero_add, HUK.out]
                have HBA5 := hid (HBA.out.below hb5)
                have HB5 := hid (HB0.out.trans (hb5.mono HB0.out.size))
                clear hb5 HBA HB0
                go_wp2_with fail
                refine (zzhexUnit_any _ g 0 (k + 4 + j) c (Bf Z k u m Z') k 0 _ (by omega) (by omega) (by omega) HBY.out HBA5.out).mono ?_
                rintro e w6 ⟨rfl, hb6⟩
                rw [show hu (Bf Z k u m Z') (k + 4 + j) 4 (k + 0) 0 = u from HUK.out]
                have HBA6 := hid (HBA5.out.below hb6)
                have HB6 := hid (HB5.out.trans (hb6.mono HB5.out.size))
                clear hb6 HBA5 HB5
                go_wp2_with fail
                refine (zzhexUnit_any _ g 0 (k + 3) c (Bf Z k u m Z') 0 k _ (by omega) (by omega) (by omega) (fun i hi => HBY.out i (by omega)) ⟨fun _ => HBA6.out.lt (by omega), fun _ => rfl, fun i hi => HBA6.out.cell i (by omega)⟩).mono ?_
                rintro e w7 ⟨rfl, hb7⟩
                rw [Nat.zero_add, HUS.out]
                have HB7 := hid (HB6.out.trans (hb7.mono HB6.out.size))
                clear hb7 HBA6 HB6
                go_wp2
                go_ret
                exact ⟨rfl, HB7.out⟩

end Go.Proofs.Qxb6602691a
