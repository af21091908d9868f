import Derived.Test.Qxb6605253aVHelp
namespace Go.Proofs.Qxb6605253a
open Go.RowKit

set_option maxRecDepth 20000 in
set_option maxHeartbeats 4000000 in
theorem oneAtATime (a : Option Addr) (b off len cap : Nat) (G : Nat → Gpu) (a' : Option Addr) (b' off' len' cap' : Nat) (C : Nat → Cnt) (a'' : Option Addr) (b'' off'' len'' cap'' : Nat) (K : Nat → Krn) (w : World)
    (hl : len ≤ maxLen) (hl' : len' ≤ maxLen) (hl'' : len'' ≤ maxLen) (hn : a = none → len = 0) (hn' : a' = none → len' = 0) (hn'' : a'' = none → len'' = 0)
    (ht : SAt w a b off len 6 (gc G)) (ht' : SAt w a' b' off' len' 4 (cc C)) (ht'' : SAt w a'' b'' off'' len'' 6 (kc K))
    (hokC : ∀ i, i < len' → TOk (C i).t) (hwfC : ∀ i, i < len' → (Lit.int .i64 (C i).c).wf = true) (hokG : ∀ i, i < len → TOk (G i).t) :
   Calls Try.prog 6 #[.slice a len cap, .slice a' len' cap', .slice a'' len'' cap''] w fun e w' => e = .returned (.bool true) ∧ Below w.heap.size w w' := by
  have HK : Hid (Kv w w a b off len G a' b' off' len' C a'' b'' off'' len'' K) := ⟨ht, ht', ht'', Below.refl _ _⟩
  have HN := hid hn
  have HN' := hid hn'
  have HN'' := hid hn''
  have HOC := hid hokC
  have HWC := hid hwfC
  have HOG := hid hokG
  clear ht ht' ht'' hn hn' hn'' hokC hwfC hokG
  go_enter Try.func6, Try.ntmps6
  go_wp2_with fail
  refine (bytes29 a b off len cap G a' b' off' len' cap' C a'' b'' off'' len'' cap'' K _ hl hl' hl'' HK.out.sg HK.out.sc HK.out.sk).mono ?_
  rintro e w1 ⟨⟨r, rfl⟩, hw1⟩
  subst hw1
  cases r with
  | false =>
    go_wp2
    go_ret
    exact ⟨rfl, HK.out.bel⟩
  | true =>
    unfold maxLen at hl hl' hl''
    by_cases hlen : 4096 < len
    · go_wp2_with fail
      go_ret
      exact ⟨rfl, HK.out.bel⟩
    by_cases hlen' : 65536 < len'
    · go_wp2_with fail
      go_ret
      exact ⟨rfl, HK.out.bel⟩
    by_cases hlen'' : 4096 < len''
    · go_wp2_with fail
      go_ret
      exact ⟨rfl, HK.out.bel⟩
    have k1 := sizeG_bd G 0 len (by omega) (by omega)
    have k2 := sizeC_bd C (sizeG G 0 len) len' k1.1 k1.2
    by_cases hz : 1048576 < sizeK K (sizeC C (sizeG G 0 len) len') len''
    · go_wp2_with (first | (go_at_call 21; refine (sizeG_any _ a b off len cap G _ (by omega) (by omega) (by omega) HK.out.sg).mono ?_; rintro e w' ⟨rfl, rfl⟩) | (go_at_call 20; refine (sizeC_any _ a' b' off' len' cap' C _ (by omega) (by omega) (by omega) HK.out.sc).mono ?_; rintro e w' ⟨rfl, rfl⟩) | (go_at_call 19; refine (sizeK_any _ a'' b'' off'' len'' cap'' K _ (by omega) (by omega) (by omega) HK.out.sk).mono ?_; rintro e w' ⟨rfl, rfl⟩))
      go_ret
      exact ⟨rfl, HK.out.bel⟩
    · go_wp2_with (first | (go_at_call 21; refine (sizeG_any _ a b off len cap G _ (by omega) (by omega) (by omega) HK.out.sg).mono ?_; rintro e w' ⟨rfl, rfl⟩) | (go_at_call 20; refine (sizeC_any _ a' b' off' len' cap' C _ (by omega) (by omega) (by omega) HK.out.sc).mono ?_; rintro e w' ⟨rfl, rfl⟩) | (go_at_call 19; refine (sizeK_any _ a'' b'' off'' len'' cap'' K _ (by omega) (by omega) (by omega) HK.out.sk).mono ?_; rintro e w' ⟨rfl, rfl⟩))
      have hL : len ≤ 4096 := by omega
      have hL' : len' ≤ 65536 := by omega
      have hL'' : len'' ≤ 4096 := by omega
      clear k1 k2 hz hlen hlen' hlen'' hl hl' hl''
      refine (gpus_any a b off len cap G _ (by omega) HN.out HK.out.sg).mono ?_
      rintro e w2 ⟨⟨aG, bG, cG, rfl, hcG, hnG, hsG, htG⟩, hb2⟩
      have HG2 := hid htG
      have HNG := hid hnG
      have HSG := hid hsG
      have HK2 := hid (HK.out.below hb2)
      clear htG hnG hsG hb2 HK
      go_wp2_with fail
      refine (counts_any a' b' off' len' cap' C _ (by omega) HN'.out HK2.out.sc HOC.out HWC.out).mono ?_
      rintro e w3 ⟨⟨mv, rfl, hmv⟩, hb3⟩
      have HM3 := hid hmv
      have HG3 := hid (HG2.out.below hb3)
      have HK3 := hid (HK2.out.below hb3)
      clear hmv hb3 HG2 HK2
      go_wp2_with fail
      refine (kernels_any a'' b'' off'' len'' cap'' K _ (by omega) HN''.out HK3.out.sk).mono ?_
      rintro e w4 ⟨⟨aK, bK, cK, rfl, hcK, hnK, hsK, htK⟩, hb4⟩
      have HKK := hid htK
      have HM4 := hid (HM3.out.below hb4)
      have HG4 := hid (HG3.out.below hb4)
      have HK4 := hid (HK3.out.below hb4)
      clear htK hnK hsK hb4 HM3 HG3 HK3 hcK
      go_wp2_with fail
      refine (zzverdicts_any aG bG 0 len cG G mv C len' aK bK 0 len'' cK K _ (by omega) (by omega) HG4.out HM4.out HKK.out HOC.out HOG.out).mono ?_
      rintro e w5 ⟨⟨bW, cW, rfl, hcW, htW⟩, hb5⟩
      have HW5 := hid htW
      have HM5 := hid (HM4.out.below hb5)
      have HG5 := hid (HG4.out.below hb5)
      have HK5 := hid (HK4.out.below hb5)
      clear htW hb5 HM4 HG4 HK4 HKK hcW
      have hmk := run_make_n (P := Try.prog) 39 60 _ 6 88 Try.underlying39 Try.info60 len'' (by omega) (by omega)
      go_wp2_with fail
      clear hmk
      go_loopw [11] (fun i wx => ∃ (m : Nat) (f : Nat → Value), m ≤ len'' ∧ i = .int .i64 m ∧ wx.rowIs w5.heap.size 60 (len'' * 6) f ∧ Below w5.heap.size w5 wx ∧ SRow f m 6 (kc (fun i => K (len'' - 1 - i)))) (fun i _ => len'' - (intOf i).toNat)
      case atStart => exact ⟨0, _, Nat.zero_le _, rfl, rowIs_made_n _ _ _ _, (Below.refl _ _).alloc (Nat.le_refl _) _, SRow.zero _ _ _⟩
      case round =>
        obtain ⟨m, f, hm, rfl, hrow, hbel, hf⟩ := hrel
        have HR := hid hrow
        have HB := hid hbel
        have HF := hid hf
        clear hrow hbel hf
        by_cases hlt : m < len''
        · have HS := hid (HK5.out.below HB.out).sk
          have hcs := krn_cells HS.out (i := len'' - 1 - m) (by omega)
          have ha := HS.out.ad (by omega)
          have hsz := HR.out.lt
          obtain ⟨⟨hz0, hz1, hz2, hz3, hz4, hz5⟩, hfz⟩ := row6 HR.out hlt
          have ei : ((len'' : Int) - 1 - (m : Int)).toNat = len'' - 1 - m := by omega
          subst ha
          go_wp2
          go_roundw
          case rel => exact ⟨m + 1, _, by omega, by go_num, rowIs_set6 HR.out _ _ _ _ _ _ _, (((((HB.out.setCell (Nat.le_refl _) _).setCell (Nat.le_refl _) _).setCell (Nat.le_refl _) _).setCell (Nat.le_refl _) _).setCell (Nat.le_refl _) _).setCell (Nat.le_refl _) _, HF.out.step6⟩
          case measure => simp [intOf]; omega
        · obtain rfl : m = len'' := by omega
          have HSR := hid (SAt.ofRow HR.out HF.out)
          have HM6 := hid (HM5.out.below HB.out)
          have HG6 := hid (HG5.out.below HB.out)
          have HK6 := hid (HK5.out.below HB.out)
          have HW6 := hid (HW5.out.below HB.out)
          clear HR HB HF HM5 HG5 HK5 HW5
          go_wp2_with fail
          refine (kernels_any _ w5.heap.size 0 m m (fun i => K (m - 1 - i)) _ (by omega) (fun h => by cases h) HSR.out).mono ?_
          rintro e w7 ⟨⟨aR, bR, cR, rfl, hcR, hnR, hsR, htR⟩, hb7⟩
          have HR7 := hid htR
          have HM7 := hid (HM6.out.below hb7)
          have HG7 := hid (HG6.out.below hb7)
          have HK7 := hid (HK6.out.below hb7)
          have HW7 := hid (HW6.out.below hb7)
          clear hcR hnR hsR htR hb7 HM6 HG6 HK6 HW6 HSR
          go_wp2_with fail
          go_loopw [13, 14, 15, 16] (fun i p q r wx => ∃ (n : Nat), n ≤ len ∧ i = .int .i64 n ∧ Below w7.heap.size w7 wx) (fun i _ _ _ _ => len - (intOf i).toNat)
          case atStart => exact ⟨0, Nat.zero_le _, rfl, Below.refl _ _⟩
          case round =>
            obtain ⟨n, hnl, rfl, hbel⟩ := hrel
            have HB := hid hbel
            clear hbel
            by_cases hlt : n < len
            · have HMx := hid (HM7.out.below HB.out)
              have HGx := hid (HG7.out.below HB.out)
              have HKx := hid (HK7.out.below HB.out)
              have HWx := hid (HW7.out.below HB.out)
              have HRx := hid (HR7.out.below HB.out)
              have haG := HSG.out (fun e => by have := (HNG.out e).1; omega)
              subst haG
              go_wp2_with fail
              refine (zzverdicts_any (some ⟨bG, n * 6, none⟩) bG (n * 6) 1 _ (fun j => G (n + j)) mv C len' aR bR 0 m cR (fun i => K (m - 1 - i)) _ (by omega) (by omega) (HGx.out.one hlt) HMx.out HRx.out HOC.out (fun j hj => HOG.out (n + j) (by omega))).mono ?_
              rintro e w8 ⟨⟨bO, cO, rfl, hcO, htO⟩, hb8⟩
              have HO8 := hid htO
              have HM8 := hid (HMx.out.below hb8)
              have HG8 := hid (HGx.out.below hb8)
              have HK8 := hid (HKx.out.below hb8)
              have HW8 := hid (HWx.out.below hb8)
              have HB8 := hid (HB.out.trans (hb8.mono HB.out.size))
              clear htO hb8 HMx HGx HKx HWx HRx HB hcO
              obtain ⟨vv, rr, hVn, hv1, hv0⟩ := vd_form (G n) (cntF C (G n).t len') (mis (mmB (fun j => (K j).t) (G n).t m) (mmA (fun j => (K j).t) (G n).t m))
              have hVn' : vds G C len' K m n = ⟨(G n).i, (G n).p, (G n).b, (G n).a, (G n).n, vv, rr, cntF C (G n).t len'⟩ := hVn
              have hV0 : vds (fun j => G (n + j)) C len' (fun i => K (m - 1 - i)) m 0 = ⟨(G n).i, (G n).p, (G n).b, (G n).a, (G n).n, vv, rr, cntF C (G n).t len'⟩ := by rw [vds_rev]; exact hVn'
              have hco := vd_cells HO8.out (i := 0) (by omega)
              have hcw := vd_cells HW8.out hlt
              rw [hV0] at hco
              rw [hVn'] at hcw
              simp only [Nat.zero_add, Nat.zero_mul] at hco hcw
              have HC : Hid (cntF C (G n).t len' = cntF C (G n).t len') := rfl
              have HV1 := hid hv1
              have HV0 := hid hv0
              have hcg := gpu_cells HK8.out.sg hlt
              have ha := HK8.out.sg.ad (by omega)
              subst ha
              clear hVn hVn' hV0 hv1 hv0
              go_wp2_with fail
              go_quiet (fail)
              have HM9 := hid (HM8.out.below (below_drewN (Below.refl _ _) nq))
              have HK9 := hid (HK8.out.drewN nq)
              have HW9 := hid (HW8.out.drewN nq)
              have HB9 := hid (below_drewN HB8.out nq)
              have hcw9 := cells8_drewN hcw nq
              clear hco hcw hcg HM8 HG8 HK8 HW8 HB8 HO8
              generalize w8.drewN nq = w9 at *
              have hcg9 := gpu_cells HK9.out.sg hlt
              have hbW9 := HW9.out.lt (by omega)
              go_wp2_with fail
              refine (tofG_any (G n) _).mono ?_
              rintro e w10 ⟨rfl, hb10⟩
              have hcw10 := cells8_below hcw9 hb10 hbW9
              have hbW10 : bW < w10.heap.size := Nat.lt_of_lt_of_le hbW9 hb10.size
              have HM10 := hid (HM9.out.below hb10)
              have HK10 := hid (HK9.out.below hb10)
              have HB10 := hid (HB9.out.trans (hb10.mono HB9.out.size))
              clear hcw9 hbW9 hcg9 hb10 HM9 HK9 HB9 HW9
              go_wp2_with fail
              have HTV : Hid (TBox ((w10.alloc (.cells #[.string (G n).b, .string (G n).a, .int .i64 (G n).n] 23)).alloc (.cells #[.int .i64 (G n).i, .string (G n).p, .string (G n).b, .string (G n).a, .int .i64 (G n).n, .string vv, .string rr, .int .i64 (cntF C (G n).t len')] 57)) w10.heap.size (G n).t) := (TBox.new w10 (G n).t 23).below ((Below.refl _ _).alloc (Nat.le_refl _) _)
              have HVV : Hid (BoxV ((w10.alloc (.cells #[.string (G n).b, .string (G n).a, .int .i64 (G n).n] 23)).alloc (.cells #[.int .i64 (G n).i, .string (G n).p, .string (G n).b, .string (G n).a, .int .i64 (G n).n, .string vv, .string rr, .int .i64 (cntF C (G n).t len')] 57)) (w10.heap.size + 1) ⟨(G n).i, (G n).p, (G n).b, (G n).a, (G n).n, vv, rr, cntF C (G n).t len'⟩) := by
                have h := BoxV.new (w10.alloc (.cells #[.string (G n).b, .string (G n).a, .int .i64 (G n).n] 23)) ⟨(G n).i, (G n).p, (G n).b, (G n).a, (G n).n, vv, rr, cntF C (G n).t len'⟩
                have e : (w10.alloc (.cells #[.string (G n).b, .string (G n).a, .int .i64 (G n).n] 23)).heap.size = w10.heap.size + 1 := by simp
                rw [e] at h; exact h
              have HbV := hid (((Below.refl w10.heap.size w10).alloc (Nat.le_refl _) (.cells #[.string (G n).b, .string (G n).a, .int .i64 (G n).n] 23)).alloc (by simp) (.cells #[.int .i64 (G n).i, .string (G n).p, .string (G n).b, .string (G n).a, .int .i64 (G n).n, .string vv, .string rr, .int .i64 (cntF C (G n).t len')] 57))
              have HKV := hid (HK10.out.below HbV.out)
              have HMV := hid (HM10.out.below HbV.out)
              have HBV := hid (HB10.out.trans (HbV.out.mono HB10.out.size))
              clear hcw10 hbW10 HM10 HK10 HB10 HbV
              generalize (w10.alloc (.cells #[.string (G n).b, .string (G n).a, .int .i64 (G n).n] 23)).alloc (.cells #[.int .i64 (G n).i, .string (G n).p, .string (G n).b, .string (G n).a, .int .i64 (G n).n, .string vv, .string rr, .int .i64 (cntF C (G n).t len')] 57) = wV at *
              generalize w10.heap.size + 1 = y at *
              generalize w10.heap.size = x at *
              have hSV := heldW HTV.out.drew HVV.out.drew HKV.out.sg.drew hlt
              go_region_held3 (fun w' => w'.cell? ⟨y, 0, none⟩ = some (.int .i64 (G n).i) ∧ w'.cell? ⟨y, 2, none⟩ = some (.string (G n).b) ∧ w'.cell? ⟨y, 3, none⟩ = some (.string (G n).a) ∧ w'.cell? ⟨y, 4, none⟩ = some (.int .i64 (G n).n) ∧ w'.cell? ⟨y, 7, none⟩ = some (.int .i64 (cntF C (G n).t len')) ∧ w'.cell? ⟨x, 0, none⟩ = some (.string (G n).b) ∧ w'.cell? ⟨x, 1, none⟩ = some (.string (G n).a) ∧ w'.cell? ⟨x, 2, none⟩ = some (.int .i64 (G n).n) ∧ w'.cell? ⟨b, off + n * 6, none⟩ = some (.int .i64 (G n).i)) (first | with_reducible assumption | fail)
                (first
                  | (go_at_call 13; refine (target_any _ _ _ _).mono ?_; rintro e w11 ⟨rfl, hb11⟩; have HT11 := hid (HTV.out.below (undrew hb11)); have HV11 := hid (HVV.out.below (undrew hb11)); have HK11 := hid (HKV.out.below (undrew hb11)); have HM11 := hid (HMV.out.below (undrew hb11)); have HB11 := hid (HBV.out.trans ((undrew hb11).mono HBV.out.size)); have hS11 := heldW HT11.out HV11.out HK11.out.sg hlt; clear hb11)
                  | (go_at_call 28; refine (countOf_any a' b' off' len' cap' C (G n).t _ (by omega) HK11.out.sc).mono ?_; rintro e w12 ⟨rfl, hb12⟩; have HT12 := hid (HT11.out.below hb12); have HV12 := hid (HV11.out.below hb12); have HK12 := hid (HK11.out.below hb12); have HM12 := hid (HM11.out.below hb12); have HB12 := hid (HB11.out.trans (hb12.mono HB11.out.size)); have hS12 := heldW HT12.out HV12.out HK12.out.sg hlt; clear hb12))
              clear hSV hS11 hS12 HT11 HV11 HK11 HM11 HB11 HTV HVV HKV HMV HBV HT12
              have HR0 := mis_full (mmB (fun j => (K j).t) (G n).t m) (mmA (fun j => (K j).t) (G n).t m)
              clear HC
              generalize mis (mmB (fun j => (K j).t) (G n).t m) (mmA (fun j => (K j).t) (G n).t m) = R at *
              generalize cntF C (G n).t len' = c at *
              obtain ⟨hy, hy0, hy1, hy2, hy3, hy4, hy5, hy6, hy7, hyf⟩ := HV12.out
              by_cases hc0 : c = 0
              · obtain ⟨rfl, rfl⟩ := HV0.out hc0
                subst hc0
                go_wp2
                go_roundw
                case rel => exact ⟨n + 1, by omega, by go_num, HB12.out⟩
                case measure => simp [intOf]; omega
              · obtain ⟨rfl, rfl⟩ := HV1.out hc0
                have hcz : (c == 0) = false := by simpa using hc0
                have hcz' : (c != 0) = true := by simpa using hc0
                clear hc0
                go_wp2
                go_roundw
                case rel => exact ⟨n + 1, by omega, by go_num, HB12.out⟩
                case measure => simp [intOf]; omega
            · obtain rfl : n = len := by omega
              go_wp2
              go_ret
              exact ⟨rfl, HK7.out.bel.trans (HB.out.mono HK7.out.bel.size)⟩

end Go.Proofs.Qxb6605253a
