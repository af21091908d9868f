import Derived.Test.Qxb6605253aVHelp
namespace Go.Proofs.Qxb6605253a
open Go.RowKit

/-- What the first test of a verdict holds on to. -/
theorem heldX {W : World} {x y n b off len : Nat} {a : Option Addr} {G : Nat → Gpu} {vv rr : ByteArray} {c : Int} (hT : TBox W x (G n).t) (hV : BoxV W y ⟨(G n).i, (G n).p, (G n).b, (G n).a, (G n).n, vv, rr, c⟩) (hg : SAt W a b off len 6 (gc G)) (hn : n < len) :
    W.cell? ⟨y, 0, none⟩ = some (.int .i64 (G n).i) ∧ W.cell? ⟨y, 1, none⟩ = some (.string (G n).p) ∧ W.cell? ⟨y, 2, none⟩ = some (.string (G n).b) ∧ W.cell? ⟨y, 3, none⟩ = some (.string (G n).a) ∧ W.cell? ⟨y, 4, none⟩ = some (.int .i64 (G n).n) ∧ W.cell? ⟨x, 0, none⟩ = some (.string (G n).b) ∧ W.cell? ⟨x, 1, none⟩ = some (.string (G n).a) ∧ W.cell? ⟨x, 2, none⟩ = some (.int .i64 (G n).n) ∧ W.cell? ⟨b, off + n * 6, none⟩ = some (.int .i64 (G n).i) ∧ W.cell? ⟨b, off + n * 6 + 4, none⟩ = some (.string (G n).p) :=
  ⟨hV.c0, hV.c1, hV.c2, hV.c3, hV.c4, hT.c0, hT.c1, hT.c2, (gpu_cells hg hn).1, (gpu_cells hg hn).2.2.2.2.1⟩
/-- .. and the last. -/
theorem heldY {W : World} {x y : Nat} {g : Gpu} {vv rr : ByteArray} {c : Int} (hT : TBox W x g.t) (hV : BoxV W y ⟨g.i, g.p, g.b, g.a, g.n, vv, rr, c⟩) :
    W.cell? ⟨y, 5, none⟩ = some (.string vv) ∧ W.cell? ⟨y, 6, none⟩ = some (.string rr) ∧ W.cell? ⟨x, 0, none⟩ = some (.string g.b) ∧ W.cell? ⟨x, 1, none⟩ = some (.string g.a) ∧ W.cell? ⟨x, 2, none⟩ = some (.int .i64 g.n) :=
  ⟨hV.c5, hV.c6, hT.c0, hT.c1, hT.c2⟩

set_option maxRecDepth 20000 in
set_option maxHeartbeats 4000000 in
theorem verdictsExact (a : Option Addr) (b off len cap : Nat) (G : Nat → Gpu) (a' : Option Addr) (b' off' len' cap' : Nat) (C : Nat → Cnt) (a'' : Option Addr) (b'' off'' len'' cap'' : Nat) (K : Nat → Krn) (w : World)
    (hl : len ≤ maxLen) (hl' : len' ≤ maxLen) (hl'' : len'' ≤ maxLen) (hn : a = none → len = 0) (hn' : a' = none → len' = 0) (hn'' : a'' = none → len'' = 0)
    (ht : SAt w a b off len 6 (gc G)) (ht' : SAt w a' b' off' len' 4 (cc C)) (ht'' : SAt w a'' b'' off'' len'' 6 (kc K))
    (hokC : ∀ i, i < len' → TOk (C i).t) (hwfC : ∀ i, i < len' → (Lit.int .i64 (C i).c).wf = true) (hokG : ∀ i, i < len → TOk (G i).t) :
   Calls Try.prog 5 #[.slice a len cap, .slice a' len' cap', .slice a'' len'' cap''] w fun e w' => e = .returned (.bool true) ∧ Below w.heap.size w w' := by
  have HK : Hid (Kv w w a b off len G a' b' off' len' C a'' b'' off'' len'' K) := ⟨ht, ht', ht'', Below.refl _ _⟩
  have HN := hid hn
  have HN' := hid hn'
  have HN'' := hid hn''
  have HOC := hid hokC
  have HWC := hid hwfC
  have HOG := hid hokG
  clear ht ht' ht'' hn hn' hn'' hokC hwfC hokG
  go_enter Try.func5, Try.ntmps5
  go_wp2_with fail
  refine (bytes18 a b off len cap G a' b' off' len' cap' C a'' b'' off'' len'' cap'' K _ hl hl' hl'' HK.out.sg HK.out.sc HK.out.sk).mono ?_
  rintro e w1 ⟨⟨r, rfl⟩, hw1⟩
  subst hw1
  cases r with
  | false =>
    go_wp2
    go_ret
    exact ⟨rfl, HK.out.bel⟩
  | true =>
    unfold maxLen at hl hl' hl''
    by_cases hlen : 4096 < len
    · go_wp2_with fail
      go_ret
      exact ⟨rfl, HK.out.bel⟩
    by_cases hlen' : 65536 < len'
    · go_wp2_with fail
      go_ret
      exact ⟨rfl, HK.out.bel⟩
    by_cases hlen'' : 4096 < len''
    · go_wp2_with fail
      go_ret
      exact ⟨rfl, HK.out.bel⟩
    have k1 := sizeG_bd G 0 len (by omega) (by omega)
    have k2 := sizeC_bd C (sizeG G 0 len) len' k1.1 k1.2
    by_cases hz : 1048576 < sizeK K (sizeC C (sizeG G 0 len) len') len''
    · go_wp2_with (first | (go_at_call 21; refine (sizeG_any _ a b off len cap G _ (by omega) (by omega) (by omega) HK.out.sg).mono ?_; rintro e w' ⟨rfl, rfl⟩) | (go_at_call 20; refine (sizeC_any _ a' b' off' len' cap' C _ (by omega) (by omega) (by omega) HK.out.sc).mono ?_; rintro e w' ⟨rfl, rfl⟩) | (go_at_call 19; refine (sizeK_any _ a'' b'' off'' len'' cap'' K _ (by omega) (by omega) (by omega) HK.out.sk).mono ?_; rintro e w' ⟨rfl, rfl⟩))
      go_ret
      exact ⟨rfl, HK.out.bel⟩
    · go_wp2_with (first | (go_at_call 21; refine (sizeG_any _ a b off len cap G _ (by omega) (by omega) (by omega) HK.out.sg).mono ?_; rintro e w' ⟨rfl, rfl⟩) | (go_at_call 20; refine (sizeC_any _ a' b' off' len' cap' C _ (by omega) (by omega) (by omega) HK.out.sc).mono ?_; rintro e w' ⟨rfl, rfl⟩) | (go_at_call 19; refine (sizeK_any _ a'' b'' off'' len'' cap'' K _ (by omega) (by omega) (by omega) HK.out.sk).mono ?_; rintro e w' ⟨rfl, rfl⟩))
      have hL : len ≤ 4096 := by omega
      have hL' : len' ≤ 65536 := by omega
      have hL'' : len'' ≤ 4096 := by omega
      clear k1 k2 hz hlen hlen' hlen'' hl hl' hl''
      refine (gpus_any a b off len cap G _ (by omega) HN.out HK.out.sg).mono ?_
      rintro e w2 ⟨⟨aG, bG, cG, rfl, hcG, hnG, hsG, htG⟩, hb2⟩
      have HG2 := hid htG
      have HNG := hid hnG
      have HSG := hid hsG
      have HK2 := hid (HK.out.below hb2)
      clear htG hnG hsG hb2 HK
      go_wp2_with fail
      refine (counts_any a' b' off' len' cap' C _ (by omega) HN'.out HK2.out.sc HOC.out HWC.out).mono ?_
      rintro e w3 ⟨⟨mv, rfl, hmv⟩, hb3⟩
      have HM3 := hid hmv
      have HG3 := hid (HG2.out.below hb3)
      have HK3 := hid (HK2.out.below hb3)
      clear hmv hb3 HG2 HK2
      go_wp2_with fail
      refine (kernels_any a'' b'' off'' len'' cap'' K _ (by omega) HN''.out HK3.out.sk).mono ?_
      rintro e w4 ⟨⟨aK, bK, cK, rfl, hcK, hnK, hsK, htK⟩, hb4⟩
      have HKK := hid htK
      have HM4 := hid (HM3.out.below hb4)
      have HG4 := hid (HG3.out.below hb4)
      have HK4 := hid (HK3.out.below hb4)
      clear htK hnK hsK hb4 HM3 HG3 HK3 hcK
      go_wp2_with fail
      refine (zzverdicts_any aG bG 0 len cG G mv C len' aK bK 0 len'' cK K _ (by omega) (by omega) HG4.out HM4.out HKK.out HOC.out HOG.out).mono ?_
      rintro e w5 ⟨⟨bW, cW, rfl, hcW, htW⟩, hb5⟩
      have HW5 := hid htW
      have HM5 := hid (HM4.out.below hb5)
      have HG5 := hid (HG4.out.below hb5)
      have HK5 := hid (HK4.out.below hb5)
      clear htW hb5 HM4 HG4 HK4 HKK hcW
      have hnilV := fun wx => Lib.run_eql_slice_nil (P := Try.prog) wx 44 57 (some (⟨bW, 0, none⟩ : Addr)) len cW 0 0 Try.underlying44
      go_wp2_with fail
      refine (tsOfK_any a'' b'' off'' len'' cap'' K _ (by omega) HK5.out.sk).mono ?_
      rintro e w7 ⟨⟨aR, bR, offR, cR, rfl, htR⟩, hb7⟩
      have HR7 := hid htR
      have HM7 := hid (HM5.out.below hb7)
      have HK7 := hid (HK5.out.below hb7)
      have HW7 := hid (HW5.out.below hb7)
      clear htR hb7 HM5 HG5 HK5 HW5 hnilV
      go_wp2_with fail
      go_loopw [9, 10, 11, 12] (fun i p q r wx => ∃ (n : Nat), n ≤ len ∧ i = .int .i64 n ∧ Below w7.heap.size w7 wx) (fun i _ _ _ _ => len - (intOf i).toNat)
      case atStart => exact ⟨0, Nat.zero_le _, rfl, Below.refl _ _⟩
      case round =>
        obtain ⟨n, hnl, rfl, hbel⟩ := hrel
        have HB := hid hbel
        clear hbel
        by_cases hlt : n < len
        · have HK9 := hid (HK7.out.below HB.out)
          have HW9 := hid (HW7.out.below HB.out)
          have HR9 := hid (HR7.out.below HB.out)
          obtain ⟨vv, rr, hVn, hv1, hv0⟩ := vd_form (G n) (cntF C (G n).t len') (mis (mmB (fun j => (K j).t) (G n).t len'') (mmA (fun j => (K j).t) (G n).t len''))
          have hVn' : vds G C len' K len'' n = ⟨(G n).i, (G n).p, (G n).b, (G n).a, (G n).n, vv, rr, cntF C (G n).t len'⟩ := hVn
          have hcw := vd_cells HW9.out hlt
          rw [hVn'] at hcw
          simp only [Nat.zero_add] at hcw
          have HV1 := hid hv1
          have HV0 := hid hv0
          have ha := HK9.out.sg.ad (by omega)
          subst ha
          have hcg := gpu_cells HK9.out.sg hlt
          have hbW9 := HW9.out.lt (by omega)
          clear hVn hVn' hv1 hv0
          go_wp2_with fail
          refine (tofG_any (G n) _).mono ?_
          rintro e w10 ⟨rfl, hb10⟩
          have hcw10 := cells8_below hcw hb10 hbW9
          have hbW10 : bW < w10.heap.size := Nat.lt_of_lt_of_le hbW9 hb10.size
          have HK10 := hid (HK9.out.below hb10)
          have HR10 := hid (HR9.out.below hb10)
          have HB10 := hid (HB.out.trans (hb10.mono HB.out.size))
          clear hcw hbW9 hcg hb10 HK9 HB HW9 HR9
          go_wp2_with fail
          have HTV : Hid (TBox ((w10.alloc (.cells #[.string (G n).b, .string (G n).a, .int .i64 (G n).n] 23)).alloc (.cells #[.int .i64 (G n).i, .string (G n).p, .string (G n).b, .string (G n).a, .int .i64 (G n).n, .string vv, .string rr, .int .i64 (cntF C (G n).t len')] 57)) w10.heap.size (G n).t) := (TBox.new w10 (G n).t 23).below ((Below.refl _ _).alloc (Nat.le_refl _) _)
          have HVV : Hid (BoxV ((w10.alloc (.cells #[.string (G n).b, .string (G n).a, .int .i64 (G n).n] 23)).alloc (.cells #[.int .i64 (G n).i, .string (G n).p, .string (G n).b, .string (G n).a, .int .i64 (G n).n, .string vv, .string rr, .int .i64 (cntF C (G n).t len')] 57)) (w10.heap.size + 1) ⟨(G n).i, (G n).p, (G n).b, (G n).a, (G n).n, vv, rr, cntF C (G n).t len'⟩) := by
            have h := BoxV.new (w10.alloc (.cells #[.string (G n).b, .string (G n).a, .int .i64 (G n).n] 23)) ⟨(G n).i, (G n).p, (G n).b, (G n).a, (G n).n, vv, rr, cntF C (G n).t len'⟩
            have e : (w10.alloc (.cells #[.string (G n).b, .string (G n).a, .int .i64 (G n).n] 23)).heap.size = w10.heap.size + 1 := by simp
            rw [e] at h; exact h
          have HbV := hid (((Below.refl w10.heap.size w10).alloc (Nat.le_refl _) (.cells #[.string (G n).b, .string (G n).a, .int .i64 (G n).n] 23)).alloc (by simp) (.cells #[.int .i64 (G n).i, .string (G n).p, .string (G n).b, .string (G n).a, .int .i64 (G n).n, .string vv, .string rr, .int .i64 (cntF C (G n).t len')] 57))
          have HKV := hid (HK10.out.below HbV.out)
          have HRV := hid (HR10.out.below HbV.out)
          have HBV := hid (HB10.out.trans (HbV.out.mono HB10.out.size))
          clear hcw10 hbW10 HR10 HK10 HB10 HbV
          generalize (w10.alloc (.cells #[.string (G n).b, .string (G n).a, .int .i64 (G n).n] 23)).alloc (.cells #[.int .i64 (G n).i, .string (G n).p, .string (G n).b, .string (G n).a, .int .i64 (G n).n, .string vv, .string rr, .int .i64 (cntF C (G n).t len')] 57) = wV at *
          generalize w10.heap.size + 1 = y at *
          generalize w10.heap.size = x at *
          have hSV := heldX HTV.out.drew HVV.out.drew HKV.out.sg.drew hlt
          go_region_held3 (fun w' => w'.cell? ⟨y, 0, none⟩ = some (.int .i64 (G n).i) ∧ w'.cell? ⟨y, 1, none⟩ = some (.string (G n).p) ∧ w'.cell? ⟨y, 2, none⟩ = some (.string (G n).b) ∧ w'.cell? ⟨y, 3, none⟩ = some (.string (G n).a) ∧ w'.cell? ⟨y, 4, none⟩ = some (.int .i64 (G n).n) ∧ w'.cell? ⟨x, 0, none⟩ = some (.string (G n).b) ∧ w'.cell? ⟨x, 1, none⟩ = some (.string (G n).a) ∧ w'.cell? ⟨x, 2, none⟩ = some (.int .i64 (G n).n) ∧ w'.cell? ⟨b, off + n * 6, none⟩ = some (.int .i64 (G n).i) ∧ w'.cell? ⟨b, off + n * 6 + 4, none⟩ = some (.string (G n).p)) (first | with_reducible assumption | fail)
            (first
              | (go_at_call 13; refine (target_any _ _ _ _).mono ?_; rintro e w11 ⟨rfl, hb11⟩; have HT11 := hid (HTV.out.below (undrew hb11)); have HV11 := hid (HVV.out.below (undrew hb11)); have HK11 := hid (HKV.out.below (undrew hb11)); have HR11 := hid (HRV.out.below (undrew hb11)); have HB11 := hid (HBV.out.trans ((undrew hb11).mono HBV.out.size)); have hS11 := heldX HT11.out HV11.out HK11.out.sg hlt; clear hb11)
              | fail)
          have hx0 := HT11.out.c0
          have hx1 := HT11.out.c1
          have hx2 := HT11.out.c2
          clear hSV HTV HVV HKV HRV HBV
          go_wp2_with fail
          refine (countOf_any a' b' off' len' cap' C (G n).t _ (by omega) HK11.out.sc).mono ?_
          rintro e w12 ⟨rfl, hb12⟩
          have HT12 := hid (HT11.out.below hb12)
          have HV12 := hid (HV11.out.below hb12)
          have HR12 := hid (HR11.out.below hb12)
          have HB12 := hid (HB11.out.trans (hb12.mono HB11.out.size))
          clear hb12 hS11 HT11 HV11 HR11 HB11 HK11 hx0 hx1 hx2
          rw [mis_reas] at HV0
          generalize hRR : reas (best (fun j => (K j).t) (G n).t len'') = R at *
          have HRR := hid hRR
          clear hRR
          generalize cntF C (G n).t len' = c at *
          obtain ⟨hy, hy0, hy1, hy2, hy3, hy4, hy5, hy6, hy7, hyf⟩ := HV12.out
          by_cases hc0 : c = 0
          · obtain ⟨rfl, rfl⟩ := HV0.out hc0
            subst hc0
            go_wp2_with fail
            have hSY := heldY HT12.out.drew HV12.out.drew
            clear hy hy0 hy1 hy2 hy3 hy4 hy5 hy6 hy7 hyf
            go_region_held3 (fun w' => w'.cell? ⟨y, 5, none⟩ = some (.string ⟨#[105, 110, 99, 111, 109, 112, 97, 116, 105, 98, 108, 101]⟩) ∧ w'.cell? ⟨y, 6, none⟩ = some (.string rr) ∧ w'.cell? ⟨x, 0, none⟩ = some (.string (G n).b) ∧ w'.cell? ⟨x, 1, none⟩ = some (.string (G n).a) ∧ w'.cell? ⟨x, 2, none⟩ = some (.int .i64 (G n).n)) (first | with_reducible assumption | fail)
              (first
                | (go_at_call 15; refine (reason_any (G n).t aR bR offR len'' cR (fun j => (K j).t) _ (by omega) (HR12.out.drewN 1)).mono ?_; rintro e w13 ⟨rfl, hb13⟩; have HT13 := hid (HT12.out.below (undrew hb13)); have HV13 := hid (HV12.out.below (undrew hb13)); have HB13 := hid (HB12.out.trans ((undrew hb13).mono HB12.out.size)); have hS13 := heldY HT13.out HV13.out; clear hb13; try rw [HRR.out])
                | fail)
            clear hSY hS13
            go_wp2
            go_roundw
            case rel => exact ⟨n + 1, by omega, by go_num, HB13.out⟩
            case measure => simp [intOf]; omega
          · obtain ⟨rfl, rfl⟩ := HV1.out hc0
            have hcz : (c == 0) = false := by simpa using hc0
            have hcz' : (c != 0) = true := by simpa using hc0
            clear hc0
            go_wp2
            go_roundw
            case rel => exact ⟨n + 1, by omega, by go_num, HB12.out⟩
            case measure => simp [intOf]; omega
        · obtain rfl : n = len := by omega
          go_wp2
          go_ret
          exact ⟨rfl, HK7.out.bel.trans (HB.out.mono HK7.out.bel.size)⟩

end Go.Proofs.Qxb6605253a
