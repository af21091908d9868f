import Derived.Test.Qxb6600511aScan
import Derived.Deep.Cut
import Derived.Deep.CutBlock
namespace Go.Proofs.Qxb6600511a
open Go.RowKit

/-- number, plainly: whether it accepts, and where it stands. -/
def numInt (Z : Nat → Int) (len p : Nat) : Bool × Nat := if atB Z len p 48 then (true, p + 1) else (decide (p < span isDig Z len p), span isDig Z len p)
def numFrac (Z : Nat → Int) (len q : Nat) : Bool × Nat := if atB Z len q 46 then (decide (q + 1 < span isDig Z len (q + 1)), span isDig Z len (q + 1)) else (true, q)
def numSign (Z : Nat → Int) (len g : Nat) : Nat := if atB Z len g 43 then g + 1 else if atB Z len g 45 then g + 1 else g
def numExp (Z : Nat → Int) (len f : Nat) : Bool × Nat :=
  if atB Z len f 101 || atB Z len f 69 then (decide (numSign Z len (f + 1) < span isDig Z len (numSign Z len (f + 1))), span isDig Z len (numSign Z len (f + 1))) else (true, f)
def numNeg (Z : Nat → Int) (len s : Nat) : Nat := if atB Z len s 45 then s + 1 else s
/-- from the start of the text on -/
def numF (Z : Nat → Int) (len s : Nat) : Bool × Nat :=
  if (numInt Z len (numNeg Z len s)).1 then
    if (numFrac Z len (numInt Z len (numNeg Z len s)).2).1 then numExp Z len (numFrac Z len (numInt Z len (numNeg Z len s)).2).2 else (false, 0)
  else (false, 0)

/-- What number hands back: a text from st to the end, or nothing. -/
def RetN (a : Option Addr) (b off len cap : Nat) (Z : Nat → Int) (s : Nat) (w : World) (r : Bool × Nat) (st : Nat) (e : Ending) (w' : World) : Prop :=
  ∃ v j, e = .returned (.tuple #[v, .bool r.1]) ∧ Sc w' s a b off len cap Z j ∧ Below s w w' ∧ (r.1 = true → j = r.2 ∧ v = .slice (some ⟨b, off + st, none⟩) (r.2 - st) (cap - st))

theorem stp_le {x : Bool} {i : Nat} {n : Nat} (h : i ≤ n) : (if x then i + 1 else i) ≤ n + 1 := by split <;> omega

theorem atB_lt {Z : Nat → Int} {len i : Nat} {c : Int} (h : atB Z len i c = true) : i < len := by
  unfold atB at h; simp at h; exact h.1
theorem numNeg_bd {Z : Nat → Int} {len i : Nat} (hl : len ≤ 2097152) (h : i ≤ 9223372036854775807) : numNeg Z len i ≤ 9223372036854775807 := by
  unfold numNeg
  split
  · have := atB_lt (by assumption : atB Z len i 45 = true); omega
  · exact h

theorem dig_bd {Z : Nat → Int} {len p : Nat} (h : decide (p < span isDig Z len p) = true) : p < span isDig Z len p ∧ span isDig Z len p ≤ len := by
  have h1 : p < span isDig Z len p := of_decide_eq_true h
  refine ⟨h1, ?_⟩
  by_cases h2 : p ≤ len
  · exact (span_ge isDig Z len p).2 h2
  · rw [span_e (by omega)] at h1; omega
theorem numInt_bd {Z : Nat → Int} {len p : Nat} (h : (numInt Z len p).1 = true) : p < (numInt Z len p).2 ∧ (numInt Z len p).2 ≤ len := by
  unfold numInt at *
  split
  · have := atB_lt (by assumption : atB Z len p 48 = true); simp; omega
  · rename_i hz
    rw [if_neg hz] at h
    exact dig_bd h
theorem numFrac_bd {Z : Nat → Int} {len q : Nat} (h : (numFrac Z len q).1 = true) (hq : q ≤ len) : q ≤ (numFrac Z len q).2 ∧ (numFrac Z len q).2 ≤ len := by
  unfold numFrac at *
  split
  · rename_i hz
    rw [if_pos hz] at h
    have := dig_bd h
    exact ⟨by simp; omega, this.2⟩
  · exact ⟨Nat.le_refl _, hq⟩

theorem numSign_bd {Z : Nat → Int} {len g : Nat} (h : g ≤ len) : g ≤ numSign Z len g ∧ numSign Z len g ≤ len := by
  unfold numSign
  split
  · have := atB_lt (by assumption : atB Z len g 43 = true); omega
  · split
    · have := atB_lt (by assumption : atB Z len g 45 = true); omega
    · omega

set_option maxRecDepth 4000 in
set_option maxHeartbeats 1000000 in
theorem number_any (s : Nat) (a : Option Addr) (b off len cap : Nat) (Z : Nat → Int) (i : Nat) (w : World) (hl : len ≤ 2097152) (hcap : len ≤ cap) (hi : i ≤ 9223372036854775807) (h : Sc w s a b off len cap Z i) (st : Nat) (hsp : span isSp Z len i = st) (r : Bool × Nat) (hr : numF Z len st = r) :
   Calls Try.prog 25 #[.pointer (some ⟨s, 0, none⟩)] w fun e w' => RetN a b off len cap Z s w r st e w' := by
  have H := hid h
  have HR := hid hr
  have HSP := hid hsp
  clear h hr hsp
  go_enter Try.func25, Try.ntmps25
  go_wp2_with fail
  refine (skipSpace_any s a b off len cap Z i _ hl hi H.out).mono ?_
  rintro e w1 ⟨rfl, hs1, hb1⟩
  have H1 := hid hs1
  have HB1 := hid hb1
  clear hs1 hb1 H
  rw [HSP.out] at H1
  have hst : st ≤ 9223372036854775807 := by
    rw [← HSP.out]
    have := span_ge isSp Z len i
    by_cases h : i ≤ len
    · have := this.2 h; omega
    · rw [span_e (by omega)]; exact hi
  have hp0 := H1.out.c0
  have hp1 := H1.out.c1
  go_wp2_with fail
  refine (optional_any s a b off len cap Z st 45 _ hl hst H1.out).mono ?_
  rintro e w2 ⟨rfl, hs2, hb2⟩
  have H2 : Hid (Sc w2 s a b off len cap Z (numNeg Z len st)) := hs2
  have HB2 := hid (HB1.out.trans hb2)
  have hpb : numNeg Z len st ≤ 9223372036854775807 := numNeg_bd hl hst
  clear hs2 hb2 H1 HB1 hp0 hp1
  have hstp : st ≤ numNeg Z len st := by unfold numNeg; split <;> omega
  generalize hP : numNeg Z len st = p at *
  have HP := hid hP
  clear hP
  generalize atB Z len st 45 = xx
  go_upto_block 0 with fail
  go_cut [13] from 5 (fun x wc => (numInt Z len p).1 = true ∧ Sc wc s a b off len cap Z (numInt Z len p).2 ∧ Below s w wc)
  case first =>
    cases hz : atB Z len p 48 with
    | true =>
      have hI : numInt Z len p = (true, p + 1) := by unfold numInt; rw [if_pos hz]
      have HI := hid hI
      clear hI
      go_wp2_with (go_at_call 29; refine (optional_any s a b off len cap Z p 48 _ hl hpb H2.out).mono ?_; rintro e w3 ⟨rfl, hs3, hb3⟩; rw [hz] at hs3 ⊢; have H3 := hid hs3; have HB3 := hid (HB2.out.trans hb3); clear hs3 hb3)
      go_meet
      case rel => exact ⟨by rw [HI.out], by rw [HI.out]; exact H3.out, HB3.out⟩
    | false =>
      have hI : numInt Z len p = (decide (p < span isDig Z len p), span isDig Z len p) := by unfold numInt; rw [if_neg (by rw [hz]; decide)]
      have HI := hid hI
      clear hI
      cases hd : decide (p < span isDig Z len p) with
      | true =>
        go_wp2_with (first | (go_at_call 29; refine (optional_any s a b off len cap Z p 48 _ hl hpb H2.out).mono ?_; rintro e w3 ⟨rfl, hs3, hb3⟩; rw [hz] at hs3 ⊢; have H3 := hid hs3; have HB3 := hid (HB2.out.trans hb3); clear hs3 hb3) | (go_at_call 30; refine (digits_any s a b off len cap Z p _ hl hpb H3.out).mono ?_; rintro e w4 ⟨rfl, hs4, hb4⟩; rw [hd]; have H4 := hid hs4; have HB4 := hid (HB3.out.trans hb4); clear hs4 hb4))
        go_meet
        case rel => exact ⟨by rw [HI.out]; exact hd, by rw [HI.out]; exact H4.out, HB4.out⟩
      | false =>
        go_wp2_with (first | (go_at_call 29; refine (optional_any s a b off len cap Z p 48 _ hl hpb H2.out).mono ?_; rintro e w3 ⟨rfl, hs3, hb3⟩; rw [hz] at hs3 ⊢; have H3 := hid hs3; have HB3 := hid (HB2.out.trans hb3); clear hs3 hb3) | (go_at_call 30; refine (digits_any s a b off len cap Z p _ hl hpb H3.out).mono ?_; rintro e w4 ⟨rfl, hs4, hb4⟩; rw [hd]; have H4 := hid hs4; have HB4 := hid (HB3.out.trans hb4); clear hs4 hb4))
        go_ret2
        have hF : r = (false, 0) := by rw [← HR.out]; unfold numF; rw [HP.out, HI.out, hd]; rfl
        subst hF
        exact ⟨_, _, rfl, H4.out, HB4.out, (fun h => by cases h)⟩
  case rest =>
    obtain ⟨hi1, hs5, hb5⟩ := hcut
    have HI1 := hid hi1
    have H5 := hid hs5
    have HB5 := hid hb5
    have hq0 := numInt_bd hi1
    clear hi1 hs5 hb5 H2 HB2
    generalize hQ : (numInt Z len p).2 = q at *
    have HQ := hid hQ
    clear hQ
    obtain ⟨w5, hw5⟩ : ∃ w5, w5 = wc := ⟨_, rfl⟩
    subst hw5
    go_upto_region 7 with fail
    go_cut [26] from 5 (fun x wc => x = .bool (!(numFrac Z len q).1) ∧ Sc wc s a b off len cap Z (numFrac Z len q).2 ∧ Below s w wc)
    case first =>
      cases hz : atB Z len q 46 with
      | true =>
        have HI : Hid (numFrac Z len q = (decide (q + 1 < span isDig Z len (q + 1)), span isDig Z len (q + 1))) := by unfold numFrac Hid; rw [if_pos hz]
        go_wp2_with (first | (go_at_call 29; refine (optional_any s a b off len cap Z q 46 _ hl (by omega) H5.out).mono ?_; rintro e w3 ⟨rfl, hs3, hb3⟩; rw [hz] at hs3 ⊢; have H3 := hid hs3; have HB3 := hid (HB5.out.trans hb3); clear hs3 hb3) | (go_at_call 30; refine (digits_any s a b off len cap Z (q + 1) _ hl (by omega) H3.out).mono ?_; rintro e w4 ⟨rfl, hs4, hb4⟩; have H4 := hid hs4; have HB4 := hid (HB3.out.trans hb4); clear hs4 hb4))
        go_meet
        case rel => exact ⟨by rw [HI.out], by rw [HI.out]; exact H4.out, HB4.out⟩
      | false =>
        have HI : Hid (numFrac Z len q = (true, q)) := by unfold numFrac Hid; rw [if_neg (by rw [hz]; decide)]
        go_wp2_with (go_at_call 29; refine (optional_any s a b off len cap Z q 46 _ hl (by omega) H5.out).mono ?_; rintro e w3 ⟨rfl, hs3, hb3⟩; rw [hz] at hs3 ⊢; have H3 := hid hs3; have HB3 := hid (HB5.out.trans hb3); clear hs3 hb3)
        go_meet
        case rel => exact ⟨by rw [HI.out]; rfl, by rw [HI.out]; exact H3.out, HB3.out⟩
    case rest =>
      obtain ⟨rfl, hs6, hb6⟩ := hcut
      have H6 := hid hs6
      have HB6 := hid hb6
      clear hs6 hb6 H5 HB5
      cases hfr : (numFrac Z len q).1 with
      | false =>
        go_wp2
        go_ret2
        have hF : r = (false, 0) := by rw [← HR.out]; unfold numF; rw [HP.out, HI1.out, HQ.out, hfr]; rfl
        subst hF
        exact ⟨_, _, rfl, H6.out, HB6.out, (fun h => by cases h)⟩
      | true =>
        have hf0 := numFrac_bd hfr (by omega)
        have hFr := hid hfr
        have HRE : Hid (numExp Z len (numFrac Z len q).2 = r) := by
          show numExp Z len (numFrac Z len q).2 = r
          rw [← HR.out]; unfold numF; rw [HP.out, HI1.out, HQ.out, hfr]; rfl
        clear hfr
        generalize (numFrac Z len q).2 = f at *
        obtain ⟨w6, hw6⟩ : ∃ w6, w6 = wc := ⟨_, rfl⟩
        subst hw6
        go_upto_region 9 with fail
        go_cut [32] from 5 (fun x wc => x = .bool (atB Z len f 101 || atB Z len f 69) ∧ Sc wc s a b off len cap Z (if (atB Z len f 101 || atB Z len f 69) then f + 1 else f) ∧ Below s w wc)
        case first =>
          cases hz : atB Z len f 101 with
          | true =>
            go_wp2_with (go_at_call 29; refine (optional_any s a b off len cap Z f 101 _ hl (by omega) H6.out).mono ?_; rintro e w3 ⟨rfl, hs3, hb3⟩; rw [hz] at hs3 ⊢; have H3 := hid hs3; have HB3 := hid (HB6.out.trans hb3); clear hs3 hb3)
            go_meet
            case rel => exact ⟨by simp [hz], by simpa [hz] using H3.out, HB3.out⟩
          | false =>
            cases hz2 : atB Z len f 69 with
            | true =>
              go_wp2_with (first | (go_at_call_of 29 (Value.int IntKind.u8 101); refine (optional_any s a b off len cap Z f 101 _ hl (by omega) H6.out).mono ?_; rintro e w3 ⟨rfl, hs3, hb3⟩; rw [hz] at hs3 ⊢; have H3 := hid hs3; have HB3 := hid (HB6.out.trans hb3); clear hs3 hb3) | (go_at_call_of 29 (Value.int IntKind.u8 69); refine (optional_any s a b off len cap Z f 69 _ hl (by omega) H3.out).mono ?_; rintro e w4 ⟨rfl, hs4, hb4⟩; rw [hz2] at hs4 ⊢; have H4 := hid hs4; have HB4 := hid (HB3.out.trans hb4); clear hs4 hb4))
              go_meet
              case rel => exact ⟨by simp [hz, hz2], by simpa [hz, hz2] using H4.out, HB4.out⟩
            | false =>
              go_wp2_with (first | (go_at_call_of 29 (Value.int IntKind.u8 101); refine (optional_any s a b off len cap Z f 101 _ hl (by omega) H6.out).mono ?_; rintro e w3 ⟨rfl, hs3, hb3⟩; rw [hz] at hs3 ⊢; have H3 := hid hs3; have HB3 := hid (HB6.out.trans hb3); clear hs3 hb3) | (go_at_call_of 29 (Value.int IntKind.u8 69); refine (optional_any s a b off len cap Z f 69 _ hl (by omega) H3.out).mono ?_; rintro e w4 ⟨rfl, hs4, hb4⟩; rw [hz2] at hs4 ⊢; have H4 := hid hs4; have HB4 := hid (HB3.out.trans hb4); clear hs4 hb4))
              go_meet
              case rel => exact ⟨by simp [hz, hz2], by simpa [hz, hz2] using H4.out, HB4.out⟩
        case rest =>
          obtain ⟨rfl, hs7, hb7⟩ := hcut
          have H7 := hid hs7
          have HB7 := hid hb7
          clear hs7 hb7 H6 HB6
          cases hE : (atB Z len f 101 || atB Z len f 69) with
          | false =>
            rw [hE] at H7
            have hF : r = (true, f) := by rw [← HRE.out]; unfold numExp; rw [hE]; rfl
            subst hF
            have H8 : Hid (Sc wc s a b off len cap Z f) := H7
            clear H7
            have ha := H8.out.bat.ad (by omega)
            subst ha
            have hc0 := H8.out.c0
            have hc1 := H8.out.c1
            go_wp2_with fail
            go_quiet (fail)
            go_wp2
            go_ret2
            exact ⟨_, f, rfl, H8.out.drewN _, below_drewN HB7.out _, fun _ => ⟨rfl, rfl⟩⟩
          | true =>
            rw [hE] at H7
            have H8 : Hid (Sc wc s a b off len cap Z (f + 1)) := H7
            clear H7
            have hfl : f < len := by
              cases hz : atB Z len f 101 with
              | true => exact atB_lt hz
              | false => rw [hz] at hE; exact atB_lt (by simpa using hE)
            have hF : r = (decide (numSign Z len (f + 1) < span isDig Z len (numSign Z len (f + 1))), span isDig Z len (numSign Z len (f + 1))) := by rw [← HRE.out]; unfold numExp; rw [hE]; rfl
            have HF := hid hF
            clear hF
            have hgn : f + 1 ≤ numSign Z len (f + 1) ∧ numSign Z len (f + 1) ≤ len := numSign_bd (by omega)
            cases hz : atB Z len (f + 1) 43 with
            | true =>
              have hgE : numSign Z len (f + 1) = f + 1 + 1 := by unfold numSign; rw [if_pos hz]
              rw [hgE] at hgn HF
              clear hgE
              generalize hdd : decide (f + 1 + 1 < span isDig Z len (f + 1 + 1)) = dd at *
              cases dd with
              | true =>
                have hdb := dig_bd hdd
                have hF := HF.out
                subst hF
                go_wp2_with (first | (go_at_call_of 29 (Value.int IntKind.u8 43); refine (optional_any s a b off len cap Z (f + 1) 43 _ hl (by omega) H8.out).mono ?_; rintro e w9 ⟨rfl, hs9, hb9⟩; rw [hz] at hs9 ⊢; have H9 := hid hs9; have HB9 := hid (HB7.out.trans hb9); clear hs9 hb9) | (go_at_call 30; refine (digits_any s a b off len cap Z (f + 1 + 1) _ hl (by omega) H9.out).mono ?_; rintro e w12 ⟨rfl, hs12, hb12⟩; rw [hdd]; have H12 := hid hs12; have HB12 := hid (HB9.out.trans hb12); clear hs12 hb12))
                have ha := H12.out.bat.ad (by omega)
                subst ha
                have hc0 := H12.out.c0
                have hc1 := H12.out.c1
                go_wp2_with fail
                go_quiet (fail)
                go_wp2
                go_ret2
                exact ⟨_, _, rfl, H12.out.drewN _, below_drewN HB12.out _, fun _ => ⟨rfl, rfl⟩⟩
              | false =>
                have hF := HF.out
                subst hF
                go_wp2_with (first | (go_at_call_of 29 (Value.int IntKind.u8 43); refine (optional_any s a b off len cap Z (f + 1) 43 _ hl (by omega) H8.out).mono ?_; rintro e w9 ⟨rfl, hs9, hb9⟩; rw [hz] at hs9 ⊢; have H9 := hid hs9; have HB9 := hid (HB7.out.trans hb9); clear hs9 hb9) | (go_at_call 30; refine (digits_any s a b off len cap Z (f + 1 + 1) _ hl (by omega) H9.out).mono ?_; rintro e w12 ⟨rfl, hs12, hb12⟩; rw [hdd]; have H12 := hid hs12; have HB12 := hid (HB9.out.trans hb12); clear hs12 hb12))
                go_ret2
                exact ⟨_, _, rfl, H12.out, HB12.out, (fun h => by cases h)⟩
            | false =>
              have hgE : (if atB Z len (f + 1) 45 then f + 1 + 1 else f + 1) = numSign Z len (f + 1) := by unfold numSign; rw [hz]; rfl
              have HGE := hid hgE
              clear hgE
              generalize numSign Z len (f + 1) = gg at *
              generalize hdd : decide (gg < span isDig Z len (gg)) = dd at *
              cases dd with
              | true =>
                have hdb := dig_bd hdd
                have hF := HF.out
                subst hF
                go_wp2_with (first | (go_at_call_of 29 (Value.int IntKind.u8 43); refine (optional_any s a b off len cap Z (f + 1) 43 _ hl (by omega) H8.out).mono ?_; rintro e w9 ⟨rfl, hs9, hb9⟩; rw [hz] at hs9 ⊢; have H9 := hid hs9; have HB9 := hid (HB7.out.trans hb9); clear hs9 hb9) | (go_at_call_of 29 (Value.int IntKind.u8 45); refine (optional_any s a b off len cap Z (f + 1) 45 _ hl (by omega) H9.out).mono ?_; rintro e w10 ⟨rfl, hs10, hb10⟩; rw [HGE.out] at hs10; have H10 := hid hs10; have HB10 := hid (HB9.out.trans hb10); clear hs10 hb10) | (go_at_call 30; refine (digits_any s a b off len cap Z (gg) _ hl (by omega) H10.out).mono ?_; rintro e w12 ⟨rfl, hs12, hb12⟩; rw [hdd]; have H12 := hid hs12; have HB12 := hid (HB10.out.trans hb12); clear hs12 hb12))
                have ha := H12.out.bat.ad (by omega)
                subst ha
                have hc0 := H12.out.c0
                have hc1 := H12.out.c1
                go_wp2_with fail
                go_quiet (fail)
                go_wp2
                go_ret2
                exact ⟨_, _, rfl, H12.out.drewN _, below_drewN HB12.out _, fun _ => ⟨rfl, rfl⟩⟩
              | false =>
                have hF := HF.out
                subst hF
                go_wp2_with (first | (go_at_call_of 29 (Value.int IntKind.u8 43); refine (optional_any s a b off len cap Z (f + 1) 43 _ hl (by omega) H8.out).mono ?_; rintro e w9 ⟨rfl, hs9, hb9⟩; rw [hz] at hs9 ⊢; have H9 := hid hs9; have HB9 := hid (HB7.out.trans hb9); clear hs9 hb9) | (go_at_call_of 29 (Value.int IntKind.u8 45); refine (optional_any s a b off len cap Z (f + 1) 45 _ hl (by omega) H9.out).mono ?_; rintro e w10 ⟨rfl, hs10, hb10⟩; rw [HGE.out] at hs10; have H10 := hid hs10; have HB10 := hid (HB9.out.trans hb10); clear hs10 hb10) | (go_at_call 30; refine (digits_any s a b off len cap Z (gg) _ hl (by omega) H10.out).mono ?_; rintro e w12 ⟨rfl, hs12, hb12⟩; rw [hdd]; have H12 := hid hs12; have HB12 := hid (HB10.out.trans hb12); clear hs12 hb12))
                go_ret2
                exact ⟨_, _, rfl, H12.out, HB12.out, (fun h => by cases h)⟩

end Go.Proofs.Qxb6600511a
