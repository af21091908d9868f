import Derived.Test.Qxb6600511aNumLaw
import Derived.Test.Qxb6600511aZz
namespace Go.Proofs.Qxb6600511a
open Go.RowKit

set_option maxHeartbeats 400000 in
theorem bytes14 (a : Option Addr) (len cap : Nat) (i : Int) (w : World) (hl : len ≤ maxLen) :
   Calls Try.prog 14 #[.slice a len cap, .int .i64 i] w fun e w' => RetB e ∧ w' = w := by
  unfold maxLen at hl
  go_enter Try.func14, Try.ntmps14
  go_wp2
  all_goals (go_ret; exact ⟨⟨_, rfl⟩, rfl⟩)

theorem numExp_bd {Z : Nat → Int} {len f : Nat} (h : (numExp Z len f).1 = true) (hf : f ≤ len) : f ≤ (numExp Z len f).2 ∧ (numExp Z len f).2 ≤ len := by
  unfold numExp at *
  split
  · rename_i hz
    rw [if_pos hz] at h
    have h1 := dig_bd h
    have hl := ((isE_at f).1 hz).1
    have h2 := numSign_bd (Z := Z) (len := len) (g := f + 1) (by omega)
    exact ⟨by simp; omega, h1.2⟩
  · exact ⟨Nat.le_refl _, hf⟩
theorem numF_bd {Z : Nat → Int} {len s : Nat} (h : (numF Z len s).1 = true) : s < (numF Z len s).2 ∧ (numF Z len s).2 ≤ len := by
  unfold numF at *
  have hn : s ≤ numNeg Z len s := by unfold numNeg; split <;> omega
  cases hi : (numInt Z len (numNeg Z len s)).1 with
  | false => rw [hi] at h; simp at h
  | true =>
    rw [hi] at h
    simp only [if_true] at h ⊢
    have b1 := numInt_bd hi
    cases hf : (numFrac Z len (numInt Z len (numNeg Z len s)).2).1 with
    | false => rw [hf] at h; simp at h
    | true =>
      rw [hf] at h
      simp only [if_true] at h ⊢
      have b2 := numFrac_bd hf (by omega)
      have b3 := numExp_bd h (by omega)
      omega

/-- A part of a slice of bytes. -/
theorem BAt.sub {w : World} {a : Option Addr} {b off len : Nat} {Z : Nat → Int} (h : BAt w a b off len Z) (st n : Nat) (hn : st + n ≤ len) : BAt w (some ⟨b, off + st, none⟩) b (off + st) n (fun i => Z (st + i)) :=
  ⟨fun h0 => h.lt (by omega), fun _ => rfl, fun i hi => by rw [Nat.add_assoc]; exact h.cell (st + i) (by omega)⟩

set_option maxRecDepth 4000 in
set_option maxHeartbeats 1000000 in
theorem matchesModel (a : Option Addr) (b off len cap : Nat) (Z : Nat → Int) (i : Int) (w : World) (hl : len ≤ maxLen) (hi : i ≤ 9223372036854775807) (hn : a = none → len = 0) (hy : Byt Z len) (ht : BAt w a b off len Z) :
   Calls Try.prog 5 #[.slice a len cap, .int .i64 i] w fun e w' => e = .returned (.bool true) ∧ Below w.heap.size w w' := by
  have HT := hid ht
  have HN := hid hn
  have HY := hid hy
  clear ht hn hy
  go_enter Try.func5, Try.ntmps5
  go_wp2_with fail
  refine (bytes14 a len cap i _ hl).mono ?_
  rintro e w1 ⟨⟨r, rfl⟩, hw1⟩
  subst hw1
  unfold maxLen at hl
  cases r with
  | false =>
    go_wp2
    go_ret
    exact ⟨rfl, Below.refl _ _⟩
  | true =>
    by_cases hlen : 1048576 < len
    · go_wp2
      go_ret
      exact ⟨rfl, Below.refl _ _⟩
    by_cases hi0 : i < 0
    · go_wp2
      go_ret
      exact ⟨rfl, Below.refl _ _⟩
    obtain ⟨n, rfl⟩ := Int.eq_ofNat_of_zero_le (show 0 ≤ i by omega)
    go_wp2_with fail
    refine (clone_any a b off len cap Z _ (by omega) HN.out HT.out).mono ?_
    rintro e w2 ⟨⟨a2, b2, c2, rfl, hc2, hn2, hs2, ht2⟩, hb2⟩
    have HT2 := hid ht2
    have HS2 := hid hs2
    have HB2 := hid hb2
    clear ht2 hs2 hn2 hb2 HT HN
    have hL : len ≤ 1048576 := by omega
    clear hlen hl hi0
    obtain ⟨st, hst⟩ : ∃ st, span isSp Z len n = st := ⟨_, rfl⟩
    obtain ⟨r, hr⟩ : ∃ r, numF Z len st = r := ⟨_, rfl⟩
    obtain ⟨q, hq⟩ : ∃ q, run Z len 0 st = q := ⟨_, rfl⟩
    have law := num_law (Z := Z) (len := len) st
    unfold Ag at law
    rw [hr, hq] at law
    have hbd : r.1 = true → st < r.2 ∧ r.2 ≤ len := fun h => by rw [← hr] at h ⊢; exact numF_bd h
    have HST := hid hst
    have HR := hid hr
    have HQ := hid hq
    have HL := hid law
    have HBD := hid hbd
    clear hst hr hq law hbd
    go_wp2_with fail
    refine (zznumber_any a2 b2 0 len c2 Z n _ (by omega) hc2 (by omega) HT2.out st HST.out r HR.out).mono ?_
    rintro e w3 ⟨⟨v, j, rfl, hres⟩, hb3⟩
    have HRES := hid hres
    have HT3 := hid (HT2.out.below hb3)
    have HB3 := hid (HB2.out.trans (hb3.mono HB2.out.size))
    clear hres hb3 HT2 HB2
    go_wp2_with fail
    refine (model_any a2 b2 0 len c2 Z n _ (by omega) (by omega) HT3.out HY.out st HST.out q HQ.out).mono ?_
    rintro e w4 ⟨rfl, hw4⟩
    subst hw4
    obtain ⟨l1, l2⟩ := HL.out
    rw [l1]
    clear l1
    cases h1 : r.1 with
    | false =>
      go_wp2
      go_ret
      exact ⟨rfl, HB3.out⟩
    | true =>
      obtain ⟨rfl, rfl⟩ := HRES.out h1
      rw [l2 h1]
      obtain ⟨g1, g2⟩ := HBD.out h1
      clear l2 HL HBD HRES HR HQ
      have ha2 : a2 = some ⟨b2, 0, none⟩ := HT3.out.ad (by omega)
      subst ha2
      generalize r.2 = ee at *
      have HS := hid (HT3.out.sub st (ee - st) (by omega))
      rw [Nat.zero_add] at HS
      go_wp2_with fail
      refine (sameBytes_any _ b2 st (ee - st) (c2 - st) (fun i => Z (st + i)) _ b2 st (c2 - st) (fun i => Z (st + i)) _ (by omega) HS.out HS.out (fun _ _ => rfl)).mono ?_
      rintro e w5 ⟨rfl, hb5⟩
      have HB5 := hid (HB3.out.trans (hb5.mono HB3.out.size))
      clear hb5
      go_wp2
      go_ret
      exact ⟨rfl, HB5.out⟩

end Go.Proofs.Qxb6600511a
