import Derived.Test.Qxb6600511aBase
namespace Go.Proofs.Qxb6600511a
open Go.RowKit

/-! ### Plain: spans -/
/-- From i on, past the bytes that P lets by, up to len. -/
def spanGo (P : Int → Bool) (Z : Nat → Int) : Nat → Nat → Nat
  | 0, i => i
  | n + 1, i => if P (Z i) then spanGo P Z n (i + 1) else i
def span (P : Int → Bool) (Z : Nat → Int) (len i : Nat) : Nat := spanGo P Z (len - i) i
theorem span_y {P : Int → Bool} {Z : Nat → Int} {len i : Nat} (h : i < len) (hp : P (Z i) = true) : span P Z len i = span P Z len (i + 1) := by
  unfold span
  rw [show len - i = (len - (i + 1)) + 1 from by omega, spanGo, if_pos hp]
theorem span_n {P : Int → Bool} {Z : Nat → Int} {len i : Nat} (h : i < len) (hp : P (Z i) = false) : span P Z len i = i := by
  unfold span
  rw [show len - i = (len - (i + 1)) + 1 from by omega, spanGo, if_neg (by rw [hp]; decide)]
theorem span_e {P : Int → Bool} {Z : Nat → Int} {len i : Nat} (h : len ≤ i) : span P Z len i = i := by
  unfold span
  rw [show len - i = 0 from by omega, spanGo]
theorem spanGo_ge (P : Int → Bool) (Z : Nat → Int) (n i : Nat) : i ≤ spanGo P Z n i ∧ spanGo P Z n i ≤ i + n := by
  induction n generalizing i with
  | zero => exact ⟨Nat.le_refl _, Nat.le_refl _⟩
  | succ n ih =>
    unfold spanGo
    split
    · have := ih (i + 1); omega
    · omega
theorem span_ge (P : Int → Bool) (Z : Nat → Int) (len i : Nat) : i ≤ span P Z len i ∧ (i ≤ len → span P Z len i ≤ len) := by
  have := spanGo_ge P Z (len - i) i
  unfold span
  exact ⟨this.1, fun h => by omega⟩

def isDig (c : Int) : Bool := decide (48 ≤ c ∧ c ≤ 57)
def isSp (c : Int) : Bool := c == 32 || c == 9 || c == 10 || c == 13
/-- The byte at i is c. -/
def atB (Z : Nat → Int) (len i : Nat) (c : Int) : Bool := decide (i < len) && (Z i == c)

set_option maxHeartbeats 400000 in
theorem isDigit_any (c : Int) (w : World) (h0 : 0 ≤ c) (h1 : c ≤ 255) :
   Calls Try.prog 27 #[.int .u8 c] w fun e w' => e = .returned (.bool (isDig c)) ∧ w' = w := by
  go_enter Try.func27, Try.ntmps27
  go_wp2
  all_goals (go_ret; refine ⟨ret_bool ?_, rfl⟩; unfold isDig; first | (simp_all; done) | (simp; omega))

set_option maxHeartbeats 400000 in
theorem isSpace_any (c : Int) (w : World) :
   Calls Try.prog 19 #[.int .u8 c] w fun e w' => e = .returned (.bool (isSp c)) ∧ w' = w := by
  go_enter Try.func19, Try.ntmps19
  go_wp2
  all_goals (go_ret; refine ⟨ret_bool ?_, rfl⟩; unfold isSp; simp_all)

/-! ### The scanner -/
/-- THE SCANNER AT BLOCK s: it stands at i of the bytes Z. -/
structure Sc (w : World) (s : Nat) (a : Option Addr) (b off len cap : Nat) (Z : Nat → Int) (i : Nat) : Prop where
  lt : s < w.heap.size
  c0 : w.cell? ⟨s, 0, none⟩ = some (.slice a len cap)
  c1 : w.cell? ⟨s, 1, none⟩ = some (.int .i64 (i : Int))
  fr : w.frozen? ⟨s, 1, none⟩ = false
  bat : BAt w a b off len Z
  ne : len ≠ 0 → b < s

section
variable {w : World} {s : Nat} {a : Option Addr} {b off len cap : Nat} {Z : Nat → Int} {i : Nat}
theorem cell_set_ne {w : World} {N p b o : Nat} {v : Value} (h : b ≠ N) : (w.setCell ⟨N, p, none⟩ v).cell? ⟨b, o, none⟩ = w.cell? ⟨b, o, none⟩ :=
  World.cell?_of_block (w := w) (Below.heap_setCell w ⟨N, p, none⟩ v b h)
theorem Sc.drewN (h : Sc w s a b off len cap Z i) (n : Nat) : Sc (w.drewN n) s a b off len cap Z i :=
  ⟨by simpa using h.lt, by simpa using h.c0, by simpa using h.c1, by simpa using h.fr, h.bat.drewN n, h.ne⟩
theorem Sc.drew (h : Sc w s a b off len cap Z i) : Sc w.drew s a b off len cap Z i := ⟨h.lt, h.c0, h.c1, h.fr, h.bat.drew, h.ne⟩
theorem Sc.set (h : Sc w s a b off len cap Z i) (j : Nat) : Sc (w.setCell ⟨s, 1, none⟩ (.int .i64 (j : Int))) s a b off len cap Z j := by
  refine ⟨by simpa [World.setCell] using h.lt, ?_, ?_, ?_, ⟨fun h0 => by simpa [World.setCell] using h.bat.lt h0, h.bat.ad, fun k hk => ?_⟩, h.ne⟩
  · rw [World.cell?_setCell_other _ _ _ _ (by simp)]; exact h.c0
  · have := h.c1
    exact World.cell?_setCell_same _ _ _ this
  · rw [World.frozen?_setCell]; exact h.fr
  · rw [cell_set_ne (Nat.ne_of_lt (h.ne (by omega)))]; exact h.bat.cell k hk
end

theorem below_set {s : Nat} {w w' : World} (h : Below s w w') (v : Value) : Below s w (w'.setCell ⟨s, 1, none⟩ v) := h.setCell (Nat.le_refl _) v

set_option maxRecDepth 4000 in
set_option maxHeartbeats 1000000 in
theorem optional_any (s : Nat) (a : Option Addr) (b off len cap : Nat) (Z : Nat → Int) (i : Nat) (c : Int) (w : World) (hl : len ≤ 2097152) (hi : i ≤ 9223372036854775807) (h : Sc w s a b off len cap Z i) :
   Calls Try.prog 29 #[.pointer (some ⟨s, 0, none⟩), .int .u8 c] w fun e w' => e = .returned (.bool (atB Z len i c)) ∧ Sc w' s a b off len cap Z (if atB Z len i c then i + 1 else i) ∧ Below s w w' := by
  have H := hid h
  obtain ⟨hs, h0, h1, hf, hb, hne⟩ := h
  clear hb hne
  by_cases hlt : i < len
  · have hc := H.out.bat.cell i hlt
    have ha := H.out.bat.ad (by omega)
    have hbs := H.out.ne (by omega)
    subst ha
    have hlt' : (i : Int) < (len : Int) := by omega
    cases e1 : Z i == c with
    | true =>
      have ea : atB Z len i c = true := by unfold atB; rw [e1]; simp [hlt]
      rw [ea]
      go_enter Try.func29, Try.ntmps29
      go_wp2_with fail
      go_quiet (fail)
      go_wp2
      go_ret
      refine ⟨rfl, ?_, below_set (below_drewN (Below.refl _ _) _) _⟩
      have h2 := (H.out.drewN nq).set (i + 1)
      rw [show ((i + 1 : Nat) : Int) = (i : Int) + 1 from by omega] at h2
      exact h2
    | false =>
      have ea : atB Z len i c = false := by unfold atB; rw [e1]; simp
      rw [ea]
      go_enter Try.func29, Try.ntmps29
      go_wp2_with fail
      go_quiet (fail)
      go_wp2
      go_ret
      exact ⟨rfl, H.out.drewN _, below_drewN (Below.refl _ _) _⟩
  · have ea : atB Z len i c = false := by unfold atB; simp [hlt]
    have hlt' : decide ((i : Int) < (len : Int)) = false := by simp; omega
    rw [ea]
    go_enter Try.func29, Try.ntmps29
    go_wp2_with fail
    go_quiet (fail)
    go_wp2
    go_ret
    exact ⟨rfl, H.out.drewN _, below_drewN (Below.refl _ _) _⟩

theorem isSp_no {c : Int} (h : isSp c = false) : (c == 32) = false ∧ (c == 9) = false ∧ (c == 10) = false ∧ (c == 13) = false := by
  unfold isSp at h; simp at h; simp; omega
theorem isSp_yes {c : Int} (h : isSp c = true) : c = 32 ∨ c = 9 ∨ c = 10 ∨ c = 13 := by
  unfold isSp at h; simp at h; omega

set_option maxRecDepth 4000 in
set_option maxHeartbeats 1000000 in
theorem skipSpace_any (s : Nat) (a : Option Addr) (b off len cap : Nat) (Z : Nat → Int) (i : Nat) (w : World) (hl : len ≤ 2097152) (_hi : i ≤ 9223372036854775807) (h : Sc w s a b off len cap Z i) :
   Calls Try.prog 28 #[.pointer (some ⟨s, 0, none⟩)] w fun e w' => e = .returned (.tuple #[]) ∧ Sc w' s a b off len cap Z (span isSp Z len i) ∧ Below s w w' := by
  have H := hid h
  obtain ⟨hs, h0, h1, hf, hb, hne⟩ := h
  clear hb hne
  go_enter Try.func28, Try.ntmps28
  go_wp2_with fail
  go_quiet (fail)
  have HQ := hid (H.out.drewN nq)
  have HB := hid (below_drewN (Below.refl s w) nq)
  generalize w.drewN nq = w1 at *
  clear hs h0 h1 hf H
  go_wp2_with fail
  go_loop [3] (fun x => ∃ j : Nat, i ≤ j ∧ (j ≤ len ∨ j = i) ∧ x = .int .i64 j ∧ Hid (span isSp Z len i = span isSp Z len j)) (fun x => len - (intOf x).toNat)
  case atStart => exact ⟨i, Nat.le_refl _, .inr rfl, rfl, rfl⟩
  case round =>
    obtain ⟨j, hij, hj, rfl, HS⟩ := hrel
    have HJ := hid hj
    clear hj
    by_cases hlt : j < len
    · have hc := HQ.out.bat.cell j hlt
      have ha := HQ.out.bat.ad (by omega)
      subst ha
      have hlt' : (j : Int) < (len : Int) := by omega
      cases e1 : isSp (Z j) with
      | true =>
        have HS2 : Hid (span isSp Z len i = span isSp Z len (j + 1)) := HS.out.trans (span_y hlt e1)
        have hz := isSp_yes e1
        clear e1
        generalize Z j = c at *
        rcases hz with rfl | rfl | rfl | rfl
        all_goals
          go_wp2
          go_round
          case rel => exact ⟨j + 1, by omega, .inl (by omega), by go_num, HS2⟩
          case measure => simp [intOf]; omega
      | false =>
        have HS2 : Hid (span isSp Z len i = j) := HS.out.trans (span_n hlt e1)
        obtain ⟨n1, n2, n3, n4⟩ := isSp_no e1
        clear e1
        generalize Z j = c at *
        have hsc := HQ.out.c1
        have hsf := HQ.out.fr
        have hsl := HQ.out.lt
        by_cases h32 : c ≤ 32
        · go_wp2
          go_end0
          exact ⟨rfl, by rw [HS2.out]; exact HQ.out.set j, below_set HB.out _⟩
        · go_wp2
          go_end0
          exact ⟨rfl, by rw [HS2.out]; exact HQ.out.set j, below_set HB.out _⟩
    · have hlt' : decide ((j : Int) < (len : Int)) = false := by simp; omega
      have HS2 : Hid (span isSp Z len i = j) := HS.out.trans (span_e (by omega))
      have hsc := HQ.out.c1
      have hsf := HQ.out.fr
      have hsl := HQ.out.lt
      go_wp2
      go_end0
      exact ⟨rfl, by rw [HS2.out]; exact HQ.out.set j, below_set HB.out _⟩

theorem isDig_no {c : Int} (h : isDig c = false) : c < 48 ∨ 57 < c := by
  unfold isDig at h; simp at h; omega
theorem isDig_yes {c : Int} (h : isDig c = true) : 48 ≤ c ∧ c ≤ 57 := by
  unfold isDig at h; simpa using h

set_option maxRecDepth 4000 in
set_option maxHeartbeats 1000000 in
theorem digits_any (s : Nat) (a : Option Addr) (b off len cap : Nat) (Z : Nat → Int) (i : Nat) (w : World) (hl : len ≤ 2097152) (_hi : i ≤ 9223372036854775807) (h : Sc w s a b off len cap Z i) :
   Calls Try.prog 30 #[.pointer (some ⟨s, 0, none⟩)] w fun e w' => e = .returned (.bool (decide (i < span isDig Z len i))) ∧ Sc w' s a b off len cap Z (span isDig Z len i) ∧ Below s w w' := by
  have H := hid h
  obtain ⟨hs, h0, h1, hf, hb, hne⟩ := h
  clear hb hne
  go_enter Try.func30, Try.ntmps30
  go_wp2_with fail
  go_quiet (fail)
  have HQ := hid (H.out.drewN nq)
  have HB := hid (below_drewN (Below.refl s w) nq)
  generalize w.drewN nq = w1 at *
  clear hs h0 h1 hf H
  go_wp2_with fail
  go_loop [5] (fun x => ∃ j : Nat, i ≤ j ∧ (j ≤ len ∨ j = i) ∧ x = .int .i64 j ∧ Hid (span isDig Z len i = span isDig Z len j)) (fun x => len - (intOf x).toNat)
  case atStart => exact ⟨i, Nat.le_refl _, .inr rfl, rfl, rfl⟩
  case round =>
    obtain ⟨j, hij, hj, rfl, HS⟩ := hrel
    have HJ := hid hj
    clear hj
    by_cases hlt : j < len
    · have hc := HQ.out.bat.cell j hlt
      have ha := HQ.out.bat.ad (by omega)
      subst ha
      have hlt' : (j : Int) < (len : Int) := by omega
      cases e1 : isDig (Z j) with
      | true =>
        have HS2 : Hid (span isDig Z len i = span isDig Z len (j + 1)) := HS.out.trans (span_y hlt e1)
        obtain ⟨z1, z2⟩ := isDig_yes e1
        clear e1
        generalize Z j = c at *
        go_wp2
        go_round
        case rel => exact ⟨j + 1, by omega, .inl (by omega), by go_num, HS2⟩
        case measure => simp [intOf]; omega
      | false =>
        have HS2 : Hid (span isDig Z len i = j) := HS.out.trans (span_n hlt e1)
        have hz := isDig_no e1
        clear e1
        generalize Z j = c at *
        have hsc := HQ.out.c1
        have hsf := HQ.out.fr
        have hsl := HQ.out.lt
        rcases hz with hz | hz
        · go_wp2
          go_ret
          exact ⟨ret_bool (by rw [HS2.out]), by rw [HS2.out]; exact HQ.out.set j, below_set HB.out _⟩
        · by_cases hz2 : 48 ≤ c
          · go_wp2
            go_ret
            exact ⟨ret_bool (by rw [HS2.out]), by rw [HS2.out]; exact HQ.out.set j, below_set HB.out _⟩
          · exact absurd hz (by omega)
    · have hlt' : decide ((j : Int) < (len : Int)) = false := by simp; omega
      have HS2 : Hid (span isDig Z len i = j) := HS.out.trans (span_e (by omega))
      have hsc := HQ.out.c1
      have hsf := HQ.out.fr
      have hsl := HQ.out.lt
      go_wp2
      go_ret
      exact ⟨ret_bool (by rw [HS2.out]), by rw [HS2.out]; exact HQ.out.set j, below_set HB.out _⟩

end Go.Proofs.Qxb6600511a
