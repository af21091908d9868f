import Derived.Test.Qxb6600511aModel
import Derived.Test.Qxb6600511aNum
namespace Go.Proofs.Qxb6600511a
open Go.RowKit

section
variable {Z : Nat → Int} {len : Nat}

theorem span_end (P : Int → Bool) (i : Nat) : span P Z len i < len → P (Z (span P Z len i)) = false := by
  obtain ⟨n, hn⟩ : ∃ n, len - i = n := ⟨_, rfl⟩
  induction n generalizing i with
  | zero => intro h; rw [span_e (by omega)] at h; omega
  | succ n ih =>
    intro h
    cases hp : P (Z i) with
    | true => rw [span_y (by omega) hp] at h ⊢; exact ih (i + 1) (by omega) h
    | false => rw [span_n (by omega) hp]; exact hp

theorem run_span {st : Nat} (hd : ∀ c, isDig c = true → nx st c = (st : Int)) (i : Nat) : run Z len st i = run Z len st (span isDig Z len i) := by
  obtain ⟨n, hn⟩ : ∃ n, len - i = n := ⟨_, rfl⟩
  induction n generalizing i with
  | zero => rw [span_e (by omega)]
  | succ n ih =>
    cases hp : isDig (Z i) with
    | true =>
      have e := hd _ hp
      rw [run_y (by omega) (by rw [e]; omega), e, Int.toNat_natCast, span_y (by omega) hp]
      exact ih (i + 1) (by omega)
    | false => rw [span_n (by omega) hp]

theorem nx3 (c : Int) (h : isDig c = true) : nx 3 c = ((3 : Nat) : Int) := by simp [nx, h]
theorem nx5 (c : Int) (h : isDig c = true) : nx 5 c = ((5 : Nat) : Int) := by simp [nx, h]
theorem nx8 (c : Int) (h : isDig c = true) : nx 8 c = ((8 : Nat) : Int) := by simp [nx, h]

/-- One step. -/
theorem run_to {st st' i : Nat} (h : i < len) (e : nx st (Z i) = (st' : Int)) : run Z len st i = run Z len st' (i + 1) := by
  rw [run_y h (by rw [e]; omega), e, Int.toNat_natCast]

/-- In the exponent's digits: to their end. -/
theorem run8 (i : Nat) : run Z len 8 i = (8, span isDig Z len i) := by
  rw [run_span nx8]
  by_cases h : span isDig Z len i < len
  · rw [run_n h (by have := span_end (Z := Z) (len := len) isDig i h; simp [nx, this])]
  · rw [run_e (by omega)]

theorem atB_iff {i : Nat} {c : Int} : atB Z len i c = true ↔ i < len ∧ Z i = c := by
  unfold atB; simp

/-- Where a digit stands, or none. -/
theorem dig_at (h : Nat) : (h < span isDig Z len h ↔ h < len ∧ isDig (Z h) = true) := by
  constructor
  · intro hs
    by_cases hl : h < len
    · refine ⟨hl, ?_⟩
      cases hp : isDig (Z h) with
      | true => rfl
      | false => rw [span_n hl hp] at hs; omega
    · rw [span_e (by omega)] at hs; omega
  · rintro ⟨hl, hp⟩
    rw [span_y hl hp]
    have := (span_ge isDig Z len (h + 1)).1
    omega

/-- Behind the exponent's letter and its sign. -/
theorem run_exp (g : Nat) : acc (run Z len 6 g).1 = decide (numSign Z len g < span isDig Z len (numSign Z len g)) ∧
    (numSign Z len g < span isDig Z len (numSign Z len g) → (run Z len 6 g).2 = span isDig Z len (numSign Z len g)) := by
  cases hs : (atB Z len g 43 || atB Z len g 45) with
  | true =>
    have hg : g < len ∧ (Z g = 43 ∨ Z g = 45) := by
      rcases (by simpa using hs : atB Z len g 43 = true ∨ atB Z len g 45 = true) with h | h
      · exact ⟨(atB_iff.1 h).1, .inl (atB_iff.1 h).2⟩
      · exact ⟨(atB_iff.1 h).1, .inr (atB_iff.1 h).2⟩
    have hn : numSign Z len g = g + 1 := by
      unfold numSign
      cases h43 : atB Z len g 43 with
      | true => rfl
      | false => rw [h43] at hs; simp at hs; simp [hs]
    have e : run Z len 6 g = run Z len 7 (g + 1) := run_to hg.1 (by rcases hg.2 with h | h <;> simp [nx, h])
    rw [hn, e]
    by_cases hd : g + 1 < len ∧ isDig (Z (g + 1)) = true
    · have e2 : run Z len 7 (g + 1) = run Z len 8 (g + 1 + 1) := run_to hd.1 (by simp [nx, hd.2])
      rw [e2, run8, ← span_y hd.1 hd.2]
      have h1 := (dig_at (Z := Z) (len := len) (g + 1)).2 hd
      exact ⟨by simp [h1]; rfl, fun _ => rfl⟩
    · have h1 : ¬ g + 1 < span isDig Z len (g + 1) := fun h => hd ((dig_at _).1 h)
      have e2 : run Z len 7 (g + 1) = (7, g + 1) := by
        by_cases hl : g + 1 < len
        · refine run_n hl ?_
          have : isDig (Z (g + 1)) = false := by
            cases hp : isDig (Z (g + 1)) with
            | true => exact absurd ⟨hl, hp⟩ hd
            | false => rfl
          simp [nx, this]
        · exact run_e (by omega)
      rw [e2]
      exact ⟨by simp [h1]; rfl, fun h => absurd h h1⟩
  | false =>
    have h43 : atB Z len g 43 = false := by cases h : atB Z len g 43 <;> simp_all
    have h45 : atB Z len g 45 = false := by cases h : atB Z len g 45 <;> simp_all
    have hn : numSign Z len g = g := by unfold numSign; rw [h43, h45]; rfl
    rw [hn]
    by_cases hd : g < len ∧ isDig (Z g) = true
    · have hne : Z g ≠ 43 ∧ Z g ≠ 45 := by have := isDig_yes hd.2; omega
      have e2 : run Z len 6 g = run Z len 8 (g + 1) := run_to hd.1 (by simp [nx, hd.2, hne.1, hne.2])
      rw [e2, run8, ← span_y hd.1 hd.2]
      have h1 := (dig_at (Z := Z) (len := len) g).2 hd
      exact ⟨by simp [h1]; rfl, fun _ => rfl⟩
    · have h1 : ¬ g < span isDig Z len g := fun h => hd ((dig_at _).1 h)
      have e2 : run Z len 6 g = (6, g) := by
        by_cases hl : g < len
        · refine run_n hl ?_
          have hp : isDig (Z g) = false := by
            cases hp : isDig (Z g) with
            | true => exact absurd ⟨hl, hp⟩ hd
            | false => rfl
          have z1 : Z g ≠ 43 := fun e => by have := atB_iff.2 ⟨hl, e⟩; rw [h43] at this; cases this
          have z2 : Z g ≠ 45 := fun e => by have := atB_iff.2 ⟨hl, e⟩; rw [h45] at this; cases this
          simp [nx, hp, z1, z2]
        · exact run_e (by omega)
      rw [e2]
      exact ⟨by simp [h1]; rfl, fun h => absurd h h1⟩

/-- The run from state st at i accepts as r says. -/
def Ag (Z : Nat → Int) (len st i : Nat) (r : Bool × Nat) : Prop := acc (run Z len st i).1 = r.1 ∧ (r.1 = true → (run Z len st i).2 = r.2)

theorem isE_at (f : Nat) : ((atB Z len f 101 || atB Z len f 69) = true ↔ f < len ∧ isE (Z f) = true) := by
  unfold isE
  simp [atB_iff]
  constructor
  · rintro (⟨h, e⟩ | ⟨h, e⟩)
    · exact ⟨h, .inl e⟩
    · exact ⟨h, .inr e⟩
  · rintro ⟨h, e | e⟩
    · exact .inl ⟨h, e⟩
    · exact .inr ⟨h, e⟩

theorem exp_law {st f : Nat} (ha : acc st = true) (hE : f < len → isE (Z f) = true → nx st (Z f) = ((6 : Nat) : Int)) (hN : f < len → isE (Z f) = false → nx st (Z f) < 0) : Ag Z len st f (numExp Z len f) := by
  unfold Ag numExp
  cases h : (atB Z len f 101 || atB Z len f 69) with
  | true =>
    obtain ⟨hl, he⟩ := (isE_at f).1 h
    rw [run_to hl (hE hl he), if_pos rfl]
    have := run_exp (Z := Z) (len := len) (f + 1)
    exact ⟨this.1, fun hh => this.2 (of_decide_eq_true hh)⟩
  | false =>
    have e : run Z len st f = (st, f) := by
      by_cases hl : f < len
      · refine run_n hl (hN hl ?_)
        cases he : isE (Z f) with
        | true => rw [(isE_at f).2 ⟨hl, he⟩] at h; cases h
        | false => rfl
      · exact run_e (by omega)
    rw [e]
    exact ⟨ha, fun _ => rfl⟩

theorem isE_ne {c : Int} (h : isE c = true) : c ≠ 46 ∧ isDig c = false := by
  unfold isE at h; simp at h
  refine ⟨by omega, ?_⟩
  unfold isDig; simp; omega

theorem frac_law {st q : Nat} (hst : st = 2 ∨ st = 3 ∧ (q < len → isDig (Z q) = false)) : Ag Z len st q (if (numFrac Z len q).1 then numExp Z len (numFrac Z len q).2 else (false, 0)) := by
  cases h : atB Z len q 46 with
  | true =>
    obtain ⟨hl, he⟩ := atB_iff.1 h
    have hf : numFrac Z len q = (decide (q + 1 < span isDig Z len (q + 1)), span isDig Z len (q + 1)) := by unfold numFrac; rw [if_pos h]
    have e1 : run Z len st q = run Z len 4 (q + 1) := run_to hl (by
      rcases hst with rfl | ⟨rfl, hd⟩
      · simp [nx, he]
      · have := hd hl
        rw [he] at this
        simp [nx, he, this])
    rw [hf]
    unfold Ag
    rw [e1]
    by_cases hd : q + 1 < len ∧ isDig (Z (q + 1)) = true
    · have h1 := (dig_at (Z := Z) (len := len) (q + 1)).2 hd
      have e2 : run Z len 4 (q + 1) = run Z len 5 (span isDig Z len (q + 1)) := by
        rw [run_to hd.1 (st' := 5) (by simp [nx, hd.2]), run_span nx5, ← span_y hd.1 hd.2]
      rw [e2]
      simp only [h1, decide_true, if_true]
      refine exp_law rfl (fun _ he => ?_) (fun hl2 he => ?_)
      · have := (isE_ne he).2
        simp [nx, this, he]
      · have := span_end (Z := Z) (len := len) isDig (q + 1) hl2
        simp [nx, this, he]
    · have h1 : ¬ q + 1 < span isDig Z len (q + 1) := fun h => hd ((dig_at _).1 h)
      have e2 : run Z len 4 (q + 1) = (4, q + 1) := by
        by_cases hl2 : q + 1 < len
        · refine run_n hl2 ?_
          have hp : isDig (Z (q + 1)) = false := by
            cases hp : isDig (Z (q + 1)) with
            | true => exact absurd ⟨hl2, hp⟩ hd
            | false => rfl
          simp [nx, hp]
        · exact run_e (by omega)
      rw [e2]
      simp only [h1, decide_false, Bool.false_eq_true, if_false]
      exact ⟨rfl, fun h => h.elim⟩
  | false =>
    have hf : numFrac Z len q = (true, q) := by unfold numFrac; rw [if_neg (by rw [h]; decide)]
    rw [hf]
    simp only [if_true]
    have hne : q < len → Z q ≠ 46 := fun hl e => by have := atB_iff.2 ⟨hl, e⟩; rw [h] at this; cases this
    rcases hst with rfl | ⟨rfl, hd⟩
    · refine exp_law rfl (fun hl he => ?_) (fun hl he => ?_)
      · simp [nx, hne hl, he]
      · simp [nx, hne hl, he]
    · refine exp_law rfl (fun hl he => ?_) (fun hl he => ?_)
      · simp [nx, hne hl, he, hd hl]
      · simp [nx, hne hl, he, hd hl]

theorem int_law {st p : Nat} (hst : st = 1 ∨ st = 0 ∧ (p < len → Z p ≠ 45)) :
    Ag Z len st p (if (numInt Z len p).1 then (if (numFrac Z len (numInt Z len p).2).1 then numExp Z len (numFrac Z len (numInt Z len p).2).2 else (false, 0)) else (false, 0)) := by
  cases h : atB Z len p 48 with
  | true =>
    obtain ⟨hl, he⟩ := atB_iff.1 h
    have hf : numInt Z len p = (true, p + 1) := by unfold numInt; rw [if_pos h]
    rw [hf]
    simp only [if_true]
    have e1 : run Z len st p = run Z len 2 (p + 1) := run_to hl (by rcases hst with rfl | ⟨rfl, _⟩ <;> simp [nx, he])
    unfold Ag
    rw [e1]
    exact frac_law (.inl rfl)
  | false =>
    have hf : numInt Z len p = (decide (p < span isDig Z len p), span isDig Z len p) := by unfold numInt; rw [if_neg (by rw [h]; decide)]
    rw [hf]
    have hne : p < len → Z p ≠ 48 := fun hl e => by have := atB_iff.2 ⟨hl, e⟩; rw [h] at this; cases this
    by_cases hd : p < len ∧ isDig (Z p) = true
    · have h1 := (dig_at (Z := Z) (len := len) p).2 hd
      have e1 : run Z len st p = run Z len 3 (span isDig Z len p) := by
        rw [run_to hd.1 (st' := 3) (by
          have := isDig_yes hd.2
          rcases hst with rfl | ⟨rfl, _⟩
          · simp [nx, hne hd.1, hd.2]
          · simp [nx, hne hd.1, hd.2, show Z p ≠ 45 from by omega]), run_span nx3, ← span_y hd.1 hd.2]
      simp only [h1, decide_true, if_true]
      unfold Ag
      rw [e1]
      exact frac_law (.inr ⟨rfl, span_end isDig p⟩)
    · have h1 : ¬ p < span isDig Z len p := fun h => hd ((dig_at _).1 h)
      have e1 : run Z len st p = (st, p) := by
        by_cases hl : p < len
        · refine run_n hl ?_
          have hp : isDig (Z p) = false := by
            cases hp : isDig (Z p) with
            | true => exact absurd ⟨hl, hp⟩ hd
            | false => rfl
          rcases hst with rfl | ⟨rfl, h45⟩
          · simp [nx, hne hl, hp]
          · simp [nx, hne hl, hp, h45 hl]
        · exact run_e (by omega)
      simp only [h1, decide_false, Bool.false_eq_true, if_false]
      unfold Ag
      rw [e1]
      refine ⟨?_, fun h => by cases h⟩
      rcases hst with rfl | ⟨rfl, _⟩ <;> rfl

/-- THE PLAIN LAW: number accepts what the automaton accepts, and stands where it stops. -/
theorem num_law (s : Nat) : Ag Z len 0 s (numF Z len s) := by
  unfold numF
  cases h : atB Z len s 45 with
  | true =>
    obtain ⟨hl, he⟩ := atB_iff.1 h
    have hn : numNeg Z len s = s + 1 := by unfold numNeg; rw [if_pos h]
    have e1 : run Z len 0 s = run Z len 1 (s + 1) := run_to hl (by simp [nx, he])
    unfold Ag
    rw [hn, e1]
    exact int_law (.inl rfl)
  | false =>
    have hn : numNeg Z len s = s := by unfold numNeg; rw [if_neg (by rw [h]; decide)]
    rw [hn]
    exact int_law (.inr ⟨rfl, fun hl e => by have := atB_iff.2 ⟨hl, e⟩; rw [h] at this; cases this⟩)
end

end Go.Proofs.Qxb6600511a
