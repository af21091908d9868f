import Derived.Test.Qxb6600511aNumLaw
import Derived.Test.Qxb6600511aHexWalk
namespace Go.Proofs.Qxb6600511a
open Go.RowKit

/-- The bytes l lie at p. -/
def At (Z : Nat → Int) (len : Nat) : Nat → List Int → Prop
  | p, [] => p ≤ len
  | p, c :: l => p < len ∧ Z p = c ∧ At Z len (p + 1) l
variable {Z : Nat → Int} {len : Nat}
theorem At.app {l m : List Int} : ∀ {p : Nat}, At Z len p (l ++ m) → At Z len p l ∧ At Z len (p + l.length) m := by
  induction l with
  | nil =>
    intro p h
    refine ⟨?_, h⟩
    cases m with
    | nil => exact h
    | cons c t => exact Nat.le_of_lt h.1
  | cons c l ih =>
    intro p h
    obtain ⟨h1, h2, h3⟩ := h
    have h4 := ih h3
    refine ⟨⟨h1, h2, h4.1⟩, ?_⟩
    have e : p + (c :: l).length = p + 1 + l.length := by rw [List.length_cons]; omega
    rw [e]; exact h4.2
theorem At.le {l : List Int} : ∀ {p : Nat}, At Z len p l → p + l.length ≤ len := by
  induction l with
  | nil => intro p h; exact h
  | cons c l ih => intro p h; have := ih h.2.2; rw [List.length_cons]; omega
/-- The span runs over a list of its kind, and stops behind it. -/
theorem span_list (P : Int → Bool) {l : List Int} (hP : ∀ c ∈ l, P c = true) : ∀ {p : Nat}, At Z len p l → span P Z len p = span P Z len (p + l.length) := by
  induction l with
  | nil => intro p _; rfl
  | cons c l ih =>
    intro p h
    obtain ⟨h1, h2, h3⟩ := h
    rw [span_y h1 (by rw [h2]; exact hP c (List.mem_cons_self ..)), ih (fun x hx => hP x (List.mem_cons_of_mem _ hx)) h3]
    have e : p + (c :: l).length = p + 1 + l.length := by rw [List.length_cons]; omega
    rw [e]
theorem span_stop (P : Int → Bool) {p : Nat} (h : p < len → P (Z p) = false) : span P Z len p = p := by
  by_cases hp : p < len
  · exact span_n hp (h hp)
  · exact span_e (by omega)

/-- zzContinues. -/
def cont (c : Int) (lone frac exp : Bool) : Bool := if exp then isDig c else if frac then isDig c || c == 101 || c == 69 else if lone then c == 46 || c == 101 || c == 69 else isDig c || c == 46 || c == 101 || c == 69

theorem atB_f {i : Nat} {c : Int} (h : i < len → Z i ≠ c) : atB Z len i c = false := by
  cases hz : atB Z len i c with
  | false => rfl
  | true => have := atB_iff.1 hz; exact absurd this.2 (h this.1)
theorem atB_t {i : Nat} {c : Int} (h : i < len) (e : Z i = c) : atB Z len i c = true := atB_iff.2 ⟨h, e⟩

def tN (neg : Bool) : List Int := if neg then [45] else []
def tF (frac : Bool) (F : List Int) : List Int := if frac then 46 :: F else []
def tE (exp : Bool) (E : Int) (S X : List Int) : List Int := if exp then E :: (S ++ X) else []

/-- The exponent. -/
theorem exp_at (f : Nat) (exp : Bool) (E : Int) (S X : List Int) (hE : E = 101 ∨ E = 69) (hS : S = [] ∨ S = [43] ∨ S = [45]) (hX : X ≠ []) (hXd : ∀ c ∈ X, isDig c = true)
    (hat : At Z len f (tE exp E S X)) (hend : f + (tE exp E S X).length < len → if exp then isDig (Z (f + (tE exp E S X).length)) = false else Z (f + (tE exp E S X).length) ≠ 101 ∧ Z (f + (tE exp E S X).length) ≠ 69) :
    numExp Z len f = (true, f + (tE exp E S X).length) := by
  unfold numExp
  cases exp with
  | false =>
    have hend' : f < len → Z f ≠ 101 ∧ Z f ≠ 69 := hend
    rw [atB_f (fun h => (hend' h).1), atB_f (fun h => (hend' h).2)]
    rfl
  | true =>
    have hat' : At Z len f (E :: (S ++ X)) := hat
    obtain ⟨h1, h2, h3⟩ := hat'
    have hb : (atB Z len f 101 || atB Z len f 69) = true := by
      rcases hE with rfl | rfl
      · rw [atB_t h1 h2]; rfl
      · rw [atB_t h1 h2]; simp
    rw [if_pos hb]
    obtain ⟨h4, h5⟩ := h3.app
    have hlen : f + (tE true E S X).length = f + 1 + S.length + X.length := by
      show f + (E :: (S ++ X)).length = _
      rw [List.length_cons, List.length_append]; omega
    rw [hlen] at hend ⊢
    have hend' : f + 1 + S.length + X.length < len → isDig (Z (f + 1 + S.length + X.length)) = false := hend
    have hx0 : ∃ c t, X = c :: t := by cases X with
      | nil => exact absurd rfl hX
      | cons c t => exact ⟨c, t, rfl⟩
    have hsg : numSign Z len (f + 1) = f + 1 + S.length := by
      unfold numSign
      rcases hS with rfl | rfl | rfl
      · obtain ⟨c, t, rfl⟩ := hx0
        have hz : Z (f + 1) = c := h5.2.1
        have hd := isDig_yes (hXd c (List.mem_cons_self ..))
        rw [atB_f (fun _ => by omega), atB_f (fun _ => by omega)]
        rfl
      · rw [atB_t h4.1 h4.2.1]; rfl
      · rw [atB_f (fun _ => by rw [h4.2.1]; decide), atB_t h4.1 h4.2.1]; rfl
    rw [hsg, span_list isDig hXd h5, span_stop isDig hend']
    have : 0 < X.length := by obtain ⟨c, t, rfl⟩ := hx0; simp
    rw [decide_eq_true (by omega)]
/-- The fraction. -/
theorem frac_at (q : Nat) (frac : Bool) (F : List Int) (hF : F ≠ []) (hFd : ∀ c ∈ F, isDig c = true)
    (hat : At Z len q (tF frac F)) (hend : q + (tF frac F).length < len → if frac then isDig (Z (q + (tF frac F).length)) = false else Z (q + (tF frac F).length) ≠ 46) :
    numFrac Z len q = (true, q + (tF frac F).length) := by
  unfold numFrac
  cases frac with
  | false =>
    have hend' : q < len → Z q ≠ 46 := hend
    rw [atB_f hend']
    rfl
  | true =>
    have hat' : At Z len q (46 :: F) := hat
    obtain ⟨h1, h2, h3⟩ := hat'
    rw [atB_t h1 h2]
    have hlen : q + (tF true F).length = q + 1 + F.length := by
      show q + (46 :: F).length = _
      rw [List.length_cons]; omega
    rw [hlen] at hend ⊢
    have hend' : q + 1 + F.length < len → isDig (Z (q + 1 + F.length)) = false := hend
    rw [span_list isDig hFd h3, span_stop isDig hend']
    have : 0 < F.length := List.length_pos_iff.2 hF
    rw [decide_eq_true (by omega)]
    rfl
/-- The integer part. -/
theorem int_at (p : Nat) (lone : Bool) (I : List Int) (hI : lone = true ∧ I = [48] ∨ lone = false ∧ (∀ c ∈ I, isDig c = true) ∧ ∃ c t, I = c :: t ∧ c ≠ 48)
    (hat : At Z len p I) (hend : lone = false → p + I.length < len → isDig (Z (p + I.length)) = false) :
    numInt Z len p = (true, p + I.length) := by
  unfold numInt
  rcases hI with ⟨rfl, rfl⟩ | ⟨rfl, hd, c, t, rfl, hc⟩
  · rw [atB_t hat.1 hat.2.1]; rfl
  · rw [atB_f (fun _ => by rw [hat.2.1]; exact hc), span_list isDig hd hat, span_stop isDig (hend rfl)]
    rw [decide_eq_true (by rw [List.length_cons]; omega)]
    rfl
theorem neg_at (s : Nat) (neg : Bool) (I : List Int) (hI : ∃ c t, I = c :: t ∧ isDig c = true) (hat : At Z len s (tN neg ++ I)) : numNeg Z len s = s + (tN neg).length := by
  unfold numNeg
  obtain ⟨c, t, rfl, hc⟩ := hI
  have := isDig_yes hc
  cases neg with
  | false => rw [atB_f (fun _ => by have h : Z s = c := hat.2.1; omega)]; rfl
  | true => rw [atB_t hat.1 hat.2.1]; rfl

/-- THE PLAIN LAW: what JSON writes is accepted, whole. -/
theorem num_at (s : Nat) (neg lone frac exp : Bool) (I F : List Int) (E : Int) (S X : List Int)
    (hI : lone = true ∧ I = [48] ∨ lone = false ∧ (∀ c ∈ I, isDig c = true) ∧ ∃ c t, I = c :: t ∧ c ≠ 48)
    (hF : F ≠ []) (hFd : ∀ c ∈ F, isDig c = true) (hE : E = 101 ∨ E = 69) (hS : S = [] ∨ S = [43] ∨ S = [45]) (hX : X ≠ []) (hXd : ∀ c ∈ X, isDig c = true)
    (hat : At Z len s (tN neg ++ I ++ tF frac F ++ tE exp E S X))
    (hend : s + (tN neg ++ I ++ tF frac F ++ tE exp E S X).length < len → cont (Z (s + (tN neg ++ I ++ tF frac F ++ tE exp E S X).length)) lone frac exp = false) :
    numF Z len s = (true, s + (tN neg ++ I ++ tF frac F ++ tE exp E S X).length) := by
  have hIc : ∃ c t, I = c :: t ∧ isDig c = true := by
    rcases hI with ⟨_, rfl⟩ | ⟨_, hd, c, t, rfl, _⟩
    · exact ⟨48, [], rfl, by decide⟩
    · exact ⟨c, t, rfl, hd c (List.mem_cons_self ..)⟩
  obtain ⟨a1, aE⟩ := hat.app
  obtain ⟨a2, aF⟩ := a1.app
  obtain ⟨a3, aI⟩ := a2.app
  have e0 := neg_at s neg I hIc a2
  have hL : s + (tN neg ++ I ++ tF frac F ++ tE exp E S X).length = s + (tN neg).length + I.length + (tF frac F).length + (tE exp E S X).length := by
    simp only [List.length_append]; omega
  rw [hL] at hend ⊢
  have l1 : s + (tN neg ++ I).length = s + (tN neg).length + I.length := by rw [List.length_append]; omega
  have l2 : s + (tN neg ++ I ++ tF frac F).length = s + (tN neg).length + I.length + (tF frac F).length := by simp only [List.length_append]; omega
  rw [l1] at aF
  rw [l2] at aE
  clear a1 a2 a3 l1 l2 hL hat
  generalize hp : s + (tN neg).length = p at *
  have e3 : numExp Z len (p + I.length + (tF frac F).length) = (true, p + I.length + (tF frac F).length + (tE exp E S X).length) := by
    refine exp_at _ exp E S X hE hS hX hXd aE fun h => ?_
    have hc := hend h
    generalize Z (p + I.length + (tF frac F).length + (tE exp E S X).length) = c at hc ⊢
    cases exp with
    | true => simpa [cont] using hc
    | false =>
      show c ≠ 101 ∧ c ≠ 69
      unfold cont at hc
      cases frac <;> cases lone <;> simp at hc <;> omega
  have e2 : numFrac Z len (p + I.length) = (true, p + I.length + (tF frac F).length) := by
    refine frac_at _ frac F hF hFd aF fun h => ?_
    cases exp with
    | true =>
      have hz : Z (p + I.length + (tF frac F).length) = E := aE.2.1
      rw [hz]
      rcases hE with rfl | rfl <;> cases frac <;> decide
    | false =>
      have hc := hend h
      rw [show (tE false E S X).length = 0 from rfl, Nat.add_zero] at hc
      generalize Z (p + I.length + (tF frac F).length) = c at hc ⊢
      unfold cont at hc
      cases frac with
      | true => simp at hc ⊢; exact hc.1.1
      | false =>
        show c ≠ 46
        cases lone <;> simp at hc <;> omega
  have e1 : numInt Z len p = (true, p + I.length) := by
    refine int_at p lone I hI aI fun hl h => ?_
    subst hl
    cases frac with
    | true =>
      have hz : Z (p + I.length) = 46 := aF.2.1
      rw [hz]; decide
    | false =>
      cases exp with
      | true =>
        have hz : Z (p + I.length) = E := aE.2.1
        rw [hz]
        rcases hE with rfl | rfl <;> decide
      | false =>
        have hc : cont (Z (p + I.length)) false false false = false := hend h
        unfold cont at hc
        simp at hc
        exact hc.1.1.1
  unfold numF
  rw [e0, e1]
  simp only [if_true]
  rw [e2]
  simp only [if_true]
  exact e3
end Go.Proofs.Qxb6600511a
