import Derived.Test.Qxb6600511aWHelp
namespace Go.Proofs.Qxb6600511a
open Go.RowKit

/-- The integer part's digits but the first, k of them. -/
def iL (Z : Nat → Int) (k : Nat) : List Int := (49 + Z 0 % 9) :: dgl (fun i => Z (i + 1)) k
theorem iL_succ (Z : Nat → Int) (k : Nat) : iL Z (k + 1) = iL Z k ++ [48 + Z (k + 1) % 10] := by unfold iL; rw [dgl_succ]; rfl
theorem iL_len (Z : Nat → Int) (k : Nat) : (iL Z k).length = k + 1 := by unfold iL; rw [List.length_cons, dgl_len]
/-- The integer part. -/
def tI (Z : Nat → Int) (n : Nat) : List Int := if n = 0 then [48] else iL Z (n - 1)
def eC (up : Bool) : Int := if up then 69 else 101
def eS (s : Int) : List Int := if s < 0 then [45] else if 0 < s then [43] else []
theorem dig_mod (z : Int) : isDig (48 + z % 10) = true := by unfold isDig; simp; omega
theorem dgl_dig (Z : Nat → Int) (n : Nat) : ∀ c ∈ dgl Z n, isDig c = true := by
  intro c hc
  obtain ⟨i, _, rfl⟩ := List.mem_map.1 hc
  exact dig_mod _
theorem adl_dig (Z : Nat → Int) (n : Nat) : ∀ c ∈ adl Z n, isDig c = true := by
  unfold adl; split
  · intro c hc; simp at hc; subst hc; decide
  · exact dgl_dig Z n
theorem adl_ne (Z : Nat → Int) (n : Nat) : adl Z n ≠ [] := by
  unfold adl; split
  · simp
  · intro h; have := congrArg List.length h; rw [dgl_len] at this; simp at this; contradiction
theorem adl_len (Z : Nat → Int) (n : Nat) : (adl Z n).length ≤ n + 1 := by
  unfold adl; split
  · simp
  · rw [dgl_len]; omega
theorem tN_len (neg : Bool) : (tN neg).length ≤ 1 := by cases neg <;> simp [tN]
theorem tI_len (Z : Nat → Int) (n : Nat) : (tI Z n).length ≤ n + 1 := by
  unfold tI; split
  · simp
  · rw [iL_len]; omega
theorem tI_ok (Z : Nat → Int) (n : Nat) : ((n : Int) == 0) = true ∧ tI Z n = [48] ∨ ((n : Int) == 0) = false ∧ (∀ c ∈ tI Z n, isDig c = true) ∧ ∃ c t, tI Z n = c :: t ∧ c ≠ 48 := by
  by_cases h : n = 0
  · left; subst h; exact ⟨rfl, rfl⟩
  · right
    refine ⟨by simp; omega, ?_, ?_⟩
    · unfold tI; rw [if_neg h]
      intro c hc
      rcases List.mem_cons.1 hc with rfl | hc
      · unfold isDig; simp; omega
      · exact dgl_dig _ _ c hc
    · unfold tI; rw [if_neg h]
      exact ⟨_, _, rfl, by omega⟩
/-- The white space. -/
def spl (Z : Nat → Int) (n : Nat) : List Int := (List.range n).map fun i => spB (Z i)
theorem spl_succ (Z : Nat → Int) (k : Nat) : spl Z (k + 1) = spl Z k ++ [spB (Z k)] := by unfold spl; rw [List.range_succ]; simp
theorem spl_len (Z : Nat → Int) (k : Nat) : (spl Z k).length = k := by simp [spl]
theorem spl_sp (Z : Nat → Int) (n : Nat) : ∀ c ∈ spl Z n, isSp c = true := by
  intro c hc
  obtain ⟨i, _, rfl⟩ := List.mem_map.1 hc
  exact spB_sp _
/-- A list as a function. -/
def lf (l : List Int) (i : Nat) : Int := l.getD i 0
theorem At_mid (T : List Int) : ∀ (A B : List Int), At (lf (A ++ T ++ B)) (A ++ T ++ B).length A.length T := by
  induction T with
  | nil => intro A B; show A.length ≤ _; simp
  | cons c t ih =>
    intro A B
    refine ⟨by simp, by simp [lf], ?_⟩
    have h := ih (A ++ [c]) B
    have e : A ++ [c] ++ t ++ B = A ++ c :: t ++ B := by simp
    rw [e] at h
    simpa using h
theorem Ow.app {wm wr w1 : World} {v v1 : Value} {l m : List Int} {n k : Nat} (hn : l.length = n) (hk : m.length = k) (h : Ow wm wr v l) (hown : w1.ownsRow wm.heap.size 5 1 v1 (n + k) (ys l ++ ys m)) (hg : wr.grownBy w1 v.ownBlock) : Ow wm w1 v1 (l ++ m) :=
  ⟨by rw [List.length_append, hn, hk]; have e : ys (l ++ m) = ys l ++ ys m := by simp [ys]
      rw [e]; exact hown, own_stepW h.own h.bel (Below.refl _ _) hg⟩
theorem Ow.bat {wm w : World} {v : Value} {l : List Int} (h : Ow wm w v l) (hn : l ≠ []) :
    ∃ g c, v = .slice (some ⟨g, 0, none⟩) l.length c ∧ l.length ≤ c ∧ BAt w (some ⟨g, 0, none⟩) g 0 l.length (lf l) := by
  rcases h.own.2 with ⟨_, h0⟩ | ⟨g, cap, cur, rfl, hb, hg, hnc, hm, hs, hx⟩
  · exact absurd (List.eq_nil_of_length_eq_zero h0) hn
  · refine ⟨g, cap, rfl, hnc, fun _ => (Array.getElem?_eq_some_iff.1 hg).1, fun _ => rfl, fun i hi => ?_⟩
    rw [Nat.zero_add, World.ownsRow.cellAt h.own i (by omega)]
    simp [ys, lf, hi]
theorem cells_lf {w : World} {g : Nat} {l : List Int} (h : BAt w (some ⟨g, 0, none⟩) g 0 l.length (lf l)) : ∀ j u, (ys l)[j]? = some u → w.cell? ((⟨g, 0, none⟩ : Addr).add j) = some u := by
  intro j u hu
  have hj : j < l.length := by
    have := (List.getElem?_eq_some_iff.1 hu).1
    simpa [ys] using this
  have hc := h.cell j hj
  rw [Nat.zero_add] at hc
  have hadd : (⟨g, 0, none⟩ : Addr).add j = ⟨g, j, none⟩ := by unfold Addr.add; split <;> simp_all
  rw [hadd, hc]
  simpa [ys, lf, hj] using hu
theorem ys_len (l : List Int) : (ys l).length = l.length := by simp [ys]
theorem BAt.part {w : World} {a : Option Addr} {b off len : Nat} {Z : Nat → Int} (h : BAt w a b off len Z) (st n : Nat) (hn : st + n ≤ len) : BAt w (some ⟨b, off + st, none⟩) b (off + st) n (fun i => Z (st + i)) :=
  ⟨fun h0 => h.lt (by omega), fun _ => rfl, fun i hi => by rw [Nat.add_assoc]; exact h.cell (st + i) (by omega)⟩
/-- What is read back. -/
theorem read_back (A T B : List Int) (neg lone frac exp : Bool) (I F : List Int) (E : Int) (S X : List Int) (hA : ∀ c ∈ A, isSp c = true) (hT : T = tN neg ++ I ++ tF frac F ++ tE exp E S X)
    (hI : lone = true ∧ I = [48] ∨ lone = false ∧ (∀ c ∈ I, isDig c = true) ∧ ∃ c t, I = c :: t ∧ c ≠ 48)
    (hF : F ≠ []) (hFd : ∀ c ∈ F, isDig c = true) (hE : E = 101 ∨ E = 69) (hS : S = [] ∨ S = [43] ∨ S = [45]) (hX : X ≠ []) (hXd : ∀ c ∈ X, isDig c = true)
    (hB : B = [] ∨ ∃ c, B = [c] ∧ cont c lone frac exp = false) :
    span isSp (lf (A ++ T ++ B)) (A ++ T ++ B).length 0 = A.length ∧ numF (lf (A ++ T ++ B)) (A ++ T ++ B).length A.length = (true, A.length + T.length) := by
  have hIc : ∃ c t, I = c :: t ∧ isDig c = true := by
    rcases hI with ⟨_, rfl⟩ | ⟨_, hd, c, t, rfl, _⟩
    · exact ⟨48, [], rfl, by decide⟩
    · exact ⟨c, t, rfl, hd c (List.mem_cons_self ..)⟩
  have hT0 : ∃ c t, T = c :: t ∧ isSp c = false := by
    obtain ⟨c, t, rfl, hc⟩ := hIc
    cases neg with
    | true => exact ⟨45, _, hT, by decide⟩
    | false =>
      refine ⟨c, _, hT, ?_⟩
      have := isDig_yes hc
      unfold isSp; simp; omega
  have hat := At_mid T A B
  have hat0 : At (lf (A ++ T ++ B)) (A ++ T ++ B).length 0 A := by
    have h := At_mid A [] (T ++ B)
    rw [List.nil_append, ← List.append_assoc] at h
    exact h
  constructor
  · rw [span_list isSp hA hat0, Nat.zero_add]
    refine span_stop isSp fun _ => ?_
    obtain ⟨c, t, rfl, hc⟩ := hT0
    rw [hat.2.1]; exact hc
  · have hend : A.length + T.length < (A ++ T ++ B).length → cont (lf (A ++ T ++ B) (A.length + T.length)) lone frac exp = false := by
      intro h
      rcases hB with rfl | ⟨c, rfl, hc⟩
      · simp at h
      · have e : lf (A ++ T ++ [c]) (A.length + T.length) = c := by
          unfold lf
          have : (A ++ T).length = A.length + T.length := List.length_append
          rw [← this]; simp
        rw [e]; exact hc
    subst hT
    exact num_at A.length neg lone frac exp I F E S X hI hF hFd hE hS hX hXd hat hend

end Go.Proofs.Qxb6600511a
