import Derived.Test.Qxb6605253aMonoBytes
namespace Go.Proofs.Qxb6605253a
open Go.RowKit

theorem Try.info23 : (Try.prog.info? 23).map (fun i => (i.zero, i.size, i.bytes)) = some (some (.agg #[.string ⟨#[]⟩, .string ⟨#[]⟩, .int .i64 0]), 3, 40) := by kernel_rfl

/-- The cells of k targets in a row. -/
def cellsT (T : Nat → Tgt) : Nat → List Value
  | 0 => []
  | k + 1 => cellsT T k ++ [.string (T k).b, .string (T k).a, .int .i64 (T k).n]
theorem cellsT_len (T : Nat → Tgt) (k : Nat) : (cellsT T k).length = k * 3 := by
  induction k with
  | zero => rfl
  | succ k ih => simp [cellsT, ih]; omega
theorem cellsT_at (T : Nat → Tgt) (k j : Nat) (h : j < k) : (cellsT T k)[j * 3]? = some (.string (T j).b) ∧ (cellsT T k)[j * 3 + 1]? = some (.string (T j).a) ∧ (cellsT T k)[j * 3 + 2]? = some (.int .i64 (T j).n) := by
  induction k with
  | zero => exact absurd h (Nat.not_lt_zero _)
  | succ k ih =>
    have hl := cellsT_len T k
    by_cases e : j = k
    · subst e
      simp only [cellsT]
      refine ⟨?_, ?_, ?_⟩
      · rw [List.getElem?_append_right (by omega), hl, Nat.sub_self]; rfl
      · rw [List.getElem?_append_right (by omega), hl, show j * 3 + 1 - j * 3 = 1 from by omega]; rfl
      · rw [List.getElem?_append_right (by omega), hl, show j * 3 + 2 - j * 3 = 2 from by omega]; rfl
    · obtain ⟨h0, h1, h2⟩ := ih (by omega)
      simp only [cellsT]
      refine ⟨?_, ?_, ?_⟩
      · rw [List.getElem?_append_left (by omega), h0]
      · rw [List.getElem?_append_left (by omega), h1]
      · rw [List.getElem?_append_left (by omega), h2]
theorem cellsT_congr {T T' : Nat → Tgt} {k : Nat} (h : ∀ i, i < k → T i = T' i) : cellsT T k = cellsT T' k := by
  induction k with
  | zero => rfl
  | succ k ih => rw [cellsT, cellsT, ih (fun i hi => h i (by omega)), h k (by omega)]

/-- A slice that the call has built, read as targets. -/
theorem tat_of_owns {w : World} {base n : Nat} {e : TypeId} {v : Value} {T : Nat → Tgt} (h : w.ownsRow base e 3 v n (cellsT T n)) :
    ∃ a b c, v = .slice a n c ∧ (a = none → n = 0) ∧ TAt w a b 0 n T := by
  rcases h.2 with ⟨rfl, rfl⟩ | ⟨g, cap, cur, rfl, hb, hg, hn, hm, hs, hx⟩
  · exact ⟨none, 0, 0, rfl, fun _ => rfl, TAt.nil _ _ _ _ _⟩
  · have hc : ∀ j, j < n * 3 → w.cell? ⟨g, j, none⟩ = (cellsT T n)[j]? := fun j hj => World.ownsRow.cellAt h j hj
    refine ⟨_, g, cap, rfl, fun e => (by cases e), ⟨fun _ => (Array.getElem?_eq_some_iff.1 hg).1, fun _ => rfl, fun i hi => ?_, fun i hi => ?_, fun i hi => ?_⟩⟩
    · rw [Nat.zero_add, hc _ (by omega)]; exact (cellsT_at T n i hi).1
    · rw [Nat.zero_add, hc _ (by omega)]; exact (cellsT_at T n i hi).2.1
    · rw [Nat.zero_add, hc _ (by omega)]; exact (cellsT_at T n i hi).2.2

theorem cell_three_new (w : World) (v0 v1 v2 : Value) (ty : TypeId) : ∀ j u, [v0, v1, v2][j]? = some u → (w.alloc (.cells #[v0, v1, v2] ty)).cell? ((⟨w.heap.size, 0, none⟩ : Addr).add j) = some u := by
  intro j u hj
  match j, hj with
  | 0, hj => simp at hj; subst hj; simp [Addr.add]
  | 1, hj => simp at hj; subst hj; simp [Addr.add]
  | 2, hj => simp at hj; subst hj; simp [Addr.add]
theorem one_three (t : Tgt) : ∀ u ∈ [Value.string t.b, .string t.a, .int .i64 t.n], u.oneCell' = true := by
  intro u hu
  simp at hu
  rcases hu with rfl | rfl | rfl <;> rfl

theorem own_step {wm wr w1 : World} {e : TypeId} {size : Nat} {v : Value} {n : Nat} {xs : List Value} {o : Obj} (hown : wr.ownsRow wm.heap.size e size v n xs) (hbel : Below wm.heap.size wm wr) (hg : (wr.alloc o).grownBy w1 v.ownBlock) : Below wm.heap.size wm w1 :=
  (hbel.alloc hbel.size _).grown hg (by simp; have := hbel.size; omega) (fun k hk => (hown.lt k hk).1)

/-- make([]T, 0, n) for whatever element size: an equation for every world. -/
theorem run_make_0n {P : Program} (t e : TypeId) (z : Value) (size bytes : Nat) (ht : P.underlying t = some (.slice e)) (hinfo : (P.info? e).map (fun i => (i.zero, i.size, i.bytes)) = some (some z, size, bytes))
    (c : Int) (n : Nat) (hc : c = (n : Int)) (hb : bytes * n ≤ 281474976710656) (hn : n ≤ 9223372036854775807) (w : World) :
    (Instr.makeSlice t (.int .i64 0) (.int .i64 c)).run P w = .ok (.slice (some ⟨w.heap.size, 0, none⟩) 0 n) (w.alloc (.cells (madeCells z.cells (n * size)) e)) := by
  obtain ⟨i, hi, hz, hs, hby⟩ := info_parts hinfo
  subst hs; subst hby; subst hc
  have h := run_make (P := P) w t e i z ht hi hz .i64 .i64 0 n (by omega) (by omega) (by rw [← Int.natCast_mul]; omega) (by omega)
  simpa using h

/-- One list behind another. -/
def glue (T : Nat → Tgt) (len : Nat) (T' : Nat → Tgt) (i : Nat) : Tgt := if i < len then T i else T' (i - len)
theorem glue_l (T : Nat → Tgt) (len : Nat) (T' : Nat → Tgt) (i : Nat) (h : i < len) : glue T len T' i = T i := if_pos h
theorem glue_r (T : Nat → Tgt) (len : Nat) (T' : Nat → Tgt) (i : Nat) : glue T len T' (len + i) = T' i := by unfold glue; rw [if_neg (by omega), Nat.add_sub_cancel_left]

theorem mmB_iff (T : Nat → Tgt) (t : Tgt) (k : Nat) : mmB T t k = true ↔ ∃ i, i < k ∧ ((T i).b.toList == t.b.toList) = true := by
  induction k with
  | zero => simp [mmB]
  | succ k ih =>
    by_cases e : ((T k).b.toList == t.b.toList) = true
    · rw [mmB_y e]
      exact ⟨fun _ => ⟨k, by omega, e⟩, fun _ => rfl⟩
    · have e' : ((T k).b.toList == t.b.toList) = false := by simpa using e
      rw [mmB_n e', ih]
      constructor
      · rintro ⟨i, hi, h⟩; exact ⟨i, by omega, h⟩
      · rintro ⟨i, hi, h⟩
        by_cases e2 : i = k
        · subst e2; exact absurd h e
        · exact ⟨i, by omega, h⟩
theorem mmA_iff (T : Nat → Tgt) (t : Tgt) (k : Nat) : mmA T t k = true ↔ ∃ i, i < k ∧ ((T i).b.toList == t.b.toList) = true ∧ ((T i).a.toList == t.a.toList) = true := by
  induction k with
  | zero => simp [mmA]
  | succ k ih =>
    by_cases e : ((T k).b.toList == t.b.toList) = true
    · by_cases e2 : mmA T t k = true
      · rw [mmA_yy e e2]
        obtain ⟨i, hi, h⟩ := ih.1 e2
        exact ⟨fun _ => ⟨i, by omega, h⟩, fun _ => rfl⟩
      · rw [mmA_yn e e2]
        constructor
        · intro h; exact ⟨k, by omega, e, h⟩
        · rintro ⟨i, hi, h⟩
          by_cases e3 : i = k
          · subst e3; exact h.2
          · exact absurd (ih.2 ⟨i, by omega, h⟩) e2
    · have e' : ((T k).b.toList == t.b.toList) = false := by simpa using e
      rw [mmA_n e', ih]
      constructor
      · rintro ⟨i, hi, h⟩; exact ⟨i, by omega, h⟩
      · rintro ⟨i, hi, h⟩
        by_cases e2 : i = k
        · subst e2; exact absurd h.1 e
        · exact ⟨i, by omega, h⟩

theorem rank_mis (b a : Bool) : rankF (mis b a) = if b then (if a then 2 else 1) else 0 := by
  cases b <;> cases a <;> simp [rankF, mis, backS, archS, warpS]

/-- The whole law over plain data. -/
theorem law_mono (T T' : Nat → Tgt) (t : Tgt) (k m : Nat) :
    0 ≤ rankF (mis (mmB T t k) (mmA T t k)) ∧ rankF (mis (mmB T t k) (mmA T t k)) ≤ rankF (mis (mmB (glue T k T') t (k + m)) (mmA (glue T k T') t (k + m))) ∧
    mis (mmB (glue T k (fun _ => t)) t (k + 1)) (mmA (glue T k (fun _ => t)) t (k + 1)) = warpS ∧
    mis (mmB (fun i => T (k - 1 - i)) t k) (mmA (fun i => T (k - 1 - i)) t k) = mis (mmB T t k) (mmA T t k) := by
  have hb : mmB T t k = true → mmB (glue T k T') t (k + m) = true := by
    rw [mmB_iff, mmB_iff]
    rintro ⟨i, hi, h⟩
    exact ⟨i, by omega, by rw [glue_l _ _ _ _ hi]; exact h⟩
  have ha : mmA T t k = true → mmA (glue T k T') t (k + m) = true := by
    rw [mmA_iff, mmA_iff]
    rintro ⟨i, hi, h⟩
    exact ⟨i, by omega, by rw [glue_l _ _ _ _ hi]; exact h⟩
  have e0 : glue T k (fun _ => t) k = t := glue_r T k (fun _ => t) 0
  have hsb : mmB (glue T k (fun _ => t)) t (k + 1) = true := (mmB_iff _ _ _).2 ⟨k, by omega, by rw [e0]; simp⟩
  have hsa : mmA (glue T k (fun _ => t)) t (k + 1) = true := (mmA_iff _ _ _).2 ⟨k, by omega, by rw [e0]; simp⟩
  have hrb : mmB (fun i => T (k - 1 - i)) t k = mmB T t k := by
    rw [Bool.eq_iff_iff, mmB_iff, mmB_iff]
    constructor
    · rintro ⟨i, hi, h⟩; exact ⟨k - 1 - i, by omega, h⟩
    · rintro ⟨i, hi, h⟩; exact ⟨k - 1 - i, by omega, by show ((T (k - 1 - (k - 1 - i))).b.toList == _) = true; rw [show k - 1 - (k - 1 - i) = i from by omega]; exact h⟩
  have hra : mmA (fun i => T (k - 1 - i)) t k = mmA T t k := by
    rw [Bool.eq_iff_iff, mmA_iff, mmA_iff]
    constructor
    · rintro ⟨i, hi, h⟩; exact ⟨k - 1 - i, by omega, h⟩
    · rintro ⟨i, hi, h⟩; exact ⟨k - 1 - i, by omega, by show ((T (k - 1 - (k - 1 - i))).b.toList == _) = true ∧ ((T (k - 1 - (k - 1 - i))).a.toList == _) = true; rw [show k - 1 - (k - 1 - i) = i from by omega]; exact h⟩
  have hab : mmA T t k = true → mmB T t k = true := by
    rw [mmA_iff, mmB_iff]
    rintro ⟨i, hi, h⟩; exact ⟨i, hi, h.1⟩
  refine ⟨?_, ?_, by rw [hsb, hsa]; rfl, by rw [hrb, hra]⟩
  · rw [rank_mis]; split <;> (try split) <;> decide
  · rw [rank_mis, rank_mis]
    cases e1 : mmB T t k <;> cases e2 : mmA T t k
    · simp only [Bool.false_eq_true, if_false]; split <;> (try split) <;> decide
    · exact absurd (hab e2) (by rw [e1]; decide)
    · rw [hb e1]; simp only [if_true, Bool.false_eq_true, if_false]; split <;> decide
    · rw [hb e1, ha e2]; simp

end Go.Proofs.Qxb6605253a
