import Derived.Test.Qxb6605253aRows
import Derived.WalkKit
import Derived.WalkSpells
import Derived.WalkLawsBesides
import Derived.Below
import Derived.Deep.QuietTactic
import Derived.BigQuiet
import Derived.Deep.LoopGhost
import Derived.Deep.OwnRows
namespace Go.Proofs.Qxb6605253a
open Go.RowKit

structure Tgt where
  b : ByteArray
  a : ByteArray
  n : Int

def addF (n l : Int) : Int := if 1048576 < n then 1048577 else if l < 0 then 1048577 else if 1048576 - n < l then 1048577 else n + l

theorem addF_bd (n l : Int) (h0 : 0 ≤ n) : 0 ≤ addF n l ∧ addF n l ≤ 1048577 := by
  unfold addF; split
  · omega
  · split
    · omega
    · split <;> omega

theorem ret_int {k : IntKind} {a b : Int} (h : a = b) : Ending.returned (.int k a) = .returned (.int k b) := by rw [h]

set_option maxHeartbeats 400000 in
theorem add_any (n l : Int) (w : World) (h0 : 0 ≤ n) (h1 : n ≤ 1048577) :
   Calls Try.prog 11 #[.int .i64 n, .int .i64 l] w fun e w' => e = .returned (.int .i64 (addF n l)) ∧ w' = w := by
  go_enter Try.func11, Try.ntmps11
  go_wp2

  all_goals (go_ret; refine ⟨ret_int ?_, rfl⟩; unfold addF)
  all_goals (first | (rw [if_pos (by omega)]) | (rw [if_neg (by omega)]; first | (rw [if_pos (by omega)]) | (rw [if_neg (by omega)]; first | (rw [if_pos (by omega)]) | (rw [if_neg (by omega)]))))

structure TAt (w : World) (a : Option Addr) (b off len : Nat) (T : Nat → Tgt) : Prop where
  lt : len ≠ 0 → b < w.heap.size
  ad : len ≠ 0 → a = some ⟨b, off, none⟩
  c0 : ∀ i, i < len → w.cell? ⟨b, off + i * 3, none⟩ = some (.string (T i).b)
  c1 : ∀ i, i < len → w.cell? ⟨b, off + i * 3 + 1, none⟩ = some (.string (T i).a)
  c2 : ∀ i, i < len → w.cell? ⟨b, off + i * 3 + 2, none⟩ = some (.int .i64 (T i).n)

theorem TAt.below {w w' : World} {a b off len T} (h : TAt w a b off len T) (hb : Below w.heap.size w w') : TAt w' a b off len T :=
  ⟨fun h0 => Nat.lt_of_lt_of_le (h.lt h0) hb.size, h.ad,
   fun i hi => by rw [hb.cell (p := ⟨b, off + i * 3, none⟩) (h.lt (by omega))]; exact h.c0 i hi,
   fun i hi => by rw [hb.cell (p := ⟨b, off + i * 3 + 1, none⟩) (h.lt (by omega))]; exact h.c1 i hi,
   fun i hi => by rw [hb.cell (p := ⟨b, off + i * 3 + 2, none⟩) (h.lt (by omega))]; exact h.c2 i hi⟩

def sizeT (T : Nat → Tgt) (n : Int) : Nat → Int
  | 0 => n
  | k + 1 => addF (addF (addF (sizeT T n k) 40) (T k).b.size) (T k).a.size
theorem sizeT_bd (T : Nat → Tgt) (n : Int) (k : Nat) (h0 : 0 ≤ n) (h1 : n ≤ 1048577) : 0 ≤ sizeT T n k ∧ sizeT T n k ≤ 1048577 := by
  induction k with
  | zero => exact ⟨h0, h1⟩
  | succ k ih => unfold sizeT; exact addF_bd _ _ (addF_bd _ _ (addF_bd _ _ ih.1).1).1

set_option maxHeartbeats 400000 in
theorem sizeT_any (n : Int) (a : Option Addr) (b off len cap : Nat) (T : Nat → Tgt) (w : World) (h0 : 0 ≤ n) (h1 : n ≤ 1048577) (hl : len ≤ 1048576) (ht : TAt w a b off len T) :
   Calls Try.prog 10 #[.int .i64 n, .slice a len cap] w fun e w' => e = .returned (.int .i64 (sizeT T n len)) ∧ w' = w := by
  have HT : Hid (TAt w a b off len T) := ht
  clear ht
  go_enter Try.func10, Try.ntmps10
  go_wp2
  go_loop [0, 5] (fun s i => ∃ k : Nat, k ≤ len ∧ i = .int .i64 k ∧ s = .int .i64 (sizeT T n k)) (fun _ i => len - (intOf i).toNat)
  case atStart => exact ⟨0, Nat.zero_le _, rfl, rfl⟩
  case round =>
    obtain ⟨k, hk, rfl, rfl⟩ := hrel
    obtain ⟨s0, s1⟩ := sizeT_bd T n k h0 h1
    by_cases hlt : k < len
    · have hc0 := HT.out.c0 k hlt
      have hc1 := HT.out.c1 k hlt
      obtain rfl := HT.out.ad (by omega)
      have sb1 := addF_bd (sizeT T n k) 40 s0
      have sb2 := addF_bd (addF (sizeT T n k) 40) ((T k).b.size : Int) sb1.1
      go_wp2_with (go_at_call 11; refine (add_any _ _ _ (by omega) (by omega)).mono ?_; rintro e w' ⟨rfl, rfl⟩)
      go_round
      case rel => exact ⟨k + 1, by omega, by go_num, rfl⟩
      case measure => simp [intOf]; omega
    · go_wp2
      go_ret
      exact ⟨ret_int (by rw [show k = len from by omega]), rfl⟩

/-- It returns a Bool. -/
def RetB (e : Ending) : Prop := ∃ r, e = .returned (.bool r)

set_option maxHeartbeats 1000000 in
theorem bytes9 (t : Tgt) (a : Option Addr) (b off len cap : Nat) (T : Nat → Tgt) (w : World) (hl : len ≤ maxLen) (ht : TAt w a b off len T) :
   Calls Try.prog 9 #[.agg #[.string t.b, .string t.a, .int .i64 t.n], .slice a len cap] w fun e w' => RetB e ∧ Below w.heap.size w w' := by
  unfold maxLen at hl
  have HT : Hid (TAt w a b off len T) := ht
  clear ht
  go_enter Try.func9, Try.ntmps9
  go_wp2
  any_goals (go_ret; exact ⟨⟨_, rfl⟩, (Below.refl _ _).alloc (Nat.le_refl _) _⟩)
  go_loop [5, 6] (fun z i => ∃ (k : Nat) (x : Int), k ≤ len ∧ i = .int .i64 k ∧ z = .int .i64 x ∧ 0 ≤ x ∧ x ≤ 1048576) (fun _ i => len - (intOf i).toNat)
  case atStart => exact ⟨0, _, Nat.zero_le _, rfl, rfl, by omega, by omega⟩
  case round =>
    obtain ⟨k, x, hk, rfl, rfl, x0, x1⟩ := hrel
    by_cases hlt : k < len
    · have hb := HT.out.lt (by omega)
      have hc0 := HT.out.c0 k hlt
      have hc1 := HT.out.c1 k hlt
      obtain rfl := HT.out.ad (by omega)
      go_wp2

      any_goals (go_ret; exact ⟨⟨_, rfl⟩, (Below.refl _ _).alloc (Nat.le_refl _) _⟩)
      go_round
      case rel => exact ⟨k + 1, _, by omega, by go_num, rfl, by omega, by omega⟩
      case measure => simp [intOf]; omega
    · go_wp2
      go_ret
      exact ⟨⟨_, rfl⟩, (Below.refl _ _).alloc (Nat.le_refl _) _⟩

theorem bcell {W w1 : World} (hb : Below W.heap.size W w1) : (∀ b o, b < W.heap.size → w1.cell? ⟨b, o, none⟩ = W.cell? ⟨b, o, none⟩) ∧ (∀ b o, b < W.heap.size → w1.frozen? ⟨b, o, none⟩ = W.frozen? ⟨b, o, none⟩) :=
  ⟨fun b o h => hb.cell (p := ⟨b, o, none⟩) h, fun b o h => hb.frozen (p := ⟨b, o, none⟩) h⟩

set_option maxHeartbeats 400000 in
theorem target_any (b a : ByteArray) (n : Int) (w : World) :
   Calls Try.prog 13 #[.agg #[.string b, .string a, .int .i64 n]] w fun e w' => e = .returned (.agg #[.string b, .string a, .int .i64 n]) ∧ Below w.heap.size w w' := by
  go_enter Try.func13, Try.ntmps13
  go_wp2
  exact bodyPost_ret (v := .agg #[.string b, .string a, .int .i64 n]) (by simp [results, Try.results13, go_sem]) rfl ⟨rfl, ((Below.refl _ _).alloc (Nat.le_refl _) _).alloc (by simp) _⟩

def agr (o t : Tgt) : Int := if o.b.toList == t.b.toList then (if o.a.toList == t.a.toList then (if o.n == t.n then 3 else 2) else 1) else 0

set_option maxHeartbeats 400000 in
theorem agree_any (o t : Tgt) (w : World) :
   Calls Try.prog 39 #[.agg #[.string o.b, .string o.a, .int .i64 o.n], .agg #[.string t.b, .string t.a, .int .i64 t.n]] w fun e w' => e = .returned (.int .i64 (agr o t)) ∧ Below w.heap.size w w' := by
  unfold agr
  go_enter Try.func39, Try.ntmps39
  go_wp2
  all_goals (go_ret; refine ⟨ret_int ?_, ((Below.refl _ _).alloc (Nat.le_refl _) _).alloc (by simp) _⟩; simp_all)

theorem Try.info30 : (Try.prog.info? 30).map (fun i => (i.zero, i.size, i.bytes)) = some (some (.agg #[.string ⟨#[]⟩, .string ⟨#[]⟩, .int .i64 0]), 3, 40) := by kernel_rfl

/-- make([]T, n) for whatever element size: an equation for every world. -/
theorem run_make_n {P : Program} (t e : TypeId) (z : Value) (size bytes : Nat) (ht : P.underlying t = some (.slice e)) (hinfo : (P.info? e).map (fun i => (i.zero, i.size, i.bytes)) = some (some z, size, bytes))
    (n : Nat) (hb : bytes * n ≤ 281474976710656) (hn : n ≤ 9223372036854775807) (w : World) :
    (Instr.makeSlice t (.int .i64 (n : Int)) (.int .i64 (n : Int))).run P w = .ok (.slice (some ⟨w.heap.size, 0, none⟩) n n) (w.alloc (.cells (madeCells z.cells (n * size)) e)) := by
  obtain ⟨i, hi, hz, hs, hby⟩ := info_parts hinfo
  subst hs; subst hby
  have h := run_make (P := P) w t e i z ht hi hz .i64 .i64 n n (by omega) (by omega) (by rw [← Int.natCast_mul]; omega) (by omega)
  simpa using h

theorem rowIs_made_n (w : World) (z : Array Value) (m : Nat) (t : TypeId) : (w.alloc (.cells (madeCells z m) t)).rowIs w.heap.size t m (fun i => z[i % z.size]!) :=
  ⟨_, Go.Deep.blk_alloc_new _ _, size_madeCells _ _, fun i hi => by simp [madeCells, hi]⟩


theorem rowIs_below {w w' : World} {g : Nat} {t : TypeId} {n : Nat} {f : Nat → Value} (h : w.rowIs g t n f) (hb : Below w.heap.size w w') : w'.rowIs g t n f := h.of_block (hb.block g h.lt)

/-- Three stores side by side into a row of the call's own. -/
theorem rowIs_set3 {w : World} {g : Nat} {t : TypeId} {n : Nat} {f : Nat → Value} (h : w.rowIs g t n f) (p : Nat) (v0 v1 v2 : Value) :
    (((w.setCell ⟨g, p, none⟩ v0).setCell ⟨g, p + 1, none⟩ v1).setCell ⟨g, p + 2, none⟩ v2).rowIs g t n (fun j => if j = p + 2 then v2 else if j = p + 1 then v1 else if j = p then v0 else f j) :=
  ((h.set p v0).set (p + 1) v1).set (p + 2) v2

/-- The first k elements of a row of targets. -/
def TRow (f : Nat → Value) (k : Nat) (T : Nat → Tgt) : Prop := ∀ j, j < k → f (j * 3) = .string (T j).b ∧ f (j * 3 + 1) = .string (T j).a ∧ f (j * 3 + 2) = .int .i64 (T j).n

theorem TRow.zero (f : Nat → Value) (T : Nat → Tgt) : TRow f 0 T := fun _ hj => absurd hj (Nat.not_lt_zero _)

theorem TRow.step {f : Nat → Value} {k : Nat} {T : Nat → Tgt} (h : TRow f k T) :
    TRow (fun j => if j = k * 3 + 2 then .int .i64 (T k).n else if j = k * 3 + 1 then .string (T k).a else if j = k * 3 then .string (T k).b else f j) (k + 1) T := by
  intro j hj
  by_cases e : j = k
  · subst e
    refine ⟨?_, ?_, ?_⟩
    · show (if _ then _ else _) = _
      rw [if_neg (by omega), if_neg (by omega), if_pos rfl]
    · show (if _ then _ else _) = _
      rw [if_neg (by omega), if_pos rfl]
    · show (if _ then _ else _) = _
      rw [if_pos rfl]
  · obtain ⟨h0, h1, h2⟩ := h j (by omega)
    refine ⟨?_, ?_, ?_⟩
    · show (if _ then _ else _) = _
      rw [if_neg (by omega), if_neg (by omega), if_neg (by omega), h0]
    · show (if _ then _ else _) = _
      rw [if_neg (by omega), if_neg (by omega), if_neg (by omega), h1]
    · show (if _ then _ else _) = _
      rw [if_neg (by omega), if_neg (by omega), if_neg (by omega), h2]

theorem TAt.ofRow {w : World} {g : Nat} {t : TypeId} {n : Nat} {f : Nat → Value} {T : Nat → Tgt} (h : w.rowIs g t (n * 3) f) (ht : TRow f n T) : TAt w (some ⟨g, 0, none⟩) g 0 n T :=
  ⟨fun _ => h.lt, fun _ => rfl,
   fun i hi => by rw [Nat.zero_add, h.cell (by omega), (ht i hi).1],
   fun i hi => by rw [Nat.zero_add, h.cell (by omega), (ht i hi).2.1],
   fun i hi => by rw [Nat.zero_add, h.cell (by omega), (ht i hi).2.2]⟩

theorem TAt.nil (w : World) (a : Option Addr) (b off : Nat) (T : Nat → Tgt) : TAt w a b off 0 T :=
  ⟨fun h => absurd rfl h, fun h => absurd rfl h, fun _ hi => absurd hi (Nat.not_lt_zero _), fun _ hi => absurd hi (Nat.not_lt_zero _), fun _ hi => absurd hi (Nat.not_lt_zero _)⟩

/-- It returns a slice of n targets that read as T. -/
def RetT (n : Nat) (T : Nat → Tgt) (e : Ending) (w' : World) : Prop := ∃ a b off c, e = .returned (.slice a n c) ∧ TAt w' a b off n T

set_option maxHeartbeats 400000 in
theorem targets_any (a : Option Addr) (b off len cap : Nat) (T : Nat → Tgt) (w : World) (hl : len ≤ 1048576) (hn : a = none → len = 0) (ht : TAt w a b off len T) :
   Calls Try.prog 14 #[.slice a len cap] w fun e w' => RetT len T e w' ∧ Below w.heap.size w w' := by
  have HT : Hid (TAt w a b off len T) := ht
  clear ht
  have hnil := fun wx => Lib.run_eql_slice_nil (P := Try.prog) wx 24 23 a len cap 0 0 Try.underlying24
  have hmk := run_make_n (P := Try.prog) 32 30 _ 3 40 Try.underlying32 Try.info30 len (by omega) (by omega)
  rcases a with _ | ad
  · obtain rfl := hn rfl
    clear hn hmk
    go_enter Try.func14, Try.ntmps14
    go_wp2
    go_ret
    exact ⟨⟨none, b, off, 0, rfl, TAt.nil _ _ _ _ _⟩, Below.refl _ _⟩
  · clear hn
    go_enter Try.func14, Try.ntmps14
    go_wp2
    clear hmk hnil
    go_loopw [4] (fun i wr => ∃ (k : Nat) (f : Nat → Value), k ≤ len ∧ i = .int .i64 k ∧ wr.rowIs w.heap.size 30 (len * 3) f ∧ Below w.heap.size w wr ∧ TRow f k T) (fun i _ => len - (intOf i).toNat)
    case atStart => exact ⟨0, _, Nat.zero_le _, rfl, rowIs_made_n _ _ _ _, (Below.refl _ _).alloc (Nat.le_refl _) _, TRow.zero _ _⟩
    case round =>
      obtain ⟨k, f, hk, rfl, hrow, hbel, hf⟩ := hrel
      have HR : Hid (wr.rowIs w.heap.size 30 (len * 3) f) := hrow
      have HB : Hid (Below w.heap.size w wr) := hbel
      have HF : Hid (TRow f k T) := hf
      clear hrow hbel hf
      by_cases hlt : k < len
      · have ht' := HT.out.below HB.out
        have hc0 := ht'.c0 k hlt
        have hc1 := ht'.c1 k hlt
        have hc2 := ht'.c2 k hlt
        have ha := Option.some.inj (ht'.ad (by omega))
        clear ht'
        have hsz := HR.out.lt
        have hz1 := HR.out.cell (i := k * 3) (by omega)
        have hz2 := HR.out.cell (i := k * 3 + 1) (by omega)
        have hz3 := HR.out.cell (i := k * 3 + 2) (by omega)
        have hfz := HR.out.frozen
        subst ha
        go_wp2_with (go_at_call 13; refine (target_any _ _ _ _).mono ?_; rintro e w1 ⟨rfl, hb1⟩; obtain ⟨hbc, hbf⟩ := bcell hb1)
        go_roundw
        case rel => exact ⟨k + 1, _, by omega, by go_num, rowIs_set3 (rowIs_below HR.out hb1) _ _ _ _, (((HB.out.trans (hb1.mono (Nat.le_of_lt hsz))).setCell (Nat.le_refl _) _).setCell (Nat.le_refl _) _).setCell (Nat.le_refl _) _, HF.out.step⟩
        case measure => simp [intOf]; omega
      · obtain rfl : k = len := by omega
        go_wp2
        go_ret
        exact ⟨⟨_, _, 0, _, rfl, TAt.ofRow HR.out HF.out⟩, HB.out⟩

end Go.Proofs.Qxb6605253a
