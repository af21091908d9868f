import Derived.Test.Qxb6605253aMonoLaw
import Derived.Laws.StructEq
import Derived.Maps.Own
import Derived.Maps.Views
namespace Go.Proofs.Qxb6605253a
open Go.RowKit

theorem hid {p : Prop} (h : p) : Hid p := h

/-- A SLICE OF STRUCTS OF s CELLS, as it lies in memory: cell j of element i holds F i j. -/
structure SAt (w : World) (a : Option Addr) (b off len s : Nat) (F : Nat → Nat → Value) : Prop where
  lt : len ≠ 0 → b < w.heap.size
  ad : len ≠ 0 → a = some ⟨b, off, none⟩
  cell : ∀ i j, i < len → j < s → w.cell? ⟨b, off + i * s + j, none⟩ = some (F i j)

section
variable {w w' : World} {a : Option Addr} {b off len s : Nat} {F : Nat → Nat → Value}
theorem SAt.below (h : SAt w a b off len s F) (hb : Below w.heap.size w w') : SAt w' a b off len s F :=
  ⟨fun h0 => Nat.lt_of_lt_of_le (h.lt h0) hb.size, h.ad, fun i j hi hj => by rw [hb.cell (p := ⟨b, off + i * s + j, none⟩) (h.lt (by omega))]; exact h.cell i j hi hj⟩
theorem SAt.drewN (h : SAt w a b off len s F) (n : Nat) : SAt (w.drewN n) a b off len s F :=
  ⟨by simpa using h.lt, h.ad, fun i j hi hj => by simpa using h.cell i j hi hj⟩
theorem SAt.nil (w : World) (a : Option Addr) (b off s : Nat) (F : Nat → Nat → Value) : SAt w a b off 0 s F :=
  ⟨fun h => absurd rfl h, fun h => absurd rfl h, fun _ _ hi _ => absurd hi (Nat.not_lt_zero _)⟩

/-- The first k elements of a row. -/
def SRow (f : Nat → Value) (k s : Nat) (F : Nat → Nat → Value) : Prop := ∀ i j, i < k → j < s → f (i * s + j) = F i j
theorem SRow.zero (f : Nat → Value) (s : Nat) (F : Nat → Nat → Value) : SRow f 0 s F := fun _ _ hi _ => absurd hi (Nat.not_lt_zero _)
theorem mul_add_lt {i n s j : Nat} (hi : i < n) (hj : j < s) : i * s + j < n * s := by
  have : (i + 1) * s ≤ n * s := Nat.mul_le_mul_right s hi
  rw [Nat.add_mul, Nat.one_mul] at this
  omega
theorem SAt.ofRow {g : Nat} {t : TypeId} {n : Nat} {f : Nat → Value} (h : w.rowIs g t (n * s) f) (ht : SRow f n s F) : SAt w (some ⟨g, 0, none⟩) g 0 n s F :=
  ⟨fun _ => h.lt, fun _ => rfl, fun i j hi hj => by rw [Nat.zero_add, h.cell (mul_add_lt hi hj), ht i j hi hj]⟩
end

/-- Six stores side by side into a row of the call's own. -/
theorem rowIs_set6 {w : World} {g : Nat} {t : TypeId} {n : Nat} {f : Nat → Value} (h : w.rowIs g t n f) (p : Nat) (v0 v1 v2 v3 v4 v5 : Value) :
    ((((((w.setCell ⟨g, p, none⟩ v0).setCell ⟨g, p + 1, none⟩ v1).setCell ⟨g, p + 2, none⟩ v2).setCell ⟨g, p + 3, none⟩ v3).setCell ⟨g, p + 4, none⟩ v4).setCell ⟨g, p + 5, none⟩ v5).rowIs g t n
      (fun j => if j = p + 5 then v5 else if j = p + 4 then v4 else if j = p + 3 then v3 else if j = p + 2 then v2 else if j = p + 1 then v1 else if j = p then v0 else f j) :=
  (((((h.set p v0).set (p + 1) v1).set (p + 2) v2).set (p + 3) v3).set (p + 4) v4).set (p + 5) v5

theorem SRow.step6 {f : Nat → Value} {k : Nat} {F : Nat → Nat → Value} (h : SRow f k 6 F) :
    SRow (fun j => if j = k * 6 + 5 then F k 5 else if j = k * 6 + 4 then F k 4 else if j = k * 6 + 3 then F k 3 else if j = k * 6 + 2 then F k 2 else if j = k * 6 + 1 then F k 1 else if j = k * 6 then F k 0 else f j) (k + 1) 6 F := by
  intro i j hi hj
  show (if _ then _ else _) = _
  by_cases e : i = k
  · subst e
    match j, hj with
    | 0, _ => rw [if_neg (by omega), if_neg (by omega), if_neg (by omega), if_neg (by omega), if_neg (by omega), if_pos (by omega)]
    | 1, _ => rw [if_neg (by omega), if_neg (by omega), if_neg (by omega), if_neg (by omega), if_pos rfl]
    | 2, _ => rw [if_neg (by omega), if_neg (by omega), if_neg (by omega), if_pos rfl]
    | 3, _ => rw [if_neg (by omega), if_neg (by omega), if_pos rfl]
    | 4, _ => rw [if_neg (by omega), if_pos rfl]
    | 5, _ => rw [if_pos rfl]
  · rw [if_neg (by omega), if_neg (by omega), if_neg (by omega), if_neg (by omega), if_neg (by omega), if_neg (by omega)]
    exact h i j (by omega) hj

/-! ### The four kinds of struct -/
structure Gpu where
  i : Int
  b : ByteArray
  a : ByteArray
  n : Int
  p : ByteArray
  d : ByteArray
structure Krn where
  e : ByteArray
  m : ByteArray
  b : ByteArray
  a : ByteArray
  n : Int
  v : ByteArray
structure Cnt where
  b : ByteArray
  a : ByteArray
  n : Int
  c : Int
structure Vd where
  i : Int
  p : ByteArray
  b : ByteArray
  a : ByteArray
  n : Int
  v : ByteArray
  r : ByteArray
  k : Int
def Gpu.t (g : Gpu) : Tgt := ⟨g.b, g.a, g.n⟩
def Krn.t (k : Krn) : Tgt := ⟨k.b, k.a, k.n⟩
def Cnt.t (c : Cnt) : Tgt := ⟨c.b, c.a, c.n⟩

def gc (G : Nat → Gpu) (i : Nat) : Nat → Value
  | 0 => .int .i64 (G i).i
  | 1 => .string (G i).b
  | 2 => .string (G i).a
  | 3 => .int .i64 (G i).n
  | 4 => .string (G i).p
  | _ => .string (G i).d
def kc (K : Nat → Krn) (i : Nat) : Nat → Value
  | 0 => .string (K i).e
  | 1 => .string (K i).m
  | 2 => .string (K i).b
  | 3 => .string (K i).a
  | 4 => .int .i64 (K i).n
  | _ => .string (K i).v
def cc (C : Nat → Cnt) (i : Nat) : Nat → Value
  | 0 => .string (C i).b
  | 1 => .string (C i).a
  | 2 => .int .i64 (C i).n
  | _ => .int .i64 (C i).c
def vc (V : Nat → Vd) (i : Nat) : Nat → Value
  | 0 => .int .i64 (V i).i
  | 1 => .string (V i).p
  | 2 => .string (V i).b
  | 3 => .string (V i).a
  | 4 => .int .i64 (V i).n
  | 5 => .string (V i).v
  | 6 => .string (V i).r
  | _ => .int .i64 (V i).k

section
variable {w : World} {a : Option Addr} {b off len : Nat}
theorem gpu_cells {G : Nat → Gpu} (h : SAt w a b off len 6 (gc G)) {i : Nat} (hi : i < len) :
    w.cell? ⟨b, off + i * 6, none⟩ = some (.int .i64 (G i).i) ∧ w.cell? ⟨b, off + i * 6 + 1, none⟩ = some (.string (G i).b) ∧ w.cell? ⟨b, off + i * 6 + 2, none⟩ = some (.string (G i).a) ∧ w.cell? ⟨b, off + i * 6 + 3, none⟩ = some (.int .i64 (G i).n) ∧ w.cell? ⟨b, off + i * 6 + 4, none⟩ = some (.string (G i).p) ∧ w.cell? ⟨b, off + i * 6 + 5, none⟩ = some (.string (G i).d) :=
  ⟨h.cell i 0 hi (by decide), h.cell i 1 hi (by decide), h.cell i 2 hi (by decide), h.cell i 3 hi (by decide), h.cell i 4 hi (by decide), h.cell i 5 hi (by decide)⟩
theorem krn_cells {K : Nat → Krn} (h : SAt w a b off len 6 (kc K)) {i : Nat} (hi : i < len) :
    w.cell? ⟨b, off + i * 6, none⟩ = some (.string (K i).e) ∧ w.cell? ⟨b, off + i * 6 + 1, none⟩ = some (.string (K i).m) ∧ w.cell? ⟨b, off + i * 6 + 2, none⟩ = some (.string (K i).b) ∧ w.cell? ⟨b, off + i * 6 + 3, none⟩ = some (.string (K i).a) ∧ w.cell? ⟨b, off + i * 6 + 4, none⟩ = some (.int .i64 (K i).n) ∧ w.cell? ⟨b, off + i * 6 + 5, none⟩ = some (.string (K i).v) :=
  ⟨h.cell i 0 hi (by decide), h.cell i 1 hi (by decide), h.cell i 2 hi (by decide), h.cell i 3 hi (by decide), h.cell i 4 hi (by decide), h.cell i 5 hi (by decide)⟩
theorem cnt_cells {C : Nat → Cnt} (h : SAt w a b off len 4 (cc C)) {i : Nat} (hi : i < len) :
    w.cell? ⟨b, off + i * 4, none⟩ = some (.string (C i).b) ∧ w.cell? ⟨b, off + i * 4 + 1, none⟩ = some (.string (C i).a) ∧ w.cell? ⟨b, off + i * 4 + 2, none⟩ = some (.int .i64 (C i).n) ∧ w.cell? ⟨b, off + i * 4 + 3, none⟩ = some (.int .i64 (C i).c) :=
  ⟨h.cell i 0 hi (by decide), h.cell i 1 hi (by decide), h.cell i 2 hi (by decide), h.cell i 3 hi (by decide)⟩
theorem vd_cells {V : Nat → Vd} (h : SAt w a b off len 8 (vc V)) {i : Nat} (hi : i < len) :
    w.cell? ⟨b, off + i * 8, none⟩ = some (.int .i64 (V i).i) ∧ w.cell? ⟨b, off + i * 8 + 1, none⟩ = some (.string (V i).p) ∧ w.cell? ⟨b, off + i * 8 + 2, none⟩ = some (.string (V i).b) ∧ w.cell? ⟨b, off + i * 8 + 3, none⟩ = some (.string (V i).a) ∧ w.cell? ⟨b, off + i * 8 + 4, none⟩ = some (.int .i64 (V i).n) ∧ w.cell? ⟨b, off + i * 8 + 5, none⟩ = some (.string (V i).v) ∧ w.cell? ⟨b, off + i * 8 + 6, none⟩ = some (.string (V i).r) ∧ w.cell? ⟨b, off + i * 8 + 7, none⟩ = some (.int .i64 (V i).k) :=
  ⟨h.cell i 0 hi (by decide), h.cell i 1 hi (by decide), h.cell i 2 hi (by decide), h.cell i 3 hi (by decide), h.cell i 4 hi (by decide), h.cell i 5 hi (by decide), h.cell i 6 hi (by decide), h.cell i 7 hi (by decide)⟩
end

/-- It returns a slice of n structs of s cells that read as F. -/
def RetS (n s : Nat) (F : Nat → Nat → Value) (e : Ending) (w' : World) : Prop := ∃ a b c, e = .returned (.slice a n c) ∧ n ≤ c ∧ (a = none → n = 0 ∧ c = 0) ∧ (a ≠ none → a = some ⟨b, 0, none⟩) ∧ SAt w' a b 0 n s F

set_option maxHeartbeats 400000 in
theorem tofG_any (g : Gpu) (w : World) :
   Calls Try.prog 27 #[.agg #[.int .i64 g.i, .string g.b, .string g.a, .int .i64 g.n, .string g.p, .string g.d]] w fun e w' => e = .returned (.agg #[.string g.b, .string g.a, .int .i64 g.n]) ∧ Below w.heap.size w w' := by
  go_enter Try.func27, Try.ntmps27
  go_wp2
  exact bodyPost_ret (v := .agg #[.string g.b, .string g.a, .int .i64 g.n]) (by simp [results, Try.results27, go_sem]) rfl ⟨rfl, ((Below.refl _ _).alloc (Nat.le_refl _) _).alloc (by simp) _⟩

set_option maxHeartbeats 400000 in
theorem tofK_any (k : Krn) (w : World) :
   Calls Try.prog 36 #[.agg #[.string k.e, .string k.m, .string k.b, .string k.a, .int .i64 k.n, .string k.v]] w fun e w' => e = .returned (.agg #[.string k.b, .string k.a, .int .i64 k.n]) ∧ Below w.heap.size w w' := by
  go_enter Try.func36, Try.ntmps36
  go_wp2
  exact bodyPost_ret (v := .agg #[.string k.b, .string k.a, .int .i64 k.n]) (by simp [results, Try.results36, go_sem]) rfl ⟨rfl, ((Below.refl _ _).alloc (Nat.le_refl _) _).alloc (by simp) _⟩

theorem cell_set_ne {w : World} {N p b o : Nat} {v : Value} (h : b ≠ N) : (w.setCell ⟨N, p, none⟩ v).cell? ⟨b, o, none⟩ = w.cell? ⟨b, o, none⟩ :=
  World.cell?_of_block (w := w) (Below.heap_setCell w ⟨N, p, none⟩ v b h)
/-- Six cells of a row of the call's own are there, and may be written. -/
theorem row6 {w : World} {g : Nat} {t : TypeId} {n : Nat} {f : Nat → Value} (h : w.rowIs g t (n * 6) f) {k : Nat} (hk : k < n) :
    (w.cell? ⟨g, k * 6, none⟩ = some (f (k * 6)) ∧ w.cell? ⟨g, k * 6 + 1, none⟩ = some (f (k * 6 + 1)) ∧ w.cell? ⟨g, k * 6 + 2, none⟩ = some (f (k * 6 + 2)) ∧ w.cell? ⟨g, k * 6 + 3, none⟩ = some (f (k * 6 + 3)) ∧ w.cell? ⟨g, k * 6 + 4, none⟩ = some (f (k * 6 + 4)) ∧ w.cell? ⟨g, k * 6 + 5, none⟩ = some (f (k * 6 + 5))) ∧
    ∀ i, w.frozen? ⟨g, i, none⟩ = false :=
  ⟨⟨h.cell (by omega), h.cell (by omega), h.cell (by omega), h.cell (by omega), h.cell (by omega), h.cell (by omega)⟩, h.frozen⟩

theorem Try.info75 : (Try.prog.info? 75).map (fun i => (i.zero, i.size, i.bytes)) = some (some (.agg #[.int .i64 0, .string ⟨#[]⟩, .string ⟨#[]⟩, .int .i64 0, .string ⟨#[]⟩, .string ⟨#[]⟩]), 6, 80) := by kernel_rfl
theorem Try.info77 : (Try.prog.info? 77).map (fun i => (i.zero, i.size, i.bytes)) = some (some (.agg #[.string ⟨#[]⟩, .string ⟨#[]⟩, .string ⟨#[]⟩, .string ⟨#[]⟩, .int .i64 0, .string ⟨#[]⟩]), 6, 88) := by kernel_rfl

set_option maxRecDepth 4000 in
set_option maxHeartbeats 1000000 in
theorem gpus_any (a : Option Addr) (b off len cap : Nat) (G : Nat → Gpu) (w : World) (hl : len ≤ 1048576) (hn : a = none → len = 0) (ht : SAt w a b off len 6 (gc G)) :
   Calls Try.prog 23 #[.slice a len cap] w fun e w' => RetS len 6 (gc G) e w' ∧ Below w.heap.size w w' := by
  have HT := hid ht
  clear ht
  have hnil := fun wx => Lib.run_eql_slice_nil (P := Try.prog) wx 37 55 a len cap 0 0 Try.underlying37
  have hmk := run_make_n (P := Try.prog) 46 75 _ 6 80 Try.underlying46 Try.info75 len (by omega) (by omega)
  rcases a with _ | ad
  · obtain rfl := hn rfl
    clear hn hmk
    go_enter Try.func23, Try.ntmps23
    go_wp2
    go_ret
    exact ⟨⟨none, b, 0, rfl, Nat.le_refl _, fun _ => ⟨rfl, rfl⟩, fun h => absurd rfl h, SAt.nil _ _ _ _ _ _⟩, Below.refl _ _⟩
  · clear hn
    go_enter Try.func23, Try.ntmps23
    go_wp2
    clear hmk hnil
    go_loopw [4] (fun i wr => ∃ (k : Nat) (f : Nat → Value), k ≤ len ∧ i = .int .i64 k ∧ wr.rowIs w.heap.size 75 (len * 6) f ∧ Below w.heap.size w wr ∧ SRow f k 6 (gc G)) (fun i _ => len - (intOf i).toNat)
    case atStart => exact ⟨0, _, Nat.zero_le _, rfl, rowIs_made_n _ _ _ _, (Below.refl _ _).alloc (Nat.le_refl _) _, SRow.zero _ _ _⟩
    case round =>
      obtain ⟨k, f, hk, rfl, hrow, hbel, hf⟩ := hrel
      have HR := hid hrow
      have HB := hid hbel
      have HF := hid hf
      clear hrow hbel hf
      by_cases hlt : k < len
      · have ht' := HT.out.below HB.out
        have hS := gpu_cells ht' hlt
        have ha := Option.some.inj (ht'.ad (by omega))
        have HT' := hid ht'
        clear ht'
        have hsz := HR.out.lt
        have hne : b ≠ w.heap.size := Nat.ne_of_lt (HT.out.lt (by omega))
        subst ha
        go_wp2_with fail
        have hSB := gpu_cells (w := wr.drew) (HT'.out.drewN 1) hlt
        clear hS
        go_region_held3 (fun w' => w'.cell? ⟨b, off + k * 6, none⟩ = some (.int .i64 (G k).i) ∧ w'.cell? ⟨b, off + k * 6 + 1, none⟩ = some (.string (G k).b) ∧ w'.cell? ⟨b, off + k * 6 + 2, none⟩ = some (.string (G k).a) ∧ w'.cell? ⟨b, off + k * 6 + 3, none⟩ = some (.int .i64 (G k).n) ∧ w'.cell? ⟨b, off + k * 6 + 4, none⟩ = some (.string (G k).p) ∧ w'.cell? ⟨b, off + k * 6 + 5, none⟩ = some (.string (G k).d)) (first | with_reducible assumption | (simp only [cell_set_ne hne]; with_reducible assumption))
          (first
            | (go_at_call 27; refine (tofG_any (G k) _).mono ?_; rintro e w1 ⟨rfl, hb1⟩; have HT1 := hid (HT'.out.below (undrew hb1)); have hS1 := gpu_cells HT1.out hlt; have HR1 := hid (rowIs_below HR.out (undrew hb1)); have HB1 := hid (HB.out.trans ((undrew hb1).mono (Nat.le_of_lt hsz))); have hsz1 := HR1.out.lt; clear hb1)
            | (go_at_call 13; refine (target_any _ _ _ _).mono ?_; rintro e w2 ⟨rfl, hb2⟩; have HT2 := hid (HT1.out.below hb2); have hS2 := gpu_cells HT2.out hlt; have HR2 := hid (rowIs_below HR1.out hb2); have HB2 := hid (HB1.out.trans (hb2.mono (Nat.le_of_lt hsz1))); obtain ⟨⟨hz0, hz1, hz2, hz3, hz4, hz5⟩, hfz⟩ := row6 HR2.out hlt; clear hb2 hS1 HT1 HR1 HB1 hsz1))
        clear hSB HT' hz0 hz1 hz2 hz3 hz4 hz5 hfz hS2 HT2 HR HB
        go_wp2
        go_roundw
        case rel => exact ⟨k + 1, _, by omega, by go_num, rowIs_set6 HR2.out _ _ _ _ _ _ _, (((((HB2.out.setCell (Nat.le_refl _) _).setCell (Nat.le_refl _) _).setCell (Nat.le_refl _) _).setCell (Nat.le_refl _) _).setCell (Nat.le_refl _) _).setCell (Nat.le_refl _) _, HF.out.step6⟩
        case measure => simp [intOf]; omega
      · obtain rfl : k = len := by omega
        go_wp2
        go_ret
        exact ⟨⟨_, _, _, rfl, Nat.le_refl _, (fun h => by cases h), fun _ => rfl, SAt.ofRow HR.out HF.out⟩, HB.out⟩
set_option maxRecDepth 4000 in
set_option maxHeartbeats 1000000 in
theorem kernels_any (a : Option Addr) (b off len cap : Nat) (K : Nat → Krn) (w : World) (hl : len ≤ 1048576) (hn : a = none → len = 0) (ht : SAt w a b off len 6 (kc K)) :
   Calls Try.prog 25 #[.slice a len cap] w fun e w' => RetS len 6 (kc K) e w' ∧ Below w.heap.size w w' := by
  have HT := hid ht
  clear ht
  have hnil := fun wx => Lib.run_eql_slice_nil (P := Try.prog) wx 39 60 a len cap 0 0 Try.underlying39
  have hmk := run_make_n (P := Try.prog) 50 77 _ 6 88 Try.underlying50 Try.info77 len (by omega) (by omega)
  rcases a with _ | ad
  · obtain rfl := hn rfl
    clear hn hmk
    go_enter Try.func25, Try.ntmps25
    go_wp2
    go_ret
    exact ⟨⟨none, b, 0, rfl, Nat.le_refl _, fun _ => ⟨rfl, rfl⟩, fun h => absurd rfl h, SAt.nil _ _ _ _ _ _⟩, Below.refl _ _⟩
  · clear hn
    go_enter Try.func25, Try.ntmps25
    go_wp2
    clear hmk hnil
    go_loopw [4] (fun i wr => ∃ (k : Nat) (f : Nat → Value), k ≤ len ∧ i = .int .i64 k ∧ wr.rowIs w.heap.size 77 (len * 6) f ∧ Below w.heap.size w wr ∧ SRow f k 6 (kc K)) (fun i _ => len - (intOf i).toNat)
    case atStart => exact ⟨0, _, Nat.zero_le _, rfl, rowIs_made_n _ _ _ _, (Below.refl _ _).alloc (Nat.le_refl _) _, SRow.zero _ _ _⟩
    case round =>
      obtain ⟨k, f, hk, rfl, hrow, hbel, hf⟩ := hrel
      have HR := hid hrow
      have HB := hid hbel
      have HF := hid hf
      clear hrow hbel hf
      by_cases hlt : k < len
      · have ht' := HT.out.below HB.out
        have hS := krn_cells ht' hlt
        have ha := Option.some.inj (ht'.ad (by omega))
        have HT' := hid ht'
        clear ht'
        have hsz := HR.out.lt
        have hne : b ≠ w.heap.size := Nat.ne_of_lt (HT.out.lt (by omega))
        subst ha
        go_wp2_with fail
        have hSB := krn_cells (w := wr.drew) (HT'.out.drewN 1) hlt
        clear hS
        go_region_held3 (fun w' => w'.cell? ⟨b, off + k * 6, none⟩ = some (.string (K k).e) ∧ w'.cell? ⟨b, off + k * 6 + 1, none⟩ = some (.string (K k).m) ∧ w'.cell? ⟨b, off + k * 6 + 2, none⟩ = some (.string (K k).b) ∧ w'.cell? ⟨b, off + k * 6 + 3, none⟩ = some (.string (K k).a) ∧ w'.cell? ⟨b, off + k * 6 + 4, none⟩ = some (.int .i64 (K k).n) ∧ w'.cell? ⟨b, off + k * 6 + 5, none⟩ = some (.string (K k).v)) (first | with_reducible assumption | (simp only [cell_set_ne hne]; with_reducible assumption))
          (first
            | (go_at_call 36; refine (tofK_any (K k) _).mono ?_; rintro e w1 ⟨rfl, hb1⟩; have HT1 := hid (HT'.out.below (undrew hb1)); have hS1 := krn_cells HT1.out hlt; have HR1 := hid (rowIs_below HR.out (undrew hb1)); have HB1 := hid (HB.out.trans ((undrew hb1).mono (Nat.le_of_lt hsz))); have hsz1 := HR1.out.lt; clear hb1)
            | (go_at_call 13; refine (target_any _ _ _ _).mono ?_; rintro e w2 ⟨rfl, hb2⟩; have HT2 := hid (HT1.out.below hb2); have hS2 := krn_cells HT2.out hlt; have HR2 := hid (rowIs_below HR1.out hb2); have HB2 := hid (HB1.out.trans (hb2.mono (Nat.le_of_lt hsz1))); obtain ⟨⟨hz0, hz1, hz2, hz3, hz4, hz5⟩, hfz⟩ := row6 HR2.out hlt; clear hb2 hS1 HT1 HR1 HB1 hsz1))
        clear hSB HT' hz0 hz1 hz2 hz3 hz4 hz5 hfz hS2 HT2 HR HB
        go_wp2
        go_roundw
        case rel => exact ⟨k + 1, _, by omega, by go_num, rowIs_set6 HR2.out _ _ _ _ _ _ _, (((((HB2.out.setCell (Nat.le_refl _) _).setCell (Nat.le_refl _) _).setCell (Nat.le_refl _) _).setCell (Nat.le_refl _) _).setCell (Nat.le_refl _) _).setCell (Nat.le_refl _) _, HF.out.step6⟩
        case measure => simp [intOf]; omega
      · obtain rfl : k = len := by omega
        go_wp2
        go_ret
        exact ⟨⟨_, _, _, rfl, Nat.le_refl _, (fun h => by cases h), fun _ => rfl, SAt.ofRow HR.out HF.out⟩, HB.out⟩

end Go.Proofs.Qxb6605253a
