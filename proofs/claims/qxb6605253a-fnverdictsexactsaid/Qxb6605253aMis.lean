import Derived.Test.Qxb6605253aBase
import Derived.Deep.RegionWith
namespace Go.Proofs.Qxb6605253a
open Go.RowKit

/-- The answers. -/
def backS : ByteArray := ⟨#[98, 97, 99, 107, 101, 110, 100, 45, 109, 105, 115, 109, 97, 116, 99, 104]⟩
def archS : ByteArray := ⟨#[97, 114, 99, 104, 45, 109, 105, 115, 109, 97, 116, 99, 104]⟩
def warpS : ByteArray := ⟨#[119, 97, 114, 112, 45, 115, 105, 122, 101, 45, 109, 105, 115, 109, 97, 116, 99, 104]⟩

def sameB (T : Nat → Tgt) (t : Tgt) (i : Nat) : Bool := (T i).b.toList == t.b.toList
def sameA (T : Nat → Tgt) (t : Tgt) (i : Nat) : Bool := (T i).a.toList == t.a.toList

/-- gpu.mismatch's two flags behind k rounds. -/
def mmB (T : Nat → Tgt) (t : Tgt) : Nat → Bool
  | 0 => false
  | k + 1 => if (T k).b.toList == t.b.toList then true else mmB T t k
def mmA (T : Nat → Tgt) (t : Tgt) : Nat → Bool
  | 0 => false
  | k + 1 => if (T k).b.toList == t.b.toList then (if mmA T t k then true else (T k).a.toList == t.a.toList) else mmA T t k

def mis (b a : Bool) : ByteArray := if b then (if a then warpS else archS) else backS

theorem ret_str {a b : ByteArray} (h : a = b) : Ending.returned (.string a) = .returned (.string b) := by rw [h]

theorem mmB_y {T : Nat → Tgt} {t : Tgt} {k : Nat} (h : ((T k).b.toList == t.b.toList) = true) : mmB T t (k + 1) = true := by rw [mmB, if_pos h]
theorem mmB_n {T : Nat → Tgt} {t : Tgt} {k : Nat} (h : ((T k).b.toList == t.b.toList) = false) : mmB T t (k + 1) = mmB T t k := by rw [mmB, if_neg (by rw [h]; decide)]
theorem mmA_yy {T : Nat → Tgt} {t : Tgt} {k : Nat} (h : ((T k).b.toList == t.b.toList) = true) (h' : mmA T t k = true) : mmA T t (k + 1) = true := by rw [mmA, if_pos h, if_pos h']
theorem mmA_yn {T : Nat → Tgt} {t : Tgt} {k : Nat} (h : ((T k).b.toList == t.b.toList) = true) (h' : ¬ mmA T t k = true) : mmA T t (k + 1) = ((T k).a.toList == t.a.toList) := by rw [mmA, if_pos h, if_neg h']
theorem mmA_n {T : Nat → Tgt} {t : Tgt} {k : Nat} (h : ((T k).b.toList == t.b.toList) = false) : mmA T t (k + 1) = mmA T t k := by rw [mmA, if_neg (by rw [h]; decide)]
theorem undrew {w w' : World} (h : Below w.drew.heap.size w.drew w') : Below w.heap.size w w' := ⟨h.os, h.tape, h.output, h.size, h.block⟩
theorem vbool {a b : Bool} (h : a = b) : Value.bool a = .bool b := by rw [h]
theorem cell_new {w : World} {b o : Nat} {v : Value} (h : w.cell? ⟨b, o, none⟩ = some v) (hb : b < w.heap.size) (x : Obj) : (w.alloc x).cell? ⟨b, o, none⟩ = some v :=
  (((Below.refl w.heap.size w).alloc (Nat.le_refl _) x).cell (p := ⟨b, o, none⟩) hb).trans h

set_option maxHeartbeats 400000 in
theorem mismatch_any (t : Tgt) (a : Option Addr) (b off len cap : Nat) (T : Nat → Tgt) (w : World) (hl : len ≤ 2097152) (ht : TAt w a b off len T) :
   Calls Try.prog 38 #[.agg #[.string t.b, .string t.a, .int .i64 t.n], .slice a len cap] w fun e w' => e = .returned (.string (mis (mmB T t len) (mmA T t len))) ∧ Below w.heap.size w w' := by
  have HT : Hid (TAt w a b off len T) := ht
  clear ht
  go_enter Try.func38, Try.ntmps38
  go_wp2
  go_loopw [5, 6, 8, 11] (fun x y o i wr => ∃ (k : Nat), k ≤ len ∧ i = .int .i64 k ∧ x = .bool (mmB T t k) ∧ y = .bool (mmA T t k) ∧ wr.cell? ⟨w.heap.size, 0, none⟩ = some (.string t.b) ∧ wr.cell? ⟨w.heap.size, 1, none⟩ = some (.string t.a) ∧ w.heap.size < wr.heap.size ∧ Below w.heap.size w wr) (fun _ _ _ i _ => len - (intOf i).toNat)
  case atStart => exact ⟨0, Nat.zero_le _, rfl, rfl, rfl, by simp, by simp, by simp, (Below.refl _ _).alloc (Nat.le_refl _) _⟩
  case round =>
    obtain ⟨k, hk, rfl, rfl, rfl, ht0, ht1, hsz, hbel⟩ := hrel
    have HB : Hid (Below w.heap.size w wr) := hbel
    clear hbel
    by_cases hlt : k < len
    · have ht' := HT.out.below HB.out
      have hbl := ht'.lt (by omega)
      have hc0 := ht'.c0 k hlt
      have hc1 := ht'.c1 k hlt
      have hc2 := ht'.c2 k hlt
      have ha := ht'.ad (by omega)
      subst ha
      clear ht'
      go_wp2
      · have e1 : ((T k).b.toList == t.b.toList) = true := by assumption
        have e2 : mmA T t k = true := by assumption
        go_roundw
        case rel => exact ⟨k + 1, by omega, by go_num, vbool (mmB_y e1).symm, vbool (mmA_yy e1 e2).symm, cell_new ht0 hsz _, cell_new ht1 hsz _, by simp; omega, HB.out.alloc (Nat.le_of_lt hsz) _⟩
        case measure => simp [intOf]; omega
      · have e1 : ((T k).b.toList == t.b.toList) = true := by assumption
        have e2 : ¬ mmA T t k = true := by assumption
        go_roundw
        case rel => exact ⟨k + 1, by omega, by go_num, vbool (mmB_y e1).symm, vbool (mmA_yn e1 e2).symm, cell_new ht0 hsz _, cell_new ht1 hsz _, by simp; omega, HB.out.alloc (Nat.le_of_lt hsz) _⟩
        case measure => simp [intOf]; omega
      · have e1 : ((T k).b.toList == t.b.toList) = false := by assumption
        go_roundw
        case rel => exact ⟨k + 1, by omega, by go_num, vbool (mmB_n e1).symm, vbool (mmA_n e1).symm, cell_new ht0 hsz _, cell_new ht1 hsz _, by simp; omega, HB.out.alloc (Nat.le_of_lt hsz) _⟩
        case measure => simp [intOf]; omega
    · obtain rfl : k = len := by omega
      go_wp2
      all_goals (go_ret; refine ⟨ret_str ?_, HB.out⟩; simp_all [mis, backS, archS, warpS])

set_option maxHeartbeats 400000 in
/-- gpu.ZZmismatch hands on to mismatch. -/
theorem zzmismatch_any (t : Tgt) (a : Option Addr) (b off len cap : Nat) (T : Nat → Tgt) (w : World) (hl : len ≤ 2097152) (ht : TAt w a b off len T) :
   Calls Try.prog 12 #[.agg #[.string t.b, .string t.a, .int .i64 t.n], .slice a len cap] w fun e w' => e = .returned (.string (mis (mmB T t len) (mmA T t len))) ∧ Below w.heap.size w w' := by
  have HT : Hid (TAt w a b off len T) := ht
  clear ht
  go_enter Try.func12, Try.ntmps12
  go_wp2_with fail
  refine (mismatch_any t a b off len cap T _ hl (HT.out.below ((Below.refl _ _).alloc (Nat.le_refl _) _))).mono ?_
  rintro e w' ⟨rfl, hb⟩
  go_wp2
  go_ret
  exact ⟨rfl, ((Below.refl _ _).alloc (Nat.le_refl _) _).trans (hb.mono (by simp))⟩

/-- The best agreement behind k rounds. -/
def best (T : Nat → Tgt) (t : Tgt) : Nat → Int
  | 0 => 0
  | k + 1 => if best T t k < agr (T k) t then agr (T k) t else best T t k
theorem best_y {T : Nat → Tgt} {t : Tgt} {k : Nat} (h : best T t k < agr (T k) t) : best T t (k + 1) = agr (T k) t := by rw [best, if_pos h]
theorem best_n {T : Nat → Tgt} {t : Tgt} {k : Nat} (h : ¬ best T t k < agr (T k) t) : best T t (k + 1) = best T t k := by rw [best, if_neg h]
def reas (n : Int) : ByteArray := if n = 0 then backS else if n = 1 then archS else warpS

set_option maxHeartbeats 400000 in
theorem reason_any (t : Tgt) (a : Option Addr) (b off len cap : Nat) (T : Nat → Tgt) (w : World) (hl : len ≤ 2097152) (ht : TAt w a b off len T) :
   Calls Try.prog 15 #[.agg #[.string t.b, .string t.a, .int .i64 t.n], .slice a len cap] w fun e w' => e = .returned (.string (reas (best T t len))) ∧ Below w.heap.size w w' := by
  have HT : Hid (TAt w a b off len T) := ht
  clear ht
  go_enter Try.func15, Try.ntmps15
  go_wp2
  go_loopw [5, 6, 7] (fun x i y wr => ∃ (k : Nat), k ≤ len ∧ i = .int .i64 k ∧ x = .int .i64 (best T t k) ∧ wr.cell? ⟨w.heap.size, 0, none⟩ = some (.string t.b) ∧ wr.cell? ⟨w.heap.size, 1, none⟩ = some (.string t.a) ∧ wr.cell? ⟨w.heap.size, 2, none⟩ = some (.int .i64 t.n) ∧ w.heap.size < wr.heap.size ∧ Below w.heap.size w wr) (fun _ i _ _ => len - (intOf i).toNat)
  case atStart => exact ⟨0, Nat.zero_le _, rfl, rfl, by simp, by simp, by simp, by simp, (Below.refl _ _).alloc (Nat.le_refl _) _⟩
  case round =>
    obtain ⟨k, hk, rfl, rfl, ht0, ht1, ht2, hsz, hbel⟩ := hrel
    have HB : Hid (Below w.heap.size w wr) := hbel
    clear hbel
    by_cases hlt : k < len
    · have ht' := HT.out.below HB.out
      have hbl := ht'.lt (by omega)
      have hc0 := ht'.c0 k hlt
      have hc1 := ht'.c1 k hlt
      have hc2 := ht'.c2 k hlt
      have ha := ht'.ad (by omega)
      subst ha
      clear ht'
      go_wp2
      go_region_with (go_at_call 39; refine (agree_any (T k) t _).mono ?_; rintro e w1 ⟨rfl, hb1⟩)
      all_goals
        have HB1 : Hid (Below wr.heap.size wr w1) := undrew hb1
        clear hb1
        obtain ⟨hbc, hbf⟩ := bcell HB1.out
        have hsz1 := HB1.out.size
        go_wp2
        · have e1 : best T t k < agr (T k) t := by assumption
          go_roundw
          case rel => exact ⟨k + 1, by omega, by go_num, by rw [best_y e1], by rw [hbc _ _ hsz]; exact ht0, by rw [hbc _ _ hsz]; exact ht1, by rw [hbc _ _ hsz]; exact ht2, by omega, HB.out.trans (HB1.out.mono (Nat.le_of_lt hsz))⟩
          case measure => simp [intOf]; omega
        · have e1 : ¬ best T t k < agr (T k) t := by omega
          go_roundw
          case rel => exact ⟨k + 1, by omega, by go_num, by rw [best_n e1], by rw [hbc _ _ hsz]; exact ht0, by rw [hbc _ _ hsz]; exact ht1, by rw [hbc _ _ hsz]; exact ht2, by omega, HB.out.trans (HB1.out.mono (Nat.le_of_lt hsz))⟩
          case measure => simp [intOf]; omega
    · obtain rfl : k = len := by omega
      go_wp2
      all_goals (go_ret; refine ⟨ret_str ?_, HB.out⟩; simp_all [reas, backS, archS, warpS])

theorem TAt.drewN {w : World} {a : Option Addr} {b off len : Nat} {T : Nat → Tgt} (h : TAt w a b off len T) (n : Nat) : TAt (w.drewN n) a b off len T :=
  ⟨by simpa using h.lt, h.ad, fun i hi => by simpa using h.c0 i hi, fun i hi => by simpa using h.c1 i hi, fun i hi => by simpa using h.c2 i hi⟩

theorem best_law (T : Nat → Tgt) (t : Tgt) (k : Nat) : 0 ≤ best T t k ∧ (mmB T t k = false → best T t k = 0 ∧ mmA T t k = false) ∧ (mmB T t k = true → mmA T t k = false → best T t k = 1) ∧ (mmA T t k = true → mmB T t k = true ∧ 2 ≤ best T t k) := by
  induction k with
  | zero => simp [best, mmB, mmA]
  | succ k ih =>
    obtain ⟨h0, h1, h2, h3⟩ := ih
    have ha : agr (T k) t = if (T k).b.toList == t.b.toList then (if (T k).a.toList == t.a.toList then (if (T k).n == t.n then 3 else 2) else 1) else 0 := rfl
    by_cases e1 : ((T k).b.toList == t.b.toList) = true
    · rw [if_pos e1] at ha
      rw [mmB_y e1]
      by_cases e2 : mmA T t k = true
      · rw [mmA_yy e1 e2]
        obtain ⟨g1, g2⟩ := h3 e2
        refine ⟨?_, by simp, by simp, fun _ => ⟨rfl, ?_⟩⟩
        all_goals (rw [best]; split <;> omega)
      · rw [mmA_yn e1 e2]
        have e2' : mmA T t k = false := by simpa using e2
        have hb : best T t k ≤ 1 := by
          cases e3 : mmB T t k with
          | true => rw [h2 e3 e2']; decide
          | false => rw [(h1 e3).1]; decide
        by_cases e4 : ((T k).a.toList == t.a.toList) = true
        · rw [if_pos e4] at ha
          have hg : 2 ≤ agr (T k) t := by rw [ha]; split <;> decide
          rw [best_y (by omega), e4]
          exact ⟨by omega, by simp, by simp, fun _ => ⟨rfl, hg⟩⟩
        · rw [if_neg e4] at ha
          have e4' : ((T k).a.toList == t.a.toList) = false := by simpa using e4
          rw [e4']
          refine ⟨?_, by simp, fun _ _ => ?_, by simp⟩
          all_goals (rw [best]; split <;> omega)
    · rw [if_neg e1] at ha
      have e1' : ((T k).b.toList == t.b.toList) = false := by simpa using e1
      rw [mmB_n e1', mmA_n e1', best_n (by omega)]
      exact ⟨h0, h1, h2, h3⟩

/-- THE PLAIN LAW: mismatch's reason is the model's. -/
theorem mis_reas (T : Nat → Tgt) (t : Tgt) (k : Nat) : mis (mmB T t k) (mmA T t k) = reas (best T t k) := by
  obtain ⟨h0, h1, h2, h3⟩ := best_law T t k
  cases eb : mmB T t k with
  | false => obtain ⟨g1, g2⟩ := h1 eb; rw [g1]; rfl
  | true =>
    cases ea : mmA T t k with
    | false => rw [h2 eb ea]; rfl
    | true =>
      have := (h3 ea).2
      unfold reas
      rw [if_neg (by omega), if_neg (by omega)]
      rfl

end Go.Proofs.Qxb6605253a
