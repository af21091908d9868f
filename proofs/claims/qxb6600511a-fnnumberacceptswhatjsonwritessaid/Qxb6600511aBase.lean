import Derived.Test.Qxb6600511aRows
import Derived.WalkKit
import Derived.WalkSpells
import Derived.WalkLawsBesides
import Derived.Below
import Derived.Deep.QuietTactic
import Derived.BigQuiet
import Derived.Deep.LoopGhost
import Derived.Deep.OwnRows
import Derived.Deep.RegionHeld3
namespace Go.Proofs.Qxb6600511a
open Go.RowKit

theorem hid {p : Prop} (h : p) : Hid p := h
/-- It returns a Bool. -/
def RetB (e : Ending) : Prop := ∃ r, e = .returned (.bool r)
theorem ret_int {k : IntKind} {a b : Int} (h : a = b) : Ending.returned (.int k a) = .returned (.int k b) := by rw [h]
theorem ret_bool {a b : Bool} (h : a = b) : Ending.returned (.bool a) = .returned (.bool b) := by rw [h]
theorem vbool {a b : Bool} (h : a = b) : Value.bool a = .bool b := by rw [h]
theorem undrew {w w' : World} (h : Below w.drew.heap.size w.drew w') : Below w.heap.size w w' := ⟨h.os, h.tape, h.output, h.size, h.block⟩
theorem bcell {W w1 : World} (hb : Below W.heap.size W w1) : (∀ b o, b < W.heap.size → w1.cell? ⟨b, o, none⟩ = W.cell? ⟨b, o, none⟩) ∧ (∀ b o, b < W.heap.size → w1.frozen? ⟨b, o, none⟩ = W.frozen? ⟨b, o, none⟩) :=
  ⟨fun b o h => hb.cell (p := ⟨b, o, none⟩) h, fun b o h => hb.frozen (p := ⟨b, o, none⟩) h⟩

/-- A SLICE OF BYTES as it lies in memory. -/
structure BAt (w : World) (a : Option Addr) (b off len : Nat) (Z : Nat → Int) : Prop where
  lt : len ≠ 0 → b < w.heap.size
  ad : len ≠ 0 → a = some ⟨b, off, none⟩
  cell : ∀ i, i < len → w.cell? ⟨b, off + i, none⟩ = some (.int .u8 (Z i))

/-- Bytes. -/
def Byt (Z : Nat → Int) (n : Nat) : Prop := ∀ i, i < n → 0 ≤ Z i ∧ Z i ≤ 255

section
variable {w w' : World} {a : Option Addr} {b off len : Nat} {Z : Nat → Int}
theorem BAt.below (h : BAt w a b off len Z) (hb : Below w.heap.size w w') : BAt w' a b off len Z :=
  ⟨fun h0 => Nat.lt_of_lt_of_le (h.lt h0) hb.size, h.ad, fun i hi => by rw [hb.cell (p := ⟨b, off + i, none⟩) (h.lt (by omega))]; exact h.cell i hi⟩
theorem BAt.drewN (h : BAt w a b off len Z) (n : Nat) : BAt (w.drewN n) a b off len Z :=
  ⟨by simpa using h.lt, h.ad, fun i hi => by simpa using h.cell i hi⟩
theorem BAt.drew (h : BAt w a b off len Z) : BAt w.drew a b off len Z := ⟨h.lt, h.ad, h.cell⟩
theorem BAt.nil (w : World) (a : Option Addr) (b off : Nat) (Z : Nat → Int) : BAt w a b off 0 Z :=
  ⟨fun h => absurd rfl h, fun h => absurd rfl h, fun _ hi => absurd hi (Nat.not_lt_zero _)⟩
theorem BAt.congr {Z' : Nat → Int} (h : BAt w a b off len Z) (e : ∀ i, i < len → Z i = Z' i) : BAt w a b off len Z' :=
  ⟨h.lt, h.ad, fun i hi => by rw [h.cell i hi, e i hi]⟩
end

theorem Try.info5 : (Try.prog.info? 5).map (fun i => (i.zero, i.size, i.bytes)) = some (some (.int .u8 0), 1, 1) := by kernel_rfl

theorem rowIs_below {w w' : World} {g : Nat} {t : TypeId} {n : Nat} {f : Nat → Value} (h : w.rowIs g t n f) (hb : Below w.heap.size w w') : w'.rowIs g t n f := h.of_block (hb.block g h.lt)

/-- It returns a slice of n bytes that read as Z. -/
def RetY (n : Nat) (Z : Nat → Int) (e : Ending) (w' : World) : Prop := ∃ a b c, e = .returned (.slice a n c) ∧ n ≤ c ∧ (a = none → n = 0 ∧ c = 0) ∧ (a ≠ none → a = some ⟨b, 0, none⟩) ∧ BAt w' a b 0 n Z

/-- The first k cells of a row of bytes. -/
def YRow (f : Nat → Value) (k : Nat) (Z : Nat → Int) : Prop := ∀ j, j < k → f j = .int .u8 (Z j)
theorem YRow.zero (f : Nat → Value) (Z : Nat → Int) : YRow f 0 Z := fun _ hj => absurd hj (Nat.not_lt_zero _)
theorem YRow.step {f : Nat → Value} {k : Nat} {Z : Nat → Int} (h : YRow f k Z) : YRow (fun j => if j = k then .int .u8 (Z k) else f j) (k + 1) Z := by
  intro j hj
  show (if _ then _ else _) = _
  by_cases e : j = k
  · subst e; rw [if_pos rfl]
  · rw [if_neg e]; exact h j (by omega)
theorem BAt.ofRow {w : World} {g : Nat} {t : TypeId} {n : Nat} {f : Nat → Value} {Z : Nat → Int} (h : w.rowIs g t n f) (ht : YRow f n Z) : BAt w (some ⟨g, 0, none⟩) g 0 n Z :=
  ⟨fun _ => h.lt, fun _ => rfl, fun i hi => by rw [Nat.zero_add, h.cell hi, ht i hi]⟩

set_option maxHeartbeats 400000 in
theorem clone_any (a : Option Addr) (b off len cap : Nat) (Z : Nat → Int) (w : World) (hl : len ≤ 1048576) (hn : a = none → len = 0) (ht : BAt w a b off len Z) :
   Calls Try.prog 9 #[.slice a len cap] w fun e w' => RetY len Z e w' ∧ Below w.heap.size w w' := by
  have HT := hid ht
  clear ht
  have hnil := fun wx => Lib.run_eql_slice_nil (P := Try.prog) wx 22 5 a len cap 0 0 Try.underlying22
  have hmk := run_make_row' (P := Try.prog) 22 5 (.int .u8 0) 1 Try.underlying22 Try.info5 rfl .i64 .i64 len (by omega) (by omega)
  rcases a with _ | ad
  · obtain rfl := hn rfl
    clear hn hmk
    go_enter Try.func9, Try.ntmps9
    go_wp2
    go_ret
    exact ⟨⟨none, b, 0, rfl, Nat.le_refl _, fun _ => ⟨rfl, rfl⟩, fun h => absurd rfl h, BAt.nil _ _ _ _ _⟩, Below.refl _ _⟩
  · clear hn
    go_enter Try.func9, Try.ntmps9
    go_wp2
    clear hmk hnil
    go_loopw [4] (fun i wr => ∃ (k : Nat) (f : Nat → Value), k ≤ len ∧ i = .int .i64 k ∧ wr.rowIs w.heap.size 5 len f ∧ Below w.heap.size w wr ∧ YRow f k Z) (fun i _ => len - (intOf i).toNat)
    case atStart => exact ⟨0, _, Nat.zero_le _, rfl, World.rowIs_made _ _ _ _, (Below.refl _ _).alloc (Nat.le_refl _) _, YRow.zero _ _⟩
    case round =>
      obtain ⟨k, f, hk, rfl, hrow, hbel, hf⟩ := hrel
      have HR := hid hrow
      have HB := hid hbel
      have HF := hid hf
      clear hrow hbel hf
      by_cases hlt : k < len
      · have HT' := hid (HT.out.below HB.out)
        have hc := HT'.out.cell k hlt
        have ha := Option.some.inj (HT'.out.ad (by omega))
        have hz := HR.out.cell hlt
        have hfz := HR.out.frozen
        subst ha
        go_wp2
        go_roundw
        case rel => exact ⟨k + 1, _, by omega, by go_num, HR.out.set k _, HB.out.setCell (Nat.le_refl _) _, HF.out.step⟩
        case measure => simp [intOf]; omega
      · obtain rfl : k = len := by omega
        go_wp2
        go_ret
        exact ⟨⟨_, _, _, rfl, Nat.le_refl _, (fun h => by cases h), fun _ => rfl, BAt.ofRow HR.out HF.out⟩, HB.out⟩

set_option maxHeartbeats 400000 in
theorem bytes12 (u m : Int) (a : Option Addr) (len cap : Nat) (w : World) (hl : len ≤ maxLen) :
   Calls Try.prog 12 #[.int .u16 u, .int .u8 m, .slice a len cap] w fun e w' => RetB e ∧ w' = w := by
  unfold maxLen at hl
  go_enter Try.func12, Try.ntmps12
  go_wp2
  all_goals (go_ret; exact ⟨⟨_, rfl⟩, rfl⟩)

/-- zzHexDigit. -/
def hexD (d : Int) (up : Bool) : Int := if d < 10 then 48 + d else if up then 55 + d else 87 + d
set_option maxHeartbeats 400000 in
theorem hexDigit_any (d : Int) (up : Bool) (w : World) (h0 : 0 ≤ d) (h1 : d < 16) :
   Calls Try.prog 13 #[.int .u8 d, .bool up] w fun e w' => e = .returned (.int .u8 (hexD d up)) ∧ w' = w := by
  go_enter Try.func13, Try.ntmps13
  go_wp2
  · go_ret; refine ⟨ret_int ?_, rfl⟩; unfold hexD; rw [if_pos (by omega)]
  · have hu : up = true := by assumption
    go_ret; refine ⟨ret_int ?_, rfl⟩; unfold hexD; rw [if_neg (by omega), if_pos hu]; omega
  · have hu : up = false := by assumption
    go_ret; refine ⟨ret_int ?_, rfl⟩; unfold hexD; rw [if_neg (by omega), if_neg (by rw [hu]; decide)]; omega

/-- The value of a hexadecimal digit. -/
def hv (c : Int) : Int := if 48 ≤ c ∧ c ≤ 57 then c - 48 else if 97 ≤ c ∧ c ≤ 102 then c - 87 else if 65 ≤ c ∧ c ≤ 70 then c - 55 else -1
theorem hv_le (c : Int) : hv c < 16 := by unfold hv; split <;> (try split) <;> (try split) <;> omega
/-- What hexEscape has read behind k digits. -/
def rF (Z : Nat → Int) : Nat → Int
  | 0 => 0
  | k + 1 => rF Z k * 16 + hv (Z (2 + k))
theorem rF_bd (Z : Nat → Int) (k : Nat) (hd : ∀ i, i < k → 0 ≤ hv (Z (2 + i))) : 0 ≤ rF Z k ∧ rF Z k < 16 ^ k := by
  induction k with
  | zero => simp [rF]
  | succ k ih =>
    obtain ⟨h0, h1⟩ := ih (fun i hi => hd i (by omega))
    have h2 := hd k (by omega)
    have h3 := hv_le (Z (2 + k))
    have e : (16 : Int) ^ (k + 1) = 16 ^ k * 16 := by rw [Int.pow_succ]
    unfold rF
    rw [e]
    omega

theorem hv_d {c : Int} (h1 : 48 ≤ c) (h2 : c ≤ 57) : hv c = c - 48 := by unfold hv; rw [if_pos ⟨h1, h2⟩]
theorem hv_l {c : Int} (h1 : 97 ≤ c) (h2 : c ≤ 102) : hv c = c - 87 := by unfold hv; rw [if_neg (by omega), if_pos ⟨h1, h2⟩]
theorem hv_u {c : Int} (h1 : 65 ≤ c) (h2 : c ≤ 70) : hv c = c - 55 := by unfold hv; rw [if_neg (by omega), if_neg (by omega), if_pos ⟨h1, h2⟩]

/-- 'r<<4 | d', d below 16. -/
theorem i32_or_low (r d : Int) (h0 : 0 ≤ r) (h1 : r < 65536) (h2 : 0 ≤ d) (h3 : d < 16) : bits .or .i32 (r * 16) d = r * 16 + d := by
  obtain ⟨R, rfl⟩ := Int.eq_ofNat_of_zero_le h0
  obtain ⟨D, rfl⟩ := Int.eq_ofNat_of_zero_le h2
  have e1 : ((R : Int) * 16) = ((R * 16 : Nat) : Int) := by omega
  have hor : (R * 16) ||| D = R * 16 + D := by
    have := Nat.shiftLeft_add_eq_or_of_lt (i := 4) (b := D) (by omega) R
    rw [Nat.shiftLeft_eq] at this
    exact this.symm
  rw [e1]
  show IntKind.i32.wrap ((BitVec.ofInt 32 ((R * 16 : Nat) : Int) ||| BitVec.ofInt 32 (D : Int)).toNat : Int) = _
  rw [BitVec.toNat_or, BitVec.ofInt_natCast, BitVec.ofInt_natCast, BitVec.toNat_ofNat, BitVec.toNat_ofNat, Nat.mod_eq_of_lt (by omega), Nat.mod_eq_of_lt (by omega), hor]
  simp [IntKind.wrap, IntKind.bits, IntKind.signed]
  omega
set_option maxHeartbeats 1000000 in
theorem hexEscape_any (b off len cap : Nat) (Z : Nat → Int) (w : World) (hl : 6 ≤ len) (hl' : len ≤ 2097152) (hc : len ≤ cap) (hc0 : w.cell? ⟨b, off, none⟩ = some (.int .u8 92)) (hc1 : w.cell? ⟨b, off + 1, none⟩ = some (.int .u8 117))
    (hcs : ∀ i, i < 4 → w.cell? ⟨b, off + (2 + i), none⟩ = some (.int .u8 (Z (2 + i)))) (hd : ∀ i, i < 4 → 0 ≤ hv (Z (2 + i))) :
   Calls Try.prog 24 #[.slice (some ⟨b, off, none⟩) len cap] w fun e w' => e = .returned (.tuple #[.int .i32 (rF Z 4), .bool true]) ∧ w' = w := by
  have HC := hid hcs
  have HD := hid hd
  clear hcs hd
  go_enter Try.func24, Try.ntmps24
  go_wp2
  go_loop [4, 6, 25] (fun r c i => ∃ k : Nat, k ≤ 4 ∧ i = .int .i64 k ∧ r = .int .i32 (rF Z k)) (fun _ _ i => 4 - (intOf i).toNat)
  case atStart => exact ⟨0, by omega, rfl, rfl⟩
  case round =>
    obtain ⟨k, hk, rfl, rfl⟩ := hrel
    by_cases hlt : k < 4
    · have hck := HC.out k hlt
      rw [← Nat.add_assoc] at hck
      obtain ⟨r0, r1⟩ := rF_bd Z k (fun i hi => HD.out i (by omega))
      have r2 : rF Z k < 65536 := by
        have : (16 : Int) ^ k ≤ 16 ^ 3 := by
          match k, hlt with
          | 0, _ => decide
          | 1, _ => decide
          | 2, _ => decide
          | 3, _ => decide
        omega
      clear r1
      have hv0 := HD.out k hlt
      have HR1 : Hid (rF Z (k + 1) = rF Z k * 16 + hv (Z (2 + k))) := rfl
      generalize Z (2 + k) = c at *
      generalize rF Z k = r at *
      have hcc : (48 ≤ c ∧ c ≤ 57) ∨ (97 ≤ c ∧ c ≤ 102) ∨ (65 ≤ c ∧ c ≤ 70) := by
        unfold hv at hv0
        split at hv0
        · exact .inl (by assumption)
        · split at hv0
          · exact .inr (.inl (by assumption))
          · split at hv0
            · exact .inr (.inr (by assumption))
            · omega
      have HV0 := hid hv0
      clear hv0
      rcases hcc with ⟨h1, h2⟩ | ⟨h1, h2⟩ | ⟨h1, h2⟩
      · have HE := hid (hv_d h1 h2)
        go_wp2
        go_round
        case rel => exact ⟨k + 1, by omega, by go_num, by rw [i32_or_low r (c - 48) r0 r2 (by omega) (by omega), HR1.out, HE.out]⟩
        case measure => simp [intOf]; omega
      · have HE := hid (hv_l h1 h2)
        go_wp2
        go_round
        case rel => exact ⟨k + 1, by omega, by go_num, by rw [i32_or_low r (c - 87) r0 r2 (by omega) (by omega), HR1.out, HE.out]⟩
        case measure => simp [intOf]; omega
      · have HE := hid (hv_u h1 h2)
        go_wp2
        go_round
        case rel => exact ⟨k + 1, by omega, by go_num, by rw [i32_or_low r (c - 55) r0 r2 (by omega) (by omega), HR1.out, HE.out]⟩
        case measure => simp [intOf]; omega
    · obtain rfl : k = 4 := by omega
      go_wp2
      go_ret2
      exact ⟨rfl, rfl⟩

set_option maxHeartbeats 1000000 in
theorem zzhexEscape_any (b off len cap : Nat) (Z : Nat → Int) (w : World) (hl : 6 ≤ len) (hl' : len ≤ 2097152) (hc : len ≤ cap) (hc0 : w.cell? ⟨b, off, none⟩ = some (.int .u8 92)) (hc1 : w.cell? ⟨b, off + 1, none⟩ = some (.int .u8 117))
    (hcs : ∀ i, i < 4 → w.cell? ⟨b, off + (2 + i), none⟩ = some (.int .u8 (Z (2 + i)))) (hd : ∀ i, i < 4 → 0 ≤ hv (Z (2 + i))) :
   Calls Try.prog 10 #[.slice (some ⟨b, off, none⟩) len cap] w fun e w' => e = .returned (.tuple #[.int .i32 (rF Z 4), .bool true]) ∧ w' = w := by
  have HC := hid hcs
  have HD := hid hd
  clear hcs hd
  go_enter Try.func10, Try.ntmps10
  go_wp2_with fail
  refine (hexEscape_any b off len cap Z _ hl hl' hc hc0 hc1 HC.out HD.out).mono ?_
  rintro e w' ⟨rfl, rfl⟩
  go_wp2
  go_ret2
  exact ⟨rfl, rfl⟩

end Go.Proofs.Qxb6600511a
