import Derived.Test.Qxb6602691aRows
import Derived.WalkKit
import Derived.WalkSpells
import Derived.WalkLawsBesides
import Derived.Below
import Derived.Deep.QuietTactic
import Derived.BigQuiet
import Derived.Deep.LoopGhost
import Derived.Deep.OwnRows
import Derived.Deep.RegionHeld3
import Derived.Laws.BitsAllLaws
namespace Go.Proofs.Qxb6602691a
open Go.RowKit

theorem hid {p : Prop} (h : p) : Hid p := h
/-- It returns a Bool. -/
def RetB (e : Ending) : Prop := ∃ r, e = .returned (.bool r)
theorem ret_int {k : IntKind} {a b : Int} (h : a = b) : Ending.returned (.int k a) = .returned (.int k b) := by rw [h]
theorem ret_bool {a b : Bool} (h : a = b) : Ending.returned (.bool a) = .returned (.bool b) := by rw [h]
theorem vbool {a b : Bool} (h : a = b) : Value.bool a = .bool b := by rw [h]
theorem undrew {w w' : World} (h : Below w.drew.heap.size w.drew w') : Below w.heap.size w w' := ⟨h.os, h.tape, h.output, h.size, h.block⟩
theorem bcell {W w1 : World} (hb : Below W.heap.size W w1) : (∀ b o, b < W.heap.size → w1.cell? ⟨b, o, none⟩ = W.cell? ⟨b, o, none⟩) ∧ (∀ b o, b < W.heap.size → w1.frozen? ⟨b, o, none⟩ = W.frozen? ⟨b, o, none⟩) :=
  ⟨fun b o h => hb.cell (p := ⟨b, o, none⟩) h, fun b o h => hb.frozen (p := ⟨b, o, none⟩) h⟩

/-- A SLICE OF BYTES as it lies in memory. -/
structure BAt (w : World) (a : Option Addr) (b off len : Nat) (Z : Nat → Int) : Prop where
  lt : len ≠ 0 → b < w.heap.size
  ad : len ≠ 0 → a = some ⟨b, off, none⟩
  cell : ∀ i, i < len → w.cell? ⟨b, off + i, none⟩ = some (.int .u8 (Z i))

/-- Bytes. -/
def Byt (Z : Nat → Int) (n : Nat) : Prop := ∀ i, i < n → 0 ≤ Z i ∧ Z i ≤ 255

section
variable {w w' : World} {a : Option Addr} {b off len : Nat} {Z : Nat → Int}
theorem BAt.below (h : BAt w a b off len Z) (hb : Below w.heap.size w w') : BAt w' a b off len Z :=
  ⟨fun h0 => Nat.lt_of_lt_of_le (h.lt h0) hb.size, h.ad, fun i hi => by rw [hb.cell (p := ⟨b, off + i, none⟩) (h.lt (by omega))]; exact h.cell i hi⟩
theorem BAt.drewN (h : BAt w a b off len Z) (n : Nat) : BAt (w.drewN n) a b off len Z :=
  ⟨by simpa using h.lt, h.ad, fun i hi => by simpa using h.cell i hi⟩
theorem BAt.drew (h : BAt w a b off len Z) : BAt w.drew a b off len Z := ⟨h.lt, h.ad, h.cell⟩
theorem BAt.nil (w : World) (a : Option Addr) (b off : Nat) (Z : Nat → Int) : BAt w a b off 0 Z :=
  ⟨fun h => absurd rfl h, fun h => absurd rfl h, fun _ hi => absurd hi (Nat.not_lt_zero _)⟩
theorem BAt.congr {Z' : Nat → Int} (h : BAt w a b off len Z) (e : ∀ i, i < len → Z i = Z' i) : BAt w a b off len Z' :=
  ⟨h.lt, h.ad, fun i hi => by rw [h.cell i hi, e i hi]⟩
end

theorem Try.info5 : (Try.prog.info? 5).map (fun i => (i.zero, i.size, i.bytes)) = some (some (.int .u8 0), 1, 1) := by kernel_rfl

theorem rowIs_below {w w' : World} {g : Nat} {t : TypeId} {n : Nat} {f : Nat → Value} (h : w.rowIs g t n f) (hb : Below w.heap.size w w') : w'.rowIs g t n f := h.of_block (hb.block g h.lt)

/-- It returns a slice of n bytes that read as Z. -/
def RetY (n : Nat) (Z : Nat → Int) (e : Ending) (w' : World) : Prop := ∃ a b c, e = .returned (.slice a n c) ∧ n ≤ c ∧ (a = none → n = 0 ∧ c = 0) ∧ (a ≠ none → a = some ⟨b, 0, none⟩) ∧ BAt w' a b 0 n Z

/-- The first k cells of a row of bytes. -/
def YRow (f : Nat → Value) (k : Nat) (Z : Nat → Int) : Prop := ∀ j, j < k → f j = .int .u8 (Z j)
theorem YRow.zero (f : Nat → Value) (Z : Nat → Int) : YRow f 0 Z := fun _ hj => absurd hj (Nat.not_lt_zero _)
theorem YRow.step {f : Nat → Value} {k : Nat} {Z : Nat → Int} (h : YRow f k Z) : YRow (fun j => if j = k then .int .u8 (Z k) else f j) (k + 1) Z := by
  intro j hj
  show (if _ then _ else _) = _
  by_cases e : j = k
  · subst e; rw [if_pos rfl]
  · rw [if_neg e]; exact h j (by omega)
theorem BAt.ofRow {w : World} {g : Nat} {t : TypeId} {n : Nat} {f : Nat → Value} {Z : Nat → Int} (h : w.rowIs g t n f) (ht : YRow f n Z) : BAt w (some ⟨g, 0, none⟩) g 0 n Z :=
  ⟨fun _ => h.lt, fun _ => rfl, fun i hi => by rw [Nat.zero_add, h.cell hi, ht i hi]⟩

set_option maxHeartbeats 400000 in
theorem clone_any (a : Option Addr) (b off len cap : Nat) (Z : Nat → Int) (w : World) (hl : len ≤ 1048576) (hn : a = none → len = 0) (ht : BAt w a b off len Z) :
   Calls Try.prog 7 #[.slice a len cap] w fun e w' => RetY len Z e w' ∧ Below w.heap.size w w' := by
  have HT := hid ht
  clear ht
  have hnil := fun wx => Lib.run_eql_slice_nil (P := Try.prog) wx 22 5 a len cap 0 0 Try.underlying22
  have hmk := run_make_row' (P := Try.prog) 22 5 (.int .u8 0) 1 Try.underlying22 Try.info5 rfl .i64 .i64 len (by omega) (by omega)
  rcases a with _ | ad
  · obtain rfl := hn rfl
    clear hn hmk
    go_enter Try.func7, Try.ntmps7
    go_wp2
    go_ret
    exact ⟨⟨none, b, 0, rfl, Nat.le_refl _, fun _ => ⟨rfl, rfl⟩, fun h => absurd rfl h, BAt.nil _ _ _ _ _⟩, Below.refl _ _⟩
  · clear hn
    go_enter Try.func7, Try.ntmps7
    go_wp2
    clear hmk hnil
    go_loopw [4] (fun i wr => ∃ (k : Nat) (f : Nat → Value), k ≤ len ∧ i = .int .i64 k ∧ wr.rowIs w.heap.size 5 len f ∧ Below w.heap.size w wr ∧ YRow f k Z) (fun i _ => len - (intOf i).toNat)
    case atStart => exact ⟨0, _, Nat.zero_le _, rfl, World.rowIs_made _ _ _ _, (Below.refl _ _).alloc (Nat.le_refl _) _, YRow.zero _ _⟩
    case round =>
      obtain ⟨k, f, hk, rfl, hrow, hbel, hf⟩ := hrel
      have HR := hid hrow
      have HB := hid hbel
      have HF := hid hf
      clear hrow hbel hf
      by_cases hlt : k < len
      · have HT' := hid (HT.out.below HB.out)
        have hc := HT'.out.cell k hlt
        have ha := Option.some.inj (HT'.out.ad (by omega))
        have hz := HR.out.cell hlt
        have hfz := HR.out.frozen
        subst ha
        go_wp2
        go_roundw
        case rel => exact ⟨k + 1, _, by omega, by go_num, HR.out.set k _, HB.out.setCell (Nat.le_refl _) _, HF.out.step⟩
        case measure => simp [intOf]; omega
      · obtain rfl : k = len := by omega
        go_wp2
        go_ret
        exact ⟨⟨_, _, _, rfl, Nat.le_refl _, (fun h => by cases h), fun _ => rfl, BAt.ofRow HR.out HF.out⟩, HB.out⟩

set_option maxHeartbeats 400000 in
theorem bytes13 (a : Option Addr) (len cap : Nat) (v u : Int) (a' : Option Addr) (len' cap' : Nat) (w : World) (hl : len ≤ maxLen) (hl' : len' ≤ maxLen) :
   Calls Try.prog 13 #[.slice a len cap, .int .u16 v, .int .u8 u, .slice a' len' cap'] w fun e w' => RetB e ∧ w' = w := by
  unfold maxLen at hl hl'
  go_enter Try.func13, Try.ntmps13
  go_wp2
  all_goals (go_ret; exact ⟨⟨_, rfl⟩, rfl⟩)

/-- zzHexDigit. -/
def hexD (d : Int) (up : Bool) : Int := if d < 10 then 48 + d else if up then 55 + d else 87 + d
set_option maxHeartbeats 400000 in
theorem hexDigit_any (d : Int) (up : Bool) (w : World) (h0 : 0 ≤ d) (h1 : d < 16) :
   Calls Try.prog 14 #[.int .u8 d, .bool up] w fun e w' => e = .returned (.int .u8 (hexD d up)) ∧ w' = w := by
  go_enter Try.func14, Try.ntmps14
  go_wp2
  · go_ret; refine ⟨ret_int ?_, rfl⟩; unfold hexD; rw [if_pos (by omega)]
  · have hu : up = true := by assumption
    go_ret; refine ⟨ret_int ?_, rfl⟩; unfold hexD; rw [if_neg (by omega), if_pos hu]; omega
  · have hu : up = false := by assumption
    go_ret; refine ⟨ret_int ?_, rfl⟩; unfold hexD; rw [if_neg (by omega), if_neg (by rw [hu]; decide)]; omega

/-- The value of a hexadecimal digit. -/
def hv (c : Int) : Int := if 48 ≤ c ∧ c ≤ 57 then c - 48 else if 97 ≤ c ∧ c ≤ 102 then c - 87 else if 65 ≤ c ∧ c ≤ 70 then c - 55 else -1
theorem hv_le (c : Int) : hv c < 16 := by unfold hv; split <;> (try split) <;> (try split) <;> omega

theorem hv_d {c : Int} (h1 : 48 ≤ c) (h2 : c ≤ 57) : hv c = c - 48 := by unfold hv; rw [if_pos ⟨h1, h2⟩]
theorem hv_l {c : Int} (h1 : 97 ≤ c) (h2 : c ≤ 102) : hv c = c - 87 := by unfold hv; rw [if_neg (by omega), if_pos ⟨h1, h2⟩]
theorem hv_u {c : Int} (h1 : 65 ≤ c) (h2 : c ≤ 70) : hv c = c - 55 := by unfold hv; rw [if_neg (by omega), if_neg (by omega), if_pos ⟨h1, h2⟩]

/-- 'r<<4 | d', d below 16. -/
theorem i32_or_low (r d : Int) (h0 : 0 ≤ r) (h1 : r < 65536) (h2 : 0 ≤ d) (h3 : d < 16) : bits .or .i32 (r * 16) d = r * 16 + d := by
  obtain ⟨R, rfl⟩ := Int.eq_ofNat_of_zero_le h0
  obtain ⟨D, rfl⟩ := Int.eq_ofNat_of_zero_le h2
  have e1 : ((R : Int) * 16) = ((R * 16 : Nat) : Int) := by omega
  have hor : (R * 16) ||| D = R * 16 + D := by
    have := Nat.shiftLeft_add_eq_or_of_lt (i := 4) (b := D) (by omega) R
    rw [Nat.shiftLeft_eq] at this
    exact this.symm
  rw [e1]
  show IntKind.i32.wrap ((BitVec.ofInt 32 ((R * 16 : Nat) : Int) ||| BitVec.ofInt 32 (D : Int)).toNat : Int) = _
  rw [BitVec.toNat_or, BitVec.ofInt_natCast, BitVec.ofInt_natCast, BitVec.toNat_ofNat, BitVec.toNat_ofNat, Nat.mod_eq_of_lt (by omega), Nat.mod_eq_of_lt (by omega), hor]
  simp [IntKind.wrap, IntKind.bits, IntKind.signed]
  omega

/-- n zero bytes. -/
def mkC (n : Nat) : Array Value := madeCells #[.int .u8 0] n
theorem mkC_size (n : Nat) : (mkC n).size = n * 1 := by rw [mkC, size_madeCells, Nat.mul_one]
/-- make([]byte, 0, n). -/
theorem make_y (c : Int) (n : Nat) (hc : c = (n : Int)) (hb : n ≤ 281474976710656) (w : World) :
    (Instr.makeSlice 22 (.int .i64 0) (.int .i64 c)).run Try.prog w = .ok (.slice (some ⟨w.heap.size, 0, none⟩) 0 n) (w.alloc (.cells (mkC n) 5)) := by
  obtain ⟨i, hi, hz, hs, hby⟩ := info_parts Try.info5
  subst hc
  have h := run_make (P := Try.prog) w 22 5 i _ Try.underlying22 hi hz .i64 .i64 0 n (by omega) (by omega) (by rw [hby]; omega) (by omega)
  rw [hs] at h
  simpa [mkC, Value.cells] using h
theorem grown_of_below {w w' : World} (h : Below w.heap.size w w') : w.grownBy w' none := ⟨h.os, h.tape, h.output, h.size, fun k hk _ => h.block k hk⟩
theorem own_stepW {wm wr W w1 : World} {e : TypeId} {size : Nat} {v : Value} {n : Nat} {xs : List Value} (hown : wr.ownsRow wm.heap.size e size v n xs) (hbel : Below wm.heap.size wm wr) (hW : Below wr.heap.size wr W) (hg : W.grownBy w1 v.ownBlock) : Below wm.heap.size wm w1 :=
  (hbel.trans (hW.mono hbel.size)).grown hg (Nat.le_trans hbel.size hW.size) (fun k hk => (hown.lt k hk).1)
theorem own_below {wr W : World} {base : Nat} {e : TypeId} {size : Nat} {v : Value} {n : Nat} {xs : List Value} (hown : wr.ownsRow base e size v n xs) (hW : Below wr.heap.size wr W) : W.ownsRow base e size v n xs :=
  hown.kept (grown_of_below hW) (by cases v.ownBlock <;> simp)
theorem cell_one_at (w : World) (n : Nat) (hn : n = w.heap.size) (v0 : Value) (ty : TypeId) : ∀ j u, [v0][j]? = some u → (w.alloc (.cells #[v0] ty)).cell? ((⟨n, 0, none⟩ : Addr).add j) = some u := by
  subst hn
  intro j u hj
  match j, hj with
  | 0, hj => simp at hj; subst hj; simp [Addr.add]
theorem cell_two_at (w : World) (n : Nat) (hn : n = w.heap.size) (v0 v1 : Value) (ty : TypeId) : ∀ j u, [v0, v1][j]? = some u → (w.alloc (.cells #[v0, v1] ty)).cell? ((⟨n, 0, none⟩ : Addr).add j) = some u := by
  subst hn
  intro j u hj
  match j, hj with
  | 0, hj => simp at hj; subst hj; simp [Addr.add]
  | 1, hj => simp at hj; subst hj; simp [Addr.add]
theorem one_int (k : IntKind) (x : Int) : ∀ u ∈ [Value.int k x], u.oneCell' = true := by
  intro u hu; simp at hu; subst hu; rfl
theorem two_int (k : IntKind) (x y : Int) : ∀ u ∈ [Value.int k x, .int k y], u.oneCell' = true := by
  intro u hu; simp at hu; rcases hu with rfl | rfl <;> rfl

theorem grown_refl (w : World) (row : Option Nat) : w.grownBy w row := ⟨rfl, rfl, rfl, Nat.le_refl _, fun _ _ _ => rfl⟩
/-- 'append(s, x...)' onto a slice of the call's own, x nil or not. -/
theorem wpList_append_opt {P : Program} (w : World) {ops : Array Oper} {rest : List Oper} {o : Oper} {a : Act} {Q : Exit → Act → World → Prop} (hgd : o.guard = none) (s x : Operand) (t : TypeId)
    (ho : o.op = .call { callee := .builtin .append, args := #[s, x], argTypes := #[t, t] })
    (base : Nat) (e : TypeId) (i : TypeInfo) (z : Value) (size bytes : Nat) (ht : P.underlying t = some (.slice e)) (hi : P.info? e = some i) (hz : i.zero = some z)
    (hsize : i.size = size) (hby : i.bytes = bytes) (hzs : z.cells.size = size) (hsz : 0 < size)
    (v : Value) (n : Nat) (xs : List Value) (hs : a.eval s = v) (hown : w.ownsRow base e size v n xs)
    (ao : Option Addr) (m c : Nat) (news : List Value) (hx : a.eval x = .slice ao m c) (hl : news.length = m * size) (hnone : ao = none → m = 0 ∧ c = 0) (hnews : ∀ ad, ao = some ad → ∀ j u, news[j]? = some u → w.cell? (ad.add j) = some u) (h1 : ∀ u ∈ news, u.oneCell' = true)
    (h63 : n + m ≤ maxLen) (hbytes : (n + m) * bytes ≤ 140737488355328) (hbase : base ≤ w.heap.size)
    (h : ∀ v' w', w'.ownsRow base e size v' (n + m) (xs ++ news) → w.grownBy w' v.ownBlock → (v ≠ .slice none 0 0 → v' ≠ .slice none 0 0) → wpList P ops Q rest (a.put o.dst v') w') : wpList P ops Q (o :: rest) a w := by
  cases ao with
  | some ad => exact wpList_append_own w hgd s x t ho base e i z size bytes ht hi hz hsize hby hzs hsz v n xs hs hown ad m c news hx hl (hnews ad rfl) h1 h63 hbytes hbase (fun v' w' h2 h3 h4 => h v' w' h2 h3 (fun hv hv' => hv (h4.1 hv').1))
  | none =>
    obtain ⟨rfl, rfl⟩ := hnone rfl
    have hnews0 : news = [] := List.eq_nil_of_length_eq_zero (by simpa using hl)
    subst hnews0
    refine wpList_plain hgd fun K hK' => ?_
    have hrun := run_append_owned_none (P := P) w base t o.type e i size ht hi _ n xs hown
    unfold Oper.wp
    simp [execOp, ho, resolve, invoke, builtin, hs, hx, hrun, Result.andThen]
    exact hK' _ _ (h v w (by simpa using hown) (grown_refl _ _) (fun hv => hv))
/-- Bytes as cells. -/
def ys (l : List Int) : List Value := l.map (Value.int .u8)

/-- A slice of bytes, as cells for an append. -/
def yl (Z : Nat → Int) (n : Nat) : List Int := (List.range n).map Z
theorem cells_opt {w : World} {a : Option Addr} {b n : Nat} {Z : Nat → Int} (h : BAt w a b 0 n Z) (hs : a ≠ none → a = some ⟨b, 0, none⟩) : ∀ ad, a = some ad → ∀ j u, (ys (yl Z n))[j]? = some u → w.cell? (ad.add j) = some u := by
  intro ad had j u hu
  have hj : j < n := by
    have := (List.getElem?_eq_some_iff.1 hu).1
    simpa [yl, ys] using this
  have e := hs (by rw [had]; simp)
  rw [had] at e
  obtain rfl := Option.some.inj e
  have hc := h.cell j hj
  rw [Nat.zero_add] at hc
  have hadd : (⟨b, 0, none⟩ : Addr).add j = ⟨b, j, none⟩ := by unfold Addr.add; split <;> simp_all
  rw [hadd, hc]
  simpa [yl, ys, hj] using hu

theorem ys_one (l : List Int) : ∀ u ∈ ys l, u.oneCell' = true := by
  intro u hu
  obtain ⟨x, _, rfl⟩ := List.mem_map.1 hu
  rfl

/-! ### The canonicalizer -/
structure Cz (w : World) (s : Nat) (a : Option Addr) (b off len cap : Nat) (Z : Nat → Int) (p : Nat) : Prop where
  c0 : w.cell? ⟨s, 0, none⟩ = some (.slice a len cap)
  c1 : w.cell? ⟨s, 1, none⟩ = some (.int .i64 (p : Int))
  bat : BAt w a b off len Z
theorem Cz.drewN {w : World} {s : Nat} {a : Option Addr} {b off len cap : Nat} {Z : Nat → Int} {p : Nat} (h : Cz w s a b off len cap Z p) (n : Nat) : Cz (w.drewN n) s a b off len cap Z p :=
  ⟨by simpa using h.c0, by simpa using h.c1, h.bat.drewN n⟩

/-- The byte at k, or 0 past the end. -/
def atF (Z : Nat → Int) (len k : Nat) : Int := if k < len then Z k else 0
theorem atF_y {Z : Nat → Int} {len k : Nat} (h : k < len) : atF Z len k = Z k := if_pos h
theorem atF_n {Z : Nat → Int} {len k : Nat} (h : ¬ k < len) : atF Z len k = 0 := if_neg h
theorem atF_bd {Z : Nat → Int} {len : Nat} (h : Byt Z len) (k : Nat) : 0 ≤ atF Z len k ∧ atF Z len k ≤ 255 := by
  unfold atF; split
  · exact h k (by assumption)
  · omega

set_option maxRecDepth 4000 in
set_option maxHeartbeats 1000000 in
theorem at_any (s : Nat) (a : Option Addr) (b off len cap : Nat) (Z : Nat → Int) (p : Nat) (n : Int) (k : Nat) (w : World) (hl : len ≤ 2097152) (_hp : p ≤ 2097152) (hk : (p : Int) + n = (k : Int)) (hkb : k ≤ 4194304) (h : Cz w s a b off len cap Z p) :
   Calls Try.prog 18 #[.pointer (some ⟨s, 0, none⟩), .int .i64 n] w fun e w' => e = .returned (.int .u8 (atF Z len k)) ∧ ∃ q, w' = w.drewN q := by
  have H := hid h
  have HK := hid hk
  obtain ⟨h0, h1, hb⟩ := h
  clear hb
  obtain ⟨n, rfl⟩ : ∃ m : Int, n = m := ⟨n, rfl⟩
  by_cases hlt : k < len
  · have hc := H.out.bat.cell k hlt
    have ha := H.out.bat.ad (by omega)
    subst ha
    have hlt' : (p : Int) + n < (len : Int) := by omega
    have hge : 0 ≤ (p : Int) + n := by omega
    have ek : ((p : Int) + n).toNat = k := by omega
    rw [atF_y hlt]
    clear hk
    go_enter Try.func18, Try.ntmps18
    go_wp2_with fail
    go_quiet (fail)
    go_wp2_with fail
    go_quiet (fail)
    go_wp2
    go_ret
    exact ⟨rfl, _, World.drewN_drewN _ _ _⟩
  · have hlt' : decide ((p : Int) + n < (len : Int)) = false := by simp; omega
    rw [atF_n hlt]
    clear hk
    have hb1 : -9223372036854775808 ≤ (p : Int) + n := by have := HK.out; omega
    have hb2 : (p : Int) + n ≤ 9223372036854775807 := by have := HK.out; omega
    go_enter Try.func18, Try.ntmps18
    go_wp2_with fail
    go_quiet (fail)
    go_wp2
    go_ret
    exact ⟨rfl, _, rfl⟩

def isDig (c : Int) : Bool := decide (48 ≤ c ∧ c ≤ 57)
set_option maxHeartbeats 400000 in
theorem isDigit_any (c : Int) (w : World) :
   Calls Try.prog 21 #[.int .u8 c] w fun e w' => e = .returned (.bool (isDig c)) ∧ w' = w := by
  go_enter Try.func21, Try.ntmps21
  go_wp2
  all_goals (go_ret; refine ⟨ret_bool ?_, rfl⟩; unfold isDig; first | (simp_all; done) | (simp; omega))

/-- A lowercase digit's value. -/
def hd (c : Int) : Int := if 48 ≤ c ∧ c ≤ 57 then c - 48 else if 97 ≤ c ∧ c ≤ 102 then c - 87 else -1
set_option maxHeartbeats 400000 in
theorem hexDigitV_any (c : Int) (w : World) (h0 : 0 ≤ c) (h1 : c ≤ 255) :
   Calls Try.prog 19 #[.int .u8 c] w fun e w' => e = .returned (.int .i64 (hd c)) ∧ w' = w := by
  by_cases h2 : 48 ≤ c ∧ c ≤ 57
  · have hdg : isDig c = true := by unfold isDig; simp; omega
    have e : hd c = c - 48 := by unfold hd; rw [if_pos h2]
    have HE := hid e
    obtain ⟨g1, g2⟩ := h2
    clear e
    go_enter Try.func19, Try.ntmps19
    go_wp2_with (go_at_call 21; refine (isDigit_any _ _).mono ?_; rintro e w' ⟨rfl, rfl⟩)
    go_ret
    exact ⟨ret_int HE.out.symm, rfl⟩
  · have hdg : isDig c = false := by unfold isDig; simp; omega
    by_cases h3 : 97 ≤ c ∧ c ≤ 102
    · have e : hd c = c - 87 := by unfold hd; rw [if_neg h2, if_pos h3]
      have HE := hid e
      obtain ⟨g1, g2⟩ := h3
      clear e h2
      go_enter Try.func19, Try.ntmps19
      go_wp2_with (go_at_call 21; refine (isDigit_any _ _).mono ?_; rintro e w' ⟨rfl, rfl⟩)
      go_ret
      exact ⟨ret_int (by rw [HE.out]; omega), rfl⟩
    · have e : hd c = -1 := by unfold hd; rw [if_neg h2, if_neg h3]
      have HE := hid e
      have h3' : c < 97 ∨ 102 < c := by omega
      clear e h2 h3
      rcases h3' with g | g
      all_goals
        go_enter Try.func19, Try.ntmps19
        go_wp2_with (go_at_call 21; refine (isDigit_any _ _).mono ?_; rintro e w' ⟨rfl, rfl⟩)
        all_goals (go_ret; exact ⟨ret_int HE.out.symm, rfl⟩)

theorem hv_up {c : Int} (h1 : 65 ≤ c) (h2 : c ≤ 70) : hd (c + 32) = hv c := by
  rw [hv_u h1 h2]; unfold hd; rw [if_neg (by omega), if_pos (by omega)]; omega
theorem hv_lo {c : Int} (h : ¬ (65 ≤ c ∧ c ≤ 70)) : hd c = hv c := by
  unfold hd hv
  split
  · rfl
  · split
    · rfl
    · first | rfl | rw [if_neg h]

/-- hexUnit, n digits left, standing at k. -/
def hu (Z : Nat → Int) (len : Nat) : Nat → Nat → Int → Int
  | 0, _, r => r
  | n + 1, k, r => if hv (atF Z len k) < 0 then -1 else hu Z len n (k + 1) (r * 16 + hv (atF Z len k))

set_option maxRecDepth 4000 in
set_option maxHeartbeats 1000000 in
theorem hexUnit_any (s : Nat) (a : Option Addr) (b off len cap : Nat) (Z : Nat → Int) (p n : Nat) (w : World) (hl : len ≤ 2097152) (hp : p ≤ 1048576) (hn : n ≤ 1048576) (hy : Byt Z len) (h : Cz w s a b off len cap Z p) :
   Calls Try.prog 16 #[.pointer (some ⟨s, 0, none⟩), .int .i64 (n : Int)] w fun e w' => e = .returned (.int .i32 (hu Z len 4 (p + n) 0)) ∧ Below w.heap.size w w' := by
  have H := hid h
  have HY := hid hy
  clear h hy
  go_enter Try.func16, Try.ntmps16
  go_wp2_with fail
  go_loopw [5, 6, 7, 8, 9] (fun x i d v j wr => ∃ (k : Nat) (r : Int), k ≤ 4 ∧ j = .int .i64 k ∧ x = .int .i32 r ∧ 0 ≤ r ∧ r < 16 ^ k ∧ Hid (hu Z len 4 (p + n) 0 = hu Z len (4 - k) (p + n + k) r) ∧ Cz wr s a b off len cap Z p ∧ Below w.heap.size w wr) (fun _ _ _ _ j _ => 4 - (intOf j).toNat)
  case atStart => exact ⟨0, 0, by omega, rfl, rfl, by omega, by decide, rfl, H.out, Below.refl _ _⟩
  case round =>
    obtain ⟨k, r, hk, rfl, rfl, r0, r1, HS, hcz, hbel⟩ := hrel
    have HC := hid hcz
    have HB := hid hbel
    clear hcz hbel H
    by_cases hlt : k < 4
    · have r2 : r < 65536 := by
        have : (16 : Int) ^ k ≤ 16 ^ 3 := by
          match k, hlt with
          | 0, _ => decide
          | 1, _ => decide
          | 2, _ => decide
          | 3, _ => decide
        omega
      have r3 : r * 16 + 16 ≤ 16 ^ (k + 1) := by rw [Int.pow_succ]; omega
      have HR3 := hid r3
      clear r1 r3
      obtain ⟨c0, c1⟩ := atF_bd HY.out (p + n + k)
      obtain ⟨m, hm⟩ : ∃ m, 4 - k = m + 1 := ⟨3 - k, by omega⟩
      have hm' : 4 - (k + 1) = m := by omega
      rw [hm] at HS
      have HS' : Hid (hu Z len 4 (p + n) 0 = if hv (atF Z len (p + n + k)) < 0 then -1 else hu Z len (4 - (k + 1)) (p + n + (k + 1)) (r * 16 + hv (atF Z len (p + n + k)))) := by rw [hm']; exact HS
      clear HS hm hm'
      generalize hC : atF Z len (p + n + k) = c at *
      have HCC := hid hC
      clear hC
      have v1 := hv_le c
      by_cases hv0 : hv c < 0
      · have HS2 : Hid (hu Z len 4 (p + n) 0 = -1) := by
          show hu Z len 4 (p + n) 0 = -1
          rw [HS'.out, if_pos hv0]
        have hnu : ¬ (65 ≤ c ∧ c ≤ 70) := fun h => by rw [hv_u h.1 h.2] at hv0; omega
        have HE := hid (hv_lo hnu)
        clear HS'
        generalize hv c = v at *
        have hcc : c < 65 ∨ 70 < c := by omega
        clear hnu
        rcases hcc with g | g
        all_goals
          go_wp2_with (first | (go_at_call 18; refine (at_any s a b off len cap Z p _ (p + n + k) _ hl (by omega) (by omega) (by omega) HC.out).mono ?_; rintro e w1 ⟨rfl, q, rfl⟩; rw [HCC.out]) | (go_at_call 19; refine (hexDigitV_any _ _ (by omega) (by omega)).mono ?_; rintro e w2 ⟨rfl, hw2⟩; subst hw2; rw [HE.out]))
          go_ret
          exact ⟨ret_int HS2.out.symm, below_drewN HB.out _⟩
      · have HS2 : Hid (hu Z len 4 (p + n) 0 = hu Z len (4 - (k + 1)) (p + n + (k + 1)) (r * 16 + hv c)) := by
          show hu Z len 4 (p + n) 0 = hu Z len (4 - (k + 1)) (p + n + (k + 1)) (r * 16 + hv c)
          rw [HS'.out, if_neg hv0]
        clear HS'
        have v0 : 0 ≤ hv c := by omega
        clear hv0
        by_cases hup : 65 ≤ c ∧ c ≤ 70
        · have HE := hid (hv_up hup.1 hup.2)
          obtain ⟨g1, g2⟩ := hup
          generalize hv c = v at *
          go_wp2_with (first | (go_at_call 18; refine (at_any s a b off len cap Z p _ (p + n + k) _ hl (by omega) (by omega) (by omega) HC.out).mono ?_; rintro e w1 ⟨rfl, q, rfl⟩; rw [HCC.out]) | (go_at_call 19; refine (hexDigitV_any _ _ (by omega) (by omega)).mono ?_; rintro e w2 ⟨rfl, hw2⟩; subst hw2; rw [HE.out]))
          go_roundw
          case rel => exact ⟨k + 1, r * 16 + v, by omega, by go_num, by rw [i32_or_low r v r0 r2 v0 v1], by omega, (by have := HR3.out; omega), HS2, HC.out.drewN _, below_drewN HB.out _⟩
          case measure => simp [intOf]; omega
        · have HE := hid (hv_lo hup)
          have hcc : c < 65 ∨ 70 < c := by omega
          clear hup
          generalize hv c = v at *
          rcases hcc with g | g
          · go_wp2_with (first | (go_at_call 18; refine (at_any s a b off len cap Z p _ (p + n + k) _ hl (by omega) (by omega) (by omega) HC.out).mono ?_; rintro e w1 ⟨rfl, q, rfl⟩; rw [HCC.out]) | (go_at_call 19; refine (hexDigitV_any _ _ (by omega) (by omega)).mono ?_; rintro e w2 ⟨rfl, hw2⟩; subst hw2; rw [HE.out]))
            go_roundw
            case rel => exact ⟨k + 1, r * 16 + v, by omega, by go_num, by rw [i32_or_low r v r0 r2 v0 v1], by omega, (by have := HR3.out; omega), HS2, HC.out.drewN _, below_drewN HB.out _⟩
            case measure => simp [intOf]; omega
          · go_wp2_with (first | (go_at_call 18; refine (at_any s a b off len cap Z p _ (p + n + k) _ hl (by omega) (by omega) (by omega) HC.out).mono ?_; rintro e w1 ⟨rfl, q, rfl⟩; rw [HCC.out]) | (go_at_call 19; refine (hexDigitV_any _ _ (by omega) (by omega)).mono ?_; rintro e w2 ⟨rfl, hw2⟩; subst hw2; rw [HE.out]))
            go_roundw
            case rel => exact ⟨k + 1, r * 16 + v, by omega, by go_num, by rw [i32_or_low r v r0 r2 v0 v1], by omega, (by have := HR3.out; omega), HS2, HC.out.drewN _, below_drewN HB.out _⟩
            case measure => simp [intOf]; omega
    · obtain rfl : k = 4 := by omega
      go_wp2
      go_ret
      exact ⟨ret_int HS.out.symm, HB.out⟩

set_option maxRecDepth 4000 in
set_option maxHeartbeats 1000000 in
theorem zzhexUnit_any (a : Option Addr) (b off len cap : Nat) (Z : Nat → Int) (p n : Nat) (w : World) (hl : len ≤ 2097152) (hp : p ≤ 1048576) (hn : n ≤ 1048576) (hy : Byt Z len) (h : BAt w a b off len Z) :
   Calls Try.prog 12 #[.slice a len cap, .int .i64 (p : Int), .int .i64 (n : Int)] w fun e w' => e = .returned (.int .i32 (hu Z len 4 (p + n) 0)) ∧ Below w.heap.size w w' := by
  have H := hid h
  have HY := hid hy
  clear h hy
  go_enter Try.func12, Try.ntmps12
  go_wp2_with fail
  refine (hexUnit_any w.heap.size a b off len cap Z p n _ hl hp hn HY.out ?_).mono ?_
  · exact ⟨by simp, by simp, H.out.below ((Below.refl _ _).alloc (Nat.le_refl _) _)⟩
  · rintro e w1 ⟨rfl, hb⟩
    have HB := hid (((Below.refl w.heap.size w).alloc (Nat.le_refl _) _).trans (hb.mono (by simp)))
    clear hb
    go_wp2
    go_ret
    exact ⟨rfl, HB.out⟩

/-- The k-th digit of u from the left, and its case. -/
def dg (u : Int) : Nat → Int
  | 0 => u / 4096 % 16
  | 1 => u / 256 % 16
  | 2 => u / 16 % 16
  | _ => u % 16
theorem dg_bd (u : Int) (k : Nat) : 0 ≤ dg u k ∧ dg u k < 16 := by
  unfold dg; split <;> omega
def bt (m : Int) : Nat → Bool
  | 0 => m / 8 % 2 == 1
  | 1 => m / 4 % 2 == 1
  | 2 => m / 2 % 2 == 1
  | _ => m % 2 == 1
/-- The four digits as written, up to the k-th. -/
def dgs (u m : Int) : Nat → List Int
  | 0 => []
  | k + 1 => dgs u m k ++ [hexD (dg u k) (bt m k)]
theorem and15 (x : Int) (_h0 : 0 ≤ x) (_h1 : x < 65536) : bits .and .u8 (x % 256) 15 = x % 16 := by
  rw [u8_and (x % 256) 15 (by omega) (by omega) (by decide) (by decide)]
  have e : (x % 256).toNat &&& (15 : Int).toNat = (x % 256).toNat % 16 := Nat.and_two_pow_sub_one_eq_mod (x % 256).toNat 4
  rw [e]
  omega
theorem and1 (x : Int) (h0 : 0 ≤ x) (h1 : x < 256) : (bits .and .u8 x 1 == 1) = (x % 2 == 1) := by
  rw [u8_and x 1 h0 h1 (by decide) (by decide)]
  have e : x.toNat &&& (1 : Int).toNat = x.toNat % 2 := Nat.and_two_pow_sub_one_eq_mod x.toNat 1
  rw [e]
  have e2 : ((x.toNat % 2 : Nat) : Int) = x % 2 := by omega
  rw [e2]

/-- What is written: the prefix, the digits, the tail. -/
def Bf (Z : Nat → Int) (len : Nat) (u m : Int) (Z' : Nat → Int) (i : Nat) : Int :=
  if i < len then Z i else if i < len + 4 then hexD (dg u (i - len)) (bt m (i - len)) else Z' (i - (len + 4))
theorem yl_succ (Z : Nat → Int) (k : Nat) : ys (yl Z (k + 1)) = ys (yl Z k) ++ [.int .u8 (Z k)] := by
  unfold ys yl; rw [List.range_succ]; simp
theorem yl_congr {Z Z' : Nat → Int} {k : Nat} (h : ∀ i, i < k → Z i = Z' i) : yl Z k = yl Z' k := by
  unfold yl; exact List.map_congr_left fun i hi => h i (List.mem_range.1 hi)
theorem Bf_1 {Z : Nat → Int} {len : Nat} {u m : Int} {Z' : Nat → Int} {i : Nat} (h : i < len) : Bf Z len u m Z' i = Z i := if_pos h
theorem Bf_2 {Z : Nat → Int} {len : Nat} {u m : Int} {Z' : Nat → Int} {i : Nat} (h : i < 4) : Bf Z len u m Z' (len + i) = hexD (dg u i) (bt m i) := by
  unfold Bf; rw [if_neg (by omega), if_pos (by omega), Nat.add_sub_cancel_left]
theorem Bf_3 {Z : Nat → Int} {len : Nat} {u m : Int} {Z' : Nat → Int} {i : Nat} : Bf Z len u m Z' (len + 4 + i) = Z' i := by
  unfold Bf; rw [if_neg (by omega), if_neg (by omega), Nat.add_sub_cancel_left]
theorem hexD_bd (d : Int) (up : Bool) (h0 : 0 ≤ d) (h1 : d < 16) : 0 ≤ hexD d up ∧ hexD d up ≤ 255 := by
  unfold hexD; split
  · omega
  · split <;> omega
theorem hv_hexD (d : Int) (up : Bool) (h0 : 0 ≤ d) (h1 : d < 16) : hv (hexD d up) = d := by
  unfold hexD
  split
  · rw [hv_d (by omega) (by omega)]; omega
  · split
    · rw [hv_u (by omega) (by omega)]; omega
    · rw [hv_l (by omega) (by omega)]; omega
theorem Bf_byt {Z : Nat → Int} {len : Nat} {u m : Int} {Z' : Nat → Int} {len' : Nat} (h : Byt Z len) (h' : Byt Z' len') : Byt (Bf Z len u m Z') (len + 4 + len') := by
  intro i hi
  unfold Bf
  split
  · exact h i (by assumption)
  · split
    · exact hexD_bd _ _ (dg_bd _ _).1 (dg_bd _ _).2
    · exact h' _ (by omega)

theorem hu_step {Z : Nat → Int} {len n k : Nat} {r d : Int} (h : hv (atF Z len k) = d) (h0 : 0 ≤ d) : hu Z len (n + 1) k r = hu Z len n (k + 1) (r * 16 + d) := by
  rw [hu, h, if_neg (by omega)]
/-- THE PLAIN LAW: the unit is read back; cut short it is refused. -/
theorem hu_back (Z : Nat → Int) (len : Nat) (u m : Int) (Z' : Nat → Int) (n : Nat) (h0 : 0 ≤ u) (h1 : u ≤ 65535) (hn : len + 4 ≤ n) : hu (Bf Z len u m Z') n 4 len 0 = u := by
  have e : ∀ k, k < 4 → hv (atF (Bf Z len u m Z') n (len + k)) = dg u k := fun k hk => by
    rw [atF_y (by omega), Bf_2 hk, hv_hexD _ _ (dg_bd _ _).1 (dg_bd _ _).2]
  have e0 : hv (atF (Bf Z len u m Z') n len) = dg u 0 := e 0 (by omega)
  rw [hu_step e0 (dg_bd _ _).1, hu_step (e 1 (by omega)) (dg_bd _ _).1, hu_step (e 2 (by omega)) (dg_bd _ _).1, hu_step (e 3 (by omega)) (dg_bd _ _).1, hu]
  simp only [dg]
  omega
theorem hu_short (Z : Nat → Int) (len : Nat) (u m : Int) (Z' : Nat → Int) : hu (Bf Z len u m Z') (len + 3) 4 len 0 = -1 := by
  have e : ∀ k, k < 3 → hv (atF (Bf Z len u m Z') (len + 3) (len + k)) = dg u k := fun k hk => by
    rw [atF_y (by omega), Bf_2 (by omega), hv_hexD _ _ (dg_bd _ _).1 (dg_bd _ _).2]
  have e0 : hv (atF (Bf Z len u m Z') (len + 3) len) = dg u 0 := e 0 (by omega)
  rw [hu_step e0 (dg_bd _ _).1, hu_step (e 1 (by omega)) (dg_bd _ _).1, hu_step (e 2 (by omega)) (dg_bd _ _).1, hu]
  rw [if_pos (by rw [show len + 1 + 1 + 1 = len + 3 from rfl, atF_n (by omega)]; decide)]

/-- A built slice of bytes, read. -/
theorem bat_of_owns {w : World} {base n : Nat} {e : TypeId} {v : Value} {Z : Nat → Int} (h : w.ownsRow base e 1 v n (ys (yl Z n))) (hn : n ≠ 0) :
    ∃ g c, v = .slice (some ⟨g, 0, none⟩) n c ∧ n ≤ c ∧ BAt w (some ⟨g, 0, none⟩) g 0 n Z := by
  rcases h.2 with ⟨_, h0⟩ | ⟨g, cap, cur, rfl, hb, hg, hnc, hm, hs, hx⟩
  · exact absurd h0 hn
  · refine ⟨g, cap, rfl, hnc, fun _ => (Array.getElem?_eq_some_iff.1 hg).1, fun _ => rfl, fun i hi => ?_⟩
    rw [Nat.zero_add, World.ownsRow.cellAt h i (by omega)]
    simp [ys, yl, hi]

end Go.Proofs.Qxb6602691a
