import Derived.Test.Qxb6600511aWriteLaw
import Derived.Test.Qxb6600511aZz
import Derived.Deep.Cut
import Derived.Deep.CutBlock
namespace Go.Proofs.Qxb6600511a
open Go.RowKit

set_option maxHeartbeats 1000000 in
theorem bytes20 (a0 : Option Addr) (n0 c0 : Nat) (x1 : Bool) (a2 : Option Addr) (n2 c2 : Nat) (x3 : Bool) (a4 : Option Addr) (n4 c4 : Nat) (x5 x6 : Bool) (x7 : Int) (a8 : Option Addr) (n8 c8 : Nat) (x9 : Int) (x10 : Bool) (w : World) (h0 : n0 ≤ maxLen) (h2 : n2 ≤ maxLen) (h4 : n4 ≤ maxLen) (h8 : n8 ≤ maxLen) :
   Calls Try.prog 20 #[.slice a0 n0 c0, .bool x1, .slice a2 n2 c2, .bool x3, .slice a4 n4 c4, .bool x5, .bool x6, .int .i8 x7, .slice a8 n8 c8, .int .u8 x9, .bool x10] w fun e w' => RetB e ∧ w' = w := by
  unfold maxLen at h0 h2 h4 h8
  go_enter Try.func20, Try.ntmps20
  go_wp2
  all_goals (go_ret; exact ⟨⟨_, rfl⟩, rfl⟩)

/-- zzSpaceByte. -/
def spB (k : Int) : Int := if k % 4 = 0 then 32 else if k % 4 = 1 then 9 else if k % 4 = 2 then 10 else 13
theorem spB_sp (k : Int) : isSp (spB k) = true := by
  unfold spB; split
  · decide
  · split
    · decide
    · split <;> decide
set_option maxHeartbeats 400000 in
theorem spaceByte_any (k : Int) (w : World) (h0 : 0 ≤ k) (h1 : k ≤ 255) :
   Calls Try.prog 22 #[.int .i64 k] w fun e w' => e = .returned (.int .u8 (spB k)) ∧ w' = w := by
  go_enter Try.func22, Try.ntmps22
  go_wp2
  all_goals
    go_ret
    refine ⟨ret_int ?_, rfl⟩
    unfold spB
    simp_all

set_option maxHeartbeats 400000 in
theorem continues_any (c : Int) (lone frac exp : Bool) (w : World) (h0 : 0 ≤ c) (h1 : c ≤ 255) :
   Calls Try.prog 23 #[.int .u8 c, .bool lone, .bool frac, .bool exp] w fun e w' => e = .returned (.bool (cont c lone frac exp)) ∧ w' = w := by
  cases hd : isDig c <;> cases hdot : (c == 46) <;> cases he : (c == 101) <;> cases hE : (c == 69) <;> cases exp <;> cases frac <;> cases lone
  all_goals
    have HC : Hid (∀ l f x, cont c l f x = if x then isDig c else if f then isDig c || c == 101 || c == 69 else if l then c == 46 || c == 101 || c == 69 else isDig c || c == 46 || c == 101 || c == 69) := fun _ _ _ => rfl
    go_enter Try.func23, Try.ntmps23
    go_wp2_with (go_at_call 27; refine (isDigit_any _ _ h0 h1).mono ?_; rintro e w' ⟨rfl, rfl⟩; rw [hd])
    go_ret
    refine ⟨ret_bool ?_, rfl⟩
    rw [HC.out]
    simp [hd, hdot, he, hE]

/-- The digits that are written for n bytes. -/
def dgl (Z : Nat → Int) (n : Nat) : List Int := (List.range n).map fun i => 48 + Z i % 10
theorem dgl_succ (Z : Nat → Int) (k : Nat) : dgl Z (k + 1) = dgl Z k ++ [48 + Z k % 10] := by
  unfold dgl; rw [List.range_succ]; simp
theorem dgl_len (Z : Nat → Int) (k : Nat) : (dgl Z k).length = k := by simp [dgl]
/-- zzAppendDigits: what it appends. -/
def adl (Z : Nat → Int) (n : Nat) : List Int := if n = 0 then [48] else dgl Z n
theorem ys_app (l : List Int) (c : Int) : ys (l ++ [c]) = ys l ++ [.int .u8 c] := by simp [ys]
/-- The slice v holds the bytes l, and is the call's own. -/
structure Ow (wm w : World) (v : Value) (l : List Int) : Prop where
  own : w.ownsRow wm.heap.size 5 1 v l.length (ys l)
  bel : Below wm.heap.size wm w
theorem Ow.step {wm wr w1 : World} {v v1 : Value} {l : List Int} {c : Int} {blk : Obj} {n : Nat} (hn : l.length = n) (h : Ow wm wr v l) (hown : w1.ownsRow wm.heap.size 5 1 v1 (n + 1) (ys l ++ [.int .u8 c])) (hg : (wr.alloc blk).grownBy w1 v.ownBlock) : Ow wm w1 v1 (l ++ [c]) :=
  ⟨by rw [List.length_append, ys_app, hn]; exact hown, own_stepW h.own h.bel ((Below.refl _ _).alloc (Nat.le_refl _) _) hg⟩
/-- It returns such a slice. -/
def RetO (wm : World) (l : List Int) (e : Ending) (w' : World) : Prop := ∃ v, e = .returned v ∧ Ow wm w' v l

set_option maxRecDepth 4000 in
set_option maxHeartbeats 1000000 in
theorem appendDigits_any (wm : World) (v : Value) (l : List Int) (a : Option Addr) (b n cap : Nat) (Z : Nat → Int) (w : World) (hl : l.length ≤ 2097152) (hn : n ≤ 1048576) (hy : Byt Z n) (hb : BAt wm a b 0 n Z) (ho : Ow wm w v l) :
   Calls Try.prog 21 #[v, .slice a n cap] w fun e w' => RetO wm (l ++ adl Z n) e w' := by
  have HB := hid hb
  have HO := hid ho
  have HY := hid hy
  clear hb ho hy
  obtain ⟨i0, hi, hz0, hz1, hz2⟩ := info_parts Try.info5
  have hHi := hid hi
  have hHz0 := hid hz0
  have hHz1 := hid hz1
  have hHz2 := hid hz2
  clear hi hz0 hz1 hz2
  by_cases h0 : n = 0
  · subst h0
    go_enter Try.func21, Try.ntmps21
    go_wp2_with (at_builtin; go_must (refine wpList_append_own _ rfl _ _ 22 rfl wm.heap.size 5 i0 _ 1 1 Try.underlying22 hHi.out hHz0.out hHz1.out hHz2.out rfl (by decide) _ _ _ rfl (HO.out.own.alloc _) _ 1 1 [.int .u8 48] rfl rfl (cell_one_at _ _ rfl _ _) (one_int _ _) (by unfold maxLen; omega) (by omega) (by have := HO.out.bel.size; simp; omega) ?_))
    intro v1 w4 hown1 hgrow1 _
    have HO4 := hid (Ow.step rfl HO.out hown1 hgrow1)
    clear hown1 hgrow1 HO
    go_wp2
    go_ret
    exact ⟨_, rfl, HO4.out⟩
  · have hz : ((n : Int) == 0) = false := by simp; omega
    have H0 := hid h0
    clear h0
    go_enter Try.func21, Try.ntmps21
    go_wp2_with fail
    go_loopw [0, 5] (fun x i wr => ∃ k : Nat, k ≤ n ∧ i = .int .i64 k ∧ Ow wm wr x (l ++ dgl Z k)) (fun _ i _ => n - (intOf i).toNat)
    case atStart => exact ⟨0, Nat.zero_le _, rfl, by simpa [dgl] using HO.out⟩
    case round =>
      obtain ⟨k, hk, rfl, hown⟩ := hrel
      clear HO
      have HO := hid hown
      clear hown
      have hll : (l ++ dgl Z k).length = l.length + k := by rw [List.length_append, dgl_len]
      by_cases hlt : k < n
      · have hc := (HB.out.below HO.out.bel).cell k hlt
        rw [Nat.zero_add] at hc
        have hbl := (HB.out.below HO.out.bel).lt (by omega)
        have ha := HB.out.ad (by omega)
        subst ha
        obtain ⟨y0, y1⟩ := HY.out k hlt
        go_wp2_with (at_builtin; go_must (refine wpList_append_own _ rfl _ _ 22 rfl wm.heap.size 5 i0 _ 1 1 Try.underlying22 hHi.out hHz0.out hHz1.out hHz2.out rfl (by decide) _ _ _ rfl (HO.out.own.alloc _) _ 1 1 [.int .u8 (48 + Z k % 10)] rfl rfl (cell_one_at _ _ rfl _ _) (one_int _ _) (by unfold maxLen; omega) (by omega) (by have := HO.out.bel.size; simp; omega) ?_))
        intro v1 w4 hown1 hgrow1 _
        have HO4 := hid (Ow.step hll HO.out hown1 hgrow1)
        clear hown1 hgrow1 HO
        rw [List.append_assoc, ← dgl_succ] at HO4
        go_wp2
        go_roundw
        case rel => exact ⟨k + 1, by omega, by go_num, HO4.out⟩
        case measure => simp [intOf]; omega
      · obtain rfl : k = n := by omega
        go_wp2
        go_ret
        exact ⟨_, rfl, by unfold adl; rw [if_neg H0.out]; exact HO.out⟩

end Go.Proofs.Qxb6600511a
