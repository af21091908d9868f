import Derived.Test.Qxb6600511aScan
import Derived.Deep.Cut
import Derived.Deep.CutBlock
namespace Go.Proofs.Qxb6600511a
open Go.RowKit

/-- e or E. -/
def isE (c : Int) : Bool := c == 101 || c == 69
/-- zzNumberStep. -/
def nx : Nat → Int → Int
  | 0, c => if c == 45 then 1 else if c == 48 then 2 else if isDig c then 3 else -1
  | 1, c => if c == 48 then 2 else if isDig c then 3 else -1
  | 2, c => if c == 46 then 4 else if isE c then 6 else -1
  | 3, c => if isDig c then 3 else if c == 46 then 4 else if isE c then 6 else -1
  | 4, c => if isDig c then 5 else -1
  | 5, c => if isDig c then 5 else if isE c then 6 else -1
  | 6, c => if (c == 43 || c == 45) then 7 else if isDig c then 8 else -1
  | 7, c => if isDig c then 8 else -1
  | 8, c => if isDig c then 8 else -1
  | _, _ => -1
theorem nx_bd (st : Nat) (c : Int) : -1 ≤ nx st c ∧ nx st c ≤ 8 := by
  unfold nx; split <;> (repeat' split) <;> omega

set_option maxRecDepth 4000 in
set_option maxHeartbeats 2000000 in
theorem step_any (st : Nat) (c : Int) (w : World) (h : st ≤ 8) (h0 : 0 ≤ c) (h1 : c ≤ 255) :
   Calls Try.prog 26 #[.int .i64 (st : Int), .int .u8 c] w fun e w' => e = .returned (.int .i64 (nx st c)) ∧ w' = w := by
  match st, h with
  | 0, _ =>
    go_enter Try.func26, Try.ntmps26
    go_wp2_with (go_at_call 27; refine (isDigit_any _ _ h0 h1).mono ?_; rintro e w' ⟨rfl, rfl⟩)
    all_goals (go_ret; refine ⟨ret_int ?_, rfl⟩; simp_all [nx])
  | 1, _ =>
    go_enter Try.func26, Try.ntmps26
    go_wp2_with (go_at_call 27; refine (isDigit_any _ _ h0 h1).mono ?_; rintro e w' ⟨rfl, rfl⟩)
    all_goals (go_ret; refine ⟨ret_int ?_, rfl⟩; simp_all [nx])
  | 2, _ =>
    go_enter Try.func26, Try.ntmps26
    go_wp2_with (go_at_call 27; refine (isDigit_any _ _ h0 h1).mono ?_; rintro e w' ⟨rfl, rfl⟩)
    all_goals (go_ret; refine ⟨ret_int ?_, rfl⟩; simp_all [nx, isE])
  | 3, _ =>
    go_enter Try.func26, Try.ntmps26
    go_wp2_with (go_at_call 27; refine (isDigit_any _ _ h0 h1).mono ?_; rintro e w' ⟨rfl, rfl⟩)
    all_goals (go_ret; refine ⟨ret_int ?_, rfl⟩; simp_all [nx, isE])
  | 4, _ =>
    go_enter Try.func26, Try.ntmps26
    go_wp2_with (go_at_call 27; refine (isDigit_any _ _ h0 h1).mono ?_; rintro e w' ⟨rfl, rfl⟩)
    all_goals (go_ret; refine ⟨ret_int ?_, rfl⟩; simp_all [nx])
  | 5, _ =>
    go_enter Try.func26, Try.ntmps26
    go_wp2_with (go_at_call 27; refine (isDigit_any _ _ h0 h1).mono ?_; rintro e w' ⟨rfl, rfl⟩)
    all_goals (go_ret; refine ⟨ret_int ?_, rfl⟩; simp_all [nx, isE])
  | 6, _ =>
    go_enter Try.func26, Try.ntmps26
    go_wp2_with (go_at_call 27; refine (isDigit_any _ _ h0 h1).mono ?_; rintro e w' ⟨rfl, rfl⟩)
    all_goals (go_ret; refine ⟨ret_int ?_, rfl⟩; simp_all [nx])
  | 7, _ =>
    go_enter Try.func26, Try.ntmps26
    go_wp2_with (go_at_call 27; refine (isDigit_any _ _ h0 h1).mono ?_; rintro e w' ⟨rfl, rfl⟩)
    all_goals (go_ret; refine ⟨ret_int ?_, rfl⟩; simp_all [nx])
  | 8, _ =>
    go_enter Try.func26, Try.ntmps26
    go_wp2_with (go_at_call 27; refine (isDigit_any _ _ h0 h1).mono ?_; rintro e w' ⟨rfl, rfl⟩)
    all_goals (go_ret; refine ⟨ret_int ?_, rfl⟩; simp_all [nx])

/-- The automaton, run from state st at i. -/
def runGo (Z : Nat → Int) : Nat → Nat → Nat → Nat × Nat
  | 0, st, i => (st, i)
  | n + 1, st, i => if nx st (Z i) < 0 then (st, i) else runGo Z n (nx st (Z i)).toNat (i + 1)
def run (Z : Nat → Int) (len st i : Nat) : Nat × Nat := runGo Z (len - i) st i
theorem run_y {Z : Nat → Int} {len st i : Nat} (h : i < len) (hp : ¬ nx st (Z i) < 0) : run Z len st i = run Z len (nx st (Z i)).toNat (i + 1) := by
  unfold run
  rw [show len - i = (len - (i + 1)) + 1 from by omega, runGo, if_neg hp]
theorem run_n {Z : Nat → Int} {len st i : Nat} (h : i < len) (hp : nx st (Z i) < 0) : run Z len st i = (st, i) := by
  unfold run
  rw [show len - i = (len - (i + 1)) + 1 from by omega, runGo, if_pos hp]
theorem run_e {Z : Nat → Int} {len st i : Nat} (h : len ≤ i) : run Z len st i = (st, i) := by
  unfold run
  rw [show len - i = 0 from by omega, runGo]
def acc (k : Nat) : Bool := ((k : Int) == 2 || (k : Int) == 3 || (k : Int) == 5 || (k : Int) == 8)

theorem ret_t3 {a a' b b' : Int} {x y : Bool} (h1 : a = a') (h2 : b = b') (h : x = y) : Ending.returned (.tuple #[.int .i64 a, .int .i64 b, .bool x]) = .returned (.tuple #[.int .i64 a', .int .i64 b', .bool y]) := by rw [h1, h2, h]

set_option maxRecDepth 4000 in
set_option maxHeartbeats 2000000 in
theorem model_any (a : Option Addr) (b off len cap : Nat) (Z : Nat → Int) (i : Nat) (w : World) (hl : len ≤ 2097152) (hi : i ≤ 9223372036854775807) (h : BAt w a b off len Z) (hy : Byt Z len) (st : Nat) (hsp : span isSp Z len i = st) (r : Nat × Nat) (hr : run Z len 0 st = r) :
   Calls Try.prog 16 #[.slice a len cap, .int .i64 (i : Int)] w fun e w' => e = .returned (.tuple #[.int .i64 (st : Int), .int .i64 (r.2 : Int), .bool (acc r.1)]) ∧ w' = w := by
  have H := hid h
  have HY := hid hy
  have HSP := hid hsp
  have HR := hid hr
  clear h hy hsp hr
  go_enter Try.func16, Try.ntmps16
  go_upto_block 0 with fail
  go_cut [1] from 10 (fun x wc => x = .int .i64 (st : Int) ∧ wc = w)
  case first =>
    go_wp2_with fail
    go_loop [1] (fun x => ∃ j : Nat, i ≤ j ∧ (j ≤ len ∨ j = i) ∧ x = .int .i64 j ∧ Hid (span isSp Z len i = span isSp Z len j)) (fun x => len - (intOf x).toNat)
    case atStart => exact ⟨i, Nat.le_refl _, .inr rfl, rfl, rfl⟩
    case round =>
      obtain ⟨j, hij, hj, rfl, HS⟩ := hrel
      have HJ := hid hj
      clear hj
      by_cases hlt : j < len
      · have hc := H.out.cell j hlt
        have ha := H.out.ad (by omega)
        subst ha
        cases e1 : isSp (Z j) with
        | true =>
          have HS2 : Hid (span isSp Z len i = span isSp Z len (j + 1)) := HS.out.trans (span_y hlt e1)
          go_wp2_with (go_at_call 19; refine (isSpace_any _ _).mono ?_; rintro e w' ⟨rfl, rfl⟩)
          go_round
          case rel => exact ⟨j + 1, by omega, .inl (by omega), by go_num, HS2⟩
          case measure => simp [intOf]; omega
        | false =>
          have HS2 : Hid (st = j) := HSP.out.symm.trans (HS.out.trans (span_n hlt e1))
          go_wp2_with (go_at_call 19; refine (isSpace_any _ _).mono ?_; rintro e w' ⟨rfl, rfl⟩)
          go_meet
          case rel => exact ⟨by rw [HS2.out], rfl⟩
      · have HS2 : Hid (st = j) := HSP.out.symm.trans (HS.out.trans (span_e (by omega)))
        go_wp2_with fail
        go_meet
        case rel => exact ⟨by rw [HS2.out], rfl⟩
  case rest =>
    obtain ⟨rfl, rfl⟩ := hcut
    have hst : st ≤ 9223372036854775807 := by
      rw [← HSP.out]
      have := span_ge isSp Z len i
      by_cases h : i ≤ len
      · have := this.2 h; omega
      · rw [span_e (by omega)]; exact hi
    go_wp2_with fail
    go_loop [1, 8, 9] (fun x y z => ∃ j k : Nat, (j ≤ len ∨ j = st) ∧ k ≤ 8 ∧ x = .int .i64 j ∧ y = .int .i64 k ∧ Hid (run Z len 0 st = run Z len k j)) (fun x _ _ => len - (intOf x).toNat)
    case atStart => exact ⟨st, 0, .inr rfl, by omega, rfl, rfl, rfl⟩
    case round =>
      obtain ⟨j, k, hj, hk, rfl, rfl, HS⟩ := hrel
      have hjb : j ≤ 9223372036854775807 := by omega
      have HJ := hid hj
      clear hj
      by_cases hlt : j < len
      · have hc := H.out.cell j hlt
        have ha := H.out.ad (by omega)
        have hyj := HY.out j hlt
        subst ha
        have hnb := nx_bd k (Z j)
        by_cases hx : nx k (Z j) < 0
        · have HS2 : Hid (r = (k, j)) := HR.out.symm.trans (HS.out.trans (run_n hlt hx))
          have e := HS2.out
          subst e
          clear HS2 HR HS
          go_wp2_with (go_at_call 26; refine (step_any _ _ _ hk hyj.1 hyj.2).mono ?_; rintro e w' ⟨rfl, rfl⟩)
          all_goals (go_ret3; refine ⟨ret_t3 rfl rfl ?_, rfl⟩; unfold acc; first | rfl | (simp_all; done) | (simp; omega))
        · have HS2 : Hid (run Z len 0 st = run Z len (nx k (Z j)).toNat (j + 1)) := HS.out.trans (run_y hlt hx)
          go_wp2_with (go_at_call 26; refine (step_any _ _ _ hk hyj.1 hyj.2).mono ?_; rintro e w' ⟨rfl, rfl⟩)
          go_round
          case rel => exact ⟨j + 1, (nx k (Z j)).toNat, .inl (by omega), by omega, by go_num, by rw [Int.toNat_of_nonneg (by omega)], HS2⟩
          case measure => simp [intOf]; omega
      · have HS2 : Hid (r = (k, j)) := HR.out.symm.trans (HS.out.trans (run_e (by omega)))
        have e := HS2.out
        subst e
        clear HS2 HR HS
        go_wp2
        all_goals (go_ret3; refine ⟨ret_t3 rfl rfl ?_, rfl⟩; unfold acc; first | rfl | (simp_all; done) | (simp; omega))

end Go.Proofs.Qxb6600511a
