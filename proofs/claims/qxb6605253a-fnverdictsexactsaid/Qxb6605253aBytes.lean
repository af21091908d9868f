import Derived.Test.Qxb6605253aSizes
namespace Go.Proofs.Qxb6605253a
open Go.RowKit


set_option maxHeartbeats 1000000 in
theorem tsOfK_any (a : Option Addr) (b off len cap : Nat) (K : Nat → Krn) (w : World) (hl : len ≤ 1048576) (ht : SAt w a b off len 6 (kc K)) :
   Calls Try.prog 26 #[.slice a len cap] w fun e w' => RetT len (fun i => (K i).t) e w' ∧ Below w.heap.size w w' := by
  have HT := hid ht
  clear ht
  have hmk := run_make_n (P := Try.prog) 24 23 _ 3 40 Try.underlying24 Try.info23 len (by omega) (by omega)
  go_enter Try.func26, Try.ntmps26
  go_wp2
  clear hmk
  go_loopw [4] (fun i wr => ∃ (k : Nat) (f : Nat → Value), k ≤ len ∧ i = .int .i64 k ∧ wr.rowIs w.heap.size 23 (len * 3) f ∧ Below w.heap.size w wr ∧ TRow f k (fun i => (K i).t)) (fun i _ => len - (intOf i).toNat)
  case atStart => exact ⟨0, _, Nat.zero_le _, rfl, rowIs_made_n _ _ _ _, (Below.refl _ _).alloc (Nat.le_refl _) _, TRow.zero _ _⟩
  case round =>
    obtain ⟨k, f, hk, rfl, hrow, hbel, hf⟩ := hrel
    have HR := hid hrow
    have HB := hid hbel
    have HF := hid hf
    clear hrow hbel hf
    by_cases hlt : k < len
    · have HT' := hid (HT.out.below HB.out)
      have hcs := krn_cells HT'.out hlt
      have ha := HT'.out.ad (by omega)
      have hsz := HR.out.lt
      have hz1 := HR.out.cell (i := k * 3) (by omega)
      have hz2 := HR.out.cell (i := k * 3 + 1) (by omega)
      have hz3 := HR.out.cell (i := k * 3 + 2) (by omega)
      have hfz := HR.out.frozen
      subst ha
      go_wp2_with (go_at_call 36; refine (tofK_any (K k) _).mono ?_; rintro e w1 ⟨rfl, hb1⟩; obtain ⟨hbc, hbf⟩ := bcell hb1)
      go_roundw
      case rel => exact ⟨k + 1, _, by omega, by go_num, rowIs_set3 (rowIs_below HR.out hb1) _ _ _ _, (((HB.out.trans (hb1.mono (Nat.le_of_lt hsz))).setCell (Nat.le_refl _) _).setCell (Nat.le_refl _) _).setCell (Nat.le_refl _) _, HF.out.step⟩
      case measure => simp [intOf]; omega
    · obtain rfl : k = len := by omega
      go_wp2
      go_ret
      exact ⟨⟨_, _, 0, _, rfl, TAt.ofRow HR.out HF.out⟩, HB.out⟩

set_option maxRecDepth 4000 in
set_option maxHeartbeats 4000000 in
theorem bytes18 (a : Option Addr) (b off len cap : Nat) (G : Nat → Gpu) (a' : Option Addr) (b' off' len' cap' : Nat) (C : Nat → Cnt) (a'' : Option Addr) (b'' off'' len'' cap'' : Nat) (K : Nat → Krn) (w : World)
    (hl : len ≤ maxLen) (hl' : len' ≤ maxLen) (hl'' : len'' ≤ maxLen) (ht : SAt w a b off len 6 (gc G)) (ht' : SAt w a' b' off' len' 4 (cc C)) (ht'' : SAt w a'' b'' off'' len'' 6 (kc K)) :
   Calls Try.prog 18 #[.slice a len cap, .slice a' len' cap', .slice a'' len'' cap''] w fun e w' => RetB e ∧ w' = w := by
  unfold maxLen at hl hl' hl''
  have HG := hid ht
  have HC := hid ht'
  have HK := hid ht''
  clear ht ht' ht''
  go_enter Try.func18, Try.ntmps18
  go_wp2
  any_goals (go_ret; exact ⟨⟨_, rfl⟩, rfl⟩)
  go_loop [7, 8] (fun z i => ∃ (k : Nat) (x : Int), k ≤ len ∧ i = .int .i64 k ∧ z = .int .i64 x ∧ 0 ≤ x ∧ x ≤ 1048576) (fun _ i => len - (intOf i).toNat)
  case atStart => exact ⟨0, _, Nat.zero_le _, rfl, rfl, by omega, by omega⟩
  case round =>
    obtain ⟨k8, x8, hk8, rfl, rfl, xl8, xh8⟩ := hrel
    by_cases hlt8 : k8 < len
    · have hcs := gpu_cells HG.out hlt8
      obtain rfl := HG.out.ad (by omega)
      go_wp2
      any_goals (go_ret; exact ⟨⟨_, rfl⟩, rfl⟩)
      go_round
      case rel => exact ⟨k8 + 1, _, by omega, by go_num, rfl, by omega, by omega⟩
      case measure => simp [intOf]; omega
    · go_wp2
      any_goals (go_ret; exact ⟨⟨_, rfl⟩, rfl⟩)
      go_loop [7, 9] (fun z i => ∃ (k : Nat) (x : Int), k ≤ len' ∧ i = .int .i64 k ∧ z = .int .i64 x ∧ 0 ≤ x ∧ x ≤ 1048576) (fun _ i => len' - (intOf i).toNat)
      case atStart => exact ⟨0, _, Nat.zero_le _, rfl, rfl, by omega, by omega⟩
      case round =>
        obtain ⟨k9, x9, hk9, rfl, rfl, xl9, xh9⟩ := hrel
        by_cases hlt9 : k9 < len'
        · have hcs := cnt_cells HC.out hlt9
          obtain rfl := HC.out.ad (by omega)
          go_wp2
          any_goals (go_ret; exact ⟨⟨_, rfl⟩, rfl⟩)
          go_round
          case rel => exact ⟨k9 + 1, _, by omega, by go_num, rfl, by omega, by omega⟩
          case measure => simp [intOf]; omega
        · go_wp2
          any_goals (go_ret; exact ⟨⟨_, rfl⟩, rfl⟩)
          go_loop [7, 10] (fun z i => ∃ (k : Nat) (x : Int), k ≤ len'' ∧ i = .int .i64 k ∧ z = .int .i64 x ∧ 0 ≤ x ∧ x ≤ 1048576) (fun _ i => len'' - (intOf i).toNat)
          case atStart => exact ⟨0, _, Nat.zero_le _, rfl, rfl, by omega, by omega⟩
          case round =>
            obtain ⟨k10, x10, hk10, rfl, rfl, xl10, xh10⟩ := hrel
            by_cases hlt10 : k10 < len''
            · have hcs := krn_cells HK.out hlt10
              obtain rfl := HK.out.ad (by omega)
              go_wp2
              any_goals (go_ret; exact ⟨⟨_, rfl⟩, rfl⟩)
              go_round
              case rel => exact ⟨k10 + 1, _, by omega, by go_num, rfl, by omega, by omega⟩
              case measure => simp [intOf]; omega
            · go_wp2
              go_ret
              exact ⟨⟨_, rfl⟩, rfl⟩

set_option maxRecDepth 4000 in
set_option maxHeartbeats 4000000 in
theorem bytes29 (a : Option Addr) (b off len cap : Nat) (G : Nat → Gpu) (a' : Option Addr) (b' off' len' cap' : Nat) (C : Nat → Cnt) (a'' : Option Addr) (b'' off'' len'' cap'' : Nat) (K : Nat → Krn) (w : World)
    (hl : len ≤ maxLen) (hl' : len' ≤ maxLen) (hl'' : len'' ≤ maxLen) (ht : SAt w a b off len 6 (gc G)) (ht' : SAt w a' b' off' len' 4 (cc C)) (ht'' : SAt w a'' b'' off'' len'' 6 (kc K)) :
   Calls Try.prog 29 #[.slice a len cap, .slice a' len' cap', .slice a'' len'' cap''] w fun e w' => RetB e ∧ w' = w := by
  unfold maxLen at hl hl' hl''
  have HG := hid ht
  have HC := hid ht'
  have HK := hid ht''
  clear ht ht' ht''
  go_enter Try.func29, Try.ntmps29
  go_wp2
  any_goals (go_ret; exact ⟨⟨_, rfl⟩, rfl⟩)
  go_loop [7, 8] (fun z i => ∃ (k : Nat) (x : Int), k ≤ len ∧ i = .int .i64 k ∧ z = .int .i64 x ∧ 0 ≤ x ∧ x ≤ 1048576) (fun _ i => len - (intOf i).toNat)
  case atStart => exact ⟨0, _, Nat.zero_le _, rfl, rfl, by omega, by omega⟩
  case round =>
    obtain ⟨k8, x8, hk8, rfl, rfl, xl8, xh8⟩ := hrel
    by_cases hlt8 : k8 < len
    · have hcs := gpu_cells HG.out hlt8
      obtain rfl := HG.out.ad (by omega)
      go_wp2
      any_goals (go_ret; exact ⟨⟨_, rfl⟩, rfl⟩)
      go_round
      case rel => exact ⟨k8 + 1, _, by omega, by go_num, rfl, by omega, by omega⟩
      case measure => simp [intOf]; omega
    · go_wp2
      any_goals (go_ret; exact ⟨⟨_, rfl⟩, rfl⟩)
      go_loop [7, 9] (fun z i => ∃ (k : Nat) (x : Int), k ≤ len' ∧ i = .int .i64 k ∧ z = .int .i64 x ∧ 0 ≤ x ∧ x ≤ 1048576) (fun _ i => len' - (intOf i).toNat)
      case atStart => exact ⟨0, _, Nat.zero_le _, rfl, rfl, by omega, by omega⟩
      case round =>
        obtain ⟨k9, x9, hk9, rfl, rfl, xl9, xh9⟩ := hrel
        by_cases hlt9 : k9 < len'
        · have hcs := cnt_cells HC.out hlt9
          obtain rfl := HC.out.ad (by omega)
          go_wp2
          any_goals (go_ret; exact ⟨⟨_, rfl⟩, rfl⟩)
          go_round
          case rel => exact ⟨k9 + 1, _, by omega, by go_num, rfl, by omega, by omega⟩
          case measure => simp [intOf]; omega
        · go_wp2
          any_goals (go_ret; exact ⟨⟨_, rfl⟩, rfl⟩)
          go_loop [7, 10] (fun z i => ∃ (k : Nat) (x : Int), k ≤ len'' ∧ i = .int .i64 k ∧ z = .int .i64 x ∧ 0 ≤ x ∧ x ≤ 1048576) (fun _ i => len'' - (intOf i).toNat)
          case atStart => exact ⟨0, _, Nat.zero_le _, rfl, rfl, by omega, by omega⟩
          case round =>
            obtain ⟨k10, x10, hk10, rfl, rfl, xl10, xh10⟩ := hrel
            by_cases hlt10 : k10 < len''
            · have hcs := krn_cells HK.out hlt10
              obtain rfl := HK.out.ad (by omega)
              go_wp2
              any_goals (go_ret; exact ⟨⟨_, rfl⟩, rfl⟩)
              go_round
              case rel => exact ⟨k10 + 1, _, by omega, by go_num, rfl, by omega, by omega⟩
              case measure => simp [intOf]; omega
            · go_wp2
              go_ret
              exact ⟨⟨_, rfl⟩, rfl⟩

end Go.Proofs.Qxb6605253a
