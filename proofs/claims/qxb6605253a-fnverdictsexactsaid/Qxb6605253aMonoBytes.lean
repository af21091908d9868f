import Derived.Test.Qxb6605253aMis
import Derived.Deep.RegionHeld3
namespace Go.Proofs.Qxb6605253a
open Go.RowKit

set_option maxHeartbeats 2000000 in
theorem bytes16 (t : Tgt) (a : Option Addr) (b off len cap : Nat) (T : Nat → Tgt) (a' : Option Addr) (b' off' len' cap' : Nat) (T' : Nat → Tgt) (w : World) (hl : len ≤ maxLen) (hl' : len' ≤ maxLen) (ht : TAt w a b off len T) (ht' : TAt w a' b' off' len' T') :
   Calls Try.prog 16 #[.agg #[.string t.b, .string t.a, .int .i64 t.n], .slice a len cap, .slice a' len' cap'] w fun e w' => RetB e ∧ Below w.heap.size w w' := by
  unfold maxLen at hl hl'
  have HT : Hid (TAt w a b off len T) := ht
  have HT' : Hid (TAt w a' b' off' len' T') := ht'
  clear ht ht'
  go_enter Try.func16, Try.ntmps16
  go_wp2
  any_goals (go_ret; exact ⟨⟨_, rfl⟩, (Below.refl _ _).alloc (Nat.le_refl _) _⟩)
  go_loop [7, 8] (fun z i => ∃ (k : Nat) (x : Int), k ≤ len ∧ i = .int .i64 k ∧ z = .int .i64 x ∧ 0 ≤ x ∧ x ≤ 1048576) (fun _ i => len - (intOf i).toNat)
  case atStart => exact ⟨0, _, Nat.zero_le _, rfl, rfl, by omega, by omega⟩
  case round =>
    obtain ⟨k, x, hk, rfl, rfl, x0, x1⟩ := hrel
    by_cases hlt : k < len
    · have hb := HT.out.lt (by omega)
      have hc0 := HT.out.c0 k hlt
      have hc1 := HT.out.c1 k hlt
      obtain rfl := HT.out.ad (by omega)
      go_wp2
      any_goals (go_ret; exact ⟨⟨_, rfl⟩, (Below.refl _ _).alloc (Nat.le_refl _) _⟩)
      go_round
      case rel => exact ⟨k + 1, _, by omega, by go_num, rfl, by omega, by omega⟩
      case measure => simp [intOf]; omega
    · go_wp2
      any_goals (go_ret; exact ⟨⟨_, rfl⟩, (Below.refl _ _).alloc (Nat.le_refl _) _⟩)
      go_loop [7, 9] (fun z i => ∃ (k : Nat) (x : Int), k ≤ len' ∧ i = .int .i64 k ∧ z = .int .i64 x ∧ 0 ≤ x ∧ x ≤ 1048576) (fun _ i => len' - (intOf i).toNat)
      case atStart => exact ⟨0, _, Nat.zero_le _, rfl, rfl, by omega, by omega⟩
      case round =>
        obtain ⟨k', x', hk', rfl, rfl, x0', x1'⟩ := hrel
        by_cases hlt' : k' < len'
        · have hb := HT'.out.lt (by omega)
          have hc0 := HT'.out.c0 k' hlt'
          have hc1 := HT'.out.c1 k' hlt'
          obtain rfl := HT'.out.ad (by omega)
          go_wp2
          any_goals (go_ret; exact ⟨⟨_, rfl⟩, (Below.refl _ _).alloc (Nat.le_refl _) _⟩)
          go_round
          case rel => exact ⟨k' + 1, _, by omega, by go_num, rfl, by omega, by omega⟩
          case measure => simp [intOf]; omega
        · go_wp2
          go_ret
          exact ⟨⟨_, rfl⟩, (Below.refl _ _).alloc (Nat.le_refl _) _⟩

def rankF (s : ByteArray) : Int := if s.toList == backS.toList then 0 else if s.toList == archS.toList then 1 else if s.toList == warpS.toList then 2 else -1

set_option maxHeartbeats 400000 in
theorem rank_any (s : ByteArray) (w : World) :
   Calls Try.prog 17 #[.string s] w fun e w' => e = .returned (.int .i64 (rankF s)) ∧ w' = w := by
  go_enter Try.func17, Try.ntmps17
  go_wp2

  all_goals (go_ret; refine ⟨ret_int ?_, rfl⟩; unfold rankF backS archS warpS; simp_all)

end Go.Proofs.Qxb6605253a
