import Derived.Test.Qxb6605253aMap
namespace Go.Proofs.Qxb6605253a
open Go.RowKit

theorem same_y {c : Cnt} {t : Tgt} (h1 : (c.b.toList == t.b.toList) = true) (h2 : (c.a.toList == t.a.toList) = true) (h3 : (c.n == t.n) = true) : same c t = true := by simp only [same, h1, h2, h3]; rfl
theorem same_n1 {c : Cnt} {t : Tgt} (h1 : (c.b.toList == t.b.toList) = false) : same c t = false := by simp only [same, h1]; rfl
theorem same_n2 {c : Cnt} {t : Tgt} (h1 : (c.b.toList == t.b.toList) = true) (h2 : (c.a.toList == t.a.toList) = false) : same c t = false := by simp only [same, h1, h2]; rfl
theorem same_n3 {c : Cnt} {t : Tgt} (h1 : (c.b.toList == t.b.toList) = true) (h2 : (c.a.toList == t.a.toList) = true) (h3 : (c.n == t.n) = false) : same c t = false := by simp only [same, h1, h2, h3]; rfl

set_option maxRecDepth 4000 in
set_option maxHeartbeats 1000000 in
theorem countOf_any (a : Option Addr) (b off len cap : Nat) (C : Nat → Cnt) (t : Tgt) (w : World) (hl : len ≤ 1048576) (ht : SAt w a b off len 4 (cc C)) :
   Calls Try.prog 28 #[.slice a len cap, .agg #[.string t.b, .string t.a, .int .i64 t.n]] w fun e w' => e = .returned (.int .i64 (cntF C t len)) ∧ Below w.heap.size w w' := by
  have HT := hid ht
  clear ht
  go_enter Try.func28, Try.ntmps28
  go_wp2
  go_loopw [5] (fun i wr => ∃ (m : Nat), m ≤ len ∧ i = .int .i64 ((m : Int) - 1) ∧ Hid (cntF C t len = cntF C t m) ∧ wr.cell? ⟨w.heap.size, 0, none⟩ = some (.string t.b) ∧ wr.cell? ⟨w.heap.size, 1, none⟩ = some (.string t.a) ∧ wr.cell? ⟨w.heap.size, 2, none⟩ = some (.int .i64 t.n) ∧ Below w.heap.size w wr) (fun i _ => (intOf i + 1).toNat)
  case atStart => exact ⟨len, Nat.le_refl _, rfl, rfl, by simp, by simp, by simp, (Below.refl _ _).alloc (Nat.le_refl _) _⟩
  case round =>
    obtain ⟨m, hm, rfl, HC, ht0, ht1, ht2, hbel⟩ := hrel
    have HB := hid hbel
    clear hbel
    cases m with
    | zero =>
      go_wp2
      go_ret
      exact ⟨ret_int HC.out.symm, HB.out⟩
    | succ k =>
      have hlt : k < len := by omega
      have HT' := hid (HT.out.below HB.out)
      have ha := HT'.out.ad (by omega)
      subst ha
      obtain ⟨hc0, hc1, hc2, hc3⟩ := cnt_cells HT'.out hlt
      rw [show ((k + 1 : Nat) : Int) - 1 = (k : Int) from by omega]
      cases e1 : (C k).b.toList == t.b.toList with
      | false =>
        go_wp2_with fail
        go_quiet (fail)
        go_wp2
        go_roundw
        case rel => exact ⟨k, by omega, rfl, HC.out.trans (cntF_n (same_n1 e1)), by simpa using ht0, by simpa using ht1, by simpa using ht2, below_drewN HB.out _⟩
        case measure => simp [intOf]
      | true =>
        cases e2 : (C k).a.toList == t.a.toList with
        | false =>
          go_wp2_with fail
          go_quiet (fail)
          go_wp2
          go_roundw
          case rel => exact ⟨k, by omega, rfl, HC.out.trans (cntF_n (same_n2 e1 e2)), by simpa using ht0, by simpa using ht1, by simpa using ht2, below_drewN HB.out _⟩
          case measure => simp [intOf]
        | true =>
          cases e3 : (C k).n == t.n with
          | false =>
            go_wp2_with fail
            go_quiet (fail)
            go_wp2
            go_roundw
            case rel => exact ⟨k, by omega, rfl, HC.out.trans (cntF_n (same_n3 e1 e2 e3)), by simpa using ht0, by simpa using ht1, by simpa using ht2, below_drewN HB.out _⟩
            case measure => simp [intOf]
          | true =>
            go_wp2_with fail
            go_quiet (fail)
            go_wp2
            go_ret
            exact ⟨ret_int (HC.out.trans (cntF_y (same_y e1 e2 e3))).symm, below_drewN HB.out _⟩

def sizeG (G : Nat → Gpu) (n : Int) : Nat → Int
  | 0 => n
  | k + 1 => addF (addF (addF (addF (addF (sizeG G n k) 80) ((G k).b.size : Int)) ((G k).a.size : Int)) ((G k).p.size : Int)) ((G k).d.size : Int)
theorem sizeG_bd (G : Nat → Gpu) (n : Int) (k : Nat) (h0 : 0 ≤ n) (h1 : n ≤ 1048577) : 0 ≤ sizeG G n k ∧ sizeG G n k ≤ 1048577 := by
  induction k with
  | zero => exact ⟨h0, h1⟩
  | succ k ih => unfold sizeG; exact addF_bd _ _ (addF_bd _ _ (addF_bd _ _ (addF_bd _ _ (addF_bd _ _ ih.1).1).1).1).1

set_option maxHeartbeats 1000000 in
theorem sizeG_any (n : Int) (a : Option Addr) (b off len cap : Nat) (G : Nat → Gpu) (w : World) (h0 : 0 ≤ n) (h1 : n ≤ 1048577) (hl : len ≤ 1048576) (ht : SAt w a b off len 6 (gc G)) :
   Calls Try.prog 21 #[.int .i64 n, .slice a len cap] w fun e w' => e = .returned (.int .i64 (sizeG G n len)) ∧ w' = w := by
  have HT := hid ht
  clear ht
  go_enter Try.func21, Try.ntmps21
  go_wp2
  go_loop [0, 5] (fun s i => ∃ k : Nat, k ≤ len ∧ i = .int .i64 k ∧ s = .int .i64 (sizeG G n k)) (fun _ i => len - (intOf i).toNat)
  case atStart => exact ⟨0, Nat.zero_le _, rfl, rfl⟩
  case round =>
    obtain ⟨k, hk, rfl, rfl⟩ := hrel
    have sb0 := sizeG_bd G n k h0 h1
    by_cases hlt : k < len
    · have hcs := gpu_cells HT.out hlt
      obtain rfl := HT.out.ad (by omega)
      have sb1 := addF_bd (sizeG G n k) 80 sb0.1
      have sb2 := addF_bd (addF (sizeG G n k) 80) ((G k).b.size : Int) sb1.1
      have sb3 := addF_bd (addF (addF (sizeG G n k) 80) ((G k).b.size : Int)) ((G k).a.size : Int) sb2.1
      have sb4 := addF_bd (addF (addF (addF (sizeG G n k) 80) ((G k).b.size : Int)) ((G k).a.size : Int)) ((G k).p.size : Int) sb3.1
      go_wp2_with (go_at_call 11; refine (add_any _ _ _ (by omega) (by omega)).mono ?_; rintro e w' ⟨rfl, rfl⟩)
      go_round
      case rel => exact ⟨k + 1, by omega, by go_num, rfl⟩
      case measure => simp [intOf]; omega
    · go_wp2
      go_ret
      exact ⟨ret_int (by rw [show k = len from by omega]), rfl⟩

def sizeK (K : Nat → Krn) (n : Int) : Nat → Int
  | 0 => n
  | k + 1 => addF (addF (addF (addF (addF (addF (sizeK K n k) 88) ((K k).e.size : Int)) ((K k).m.size : Int)) ((K k).b.size : Int)) ((K k).a.size : Int)) ((K k).v.size : Int)
theorem sizeK_bd (K : Nat → Krn) (n : Int) (k : Nat) (h0 : 0 ≤ n) (h1 : n ≤ 1048577) : 0 ≤ sizeK K n k ∧ sizeK K n k ≤ 1048577 := by
  induction k with
  | zero => exact ⟨h0, h1⟩
  | succ k ih => unfold sizeK; exact addF_bd _ _ (addF_bd _ _ (addF_bd _ _ (addF_bd _ _ (addF_bd _ _ (addF_bd _ _ ih.1).1).1).1).1).1

set_option maxHeartbeats 1000000 in
theorem sizeK_any (n : Int) (a : Option Addr) (b off len cap : Nat) (K : Nat → Krn) (w : World) (h0 : 0 ≤ n) (h1 : n ≤ 1048577) (hl : len ≤ 1048576) (ht : SAt w a b off len 6 (kc K)) :
   Calls Try.prog 19 #[.int .i64 n, .slice a len cap] w fun e w' => e = .returned (.int .i64 (sizeK K n len)) ∧ w' = w := by
  have HT := hid ht
  clear ht
  go_enter Try.func19, Try.ntmps19
  go_wp2
  go_loop [0, 5] (fun s i => ∃ k : Nat, k ≤ len ∧ i = .int .i64 k ∧ s = .int .i64 (sizeK K n k)) (fun _ i => len - (intOf i).toNat)
  case atStart => exact ⟨0, Nat.zero_le _, rfl, rfl⟩
  case round =>
    obtain ⟨k, hk, rfl, rfl⟩ := hrel
    have sb0 := sizeK_bd K n k h0 h1
    by_cases hlt : k < len
    · have hcs := krn_cells HT.out hlt
      obtain rfl := HT.out.ad (by omega)
      have sb1 := addF_bd (sizeK K n k) 88 sb0.1
      have sb2 := addF_bd (addF (sizeK K n k) 88) ((K k).e.size : Int) sb1.1
      have sb3 := addF_bd (addF (addF (sizeK K n k) 88) ((K k).e.size : Int)) ((K k).m.size : Int) sb2.1
      have sb4 := addF_bd (addF (addF (addF (sizeK K n k) 88) ((K k).e.size : Int)) ((K k).m.size : Int)) ((K k).b.size : Int) sb3.1
      have sb5 := addF_bd (addF (addF (addF (addF (sizeK K n k) 88) ((K k).e.size : Int)) ((K k).m.size : Int)) ((K k).b.size : Int)) ((K k).a.size : Int) sb4.1
      go_wp2_with (go_at_call 11; refine (add_any _ _ _ (by omega) (by omega)).mono ?_; rintro e w' ⟨rfl, rfl⟩)
      go_round
      case rel => exact ⟨k + 1, by omega, by go_num, rfl⟩
      case measure => simp [intOf]; omega
    · go_wp2
      go_ret
      exact ⟨ret_int (by rw [show k = len from by omega]), rfl⟩

def sizeC (C : Nat → Cnt) (n : Int) : Nat → Int
  | 0 => n
  | k + 1 => addF (addF (addF (sizeC C n k) 48) ((C k).b.size : Int)) ((C k).a.size : Int)
theorem sizeC_bd (C : Nat → Cnt) (n : Int) (k : Nat) (h0 : 0 ≤ n) (h1 : n ≤ 1048577) : 0 ≤ sizeC C n k ∧ sizeC C n k ≤ 1048577 := by
  induction k with
  | zero => exact ⟨h0, h1⟩
  | succ k ih => unfold sizeC; exact addF_bd _ _ (addF_bd _ _ (addF_bd _ _ ih.1).1).1

set_option maxHeartbeats 1000000 in
theorem sizeC_any (n : Int) (a : Option Addr) (b off len cap : Nat) (C : Nat → Cnt) (w : World) (h0 : 0 ≤ n) (h1 : n ≤ 1048577) (hl : len ≤ 1048576) (ht : SAt w a b off len 4 (cc C)) :
   Calls Try.prog 20 #[.int .i64 n, .slice a len cap] w fun e w' => e = .returned (.int .i64 (sizeC C n len)) ∧ w' = w := by
  have HT := hid ht
  clear ht
  go_enter Try.func20, Try.ntmps20
  go_wp2
  go_loop [0, 5] (fun s i => ∃ k : Nat, k ≤ len ∧ i = .int .i64 k ∧ s = .int .i64 (sizeC C n k)) (fun _ i => len - (intOf i).toNat)
  case atStart => exact ⟨0, Nat.zero_le _, rfl, rfl⟩
  case round =>
    obtain ⟨k, hk, rfl, rfl⟩ := hrel
    have sb0 := sizeC_bd C n k h0 h1
    by_cases hlt : k < len
    · have hcs := cnt_cells HT.out hlt
      obtain rfl := HT.out.ad (by omega)
      have sb1 := addF_bd (sizeC C n k) 48 sb0.1
      have sb2 := addF_bd (addF (sizeC C n k) 48) ((C k).b.size : Int) sb1.1
      go_wp2_with (go_at_call 11; refine (add_any _ _ _ (by omega) (by omega)).mono ?_; rintro e w' ⟨rfl, rfl⟩)
      go_round
      case rel => exact ⟨k + 1, by omega, by go_num, rfl⟩
      case measure => simp [intOf]; omega
    · go_wp2
      go_ret
      exact ⟨ret_int (by rw [show k = len from by omega]), rfl⟩
end Go.Proofs.Qxb6605253a
