import Derived.Test.Qxb6605253aMis
namespace Go.Proofs.Qxb6605253a
open Go.RowKit


set_option maxHeartbeats 1000000 in
theorem caseTable (t : Tgt) (a : Option Addr) (b off len cap : Nat) (T : Nat → Tgt) (w : World) (hl : len ≤ maxLen) (hn : a = none → len = 0) (ht : TAt w a b off len T) :
   Calls Try.prog 3 #[.agg #[.string t.b, .string t.a, .int .i64 t.n], .slice a len cap] w fun e w' => e = .returned (.bool true) ∧ Below w.heap.size w w' := by
  have HT : Hid (TAt w a b off len T) := ht
  clear ht
  have HN : Hid (a = none → len = 0) := hn
  clear hn
  have law := mis_reas T t len
  have LAW : Hid (mis (mmB T t len) (mmA T t len) = reas (best T t len)) := law
  clear law
  go_enter Try.func3, Try.ntmps3
  go_wp2_with fail
  refine (bytes9 t a b off len cap T _ hl (HT.out.below ((Below.refl _ _).alloc (Nat.le_refl _) _))).mono ?_
  rintro e w1 ⟨⟨r, rfl⟩, hb1⟩
  have HB1 : Hid (Below w.heap.size w w1) := ((Below.refl _ _).alloc (Nat.le_refl _) _).trans (hb1.mono (by simp))
  obtain ⟨hbc, hbf⟩ := bcell hb1
  have hsz := hb1.size
  clear hb1
  simp at hsz
  cases r with
  | false =>
    go_wp2
    go_ret
    exact ⟨rfl, HB1.out⟩
  | true =>
    unfold maxLen at hl
    have HT1 : Hid (TAt w1 a b off len T) := HT.out.below HB1.out
    by_cases hlen : 65536 < len
    · have hlen' : (65536 : Int) < (len : Int) := by omega
      go_wp2_with fail
      go_quiet (fail)
      go_wp2
      go_ret
      exact ⟨rfl, below_drewN HB1.out _⟩
    · have hlen' : decide ((65536 : Int) < (len : Int)) = false := by simp; omega
      go_wp2_with fail
      have k1 := addF_bd 0 (t.b.size : Int) (by omega)
      have k2 := addF_bd (addF 0 (t.b.size : Int)) (t.a.size : Int) k1.1
      go_quiet (first | (go_at_call 11; exact Calls.quiet_of_same (add_any _ _ _ (by omega) (by omega))) | (go_at_call 10; exact Calls.quiet_of_same (sizeT_any _ a b off len cap T _ (by omega) (by omega) (by omega) (HT1.out.drewN _))))
      have HT2 : Hid (TAt (w1.drewN nq) a b off len T) := HT1.out.drewN _
      have HB2 : Hid (Below w.heap.size w (w1.drewN nq)) := below_drewN HB1.out _
      clear k1 k2 HT1 HB1
      generalize sizeT T (addF (addF 0 (t.b.size : Int)) (t.a.size : Int)) len = z
      have hcA : (w1.drewN nq).cell? ⟨w.heap.size, 0, none⟩ = some (.string t.b) := by simp [hbc]
      have hcB : (w1.drewN nq).cell? ⟨w.heap.size, 1, none⟩ = some (.string t.a) := by simp [hbc]
      have hcC : (w1.drewN nq).cell? ⟨w.heap.size, 2, none⟩ = some (.int .i64 t.n) := by simp [hbc]
      have hszN : w.heap.size < (w1.drewN nq).heap.size := by simp; omega
      clear hbc hbf hsz hlen'
      generalize w1.drewN nq = w2 at *
      by_cases hz : 1048576 < z
      · go_wp2
        go_ret
        exact ⟨rfl, HB2.out⟩
      · go_wp2_with fail
        refine (target_any _ _ _ _).mono ?_
        rintro e w3 ⟨rfl, hb3⟩
        have HT3 : Hid (TAt w3 a b off len T) := HT2.out.below hb3
        have HB3 : Hid (Below w.heap.size w w3) := HB2.out.trans (hb3.mono (by omega))
        obtain ⟨hbc3, hbf3⟩ := bcell hb3
        have hcA3 : w3.cell? ⟨w.heap.size, 0, none⟩ = some (.string t.b) := by rw [hbc3 _ _ hszN]; exact hcA
        have hcB3 : w3.cell? ⟨w.heap.size, 1, none⟩ = some (.string t.a) := by rw [hbc3 _ _ hszN]; exact hcB
        have hcC3 : w3.cell? ⟨w.heap.size, 2, none⟩ = some (.int .i64 t.n) := by rw [hbc3 _ _ hszN]; exact hcC
        have hsz3 : w.heap.size < w3.heap.size := by have := hb3.size; omega
        clear hbc3 hbf3 hb3 hcA hcB hcC hszN HT2 HB2
        go_wp2_with fail
        refine (targets_any a b off len cap T _ (by omega) HN.out HT3.out).mono ?_
        rintro e w4 ⟨⟨a4, b4, off4, c4, rfl, ht4⟩, hb4⟩
        have HT4 : Hid (TAt w4 a4 b4 off4 len T) := ht4
        clear ht4
        have HTO4 : Hid (TAt w4 a b off len T) := HT3.out.below hb4
        have HB4 : Hid (Below w.heap.size w w4) := HB3.out.trans (hb4.mono (by omega))
        obtain ⟨hbc4, hbf4⟩ := bcell hb4
        have hcA4 : w4.cell? ⟨w.heap.size, 0, none⟩ = some (.string t.b) := by rw [hbc4 _ _ hsz3]; exact hcA3
        have hcB4 : w4.cell? ⟨w.heap.size, 1, none⟩ = some (.string t.a) := by rw [hbc4 _ _ hsz3]; exact hcB3
        have hcC4 : w4.cell? ⟨w.heap.size, 2, none⟩ = some (.int .i64 t.n) := by rw [hbc4 _ _ hsz3]; exact hcC3
        have hsz4 : w.heap.size < w4.heap.size := by have := hb4.size; omega
        clear hbc4 hbf4 hb4 hcA3 hcB3 hcC3 hsz3 HT3 HB3
        go_wp2_with fail
        refine (zzmismatch_any t a4 b4 off4 len c4 T _ (by omega) HT4.out).mono ?_
        rintro e w5 ⟨rfl, hb5⟩
        have HTO5 : Hid (TAt w5 a b off len T) := HTO4.out.below hb5
        have HB5 : Hid (Below w.heap.size w w5) := HB4.out.trans (hb5.mono (by omega))
        obtain ⟨hbc5, hbf5⟩ := bcell hb5
        have hcA5 : w5.cell? ⟨w.heap.size, 0, none⟩ = some (.string t.b) := by rw [hbc5 _ _ hsz4]; exact hcA4
        have hcB5 : w5.cell? ⟨w.heap.size, 1, none⟩ = some (.string t.a) := by rw [hbc5 _ _ hsz4]; exact hcB4
        have hcC5 : w5.cell? ⟨w.heap.size, 2, none⟩ = some (.int .i64 t.n) := by rw [hbc5 _ _ hsz4]; exact hcC4
        have hsz5 : w.heap.size < w5.heap.size := by have := hb5.size; omega
        clear hbc5 hbf5 hb5 hcA4 hcB4 hcC4 hsz4 HT4 HB4 HTO4
        go_wp2_with fail
        refine (reason_any t a b off len cap T _ (by omega) HTO5.out).mono ?_
        rintro e w6 ⟨rfl, hb6⟩
        have HB6 : Hid (Below w.heap.size w w6) := HB5.out.trans (hb6.mono (by omega))
        have law := LAW.out
        clear hb6
        go_wp2
        go_ret
        exact ⟨by simp, HB6.out⟩

end Go.Proofs.Qxb6605253a
