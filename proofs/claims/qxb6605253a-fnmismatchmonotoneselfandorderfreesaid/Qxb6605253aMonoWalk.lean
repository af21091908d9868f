import Derived.Test.Qxb6605253aMonoLaw
namespace Go.Proofs.Qxb6605253a
open Go.RowKit

/-- A boxed target. -/
structure BoxT (w : World) (g : Nat) (t : Tgt) : Prop where
  lt : g < w.heap.size
  c0 : w.cell? ⟨g, 0, none⟩ = some (.string t.b)
  c1 : w.cell? ⟨g, 1, none⟩ = some (.string t.a)
  c2 : w.cell? ⟨g, 2, none⟩ = some (.int .i64 t.n)
theorem BoxT.below {w w' : World} {g : Nat} {t : Tgt} (h : BoxT w g t) (hb : Below w.heap.size w w') : BoxT w' g t :=
  ⟨Nat.lt_of_lt_of_le h.lt hb.size, by rw [hb.cell (p := ⟨g, 0, none⟩) h.lt]; exact h.c0, by rw [hb.cell (p := ⟨g, 1, none⟩) h.lt]; exact h.c1, by rw [hb.cell (p := ⟨g, 2, none⟩) h.lt]; exact h.c2⟩
theorem BoxT.drewN {w : World} {g : Nat} {t : Tgt} (h : BoxT w g t) (n : Nat) : BoxT (w.drewN n) g t :=
  ⟨by simpa using h.lt, by simpa using h.c0, by simpa using h.c1, by simpa using h.c2⟩
theorem BoxT.mk' (w : World) (t : Tgt) (ty : TypeId) : BoxT (w.alloc (.cells #[.string t.b, .string t.a, .int .i64 t.n] ty)) w.heap.size t :=
  ⟨by simp, by simp, by simp, by simp⟩

theorem BoxT.cells {w : World} {g : Nat} {t : Tgt} (h : BoxT w g t) : w.cell? ⟨g, 0, none⟩ = some (.string t.b) ∧ w.cell? ⟨g, 1, none⟩ = some (.string t.a) ∧ w.cell? ⟨g, 2, none⟩ = some (.int .i64 t.n) := ⟨h.c0, h.c1, h.c2⟩
theorem Hid.mk {p : Prop} (h : p) : Hid p := h

/-- What the law keeps in hand: its box, its two slices, the old memory. -/
structure Kp (w wr : World) (t : Tgt) (a : Option Addr) (b off len : Nat) (T : Nat → Tgt) (a' : Option Addr) (b' off' len' : Nat) (T' : Nat → Tgt) : Prop where
  box : BoxT wr w.heap.size t
  s1 : TAt wr a b off len T
  s2 : TAt wr a' b' off' len' T'
  bel : Below w.heap.size w wr

section
variable {w wr wr' : World} {t : Tgt} {a : Option Addr} {b off len : Nat} {T : Nat → Tgt} {a' : Option Addr} {b' off' len' : Nat} {T' : Nat → Tgt}
theorem Kp.below (h : Kp w wr t a b off len T a' b' off' len' T') (hb : Below wr.heap.size wr wr') : Kp w wr' t a b off len T a' b' off' len' T' :=
  ⟨h.box.below hb, h.s1.below hb, h.s2.below hb, h.bel.trans (hb.mono (Nat.le_of_lt h.box.lt))⟩
theorem Kp.drewN (h : Kp w wr t a b off len T a' b' off' len' T') (n : Nat) : Kp w (wr.drewN n) t a b off len T a' b' off' len' T' :=
  ⟨h.box.drewN n, h.s1.drewN n, h.s2.drewN n, below_drewN h.bel n⟩
end

set_option maxRecDepth 20000 in
set_option maxHeartbeats 2000000 in
theorem mono (t : Tgt) (a : Option Addr) (b off len cap : Nat) (T : Nat → Tgt) (a' : Option Addr) (b' off' len' cap' : Nat) (T' : Nat → Tgt) (w : World) (hl : len ≤ maxLen) (hl' : len' ≤ maxLen)
   (hn : a = none → len = 0) (ht : TAt w a b off len T) (ht' : TAt w a' b' off' len' T') :
   Calls Try.prog 4 #[.agg #[.string t.b, .string t.a, .int .i64 t.n], .slice a len cap, .slice a' len' cap'] w fun e w' => e = .returned (.bool true) ∧ Below w.heap.size w w' := by
  have HK : Hid (Kp w (w.alloc (.cells #[.string t.b, .string t.a, .int .i64 t.n] 23)) t a b off len T a' b' off' len' T') :=
    ⟨BoxT.mk' _ _ _, ht.below ((Below.refl _ _).alloc (Nat.le_refl _) _), ht'.below ((Below.refl _ _).alloc (Nat.le_refl _) _), (Below.refl _ _).alloc (Nat.le_refl _) _⟩
  clear ht ht'
  have HN : Hid (a = none → len = 0) := hn
  clear hn
  go_enter Try.func4, Try.ntmps4
  go_wp2_with fail
  refine (bytes16 t a b off len cap T a' b' off' len' cap' T' _ hl hl' HK.out.s1 HK.out.s2).mono ?_
  rintro e w1 ⟨⟨r, rfl⟩, hb1⟩
  have HK1 : Hid (Kp w w1 t a b off len T a' b' off' len' T') := HK.out.below hb1
  clear hb1 HK
  cases r with
  | false =>
    go_wp2
    go_ret
    exact ⟨rfl, HK1.out.bel⟩
  | true =>
    unfold maxLen at hl hl'
    have hb0 := HK1.out.box.c0
    have hb1 := HK1.out.box.c1
    have hb2 := HK1.out.box.c2
    by_cases hlen : 65536 < len
    · have hlen1 : (65536 : Int) < (len : Int) := by omega
      go_wp2_with fail
      go_quiet (fail)
      go_wp2
      go_ret
      exact ⟨rfl, below_drewN HK1.out.bel _⟩
    · have hlen1 : decide ((65536 : Int) < (len : Int)) = false := by simp; omega
      by_cases hlen' : 65536 < len'
      · have hlen1' : (65536 : Int) < (len' : Int) := by omega
        go_wp2_with fail
        go_quiet (fail)
        go_wp2
        go_ret
        exact ⟨rfl, below_drewN HK1.out.bel _⟩
      · have hlen1' : decide ((65536 : Int) < (len' : Int)) = false := by simp; omega
        have k1 := addF_bd 0 (t.b.size : Int) (by omega)
        have k2 := addF_bd (addF 0 (t.b.size : Int)) (t.a.size : Int) k1.1
        have k3 := sizeT_bd T (addF (addF 0 (t.b.size : Int)) (t.a.size : Int)) len k2.1 k2.2
        go_wp2_with fail
        go_quiet (first | (go_at_call 11; exact Calls.quiet_of_same (add_any _ _ _ (by omega) (by omega))) | (go_at_call_of 10 T; exact Calls.quiet_of_same (sizeT_any _ a' b' off' len' cap' T' _ (by omega) (by omega) (by omega) (HK1.out.s2.drewN _))) | (go_at_call 10; exact Calls.quiet_of_same (sizeT_any _ a b off len cap T _ (by omega) (by omega) (by omega) (HK1.out.s1.drewN _))))
        have HK2 : Hid (Kp w (w1.drewN nq) t a b off len T a' b' off' len' T') := HK1.out.drewN _
        clear k1 k2 k3 HK1 hb0 hb1 hb2 hlen1 hlen1'
        generalize sizeT T' (sizeT T (addF (addF 0 (t.b.size : Int)) (t.a.size : Int)) len) len' = z
        generalize w1.drewN nq = w2 at *
        by_cases hz : 1048576 < z
        · go_wp2
          go_ret
          exact ⟨rfl, HK2.out.bel⟩
        · have hb0 := HK2.out.box.c0
          have hb1 := HK2.out.box.c1
          have hb2 := HK2.out.box.c2
          go_wp2_with fail
          refine (target_any _ _ _ _).mono ?_
          rintro e w3 ⟨rfl, hb3⟩
          have HK3 : Hid (Kp w (w3.alloc (.cells #[.string t.b, .string t.a, .int .i64 t.n] 30)) t a b off len T a' b' off' len' T') := (HK2.out.below hb3).below ((Below.refl _ _).alloc (Nat.le_refl _) _)
          have HX3 : Hid (BoxT (w3.alloc (.cells #[.string t.b, .string t.a, .int .i64 t.n] 30)) w3.heap.size t) := BoxT.mk' _ _ _
          clear hb0 hb1 hb2 hb3 HK2
          go_wp2_with fail
          generalize w3.alloc (.cells #[.string t.b, .string t.a, .int .i64 t.n] 30) = wA at *
          generalize w3.heap.size = g at *
          have hSA : wA.drew.cell? ⟨g, 0, none⟩ = some (.string t.b) ∧ wA.drew.cell? ⟨g, 1, none⟩ = some (.string t.a) ∧ wA.drew.cell? ⟨g, 2, none⟩ = some (.int .i64 t.n) := HX3.out.cells
          go_region_held3 (fun w' => w'.cell? ⟨g, 0, none⟩ = some (.string t.b) ∧ w'.cell? ⟨g, 1, none⟩ = some (.string t.a) ∧ w'.cell? ⟨g, 2, none⟩ = some (.int .i64 t.n)) (first | assumption | fail)
            (first
              | (go_at_call 14; refine (targets_any a b off len cap T _ (by omega) HN.out (HK3.out.s1.drewN 1)).mono ?_; rintro e w4 ⟨⟨a4, b4, off4, c4, rfl, ht4⟩, hb4⟩; have HT4 : Hid (TAt w4 a4 b4 off4 len T) := ht4; clear ht4; have HK4 := Hid.mk (HK3.out.below (undrew hb4)); have HX4 := Hid.mk (HX3.out.below (undrew hb4)); have hS4 := HX4.out.cells; clear hb4)
              | (go_at_call 12; refine (zzmismatch_any t a4 b4 off4 len c4 T _ (by omega) HT4.out).mono ?_; rintro e w5 ⟨rfl, hb5⟩; have HK5 := Hid.mk (HK4.out.below hb5); have HX5 := Hid.mk (HX4.out.below hb5); have hS5 := HX5.out.cells; clear hb5))
          clear hS4 hS5 HK4 HX4 HK3 HX3 HT4 hSA
          generalize hX : mis (mmB T t len) (mmA T t len) = X
          have HX : Hid (mis (mmB T t len) (mmA T t len) = X) := hX
          clear hX
          have hmk := run_make_0n (P := Try.prog) 24 23 _ 3 40 Try.underlying24 Try.info23 ((len : Int) + (len' : Int)) (len + len') (by omega) (by omega) (by omega)
          obtain ⟨i0, hi, hz0, hz1, hz2⟩ := info_parts Try.info23
          have hHi : Hid (Try.prog.info? 23 = some i0) := hi
          have hHz0 : Hid (i0.zero = some (.agg #[.string ⟨#[]⟩, .string ⟨#[]⟩, .int .i64 0])) := hz0
          have hHz1 : Hid (i0.size = 3) := hz1
          have hHz2 : Hid (i0.bytes = 40) := hz2
          clear hi hz0 hz1 hz2
          go_wp2_with fail
          clear hmk
          go_loopw [9, 10] (fun v i wr => ∃ k : Nat, k ≤ len ∧ i = .int .i64 k ∧ wr.ownsRow w5.heap.size 23 3 v k (cellsT (glue T len T') k) ∧ Below w5.heap.size w5 wr) (fun _ i _ => len - (intOf i).toNat)
          case atStart => exact ⟨0, Nat.zero_le _, rfl, World.ownsRow_made _ _ _ (Nat.le_refl _) (by unfold maxLen; omega) (size_madeCells _ _), (Below.refl _ _).alloc (Nat.le_refl _) _⟩
          case round =>
            obtain ⟨k, hk, rfl, hown, hbel⟩ := hrel
            have HO := Hid.mk hown
            have HB : Hid (Below w5.heap.size w5 wr) := hbel
            clear hown hbel
            by_cases hlt : k < len
            · have ht' := (HK5.out.below HB.out).s1
              have hbl := ht'.lt (by omega)
              have hc0 := ht'.c0 k hlt
              have hc1 := ht'.c1 k hlt
              have hc2 := ht'.c2 k hlt
              have ha := ht'.ad (by omega)
              subst ha
              clear ht'
              go_wp2_with (at_builtin; refine wpList_append_own _ rfl _ _ 24 rfl w5.heap.size 23 i0 _ 3 40 Try.underlying24 hHi.out hHz0.out hHz1.out hHz2.out rfl (by decide) _ _ _ rfl (HO.out.alloc _) ⟨wr.heap.size, 0, none⟩ 1 1 [.string (T k).b, .string (T k).a, .int .i64 (T k).n] rfl rfl (cell_three_new _ _ _ _ _) (one_three _) (by unfold maxLen; omega) (by omega) (by have := HB.out.size; simp; omega) ?_)
              intro v1 w6 hown1 hgrow1 _
              have hb6 := Hid.mk (own_step HO.out HB.out hgrow1)
              have HO6 : Hid (w6.ownsRow w5.heap.size 23 3 v1 (k + 1) (cellsT (glue T len T') (k + 1))) := by
                show w6.ownsRow w5.heap.size 23 3 v1 (k + 1) (cellsT (glue T len T') (k + 1))
                rw [cellsT, glue_l _ _ _ _ hlt]; exact hown1
              clear hown1 hgrow1 HO HB
              go_wp2
              go_roundw
              case rel => exact ⟨k + 1, by omega, by go_num, HO6.out, hb6.out⟩
              case measure => simp [intOf]; omega
            · obtain rfl : k = len := by omega
              go_wp2_with fail
              go_loopw [9, 11] (fun v i wx => ∃ m : Nat, m ≤ len' ∧ i = .int .i64 m ∧ wx.ownsRow w5.heap.size 23 3 v (k + m) (cellsT (glue T k T') (k + m)) ∧ Below w5.heap.size w5 wx) (fun _ i _ => len' - (intOf i).toNat)
              case atStart => exact ⟨0, Nat.zero_le _, rfl, HO.out, HB.out⟩
              case round =>
                clear HO HB
                obtain ⟨m, hm, rfl, hown, hbel⟩ := hrel
                have HO := Hid.mk hown
                have HB := Hid.mk hbel
                clear hown hbel
                by_cases hlt' : m < len'
                · have ht' := (HK5.out.below HB.out).s2
                  have hbl := ht'.lt (by omega)
                  have hc0 := ht'.c0 m hlt'
                  have hc1 := ht'.c1 m hlt'
                  have hc2 := ht'.c2 m hlt'
                  have ha := ht'.ad (by omega)
                  subst ha
                  clear ht'
                  go_wp2_with (at_builtin; refine wpList_append_own _ rfl _ _ 24 rfl w5.heap.size 23 i0 _ 3 40 Try.underlying24 hHi.out hHz0.out hHz1.out hHz2.out rfl (by decide) _ _ _ rfl (HO.out.alloc _) ⟨wr.heap.size, 0, none⟩ 1 1 [.string (T' m).b, .string (T' m).a, .int .i64 (T' m).n] rfl rfl (cell_three_new _ _ _ _ _) (one_three _) (by unfold maxLen; omega) (by omega) (by have := HB.out.size; simp; omega) ?_)
                  intro v1 w6 hown1 hgrow1 _
                  have hb6 := Hid.mk (own_step HO.out HB.out hgrow1)
                  have HO6 : Hid (w6.ownsRow w5.heap.size 23 3 v1 (k + (m + 1)) (cellsT (glue T k T') (k + (m + 1)))) := by
                    show w6.ownsRow w5.heap.size 23 3 v1 (k + (m + 1)) (cellsT (glue T k T') (k + (m + 1)))
                    rw [← Nat.add_assoc, cellsT, glue_r]; exact hown1
                  clear hown1 hgrow1 HO HB
                  go_wp2
                  go_roundw
                  case rel => exact ⟨m + 1, by omega, by go_num, HO6.out, hb6.out⟩
                  case measure => simp [intOf]; omega
                · obtain rfl : m = len' := by omega
                  obtain ⟨aA, bA, cA, rfl, hnA, htA⟩ := tat_of_owns HO.out
                  have HTA := Hid.mk htA
                  have HNA := Hid.mk hnA
                  clear hnA htA
                  have HK6 := Hid.mk (HK5.out.below HB.out)
                  have HX6 := Hid.mk (HX5.out.below HB.out)
                  clear HO HB HK5 HX5
                  go_wp2_with fail
                  have hSB : wr.drew.cell? ⟨g, 0, none⟩ = some (.string t.b) ∧ wr.drew.cell? ⟨g, 1, none⟩ = some (.string t.a) ∧ wr.drew.cell? ⟨g, 2, none⟩ = some (.int .i64 t.n) := HX6.out.cells
                  go_region_held3 (fun w' => w'.cell? ⟨g, 0, none⟩ = some (.string t.b) ∧ w'.cell? ⟨g, 1, none⟩ = some (.string t.a) ∧ w'.cell? ⟨g, 2, none⟩ = some (.int .i64 t.n)) (first | assumption | fail)
                    (first
                      | (go_at_call 14; refine (targets_any aA bA 0 (k + m) cA (glue T k T') _ (by omega) HNA.out (HTA.out.drewN 1)).mono ?_; rintro e w7 ⟨⟨a7, b7, off7, c7, rfl, ht7⟩, hb7⟩; have HT7 := Hid.mk ht7; clear ht7; have HK7 := Hid.mk (HK6.out.below (undrew hb7)); have HX7 := Hid.mk (HX6.out.below (undrew hb7)); have hS7 := HX7.out.cells; clear hb7)
                      | (go_at_call 12; refine (zzmismatch_any t a7 b7 off7 (k + m) c7 (glue T k T') _ (by omega) HT7.out).mono ?_; rintro e w8 ⟨rfl, hb8⟩; have HK8 := Hid.mk (HK7.out.below hb8); have HX8 := Hid.mk (HX7.out.below hb8); have hS8 := HX8.out.cells; clear hb8))
                  clear hS7 hS8 HK7 HX7 HK6 HX6 HT7 hSB HTA HNA
                  generalize hY : mis (mmB (glue T k T') t (k + m)) (mmA (glue T k T') t (k + m)) = Y
                  have HY := Hid.mk hY
                  clear hY
                  have hmk := run_make_0n (P := Try.prog) 24 23 _ 3 40 Try.underlying24 Try.info23 ((k : Int) + 1) (k + 1) (by omega) (by omega) (by omega)
                  go_wp2_with fail
                  clear hmk
                  go_loopw [13, 14] (fun v i wx => ∃ j : Nat, j ≤ k ∧ i = .int .i64 j ∧ wx.ownsRow w8.heap.size 23 3 v j (cellsT (glue T k (fun _ => t)) j) ∧ Below w8.heap.size w8 wx) (fun _ i _ => k - (intOf i).toNat)
                  case atStart => exact ⟨0, Nat.zero_le _, rfl, World.ownsRow_made _ _ _ (Nat.le_refl _) (by unfold maxLen; omega) (size_madeCells _ _), (Below.refl _ _).alloc (Nat.le_refl _) _⟩
                  case round =>
                    obtain ⟨j, hj, rfl, hown, hbel⟩ := hrel
                    have HO := Hid.mk hown
                    have HB := Hid.mk hbel
                    clear hown hbel
                    by_cases hlt3 : j < k
                    · have ht' := (HK8.out.below HB.out).s1
                      have hbl := ht'.lt (by omega)
                      have hc0 := ht'.c0 j hlt3
                      have hc1 := ht'.c1 j hlt3
                      have hc2 := ht'.c2 j hlt3
                      have ha := ht'.ad (by omega)
                      subst ha
                      clear ht'
                      go_wp2_with (at_builtin; refine wpList_append_own _ rfl _ _ 24 rfl w8.heap.size 23 i0 _ 3 40 Try.underlying24 hHi.out hHz0.out hHz1.out hHz2.out rfl (by decide) _ _ _ rfl (HO.out.alloc _) ⟨wr.heap.size, 0, none⟩ 1 1 [.string (T j).b, .string (T j).a, .int .i64 (T j).n] rfl rfl (cell_three_new _ _ _ _ _) (one_three _) (by unfold maxLen; omega) (by omega) (by have := HB.out.size; simp; omega) ?_)
                      intro v1 w9 hown1 hgrow1 _
                      have hb9 := Hid.mk (own_step HO.out HB.out hgrow1)
                      have HO9 : Hid (w9.ownsRow w8.heap.size 23 3 v1 (j + 1) (cellsT (glue T k (fun _ => t)) (j + 1))) := by
                        show w9.ownsRow w8.heap.size 23 3 v1 (j + 1) (cellsT (glue T k (fun _ => t)) (j + 1))
                        rw [cellsT, glue_l _ _ _ _ hlt3]; exact hown1
                      clear hown1 hgrow1 HO HB
                      go_wp2
                      go_roundw
                      case rel => exact ⟨j + 1, by omega, by go_num, HO9.out, hb9.out⟩
                      case measure => simp [intOf]; omega
                    · obtain rfl : j = k := by omega
                      have HK9 := Hid.mk (HK8.out.below HB.out)
                      have HX9 := Hid.mk (HX8.out.below HB.out)
                      have hb0 := HK9.out.box.c0
                      have hb1 := HK9.out.box.c1
                      have hb2 := HK9.out.box.c2
                      go_wp2_with (at_builtin; refine wpList_append_own _ rfl _ _ 24 rfl w8.heap.size 23 i0 _ 3 40 Try.underlying24 hHi.out hHz0.out hHz1.out hHz2.out rfl (by decide) _ _ _ rfl (HO.out.alloc _) ⟨wr.heap.size, 0, none⟩ 1 1 [.string t.b, .string t.a, .int .i64 t.n] rfl rfl (cell_three_new _ _ _ _ _) (one_three _) (by unfold maxLen; omega) (by omega) (by have := HB.out.size; simp; omega) ?_)
                      clear hb0 hb1 hb2
                      intro v1 w9 hown1 hgrow1 _
                      have HB9 := Hid.mk (own_step HO.out HB.out hgrow1)
                      have HO9 : Hid (w9.ownsRow w8.heap.size 23 3 v1 (j + 1) (cellsT (glue T j (fun _ => t)) (j + 1))) := by
                        show w9.ownsRow w8.heap.size 23 3 v1 (j + 1) (cellsT (glue T j (fun _ => t)) (j + 1))
                        have e0 : glue T j (fun _ => t) j = t := glue_r T j (fun _ => t) 0
                        rw [cellsT, e0]; exact hown1
                      clear hown1 hgrow1 HO HB HK9 HX9
                      obtain ⟨aS, bS, cS, rfl, hnS, htS⟩ := tat_of_owns HO9.out
                      have HTS := Hid.mk htS
                      have HNS := Hid.mk hnS
                      clear hnS htS
                      have HK9 := Hid.mk (HK8.out.below HB9.out)
                      have HX9 := Hid.mk (HX8.out.below HB9.out)
                      clear HO9 HB9 HK8 HX8 hHi hHz0 hHz1 hHz2
                      go_wp2_with fail
                      have hSB : w9.drew.cell? ⟨g, 0, none⟩ = some (.string t.b) ∧ w9.drew.cell? ⟨g, 1, none⟩ = some (.string t.a) ∧ w9.drew.cell? ⟨g, 2, none⟩ = some (.int .i64 t.n) := HX9.out.cells
                      go_region_held3 (fun w' => w'.cell? ⟨g, 0, none⟩ = some (.string t.b) ∧ w'.cell? ⟨g, 1, none⟩ = some (.string t.a) ∧ w'.cell? ⟨g, 2, none⟩ = some (.int .i64 t.n)) (first | assumption | fail)
                        (first
                          | (go_at_call 14; refine (targets_any aS bS 0 (j + 1) cS (glue T j (fun _ => t)) _ (by omega) HNS.out (HTS.out.drewN 1)).mono ?_; rintro e w10 ⟨⟨a7, b7, off7, c7, rfl, ht7⟩, hb7⟩; have HT7 := Hid.mk ht7; clear ht7; have HK10 := Hid.mk (HK9.out.below (undrew hb7)); have HX10 := Hid.mk (HX9.out.below (undrew hb7)); have hS7 := HX10.out.cells; clear hb7)
                          | (go_at_call 12; refine (zzmismatch_any t a7 b7 off7 (j + 1) c7 (glue T j (fun _ => t)) _ (by omega) HT7.out).mono ?_; rintro e w11 ⟨rfl, hb8⟩; have HK11 := Hid.mk (HK10.out.below hb8); have HX11 := Hid.mk (HX10.out.below hb8); have hS8 := HX11.out.cells; clear hb8))
                      clear hS7 hS8 HK10 HX10 HK9 HX9 HT7 hSB HTS HNS
                      generalize hZ : mis (mmB (glue T j (fun _ => t)) t (j + 1)) (mmA (glue T j (fun _ => t)) t (j + 1)) = Z
                      have HZ := Hid.mk hZ
                      clear hZ
                      have hmk := run_make_n (P := Try.prog) 24 23 _ 3 40 Try.underlying24 Try.info23 j (by omega) (by omega)
                      go_wp2_with fail
                      clear hmk
                      go_loopw [17] (fun i wx => ∃ (m' : Nat) (f : Nat → Value), m' ≤ j ∧ i = .int .i64 m' ∧ wx.rowIs w11.heap.size 23 (j * 3) f ∧ Below w11.heap.size w11 wx ∧ TRow f m' (fun i => T (j - 1 - i))) (fun i _ => j - (intOf i).toNat)
                      case atStart => exact ⟨0, _, Nat.zero_le _, rfl, rowIs_made_n _ _ _ _, (Below.refl _ _).alloc (Nat.le_refl _) _, TRow.zero _ _⟩
                      case round =>
                        obtain ⟨m', f, hm', rfl, hrow, hbel, hf⟩ := hrel
                        have HR := Hid.mk hrow
                        have HB := Hid.mk hbel
                        have HF := Hid.mk hf
                        clear hrow hbel hf
                        by_cases hlt4 : m' < j
                        · have ht' := (HK11.out.below HB.out).s1
                          have hbl := ht'.lt (by omega)
                          have hc0 := ht'.c0 (j - 1 - m') (by omega)
                          have hc1 := ht'.c1 (j - 1 - m') (by omega)
                          have hc2 := ht'.c2 (j - 1 - m') (by omega)
                          have ha := ht'.ad (by omega)
                          subst ha
                          clear ht'
                          have hsz := HR.out.lt
                          have hz1 := HR.out.cell (i := m' * 3) (by omega)
                          have hz2 := HR.out.cell (i := m' * 3 + 1) (by omega)
                          have hz3 := HR.out.cell (i := m' * 3 + 2) (by omega)
                          have hfz := HR.out.frozen
                          have ei : ((j : Int) - 1 - (m' : Int)).toNat = j - 1 - m' := by omega
                          go_wp2
                          go_roundw
                          case rel => exact ⟨m' + 1, _, by omega, by go_num, rowIs_set3 HR.out _ _ _ _, ((HB.out.setCell (Nat.le_refl _) _).setCell (Nat.le_refl _) _).setCell (Nat.le_refl _) _, HF.out.step⟩
                          case measure => simp [intOf]; omega
                        · obtain rfl : m' = j := by omega
                          have HTR := Hid.mk (TAt.ofRow HR.out HF.out)
                          have HNR : Hid (some (⟨w11.heap.size, 0, none⟩ : Addr) = none → m' = 0) := fun e => by cases e
                          have HK12 := Hid.mk (HK11.out.below HB.out)
                          have HX12 := Hid.mk (HX11.out.below HB.out)
                          clear HR HB HF HK11 HX11
                          go_wp2_with fail
                          have hSB : wr.drew.cell? ⟨g, 0, none⟩ = some (.string t.b) ∧ wr.drew.cell? ⟨g, 1, none⟩ = some (.string t.a) ∧ wr.drew.cell? ⟨g, 2, none⟩ = some (.int .i64 t.n) := HX12.out.cells
                          go_region_held3 (fun w' => w'.cell? ⟨g, 0, none⟩ = some (.string t.b) ∧ w'.cell? ⟨g, 1, none⟩ = some (.string t.a) ∧ w'.cell? ⟨g, 2, none⟩ = some (.int .i64 t.n)) (first | assumption | fail)
                            (first
                              | (go_at_call 14; refine (targets_any _ w11.heap.size 0 m' m' (fun i => T (m' - 1 - i)) _ (by omega) HNR.out (HTR.out.drewN 1)).mono ?_; rintro e w13 ⟨⟨a7, b7, off7, c7, rfl, ht7⟩, hb7⟩; have HT7 := Hid.mk ht7; clear ht7; have HK13 := Hid.mk (HK12.out.below (undrew hb7)); have HX13 := Hid.mk (HX12.out.below (undrew hb7)); have hS7 := HX13.out.cells; clear hb7)
                              | (go_at_call 12; refine (zzmismatch_any t a7 b7 off7 m' c7 (fun i => T (m' - 1 - i)) _ (by omega) HT7.out).mono ?_; rintro e w14 ⟨rfl, hb8⟩; have HK14 := Hid.mk (HK13.out.below hb8); have HX14 := Hid.mk (HX13.out.below hb8); have hS8 := HX14.out.cells; clear hb8))
                          clear hS7 hS8 HK13 HX13 HK12 HX12 HT7 hSB HTR HNR HX14
                          obtain ⟨l1, l2, l3, l4⟩ := law_mono T T' t m' m
                          rw [l4]
                          rw [HX.out] at l1 l2 ⊢
                          rw [HY.out] at l2
                          rw [HZ.out] at l3
                          subst l3
                          have l5 : (warpS.toList == [119, 97, 114, 112, 45, 115, 105, 122, 101, 45, 109, 105, 115, 109, 97, 116, 99, 104]) = true := by simp [warpS]
                          clear l4 HX HY HZ
                          go_wp2_with (go_at_call 17; refine (rank_any _ _).mono ?_; rintro e w' ⟨rfl, rfl⟩)
                          go_ret
                          exact ⟨rfl, HK14.out.bel⟩

end Go.Proofs.Qxb6605253a
