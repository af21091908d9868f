import Derived.Test.Qxb6600511aBase
import Derived.Laws.BitsAllLaws
namespace Go.Proofs.Qxb6600511a
open Go.RowKit

/-- n zero bytes. -/
def mkC (n : Nat) : Array Value := madeCells #[.int .u8 0] n
theorem mkC_size (n : Nat) : (mkC n).size = n * 1 := by rw [mkC, size_madeCells, Nat.mul_one]
/-- make([]byte, 0, n). -/
theorem make_y (c : Int) (n : Nat) (hc : c = (n : Int)) (hb : n ≤ 281474976710656) (w : World) :
    (Instr.makeSlice 22 (.int .i64 0) (.int .i64 c)).run Try.prog w = .ok (.slice (some ⟨w.heap.size, 0, none⟩) 0 n) (w.alloc (.cells (mkC n) 5)) := by
  obtain ⟨i, hi, hz, hs, hby⟩ := info_parts Try.info5
  subst hc
  have h := run_make (P := Try.prog) w 22 5 i _ Try.underlying22 hi hz .i64 .i64 0 n (by omega) (by omega) (by rw [hby]; omega) (by omega)
  rw [hs] at h
  simpa [mkC, Value.cells] using h
theorem grown_of_below {w w' : World} (h : Below w.heap.size w w') : w.grownBy w' none := ⟨h.os, h.tape, h.output, h.size, fun k hk _ => h.block k hk⟩
theorem own_stepW {wm wr W w1 : World} {e : TypeId} {size : Nat} {v : Value} {n : Nat} {xs : List Value} (hown : wr.ownsRow wm.heap.size e size v n xs) (hbel : Below wm.heap.size wm wr) (hW : Below wr.heap.size wr W) (hg : W.grownBy w1 v.ownBlock) : Below wm.heap.size wm w1 :=
  (hbel.trans (hW.mono hbel.size)).grown hg (Nat.le_trans hbel.size hW.size) (fun k hk => (hown.lt k hk).1)
theorem own_below {wr W : World} {base : Nat} {e : TypeId} {size : Nat} {v : Value} {n : Nat} {xs : List Value} (hown : wr.ownsRow base e size v n xs) (hW : Below wr.heap.size wr W) : W.ownsRow base e size v n xs :=
  hown.kept (grown_of_below hW) (by cases v.ownBlock <;> simp)
theorem cell_one_at (w : World) (n : Nat) (hn : n = w.heap.size) (v0 : Value) (ty : TypeId) : ∀ j u, [v0][j]? = some u → (w.alloc (.cells #[v0] ty)).cell? ((⟨n, 0, none⟩ : Addr).add j) = some u := by
  subst hn
  intro j u hj
  match j, hj with
  | 0, hj => simp at hj; subst hj; simp [Addr.add]
theorem cell_two_at (w : World) (n : Nat) (hn : n = w.heap.size) (v0 v1 : Value) (ty : TypeId) : ∀ j u, [v0, v1][j]? = some u → (w.alloc (.cells #[v0, v1] ty)).cell? ((⟨n, 0, none⟩ : Addr).add j) = some u := by
  subst hn
  intro j u hj
  match j, hj with
  | 0, hj => simp at hj; subst hj; simp [Addr.add]
  | 1, hj => simp at hj; subst hj; simp [Addr.add]
theorem one_int (k : IntKind) (x : Int) : ∀ u ∈ [Value.int k x], u.oneCell' = true := by
  intro u hu; simp at hu; subst hu; rfl
theorem two_int (k : IntKind) (x y : Int) : ∀ u ∈ [Value.int k x, .int k y], u.oneCell' = true := by
  intro u hu; simp at hu; rcases hu with rfl | rfl <;> rfl

theorem grown_refl (w : World) (row : Option Nat) : w.grownBy w row := ⟨rfl, rfl, rfl, Nat.le_refl _, fun _ _ _ => rfl⟩
/-- 'append(s, x...)' onto a slice of the call's own, x nil or not. -/
theorem wpList_append_opt {P : Program} (w : World) {ops : Array Oper} {rest : List Oper} {o : Oper} {a : Act} {Q : Exit → Act → World → Prop} (hgd : o.guard = none) (s x : Operand) (t : TypeId)
    (ho : o.op = .call { callee := .builtin .append, args := #[s, x], argTypes := #[t, t] })
    (base : Nat) (e : TypeId) (i : TypeInfo) (z : Value) (size bytes : Nat) (ht : P.underlying t = some (.slice e)) (hi : P.info? e = some i) (hz : i.zero = some z)
    (hsize : i.size = size) (hby : i.bytes = bytes) (hzs : z.cells.size = size) (hsz : 0 < size)
    (v : Value) (n : Nat) (xs : List Value) (hs : a.eval s = v) (hown : w.ownsRow base e size v n xs)
    (ao : Option Addr) (m c : Nat) (news : List Value) (hx : a.eval x = .slice ao m c) (hl : news.length = m * size) (hnone : ao = none → m = 0 ∧ c = 0) (hnews : ∀ ad, ao = some ad → ∀ j u, news[j]? = some u → w.cell? (ad.add j) = some u) (h1 : ∀ u ∈ news, u.oneCell' = true)
    (h63 : n + m ≤ maxLen) (hbytes : (n + m) * bytes ≤ 140737488355328) (hbase : base ≤ w.heap.size)
    (h : ∀ v' w', w'.ownsRow base e size v' (n + m) (xs ++ news) → w.grownBy w' v.ownBlock → (v ≠ .slice none 0 0 → v' ≠ .slice none 0 0) → wpList P ops Q rest (a.put o.dst v') w') : wpList P ops Q (o :: rest) a w := by
  cases ao with
  | some ad => exact wpList_append_own w hgd s x t ho base e i z size bytes ht hi hz hsize hby hzs hsz v n xs hs hown ad m c news hx hl (hnews ad rfl) h1 h63 hbytes hbase (fun v' w' h2 h3 h4 => h v' w' h2 h3 (fun hv hv' => hv (h4.1 hv').1))
  | none =>
    obtain ⟨rfl, rfl⟩ := hnone rfl
    have hnews0 : news = [] := List.eq_nil_of_length_eq_zero (by simpa using hl)
    subst hnews0
    refine wpList_plain hgd fun K hK' => ?_
    have hrun := run_append_owned_none (P := P) w base t o.type e i size ht hi _ n xs hown
    unfold Oper.wp
    simp [execOp, ho, resolve, invoke, builtin, hs, hx, hrun, Result.andThen]
    exact hK' _ _ (h v w (by simpa using hown) (grown_refl _ _) (fun hv => hv))
/-- Bytes as cells. -/
def ys (l : List Int) : List Value := l.map (Value.int .u8)

/-- A slice of bytes, as cells for an append. -/
def yl (Z : Nat → Int) (n : Nat) : List Int := (List.range n).map Z
theorem cells_opt {w : World} {a : Option Addr} {b n : Nat} {Z : Nat → Int} (h : BAt w a b 0 n Z) (hs : a ≠ none → a = some ⟨b, 0, none⟩) : ∀ ad, a = some ad → ∀ j u, (ys (yl Z n))[j]? = some u → w.cell? (ad.add j) = some u := by
  intro ad had j u hu
  have hj : j < n := by
    have := (List.getElem?_eq_some_iff.1 hu).1
    simpa [yl, ys] using this
  have e := hs (by rw [had]; simp)
  rw [had] at e
  obtain rfl := Option.some.inj e
  have hc := h.cell j hj
  rw [Nat.zero_add] at hc
  have hadd : (⟨b, 0, none⟩ : Addr).add j = ⟨b, j, none⟩ := by unfold Addr.add; split <;> simp_all
  rw [hadd, hc]
  simpa [yl, ys, hj] using hu

theorem ys_one (l : List Int) : ∀ u ∈ ys l, u.oneCell' = true := by
  intro u hu
  obtain ⟨x, _, rfl⟩ := List.mem_map.1 hu
  rfl
/-- The k-th digit of u, and its case. -/
def dg (u : Int) : Nat → Int
  | 0 => u / 4096 % 16
  | 1 => u / 256 % 16
  | 2 => u / 16 % 16
  | _ => u % 16
theorem and15 (x : Int) (h0 : 0 ≤ x) (h1 : x < 65536) : bits .and .u16 x 15 % 256 = x % 16 := by
  rw [u16_and x 15 h0 h1 (by decide) (by decide)]
  have e : x.toNat &&& (15 : Int).toNat = x.toNat % 16 := Nat.and_two_pow_sub_one_eq_mod x.toNat 4
  rw [e]
  omega
theorem and1 (x : Int) (h0 : 0 ≤ x) (h1 : x < 256) : (bits .and .u8 x 1 == 1) = (x % 2 == 1) := by
  rw [u8_and x 1 h0 h1 (by decide) (by decide)]
  have e : x.toNat &&& (1 : Int).toNat = x.toNat % 2 := Nat.and_two_pow_sub_one_eq_mod x.toNat 1
  rw [e]
  have e2 : ((x.toNat % 2 : Nat) : Int) = x % 2 := by omega
  rw [e2]

/-- The k-th bit of m. -/
def bt (m : Int) : Nat → Bool
  | 0 => m % 2 == 1
  | 1 => m / 2 % 2 == 1
  | 2 => m / 4 % 2 == 1
  | _ => m / 8 % 2 == 1
/-- What has been written behind k digits. -/
def pre (u m : Int) : Nat → List Int
  | 0 => [92, 117]
  | k + 1 => pre u m k ++ [hexD (dg u k) (bt m k)]

theorem hv_hexD (d : Int) (up : Bool) (h0 : 0 ≤ d) (h1 : d < 16) : hv (hexD d up) = d := by
  unfold hexD
  split
  · rw [hv_d (by omega) (by omega)]; omega
  · split
    · rw [hv_u (by omega) (by omega)]; omega
    · rw [hv_l (by omega) (by omega)]; omega
/-- What lies behind the backslash and the u. -/
def Zb (u m : Int) (i : Nat) : Int := hexD (dg u (i - 2)) (bt m (i - 2))
theorem dg_bd (u : Int) (k : Nat) : 0 ≤ dg u k ∧ dg u k < 16 := by
  unfold dg; split <;> omega

theorem Zb_ok (u m : Int) (i : Nat) : 0 ≤ hv (Zb u m (2 + i)) := by
  unfold Zb
  rw [hv_hexD _ _ (dg_bd u _).1 (dg_bd u _).2]
  exact (dg_bd u _).1
theorem Zb_back (u m : Int) (h0 : 0 ≤ u) (h1 : u ≤ 65535) : rF (Zb u m) 4 = u := by
  have e : ∀ k, hv (Zb u m (2 + k)) = dg u k := fun k => by
    unfold Zb
    rw [hv_hexD _ _ (dg_bd u _).1 (dg_bd u _).2, Nat.add_sub_cancel_left]
  simp only [rF, e, dg]
  omega
theorem pre_cells {w : World} {base g cap n : Nat} {u m : Int} {l : List Value} (h : w.ownsRow base 5 1 (.slice (some ⟨g, 0, none⟩) n cap) n (ys (pre u m 4) ++ l)) (hn : 6 ≤ n) :
    w.cell? ⟨g, 0, none⟩ = some (.int .u8 92) ∧ w.cell? ⟨g, 0 + 1, none⟩ = some (.int .u8 117) ∧ ∀ i, i < 4 → w.cell? ⟨g, 0 + (2 + i), none⟩ = some (.int .u8 (Zb u m (2 + i))) := by
  have hc : ∀ j, j < n * 1 → w.cell? ⟨g, j, none⟩ = (ys (pre u m 4) ++ l)[j]? := fun j hj => World.ownsRow.cellAt h j hj
  refine ⟨by rw [hc 0 (by omega)]; rfl, by rw [hc (0 + 1) (by omega)]; rfl, fun i hi => ?_⟩
  rw [hc _ (by omega)]
  match i, hi with
  | 0, _ => rfl
  | 1, _ => rfl
  | 2, _ => rfl
  | 3, _ => rfl

set_option maxRecDepth 4000 in
set_option maxHeartbeats 1000000 in
theorem invert (u m : Int) (a : Option Addr) (b off len cap : Nat) (Z : Nat → Int) (w : World) (hu0 : 0 ≤ u) (hu1 : u ≤ 65535) (hm0 : 0 ≤ m) (hm1 : m ≤ 255) (hl : len ≤ maxLen) (hn : a = none → len = 0) (ht : BAt w a b off len Z) :
   Calls Try.prog 4 #[.int .u16 u, .int .u8 m, .slice a len cap] w fun e w' => e = .returned (.bool true) ∧ Below w.heap.size w w' := by
  have HT := hid ht
  have HN := hid hn
  clear ht hn
  go_enter Try.func4, Try.ntmps4
  go_wp2_with fail
  refine (bytes12 u m a len cap _ hl).mono ?_
  rintro e w1 ⟨⟨r, rfl⟩, hw1⟩
  subst hw1
  unfold maxLen at hl
  cases r with
  | false =>
    go_wp2
    go_ret
    exact ⟨rfl, Below.refl _ _⟩
  | true =>
    by_cases hlen : 1048576 < len
    · go_wp2
      go_ret
      exact ⟨rfl, Below.refl _ _⟩
    · go_wp2_with fail
      refine (clone_any a b off len cap Z _ (by omega) HN.out HT.out).mono ?_
      rintro e w2 ⟨⟨a2, b2, c2, rfl, hc2, hn2, hs2, ht2⟩, hb2⟩
      have HT2 := hid ht2
      have HS2 := hid hs2
      have HN2 := hid hn2
      have HB2 := hid hb2
      clear ht2 hs2 hn2 hb2 HT HN
      have hL : len ≤ 1048576 := by omega
      clear hlen hl
      have hmk := make_y (6 + (len : Int)) (6 + len) (by omega) (by omega)
      obtain ⟨i0, hi, hz0, hz1, hz2⟩ := info_parts Try.info5
      have hHi := hid hi
      have hHz0 := hid hz0
      have hHz1 := hid hz1
      have hHz2 := hid hz2
      clear hi hz0 hz1 hz2
      go_wp2_with (at_builtin; go_must (refine wpList_append_own _ rfl _ _ 22 rfl w2.heap.size 5 i0 _ 1 1 Try.underlying22 hHi.out hHz0.out hHz1.out hHz2.out rfl (by decide) _ _ [] rfl ((World.ownsRow_made w2 (mkC (6 + len)) (6 + len) (Nat.le_refl _) (by unfold maxLen; omega) (mkC_size _)).alloc _) _ 2 2 [.int .u8 92, .int .u8 117] rfl rfl (cell_two_at _ _ (by simp) _ _ _) (two_int _ _ _) (by unfold maxLen; omega) (by omega) (by simp; omega) ?_))
      intro v1 w3 hown1 hgrow1 _
      have HB3 : Hid (Below w2.heap.size w2 w3) := (((Below.refl w2.heap.size w2).alloc (Nat.le_refl _) _).alloc (by simp) _).grown hgrow1 (by simp; omega) (fun k hk => by simp [Value.ownBlock] at hk; omega)
      have HO3 := hid hown1
      clear hown1 hgrow1 hmk
      go_wp2_with fail
      go_loopw [7, 8, 9] (fun v i d wr => ∃ k : Nat, k ≤ 4 ∧ i = .int .i64 k ∧ wr.ownsRow w2.heap.size 5 1 v (2 + k) (ys (pre u m k)) ∧ Below w2.heap.size w2 wr) (fun _ i _ _ => 4 - (intOf i).toNat)
      case atStart => exact ⟨0, by omega, rfl, HO3.out, HB3.out⟩
      case round =>
        clear HO3 HB3
        obtain ⟨k, hk, rfl, hown, hbel⟩ := hrel
        have HO := hid hown
        have HB := hid hbel
        clear hown hbel
        by_cases hlt : k < 4
        · have hdg := dg_bd u k
          match k, hlt with
          | 0, _ =>
            have e1 : bits .and .u16 (u / 4096) 15 % 256 = dg u 0 := and15 _ (by omega) (by omega)
            have e2 : (bits .and .u8 (m) 1 == 1) = bt m 0 := and1 _ (by omega) (by omega)
            go_wp2_with (first | (go_at_call 13; refine (hexDigit_any (dg u 0) (bt m 0) _ hdg.1 hdg.2).mono ?_; rintro e w' ⟨rfl, rfl⟩) | (at_builtin; go_must (refine wpList_append_own _ rfl _ _ 22 rfl w2.heap.size 5 i0 _ 1 1 Try.underlying22 hHi.out hHz0.out hHz1.out hHz2.out rfl (by decide) _ _ _ rfl (HO.out.alloc _) _ 1 1 [.int .u8 (hexD (dg u 0) (bt m 0))] rfl rfl (cell_one_at _ _ rfl _ _) (one_int _ _) (by unfold maxLen; omega) (by omega) (by have := HB.out.size; simp; omega) ?_)))
            clear e1 e2
            intro v1 w4 hown1 hgrow1 _
            have HB4 := hid (own_stepW HO.out HB.out ((Below.refl _ _).alloc (Nat.le_refl _) _) hgrow1)
            have HO4 : Hid (w4.ownsRow w2.heap.size 5 1 v1 (2 + (0 + 1)) (ys (pre u m (0 + 1)))) := by
              show w4.ownsRow w2.heap.size 5 1 v1 (2 + (0 + 1)) (ys (pre u m (0 + 1)))
              rw [pre, ys, List.map_append]; exact hown1
            clear hown1 hgrow1 HO HB
            go_wp2
            go_roundw
            case rel => exact ⟨0 + 1, by omega, by go_num, HO4.out, HB4.out⟩
            case measure => simp [intOf]
          | 1, _ =>
            have e1 : bits .and .u16 (u / 256) 15 % 256 = dg u 1 := and15 _ (by omega) (by omega)
            have e2 : (bits .and .u8 (m / 2) 1 == 1) = bt m 1 := and1 _ (by omega) (by omega)
            go_wp2_with (first | (go_at_call 13; refine (hexDigit_any (dg u 1) (bt m 1) _ hdg.1 hdg.2).mono ?_; rintro e w' ⟨rfl, rfl⟩) | (at_builtin; go_must (refine wpList_append_own _ rfl _ _ 22 rfl w2.heap.size 5 i0 _ 1 1 Try.underlying22 hHi.out hHz0.out hHz1.out hHz2.out rfl (by decide) _ _ _ rfl (HO.out.alloc _) _ 1 1 [.int .u8 (hexD (dg u 1) (bt m 1))] rfl rfl (cell_one_at _ _ rfl _ _) (one_int _ _) (by unfold maxLen; omega) (by omega) (by have := HB.out.size; simp; omega) ?_)))
            clear e1 e2
            intro v1 w4 hown1 hgrow1 _
            have HB4 := hid (own_stepW HO.out HB.out ((Below.refl _ _).alloc (Nat.le_refl _) _) hgrow1)
            have HO4 : Hid (w4.ownsRow w2.heap.size 5 1 v1 (2 + (1 + 1)) (ys (pre u m (1 + 1)))) := by
              show w4.ownsRow w2.heap.size 5 1 v1 (2 + (1 + 1)) (ys (pre u m (1 + 1)))
              rw [pre, ys, List.map_append]; exact hown1
            clear hown1 hgrow1 HO HB
            go_wp2
            go_roundw
            case rel => exact ⟨1 + 1, by omega, by go_num, HO4.out, HB4.out⟩
            case measure => simp [intOf]
          | 2, _ =>
            have e1 : bits .and .u16 (u / 16) 15 % 256 = dg u 2 := and15 _ (by omega) (by omega)
            have e2 : (bits .and .u8 (m / 4) 1 == 1) = bt m 2 := and1 _ (by omega) (by omega)
            go_wp2_with (first | (go_at_call 13; refine (hexDigit_any (dg u 2) (bt m 2) _ hdg.1 hdg.2).mono ?_; rintro e w' ⟨rfl, rfl⟩) | (at_builtin; go_must (refine wpList_append_own _ rfl _ _ 22 rfl w2.heap.size 5 i0 _ 1 1 Try.underlying22 hHi.out hHz0.out hHz1.out hHz2.out rfl (by decide) _ _ _ rfl (HO.out.alloc _) _ 1 1 [.int .u8 (hexD (dg u 2) (bt m 2))] rfl rfl (cell_one_at _ _ rfl _ _) (one_int _ _) (by unfold maxLen; omega) (by omega) (by have := HB.out.size; simp; omega) ?_)))
            clear e1 e2
            intro v1 w4 hown1 hgrow1 _
            have HB4 := hid (own_stepW HO.out HB.out ((Below.refl _ _).alloc (Nat.le_refl _) _) hgrow1)
            have HO4 : Hid (w4.ownsRow w2.heap.size 5 1 v1 (2 + (2 + 1)) (ys (pre u m (2 + 1)))) := by
              show w4.ownsRow w2.heap.size 5 1 v1 (2 + (2 + 1)) (ys (pre u m (2 + 1)))
              rw [pre, ys, List.map_append]; exact hown1
            clear hown1 hgrow1 HO HB
            go_wp2
            go_roundw
            case rel => exact ⟨2 + 1, by omega, by go_num, HO4.out, HB4.out⟩
            case measure => simp [intOf]
          | 3, _ =>
            have e1 : bits .and .u16 (u) 15 % 256 = dg u 3 := and15 _ (by omega) (by omega)
            have e2 : (bits .and .u8 (m / 8) 1 == 1) = bt m 3 := and1 _ (by omega) (by omega)
            go_wp2_with (first | (go_at_call 13; refine (hexDigit_any (dg u 3) (bt m 3) _ hdg.1 hdg.2).mono ?_; rintro e w' ⟨rfl, rfl⟩) | (at_builtin; go_must (refine wpList_append_own _ rfl _ _ 22 rfl w2.heap.size 5 i0 _ 1 1 Try.underlying22 hHi.out hHz0.out hHz1.out hHz2.out rfl (by decide) _ _ _ rfl (HO.out.alloc _) _ 1 1 [.int .u8 (hexD (dg u 3) (bt m 3))] rfl rfl (cell_one_at _ _ rfl _ _) (one_int _ _) (by unfold maxLen; omega) (by omega) (by have := HB.out.size; simp; omega) ?_)))
            clear e1 e2
            intro v1 w4 hown1 hgrow1 _
            have HB4 := hid (own_stepW HO.out HB.out ((Below.refl _ _).alloc (Nat.le_refl _) _) hgrow1)
            have HO4 : Hid (w4.ownsRow w2.heap.size 5 1 v1 (2 + (3 + 1)) (ys (pre u m (3 + 1)))) := by
              show w4.ownsRow w2.heap.size 5 1 v1 (2 + (3 + 1)) (ys (pre u m (3 + 1)))
              rw [pre, ys, List.map_append]; exact hown1
            clear hown1 hgrow1 HO HB
            go_wp2
            go_roundw
            case rel => exact ⟨3 + 1, by omega, by go_num, HO4.out, HB4.out⟩
            case measure => simp [intOf]
        · obtain rfl : k = 4 := by omega
          have HT3 := hid (HT2.out.below HB.out)
          go_wp2_with (at_builtin; go_must (refine wpList_append_opt _ rfl _ _ 22 rfl w2.heap.size 5 i0 _ 1 1 Try.underlying22 hHi.out hHz0.out hHz1.out hHz2.out rfl (by decide) _ _ _ rfl HO.out a2 len c2 (ys (yl Z len)) rfl (by simp [ys, yl]) HN2.out (cells_opt HT3.out HS2.out) (ys_one _) (by unfold maxLen; omega) (by omega) HB.out.size ?_))
          intro v5 w5 hown5 hgrow5 _
          have HB5 := hid (own_stepW HO.out HB.out (Below.refl _ _) hgrow5)
          rcases hown5.2 with ⟨_, h0⟩ | ⟨g, cap5, cur, rfl, _, _, hcap, _⟩
          · exact absurd h0 (by omega)
          obtain ⟨hp0, hp1, hp2⟩ := pre_cells hown5 (by omega)
          have HP0 := hid hp0
          have HP1 := hid hp1
          have HP2 := hid hp2
          clear hp0 hp1 hp2 hown5 hgrow5 HO HB
          have hback := Zb_back u m hu0 hu1
          go_wp2_with fail
          refine (zzhexEscape_any g 0 (6 + len) cap5 (Zb u m) _ (by omega) (by omega) hcap HP0.out HP1.out HP2.out (fun i _ => Zb_ok u m i)).mono ?_
          rintro e w6 ⟨rfl, rfl⟩
          rw [hback]
          go_wp2
          go_ret
          exact ⟨rfl, HB2.out.trans (HB5.out.mono HB2.out.size)⟩

end Go.Proofs.Qxb6600511a
