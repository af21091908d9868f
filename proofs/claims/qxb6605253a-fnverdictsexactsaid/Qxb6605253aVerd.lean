import Derived.Test.Qxb6605253aMap
namespace Go.Proofs.Qxb6605253a
open Go.RowKit

theorem Try.info57 : (Try.prog.info? 57).map (fun i => (i.zero, i.size, i.bytes)) = some (some (.agg #[.int .i64 0, .string ⟨#[]⟩, .string ⟨#[]⟩, .string ⟨#[]⟩, .int .i64 0, .string ⟨#[]⟩, .string ⟨#[]⟩, .int .i64 0]), 8, 104) := by kernel_rfl

/-- The cells of k verdicts in a row. -/
def cellsV (V : Nat → Vd) : Nat → List Value
  | 0 => []
  | k + 1 => cellsV V k ++ [.int .i64 (V k).i, .string (V k).p, .string (V k).b, .string (V k).a, .int .i64 (V k).n, .string (V k).v, .string (V k).r, .int .i64 (V k).k]
theorem cellsV_len (V : Nat → Vd) (k : Nat) : (cellsV V k).length = k * 8 := by
  induction k with
  | zero => rfl
  | succ k ih => simp [cellsV, ih]; omega
theorem cellsV_at (V : Nat → Vd) (k i j : Nat) (hi : i < k) (hj : j < 8) : (cellsV V k)[i * 8 + j]? = some (vc V i j) := by
  induction k with
  | zero => exact absurd hi (Nat.not_lt_zero _)
  | succ k ih =>
    have hl := cellsV_len V k
    by_cases e : i = k
    · subst e
      rw [cellsV, List.getElem?_append_right (by omega), hl, Nat.add_sub_cancel_left]
      match j, hj with
      | 0, _ => rfl
      | 1, _ => rfl
      | 2, _ => rfl
      | 3, _ => rfl
      | 4, _ => rfl
      | 5, _ => rfl
      | 6, _ => rfl
      | 7, _ => rfl
    · rw [cellsV, List.getElem?_append_left (by omega)]
      exact ih (by omega)

/-- A slice that the call has built, read as verdicts. -/
theorem sat_of_owns {w : World} {base n : Nat} {e : TypeId} {v : Value} {V : Nat → Vd} (h : w.ownsRow base e 8 v n (cellsV V n)) (hv : v ≠ .slice none 0 0) :
    ∃ b c, v = .slice (some ⟨b, 0, none⟩) n c ∧ n ≤ c ∧ SAt w (some ⟨b, 0, none⟩) b 0 n 8 (vc V) := by
  rcases h.2 with ⟨rfl, rfl⟩ | ⟨g, cap, cur, rfl, hb, hg, hn, hm, hs, hx⟩
  · exact absurd rfl hv
  · have hc : ∀ j, j < n * 8 → w.cell? ⟨g, j, none⟩ = (cellsV V n)[j]? := fun j hj => World.ownsRow.cellAt h j hj
    exact ⟨g, cap, rfl, hn, ⟨fun _ => (Array.getElem?_eq_some_iff.1 hg).1, fun _ => rfl, fun i j hi hj => by rw [Nat.zero_add, hc _ (mul_add_lt hi hj)]; exact cellsV_at V n i j hi hj⟩⟩

theorem cell_eight_new (w : World) (v0 v1 v2 v3 v4 v5 v6 v7 : Value) (ty : TypeId) : ∀ j u, [v0, v1, v2, v3, v4, v5, v6, v7][j]? = some u → (w.alloc (.cells #[v0, v1, v2, v3, v4, v5, v6, v7] ty)).cell? ((⟨w.heap.size, 0, none⟩ : Addr).add j) = some u := by
  intro j u hj
  match j, hj with
  | 0, hj => simp at hj; subst hj; simp [Addr.add]
  | 1, hj => simp at hj; subst hj; simp [Addr.add]
  | 2, hj => simp at hj; subst hj; simp [Addr.add]
  | 3, hj => simp at hj; subst hj; simp [Addr.add]
  | 4, hj => simp at hj; subst hj; simp [Addr.add]
  | 5, hj => simp at hj; subst hj; simp [Addr.add]
  | 6, hj => simp at hj; subst hj; simp [Addr.add]
  | 7, hj => simp at hj; subst hj; simp [Addr.add]
theorem cell_three_new' (w : World) (o : Obj) (v0 v1 v2 : Value) (ty : TypeId) (n : Nat) (hn : n = w.heap.size + 1) : ∀ j u, [v0, v1, v2][j]? = some u → ((w.alloc o).alloc (.cells #[v0, v1, v2] ty)).cell? ((⟨n, 0, none⟩ : Addr).add j) = some u := by
  subst hn
  have h := cell_three_new (w.alloc o) v0 v1 v2 ty
  simpa using h
theorem cell_eight_new' (w : World) (n : Nat) (hn : n = w.heap.size) (v0 v1 v2 v3 v4 v5 v6 v7 : Value) (ty : TypeId) : ∀ j u, [v0, v1, v2, v3, v4, v5, v6, v7][j]? = some u → (w.alloc (.cells #[v0, v1, v2, v3, v4, v5, v6, v7] ty)).cell? ((⟨n, 0, none⟩ : Addr).add j) = some u := by
  subst hn
  exact cell_eight_new w v0 v1 v2 v3 v4 v5 v6 v7 ty
theorem own_stepW {wm wr W w1 : World} {e : TypeId} {size : Nat} {v : Value} {n : Nat} {xs : List Value} (hown : wr.ownsRow wm.heap.size e size v n xs) (hbel : Below wm.heap.size wm wr) (hW : Below wr.heap.size wr W) (hg : W.grownBy w1 v.ownBlock) : Below wm.heap.size wm w1 :=
  (hbel.trans (hW.mono hbel.size)).grown hg (Nat.le_trans hbel.size hW.size) (fun k hk => (hown.lt k hk).1)
theorem own_below {wr W : World} {base : Nat} {e : TypeId} {size : Nat} {v : Value} {n : Nat} {xs : List Value} (hown : wr.ownsRow base e size v n xs) (hW : Below wr.heap.size wr W) : W.ownsRow base e size v n xs :=
  hown.kept (grown_of_below hW) (by cases v.ownBlock <;> simp)
theorem one_eight (i n k : Int) (p b a v r : ByteArray) : ∀ u ∈ [Value.int .i64 i, .string p, .string b, .string a, .int .i64 n, .string v, .string r, .int .i64 k], u.oneCell' = true := by
  intro u hu
  simp at hu
  rcases hu with rfl | rfl | rfl | rfl | rfl | rfl | rfl | rfl <;> rfl

def compS : ByteArray := ⟨#[99, 111, 109, 112, 97, 116, 105, 98, 108, 101]⟩
def incS : ByteArray := ⟨#[105, 110, 99, 111, 109, 112, 97, 116, 105, 98, 108, 101]⟩
/-- The verdict on one GPU, its count and its reason given. -/
def vdOf (g : Gpu) (c : Int) (r : ByteArray) : Vd := if c = 0 then ⟨g.i, g.p, g.b, g.a, g.n, incS, r, 0⟩ else ⟨g.i, g.p, g.b, g.a, g.n, compS, ⟨#[]⟩, c⟩
theorem vdOf_z (g : Gpu) (r : ByteArray) {c : Int} (h : c = 0) : vdOf g c r = ⟨g.i, g.p, g.b, g.a, g.n, incS, r, 0⟩ := if_pos h
theorem vdOf_nz (g : Gpu) (r : ByteArray) {c : Int} (h : ¬ c = 0) : vdOf g c r = ⟨g.i, g.p, g.b, g.a, g.n, compS, ⟨#[]⟩, c⟩ := if_neg h
/-- The verdicts, by index. -/
def vds (G : Nat → Gpu) (C : Nat → Cnt) (clen : Nat) (K : Nat → Krn) (klen : Nat) (i : Nat) : Vd :=
  vdOf (G i) (cntF C (G i).t clen) (mis (mmB (fun j => (K j).t) (G i).t klen) (mmA (fun j => (K j).t) (G i).t klen))

/-- It returns a slice of n verdicts that read as V; it is not nil. -/
def RetV (n : Nat) (V : Nat → Vd) (e : Ending) (w' : World) : Prop := ∃ b c, e = .returned (.slice (some ⟨b, 0, none⟩) n c) ∧ n ≤ c ∧ SAt w' (some ⟨b, 0, none⟩) b 0 n 8 (vc V)

theorem MapIs.drew {w : World} {mv : Value} {C : Nat → Cnt} {len : Nat} (h : MapIs w mv C len) : MapIs w.drew mv C len := by
  rcases h with h | ⟨bm, n, e, ho⟩
  · exact .inl h
  · exact .inr ⟨bm, n, e, ho.drew⟩
/-- A boxed GPU. -/
structure BoxG (w : World) (x : Nat) (g : Gpu) : Prop where
  lt : x < w.heap.size
  c0 : w.cell? ⟨x, 0, none⟩ = some (.int .i64 g.i)
  c1 : w.cell? ⟨x, 1, none⟩ = some (.string g.b)
  c2 : w.cell? ⟨x, 2, none⟩ = some (.string g.a)
  c3 : w.cell? ⟨x, 3, none⟩ = some (.int .i64 g.n)
  c4 : w.cell? ⟨x, 4, none⟩ = some (.string g.p)
theorem BoxG.below {w w' : World} {x : Nat} {g : Gpu} (h : BoxG w x g) (hb : Below w.heap.size w w') : BoxG w' x g :=
  ⟨Nat.lt_of_lt_of_le h.lt hb.size, by rw [hb.cell (p := ⟨x, 0, none⟩) h.lt]; exact h.c0, by rw [hb.cell (p := ⟨x, 1, none⟩) h.lt]; exact h.c1, by rw [hb.cell (p := ⟨x, 2, none⟩) h.lt]; exact h.c2,
   by rw [hb.cell (p := ⟨x, 3, none⟩) h.lt]; exact h.c3, by rw [hb.cell (p := ⟨x, 4, none⟩) h.lt]; exact h.c4⟩
/-- A boxed verdict. -/
structure BoxV (w : World) (y : Nat) (v : Vd) : Prop where
  lt : y < w.heap.size
  c0 : w.cell? ⟨y, 0, none⟩ = some (.int .i64 v.i)
  c1 : w.cell? ⟨y, 1, none⟩ = some (.string v.p)
  c2 : w.cell? ⟨y, 2, none⟩ = some (.string v.b)
  c3 : w.cell? ⟨y, 3, none⟩ = some (.string v.a)
  c4 : w.cell? ⟨y, 4, none⟩ = some (.int .i64 v.n)
  c5 : w.cell? ⟨y, 5, none⟩ = some (.string v.v)
  c6 : w.cell? ⟨y, 6, none⟩ = some (.string v.r)
  c7 : w.cell? ⟨y, 7, none⟩ = some (.int .i64 v.k)
  fr : ∀ i, w.frozen? ⟨y, i, none⟩ = false
theorem BoxV.below {w w' : World} {y : Nat} {v : Vd} (h : BoxV w y v) (hb : Below w.heap.size w w') : BoxV w' y v :=
  ⟨Nat.lt_of_lt_of_le h.lt hb.size, by rw [hb.cell (p := ⟨y, 0, none⟩) h.lt]; exact h.c0, by rw [hb.cell (p := ⟨y, 1, none⟩) h.lt]; exact h.c1, by rw [hb.cell (p := ⟨y, 2, none⟩) h.lt]; exact h.c2, by rw [hb.cell (p := ⟨y, 3, none⟩) h.lt]; exact h.c3,
   by rw [hb.cell (p := ⟨y, 4, none⟩) h.lt]; exact h.c4, by rw [hb.cell (p := ⟨y, 5, none⟩) h.lt]; exact h.c5, by rw [hb.cell (p := ⟨y, 6, none⟩) h.lt]; exact h.c6, by rw [hb.cell (p := ⟨y, 7, none⟩) h.lt]; exact h.c7,
   fun i => by rw [hb.frozen (p := ⟨y, i, none⟩) h.lt]; exact h.fr i⟩
theorem frozen_new (w : World) (cs : Array Value) (ty : TypeId) (i : Nat) : (w.alloc (.cells cs ty)).frozen? ⟨w.heap.size, i, none⟩ = false := by simp
theorem BoxV.new (w : World) (v : Vd) : BoxV (w.alloc (.cells #[.int .i64 v.i, .string v.p, .string v.b, .string v.a, .int .i64 v.n, .string v.v, .string v.r, .int .i64 v.k] 57)) w.heap.size v :=
  ⟨by simp, by simp, by simp, by simp, by simp, by simp, by simp, by simp, by simp, frozen_new _ _ _⟩
theorem BoxV.drew {w : World} {y : Nat} {v : Vd} (h : BoxV w y v) : BoxV w.drew y v := ⟨h.lt, h.c0, h.c1, h.c2, h.c3, h.c4, h.c5, h.c6, h.c7, h.fr⟩
/-- What region 11 holds on to. -/
theorem heldV {W : World} {x : Nat} {g : Gpu} {mv : Value} {C : Nat → Cnt} {clen : Nat} (hg : BoxG W x g) (hm : MapIs W mv C clen) (hok : ∀ i, i < clen → TOk (C i).t) (ht : TOk g.t) :
    W.drew.cell? ⟨x, 0, none⟩ = some (.int .i64 g.i) ∧ W.drew.cell? ⟨x, 1, none⟩ = some (.string g.b) ∧ W.drew.cell? ⟨x, 2, none⟩ = some (.string g.a) ∧ W.drew.cell? ⟨x, 3, none⟩ = some (.int .i64 g.n) ∧ W.drew.cell? ⟨x, 4, none⟩ = some (.string g.p) ∧
    (Instr.lookup 48 mv (.agg #[.string g.b, .string g.a, .int .i64 g.n]) false).run Try.prog W.drew = .ok (.int .i64 (cntF C g.t clen)) W.drew :=
  ⟨hg.c0, hg.c1, hg.c2, hg.c3, hg.c4, hm.drew.look hok ht⟩
theorem heldV_alloc {W : World} {x : Nat} {g : Gpu} {mv : Value} {C : Nat → Cnt} {clen : Nat} (hg : BoxG W x g) (hm : MapIs W mv C clen) (hok : ∀ i, i < clen → TOk (C i).t) (ht : TOk g.t) (o : Obj) :
    (W.alloc o).drew.cell? ⟨x, 0, none⟩ = some (.int .i64 g.i) ∧ (W.alloc o).drew.cell? ⟨x, 1, none⟩ = some (.string g.b) ∧ (W.alloc o).drew.cell? ⟨x, 2, none⟩ = some (.string g.a) ∧ (W.alloc o).drew.cell? ⟨x, 3, none⟩ = some (.int .i64 g.n) ∧ (W.alloc o).drew.cell? ⟨x, 4, none⟩ = some (.string g.p) ∧
    (Instr.lookup 48 mv (.agg #[.string g.b, .string g.a, .int .i64 g.n]) false).run Try.prog (W.alloc o).drew = .ok (.int .i64 (cntF C g.t clen)) (W.alloc o).drew :=
  heldV (hg.below ((Below.refl _ _).alloc (Nat.le_refl _) _)) (hm.below ((Below.refl _ _).alloc (Nat.le_refl _) _)) hok ht

set_option maxRecDepth 4000 in
set_option maxHeartbeats 2000000 in
theorem verdicts_any (a : Option Addr) (b off len cap : Nat) (G : Nat → Gpu) (mv : Value) (C : Nat → Cnt) (clen : Nat) (a'' : Option Addr) (b'' off'' klen cap'' : Nat) (K : Nat → Krn) (w : World)
    (hl : len ≤ 1048576) (hkl : klen ≤ 1048576) (ht : SAt w a b off len 6 (gc G)) (hmap : MapIs w mv C clen) (hk : SAt w a'' b'' off'' klen 6 (kc K))
    (hokC : ∀ i, i < clen → TOk (C i).t) (hokG : ∀ i, i < len → TOk (G i).t) :
   Calls Try.prog 40 #[.slice a len cap, mv, .slice a'' klen cap''] w fun e w' => RetV len (vds G C clen K klen) e w' ∧ Below w.heap.size w w' := by
  have HG := hid ht
  have HM := hid hmap
  have HK := hid hk
  have HOC := hid hokC
  have HOG := hid hokG
  clear ht hmap hk hokC hokG
  obtain ⟨i0, hi, hz0, hz1, hz2⟩ := info_parts Try.info30
  have hHi := hid hi
  have hHz0 := hid hz0
  have hHz1 := hid hz1
  have hHz2 := hid hz2
  clear hi hz0 hz1 hz2
  go_enter Try.func40, Try.ntmps40
  go_wp2
  go_loopw [7, 9, 16] (fun v p i wr => ∃ k : Nat, k ≤ klen ∧ i = .int .i64 k ∧ wr.ownsRow w.heap.size 30 3 v k (cellsT (fun j => (K j).t) k) ∧ Below w.heap.size w wr) (fun _ _ i _ => klen - (intOf i).toNat)
  case atStart => exact ⟨0, Nat.zero_le _, rfl, World.ownsRow_nil _ _ _ _, Below.refl _ _⟩
  case round =>
    obtain ⟨k, hk, rfl, hown, hbel⟩ := hrel
    have HO := hid hown
    have HB := hid hbel
    clear hown hbel
    by_cases hlt : k < klen
    · have HK' := hid (HK.out.below HB.out)
      have hcs := krn_cells HK'.out hlt
      have ha := HK'.out.ad (by omega)
      have hbl := HK'.out.lt (by omega)
      subst ha
      go_wp2_with (at_builtin; refine wpList_append_own _ rfl _ _ 32 rfl w.heap.size 30 i0 _ 3 40 Try.underlying32 hHi.out hHz0.out hHz1.out hHz2.out rfl (by decide) _ _ _ rfl ((HO.out.alloc _).alloc _) ⟨wr.heap.size + 1, 0, none⟩ 1 1 [.string (K k).b, .string (K k).a, .int .i64 (K k).n] rfl rfl (cell_three_new' _ _ _ _ _ _ _ rfl) (one_three (K k).t) (by unfold maxLen; omega) (by omega) (by have := HB.out.size; simp; omega) ?_)
      intro v1 w6 hown1 hgrow1 _
      have HB6 := hid (own_stepW HO.out HB.out (((Below.refl _ _).alloc (Nat.le_refl _) _).alloc (by simp) _) hgrow1)
      have HO6 := hid hown1
      clear hown1 hgrow1 HO HB HK' hcs hbl
      go_wp2
      go_roundw
      case rel => exact ⟨k + 1, by omega, by go_num, HO6.out, HB6.out⟩
      case measure => simp [intOf]; omega
    · obtain rfl : k = klen := by omega
      obtain ⟨aT, bT, cT, rfl, hnT, htT⟩ := tat_of_owns HO.out
      have HTT := hid htT
      have HG5 := hid (HG.out.below HB.out)
      have HM5 := hid (HM.out.below HB.out)
      have HB5 := hid HB.out
      clear HO HB HG HM HK htT hHi hHz0 hHz1 hHz2 hnT
      obtain ⟨i1, hi, hz0, hz1, hz2⟩ := info_parts Try.info57
      have hHi := hid hi
      have hHz0 := hid hz0
      have hHz1 := hid hz1
      have hHz2 := hid hz2
      clear hi hz0 hz1 hz2
      obtain ⟨w5, hw5⟩ : ∃ w5, w5 = wr := ⟨_, rfl⟩
      subst hw5
      generalize hV : vds G C clen K k = V
      have HV := hid hV
      clear hV
      go_wp2
      go_loopw [10, 12, 13, 29] (fun v p q i wx => ∃ m : Nat, m ≤ len ∧ i = .int .i64 m ∧ wx.ownsRow w5.heap.size 57 8 v m (cellsV V m) ∧ Hid (v ≠ .slice none 0 0) ∧ Below w5.heap.size w5 wx) (fun _ _ _ i _ => len - (intOf i).toNat)
      case atStart => exact ⟨0, Nat.zero_le _, rfl, World.ownsRow_made _ _ _ (Nat.le_refl _) (Nat.zero_le _) rfl, (by intro h; cases h), (Below.refl _ _).alloc (Nat.le_refl _) _⟩
      case round =>
        obtain ⟨m, hm, rfl, hown, HNN, hbel⟩ := hrel
        have HO := hid hown
        have HB := hid hbel
        clear hown hbel
        by_cases hlt2 : m < len
        · have HG' := hid (HG5.out.below HB.out)
          have hcs := gpu_cells HG'.out hlt2
          have ha := HG'.out.ad (by omega)
          have hbl := HG'.out.lt (by omega)
          have hsz5 := HB.out.size
          subst ha
          go_wp2_with fail
          have HGA : Hid (BoxG (wr.alloc (.cells #[.int .i64 (G m).i, .string (G m).b, .string (G m).a, .int .i64 (G m).n, .string (G m).p, .string (G m).d] 75)) wr.heap.size (G m)) := ⟨by simp, by simp, by simp, by simp, by simp, by simp⟩
          have HbA := hid ((Below.refl wr.heap.size wr).alloc (Nat.le_refl _) (.cells #[.int .i64 (G m).i, .string (G m).b, .string (G m).a, .int .i64 (G m).n, .string (G m).p, .string (G m).d] 75))
          have hsA : (wr.alloc (.cells #[.int .i64 (G m).i, .string (G m).b, .string (G m).a, .int .i64 (G m).n, .string (G m).p, .string (G m).d] 75)).heap.size = wr.heap.size + 1 := by simp
          have HsA := hid hsA
          clear hsA
          have HMA := hid (HM5.out.below (HB.out.trans (HbA.out.mono hsz5)))
          have HOGm := hid (HOG.out m hlt2)
          clear hcs hbl HG'
          generalize wr.alloc (.cells #[.int .i64 (G m).i, .string (G m).b, .string (G m).a, .int .i64 (G m).n, .string (G m).p, .string (G m).d] 75) = wA at *
          have hSA := heldV HGA.out HMA.out HOC.out HOGm.out
          go_region_held3 (fun w' => w'.cell? ⟨wr.heap.size, 0, none⟩ = some (.int .i64 (G m).i) ∧ w'.cell? ⟨wr.heap.size, 1, none⟩ = some (.string (G m).b) ∧ w'.cell? ⟨wr.heap.size, 2, none⟩ = some (.string (G m).a) ∧ w'.cell? ⟨wr.heap.size, 3, none⟩ = some (.int .i64 (G m).n) ∧ w'.cell? ⟨wr.heap.size, 4, none⟩ = some (.string (G m).p) ∧
              (Instr.lookup 48 mv (.agg #[.string (G m).b, .string (G m).a, .int .i64 (G m).n]) false).run Try.prog w' = .ok (.int .i64 (cntF C (G m).t clen)) w') (first | with_reducible assumption | exact heldV_alloc HGA.out HMA.out HOC.out HOGm.out _)
            (fail)
          all_goals
            clear hSA
            have HvV : Hid (BoxV (wA.alloc (.cells #[.int .i64 (G m).i, .string (G m).p, .string (G m).b, .string (G m).a, .int .i64 (G m).n, .string ⟨#[99, 111, 109, 112, 97, 116, 105, 98, 108, 101]⟩, .string ⟨#[]⟩, .int .i64 (cntF C (G m).t clen)] 57)).drew wA.heap.size ⟨(G m).i, (G m).p, (G m).b, (G m).a, (G m).n, compS, ⟨#[]⟩, cntF C (G m).t clen⟩) := (BoxV.new wA ⟨(G m).i, (G m).p, (G m).b, (G m).a, (G m).n, compS, ⟨#[]⟩, cntF C (G m).t clen⟩).drew
            have HbV := hid ((HbA.out.alloc HbA.out.size (.cells #[.int .i64 (G m).i, .string (G m).p, .string (G m).b, .string (G m).a, .int .i64 (G m).n, .string ⟨#[99, 111, 109, 112, 97, 116, 105, 98, 108, 101]⟩, .string ⟨#[]⟩, .int .i64 (cntF C (G m).t clen)] 57)).drew)
            have HgV := hid (HGA.out.below ((Below.refl wA.heap.size wA).alloc (Nat.le_refl _) (.cells #[.int .i64 (G m).i, .string (G m).p, .string (G m).b, .string (G m).a, .int .i64 (G m).n, .string ⟨#[99, 111, 109, 112, 97, 116, 105, 98, 108, 101]⟩, .string ⟨#[]⟩, .int .i64 (cntF C (G m).t clen)] 57)).drew)
            generalize (wA.alloc (.cells #[.int .i64 (G m).i, .string (G m).p, .string (G m).b, .string (G m).a, .int .i64 (G m).n, .string ⟨#[99, 111, 109, 112, 97, 116, 105, 98, 108, 101]⟩, .string ⟨#[]⟩, .int .i64 (cntF C (G m).t clen)] 57)).drew = wV at *
            have hyr : wr.heap.size ≤ wA.heap.size := HbA.out.size
            clear HbA HsA HMA HGA
            generalize wA.heap.size = y at *
            have HVm : Hid (V m = vdOf (G m) (cntF C (G m).t clen) (mis (mmB (fun j => (K j).t) (G m).t k) (mmA (fun j => (K j).t) (G m).t k))) := by rw [← HV.out]; rfl
            generalize hcc : cntF C (G m).t clen = c at *
            clear hcc
            obtain ⟨hy, hy0, hy1, hy2, hy3, hy4, hy5, hy6, hy7, hyf⟩ := HvV.out
            by_cases hc0 : c = 0
            · have HC0 := hid hc0
              have hcz : (c == 0) = true := by simpa using hc0
              clear hc0
              obtain ⟨hg0, hg1, hg2, hg3, hg4, hg5⟩ := HgV.out
              have HTV := hid (HTT.out.below (HB.out.trans (HbV.out.mono hsz5)))
              go_wp2_with fail
              refine (mismatch_any (G m).t aT bT 0 k cT (fun j => (K j).t) _ (by omega) HTV.out).mono ?_
              rintro e w2 ⟨rfl, hb2⟩
              have Hv2 := hid (HvV.out.below hb2)
              have Hb2 := hid (HbV.out.trans (hb2.mono HbV.out.size))
              clear hb2 hg0 hg1 hg2 hg3 hg4 hg5 hy hy0 hy1 hy2 hy3 hy4 hy5 hy6 hy7 hyf HvV HbV HgV HTV
              generalize hR : mis (mmB (fun j => (K j).t) (G m).t k) (mmA (fun j => (K j).t) (G m).t k) = R at *
              clear hR
              obtain ⟨hy, hy0, hy1, hy2, hy3, hy4, hy5, hy6, hy7, hyf⟩ := Hv2.out
              have Hb3 := hid ((Hb2.out.setCell (p := ⟨y, 5, none⟩) hyr (.string incS)).setCell (p := ⟨y, 6, none⟩) hyr (.string R))
              go_wp2_with (at_builtin; refine wpList_append_own _ rfl _ _ 44 rfl w5.heap.size 57 i1 _ 8 104 Try.underlying44 hHi.out hHz0.out hHz1.out hHz2.out rfl (by decide) _ _ _ rfl ((own_below HO.out Hb3.out).alloc _) _ 1 1 [.int .i64 (G m).i, .string (G m).p, .string (G m).b, .string (G m).a, .int .i64 (G m).n, .string incS, .string R, .int .i64 c] rfl rfl (cell_eight_new' _ _ (by simp) _ _ _ _ _ _ _ _ _) (one_eight _ _ _ _ _ _ _ _) (by unfold maxLen; omega) (by omega) (by have := Hb3.out.size; simp; omega) ?_)
              clear Hb2 Hv2
              have HvV := hid hy
              intro v1 w6 hown1 hgrow1 hnn1
              have HB6 := hid (own_stepW HO.out HB.out (Hb3.out.alloc Hb3.out.size _) hgrow1)
              have HO6 : Hid (w6.ownsRow w5.heap.size 57 8 v1 (m + 1) (cellsV V (m + 1))) := by
                show w6.ownsRow w5.heap.size 57 8 v1 (m + 1) (cellsV V (m + 1))
                rw [cellsV, HVm.out, vdOf_z _ _ HC0.out, ← HC0.out]; exact hown1
              have HN6 := hid hnn1
              clear hown1 hgrow1 hnn1 HO HB Hb3 hy hy0 hy1 hy2 hy3 hy4 hy5 hy6 hy7 hyf HvV
              go_wp2
              go_roundw
              case rel => exact ⟨m + 1, by omega, by go_num, HO6.out, HN6, HB6.out⟩
              case measure => simp [intOf]; omega
            · have hcz : (c == 0) = false := by simpa using hc0
              have HC0 := hid hc0
              clear hc0
              go_wp2_with (at_builtin; refine wpList_append_own _ rfl _ _ 44 rfl w5.heap.size 57 i1 _ 8 104 Try.underlying44 hHi.out hHz0.out hHz1.out hHz2.out rfl (by decide) _ _ _ rfl ((own_below HO.out HbV.out).alloc _) _ 1 1 [.int .i64 (G m).i, .string (G m).p, .string (G m).b, .string (G m).a, .int .i64 (G m).n, .string compS, .string ⟨#[]⟩, .int .i64 c] rfl rfl (cell_eight_new' _ _ (by simp) _ _ _ _ _ _ _ _ _) (one_eight _ _ _ _ _ _ _ _) (by unfold maxLen; omega) (by omega) (by have := HbV.out.size; simp; omega) ?_)
              intro v1 w6 hown1 hgrow1 hnn1
              have HB6 := hid (own_stepW HO.out HB.out (HbV.out.alloc HbV.out.size _) hgrow1)
              have HO6 : Hid (w6.ownsRow w5.heap.size 57 8 v1 (m + 1) (cellsV V (m + 1))) := by
                show w6.ownsRow w5.heap.size 57 8 v1 (m + 1) (cellsV V (m + 1))
                rw [cellsV, HVm.out, vdOf_nz _ _ HC0.out]; exact hown1
              have HN6 := hid hnn1
              clear hown1 hgrow1 hnn1 HO HB HbV hy hy0 hy1 hy2 hy3 hy4 hy5 hy6 hy7 hyf HvV
              go_wp2
              go_roundw
              case rel => exact ⟨m + 1, by omega, by go_num, HO6.out, HN6, HB6.out⟩
              case measure => simp [intOf]; omega
        · obtain rfl : m = len := by omega
          obtain ⟨bV, cV, rfl, hcV, hsV⟩ := sat_of_owns HO.out HNN.out
          go_wp2
          go_ret
          exact ⟨⟨_, _, rfl, hcV, (by rw [HV.out]; exact hsV)⟩, HB5.out.trans (HB.out.mono HB5.out.size)⟩

set_option maxHeartbeats 1000000 in
theorem zzverdicts_any (a : Option Addr) (b off len cap : Nat) (G : Nat → Gpu) (mv : Value) (C : Nat → Cnt) (clen : Nat) (a'' : Option Addr) (b'' off'' klen cap'' : Nat) (K : Nat → Krn) (w : World)
    (hl : len ≤ 1048576) (hkl : klen ≤ 1048576) (ht : SAt w a b off len 6 (gc G)) (hmap : MapIs w mv C clen) (hk : SAt w a'' b'' off'' klen 6 (kc K))
    (hokC : ∀ i, i < clen → TOk (C i).t) (hokG : ∀ i, i < len → TOk (G i).t) :
   Calls Try.prog 22 #[.slice a len cap, mv, .slice a'' klen cap''] w fun e w' => RetV len (vds G C clen K klen) e w' ∧ Below w.heap.size w w' := by
  have HG := hid ht
  have HM := hid hmap
  have HK := hid hk
  have HOC := hid hokC
  have HOG := hid hokG
  clear ht hmap hk hokC hokG
  go_enter Try.func22, Try.ntmps22
  go_wp2_with fail
  refine (verdicts_any a b off len cap G mv C clen a'' b'' off'' klen cap'' K _ hl hkl HG.out HM.out HK.out HOC.out HOG.out).mono ?_
  rintro e w' ⟨⟨b1, c1, rfl, h1, h2⟩, hb⟩
  go_wp2
  go_ret
  exact ⟨⟨b1, c1, rfl, h1, h2⟩, hb⟩

end Go.Proofs.Qxb6605253a
