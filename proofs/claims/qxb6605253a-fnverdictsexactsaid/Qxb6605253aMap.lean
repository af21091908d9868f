import Derived.Test.Qxb6605253aStructs
import Derived.DeepKeys4
namespace Go.Proofs.Qxb6605253a
open Go.RowKit

/-! ### The map: its keys -/
theorem Try.row30 : (30 : TypeId) < Try.prog.types.size := of_decide_eq_true (by kernel_rfl)
theorem Try.wide30 : (match Try.prog.underlying 30 with | some (.array _ _) | some (.struct _) => true | _ => false) = true := by kernel_rfl
theorem laidOutP : laidOutB Try.prog = true := by kernel_rfl
theorem law30 : WideMaps.KeyLaw Try.prog 30 := deep_law_laid laidOutP (m := 2) (by omega) Try.row30 (by kernel_rfl) Try.wide30
theorem keyed30 : Go.Maps.Keyed Try.prog 30 := Go.Maps.Keyed.of_law law30

/-- A target that can be read: its strings are no longer than a string can be, its number fits. -/
structure TOk (t : Tgt) : Prop where
  b : t.b.size ≤ maxLen
  a : t.a.size ≤ maxLen
  n : (Lit.int .i64 t.n).wf = true

theorem Try.keyType30 : Try.prog.keyType 30 = true := by kernel_rfl
theorem Try.cells30' : Try.prog.cellsOf 30 = 3 := by kernel_rfl
theorem Try.cells9' : Try.prog.cellsOf 9 = 1 := by kernel_rfl
theorem Try.cells3' : Try.prog.cellsOf 3 = 1 := by kernel_rfl
theorem Try.two : (decide (1 ≤ Try.prog.types.size)) = true := by kernel_rfl
/-- What a target reads as, as a key. -/
def keyL (t : Tgt) : Lit := .string (keyBytes [.string t.b.data.toList, .string t.a.data.toList, .int .i64 t.n])
theorem key_some {t : Tgt} (h : TOk t) : keyOf Try.prog 30 (.agg #[.string t.b, .string t.a, .int .i64 t.n]) = some (keyL t) := by
  obtain ⟨m, hm⟩ : ∃ m, Try.prog.types.size = m + 1 := ⟨Try.prog.types.size - 1, by have := of_decide_eq_true Try.two; omega⟩
  unfold keyOf
  rw [Try.underlying30, hm]
  simp [Try.keyType30, Value.formed, Try.underlying30, Try.cells30', Value.cells, Program.keyLits, Try.underlying9, Try.underlying3, Try.cells9', Try.cells3', h.b, h.a, h.n, keyL]
theorem keyL_inj {t t' : Tgt} (h : TOk t) (h' : TOk t') (e : keyL t = keyL t') : t.b = t'.b ∧ t.a = t'.a ∧ t.n = t'.n := by
  have := keyed30.inj (key_some h) (by rw [e]; exact key_some h')
  simpa using this

/-- The pair's target is t, as zb1CountOf asks it. -/
def same (c : Cnt) (t : Tgt) : Bool := ((c.b.toList == t.b.toList) && (c.a.toList == t.a.toList)) && (c.n == t.n)
/-- The count that the first k pairs give t. -/
def cntF (C : Nat → Cnt) (t : Tgt) : Nat → Int
  | 0 => 0
  | k + 1 => if same (C k) t then (C k).c else cntF C t k
theorem cntF_y {C : Nat → Cnt} {t : Tgt} {k : Nat} (h : same (C k) t = true) : cntF C t (k + 1) = (C k).c := by rw [cntF, if_pos h]
theorem cntF_n {C : Nat → Cnt} {t : Tgt} {k : Nat} (h : same (C k) t = false) : cntF C t (k + 1) = cntF C t k := by rw [cntF, if_neg (by rw [h]; decide)]
def cmap (C : Nat → Cnt) : Nat → DataW Unit
  | 0 => .map []
  | k + 1 => (cmap C k).put (keyL (C k).t) (.lit (.int .i64 (C k).c))

theorem toList_inj {a b : ByteArray} (h : a.toList = b.toList) : a = b := by
  rw [ByteArray.toList_eq, ByteArray.toList_eq] at h
  obtain ⟨⟨x⟩⟩ := a
  obtain ⟨⟨y⟩⟩ := b
  have h' : x = y := h
  rw [h']

theorem same_iff {c : Cnt} {t : Tgt} (hc : TOk c.t) (ht : TOk t) : same c t = true ↔ keyL c.t = keyL t := by
  constructor
  · intro h
    simp [same] at h
    obtain ⟨⟨h1, h2⟩, h3⟩ := h
    have e : c.t = t := by
      cases t
      simp only [Cnt.t, Tgt.mk.injEq]
      exact ⟨toList_inj h1, toList_inj h2, h3⟩
    rw [e]
  · intro h
    obtain ⟨h1, h2, h3⟩ := keyL_inj hc ht h
    have h1' : c.b = t.b := h1
    have h2' : c.a = t.a := h2
    have h3' : c.n = t.n := h3
    simp [same, h1', h2', h3']

theorem cmap_isMap (C : Nat → Cnt) (k : Nat) : Go.Maps.IsMap (cmap C k) := by
  induction k with
  | zero => exact Go.Maps.isMap_empty
  | succ k ih => exact ih.put _ _

theorem cmap_at {C : Nat → Cnt} {k : Nat} (hok : ∀ i, i < k → TOk (C i).t) {t : Tgt} (ht : TOk t) : (cmap C k).atKey (keyL t) (.lit (.int .i64 0)) = .lit (.int .i64 (cntF C t k)) := by
  induction k with
  | zero => rfl
  | succ k ih =>
    have hk := hok k (by omega)
    cases e : same (C k) t with
    | true =>
      rw [cntF_y e, cmap, (same_iff hk ht).1 e]
      exact Go.Maps.atKey_put_same (cmap_isMap C k) (keyed30.key (key_some ht)) _ _
    | false =>
      have hne : keyL t ≠ keyL (C k).t := fun h => by
        have := (same_iff hk ht).2 h.symm
        rw [e] at this; cases this
      rw [cntF_n e, cmap, Go.Maps.atKey_put_other hne, ih (fun i hi => hok i (by omega))]

/-- The map value mv holds the counts of the first len pairs. -/
def MapIs (w : World) (mv : Value) (C : Nat → Cnt) (len : Nat) : Prop :=
  (mv = .map none ∧ len = 0) ∨ ∃ bm n, mv = .map (some bm) ∧ w.ownsMap (H := Unit) Try.prog 30 (plainElem Try.prog 3) bm n (cmap C len)

theorem grown_of_below {w w' : World} (h : Below w.heap.size w w') : w.grownBy w' none := ⟨h.os, h.tape, h.output, h.size, fun k hk _ => h.block k hk⟩
theorem MapIs.below {w w' : World} {mv : Value} {C : Nat → Cnt} {len : Nat} (h : MapIs w mv C len) (hb : Below w.heap.size w w') : MapIs w' mv C len := by
  rcases h with h | ⟨bm, n, e, ho⟩
  · exact .inl h
  · exact .inr ⟨bm, n, e, ho.kept (grown_of_below hb) (by simp)⟩
theorem zero3 (w : World) : (zeroValue 3).run Try.prog w = .ok (.int .i64 0) w := by kernel_rfl
theorem look_nil3 {t : Tgt} (ht : TOk t) (w : World) : (Instr.lookup 48 (.map none) (.agg #[.string t.b, .string t.a, .int .i64 t.n]) false).run Try.prog w = .ok (.int .i64 0) w := by
  have h1 := keyed30.check w true (key_some ht)
  rcases keyed30.find w (key_some ht) [] (fun e he => by cases he) with ⟨h2, _⟩ | ⟨j, e, _, h3, _⟩
  · simp [Instr.lookup, run_underlying Try.underlying48, h1, h2]
  · simp at h3
theorem MapIs.look {w : World} {mv : Value} {C : Nat → Cnt} {len : Nat} (h : MapIs w mv C len) (hok : ∀ i, i < len → TOk (C i).t) {t : Tgt} (ht : TOk t) :
    (Instr.lookup 48 mv (.agg #[.string t.b, .string t.a, .int .i64 t.n]) false).run Try.prog w = .ok (.int .i64 (cntF C t len)) w := by
  rcases h with ⟨rfl, rfl⟩ | ⟨bm, n, rfl, ho⟩
  · exact look_nil3 ht w
  · obtain ⟨c, hrun, hat, _⟩ := ho.lookup_int keyed30 Try.underlying48 Try.underlying3 (zero3 w) (key_some ht)
    rw [cmap_at hok ht] at hat
    simp at hat
    rw [hrun, hat]

theorem make_map (n : Int) (w : World) : (Instr.makeMap 48 (some (.int .i64 n))).run Try.prog w = .ok (.map (some w.heap.size)) (w.alloc (.map #[] 0)) := by
  simp [Instr.makeMap, run_underlying Try.underlying48, asInt]
  rfl

/-- It returns a map that holds the counts. -/
def RetM (C : Nat → Cnt) (n : Nat) (e : Ending) (w' : World) : Prop := ∃ mv, e = .returned mv ∧ MapIs w' mv C n

/-- A store of a pair into the map. -/
theorem map_step {w : World} {bm n k : Nat} {C : Nat → Cnt} (h : w.ownsMap (H := Unit) Try.prog 30 (plainElem Try.prog 3) bm n (cmap C k)) (hn : n < maxLen) (hk : TOk (C k).t) (hc : (Lit.int .i64 (C k).c).wf = true) :
    ∃ w', (Instr.mapUpdate 48 (.map (some bm)) (.agg #[.string (C k).b, .string (C k).a, .int .i64 (C k).n]) (.int .i64 (C k).c)).run Try.prog w = .ok () w' ∧ w'.ownsMap (H := Unit) Try.prog 30 (plainElem Try.prog 3) bm (n + 1) (cmap C (k + 1)) ∧ w.grownBy w' (some bm) :=
  h.update keyed30 Try.underlying48 hn (key_some hk) (plainElem_int Try.underlying3 hc)

theorem cell_grown {w w' : World} {bm b o : Nat} {v : Value} (h : w.cell? ⟨b, o, none⟩ = some v) (hg : w.grownBy w' (some bm)) (hne : b ≠ bm) : w'.cell? ⟨b, o, none⟩ = some v :=
  hg.cell h (by simpa using hne)
theorem cells_grown4 {w w' : World} {bm b o0 o1 o2 o3 : Nat} {v0 v1 v2 v3 : Value} (h : w.cell? ⟨b, o0, none⟩ = some v0 ∧ w.cell? ⟨b, o1, none⟩ = some v1 ∧ w.cell? ⟨b, o2, none⟩ = some v2 ∧ w.cell? ⟨b, o3, none⟩ = some v3)
    (hg : w.grownBy w' (some bm)) (hne : b ≠ bm) : w'.cell? ⟨b, o0, none⟩ = some v0 ∧ w'.cell? ⟨b, o1, none⟩ = some v1 ∧ w'.cell? ⟨b, o2, none⟩ = some v2 ∧ w'.cell? ⟨b, o3, none⟩ = some v3 :=
  ⟨cell_grown h.1 hg hne, cell_grown h.2.1 hg hne, cell_grown h.2.2.1 hg hne, cell_grown h.2.2.2 hg hne⟩
/-- A store into the map at block B turns nothing below B. -/
theorem below_grown {w w' : World} {B : Nat} (hg : w.drew.grownBy w' (some B)) (hB : B ≤ w.heap.size) : Below B w w' :=
  ⟨hg.os, hg.tape, hg.output, hg.size, fun k hk => hg.block k (by show k < w.heap.size; omega) (by simp; omega)⟩

set_option maxRecDepth 4000 in
set_option maxHeartbeats 1000000 in
theorem counts_any (a : Option Addr) (b off len cap : Nat) (C : Nat → Cnt) (w : World) (hl : len ≤ 1048576) (hn : a = none → len = 0) (ht : SAt w a b off len 4 (cc C)) (hok : ∀ i, i < len → TOk (C i).t) (hwf : ∀ i, i < len → (Lit.int .i64 (C i).c).wf = true) :
   Calls Try.prog 24 #[.slice a len cap] w fun e w' => RetM C len e w' ∧ Below w.heap.size w w' := by
  have HT := hid ht
  have HOK := hid hok
  have HWF := hid hwf
  clear ht hok hwf
  have hnil := fun wx => Lib.run_eql_slice_nil (P := Try.prog) wx 38 73 a len cap 0 0 Try.underlying38
  have hmk := make_map (len : Int)
  rcases a with _ | ad
  · obtain rfl := hn rfl
    clear hn hmk
    go_enter Try.func24, Try.ntmps24
    go_wp2
    go_ret
    exact ⟨⟨_, rfl, .inl ⟨rfl, rfl⟩⟩, Below.refl _ _⟩
  · clear hn
    go_enter Try.func24, Try.ntmps24
    go_wp2
    clear hmk hnil
    go_loopw [4] (fun i wr => ∃ (k : Nat), k ≤ len ∧ i = .int .i64 k ∧ wr.ownsMap (H := Unit) Try.prog 30 (plainElem Try.prog 3) w.heap.size k (cmap C k) ∧ Below w.heap.size w wr) (fun i _ => len - (intOf i).toNat)
    case atStart => exact ⟨0, Nat.zero_le _, rfl, World.ownsMap_made _ _ _ _, (Below.refl _ _).alloc (Nat.le_refl _) _⟩
    case round =>
      obtain ⟨k, hk, rfl, hown, hbel⟩ := hrel
      have HO := hid hown
      have HB := hid hbel
      clear hown hbel
      by_cases hlt : k < len
      · have HT' := hid (HT.out.below HB.out)
        have ha := Option.some.inj (HT'.out.ad (by omega))
        have hne : b ≠ w.heap.size := Nat.ne_of_lt (HT.out.lt (by omega))
        subst ha
        have hSB := cnt_cells (w := wr.drew) (HT'.out.drewN 1) hlt
        obtain ⟨w1, hrun, hown1, hgrow1⟩ := map_step (w := wr.drew) HO.out.drew (by unfold maxLen; omega) (HOK.out k hlt) (HWF.out k hlt)
        have HO1 := hid hown1
        have HG1 := hid hgrow1
        have hS1 := cells_grown4 hSB hgrow1 hne
        clear hown1 hgrow1
        go_wp2_with fail
        go_region_held3 (fun w' => w'.cell? ⟨b, off + k * 4, none⟩ = some (.string (C k).b) ∧ w'.cell? ⟨b, off + k * 4 + 1, none⟩ = some (.string (C k).a) ∧ w'.cell? ⟨b, off + k * 4 + 2, none⟩ = some (.int .i64 (C k).n) ∧ w'.cell? ⟨b, off + k * 4 + 3, none⟩ = some (.int .i64 (C k).c)) (first | with_reducible assumption | fail)
          (fail)
        clear hS1 hSB hrun
        go_wp2
        go_roundw
        case rel => exact ⟨k + 1, by omega, by go_num, HO1.out, HB.out.trans (below_grown HG1.out HB.out.size)⟩
        case measure => simp [intOf]; omega
      · obtain rfl : k = len := by omega
        go_wp2
        go_ret
        exact ⟨⟨_, rfl, .inr ⟨_, _, rfl, HO.out⟩⟩, HB.out⟩

end Go.Proofs.Qxb6605253a
