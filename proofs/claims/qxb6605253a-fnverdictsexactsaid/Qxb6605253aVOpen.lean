import Derived.Test.Qxb6605253aOpen
import Derived.Test.Qxb6605253aMap
namespace Go.Proofs.Qxb6605253a
open Go.ChangeShapes Go.WideShapes Go.ChangeAt Go.RowKit Go.Deep Go.Joins

theorem Try.cells55 : Try.prog.cellsOf 55 = 6 := by kernel_rfl
theorem Try.cells73 : Try.prog.cellsOf 73 = 4 := by kernel_rfl
theorem Try.cells60 : Try.prog.cellsOf 60 = 6 := by kernel_rfl

section
variable {H : Type} {enc : TypeId × Value → H} {W : World}

theorem open_gpus {fuel : Nat} {a : Option Addr} {len cap : Nat} {x : DataW H × List MemPlace}
    (h : DataW.trod enc Try.prog W 0 (fun _ => true) true fuel 37 [.slice a len cap] = some x) :
    ∃ b off G, SAt W a b off len 6 (gc G) ∧ (a = none → len = 0) ∧ len ≤ maxLen ∧ ∀ i, i < len → TOk (G i).t := by
  obtain ⟨hl, hm, h1⟩ := open_elems Try.underlying37 Try.cells55 (by decide) h
  rcases h1 with ⟨rfl, rfl⟩ | ⟨b, off, n, hb, hs, ha, hx⟩
  · exact ⟨0, 0, fun _ => ⟨0, .empty, .empty, 0, .empty, .empty⟩, SAt.nil _ _ _ _ _ _, fun _ => rfl, Nat.zero_le _, fun _ hi => absurd hi (Nat.not_lt_zero _)⟩
  · have each : ∀ i, i < len → ∃ q : Int × ByteArray × ByteArray × Int × ByteArray × ByteArray, (W.cell? ⟨b, off + i * 6 + 0, none⟩ = some (.int .i64 q.1) ∧ W.cell? ⟨b, off + i * 6 + 1, none⟩ = some (.string q.2.1) ∧ W.cell? ⟨b, off + i * 6 + 2, none⟩ = some (.string q.2.2.1) ∧
        W.cell? ⟨b, off + i * 6 + 3, none⟩ = some (.int .i64 q.2.2.2.1) ∧ W.cell? ⟨b, off + i * 6 + 4, none⟩ = some (.string q.2.2.2.2.1) ∧ W.cell? ⟨b, off + i * 6 + 5, none⟩ = some (.string q.2.2.2.2.2)) ∧ TOk ⟨q.2.1, q.2.2.1, q.2.2.2.1⟩ := by
      intro i hi
      obtain ⟨cs, y, hlen, hc, ht⟩ := hx i hi
      obtain ⟨xs, m, _, _, _, hxl, hf⟩ := DataW.trod_struct Try.underlying55 ht
      match cs, hlen, xs, hxl with
      | [c0, c1, c2, c3, c4, c5], _, [y0, y1, y2, y3, y4, y5], _ =>
        have g0 := hf 0 _ rfl
        have g1 := hf 1 _ rfl
        have g2 := hf 2 _ rfl
        have g3 := hf 3 _ rfl
        have g4 := hf 4 _ rfl
        have g5 := hf 5 _ rfl
        simp [Try.cells9, Try.cells3] at g0 g1 g2 g3 g4 g5
        obtain ⟨n0, e0, _, _⟩ := DataW.trod_int Try.underlying3 g0
        obtain ⟨s1, e1, _, l1⟩ := DataW.trod_string Try.underlying9 g1
        obtain ⟨s2, e2, _, l2⟩ := DataW.trod_string Try.underlying9 g2
        obtain ⟨n3, e3, _, l3⟩ := DataW.trod_int Try.underlying3 g3
        obtain ⟨s4, e4, _, _⟩ := DataW.trod_string Try.underlying9 g4
        obtain ⟨s5, e5, _, _⟩ := DataW.trod_string Try.underlying9 g5
        simp at e0 e1 e2 e3 e4 e5
        subst e0 e1 e2 e3 e4 e5
        exact ⟨(n0, s1, s2, n3, s4, s5), ⟨hc 0 (by omega), hc 1 (by omega), hc 2 (by omega), hc 3 (by omega), hc 4 (by omega), hc 5 (by omega)⟩, ⟨l1, l2, l3⟩⟩
    obtain ⟨q, hq⟩ := choose_lt each
    refine ⟨b, off, fun i => ⟨(q i).1, (q i).2.1, (q i).2.2.1, (q i).2.2.2.1, (q i).2.2.2.2.1, (q i).2.2.2.2.2⟩, ⟨hb, ha, fun i j hi hj => ?_⟩, fun e => by rw [e] at hs; simp at hs, Nat.le_trans hl hm, fun i hi => (hq i hi).2⟩
    obtain ⟨⟨h0, h1, h2, h3, h4, h5⟩, _⟩ := hq i hi
    match j, hj with
    | 0, _ => exact h0
    | 1, _ => exact h1
    | 2, _ => exact h2
    | 3, _ => exact h3
    | 4, _ => exact h4
    | 5, _ => exact h5

theorem open_krns {fuel : Nat} {a : Option Addr} {len cap : Nat} {x : DataW H × List MemPlace}
    (h : DataW.trod enc Try.prog W 0 (fun _ => true) true fuel 39 [.slice a len cap] = some x) :
    ∃ b off K, SAt W a b off len 6 (kc K) ∧ (a = none → len = 0) ∧ len ≤ maxLen := by
  obtain ⟨hl, hm, h1⟩ := open_elems Try.underlying39 Try.cells60 (by decide) h
  rcases h1 with ⟨rfl, rfl⟩ | ⟨b, off, n, hb, hs, ha, hx⟩
  · exact ⟨0, 0, fun _ => ⟨.empty, .empty, .empty, .empty, 0, .empty⟩, SAt.nil _ _ _ _ _ _, fun _ => rfl, Nat.zero_le _⟩
  · have each : ∀ i, i < len → ∃ q : ByteArray × ByteArray × ByteArray × ByteArray × Int × ByteArray, (W.cell? ⟨b, off + i * 6 + 0, none⟩ = some (.string q.1) ∧ W.cell? ⟨b, off + i * 6 + 1, none⟩ = some (.string q.2.1) ∧ W.cell? ⟨b, off + i * 6 + 2, none⟩ = some (.string q.2.2.1) ∧
        W.cell? ⟨b, off + i * 6 + 3, none⟩ = some (.string q.2.2.2.1) ∧ W.cell? ⟨b, off + i * 6 + 4, none⟩ = some (.int .i64 q.2.2.2.2.1) ∧ W.cell? ⟨b, off + i * 6 + 5, none⟩ = some (.string q.2.2.2.2.2)) := by
      intro i hi
      obtain ⟨cs, y, hlen, hc, ht⟩ := hx i hi
      obtain ⟨xs, m, _, _, _, hxl, hf⟩ := DataW.trod_struct Try.underlying60 ht
      match cs, hlen, xs, hxl with
      | [c0, c1, c2, c3, c4, c5], _, [y0, y1, y2, y3, y4, y5], _ =>
        have g0 := hf 0 _ rfl
        have g1 := hf 1 _ rfl
        have g2 := hf 2 _ rfl
        have g3 := hf 3 _ rfl
        have g4 := hf 4 _ rfl
        have g5 := hf 5 _ rfl
        simp [Try.cells9, Try.cells3] at g0 g1 g2 g3 g4 g5
        obtain ⟨s0, e0, _, _⟩ := DataW.trod_string Try.underlying9 g0
        obtain ⟨s1, e1, _, _⟩ := DataW.trod_string Try.underlying9 g1
        obtain ⟨s2, e2, _, _⟩ := DataW.trod_string Try.underlying9 g2
        obtain ⟨s3, e3, _, _⟩ := DataW.trod_string Try.underlying9 g3
        obtain ⟨n4, e4, _, _⟩ := DataW.trod_int Try.underlying3 g4
        obtain ⟨s5, e5, _, _⟩ := DataW.trod_string Try.underlying9 g5
        simp at e0 e1 e2 e3 e4 e5
        subst e0 e1 e2 e3 e4 e5
        exact ⟨(s0, s1, s2, s3, n4, s5), hc 0 (by omega), hc 1 (by omega), hc 2 (by omega), hc 3 (by omega), hc 4 (by omega), hc 5 (by omega)⟩
    obtain ⟨q, hq⟩ := choose_lt each
    refine ⟨b, off, fun i => ⟨(q i).1, (q i).2.1, (q i).2.2.1, (q i).2.2.2.1, (q i).2.2.2.2.1, (q i).2.2.2.2.2⟩, ⟨hb, ha, fun i j hi hj => ?_⟩, fun e => by rw [e] at hs; simp at hs, Nat.le_trans hl hm⟩
    obtain ⟨h0, h1, h2, h3, h4, h5⟩ := hq i hi
    match j, hj with
    | 0, _ => exact h0
    | 1, _ => exact h1
    | 2, _ => exact h2
    | 3, _ => exact h3
    | 4, _ => exact h4
    | 5, _ => exact h5

theorem open_cnts {fuel : Nat} {a : Option Addr} {len cap : Nat} {x : DataW H × List MemPlace}
    (h : DataW.trod enc Try.prog W 0 (fun _ => true) true fuel 38 [.slice a len cap] = some x) :
    ∃ b off C, SAt W a b off len 4 (cc C) ∧ (a = none → len = 0) ∧ len ≤ maxLen ∧ (∀ i, i < len → TOk (C i).t) ∧ ∀ i, i < len → (Lit.int .i64 (C i).c).wf = true := by
  obtain ⟨hl, hm, h1⟩ := open_elems Try.underlying38 Try.cells73 (by decide) h
  rcases h1 with ⟨rfl, rfl⟩ | ⟨b, off, n, hb, hs, ha, hx⟩
  · exact ⟨0, 0, fun _ => ⟨.empty, .empty, 0, 0⟩, SAt.nil _ _ _ _ _ _, fun _ => rfl, Nat.zero_le _, fun _ hi => absurd hi (Nat.not_lt_zero _), fun _ hi => absurd hi (Nat.not_lt_zero _)⟩
  · have each : ∀ i, i < len → ∃ q : ByteArray × ByteArray × Int × Int, (W.cell? ⟨b, off + i * 4 + 0, none⟩ = some (.string q.1) ∧ W.cell? ⟨b, off + i * 4 + 1, none⟩ = some (.string q.2.1) ∧ W.cell? ⟨b, off + i * 4 + 2, none⟩ = some (.int .i64 q.2.2.1) ∧
        W.cell? ⟨b, off + i * 4 + 3, none⟩ = some (.int .i64 q.2.2.2)) ∧ TOk ⟨q.1, q.2.1, q.2.2.1⟩ ∧ (Lit.int .i64 q.2.2.2).wf = true := by
      intro i hi
      obtain ⟨cs, y, hlen, hc, ht⟩ := hx i hi
      obtain ⟨xs, m, _, _, _, hxl, hf⟩ := DataW.trod_struct Try.underlying73 ht
      match cs, hlen, xs, hxl with
      | [c0, c1, c2, c3], _, [y0, y1, y2, y3], _ =>
        have g0 := hf 0 _ rfl
        have g1 := hf 1 _ rfl
        have g2 := hf 2 _ rfl
        have g3 := hf 3 _ rfl
        simp [Try.cells9, Try.cells3] at g0 g1 g2 g3
        obtain ⟨s0, e0, _, l0⟩ := DataW.trod_string Try.underlying9 g0
        obtain ⟨s1, e1, _, l1⟩ := DataW.trod_string Try.underlying9 g1
        obtain ⟨n2, e2, _, l2⟩ := DataW.trod_int Try.underlying3 g2
        obtain ⟨n3, e3, _, l3⟩ := DataW.trod_int Try.underlying3 g3
        simp at e0 e1 e2 e3
        subst e0 e1 e2 e3
        exact ⟨(s0, s1, n2, n3), ⟨hc 0 (by omega), hc 1 (by omega), hc 2 (by omega), hc 3 (by omega)⟩, ⟨l0, l1, l2⟩, l3⟩
    obtain ⟨q, hq⟩ := choose_lt each
    refine ⟨b, off, fun i => ⟨(q i).1, (q i).2.1, (q i).2.2.1, (q i).2.2.2⟩, ⟨hb, ha, fun i j hi hj => ?_⟩, fun e => by rw [e] at hs; simp at hs, Nat.le_trans hl hm, fun i hi => (hq i hi).2.1, fun i hi => (hq i hi).2.2⟩
    obtain ⟨⟨h0, h1, h2, h3⟩, _⟩ := hq i hi
    match j, hj with
    | 0, _ => exact h0
    | 1, _ => exact h1
    | 2, _ => exact h2
    | 3, _ => exact h3
end
end Go.Proofs.Qxb6605253a
