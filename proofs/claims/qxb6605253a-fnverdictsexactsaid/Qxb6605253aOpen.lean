import Derived.Test.Qxb6605253aMis
import Derived.ProofKit
import Derived.ShutString
import Derived.ChangeOld
import Derived.Lib.SmallJoins
import Derived.Deep.Slices
namespace Go.Proofs.Qxb6605253a
open Go.ChangeShapes Go.WideShapes Go.ChangeAt Go.RowKit Go.Deep Go.Joins
open Go.ChangeMaps (open_string shut_string)

theorem own : ownKnob Try.prog.godebug = none := by kernel_rfl
theorem laidOut : laidOutB Try.prog = true := by kernel_rfl
theorem Try.cells23 : Try.prog.cellsOf 23 = 3 := by kernel_rfl
theorem Try.cells9 : Try.prog.cellsOf 9 = 1 := by kernel_rfl
theorem Try.cells3 : Try.prog.cellsOf 3 = 1 := by kernel_rfl

section
variable {H : Type} {enc : TypeId × Value → H} {W : World}

/-- A slice of structs, opened: each element's cells and its own reading. -/
theorem open_elems {P : Program} {t e : TypeId} {s fuel : Nat} {a : Option Addr} {len cap : Nat} {x : DataW H × List MemPlace} (ht : P.underlying t = some (.slice e)) (hs : P.cellsOf e = s) (hs0 : 0 < s)
    (h : DataW.trod enc P W 0 (fun _ => true) true fuel t [.slice a len cap] = some x) :
    len ≤ cap ∧ cap ≤ maxLen ∧ ((a = none ∧ len = 0) ∨ ∃ b off n, (len ≠ 0 → b < W.heap.size) ∧ a.isSome = true ∧ (len ≠ 0 → a = some ⟨b, off, none⟩) ∧
      ∀ i, i < len → ∃ cs y, cs.length = s ∧ (∀ j, j < s → W.cell? ⟨b, off + i * s + j, none⟩ = cs[j]?) ∧ DataW.trod enc P W 0 (fun _ => true) true n e cs = some y) := by
  rcases open_slice ht h with ⟨hcs, _⟩ | ⟨ad, len', cap', m, n, D, Pl, hcs, _, hl, hm, hmm, _, hx⟩
  · simp at hcs
    obtain ⟨rfl, rfl, rfl⟩ := hcs
    exact ⟨Nat.le_refl _, Nat.zero_le _, Or.inl ⟨rfl, rfl⟩⟩
  · simp at hcs
    obtain ⟨rfl, rfl, rfl⟩ := hcs
    simp only [if_true] at hmm
    subst hmm
    have hspot : len ≠ 0 → ad.spot = none := by
      intro h0
      obtain ⟨cs', h1, _⟩ := hx 0 (by omega)
      rw [hs] at h1
      obtain ⟨_, hlen, hcell⟩ := World.cells?_some h1
      have h2 := hcell 0 hs0
      rw [List.getElem?_eq_getElem (by omega)] at h2
      have := World.cell?_spot h2
      simpa [Addr.add] using this
    refine ⟨hl, hm, Or.inr ⟨ad.block, ad.off, n, ?_, rfl, ?_, ?_⟩⟩
    · intro h0
      obtain ⟨cs', h1, _⟩ := hx 0 (by omega)
      have := World.cells?_block h1 (by omega)
      simpa [Addr.add] using this
    · intro h0
      have := hspot h0
      obtain ⟨b, off, sp⟩ := ad
      simp at this
      rw [this]
    · intro i hi
      obtain ⟨cs', h1, h2⟩ := hx i (by omega)
      rw [hs] at h1
      obtain ⟨_, hlen, hcell⟩ := World.cells?_some h1
      refine ⟨cs', _, hlen, fun j hj => ?_, h2⟩
      have h3 := hcell j hj
      have hsp := hspot (by omega)
      rw [add_add] at h3
      obtain ⟨b, off, sp⟩ := ad
      simp at hsp
      subst hsp
      rw [add_plain] at h3
      rw [← h3, Nat.add_assoc]

/-- A target by value. -/
theorem open_tgt {r : Reach} {b0 : Nat} {v : Value} {d : DataW H} {p : List MemPlace} (hv : Value.okWide Try.prog W r b0 23 v) (h : DataW.Trod enc Try.prog W 0 (fun _ => true) true 23 v d p) :
    ∃ t : Tgt, v = .agg #[.string t.b, .string t.a, .int .i64 t.n] := by
  obtain ⟨v0, v1, v2, y0, y1, y2, n, rfl, _, _, g0, g1, g2⟩ := open_agg3 Try.underlying23 (by kernel_rfl) Try.cells23 hv h
  obtain ⟨s0, e0, _, _⟩ := DataW.trod_string Try.underlying9 g0
  obtain ⟨s1, e1, _, _⟩ := DataW.trod_string Try.underlying9 g1
  obtain ⟨n2, e2, _, _⟩ := DataW.trod_int Try.underlying3 g2
  simp at e0 e1 e2
  subst e0 e1 e2
  exact ⟨⟨s0, s1, n2⟩, rfl⟩

theorem open_tgts {fuel : Nat} {a : Option Addr} {len cap : Nat} {x : DataW H × List MemPlace}
    (h : DataW.trod enc Try.prog W 0 (fun _ => true) true fuel 24 [.slice a len cap] = some x) :
    ∃ b off T, TAt W a b off len T ∧ (a = none → len = 0) ∧ len ≤ maxLen := by
  obtain ⟨hl, hm, h1⟩ := open_elems Try.underlying24 Try.cells23 (by decide) h
  rcases h1 with ⟨rfl, rfl⟩ | ⟨b, off, n, hb, hs, ha, hx⟩
  · exact ⟨0, 0, fun _ => ⟨.empty, .empty, 0⟩, TAt.nil _ _ _ _ _, fun _ => rfl, Nat.zero_le _⟩
  · have each : ∀ i, i < len → ∃ q : ByteArray × ByteArray × Int, W.cell? ⟨b, off + i * 3, none⟩ = some (.string q.1) ∧ W.cell? ⟨b, off + i * 3 + 1, none⟩ = some (.string q.2.1) ∧ W.cell? ⟨b, off + i * 3 + 2, none⟩ = some (.int .i64 q.2.2) := by
      intro i hi
      obtain ⟨cs, y, hlen, hc, ht⟩ := hx i hi
      obtain ⟨y0, y1, y2, k, _, _, g0, g1, g2⟩ := trod_struct3 Try.underlying23 ht
      match cs, hlen with
      | [c0, c1, c2], _ =>
        simp [Try.cells9, Try.cells3] at g0 g1 g2
        obtain ⟨s0, e0, _, _⟩ := DataW.trod_string Try.underlying9 g0
        obtain ⟨s1, e1, _, _⟩ := DataW.trod_string Try.underlying9 g1
        obtain ⟨n2, e2, _, _⟩ := DataW.trod_int Try.underlying3 g2
        simp at e0 e1 e2
        subst e0 e1 e2
        exact ⟨(s0, s1, n2), by simpa using hc 0 (by omega), by simpa using hc 1 (by omega), by simpa using hc 2 (by omega)⟩
    obtain ⟨q, hq⟩ := choose_lt each
    exact ⟨b, off, fun i => ⟨(q i).1, (q i).2.1, (q i).2.2⟩, ⟨hb, ha, fun i hi => (hq i hi).1, fun i hi => (hq i hi).2.1, fun i hi => (hq i hi).2.2⟩, fun e => by rw [e] at hs; simp at hs, Nat.le_trans hl hm⟩
end

end Go.Proofs.Qxb6605253a
