import Derived.Test.Qxb6605253aVLaw
namespace Go.Proofs.Qxb6605253a
open Go.RowKit

theorem cells8_drewN {w : World} {b o0 o1 o2 o3 o4 o5 o6 o7 : Nat} {v0 v1 v2 v3 v4 v5 v6 v7 : Value}
    (h : w.cell? ⟨b, o0, none⟩ = some v0 ∧ w.cell? ⟨b, o1, none⟩ = some v1 ∧ w.cell? ⟨b, o2, none⟩ = some v2 ∧ w.cell? ⟨b, o3, none⟩ = some v3 ∧ w.cell? ⟨b, o4, none⟩ = some v4 ∧ w.cell? ⟨b, o5, none⟩ = some v5 ∧ w.cell? ⟨b, o6, none⟩ = some v6 ∧ w.cell? ⟨b, o7, none⟩ = some v7) (n : Nat) :
    (w.drewN n).cell? ⟨b, o0, none⟩ = some v0 ∧ (w.drewN n).cell? ⟨b, o1, none⟩ = some v1 ∧ (w.drewN n).cell? ⟨b, o2, none⟩ = some v2 ∧ (w.drewN n).cell? ⟨b, o3, none⟩ = some v3 ∧ (w.drewN n).cell? ⟨b, o4, none⟩ = some v4 ∧ (w.drewN n).cell? ⟨b, o5, none⟩ = some v5 ∧ (w.drewN n).cell? ⟨b, o6, none⟩ = some v6 ∧ (w.drewN n).cell? ⟨b, o7, none⟩ = some v7 := by
  simpa using h

theorem cells8_below {w w' : World} {b o0 o1 o2 o3 o4 o5 o6 o7 : Nat} {v0 v1 v2 v3 v4 v5 v6 v7 : Value}
    (h : w.cell? ⟨b, o0, none⟩ = some v0 ∧ w.cell? ⟨b, o1, none⟩ = some v1 ∧ w.cell? ⟨b, o2, none⟩ = some v2 ∧ w.cell? ⟨b, o3, none⟩ = some v3 ∧ w.cell? ⟨b, o4, none⟩ = some v4 ∧ w.cell? ⟨b, o5, none⟩ = some v5 ∧ w.cell? ⟨b, o6, none⟩ = some v6 ∧ w.cell? ⟨b, o7, none⟩ = some v7) (hb : Below w.heap.size w w') (hlt : b < w.heap.size) :
    w'.cell? ⟨b, o0, none⟩ = some v0 ∧ w'.cell? ⟨b, o1, none⟩ = some v1 ∧ w'.cell? ⟨b, o2, none⟩ = some v2 ∧ w'.cell? ⟨b, o3, none⟩ = some v3 ∧ w'.cell? ⟨b, o4, none⟩ = some v4 ∧ w'.cell? ⟨b, o5, none⟩ = some v5 ∧ w'.cell? ⟨b, o6, none⟩ = some v6 ∧ w'.cell? ⟨b, o7, none⟩ = some v7 := by
  have g := (bcell hb).1
  rw [g b o0 hlt, g b o1 hlt, g b o2 hlt, g b o3 hlt, g b o4 hlt, g b o5 hlt, g b o6 hlt, g b o7 hlt]
  exact h

/-- A boxed target. -/
structure TBox (w : World) (g : Nat) (t : Tgt) : Prop where
  lt : g < w.heap.size
  c0 : w.cell? ⟨g, 0, none⟩ = some (.string t.b)
  c1 : w.cell? ⟨g, 1, none⟩ = some (.string t.a)
  c2 : w.cell? ⟨g, 2, none⟩ = some (.int .i64 t.n)
theorem TBox.below {w w' : World} {g : Nat} {t : Tgt} (h : TBox w g t) (hb : Below w.heap.size w w') : TBox w' g t :=
  ⟨Nat.lt_of_lt_of_le h.lt hb.size, by rw [hb.cell (p := ⟨g, 0, none⟩) h.lt]; exact h.c0, by rw [hb.cell (p := ⟨g, 1, none⟩) h.lt]; exact h.c1, by rw [hb.cell (p := ⟨g, 2, none⟩) h.lt]; exact h.c2⟩
theorem TBox.new (w : World) (t : Tgt) (ty : TypeId) : TBox (w.alloc (.cells #[.string t.b, .string t.a, .int .i64 t.n] ty)) w.heap.size t :=
  ⟨by simp, by simp, by simp, by simp⟩

theorem TBox.drew {w : World} {g : Nat} {t : Tgt} (h : TBox w g t) : TBox w.drew g t := ⟨h.lt, h.c0, h.c1, h.c2⟩
theorem SAt.drew {w : World} {a : Option Addr} {b off len s : Nat} {F : Nat → Nat → Value} (h : SAt w a b off len s F) : SAt w.drew a b off len s F := ⟨h.lt, h.ad, h.cell⟩
/-- What the test of a verdict against its GPU holds on to. -/
theorem heldW {W : World} {x y n b off len : Nat} {a : Option Addr} {G : Nat → Gpu} {vv rr : ByteArray} {c : Int} (hT : TBox W x (G n).t) (hV : BoxV W y ⟨(G n).i, (G n).p, (G n).b, (G n).a, (G n).n, vv, rr, c⟩) (hg : SAt W a b off len 6 (gc G)) (hn : n < len) :
    W.cell? ⟨y, 0, none⟩ = some (.int .i64 (G n).i) ∧ W.cell? ⟨y, 2, none⟩ = some (.string (G n).b) ∧ W.cell? ⟨y, 3, none⟩ = some (.string (G n).a) ∧ W.cell? ⟨y, 4, none⟩ = some (.int .i64 (G n).n) ∧ W.cell? ⟨y, 7, none⟩ = some (.int .i64 c) ∧ W.cell? ⟨x, 0, none⟩ = some (.string (G n).b) ∧ W.cell? ⟨x, 1, none⟩ = some (.string (G n).a) ∧ W.cell? ⟨x, 2, none⟩ = some (.int .i64 (G n).n) ∧ W.cell? ⟨b, off + n * 6, none⟩ = some (.int .i64 (G n).i) :=
  ⟨hV.c0, hV.c2, hV.c3, hV.c4, hV.c7, hT.c0, hT.c1, hT.c2, (gpu_cells hg hn).1⟩


end Go.Proofs.Qxb6605253a
