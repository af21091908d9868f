import Derived.Test.Qxb6605253aVerd
import Derived.Test.Qxb6605253aBytes
namespace Go.Proofs.Qxb6605253a
open Go.RowKit

/-- What the laws keep in hand: the three slices, the old memory. -/
structure Kv (w wr : World) (a : Option Addr) (b off len : Nat) (G : Nat → Gpu) (a' : Option Addr) (b' off' len' : Nat) (C : Nat → Cnt) (a'' : Option Addr) (b'' off'' len'' : Nat) (K : Nat → Krn) : Prop where
  sg : SAt wr a b off len 6 (gc G)
  sc : SAt wr a' b' off' len' 4 (cc C)
  sk : SAt wr a'' b'' off'' len'' 6 (kc K)
  bel : Below w.heap.size w wr
section
variable {w wr wr' : World} {a : Option Addr} {b off len : Nat} {G : Nat → Gpu} {a' : Option Addr} {b' off' len' : Nat} {C : Nat → Cnt} {a'' : Option Addr} {b'' off'' len'' : Nat} {K : Nat → Krn}
theorem Kv.below (h : Kv w wr a b off len G a' b' off' len' C a'' b'' off'' len'' K) (hb : Below wr.heap.size wr wr') : Kv w wr' a b off len G a' b' off' len' C a'' b'' off'' len'' K :=
  ⟨h.sg.below hb, h.sc.below hb, h.sk.below hb, h.bel.trans (hb.mono h.bel.size)⟩
theorem Kv.drewN (h : Kv w wr a b off len G a' b' off' len' C a'' b'' off'' len'' K) (n : Nat) : Kv w (wr.drewN n) a b off len G a' b' off' len' C a'' b'' off'' len'' K :=
  ⟨h.sg.drewN n, h.sc.drewN n, h.sk.drewN n, below_drewN h.bel n⟩
end

theorem Try.info60 : (Try.prog.info? 60).map (fun i => (i.zero, i.size, i.bytes)) = some (some (.agg #[.string ⟨#[]⟩, .string ⟨#[]⟩, .string ⟨#[]⟩, .string ⟨#[]⟩, .int .i64 0, .string ⟨#[]⟩]), 6, 88) := by kernel_rfl

/-- One element of a slice of structs, as a slice of its own. -/
theorem SAt.one {w : World} {a : Option Addr} {b len : Nat} {G : Nat → Gpu} (h : SAt w a b 0 len 6 (gc G)) {k : Nat} (hk : k < len) : SAt w (some ⟨b, k * 6, none⟩) b (k * 6) 1 6 (gc (fun j => G (k + j))) :=
  ⟨fun _ => h.lt (by omega), fun _ => rfl, fun i j hi hj => by
    have h1 := h.cell (k + i) j (by omega) hj
    rw [show k * 6 + i * 6 + j = 0 + (k + i) * 6 + j from by omega]
    exact h1⟩

/-- THE PLAIN LAW: one GPU at a time, the kernels turned round. -/
theorem vds_rev (G : Nat → Gpu) (C : Nat → Cnt) (clen : Nat) (K : Nat → Krn) (klen k : Nat) : vds (fun j => G (k + j)) C clen (fun i => K (klen - 1 - i)) klen 0 = vds G C clen K klen k := by
  have h := (law_mono (fun j => (K j).t) (fun j => (K j).t) (G k).t klen 0).2.2.2
  unfold vds
  rw [← h]
  rfl

theorem mis_full (b a : Bool) : (mis b a).toList.isEmpty = false := by
  cases b <;> cases a <;> simp [mis, backS, archS, warpS]

/-- The verdict on one GPU, field by field. -/
theorem vd_form (g : Gpu) (c : Int) (r : ByteArray) : ∃ vv rr, vdOf g c r = ⟨g.i, g.p, g.b, g.a, g.n, vv, rr, c⟩ ∧ (c ≠ 0 → vv = ⟨#[99, 111, 109, 112, 97, 116, 105, 98, 108, 101]⟩ ∧ rr = ⟨#[]⟩) ∧ (c = 0 → vv = ⟨#[105, 110, 99, 111, 109, 112, 97, 116, 105, 98, 108, 101]⟩ ∧ rr = r) := by
  by_cases h : c = 0
  · subst h
    exact ⟨incS, r, vdOf_z _ _ rfl, fun e => absurd rfl e, fun _ => ⟨rfl, rfl⟩⟩
  · exact ⟨compS, ⟨#[]⟩, vdOf_nz _ _ h, fun _ => ⟨rfl, rfl⟩, fun e => absurd e h⟩

end Go.Proofs.Qxb6605253a
