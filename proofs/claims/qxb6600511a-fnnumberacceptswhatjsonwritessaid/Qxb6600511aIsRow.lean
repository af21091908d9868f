import Derived.Test.Qxb6600511aBase
import Derived.OpenShut
namespace Go.Proofs.Qxb6600511a
open Go.RowKit Go.ChangeShapes Go.WideShapes Go.Deep

/-- WHAT THE WALK IS TOLD OF A SLICE OF INTEGERS THAT CAME IN: it is nil; or it leads to a row of 'cap' cells, the numbers 'zs' (the first 'len' are its elements, the rest its spare room), each fitting its kind. -/
def IsRow (k : IntKind) (w : World) (a : Option Addr) (len cap : Nat) (zs : List Int) : Prop :=
  (a = none ∧ len = 0 ∧ cap = 0 ∧ zs = []) ∨
  ∃ x, a = some x ∧ len ≤ cap ∧ cap ≤ maxLen ∧ zs.length = cap ∧ (∀ i, i < zs.length → w.cell? (x.add i) = some (.int k (zs.getD i 0))) ∧ ∀ n ∈ zs, (Lit.int k n).wf = true

/-- Such a row of bytes, by its index. -/
theorem IsRow.bat {w : World} {a : Option Addr} {len cap : Nat} {zs : List Int} (h : IsRow .u8 w a len cap zs) :
    ∃ b off Z, BAt w a b off len Z ∧ (a = none → len = 0) ∧ len ≤ maxLen ∧ Byt Z len := by
  rcases h with ⟨rfl, rfl, rfl, rfl⟩ | ⟨x, rfl, hlc, hcm, hz, hc, hw⟩
  · exact ⟨0, 0, fun _ => 0, BAt.nil _ _ _ _ _, fun _ => rfl, Nat.zero_le _, fun _ hi => absurd hi (Nat.not_lt_zero _)⟩
  · have hspot : len ≠ 0 → x.spot = none := fun h0 => by
      have := World.cell?_spot (hc 0 (by omega))
      simpa [Addr.add] using this
    refine ⟨x.block, x.off, fun i => zs.getD i 0, ⟨fun h0 => ?_, fun h0 => ?_, fun i hi => ?_⟩, (fun e => by cases e), Nat.le_trans hlc hcm, fun i hi => ?_⟩
    · have := World.block_lt_of_cell? w _ (hc 0 (by omega))
      simpa [Addr.add] using this
    · have := hspot h0
      obtain ⟨b, off, sp⟩ := x
      simp at this
      rw [this]
    · have h1 := hc i (by omega)
      have h2 := hspot (by omega)
      obtain ⟨b, off, sp⟩ := x
      simp at h2
      subst h2
      rw [add_plain] at h1
      exact h1
    · have hi' : i < zs.length := by omega
      have h1 := hw (zs.getD i 0) (by simp [List.getD, hi'])
      have h2 := bounds_u8 h1
      omega
end Go.Proofs.Qxb6600511a
