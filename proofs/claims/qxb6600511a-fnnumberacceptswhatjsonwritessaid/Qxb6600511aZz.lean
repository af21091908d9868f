import Derived.Test.Qxb6600511aNum
namespace Go.Proofs.Qxb6600511a
open Go.RowKit

/-- What ZZNumber hands back. -/
def RetZ (b off cap : Nat) (r : Bool × Nat) (st : Nat) (e : Ending) : Prop :=
  ∃ v j, e = .returned (.tuple #[v, .int .i64 j, .bool r.1]) ∧ (r.1 = true → j = (r.2 : Int) ∧ v = .slice (some ⟨b, off + st, none⟩) (r.2 - st) (cap - st))

set_option maxRecDepth 4000 in
set_option maxHeartbeats 1000000 in
theorem zznumber_any (a : Option Addr) (b off len cap : Nat) (Z : Nat → Int) (i : Nat) (w : World) (hl : len ≤ 2097152) (hcap : len ≤ cap) (hi : i ≤ 9223372036854775807) (h : BAt w a b off len Z) (st : Nat) (hsp : span isSp Z len i = st) (r : Bool × Nat) (hr : numF Z len st = r) :
   Calls Try.prog 15 #[.slice a len cap, .int .i64 (i : Int)] w fun e w' => RetZ b off cap r st e ∧ Below w.heap.size w w' := by
  have H := hid h
  have HSP := hid hsp
  have HR := hid hr
  clear h hsp hr
  go_enter Try.func15, Try.ntmps15
  go_wp2_with fail
  refine (number_any w.heap.size a b off len cap Z i _ hl hcap hi ?_ st HSP.out r HR.out).mono ?_
  · exact ⟨by simp, by simp, by simp, by simp, H.out.below ((Below.refl _ _).alloc (Nat.le_refl _) _), H.out.lt⟩
  · rintro e w1 ⟨v, j, rfl, hs, hb, hres⟩
    have HS := hid hs
    have HB := hid (((Below.refl w.heap.size w).alloc (Nat.le_refl _) _).trans hb)
    have HRES := hid hres
    have hc1 := hs.c1
    have hlt := hs.lt
    clear hs hb hres
    go_wp2_with fail
    go_quiet (fail)
    go_wp2
    go_ret3
    exact ⟨⟨v, _, rfl, fun h => ⟨by rw [(HRES.out h).1], (HRES.out h).2⟩⟩, below_drewN HB.out _⟩

set_option maxRecDepth 4000 in
set_option maxHeartbeats 1000000 in
theorem sameBytes_any (a : Option Addr) (b off len cap : Nat) (Z : Nat → Int) (a' : Option Addr) (b' off' cap' : Nat) (Z' : Nat → Int) (w : World) (hl : len ≤ 2097152) (h : BAt w a b off len Z) (h' : BAt w a' b' off' len Z') (hZ : ∀ i, i < len → Z i = Z' i) :
   Calls Try.prog 17 #[.slice a len cap, .slice a' len cap'] w fun e w' => e = .returned (.bool true) ∧ Below w.heap.size w w' := by
  have H := hid h
  have H' := hid h'
  have HZ := hid hZ
  clear h h' hZ
  go_enter Try.func17, Try.ntmps17
  go_wp2_with fail
  go_loopw [5] (fun x wr => ∃ k : Nat, k ≤ len ∧ x = .int .i64 k ∧ Below w.heap.size w wr) (fun x _ => len - (intOf x).toNat)
  case atStart => exact ⟨0, Nat.zero_le _, rfl, Below.refl _ _⟩
  case round =>
    obtain ⟨k, hk, rfl, hbel⟩ := hrel
    have HB := hid hbel
    clear hbel
    by_cases hlt : k < len
    · have hc := (H.out.below HB.out).cell k hlt
      have hc' := (H'.out.below HB.out).cell k hlt
      rw [HZ.out k hlt] at hc
      have ha := H.out.ad (by omega)
      have ha' := H'.out.ad (by omega)
      subst ha
      subst ha'
      have hlt' : (k : Int) < (len : Int) := by omega
      go_wp2_with fail
      go_quiet (fail)
      go_wp2
      go_roundw
      case rel => exact ⟨k + 1, by omega, by go_num, below_drewN HB.out _⟩
      case measure => simp [intOf]; omega
    · go_wp2
      go_ret
      exact ⟨rfl, HB.out⟩

end Go.Proofs.Qxb6600511a
