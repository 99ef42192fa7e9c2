/-
  A slice of bytes that came in, opened once.
-/
import Derived.Test.Qxb6604287aText
import Derived.ProofKit
import Derived.OpenShut
namespace Go.Proofs.Qxb6604287a
open Go.WideShapes Go.RowKit

theorem bytes_open {w : World} {x : Addr} {len cap : Nat} {zs : List Int} (hl : len ≤ cap) (hz : zs.length = cap) (hc : ∀ i, i < zs.length → w.cell? (x.add i) = some (.int .u8 (zs.getD i 0))) (hw : ∀ n ∈ zs, (Lit.int .u8 n).wf = true) :
    ∃ b off, (0 < len → x = ⟨b, off, none⟩) ∧ BytesAt w b off len (fun j => zs.getD j 0) := by
  by_cases h0 : 0 < len
  · obtain ⟨b, off, spot⟩ := x
    have hs : spot = none := by simpa [Addr.add] using World.cell?_spot (hc 0 (by omega))
    subst hs
    refine ⟨b, off, fun _ => rfl, fun j hj => ?_⟩
    have h := hc j (by omega)
    rw [add_plain] at h
    refine ⟨h, ?_⟩
    have hr := range_u8 hw j
    simpa using hr
  · exact ⟨0, 0, fun h => absurd h h0, fun j hj => absurd hj (by omega)⟩
theorem bytes_none (w : World) (f : Nat → Int) : BytesAt w 0 0 0 f := fun _ hj => absurd hj (Nat.not_lt_zero _)
theorem bytes_range {w : World} {b off n : Nat} {f : Nat → Int} (h : BytesAt w b off n f) : ∀ j, j < n → 0 ≤ f j ∧ f j ≤ 255 := fun j hj => (h j hj).2
end Go.Proofs.Qxb6604287a
