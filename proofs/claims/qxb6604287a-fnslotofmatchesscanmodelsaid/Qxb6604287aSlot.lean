/-
  CONTRACTS of slotOf (22) and ZZslotOf (11).
-/
import Derived.Test.Qxb6604287aRows
import Derived.WalkKit
import Derived.WalkSpells
import Derived.WalkLawsBesides
import Derived.Deep.OwnRows
namespace Go.Proofs.Qxb6604287a
open Go.RowKit

theorem slotOf_nil (c : Int) (w : World) :
    Calls Try.prog 22 #[.slice none 0 0, .int .i64 c] w fun e w' => e = .returned (.int .i64 c) ∧ w' = w := by
  have hn := fun wx => Lib.run_eql_slice_nil (P := Try.prog) wx 22 3 none 0 0 0 0 Try.underlying22
  go_enter Try.func22, Try.ntmps22
  go_wp2
  go_ret
  exact ⟨rfl, rfl⟩

theorem slotOf_in (b off n cap k : Nat) (z : Int) (w : World) (hk : k < n) (hc : w.cell? ⟨b, off + k, none⟩ = some (.int .i64 z)) :
    Calls Try.prog 22 #[.slice (some ⟨b, off, none⟩) n cap, .int .i64 (k : Int)] w fun e w' => e = .returned (.int .i64 z) ∧ w' = w := by
  have hn := fun wx => Lib.run_eql_slice_nil (P := Try.prog) wx 22 3 (some ⟨b, off, none⟩) n cap 0 0 Try.underlying22
  have hkI : (k : Int) < (n : Int) := by omega
  go_enter Try.func22, Try.ntmps22
  go_wp2
  go_ret
  exact ⟨rfl, rfl⟩

theorem slotOf_out (a : Addr) (n cap : Nat) (c : Int) (w : World) (hk : (n : Int) ≤ c) :
    Calls Try.prog 22 #[.slice (some a) n cap, .int .i64 c] w fun e w' => e = .returned (.int .i64 (-1)) ∧ w' = w := by
  have hn := fun wx => Lib.run_eql_slice_nil (P := Try.prog) wx 22 3 (some a) n cap 0 0 Try.underlying22
  have hkI : ¬ c < (n : Int) := by omega
  go_enter Try.func22, Try.ntmps22
  go_wp2
  go_ret
  exact ⟨rfl, rfl⟩

theorem zslotOf_nil (c : Int) (w : World) :
    Calls Try.prog 11 #[.slice none 0 0, .int .i64 c] w fun e w' => e = .returned (.int .i64 c) ∧ w' = w := by
  go_enter Try.func11, Try.ntmps11
  go_wp2_with (go_at_call 22; refine (slotOf_nil _ _).mono ?_; rintro e w' ⟨rfl, rfl⟩)
  go_ret
  exact ⟨rfl, rfl⟩

theorem zslotOf_in (b off n cap k : Nat) (z : Int) (w : World) (hk : k < n) (hc : w.cell? ⟨b, off + k, none⟩ = some (.int .i64 z)) :
    Calls Try.prog 11 #[.slice (some ⟨b, off, none⟩) n cap, .int .i64 (k : Int)] w fun e w' => e = .returned (.int .i64 z) ∧ w' = w := by
  go_enter Try.func11, Try.ntmps11
  go_wp2_with (go_at_call 22; refine (slotOf_in b off n cap k z _ hk hc).mono ?_; rintro e w' ⟨rfl, rfl⟩)
  go_ret
  exact ⟨rfl, rfl⟩

theorem zslotOf_out (a : Addr) (n cap : Nat) (c : Int) (w : World) (hk : (n : Int) ≤ c) :
    Calls Try.prog 11 #[.slice (some a) n cap, .int .i64 c] w fun e w' => e = .returned (.int .i64 (-1)) ∧ w' = w := by
  go_enter Try.func11, Try.ntmps11
  go_wp2_with (go_at_call 22; refine (slotOf_out a n cap c _ hk).mono ?_; rintro e w' ⟨rfl, rfl⟩)
  go_ret
  exact ⟨rfl, rfl⟩
end Go.Proofs.Qxb6604287a
