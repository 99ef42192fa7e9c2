/-
  THE WALKS of FnPlainDecimalMatchesAutomaton (7).
-/
import Derived.Test.Qxb6604287aAuto
import Derived.Test.Qxb6604287aOpen
namespace Go.Proofs.Qxb6604287a
open Go.RowKit

theorem law7_large (a0 : Option Addr) (len0 cap0 : Nat) (w : World) (h : 1048576 < len0) :
    Calls Try.prog 7 #[.slice a0 len0 cap0] w fun e w' => e = .returned (.bool true) ∧ w' = w := by
  go_enter Try.func7, Try.ntmps7
  go_wp2_with (go_at_call 17; refine (zb17_large _ _ _ _ h).mono ?_; rintro e w' ⟨rfl, rfl⟩)
  go_ret
  exact ⟨rfl, rfl⟩

theorem law7_nil (w : World) :
    Calls Try.prog 7 #[.slice none 0 0] w fun e w' => e = .returned (.bool true) ∧ w' = w := by
  go_enter Try.func7, Try.ntmps7
  go_wp2_with (first | (go_at_call 17; refine (zb17_small _ _ _ _ (by omega)).mono ?_; rintro e w' ⟨rfl, rfl⟩) | (go_at_call 14; refine (cloneBytes_nil _).mono ?_; rintro e w' ⟨rfl, rfl⟩) | (go_at_call 18; refine (zplain_any none 0 0 0 0 (fun _ => 0) _ (by omega) (by omega) (bytes_none _ _)).mono ?_; rintro e w' ⟨rfl, rfl⟩) | (go_at_call 19; refine (auto_any none 0 0 0 0 (fun _ => 0) _ (by omega) (by omega) (bytes_none _ _)).mono ?_; rintro e w' ⟨rfl, rfl⟩))
  go_ret
  exact ⟨by simp, rfl⟩

theorem law7_go (x : Addr) (b off len0 cap0 : Nat) (f : Nat → Int) (w : World) (h : len0 ≤ 1048576) (hx : 0 < len0 → x = ⟨b, off, none⟩) (hc : BytesAt w b off len0 f) :
    Calls Try.prog 7 #[.slice (some x) len0 cap0] w fun e w' => e = .returned (.bool true) ∧ Below w.heap.size w w' := by
  have hI : ¬ (1048576 : Int) < (len0 : Int) := by omega
  have HX : Hid (0 < len0 → x = ⟨b, off, none⟩) := hx
  have HC : Hid (BytesAt w b off len0 f) := hc
  clear hx hc
  go_enter Try.func7, Try.ntmps7
  go_wp2_with (go_at_call 17; refine (zb17_small _ _ _ _ h).mono ?_; rintro e w' ⟨rfl, hw⟩; subst w')
  refine (cloneBytes_go x b off len0 cap0 f w h HX.out HC.out).mono ?_
  rintro e w1 ⟨rfl, hbel, hr⟩
  have HB : Hid (BytesAt w1 w.heap.size 0 len0 f) := bytes_of_row hr (bytes_range HC.out)
  clear hr
  go_wp2_with fail
  refine (zplain_any (some ⟨w.heap.size, 0, none⟩) w.heap.size 0 len0 len0 f _ h (fun _ => rfl) HB.out).mono ?_
  rintro e w' ⟨rfl, hw⟩; subst w'
  go_wp2_with fail
  refine (auto_any (some ⟨w.heap.size, 0, none⟩) w.heap.size 0 len0 len0 f _ h (fun _ => rfl) HB.out).mono ?_
  rintro e w' ⟨rfl, hw⟩; subst w'
  go_wp2
  go_ret
  exact ⟨by simp, hbel⟩
end Go.Proofs.Qxb6604287a
