/-
  THE WALKS of FnPlainDecimalAgreesWithWholeText (8).
-/
import Derived.Test.Qxb6604287aAuto
import Derived.Test.Qxb6604287aOpen
namespace Go.Proofs.Qxb6604287a
open Go.RowKit

theorem law8_large (a0 : Option Addr) (len0 cap0 : Nat) (w : World) (h : 1048576 < len0) :
    Calls Try.prog 8 #[.slice a0 len0 cap0] w fun e w' => e = .returned (.bool true) ∧ w' = w := by
  go_enter Try.func8, Try.ntmps8
  go_wp2_with (go_at_call 20; refine (zb20_large _ _ _ _ h).mono ?_; rintro e w' ⟨rfl, rfl⟩)
  go_ret
  exact ⟨rfl, rfl⟩

theorem acc0 : accB (fun _ => 0) 0 = false := rfl
theorem wt0 : wtB (fun _ => 0) 0 = false := rfl
theorem pt0 : ptB (fun _ => 0) 0 = false := rfl

theorem law8_nil (w : World) :
    Calls Try.prog 8 #[.slice none 0 0] w fun e w' => e = .returned (.bool true) ∧ w' = w := by
  have ha := acc0
  have hb := wt0
  have hp := pt0
  go_enter Try.func8, Try.ntmps8
  go_wp2_with (first | (go_at_call 20; refine (zb20_small _ _ _ _ (by omega)).mono ?_; rintro e w' ⟨rfl, rfl⟩) | (go_at_call 14; refine (cloneBytes_nil _).mono ?_; rintro e w' ⟨rfl, rfl⟩) | (go_at_call 18; refine (zplain_any none 0 0 0 0 (fun _ => 0) _ (by omega) (by omega) (bytes_none _ _)).mono ?_; rintro e w' ⟨rfl, rfl⟩) | (go_at_call 15; refine (zwholeText_any none 0 0 0 0 (fun _ => 0) _ (by omega) (bytes_none _ _)).mono ?_; rintro e w' ⟨rfl, rfl⟩) | (go_at_call 21; refine (point_any none 0 0 0 0 (fun _ => 0) _ (by omega) (by omega) (bytes_none _ _)).mono ?_; rintro e w' ⟨rfl, rfl⟩))
  go_ret
  exact ⟨by simp, rfl⟩

/-- an empty text that is not nil -/
theorem law8_empty (x : Addr) (cap0 : Nat) (w : World) :
    Calls Try.prog 8 #[.slice (some x) 0 cap0] w fun e w' => e = .returned (.bool true) ∧ Below w.heap.size w w' := by
  have ha := acc0
  have hb := wt0
  have hp := pt0
  go_enter Try.func8, Try.ntmps8
  go_wp2_with (go_at_call 20; refine (zb20_small _ _ _ _ (by omega)).mono ?_; rintro e w' ⟨rfl, hw⟩; subst w')
  refine (cloneBytes_go x 0 0 0 cap0 (fun _ => 0) w (by omega) (fun h => absurd h (by omega)) (bytes_none _ _)).mono ?_
  rintro e w1 ⟨rfl, hbel, _⟩
  go_wp2_with (first | (go_at_call 18; refine (zplain_any _ 0 0 0 0 (fun _ => 0) _ (by omega) (by omega) (bytes_none _ _)).mono ?_; rintro e w' ⟨rfl, hw⟩; subst w') | (go_at_call 15; refine (zwholeText_any _ 0 0 0 0 (fun _ => 0) _ (by omega) (bytes_none _ _)).mono ?_; rintro e w' ⟨rfl, hw⟩; subst w') | (go_at_call 21; refine (point_any _ 0 0 0 0 (fun _ => 0) _ (by omega) (by omega) (bytes_none _ _)).mono ?_; rintro e w' ⟨rfl, hw⟩; subst w'))
  go_ret
  exact ⟨by simp, hbel⟩

set_option maxHeartbeats 800000 in
theorem law8_go1 (x : Addr) (b off len0 cap0 : Nat) (f : Nat → Int) (w : World) (h0 : 0 < len0) (h : len0 ≤ 1048576) (hx : 0 < len0 → x = ⟨b, off, none⟩) (hc : BytesAt w b off len0 f) :
    Calls Try.prog 8 #[.slice (some x) len0 cap0] w fun e w' => e = .returned (.bool true) ∧ Below w.heap.size w w' := by
  have hI : ¬ (1048576 : Int) < (len0 : Int) := by omega
  have h0I : (0 : Int) < (len0 : Int) := by omega
  have HX : Hid (0 < len0 → x = ⟨b, off, none⟩) := hx
  have HC : Hid (BytesAt w b off len0 f) := hc
  clear hx hc
  go_enter Try.func8, Try.ntmps8
  go_wp2_with (go_at_call 20; refine (zb20_small _ _ _ _ h).mono ?_; rintro e w' ⟨rfl, hw⟩; subst w')
  refine (cloneBytes_go x b off len0 cap0 f w h HX.out HC.out).mono ?_
  rintro e w1 ⟨rfl, hbel, hr⟩
  have hB := bytes_of_row hr (bytes_range HC.out)
  have hcell := (hB 0 h0).1
  rw [Nat.add_zero] at hcell
  have HB : Hid (BytesAt w1 w.heap.size 0 len0 f) := hB
  clear hr hB
  go_wp2_with fail
  refine (zwholeText_any (some ⟨w.heap.size, 0, none⟩) w.heap.size 0 len0 len0 f _ (fun _ => rfl) HB.out).mono ?_
  rintro e w' ⟨rfl, hw⟩; subst w'
  go_wp2_with fail
  refine (zplain_any (some ⟨w.heap.size, 0, none⟩) w.heap.size 0 len0 len0 f _ h (fun _ => rfl) HB.out).mono ?_
  rintro e w' ⟨rfl, hw⟩; subst w'
  have HW : Hid (wtB f len0 = true → accB f len0 = true) := acc_of_wt
  have HE : Hid (len0 ≤ 18 → ptB f len0 = false → (f 0 == 45) = false → accB f len0 = wtB f len0) := fun a1 a2 a3 => acc_eq_wt a1 (ptB_no a2) (fun _ => by simpa using a3)
  have fin : (wtB f len0 = true ∧ accB f len0 = true) ∨ (wtB f len0 = false) := by
    cases hb : wtB f len0 with
    | false => exact .inr rfl
    | true => exact .inl ⟨rfl, HW.out hb⟩
  by_cases h18 : len0 ≤ 18
  · have h18I : (len0 : Int) ≤ 18 := by omega
    cases hp : ptB f len0 with
    | true =>
      cases hm : (f 0 == 45) <;> rcases fin with ⟨hb, ha⟩ | hb <;>
      (go_wp2_with (go_at_call 21; refine (point_any (some ⟨w.heap.size, 0, none⟩) w.heap.size 0 len0 len0 f _ h (fun _ => rfl) HB.out).mono ?_; rintro e w' ⟨rfl, hw⟩; subst w')) <;> (go_ret; exact ⟨rfl, hbel⟩)
    | false =>
      cases hm : (f 0 == 45) with
      | true =>
        rcases fin with ⟨hb, ha⟩ | hb <;>
        (go_wp2_with (go_at_call 21; refine (point_any (some ⟨w.heap.size, 0, none⟩) w.heap.size 0 len0 len0 f _ h (fun _ => rfl) HB.out).mono ?_; rintro e w' ⟨rfl, hw⟩; subst w')) <;> (go_ret; exact ⟨rfl, hbel⟩)
      | false =>
        have he := HE.out h18 hp hm
        rcases fin with ⟨hb, ha⟩ | hb
        · clear he
          go_wp2_with (go_at_call 21; refine (point_any (some ⟨w.heap.size, 0, none⟩) w.heap.size 0 len0 len0 f _ h (fun _ => rfl) HB.out).mono ?_; rintro e w' ⟨rfl, hw⟩; subst w')
          go_ret
          exact ⟨rfl, hbel⟩
        · have ha : accB f len0 = false := by rw [he]; exact hb
          clear he
          go_wp2_with (go_at_call 21; refine (point_any (some ⟨w.heap.size, 0, none⟩) w.heap.size 0 len0 len0 f _ h (fun _ => rfl) HB.out).mono ?_; rintro e w' ⟨rfl, hw⟩; subst w')
          go_ret
          exact ⟨rfl, hbel⟩
  · have h18I : ¬ (len0 : Int) ≤ 18 := by omega
    rcases fin with ⟨hb, ha⟩ | hb
    · go_wp2
      go_ret
      exact ⟨rfl, hbel⟩
    · go_wp2
      go_ret
      exact ⟨rfl, hbel⟩

theorem law8_go (x : Addr) (b off len0 cap0 : Nat) (f : Nat → Int) (w : World) (h : len0 ≤ 1048576) (hx : 0 < len0 → x = ⟨b, off, none⟩) (hc : BytesAt w b off len0 f) :
    Calls Try.prog 8 #[.slice (some x) len0 cap0] w fun e w' => e = .returned (.bool true) ∧ Below w.heap.size w w' := by
  by_cases h0 : len0 = 0
  · subst h0
    exact law8_empty x cap0 w
  · exact law8_go1 x b off len0 cap0 f w (by omega) h hx hc
end Go.Proofs.Qxb6604287a
