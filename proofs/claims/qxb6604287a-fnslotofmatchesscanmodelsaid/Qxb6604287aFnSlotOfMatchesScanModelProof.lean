/-
  THE PROOF OF 'Rows.FnSlotOfMatchesScanModelSaid'. The frame is the guide's shell for this row; the walk is ours.
-/
import Derived.Test.Qxb6604287aRows
import Derived.Test.Qxb6604287aScan
import Derived.WalkKit
import Derived.ProofKit
import Derived.OpenShut
import Derived.ShutString
import Derived.ChangeOld
import Derived.Below
namespace Go.Proofs.Qxb6604287a.fnSlotOfMatchesScanModel
open Go.ChangeShapes Go.WideShapes Go.ChangeAt Go.RowKit
open Go.ChangeMaps (open_string shut_string)
set_option linter.unusedVariables false

theorem own : ownKnob Try.prog.godebug = none := by kernel_rfl
theorem laidOut : laidOutB Try.prog = true := by kernel_rfl

/-- WHAT THE WALK IS TOLD OF A SLICE OF INTEGERS THAT CAME IN: it is nil; or it leads to a row of 'cap' cells, the numbers 'zs' (the first 'len' are its elements, the rest its spare room), each fitting its kind. -/
def IsRow (k : IntKind) (w : World) (a : Option Addr) (len cap : Nat) (zs : List Int) : Prop :=
  (a = none ∧ len = 0 ∧ cap = 0 ∧ zs = []) ∨
  ∃ x, a = some x ∧ len ≤ cap ∧ cap ≤ maxLen ∧ zs.length = cap ∧ (∀ i, i < zs.length → w.cell? (x.add i) = some (.int k (zs.getD i 0))) ∧ ∀ n ∈ zs, (Lit.int k n).wf = true

/-! ### STEP 1: THE WALK -/
theorem row_open {w : World} {x : Addr} {len cap : Nat} {zs : List Int} (hl : len ≤ cap) (hz : zs.length = cap) (hc : ∀ i, i < zs.length → w.cell? (x.add i) = some (.int .i64 (zs.getD i 0))) :
    ∃ b off, (0 < len → x = ⟨b, off, none⟩) ∧ IntsAt w b off len (fun j => zs.getD j 0) := by
  by_cases h0 : 0 < len
  · obtain ⟨b, off, spot⟩ := x
    have hs : spot = none := by simpa [Addr.add] using World.cell?_spot (hc 0 (by omega))
    subst hs
    refine ⟨b, off, fun _ => rfl, fun j hj => ?_⟩
    have h := hc j (by omega)
    rw [add_plain] at h
    exact h
  · exact ⟨0, 0, fun h => absurd h h0, fun j hj => absurd hj (by omega)⟩

theorem walk_nil (a1 : Int) (w : World) :
    Calls Try.prog 3 #[.slice none 0 0, .int .i64 a1] w fun e w' => e = .returned (.bool true) ∧ w' = w := by
  have hn := fun wx => run_neq_slice_nil_any (P := Try.prog) wx 22 3 none 0 0 0 0 Try.underlying22
  go_enter Try.func3, Try.ntmps3
  go_wp2_with (first | (go_at_call 9; refine (zb9_small _ _ _ _ _ (by omega)).mono ?_; rintro e w' ⟨rfl, rfl⟩) | (go_at_call 10; refine (cloneInts_nil _).mono ?_; rintro e w' ⟨rfl, rfl⟩) | (go_at_call 11; refine (zslotOf_nil _ _).mono ?_; rintro e w' ⟨rfl, rfl⟩) | (go_at_call 12; refine (scan_nil _ _).mono ?_; rintro e w' ⟨rfl, rfl⟩))
  go_ret
  exact ⟨by simp, rfl⟩

theorem walk_large (a0 : Option Addr) (len0 cap0 : Nat) (a1 : Int) (w : World) (h : 131072 < len0) :
    Calls Try.prog 3 #[.slice a0 len0 cap0, .int .i64 a1] w fun e w' => e = .returned (.bool true) ∧ w' = w := by
  have hI : (131072 : Int) < (len0 : Int) := by omega
  by_cases h1 : 1048576 < len0
  · go_enter Try.func3, Try.ntmps3
    go_wp2_with (go_at_call 9; refine (zb9_large _ _ _ _ _ h1).mono ?_; rintro e w' ⟨rfl, rfl⟩)
    go_ret
    exact ⟨rfl, rfl⟩
  · go_enter Try.func3, Try.ntmps3
    go_wp2_with (go_at_call 9; refine (zb9_small _ _ _ _ _ (by omega)).mono ?_; rintro e w' ⟨rfl, rfl⟩)
    go_ret
    exact ⟨rfl, rfl⟩

theorem walk_neg (x : Addr) (len0 cap0 : Nat) (a1 : Int) (w : World) (h : len0 ≤ 131072) (h1 : a1 < 0) :
    Calls Try.prog 3 #[.slice (some x) len0 cap0, .int .i64 a1] w fun e w' => e = .returned (.bool true) ∧ w' = w := by
  have hn := fun wx => run_neq_slice_nil_any (P := Try.prog) wx 22 3 (some x) len0 cap0 0 0 Try.underlying22
  have hI : ¬ (131072 : Int) < (len0 : Int) := by omega
  go_enter Try.func3, Try.ntmps3
  go_wp2_with (go_at_call 9; refine (zb9_small _ _ _ _ _ (by omega)).mono ?_; rintro e w' ⟨rfl, rfl⟩)
  go_ret
  exact ⟨rfl, rfl⟩

theorem walk_go (x : Addr) (b off len0 cap0 C : Nat) (f : Nat → Int) (w : World) (h : len0 ≤ 131072) (hx : 0 < len0 → x = ⟨b, off, none⟩) (hc : IntsAt w b off len0 f) :
    Calls Try.prog 3 #[.slice (some x) len0 cap0, .int .i64 (C : Int)] w fun e w' => e = .returned (.bool true) ∧ Below w.heap.size w w' := by
  have hn := fun wx => run_neq_slice_nil_any (P := Try.prog) wx 22 3 (some x) len0 cap0 0 0 Try.underlying22
  have hI : ¬ (131072 : Int) < (len0 : Int) := by omega
  have hC0 : ¬ (C : Int) < 0 := by omega
  have HX : Hid (0 < len0 → x = ⟨b, off, none⟩) := hx
  have HC : Hid (IntsAt w b off len0 f) := hc
  clear hx hc
  go_enter Try.func3, Try.ntmps3
  go_wp2_with (go_at_call 9; refine (zb9_small _ _ _ _ _ (by omega)).mono ?_; rintro e w' ⟨rfl, hw⟩; subst w')
  refine (cloneInts_go x b off len0 cap0 f w (by omega) HX.out HC.out).mono ?_
  rintro e w1 ⟨rfl, hbel, hr⟩
  by_cases hlt : C < len0
  · have hcell := hr.cell hlt
    go_wp2_with fail
    refine (zslotOf_in w.heap.size 0 len0 len0 C (f C) _ hlt (by simpa using hcell)).mono ?_
    rintro e w' ⟨rfl, rfl⟩
    go_wp2_with fail
    refine (scan_in w.heap.size 0 len0 len0 C (f C) _ (by omega) hlt (by simpa using hcell)).mono ?_
    rintro e w' ⟨rfl, rfl⟩
    go_wp2
    go_ret
    exact ⟨by simp, hbel⟩
  · go_wp2_with fail
    refine (zslotOf_out _ len0 len0 (C : Int) _ (by omega)).mono ?_
    rintro e w' ⟨rfl, rfl⟩
    go_wp2_with fail
    refine (scan_out _ len0 len0 (C : Int) _ (by omega) (by omega)).mono ?_
    rintro e w' ⟨rfl, rfl⟩
    go_wp2
    go_ret
    exact ⟨by simp, hbel⟩

theorem walk (a0 : Option Addr) (len0 cap0 : Nat) (z0 : List Int) (a1 : Int) (w : World) (w0 : IsRow .i64 w a0 len0 cap0 z0) (w1 : (Lit.int .i64 a1).wf = true) :
    Calls Try.prog 3 #[.slice a0 len0 cap0, .int .i64 a1] w fun e w' => e = .returned (.bool true) ∧ Below w.heap.size w w' := by
  by_cases hl : 131072 < len0
  · refine (walk_large a0 len0 cap0 a1 w hl).mono fun e w' ⟨he, hw⟩ => ?_
    subst hw
    exact ⟨he, Below.refl _ _⟩
  rcases w0 with ⟨rfl, rfl, rfl, rfl⟩ | ⟨x, rfl, hlc, hm, hz, hc, hw⟩
  · refine (walk_nil a1 w).mono fun e w' ⟨he, hw⟩ => ?_
    subst hw
    exact ⟨he, Below.refl _ _⟩
  by_cases hneg : a1 < 0
  · refine (walk_neg x len0 cap0 a1 w (by omega) hneg).mono fun e w' ⟨he, hw⟩ => ?_
    subst hw
    exact ⟨he, Below.refl _ _⟩
  obtain ⟨C, rfl⟩ : ∃ C : Nat, a1 = (C : Int) := ⟨a1.toNat, by omega⟩
  obtain ⟨b, off, hx, hi⟩ := row_open hlc hz hc
  exact walk_go x b off len0 cap0 C _ w (by omega) hx hi

/-! ### THE ROW's STEP: WRITTEN OUT: LEAVE IT -/
set_option maxRecDepth 100000 in
theorem lifted (os : Os) (started : os.Started) (H : Type) (enc : TypeId × Value → H) :
    ReturnsInHanded {} Try.checked os 3 .any (Rows.fnSlotOfMatchesScanModelSpec.pre6 enc Try.prog Try.f3 Rows.fnSlotOfMatchesScanModelRow.domain false) (Rows.fnSlotOfMatchesScanModelSpec.post enc Try.prog Try.f3 false true false false) := by
  refine returnsInHanded_of_change (C := Try.checked) own started (by kernel_rfl) Try.func3
    (ChangeSpec.witness6 (enc := enc) (C := Try.checked) false ⟨#[], #[.slice none 0 0, .int .i64 0], []⟩ 8 (by kernel_rfl) (by kernel_rfl) (by kernel_rfl) (by kernel_rfl)) ?_
  intro W base args ds gs before hval0 hW hcnd _
  have hval : ∀ (j : Nat) t v, Try.f3.params[j]? = some t → args[j]? = some v → Value.okWide Try.prog W .any base t v := hval0
  have hW' := hW
  obtain ⟨p, q, hA0, hV, rfl, hfz, hnd⟩ := hW
  have hA : DataW.TrodAll enc Try.prog W 0 (fun _ => true) true Try.f3.params.toList args.toList ds p := hA0
  rw [Try.params3] at hA hval
  obtain ⟨v0, vs0, d0, ds0, p0, q0, hargs, rfl, rfl, h0, r0⟩ := trodAll_cons hA
  obtain ⟨v1, vs1, d1, ds1, p1, q1, rfl, rfl, rfl, h1, r1⟩ := trodAll_cons r0
  obtain ⟨rfl, rfl, rfl⟩ := trodAll_nil r1
  obtain rfl : args = #[v0, v1] := by cases args; simp_all
  obtain ⟨rfl, rfl⟩ := trodVars_none hV
  obtain ⟨a0, len0, cap0, rfl⟩ := okWide_slice Try.underlying22 (hval 0 22 v0 rfl rfl)
  have k0 := h0
  have lt0 : ∀ x ∈ p0, x.block < W.heap.size := by obtain ⟨m, hm⟩ := k0; exact DataW.trod_lt m _ _ _ hm
  obtain ⟨z0, w0⟩ : ∃ zs, IsRow .i64 W a0 len0 cap0 zs := by
    obtain ⟨fuel, hf⟩ := h0
    rcases open_ints Try.underlying22 Try.underlying3 (by kernel_rfl) hf with ⟨hcs, _⟩ | ⟨x, l, c, zs, hcs, _, hl, hm, hz, _, hcell, hwz⟩
    · simp [Value.cells] at hcs
      obtain ⟨rfl, rfl, rfl⟩ := hcs
      exact ⟨[], .inl ⟨rfl, rfl, rfl, rfl⟩⟩
    · simp [Value.cells] at hcs
      obtain ⟨rfl, rfl, rfl⟩ := hcs
      exact ⟨zs, .inr ⟨_, rfl, hl, hm, by simpa using hz, hcell, hwz⟩⟩
  obtain ⟨a1, rfl, rfl, rfl, w1⟩ := open_int Try.underlying3 (hval 1 3 v1 rfl rfl) h1
  clear hA0 hval0
  refine (walk a0 len0 cap0 z0 a1 W w0 w1).mono fun e W' ⟨he, bel⟩ => ?_
  subst he
  exact ⟨_, rfl, _, _, _, [], _, [], hW', trodAll_mk1 (shut_bool Try.underlying4 _), (trodAll_cons_mk (Below.trod laidOut (by kernel_rfl) (of_decide_eq_true (by kernel_rfl)) k0 bel lt0) (trodAll_cons_mk (shut_int Try.underlying3 w1) trodAll_mk0)), rfl, bel.frame _, fun h => by cases h⟩

theorem over : Rows.fnSlotOfMatchesScanModelRow.holds Try.pinned (OpenSpec.ofChange Rows.fnSlotOfMatchesScanModelSpec) :=
  OpenClaim.holds_of_wide 3 Try.f3 rfl rfl rfl rfl rfl rfl rfl ⟨rfl, rfl, rfl, rfl, rfl⟩ rfl rfl rfl rfl rfl (by kernel_rfl) Try.func3 (by kernel_rfl)
    (of_decide_eq_true (by kernel_rfl)) (by unfold Func.isWrapper; first | (rw [if_pos (by decide +kernel)]; kernel_rfl) | (rw [if_neg (by decide +kernel)]; exact ⟨rfl, rfl⟩))
    (fun os started H enc _ => lifted os started H enc)

/-- THE STATEMENT -/
theorem proved : Rows.FnSlotOfMatchesScanModelSaid := over
end Go.Proofs.Qxb6604287a.fnSlotOfMatchesScanModel
