/-
  THE PROOF OF 'Rows.FnSlotOfIdentityKeepIsNoKeepSaid'. The frame is the guide's shell for this row; the walk is ours.
-/
import Derived.Test.Qxb6604287aRows
import Derived.Test.Qxb6604287aSlot
import Derived.WalkKit
import Derived.ProofKit
import Derived.OpenShut
import Derived.ShutString
namespace Go.Proofs.Qxb6604287a.fnSlotOfIdentityKeepIsNoKeep
open Go.ChangeShapes Go.WideShapes Go.ChangeAt Go.RowKit
open Go.ChangeMaps (open_string shut_string)
set_option linter.unusedVariables false      -- a walk need not use every 'w<i>' (that an integer argument fits its kind)

theorem own : ownKnob Try.prog.godebug = none := by kernel_rfl

theorem info3 : (Try.prog.info? 3).map (fun i => (i.zero, i.size, i.bytes)) = some (some (.int .i64 0), 1, 8) := by kernel_rfl

/-! ### STEP 1: THE WALK -/
theorem walk_main (N C : Nat) (hN : N ≤ 65536) (hC : C ≤ 9223372036854775807) (w : World) :
    Calls Try.prog 4 #[.int .i64 (N : Int), .int .i64 (C : Int)] w fun e w' => e = .returned (.bool true) ∧ Grown w w' := by
  have hmk := run_make_row' (P := Try.prog) 22 3 (.int .i64 0) 8 Try.underlying22 info3 rfl .i64 .i64 N (by omega) (by omega)
  go_enter Try.func4, Try.ntmps4
  go_wp2
  clear hmk
  go_loopw [6] (fun i wr => ∃ k : Nat, k ≤ N ∧ i = .int .i64 k ∧ Grown w wr ∧ wr.rowIs w.heap.size 3 N (fun j => if j < k then .int .i64 (j : Int) else .int .i64 0)) (fun i _ => N - (intOf i).toNat)
  case atStart => exact ⟨0, Nat.zero_le _, rfl, (Grown.refl _).alloc _ _, (World.rowIs_made w _ N 3).congr (fun j _ => by simp)⟩
  case round =>
    obtain ⟨k, hk, rfl, hg, hr⟩ := hrel
    by_cases hlt : k < N
    · have hkI : (k : Int) < (N : Int) := by omega
      have hc := hr.cell hlt
      have hf := hr.frozen k
      simp only [Nat.lt_irrefl, if_false] at hc
      go_wp2
      go_roundw
      case rel =>
        refine ⟨k + 1, by omega, by go_num, hg.setCell (Nat.le_refl _) _, (hr.set k _).congr (fun j hj => ?_)⟩
        by_cases e : j = k
        · subst e; simp
        · by_cases e2 : j < k
          · rw [if_neg e, if_pos e2, if_pos (by omega)]
          · rw [if_neg e, if_neg e2, if_neg (by omega)]
      case measure => simp [intOf]; omega
    · have hkI : ¬ (k : Int) < (N : Int) := by omega
      obtain rfl : k = N := by omega
      by_cases hcn : C < k
      · have hcI : (C : Int) < (k : Int) := by omega
        have hcell := hr.cell hcn
        simp only [hcn, if_true] at hcell
        go_wp2_with fail
        refine (zslotOf_in w.heap.size 0 k k C (C : Int) _ hcn (by simpa using hcell)).mono ?_
        rintro e w' ⟨rfl, rfl⟩
        go_wp2_with fail
        refine (zslotOf_nil _ _).mono ?_
        rintro e w' ⟨rfl, rfl⟩
        go_wp2
        go_ret
        exact ⟨by simp, hg⟩
      · have hcI : ¬ (C : Int) < (k : Int) := by omega
        go_wp2_with fail
        refine (zslotOf_out _ k k (C : Int) _ (by omega)).mono ?_
        rintro e w' ⟨rfl, rfl⟩
        go_wp2
        go_ret
        exact ⟨rfl, hg⟩

theorem walk (a0 : Int) (a1 : Int) (w0 : (Lit.int .i64 a0).wf = true) (w1 : (Lit.int .i64 a1).wf = true) (w : World) :
    Calls Try.prog 4 #[.int .i64 a0, .int .i64 a1] w fun e w' => e = .returned (.bool true) ∧ Grown w w' := by
  by_cases h1 : a0 < 0
  · go_enter Try.func4, Try.ntmps4
    go_wp2
    go_ret
    exact ⟨rfl, Grown.refl _⟩
  by_cases h2 : 65536 < a0
  · go_enter Try.func4, Try.ntmps4
    go_wp2
    go_ret
    exact ⟨rfl, Grown.refl _⟩
  by_cases h3 : a1 < 0
  · go_enter Try.func4, Try.ntmps4
    go_wp2
    go_ret
    exact ⟨rfl, Grown.refl _⟩
  obtain ⟨N, rfl⟩ : ∃ N : Nat, a0 = (N : Int) := ⟨a0.toNat, by omega⟩
  obtain ⟨C, rfl⟩ : ∃ C : Nat, a1 = (C : Int) := ⟨a1.toNat, by omega⟩
  have hb := bounds_i64 w1
  exact walk_main N C (by omega) (by omega) w

/-! ### THE ROW's STEP: WRITTEN OUT: LEAVE IT -/
set_option maxRecDepth 100000 in
theorem lifted (os : Os) (started : os.Started) (H : Type) (enc : TypeId × Value → H) :
    ReturnsInHanded {} Try.checked os 4 .any (Rows.fnSlotOfIdentityKeepIsNoKeepSpec.pre6 enc Try.prog Try.f4 Rows.fnSlotOfIdentityKeepIsNoKeepRow.domain false) (Rows.fnSlotOfIdentityKeepIsNoKeepSpec.post enc Try.prog Try.f4 false true false false) := by
  refine returnsInHanded_of_change (C := Try.checked) own started (by kernel_rfl) Try.func4
    (ChangeSpec.witness6 (enc := enc) (C := Try.checked) false ⟨#[], #[.int .i64 0, .int .i64 0], []⟩ 8 (by kernel_rfl) (by kernel_rfl) (by kernel_rfl) (by kernel_rfl)) ?_
  intro W base args ds gs before hval0 hW hcnd _
  have hval : ∀ (j : Nat) t v, Try.f4.params[j]? = some t → args[j]? = some v → Value.okWide Try.prog W .any base t v := hval0
  have hW' := hW
  obtain ⟨p, q, hA0, hV, rfl, hfz, hnd⟩ := hW
  have hA : DataW.TrodAll enc Try.prog W 0 (fun _ => true) true Try.f4.params.toList args.toList ds p := hA0
  rw [Try.params4] at hA hval
  obtain ⟨v0, vs0, d0, ds0, p0, q0, hargs, rfl, rfl, h0, r0⟩ := trodAll_cons hA
  obtain ⟨v1, vs1, d1, ds1, p1, q1, rfl, rfl, rfl, h1, r1⟩ := trodAll_cons r0
  obtain ⟨rfl, rfl, rfl⟩ := trodAll_nil r1
  obtain rfl : args = #[v0, v1] := by cases args; simp_all
  obtain ⟨rfl, rfl⟩ := trodVars_none hV
  obtain ⟨a0, rfl, rfl, rfl, w0⟩ := open_int Try.underlying3 (hval 0 3 v0 rfl rfl) h0
  obtain ⟨a1, rfl, rfl, rfl, w1⟩ := open_int Try.underlying3 (hval 1 3 v1 rfl rfl) h1
  clear hA0 hval0
  simp only [List.append_nil] at hW'
  refine (walk a0 a1 w0 w1 W).mono fun e W' ⟨he, hg⟩ => ?_
  subst he
  exact ⟨_, rfl, post_of_same (pa := []) (pv := []) hW' (fun _ _ _ => (trodAll_cons_mk (shut_bool Try.underlying4 _) trodAll_mk0)) (fun sp _ => (trodAll_cons_mk (shut_int Try.underlying3 w0) (trodAll_cons_mk (shut_int Try.underlying3 w1) trodAll_mk0))) (fun _ _ => rfl) rfl
    (hg.frame _) hg.2.1 (ok_one (by kernel_rfl) rfl (okWide_bool_mk Try.underlying4 _))⟩

theorem over : Rows.fnSlotOfIdentityKeepIsNoKeepRow.holds Try.pinned (OpenSpec.ofChange Rows.fnSlotOfIdentityKeepIsNoKeepSpec) :=
  OpenClaim.holds_of_wide 4 Try.f4 rfl rfl rfl rfl rfl rfl rfl ⟨rfl, rfl, rfl, rfl, rfl⟩ rfl rfl rfl rfl rfl (by kernel_rfl) Try.func4 (by kernel_rfl)
    (of_decide_eq_true (by kernel_rfl)) (by unfold Func.isWrapper; first | (rw [if_pos (by decide +kernel)]; kernel_rfl) | (rw [if_neg (by decide +kernel)]; exact ⟨rfl, rfl⟩))
    (fun os started H enc _ => lifted os started H enc)

/-- THE STATEMENT -/
theorem proved : Rows.FnSlotOfIdentityKeepIsNoKeepSaid :=
  over
end Go.Proofs.Qxb6604287a.fnSlotOfIdentityKeepIsNoKeep
