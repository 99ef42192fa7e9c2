/-
  THE PROOF OF 'Rows.FnWholeTextReadsBackOwnDigitsSaid'. The frame is the guide's shell for this row; the walk is ours.
-/
import Derived.Test.Qxb6604287aRows
import Derived.Test.Qxb6604287aText
import Derived.Test.Qxb6604287aDigits
import Derived.WalkKit
import Derived.ProofKit
import Derived.OpenShut
import Derived.ShutString
namespace Go.Proofs.Qxb6604287a.fnWholeTextReadsBackOwnDigits
open Go.ChangeShapes Go.WideShapes Go.ChangeAt Go.RowKit
open Go.ChangeMaps (open_string shut_string)
set_option linter.unusedVariables false      -- a walk need not use every 'w<i>' (that an integer argument fits its kind)

theorem own : ownKnob Try.prog.godebug = none := by kernel_rfl

/-! ### STEP 1: THE WALK -/
theorem row18 (w : World) : (w.alloc (.cells #[.int .u8 0, .int .u8 0, .int .u8 0, .int .u8 0, .int .u8 0, .int .u8 0, .int .u8 0, .int .u8 0, .int .u8 0, .int .u8 0, .int .u8 0, .int .u8 0, .int .u8 0, .int .u8 0, .int .u8 0, .int .u8 0, .int .u8 0, .int .u8 0] 32)).rowIs w.heap.size 32 18 (fun _ => .int .u8 0) := by
  have h := World.rowIs_alloc w (Array.replicate 18 (.int .u8 0)) 32 (fun _ => .int .u8 0) (fun i hi => by simp at hi; simp [hi])
  exact h

theorem u32 : Try.prog.underlying 32 = some (.array (Try.prog.arrayLen 32) (Try.prog.elem 32)) := by kernel_rfl
theorem al32 : Try.prog.arrayLen 32 = 18 := by kernel_rfl
theorem el32 : Try.prog.elem 32 = 5 := by kernel_rfl
theorem slice18 (B p : Nat) (hp : p < 18) (wx : World) : (Instr.sliceAt 32 (.pointer (some ⟨B, 0, none⟩)) (some (.int .i64 (p : Int))) none none).run Try.prog wx = .ok (.slice (some ⟨B, p, none⟩) (18 - p) (18 - p)) wx := by
  rw [run_sliceAt_array_l wx 32 ⟨B, 0, none⟩ u32 .i64 (p : Int) (by omega) (by rw [al32]; omega)]
  rw [el32, al32]
  simp [go_sem, slicedAt, Addr.add]
  rw [if_neg (by omega)]
  by_cases h0 : p = 0
  · rw [if_pos h0, h0]
  · rw [if_neg h0]

/-- one digit more is written -/
theorem row_step {w wr : World} {N q M : Nat} (hq : q ≤ 17) (hM : M = N / 10 ^ (18 - (q + 1))) (hr : wr.rowIs w.heap.size 32 18 (fun j => if q + 1 ≤ j then .int .u8 (cD N j) else .int .u8 0)) :
    (wr.setCell ⟨w.heap.size, q, none⟩ (.int .u8 (48 + (M : Int) % 10))).rowIs w.heap.size 32 18 (fun j => if q ≤ j then .int .u8 (cD N j) else .int .u8 0) := by
  refine (hr.set q _).congr (fun j hj => ?_)
  by_cases e : j = q
  · subst e
    have h1 : 48 + (M : Int) % 10 = cD N j := by
      unfold cD
      rw [hM, show 18 - (j + 1) = 17 - j by omega]
      omega
    simp [h1]
  · by_cases e2 : q + 1 ≤ j
    · rw [if_neg e, if_pos e2, if_pos (by omega)]
    · rw [if_neg e, if_neg e2, if_neg (by omega)]

/-- a zero is written ahead of a number that is spent -/
theorem row_pad {w wr : World} {N q : Nat} (hq : q ≤ 17) (hz : N / 10 ^ (18 - (q + 1)) = 0) (hr : wr.rowIs w.heap.size 32 18 (fun j => if q + 1 ≤ j then .int .u8 (cD N j) else .int .u8 0)) :
    (wr.setCell ⟨w.heap.size, q, none⟩ (.int .u8 48)).rowIs w.heap.size 32 18 (fun j => if q ≤ j then .int .u8 (cD N j) else .int .u8 0) := by
  refine (hr.set q _).congr (fun j hj => ?_)
  by_cases e : j = q
  · subst e
    have h1 : cD N j = 48 := cD_zero N j (j + 1) hz (by omega) (by omega)
    simp [h1]
  · by_cases e2 : q + 1 ≤ j
    · rw [if_neg e, if_pos e2, if_pos (by omega)]
    · rw [if_neg e, if_neg e2, if_neg (by omega)]

theorem bytes_tail {w wr : World} {N p : Nat} (hp : p ≤ 18) (hr : wr.rowIs w.heap.size 32 18 (fun j => if p ≤ j then .int .u8 (cD N j) else .int .u8 0)) : BytesAt wr w.heap.size p (18 - p) (fun j => cD N (p + j)) := by
  intro j hj
  have h := hr.cell (i := p + j) (by omega)
  rw [if_pos (by omega)] at h
  exact ⟨h, cD_range N (p + j)⟩

theorem reads {w wr : World} {N p : Nat} (hp : p < 18) (hz : N / 10 ^ (18 - p) = 0) (hr : wr.rowIs w.heap.size 32 18 (fun j => if p ≤ j then .int .u8 (cD N j) else .int .u8 0)) :
    Calls Try.prog 15 #[.slice (some ⟨w.heap.size, p, none⟩) (18 - p) (18 - p)] wr fun e w' => e = .returned (.tuple #[.int .i64 (N : Int), .bool true]) ∧ w' = wr := by
  have h := zwholeText_any (some ⟨w.heap.size, p, none⟩) w.heap.size p (18 - p) (18 - p) (fun j => cD N (p + j)) wr (fun _ => rfl) (bytes_tail (by omega) hr)
  rw [wtB_cD N p hp, wtV_cD N p hp hz] at h
  exact h

set_option maxHeartbeats 800000 in
theorem walk_main (N W : Nat) (hN : N ≤ 999999999999999999) (hW : W ≤ 18) (w : World) :
    Calls Try.prog 6 #[.int .i64 (N : Int), .int .i64 (W : Int)] w fun e w' => e = .returned (.bool true) ∧ Grown w w' := by
  have hNI : ¬ ((N : Int) < 0) := by omega
  have hNI2 : ¬ ((999999999999999999 : Int) < (N : Int)) := by omega
  have hWI : ¬ ((W : Int) < 0) := by omega
  have hWI2 : ¬ ((18 : Int) < (W : Int)) := by omega
  go_enter Try.func6, Try.ntmps6
  go_wp2
  go_loopw [6, 7] (fun i m wr => ∃ p M : Nat, 1 ≤ p ∧ p ≤ 18 ∧ M = N / 10 ^ (18 - p) ∧ i = .int .i64 p ∧ m = .int .i64 M ∧ Grown w wr ∧ wr.rowIs w.heap.size 32 18 (fun j => if p ≤ j then .int .u8 (cD N j) else .int .u8 0)) (fun i _ _ => (intOf i).toNat)
  case atStart => exact ⟨18, N, by omega, by omega, by simp, rfl, rfl, (Grown.refl _).alloc _ _, (row18 w).congr (fun j hj => by rw [if_neg (by omega)])⟩
  case round =>
    obtain ⟨p, M, hp1, hp2, hM, rfl, rfl, hg, hr⟩ := hrel
    obtain ⟨q, rfl⟩ : ∃ q, p = q + 1 := ⟨p - 1, by omega⟩
    have HM : Hid (M = N / 10 ^ (18 - (q + 1))) := hM
    have hMl : M ≤ N := by rw [hM]; exact Nat.div_le_self _ _
    clear hM
    have hcell := hr.cell (i := q) (by omega)
    have hf := hr.frozen q
    rw [if_neg (by omega)] at hcell
    have hq18 : (q : Int) < 18 := by omega
    have HD : Hid (M / 10 = N / 10 ^ (18 - q)) := by rw [HM.out]; exact div_step N q (by omega)
    by_cases hz : M / 10 = 0
    · have hzI : ((M : Int) / 10 == 0) = true := by simp; omega
      have HZ : Hid (N / 10 ^ (18 - q) = 0) := by rw [← HD.out]; exact hz
      clear hz
      go_wp2
      clear hzI hcell hf
      have hr2 := row_step (by omega) HM.out hr
      have hg2 : Grown w (wr.setCell ⟨w.heap.size, q, none⟩ (.int .u8 (48 + (M : Int) % 10))) := hg.setCell (Nat.le_refl _) _
      clear hr hg
      go_loopw [6] (fun i wx => ∃ p : Nat, p < 18 ∧ Hid (N / 10 ^ (18 - p) = 0) ∧ i = .int .i64 p ∧ Grown w wx ∧ wx.rowIs w.heap.size 32 18 (fun j => if p ≤ j then .int .u8 (cD N j) else .int .u8 0)) (fun i _ => (intOf i).toNat)
      case atStart => exact ⟨q, by omega, HZ, rfl, hg2, hr2⟩
      case round =>
        obtain ⟨p, hp, HP, rfl, hg, hr⟩ := hrel
        clear hr2 hg2
        by_cases hlt : 18 - (p : Int) < (W : Int)
        · obtain ⟨t, rfl⟩ : ∃ t, p = t + 1 := ⟨p - 1, by omega⟩
          have hcell := hr.cell (i := t) (by omega)
          have hf := hr.frozen t
          rw [if_neg (by omega)] at hcell
          have ht18 : (t : Int) < 18 := by omega
          go_wp2
          go_roundw
          case rel => exact ⟨t, by omega, zero_more N _ _ HP.out (by omega), by go_num, hg.setCell (Nat.le_refl _) _, row_pad (by omega) HP.out hr⟩
          case measure => simp [intOf]
        · have hsl := slice18 w.heap.size p hp
          go_wp2_with fail
          refine (reads hp HP.out hr).mono ?_
          rintro e w' ⟨rfl, rfl⟩
          go_wp2
          go_ret
          exact ⟨by simp, hg⟩
    · have hzI : ((M : Int) / 10 == 0) = false := by simp; omega
      go_wp2
      go_roundw
      case rel => exact ⟨q, M / 10, left_some N q hN (by rw [← HD.out]; exact hz), by omega, HD.out, by go_num, by go_num, hg.setCell (Nat.le_refl _) _, row_step (by omega) HM.out hr⟩
      case measure => simp [intOf]

theorem walk (a0 : Int) (a1 : Int) (w0 : (Lit.int .i64 a0).wf = true) (w1 : (Lit.int .i64 a1).wf = true) (w : World) :
    Calls Try.prog 6 #[.int .i64 a0, .int .i64 a1] w fun e w' => e = .returned (.bool true) ∧ Grown w w' := by
  by_cases h1 : a0 < 0
  · go_enter Try.func6, Try.ntmps6
    go_wp2
    go_ret
    exact ⟨rfl, Grown.refl _⟩
  by_cases h2 : 999999999999999999 < a0
  · go_enter Try.func6, Try.ntmps6
    go_wp2
    go_ret
    exact ⟨rfl, Grown.refl _⟩
  by_cases h3 : a1 < 0
  · go_enter Try.func6, Try.ntmps6
    go_wp2
    go_ret
    exact ⟨rfl, Grown.refl _⟩
  by_cases h4 : 18 < a1
  · go_enter Try.func6, Try.ntmps6
    go_wp2
    go_ret
    exact ⟨rfl, Grown.refl _⟩
  obtain ⟨N, rfl⟩ : ∃ N : Nat, a0 = (N : Int) := ⟨a0.toNat, by omega⟩
  obtain ⟨C, rfl⟩ : ∃ C : Nat, a1 = (C : Int) := ⟨a1.toNat, by omega⟩
  exact walk_main N C (by omega) (by omega) w

/-! ### THE ROW's STEP: WRITTEN OUT: LEAVE IT -/
set_option maxRecDepth 100000 in
theorem lifted (os : Os) (started : os.Started) (H : Type) (enc : TypeId × Value → H) :
    ReturnsInHanded {} Try.checked os 6 .any (Rows.fnWholeTextReadsBackOwnDigitsSpec.pre6 enc Try.prog Try.f6 Rows.fnWholeTextReadsBackOwnDigitsRow.domain false) (Rows.fnWholeTextReadsBackOwnDigitsSpec.post enc Try.prog Try.f6 false true false false) := by
  refine returnsInHanded_of_change (C := Try.checked) own started (by kernel_rfl) Try.func6
    (ChangeSpec.witness6 (enc := enc) (C := Try.checked) false ⟨#[], #[.int .i64 0, .int .i64 0], []⟩ 8 (by kernel_rfl) (by kernel_rfl) (by kernel_rfl) (by kernel_rfl)) ?_
  intro W base args ds gs before hval0 hW hcnd _
  have hval : ∀ (j : Nat) t v, Try.f6.params[j]? = some t → args[j]? = some v → Value.okWide Try.prog W .any base t v := hval0
  have hW' := hW
  obtain ⟨p, q, hA0, hV, rfl, hfz, hnd⟩ := hW
  have hA : DataW.TrodAll enc Try.prog W 0 (fun _ => true) true Try.f6.params.toList args.toList ds p := hA0
  rw [Try.params6] at hA hval
  obtain ⟨v0, vs0, d0, ds0, p0, q0, hargs, rfl, rfl, h0, r0⟩ := trodAll_cons hA
  obtain ⟨v1, vs1, d1, ds1, p1, q1, rfl, rfl, rfl, h1, r1⟩ := trodAll_cons r0
  obtain ⟨rfl, rfl, rfl⟩ := trodAll_nil r1
  obtain rfl : args = #[v0, v1] := by cases args; simp_all
  obtain ⟨rfl, rfl⟩ := trodVars_none hV
  obtain ⟨a0, rfl, rfl, rfl, w0⟩ := open_int Try.underlying2 (hval 0 2 v0 rfl rfl) h0
  obtain ⟨a1, rfl, rfl, rfl, w1⟩ := open_int Try.underlying3 (hval 1 3 v1 rfl rfl) h1
  clear hA0 hval0
  simp only [List.append_nil] at hW'
  refine (walk a0 a1 w0 w1 W).mono fun e W' ⟨he, hg⟩ => ?_
  subst he
  exact ⟨_, rfl, post_of_same (pa := []) (pv := []) hW' (fun _ _ _ => (trodAll_cons_mk (shut_bool Try.underlying4 _) trodAll_mk0)) (fun sp _ => (trodAll_cons_mk (shut_int Try.underlying2 w0) (trodAll_cons_mk (shut_int Try.underlying3 w1) trodAll_mk0))) (fun _ _ => rfl) rfl
    (hg.frame _) hg.2.1 (ok_one (by kernel_rfl) rfl (okWide_bool_mk Try.underlying4 _))⟩

theorem over : Rows.fnWholeTextReadsBackOwnDigitsRow.holds Try.pinned (OpenSpec.ofChange Rows.fnWholeTextReadsBackOwnDigitsSpec) :=
  OpenClaim.holds_of_wide 6 Try.f6 rfl rfl rfl rfl rfl rfl rfl ⟨rfl, rfl, rfl, rfl, rfl⟩ rfl rfl rfl rfl rfl (by kernel_rfl) Try.func6 (by kernel_rfl)
    (of_decide_eq_true (by kernel_rfl)) (by unfold Func.isWrapper; first | (rw [if_pos (by decide +kernel)]; kernel_rfl) | (rw [if_neg (by decide +kernel)]; exact ⟨rfl, rfl⟩))
    (fun os started H enc _ => lifted os started H enc)

/-- THE STATEMENT -/
theorem proved : Rows.FnWholeTextReadsBackOwnDigitsSaid :=
  over
end Go.Proofs.Qxb6604287a.fnWholeTextReadsBackOwnDigits
