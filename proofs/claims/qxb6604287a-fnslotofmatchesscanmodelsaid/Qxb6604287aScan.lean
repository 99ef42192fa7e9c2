/-
  CONTRACTS of cloneInts (10), slotScanModel (12), zzBytes_FnSlotOfMatchesScanModel (9).
-/
import Derived.Test.Qxb6604287aSlot
namespace Go.Proofs.Qxb6604287a
open Go.RowKit

def IntsAt (w : World) (b off n : Nat) (f : Nat → Int) : Prop := ∀ j, j < n → w.cell? ⟨b, off + j, none⟩ = some (.int .i64 (f j))

theorem info3' : (Try.prog.info? 3).map (fun i => (i.zero, i.size, i.bytes)) = some (some (.int .i64 0), 1, 8) := by kernel_rfl

theorem zb9_small (a : Option Addr) (n cap : Nat) (c : Int) (w : World) (h : n ≤ 1048576) :
    Calls Try.prog 9 #[.slice a n cap, .int .i64 c] w fun e w' => e = .returned (.bool true) ∧ w' = w := by
  have h1 : ¬ (1048576 : Int) < (n : Int) := by omega
  go_enter Try.func9, Try.ntmps9
  go_wp2
  go_ret
  exact ⟨rfl, rfl⟩
theorem zb9_large (a : Option Addr) (n cap : Nat) (c : Int) (w : World) (h : 1048576 < n) :
    Calls Try.prog 9 #[.slice a n cap, .int .i64 c] w fun e w' => e = .returned (.bool false) ∧ w' = w := by
  have h1 : (1048576 : Int) < (n : Int) := by omega
  go_enter Try.func9, Try.ntmps9
  go_wp2
  go_ret
  exact ⟨rfl, rfl⟩

theorem cloneInts_nil (w : World) :
    Calls Try.prog 10 #[.slice none 0 0] w fun e w' => e = .returned (.slice none 0 0) ∧ w' = w := by
  have hn := fun wx => Lib.run_eql_slice_nil (P := Try.prog) wx 22 3 none 0 0 0 0 Try.underlying22
  go_enter Try.func10, Try.ntmps10
  go_wp2
  go_ret
  exact ⟨rfl, rfl⟩

theorem cloneInts_go (x : Addr) (b off n cap : Nat) (f : Nat → Int) (w : World) (hn47 : n ≤ 1048576) (hx : 0 < n → x = ⟨b, off, none⟩) (hc : IntsAt w b off n f) :
    Calls Try.prog 10 #[.slice (some x) n cap] w fun e w' => e = .returned (.slice (some ⟨w.heap.size, 0, none⟩) n n) ∧ Below w.heap.size w w' ∧ w'.rowIs w.heap.size 3 n (fun j => .int .i64 (f j)) := by
  have hn := fun wx => Lib.run_eql_slice_nil (P := Try.prog) wx 22 3 (some x) n cap 0 0 Try.underlying22
  have hmk := run_make_row' (P := Try.prog) 22 3 (.int .i64 0) 8 Try.underlying22 info3' rfl .i64 .i64 n (by omega) (by omega)
  have HX : Hid (0 < n → x = ⟨b, off, none⟩) := hx
  have HC : Hid (IntsAt w b off n f) := hc
  clear hx hc
  go_enter Try.func10, Try.ntmps10
  go_wp2
  clear hmk hn
  go_loopw [4] (fun i wr => ∃ k : Nat, k ≤ n ∧ i = .int .i64 k ∧ Below w.heap.size w wr ∧ wr.rowIs w.heap.size 3 n (fun j => if j < k then .int .i64 (f j) else .int .i64 0)) (fun i _ => n - (intOf i).toNat)
  case atStart => exact ⟨0, Nat.zero_le _, rfl, (Below.refl _ _).alloc (Nat.le_refl _) _, (World.rowIs_made w _ n 3).congr (fun j _ => by simp)⟩
  case round =>
    obtain ⟨k, hk, rfl, hbel, hr⟩ := hrel
    by_cases hlt : k < n
    · obtain rfl := HX.out (by omega)
      have hkI : (k : Int) < (n : Int) := by omega
      have hcw := HC.out k hlt
      have hbw : b < w.heap.size := World.block_lt_of_cell? _ _ hcw
      have hcr : wr.cell? ⟨b, off + k, none⟩ = some (.int .i64 (f k)) := (hbel.cell (p := ⟨b, off + k, none⟩) hbw).trans hcw
      have hcell := hr.cell hlt
      have hf := hr.frozen k
      simp only [Nat.lt_irrefl, if_false] at hcell
      clear hcw
      go_wp2
      go_roundw
      case rel =>
        refine ⟨k + 1, by omega, by go_num, hbel.setCell (Nat.le_refl _) _, (hr.set k _).congr (fun j hj => ?_)⟩
        by_cases e : j = k
        · subst e; simp
        · by_cases e2 : j < k
          · rw [if_neg e, if_pos e2, if_pos (by omega)]
          · rw [if_neg e, if_neg e2, if_neg (by omega)]
      case measure => simp [intOf]; omega
    · have hkI : ¬ (k : Int) < (n : Int) := by omega
      obtain rfl : k = n := by omega
      go_wp2
      go_ret
      exact ⟨rfl, hbel, hr.congr (fun j hj => by rw [if_pos hj])⟩

theorem scan_nil (c : Int) (w : World) :
    Calls Try.prog 12 #[.slice none 0 0, .int .i64 c] w fun e w' => e = .returned (.int .i64 c) ∧ w' = w := by
  have hn := fun wx => Lib.run_eql_slice_nil (P := Try.prog) wx 22 3 none 0 0 0 0 Try.underlying22
  go_enter Try.func12, Try.ntmps12
  go_wp2
  go_ret
  exact ⟨rfl, rfl⟩

theorem scan_in (b off n cap C : Nat) (z : Int) (w : World) (hn47 : n ≤ 1048576) (hC : C < n) (hc : w.cell? ⟨b, off + C, none⟩ = some (.int .i64 z)) :
    Calls Try.prog 12 #[.slice (some ⟨b, off, none⟩) n cap, .int .i64 (C : Int)] w fun e w' => e = .returned (.int .i64 z) ∧ w' = w := by
  have hn := fun wx => Lib.run_eql_slice_nil (P := Try.prog) wx 22 3 (some ⟨b, off, none⟩) n cap 0 0 Try.underlying22
  go_enter Try.func12, Try.ntmps12
  go_wp2
  clear hn
  go_loop [5] (fun i => ∃ k : Nat, k ≤ C ∧ i = .int .i64 k) (fun i => n - (intOf i).toNat)
  case atStart => exact ⟨0, Nat.zero_le _, rfl⟩
  case round =>
    obtain ⟨k, hk, rfl⟩ := hrel
    have hkI : (k : Int) < (n : Int) := by omega
    by_cases e : k = C
    · subst e
      go_wp2
      go_ret
      exact ⟨rfl, rfl⟩
    · have hne : ((k : Int) == (C : Int)) = false := by simp; omega
      go_wp2
      go_round
      case rel => exact ⟨k + 1, by omega, by go_num⟩
      case measure => simp [intOf]; omega

theorem scan_out (x : Addr) (n cap : Nat) (c : Int) (w : World) (hn47 : n ≤ 1048576) (hC : (n : Int) ≤ c) :
    Calls Try.prog 12 #[.slice (some x) n cap, .int .i64 c] w fun e w' => e = .returned (.int .i64 (-1)) ∧ w' = w := by
  have hn := fun wx => Lib.run_eql_slice_nil (P := Try.prog) wx 22 3 (some x) n cap 0 0 Try.underlying22
  go_enter Try.func12, Try.ntmps12
  go_wp2
  clear hn
  go_loop [5] (fun i => ∃ k : Nat, k ≤ n ∧ i = .int .i64 k) (fun i => n - (intOf i).toNat)
  case atStart => exact ⟨0, Nat.zero_le _, rfl⟩
  case round =>
    obtain ⟨k, hk, rfl⟩ := hrel
    by_cases hlt : k < n
    · have hkI : (k : Int) < (n : Int) := by omega
      have hne : ((k : Int) == c) = false := by simp; omega
      go_wp2
      go_round
      case rel => exact ⟨k + 1, by omega, by go_num⟩
      case measure => simp [intOf]; omega
    · have hkI : ¬ (k : Int) < (n : Int) := by omega
      go_wp2
      go_ret
      exact ⟨rfl, rfl⟩
end Go.Proofs.Qxb6604287a
