/-
  CONTRACTS of wholeText (23), ZZwholeText (15), cloneBytes (14).
-/
import Derived.Test.Qxb6604287aRows
import Derived.Test.Qxb6604287aPlain
import Derived.WalkKit
import Derived.WalkSpells
import Derived.WalkLawsBesides
import Derived.Deep.OwnRows
namespace Go.Proofs.Qxb6604287a
open Go.RowKit

/-- The cells of a row of bytes that lies in memory. -/
def BytesAt (w : World) (b off n : Nat) (f : Nat → Int) : Prop := ∀ j, j < n → w.cell? ⟨b, off + j, none⟩ = some (.int .u8 (f j)) ∧ 0 ≤ f j ∧ f j ≤ 255

theorem dig_succ {f : Nat → Int} {k : Nat} (h : ∀ j, j < k → dg (f j) = true) (hk : dg (f k) = true) : ∀ j, j < k + 1 → dg (f j) = true := by
  intro j hj
  by_cases e : j = k
  · rw [e]; exact hk
  · exact h j (by omega)

theorem wholeText_len (a : Option Addr) (n cap : Nat) (f : Nat → Int) (w : World) (h : n = 0 ∨ 18 < n) :
    Calls Try.prog 23 #[.slice a n cap] w fun e w' => e = .returned (.tuple #[.int .i64 (wtV f n), .bool (wtB f n)]) ∧ w' = w := by
  rw [wtV_len h, wtB_len h]
  rcases h with h | h
  · subst h
    go_enter Try.func23, Try.ntmps23
    go_wp2
    go_ret2
    exact ⟨rfl, rfl⟩
  · have h0 : ((n : Int) == 0) = false := by simp; omega
    have h1 : (18 : Int) < (n : Int) := by omega
    go_enter Try.func23, Try.ntmps23
    go_wp2
    go_ret2
    exact ⟨rfl, rfl⟩

set_option maxHeartbeats 800000 in
theorem wholeText_go (b off n cap : Nat) (f : Nat → Int) (w : World) (h1 : 1 ≤ n) (h2 : n ≤ 18) (hc : BytesAt w b off n f) :
    Calls Try.prog 23 #[.slice (some ⟨b, off, none⟩) n cap] w fun e w' => e = .returned (.tuple #[.int .i64 (wtV f n), .bool (wtB f n)]) ∧ w' = w := by
  have h0 : ((n : Int) == 0) = false := by simp; omega
  have h18 : ¬ (18 : Int) < (n : Int) := by omega
  go_enter Try.func23, Try.ntmps23
  go_wp2
  go_loop [4, 18] (fun v i => ∃ k : Nat, k ≤ n ∧ i = .int .i64 k ∧ v = .int .i64 (valN f k) ∧ ∀ j, j < k → dg (f j) = true) (fun _ i => n - (intOf i).toNat)
  case atStart => exact ⟨0, Nat.zero_le _, rfl, rfl, fun j hj => absurd hj (Nat.not_lt_zero _)⟩
  case round =>
    obtain ⟨k, hk, rfl, rfl, hd⟩ := hrel
    by_cases hlt : k < n
    · have hkI : (k : Int) < (n : Int) := by omega
      obtain ⟨hcell, hb0, hb1⟩ := hc k hlt
      have HD : Hid (∀ j, j < k → dg (f j) = true) := hd
      have HC : Hid (BytesAt w b off n f) := hc
      obtain ⟨hv0, hv1⟩ := valN_bound f k (by omega) hd
      clear hd hc
      by_cases hlo : f k < 48
      · go_wp2
        go_ret2
        rw [wtV_no hlt (dg_lo hlo), wtB_no hlt (dg_lo hlo)]
        exact ⟨rfl, rfl⟩
      · by_cases hhi : 57 < f k
        · go_wp2
          go_ret2
          rw [wtV_no hlt (dg_hi hhi), wtB_no hlt (dg_hi hhi)]
          exact ⟨rfl, rfl⟩
        · go_wp2
          go_round
          case rel => exact ⟨k + 1, by omega, by go_num, rfl, dig_succ HD.out (dg_true (by omega) (by omega))⟩
          case measure => simp [intOf]; omega
    · have hkI : ¬ (k : Int) < (n : Int) := by omega
      obtain rfl : k = n := by omega
      go_wp2
      go_ret2
      rw [wtV_yes h1 h2 hd, wtB_yes h1 h2 hd]
      exact ⟨rfl, rfl⟩

theorem wholeText_any (a : Option Addr) (b off n cap : Nat) (f : Nat → Int) (w : World) (ha : 0 < n → a = some ⟨b, off, none⟩) (hc : BytesAt w b off n f) :
    Calls Try.prog 23 #[.slice a n cap] w fun e w' => e = .returned (.tuple #[.int .i64 (wtV f n), .bool (wtB f n)]) ∧ w' = w := by
  by_cases h : n = 0 ∨ 18 < n
  · exact wholeText_len a n cap f w h
  · obtain rfl := ha (by omega)
    exact wholeText_go b off n cap f w (by omega) (by omega) hc

theorem zwholeText_any (a : Option Addr) (b off n cap : Nat) (f : Nat → Int) (w : World) (ha : 0 < n → a = some ⟨b, off, none⟩) (hc : BytesAt w b off n f) :
    Calls Try.prog 15 #[.slice a n cap] w fun e w' => e = .returned (.tuple #[.int .i64 (wtV f n), .bool (wtB f n)]) ∧ w' = w := by
  have HA : Hid (0 < n → a = some ⟨b, off, none⟩) := ha
  have HC : Hid (BytesAt w b off n f) := hc
  clear ha hc
  go_enter Try.func15, Try.ntmps15
  go_wp2_with (go_at_call 23; refine (wholeText_any a b off n cap f _ HA.out HC.out).mono ?_; rintro e w' ⟨rfl, rfl⟩)
  go_ret2
  exact ⟨rfl, rfl⟩

theorem info5 : (Try.prog.info? 5).map (fun i => (i.zero, i.size, i.bytes)) = some (some (.int .u8 0), 1, 1) := by kernel_rfl

theorem cloneBytes_nil (w : World) :
    Calls Try.prog 14 #[.slice none 0 0] w fun e w' => e = .returned (.slice none 0 0) ∧ w' = w := by
  have hn := fun wx => Lib.run_eql_slice_nil (P := Try.prog) wx 27 5 none 0 0 0 0 Try.underlying27
  go_enter Try.func14, Try.ntmps14
  go_wp2
  go_ret
  exact ⟨rfl, rfl⟩

theorem cloneBytes_go (x : Addr) (b off n cap : Nat) (f : Nat → Int) (w : World) (hn47 : n ≤ 1048576) (hx : 0 < n → x = ⟨b, off, none⟩) (hc : BytesAt w b off n f) :
    Calls Try.prog 14 #[.slice (some x) n cap] w fun e w' => e = .returned (.slice (some ⟨w.heap.size, 0, none⟩) n n) ∧ Below w.heap.size w w' ∧ w'.rowIs w.heap.size 5 n (fun j => .int .u8 (f j)) := by
  have hn := fun wx => Lib.run_eql_slice_nil (P := Try.prog) wx 27 5 (some x) n cap 0 0 Try.underlying27
  have hmk := run_make_row' (P := Try.prog) 27 5 (.int .u8 0) 1 Try.underlying27 info5 rfl .i64 .i64 n (by omega) (by omega)
  have HX : Hid (0 < n → x = ⟨b, off, none⟩) := hx
  have HC : Hid (BytesAt w b off n f) := hc
  clear hx hc
  go_enter Try.func14, Try.ntmps14
  go_wp2
  clear hmk hn
  go_loopw [4] (fun i wr => ∃ k : Nat, k ≤ n ∧ i = .int .i64 k ∧ Below w.heap.size w wr ∧ wr.rowIs w.heap.size 5 n (fun j => if j < k then .int .u8 (f j) else .int .u8 0)) (fun i _ => n - (intOf i).toNat)
  case atStart => exact ⟨0, Nat.zero_le _, rfl, (Below.refl _ _).alloc (Nat.le_refl _) _, (World.rowIs_made w _ n 5).congr (fun j _ => by simp)⟩
  case round =>
    obtain ⟨k, hk, rfl, hbel, hr⟩ := hrel
    by_cases hlt : k < n
    · obtain rfl := HX.out (by omega)
      have hkI : (k : Int) < (n : Int) := by omega
      obtain ⟨hcw, hb0, hb1⟩ := HC.out k hlt
      have hbw : b < w.heap.size := World.block_lt_of_cell? _ _ hcw
      have hcr : wr.cell? ⟨b, off + k, none⟩ = some (.int .u8 (f k)) := (hbel.cell (p := ⟨b, off + k, none⟩) hbw).trans hcw
      have hcell := hr.cell hlt
      have hf := hr.frozen k
      simp only [Nat.lt_irrefl, if_false] at hcell
      clear hcw
      go_wp2
      go_roundw
      case rel =>
        refine ⟨k + 1, by omega, by go_num, hbel.setCell (Nat.le_refl _) _, (hr.set k _).congr (fun j hj => ?_)⟩
        by_cases e : j = k
        · subst e; simp
        · by_cases e2 : j < k
          · rw [if_neg e, if_pos e2, if_pos (by omega)]
          · rw [if_neg e, if_neg e2, if_neg (by omega)]
      case measure => simp [intOf]; omega
    · have hkI : ¬ (k : Int) < (n : Int) := by omega
      obtain rfl : k = n := by omega
      go_wp2
      go_ret
      exact ⟨rfl, hbel, hr.congr (fun j hj => by rw [if_pos hj])⟩

/-- The clone read as bytes. -/
theorem bytes_of_row {w : World} {b n : Nat} {f : Nat → Int} (h : w.rowIs b 5 n (fun j => .int .u8 (f j))) (hf : ∀ j, j < n → 0 ≤ f j ∧ f j ≤ 255) : BytesAt w b 0 n f := by
  intro j hj
  refine ⟨?_, hf j hj⟩
  rw [Nat.zero_add]
  exact h.cell hj
end Go.Proofs.Qxb6604287a
