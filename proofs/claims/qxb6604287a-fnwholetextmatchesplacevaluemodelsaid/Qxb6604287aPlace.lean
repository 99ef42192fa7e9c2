/-
  CONTRACTS of wholePlaceModel (16), zzBytes_FnWholeTextMatchesPlaceValueModel (13).
-/
import Derived.Test.Qxb6604287aText
namespace Go.Proofs.Qxb6604287a
open Go.RowKit

theorem zb13_small (a : Option Addr) (n cap : Nat) (w : World) (h : n ≤ 1048576) :
    Calls Try.prog 13 #[.slice a n cap] w fun e w' => e = .returned (.bool true) ∧ w' = w := by
  have h1 : ¬ (1048576 : Int) < (n : Int) := by omega
  go_enter Try.func13, Try.ntmps13
  go_wp2
  go_ret
  exact ⟨rfl, rfl⟩
theorem zb13_large (a : Option Addr) (n cap : Nat) (w : World) (h : 1048576 < n) :
    Calls Try.prog 13 #[.slice a n cap] w fun e w' => e = .returned (.bool false) ∧ w' = w := by
  have h1 : (1048576 : Int) < (n : Int) := by omega
  go_enter Try.func13, Try.ntmps13
  go_wp2
  go_ret
  exact ⟨rfl, rfl⟩

theorem place_len (a : Option Addr) (n cap : Nat) (f : Nat → Int) (w : World) (h : n = 0 ∨ 18 < n) :
    Calls Try.prog 16 #[.slice a n cap] w fun e w' => e = .returned (.tuple #[.int .i64 (wtV f n), .bool (wtB f n)]) ∧ w' = w := by
  rw [wtV_len h, wtB_len h]
  rcases h with h | h
  · subst h
    go_enter Try.func16, Try.ntmps16
    go_wp2
    go_ret2
    exact ⟨rfl, rfl⟩
  · have h0 : ¬ (n : Int) < 1 := by omega
    have h1 : (18 : Int) < (n : Int) := by omega
    go_enter Try.func16, Try.ntmps16
    go_wp2
    go_ret2
    exact ⟨rfl, rfl⟩

theorem suf_step (f : Nat → Int) (n t : Nat) (ht : t + 1 ≤ n) : sufN f n (n - t) = sufN f n (n - (t + 1)) + (f t - 48) * 10 ^ (n - (t + 1)) := by
  rw [show n - t = n - (t + 1) + 1 by omega, sufN, show n - 1 - (n - (t + 1)) = t by omega]
theorem pow_step (n t : Nat) (ht : t + 1 ≤ n) : (10 : Int) ^ (n - t) = 10 ^ (n - (t + 1)) * 10 := by
  rw [show n - t = n - (t + 1) + 1 by omega, Int.pow_succ]

theorem dig_pred {f : Nat → Int} {n t : Nat} (h : ∀ j, t + 1 ≤ j → j < n → dg (f j) = true) (ht : dg (f t) = true) : ∀ j, t ≤ j → j < n → dg (f j) = true := by
  intro j hj hj2
  by_cases e : j = t
  · rw [e]; exact ht
  · exact h j (by omega) hj2

set_option maxHeartbeats 800000 in
theorem place_go (b off n cap : Nat) (f : Nat → Int) (w : World) (h1 : 1 ≤ n) (h2 : n ≤ 18) (hc : BytesAt w b off n f) :
    Calls Try.prog 16 #[.slice (some ⟨b, off, none⟩) n cap] w fun e w' => e = .returned (.tuple #[.int .i64 (wtV f n), .bool (wtB f n)]) ∧ w' = w := by
  have h0 : ¬ (n : Int) < 1 := by omega
  have h18 : ¬ (18 : Int) < (n : Int) := by omega
  have HC : Hid (BytesAt w b off n f) := hc
  clear hc
  go_enter Try.func16, Try.ntmps16
  go_wp2
  go_loop [4, 5, 6] (fun v p i => ∃ r : Nat, r ≤ n ∧ i = .int .i64 ((r : Int) - 1) ∧ v = .int .i64 (sufN f n (n - r)) ∧ p = .int .i64 (10 ^ (n - r)) ∧ ∀ j, r ≤ j → j < n → dg (f j) = true) (fun _ _ i => (intOf i + 1).toNat)
  case atStart => exact ⟨n, Nat.le_refl _, rfl, by simp [sufN], by simp, fun j hj hj2 => absurd hj2 (by omega)⟩
  case round =>
    obtain ⟨r, hr, rfl, rfl, rfl, hd⟩ := hrel
    cases r with
    | zero =>
      have hv := val_suf_all f n
      go_wp2
      go_ret2
      rw [wtV_yes h1 h2 (fun j hj => hd j (Nat.zero_le _) hj), wtB_yes h1 h2 (fun j hj => hd j (Nat.zero_le _) hj), ← hv]
      exact ⟨rfl, rfl⟩
    | succ t =>
      have hlt : t < n := by omega
      obtain ⟨hcell, hb0, hb1⟩ := HC.out t hlt
      have HD : Hid (∀ j, t + 1 ≤ j → j < n → dg (f j) = true) := hd
      have hp := pow17 (m := n - (t + 1)) (by omega)
      have hlo := suf_lo f n (n - (t + 1)) (by omega) (fun j hj hj2 => hd j (by omega) hj2)
      have hhi := suf_hi f n (n - (t + 1)) (by omega) (fun j hj hj2 => hd j (by omega) hj2)
      have HS : Hid (sufN f n (n - t) = sufN f n (n - (t + 1)) + (f t - 48) * 10 ^ (n - (t + 1))) := suf_step f n t hr
      have HP : Hid ((10 : Int) ^ (n - t) = 10 ^ (n - (t + 1)) * 10) := pow_step n t hr
      clear hd
      generalize sufN f n (n - (t + 1)) = V at *
      generalize (10 : Int) ^ (n - (t + 1)) = P at *
      have htn : (t : Int) < (n : Int) := by omega
      by_cases hlow : f t < 48
      · go_wp2
        go_ret2
        rw [wtV_no hlt (dg_lo hlow), wtB_no hlt (dg_lo hlow)]
        exact ⟨rfl, rfl⟩
      · by_cases hhigh : 57 < f t
        · go_wp2
          go_ret2
          rw [wtV_no hlt (dg_hi hhigh), wtB_no hlt (dg_hi hhigh)]
          exact ⟨rfl, rfl⟩
        · have hm0 : 0 ≤ (f t - 48) * P := Int.mul_nonneg (by omega) (by omega)
          have hm1 : (f t - 48) * P ≤ 9 * P := Int.mul_le_mul_of_nonneg_right (by omega) (by omega)
          go_wp2
          go_round
          case rel => exact ⟨t, by omega, rfl, by rw [HS.out], by rw [HP.out], dig_pred HD.out (dg_true (by omega) (by omega))⟩
          case measure => simp [intOf]

theorem place_any (a : Option Addr) (b off n cap : Nat) (f : Nat → Int) (w : World) (ha : 0 < n → a = some ⟨b, off, none⟩) (hc : BytesAt w b off n f) :
    Calls Try.prog 16 #[.slice a n cap] w fun e w' => e = .returned (.tuple #[.int .i64 (wtV f n), .bool (wtB f n)]) ∧ w' = w := by
  by_cases h : n = 0 ∨ 18 < n
  · exact place_len a n cap f w h
  · obtain rfl := ha (by omega)
    exact place_go b off n cap f w (by omega) (by omega) hc
end Go.Proofs.Qxb6604287a
