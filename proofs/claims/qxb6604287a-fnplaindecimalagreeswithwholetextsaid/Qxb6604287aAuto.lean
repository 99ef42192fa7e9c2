/-
  CONTRACTS of plainDecimal (24) and ZZplainDecimal (18) at every text, decimalAutomaton (19), hasPoint (21), the length guards (17, 20).
-/
import Derived.Test.Qxb6604287aDecimal
namespace Go.Proofs.Qxb6604287a
open Go.RowKit

theorem plain_empty (a : Option Addr) (cap : Nat) (f : Nat → Int) (w : World) :
    Calls Try.prog 24 #[.slice a 0 cap] w fun e w' => e = .returned (.bool (accB f 0)) ∧ w' = w := by
  go_enter Try.func24, Try.ntmps24
  go_wp2_with fail
  refine (digitsAt_goI a 0 0 0 cap 0 f _ _ rfl (by omega) (by omega) (fun h => absurd h (by omega)) (fun j hj => absurd hj (Nat.not_lt_zero _))).mono ?_
  rintro e w' ⟨d, rfl, hr, hw⟩
  subst w'
  have hle : d = 0 := by have := hr.le; omega
  subst hle
  clear hr
  go_wp2
  go_ret
  exact ⟨rfl, rfl⟩

theorem plain_any (a : Option Addr) (b off n cap : Nat) (f : Nat → Int) (w : World) (hn47 : n ≤ 1048576) (ha : 0 < n → a = some ⟨b, off, none⟩) (hc : BytesAt w b off n f) :
    Calls Try.prog 24 #[.slice a n cap] w fun e w' => e = .returned (.bool (accB f n)) ∧ w' = w := by
  by_cases h0 : n = 0
  · subst h0
    exact plain_empty a cap f w
  · obtain rfl := ha (by omega)
    cases hf : (f 0 == 45) with
    | false => exact plain_zero b off n cap f w (by omega) hn47 hf hc
    | true => exact plain_one b off n cap f w (by omega) hn47 hf hc

theorem zplain_any (a : Option Addr) (b off n cap : Nat) (f : Nat → Int) (w : World) (hn47 : n ≤ 1048576) (ha : 0 < n → a = some ⟨b, off, none⟩) (hc : BytesAt w b off n f) :
    Calls Try.prog 18 #[.slice a n cap] w fun e w' => e = .returned (.bool (accB f n)) ∧ w' = w := by
  have HA : Hid (0 < n → a = some ⟨b, off, none⟩) := ha
  have HC : Hid (BytesAt w b off n f) := hc
  clear ha hc
  go_enter Try.func18, Try.ntmps18
  go_wp2_with (go_at_call 24; refine (plain_any a b off n cap f _ hn47 HA.out HC.out).mono ?_; rintro e w' ⟨rfl, rfl⟩)
  go_ret
  exact ⟨rfl, rfl⟩

theorem dg_cases (c : Int) : (c < 48 ∧ dg c = false) ∨ (48 ≤ c ∧ c ≤ 57 ∧ dg c = true) ∨ (57 < c ∧ dg c = false) := by
  by_cases h1 : c < 48
  · exact .inl ⟨h1, dg_lo h1⟩
  · by_cases h2 : 57 < c
    · exact .inr (.inr ⟨h2, dg_hi h2⟩)
    · exact .inr (.inl ⟨by omega, by omega, dg_true (by omega) (by omega)⟩)

set_option maxHeartbeats 3200000 in
theorem auto_any (a : Option Addr) (b off n cap : Nat) (f : Nat → Int) (w : World) (hn47 : n ≤ 1048576) (ha : 0 < n → a = some ⟨b, off, none⟩) (hc : BytesAt w b off n f) :
    Calls Try.prog 19 #[.slice a n cap] w fun e w' => e = .returned (.bool (accB f n)) ∧ w' = w := by
  have HA : Hid (0 < n → a = some ⟨b, off, none⟩) := ha
  have HC : Hid (BytesAt w b off n f) := hc
  clear ha hc
  go_enter Try.func19, Try.ntmps19
  go_wp2
  go_loop [3, 4] (fun v i => ∃ (k : Nat) (s : Int), k ≤ n ∧ i = .int .i64 (k : Int) ∧ v = .int .i64 s ∧ 0 ≤ s ∧ s ≤ 4 ∧ s = st f k) (fun _ i => n - (intOf i).toNat)
  case atStart => exact ⟨0, 0, by omega, rfl, rfl, by omega, by omega, rfl⟩
  case round =>
    obtain ⟨k, s, hk, rfl, rfl, hs0, hs4, hs⟩ := hrel
    have HS : Hid (s = st f k) := hs
    clear hs
    by_cases hlt : k < n
    · obtain rfl := HA.out (by omega)
      obtain ⟨hcell, hb0, hb1⟩ := HC.out k hlt
      have hI : (k : Int) < (n : Int) := by omega
      have hss : s = 0 ∨ s = 1 ∨ s = 2 ∨ s = 3 ∨ s = 4 := by omega
      clear hs0 hs4
      have fin : ∀ s', stp s (f k) = s' → st f (k + 1) = s' := fun s' h => st_of HS.out h
      have FIN : Hid (∀ s', stp s (f k) = s' → st f (k + 1) = s') := fin
      clear fin HS
      rcases hss with rfl | rfl | rfl | rfl | rfl
      · by_cases h45 : f k = 45
        · have h45I : (f k == 45) = true := by simpa using h45
          have H45 : Hid (f k = 45) := h45
          have hd1 : f k < 48 := by omega
          clear h45
          go_wp2
          go_round
          case rel => exact ⟨k + 1, 1, by omega, by go_num, rfl, by omega, by omega, (FIN.out _ (stp0_minus H45.out)).symm⟩
          case measure => simp [intOf]; omega
        · have h45I : (f k == 45) = false := by simpa using h45
          rcases dg_cases (f k) with ⟨hx, hy⟩ | ⟨hx, hx2, hy⟩ | ⟨hx, hy⟩
          · have HY : Hid (dg (f k) = false) := hy
            clear hy
            go_wp2
            go_ret
            rw [acc_dead (k := k + 1) hlt (FIN.out _ (stp0_no HY.out h45))]; exact ⟨rfl, rfl⟩
          · have HY : Hid (dg (f k) = true) := hy
            clear hy
            go_wp2
            go_round
            case rel => exact ⟨k + 1, 2, by omega, by go_num, rfl, by omega, by omega, (FIN.out _ (stp0_dig HY.out)).symm⟩
            case measure => simp [intOf]; omega
          · have HY : Hid (dg (f k) = false) := hy
            clear hy
            have hdec : decide (f k ≤ 57) = false := decide_eq_false (by omega)
            go_wp2
            go_ret
            rw [acc_dead (k := k + 1) hlt (FIN.out _ (stp0_no HY.out h45))]; exact ⟨rfl, rfl⟩
      · skip
        rcases dg_cases (f k) with ⟨hx, hy⟩ | ⟨hx, hx2, hy⟩ | ⟨hx, hy⟩
        · have HY : Hid (dg (f k) = false) := hy
          clear hy
          go_wp2
          go_ret
          rw [acc_dead (k := k + 1) hlt (FIN.out _ (stp1_no HY.out))]; exact ⟨rfl, rfl⟩
        · have HY : Hid (dg (f k) = true) := hy
          clear hy
          go_wp2
          go_round
          case rel => exact ⟨k + 1, 2, by omega, by go_num, rfl, by omega, by omega, (FIN.out _ (stp1_dig HY.out)).symm⟩
          case measure => simp [intOf]; omega
        · have HY : Hid (dg (f k) = false) := hy
          clear hy
          have hdec : decide (f k ≤ 57) = false := decide_eq_false (by omega)
          go_wp2
          go_ret
          rw [acc_dead (k := k + 1) hlt (FIN.out _ (stp1_no HY.out))]; exact ⟨rfl, rfl⟩
      · by_cases h46 : f k = 46
        · have h46I : (f k == 46) = true := by simpa using h46
          have H46 : Hid (f k = 46) := h46
          have hd1 : f k < 48 := by omega
          clear h46
          go_wp2
          go_round
          case rel => exact ⟨k + 1, 3, by omega, by go_num, rfl, by omega, by omega, (FIN.out _ (stp2_point H46.out)).symm⟩
          case measure => simp [intOf]; omega
        · have h46I : (f k == 46) = false := by simpa using h46
          rcases dg_cases (f k) with ⟨hx, hy⟩ | ⟨hx, hx2, hy⟩ | ⟨hx, hy⟩
          · have HY : Hid (dg (f k) = false) := hy
            clear hy
            go_wp2
            go_ret
            rw [acc_dead (k := k + 1) hlt (FIN.out _ (stp2_no HY.out h46))]; exact ⟨rfl, rfl⟩
          · have HY : Hid (dg (f k) = true) := hy
            clear hy
            go_wp2
            go_round
            case rel => exact ⟨k + 1, 2, by omega, by go_num, rfl, by omega, by omega, (FIN.out _ (stp2_dig HY.out)).symm⟩
            case measure => simp [intOf]; omega
          · have HY : Hid (dg (f k) = false) := hy
            clear hy
            have hdec : decide (f k ≤ 57) = false := decide_eq_false (by omega)
            go_wp2
            go_ret
            rw [acc_dead (k := k + 1) hlt (FIN.out _ (stp2_no HY.out h46))]; exact ⟨rfl, rfl⟩
      · skip
        rcases dg_cases (f k) with ⟨hx, hy⟩ | ⟨hx, hx2, hy⟩ | ⟨hx, hy⟩
        · have HY : Hid (dg (f k) = false) := hy
          clear hy
          go_wp2
          go_ret
          rw [acc_dead (k := k + 1) hlt (FIN.out _ (stp3_no HY.out))]; exact ⟨rfl, rfl⟩
        · have HY : Hid (dg (f k) = true) := hy
          clear hy
          go_wp2
          go_round
          case rel => exact ⟨k + 1, 4, by omega, by go_num, rfl, by omega, by omega, (FIN.out _ (stp3_dig HY.out)).symm⟩
          case measure => simp [intOf]; omega
        · have HY : Hid (dg (f k) = false) := hy
          clear hy
          have hdec : decide (f k ≤ 57) = false := decide_eq_false (by omega)
          go_wp2
          go_ret
          rw [acc_dead (k := k + 1) hlt (FIN.out _ (stp3_no HY.out))]; exact ⟨rfl, rfl⟩
      · skip
        rcases dg_cases (f k) with ⟨hx, hy⟩ | ⟨hx, hx2, hy⟩ | ⟨hx, hy⟩
        · have HY : Hid (dg (f k) = false) := hy
          clear hy
          go_wp2
          go_ret
          rw [acc_dead (k := k + 1) hlt (FIN.out _ (stp4_no HY.out))]; exact ⟨rfl, rfl⟩
        · have HY : Hid (dg (f k) = true) := hy
          clear hy
          go_wp2
          go_round
          case rel => exact ⟨k + 1, 4, by omega, by go_num, rfl, by omega, by omega, (FIN.out _ (stp4_dig HY.out)).symm⟩
          case measure => simp [intOf]; omega
        · have HY : Hid (dg (f k) = false) := hy
          clear hy
          have hdec : decide (f k ≤ 57) = false := decide_eq_false (by omega)
          go_wp2
          go_ret
          rw [acc_dead (k := k + 1) hlt (FIN.out _ (stp4_no HY.out))]; exact ⟨rfl, rfl⟩
    · have hI : ¬ (k : Int) < (n : Int) := by omega
      obtain rfl : k = n := by omega
      have hss : s = 0 ∨ s = 1 ∨ s = 2 ∨ s = 3 ∨ s = 4 := by omega
      clear hs0 hs4
      rcases hss with rfl | rfl | rfl | rfl | rfl
      all_goals
        go_wp2
        go_ret
        rw [acc_of HS.out]
        exact ⟨rfl, rfl⟩

def ptB (f : Nat → Int) : Nat → Bool
  | 0 => false
  | k + 1 => ptB f k || (f k == 46)
theorem ptB_true {f : Nat → Int} {n k : Nat} (hk : k < n) (h : (f k == 46) = true) : ptB f n = true := by
  induction n with
  | zero => omega
  | succ n ih =>
    by_cases e : k = n
    · subst e; simp [ptB, h]
    · simp [ptB, ih (by omega)]
theorem ptB_false {f : Nat → Int} {n : Nat} (h : ∀ j, j < n → (f j == 46) = false) : ptB f n = false := by
  induction n with
  | zero => rfl
  | succ n ih => rw [ptB, ih (fun j hj => h j (by omega)), h n (by omega)]; rfl
theorem ptB_no {f : Nat → Int} {n : Nat} (h : ptB f n = false) : ∀ j, j < n → f j ≠ 46 := by
  intro j hj e
  rw [ptB_true hj (by rw [e]; rfl)] at h
  cases h

theorem point_any (a : Option Addr) (b off n cap : Nat) (f : Nat → Int) (w : World) (hn47 : n ≤ 1048576) (ha : 0 < n → a = some ⟨b, off, none⟩) (hc : BytesAt w b off n f) :
    Calls Try.prog 21 #[.slice a n cap] w fun e w' => e = .returned (.bool (ptB f n)) ∧ w' = w := by
  have HA : Hid (0 < n → a = some ⟨b, off, none⟩) := ha
  have HC : Hid (BytesAt w b off n f) := hc
  clear ha hc
  go_enter Try.func21, Try.ntmps21
  go_wp2
  go_loop [3] (fun i => ∃ k : Nat, k ≤ n ∧ i = .int .i64 (k : Int) ∧ ∀ j, j < k → (f j == 46) = false) (fun i => n - (intOf i).toNat)
  case atStart => exact ⟨0, by omega, rfl, fun j hj => absurd hj (Nat.not_lt_zero _)⟩
  case round =>
    obtain ⟨k, hk, rfl, hd⟩ := hrel
    have HD : Hid (∀ j, j < k → (f j == 46) = false) := hd
    clear hd
    by_cases hlt : k < n
    · obtain rfl := HA.out (by omega)
      obtain ⟨hcell, hb0, hb1⟩ := HC.out k hlt
      have hI : (k : Int) < (n : Int) := by omega
      cases hp : (f k == 46) with
      | true =>
        have HP : Hid ((f k == 46) = true) := hp
        go_wp2
        go_ret
        rw [ptB_true hlt HP.out]
        exact ⟨rfl, rfl⟩
      | false =>
        have HP : Hid ((f k == 46) = false) := hp
        go_wp2
        go_round
        case rel =>
          refine ⟨k + 1, by omega, by go_num, fun j hj => ?_⟩
          by_cases e : j = k
          · rw [e]; exact HP.out
          · exact HD.out j (by omega)
        case measure => simp [intOf]; omega
    · have hI : ¬ (k : Int) < (n : Int) := by omega
      obtain rfl : k = n := by omega
      go_wp2
      go_ret
      rw [ptB_false HD.out]
      exact ⟨rfl, rfl⟩

theorem zb17_small (a : Option Addr) (n cap : Nat) (w : World) (h : n ≤ 1048576) :
    Calls Try.prog 17 #[.slice a n cap] w fun e w' => e = .returned (.bool true) ∧ w' = w := by
  have h1 : ¬ (1048576 : Int) < (n : Int) := by omega
  go_enter Try.func17, Try.ntmps17
  go_wp2
  go_ret
  exact ⟨rfl, rfl⟩
theorem zb17_large (a : Option Addr) (n cap : Nat) (w : World) (h : 1048576 < n) :
    Calls Try.prog 17 #[.slice a n cap] w fun e w' => e = .returned (.bool false) ∧ w' = w := by
  have h1 : (1048576 : Int) < (n : Int) := by omega
  go_enter Try.func17, Try.ntmps17
  go_wp2
  go_ret
  exact ⟨rfl, rfl⟩
theorem zb20_small (a : Option Addr) (n cap : Nat) (w : World) (h : n ≤ 1048576) :
    Calls Try.prog 20 #[.slice a n cap] w fun e w' => e = .returned (.bool true) ∧ w' = w := by
  have h1 : ¬ (1048576 : Int) < (n : Int) := by omega
  go_enter Try.func20, Try.ntmps20
  go_wp2
  go_ret
  exact ⟨rfl, rfl⟩
theorem zb20_large (a : Option Addr) (n cap : Nat) (w : World) (h : 1048576 < n) :
    Calls Try.prog 20 #[.slice a n cap] w fun e w' => e = .returned (.bool false) ∧ w' = w := by
  have h1 : (1048576 : Int) < (n : Int) := by omega
  go_enter Try.func20, Try.ntmps20
  go_wp2
  go_ret
  exact ⟨rfl, rfl⟩
end Go.Proofs.Qxb6604287a
