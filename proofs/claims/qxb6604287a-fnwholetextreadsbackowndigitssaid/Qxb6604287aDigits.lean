/-
  THE PLAIN MATHEMATICS of a number's own decimal digits. No Go in sight.
-/
import Derived.Test.Qxb6604287aPlain
namespace Go.Proofs.Qxb6604287a

/-- the byte that stands at place j of the eighteen -/
def cD (N j : Nat) : Int := 48 + ((N / 10 ^ (17 - j) % 10 : Nat) : Int)
theorem cD_dg (N j : Nat) : dg (cD N j) = true := dg_true (by unfold cD; omega) (by unfold cD; omega)
theorem cD_range (N j : Nat) : 0 ≤ cD N j ∧ cD N j ≤ 255 := by unfold cD; omega
theorem div_step (N q : Nat) (hq : q ≤ 17) : N / 10 ^ (18 - (q + 1)) / 10 = N / 10 ^ (18 - q) := by
  rw [Nat.div_div_eq_div_mul, ← Nat.pow_succ, show (18 - (q + 1)).succ = 18 - q by omega]
theorem zero_more (N a b : Nat) (h : N / 10 ^ a = 0) (hab : a ≤ b) : N / 10 ^ b = 0 := by
  have h1 : N < 10 ^ a := by
    rcases Nat.div_eq_zero_iff.1 h with h | h
    · exact absurd h (Nat.pos_iff_ne_zero.1 (Nat.pow_pos (by omega)))
    · exact h
  have h2 : 10 ^ a ≤ 10 ^ b := Nat.pow_le_pow_right (by omega) hab
  exact Nat.div_eq_of_lt (by omega)
theorem cD_zero (N j p : Nat) (h : N / 10 ^ (18 - p) = 0) (hj : j < p) (hp : p ≤ 18) : cD N j = 48 := by
  unfold cD
  rw [zero_more N (18 - p) (17 - j) h (by omega)]
  rfl
theorem val_cD (N p k : Nat) (hp : p ≤ 18) (h : N / 10 ^ (18 - p) = 0) (hk : k ≤ 18 - p) : valN (fun j => cD N (p + j)) k = ((N / 10 ^ (18 - p - k) : Nat) : Int) := by
  induction k with
  | zero => simp [valN, h]
  | succ k ih =>
    have h1 := ih (by omega)
    simp only [valN]
    rw [h1]
    unfold cD
    rw [show 17 - (p + k) = 18 - p - (k + 1) by omega]
    have h2 : N / 10 ^ (18 - p - k) = N / 10 ^ (18 - p - (k + 1)) / 10 := by
      rw [Nat.div_div_eq_div_mul, ← Nat.pow_succ, show (18 - p - (k + 1)).succ = 18 - p - k by omega]
    rw [h2]
    omega
theorem wtB_cD (N p : Nat) (hp : p < 18) : wtB (fun j => cD N (p + j)) (18 - p) = true :=
  wtB_yes (by omega) (by omega) (fun j _ => cD_dg N (p + j))
theorem wtV_cD (N p : Nat) (hp : p < 18) (h : N / 10 ^ (18 - p) = 0) : wtV (fun j => cD N (p + j)) (18 - p) = (N : Int) := by
  rw [wtV_yes (by omega) (by omega) (fun j _ => cD_dg N (p + j)), val_cD N p (18 - p) (by omega) h (Nat.le_refl _)]
  simp
theorem left_some (N q : Nat) (hN : N ≤ 999999999999999999) (h : N / 10 ^ (18 - q) ≠ 0) : 1 ≤ q := by
  cases q with
  | zero =>
    exfalso
    apply h
    exact Nat.div_eq_of_lt (by rw [show (10 : Nat) ^ (18 - 0) = 1000000000000000000 by decide]; omega)
  | succ q => omega
end Go.Proofs.Qxb6604287a
