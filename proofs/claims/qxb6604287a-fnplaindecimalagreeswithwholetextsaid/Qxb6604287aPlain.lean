/-
  THE PLAIN MATHEMATICS: decimal digits, their value read from the left and from the right. No Go in sight.
-/
namespace Go.Proofs.Qxb6604287a

/-- a byte is a decimal digit -/
def dg (c : Int) : Bool := decide (48 ≤ c) && decide (c ≤ 57)
theorem dg_true {c : Int} (h1 : 48 ≤ c) (h2 : c ≤ 57) : dg c = true := by simp [dg, h1, h2]
theorem dg_lo {c : Int} (h1 : c < 48) : dg c = false := by simp [dg]; omega
theorem dg_hi {c : Int} (h1 : 57 < c) : dg c = false := by simp [dg]; omega
theorem dg_iff {c : Int} : dg c = true ↔ 48 ≤ c ∧ c ≤ 57 := by simp [dg]

/-- the first n are digits -/
def allDig (f : Nat → Int) : Nat → Bool
  | 0 => true
  | n + 1 => allDig f n && dg (f n)
theorem allDig_iff (f : Nat → Int) (n : Nat) : allDig f n = true ↔ ∀ j, j < n → dg (f j) = true := by
  induction n with
  | zero => simp [allDig]
  | succ n ih =>
    simp only [allDig, Bool.and_eq_true, ih]
    constructor
    · rintro ⟨h1, h2⟩ j hj
      by_cases e : j = n
      · rw [e]; exact h2
      · exact h1 j (by omega)
    · intro h
      exact ⟨fun j hj => h j (by omega), h n (by omega)⟩
theorem allDig_false {f : Nat → Int} {n k : Nat} (hk : k < n) (h : dg (f k) = false) : allDig f n = false := by
  cases hb : allDig f n with
  | false => rfl
  | true => rw [(allDig_iff f n).1 hb k hk] at h; cases h

/-- the number that the first n bytes write, read from the left -/
def valN (f : Nat → Int) : Nat → Int
  | 0 => 0
  | n + 1 => 10 * valN f n + (f n - 48)

theorem valN_lo (f : Nat → Int) (n : Nat) (h : ∀ j, j < n → dg (f j) = true) : 0 ≤ valN f n := by
  induction n with
  | zero => simp [valN]
  | succ n ih =>
    have h1 := ih (fun j hj => h j (by omega))
    have h2 := dg_iff.1 (h n (by omega))
    simp only [valN]; omega
theorem valN_hi (f : Nat → Int) (n : Nat) (h : ∀ j, j < n → dg (f j) = true) : valN f n < 10 ^ n := by
  induction n with
  | zero => simp [valN]
  | succ n ih =>
    have h1 := ih (fun j hj => h j (by omega))
    have h2 := dg_iff.1 (h n (by omega))
    rw [Int.pow_succ]
    simp only [valN]; omega

theorem pow_le_of_le {k m : Nat} (h : k ≤ m) : (10 : Int) ^ k ≤ 10 ^ m := by
  induction m with
  | zero => have : k = 0 := by omega
            subst this; exact Int.le_refl _
  | succ m ih =>
    by_cases e : k = m + 1
    · subst e; exact Int.le_refl _
    · have h1 := ih (by omega)
      have h2 : (0 : Int) < 10 ^ m := Int.pow_pos (by omega)
      rw [Int.pow_succ]; omega
theorem pow_pos10 (k : Nat) : (0 : Int) < 10 ^ k := Int.pow_pos (by omega)

theorem valN_bound (f : Nat → Int) (k : Nat) (hk : k ≤ 17) (h : ∀ j, j < k → dg (f j) = true) : 0 ≤ valN f k ∧ valN f k < 100000000000000000 := by
  have h1 := valN_hi f k h
  have h2 : (10 : Int) ^ k ≤ 10 ^ 17 := pow_le_of_le hk
  have h3 : (10 : Int) ^ 17 = 100000000000000000 := by decide
  exact ⟨valN_lo f k h, by omega⟩

/-- what wholeText answers -/
def wtB (f : Nat → Int) (n : Nat) : Bool := decide (1 ≤ n) && (decide (n ≤ 18) && allDig f n)
def wtV (f : Nat → Int) (n : Nat) : Int := if wtB f n = true then valN f n else 0
theorem wtB_yes {f : Nat → Int} {n : Nat} (h1 : 1 ≤ n) (h2 : n ≤ 18) (h : ∀ j, j < n → dg (f j) = true) : wtB f n = true := by
  simp [wtB, h1, h2, (allDig_iff f n).2 h]
theorem wtV_yes {f : Nat → Int} {n : Nat} (h1 : 1 ≤ n) (h2 : n ≤ 18) (h : ∀ j, j < n → dg (f j) = true) : wtV f n = valN f n := by
  rw [wtV, if_pos (wtB_yes h1 h2 h)]
theorem wtB_no {f : Nat → Int} {n k : Nat} (hk : k < n) (h : dg (f k) = false) : wtB f n = false := by
  simp [wtB, allDig_false hk h]
theorem wtV_no {f : Nat → Int} {n k : Nat} (hk : k < n) (h : dg (f k) = false) : wtV f n = 0 := by
  rw [wtV, wtB_no hk h]; simp
theorem wtB_len {f : Nat → Int} {n : Nat} (h : n = 0 ∨ 18 < n) : wtB f n = false := by
  rcases h with h | h
  · subst h; simp [wtB]
  · have : ¬ n ≤ 18 := by omega
    simp [wtB, this]
theorem wtV_len {f : Nat → Int} {n : Nat} (h : n = 0 ∨ 18 < n) : wtV f n = 0 := by
  rw [wtV, wtB_len h]; simp

/-- the last m of n bytes, each by its place -/
def sufN (f : Nat → Int) (n : Nat) : Nat → Int
  | 0 => 0
  | m + 1 => sufN f n m + (f (n - 1 - m) - 48) * 10 ^ m
theorem val_suf (f : Nat → Int) (n m : Nat) (h : m ≤ n) : valN f n = valN f (n - m) * 10 ^ m + sufN f n m := by
  induction m with
  | zero => simp [sufN]
  | succ m ih =>
    rw [ih (by omega)]
    have e : n - m = (n - (m + 1)) + 1 := by omega
    rw [e, show n - (m + 1) = n - 1 - m by omega]
    simp only [valN, sufN, Int.pow_succ]
    rw [Int.add_mul, Int.mul_comm (10 : Int) (valN f (n - 1 - m)), Int.mul_assoc, Int.mul_comm (10 : Int) (10 ^ m)]
    omega
theorem val_suf_all (f : Nat → Int) (n : Nat) : sufN f n n = valN f n := by
  have := val_suf f n n (Nat.le_refl n)
  simp [valN] at this
  exact this.symm
theorem suf_lo (f : Nat → Int) (n m : Nat) (hm : m ≤ n) (h : ∀ j, n - m ≤ j → j < n → dg (f j) = true) : 0 ≤ sufN f n m := by
  induction m with
  | zero => simp [sufN]
  | succ m ih =>
    have h1 := ih (by omega) (fun j hj hj2 => h j (by omega) hj2)
    have h2 := dg_iff.1 (h (n - 1 - m) (by omega) (by omega))
    have h3 := pow_pos10 m
    have h4 : 0 ≤ (f (n - 1 - m) - 48) * 10 ^ m := Int.mul_nonneg (by omega) (by omega)
    simp only [sufN]; omega
theorem suf_hi (f : Nat → Int) (n m : Nat) (hm : m ≤ n) (h : ∀ j, n - m ≤ j → j < n → dg (f j) = true) : sufN f n m < 10 ^ m := by
  induction m with
  | zero => simp [sufN]
  | succ m ih =>
    have h1 := ih (by omega) (fun j hj hj2 => h j (by omega) hj2)
    have h2 := dg_iff.1 (h (n - 1 - m) (by omega) (by omega))
    have h3 := pow_pos10 m
    have h4 : (f (n - 1 - m) - 48) * 10 ^ m ≤ 9 * 10 ^ m := Int.mul_le_mul_of_nonneg_right (by omega) (by omega)
    rw [Int.pow_succ]
    simp only [sufN]; omega
theorem pow17 {m : Nat} (h : m ≤ 17) : (1 : Int) ≤ 10 ^ m ∧ (10 : Int) ^ m ≤ 100000000000000000 := by
  have h1 := pow_pos10 m
  have h2 : (10 : Int) ^ m ≤ 10 ^ 17 := pow_le_of_le h
  have h3 : (10 : Int) ^ 17 = 100000000000000000 := by decide
  omega
end Go.Proofs.Qxb6604287a
