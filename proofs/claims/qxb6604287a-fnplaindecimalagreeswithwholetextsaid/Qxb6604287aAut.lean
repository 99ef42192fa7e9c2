/-
  THE PLAIN MATHEMATICS of the decimal automaton, and of the scan by runs of digits. No Go in sight.
-/
import Derived.Test.Qxb6604287aPlain
namespace Go.Proofs.Qxb6604287a

/-- one step of the automaton; -1: refused -/
def stp (s c : Int) : Int :=
  if s = 0 then (if c = 45 then 1 else if dg c = true then 2 else -1)
  else if s = 1 then (if dg c = true then 2 else -1)
  else if s = 2 then (if c = 46 then 3 else if dg c = true then 2 else -1)
  else if s = 3 then (if dg c = true then 4 else -1)
  else if s = 4 then (if dg c = true then 4 else -1)
  else -1
/-- the state behind the first k bytes -/
def st (f : Nat → Int) : Nat → Int
  | 0 => 0
  | k + 1 => stp (st f k) (f k)
/-- it accepts -/
def accB (f : Nat → Int) (n : Nat) : Bool := decide (st f n = 2) || decide (st f n = 4)

theorem st_dead {f : Nat → Int} {k : Nat} (h : st f k = -1) : ∀ n, k ≤ n → st f n = -1 := by
  intro n
  induction n with
  | zero => intro hk; rw [show k = 0 by omega] at h; exact h
  | succ n ih =>
    intro hk
    by_cases e : k = n + 1
    · rw [← e]; exact h
    · rw [st, ih (by omega)]; rfl
theorem acc_dead {f : Nat → Int} {k n : Nat} (hk : k ≤ n) (h : st f k = -1) : accB f n = false := by
  simp [accB, st_dead h n hk]
theorem acc_of {f : Nat → Int} {n : Nat} {s : Int} (h : s = st f n) : accB f n = (decide (s = 2) || decide (s = 4)) := by rw [h]; rfl
theorem dg45 : dg 45 = false := rfl
theorem dg46 : dg 46 = false := rfl

theorem st_of {f : Nat → Int} {k : Nat} {s s' : Int} (h : s = st f k) (h2 : stp s (f k) = s') : st f (k + 1) = s' := by rw [st, ← h]; exact h2
theorem stp0_minus {c : Int} (h : c = 45) : stp 0 c = 1 := by simp [stp, h]
theorem stp0_dig {c : Int} (h : dg c = true) : stp 0 c = 2 := by
  have : c ≠ 45 := fun e => by rw [e] at h; cases h
  simp [stp, h, this]
theorem stp0_no {c : Int} (h : dg c = false) (h2 : c ≠ 45) : stp 0 c = -1 := by simp [stp, h, h2]
theorem stp1_dig {c : Int} (h : dg c = true) : stp 1 c = 2 := by simp [stp, h]
theorem stp1_no {c : Int} (h : dg c = false) : stp 1 c = -1 := by simp [stp, h]
theorem stp2_point {c : Int} (h : c = 46) : stp 2 c = 3 := by simp [stp, h]
theorem stp2_dig {c : Int} (h : dg c = true) : stp 2 c = 2 := by
  have : c ≠ 46 := fun e => by rw [e] at h; cases h
  simp [stp, h, this]
theorem stp2_no {c : Int} (h : dg c = false) (h2 : c ≠ 46) : stp 2 c = -1 := by simp [stp, h, h2]
theorem stp3_dig {c : Int} (h : dg c = true) : stp 3 c = 4 := by simp [stp, h]
theorem stp3_no {c : Int} (h : dg c = false) : stp 3 c = -1 := by simp [stp, h]
theorem stp4_dig {c : Int} (h : dg c = true) : stp 4 c = 4 := by simp [stp, h]
theorem stp4_no {c : Int} (h : dg c = false) : stp 4 c = -1 := by simp [stp, h]

/-- d is the length of the run of digits from index a on -/
structure RunAt (f : Nat → Int) (n a d : Nat) : Prop where
  le : a + d ≤ n
  dig : ∀ j, a ≤ j → j < a + d → dg (f j) = true
  stop : a + d < n → dg (f (a + d)) = false

theorem run2 {f : Nat → Int} {a : Nat} (h : st f a = 2) : ∀ d, (∀ j, a ≤ j → j < a + d → dg (f j) = true) → st f (a + d) = 2 := by
  intro d
  induction d with
  | zero => intro _; exact h
  | succ d ih =>
    intro hd
    have h1 := ih (fun j hj hj2 => hd j hj (by omega))
    exact st_of h1.symm (stp2_dig (hd (a + d) (by omega) (by omega)))
theorem run4 {f : Nat → Int} {a : Nat} (h : st f a = 4) : ∀ d, (∀ j, a ≤ j → j < a + d → dg (f j) = true) → st f (a + d) = 4 := by
  intro d
  induction d with
  | zero => intro _; exact h
  | succ d ih =>
    intro hd
    have h1 := ih (fun j hj hj2 => hd j hj (by omega))
    exact st_of h1.symm (stp4_dig (hd (a + d) (by omega) (by omega)))

/-- where plainDecimal begins its digits -/
structure Head (f : Nat → Int) (n a : Nat) : Prop where
  le : a ≤ n
  is : (a = 0 ∧ (0 < n → f 0 ≠ 45)) ∨ (a = 1 ∧ f 0 = 45)
theorem head_st {f : Nat → Int} {n a : Nat} (h : Head f n a) : (st f a = 0 ∧ (a < n → f a ≠ 45)) ∨ st f a = 1 := by
  rcases h.is with ⟨rfl, h2⟩ | ⟨rfl, h2⟩
  · exact .inl ⟨rfl, h2⟩
  · exact .inr (st_of rfl (stp0_minus h2))
/-- no digit: refused -/
theorem plain_none {f : Nat → Int} {n a : Nat} (h : Head f n a) (hr : RunAt f n a 0) : accB f n = false := by
  by_cases hn : a < n
  · have hd : dg (f a) = false := hr.stop hn
    refine acc_dead (k := a + 1) hn ?_
    rcases head_st h with ⟨h1, h2⟩ | h1
    · exact st_of h1.symm (stp0_no hd (h2 hn))
    · exact st_of h1.symm (stp1_no hd)
  · have e : a = n := by have := h.le; omega
    subst e
    rcases head_st h with ⟨h1, _⟩ | h1 <;> simp [accB, h1]
/-- behind the whole digits the automaton stands in 2 -/
theorem plain_whole {f : Nat → Int} {n a d : Nat} (h : Head f n a) (hr : RunAt f n a d) (hd : 0 < d) : st f (a + d) = 2 := by
  have h0 : dg (f a) = true := hr.dig a (Nat.le_refl _) (by omega)
  have h1 : st f (a + 1) = 2 := by
    rcases head_st h with ⟨h1, _⟩ | h1
    · exact st_of h1.symm (stp0_dig h0)
    · exact st_of h1.symm (stp1_dig h0)
  have h2 := run2 h1 (d - 1) (fun j hj hj2 => hr.dig j (by omega) (by omega))
  rw [show a + 1 + (d - 1) = a + d by omega] at h2
  exact h2
/-- all is spent behind the whole digits -/
theorem plain_end {f : Nat → Int} {n a d : Nat} (h : Head f n a) (hr : RunAt f n a d) (hd : 0 < d) (e : a + d = n) : accB f n = true := by
  have h2 := plain_whole h hr hd
  rw [e] at h2
  simp [accB, h2]
/-- something else than a point stands there -/
theorem plain_other {f : Nat → Int} {n a d : Nat} (h : Head f n a) (hr : RunAt f n a d) (hd : 0 < d) (hlt : a + d < n) (hc : f (a + d) ≠ 46) : accB f n = false := by
  have h2 := plain_whole h hr hd
  exact acc_dead (k := a + d + 1) hlt (st_of h2.symm (stp2_no (hr.stop hlt) hc))
/-- a point, and no digit behind it -/
theorem plain_bare {f : Nat → Int} {n a d : Nat} (h : Head f n a) (hr : RunAt f n a d) (hd : 0 < d) (hlt : a + d < n) (hc : f (a + d) = 46) (hr2 : RunAt f n (a + d + 1) 0) : accB f n = false := by
  have h2 := plain_whole h hr hd
  have h3 : st f (a + d + 1) = 3 := st_of h2.symm (stp2_point hc)
  by_cases hn : a + d + 1 < n
  · have hs : dg (f (a + d + 1)) = false := hr2.stop hn
    exact acc_dead (k := a + d + 1 + 1) hn (st_of h3.symm (stp3_no hs))
  · have e : a + d + 1 = n := by omega
    rw [e] at h3
    simp [accB, h3]
/-- a point, and digits behind it -/
theorem plain_frac {f : Nat → Int} {n a d g : Nat} (h : Head f n a) (hr : RunAt f n a d) (hd : 0 < d) (hc : f (a + d) = 46) (hr2 : RunAt f n (a + d + 1) g) (hg : 0 < g) : accB f n = decide (a + d + 1 + g = n) := by
  have h2 := plain_whole h hr hd
  have h3 : st f (a + d + 1) = 3 := st_of h2.symm (stp2_point hc)
  have h4 : st f (a + d + 1 + 1) = 4 := st_of h3.symm (stp3_dig (hr2.dig (a + d + 1) (Nat.le_refl _) (by omega)))
  have h5 := run4 h4 (g - 1) (fun j hj hj2 => hr2.dig j (by omega) (by omega))
  rw [show a + d + 1 + 1 + (g - 1) = a + d + 1 + g by omega] at h5
  by_cases e : a + d + 1 + g = n
  · rw [e] at h5
    simp [accB, h5, e]
  · have hlt : a + d + 1 + g < n := by have := hr2.le; omega
    rw [acc_dead (k := a + d + 1 + g + 1) hlt (st_of h5.symm (stp4_no (hr2.stop hlt)))]
    simp [e]

/-! ### against wholeText -/
theorem st_digits {f : Nat → Int} (k : Nat) (h : ∀ j, j < k + 1 → dg (f j) = true) : st f (k + 1) = 2 := by
  induction k with
  | zero => exact st_of rfl (stp0_dig (h 0 (by omega)))
  | succ k ih => exact st_of (ih (fun j hj => h j (by omega))).symm (stp2_dig (h (k + 1) (by omega)))
theorem acc_of_wt {f : Nat → Int} {n : Nat} (h : wtB f n = true) : accB f n = true := by
  simp only [wtB, Bool.and_eq_true, decide_eq_true_eq] at h
  obtain ⟨h1, _, h3⟩ := h
  cases n with
  | zero => omega
  | succ k => simp [accB, st_digits k ((allDig_iff f _).1 h3)]
theorem st_nopoint {f : Nat → Int} {n : Nat} (hp : ∀ j, j < n → f j ≠ 46) (hm : 0 < n → f 0 ≠ 45) : ∀ k, k ≤ n → (k = 0 ∧ st f k = 0) ∨ (0 < k ∧ st f k = 2 ∧ ∀ j, j < k → dg (f j) = true) ∨ st f k = -1 := by
  intro k
  induction k with
  | zero => intro _; exact .inl ⟨rfl, rfl⟩
  | succ k ih =>
    intro hk
    cases hd : dg (f k) with
    | true =>
      rcases ih (by omega) with ⟨rfl, h0⟩ | ⟨h0, h1, h2⟩ | h1
      · exact .inr (.inl ⟨by omega, st_of h0.symm (stp0_dig hd), fun j hj => by rw [show j = 0 by omega]; exact hd⟩)
      · refine .inr (.inl ⟨by omega, st_of h1.symm (stp2_dig hd), fun j hj => ?_⟩)
        by_cases e : j = k
        · rw [e]; exact hd
        · exact h2 j (by omega)
      · exact .inr (.inr (st_dead h1 _ (by omega)))
    | false =>
      rcases ih (by omega) with ⟨rfl, h0⟩ | ⟨h0, h1, h2⟩ | h1
      · exact .inr (.inr (st_of h0.symm (stp0_no hd (hm (by omega)))))
      · exact .inr (.inr (st_of h1.symm (stp2_no hd (hp k (by omega)))))
      · exact .inr (.inr (st_dead h1 _ (by omega)))
theorem acc_eq_wt {f : Nat → Int} {n : Nat} (h18 : n ≤ 18) (hp : ∀ j, j < n → f j ≠ 46) (hm : 0 < n → f 0 ≠ 45) : accB f n = wtB f n := by
  rcases st_nopoint hp hm n (Nat.le_refl _) with ⟨rfl, h0⟩ | ⟨h0, h1, h2⟩ | h1
  · simp [accB, h0, wtB]
  · rw [wtB_yes h0 h18 h2]
    simp [accB, h1]
  · have ha : accB f n = false := by simp [accB, h1]
    cases hb : wtB f n with
    | false => exact ha
    | true => rw [acc_of_wt hb] at ha; cases ha
end Go.Proofs.Qxb6604287a
