/-
  CONTRACTS of digitsAt (25), plainDecimal (24), ZZplainDecimal (18), decimalAutomaton (19), hasPoint (21).
-/
import Derived.Test.Qxb6604287aText
import Derived.Test.Qxb6604287aAut
namespace Go.Proofs.Qxb6604287a
open Go.RowKit

theorem run_more {f : Nat → Int} {A d : Nat} (h : ∀ j, A ≤ j → j < A + d → dg (f j) = true) (hd : dg (f (A + d)) = true) : ∀ j, A ≤ j → j < A + (d + 1) → dg (f j) = true := by
  intro j h1 h2
  by_cases e : j = A + d
  · rw [e]; exact hd
  · exact h j h1 (by omega)

theorem digitsAt_go (a : Option Addr) (b off n cap A : Nat) (f : Nat → Int) (w : World) (hn47 : n ≤ 1048576) (hA : A ≤ n) (ha : 0 < n → a = some ⟨b, off, none⟩) (hc : BytesAt w b off n f) :
    Calls Try.prog 25 #[.slice a n cap, .int .i64 (A : Int)] w fun e w' => ∃ d : Nat, e = .returned (.int .i64 (d : Int)) ∧ RunAt f n A d ∧ w' = w := by
  have HA : Hid (0 < n → a = some ⟨b, off, none⟩) := ha
  have HC : Hid (BytesAt w b off n f) := hc
  clear ha hc
  go_enter Try.func25, Try.ntmps25
  go_wp2
  go_loop [5] (fun v => ∃ d : Nat, A + d ≤ n ∧ v = .int .i64 (d : Int) ∧ ∀ j, A ≤ j → j < A + d → dg (f j) = true) (fun v => n - (intOf v).toNat)
  case atStart => exact ⟨0, by omega, rfl, fun j hj hj2 => absurd hj2 (by omega)⟩
  case round =>
    obtain ⟨d, hd, rfl, hdig⟩ := hrel
    have HD : Hid (∀ j, A ≤ j → j < A + d → dg (f j) = true) := hdig
    clear hdig
    by_cases hlt : A + d < n
    · obtain rfl := HA.out (by omega)
      obtain ⟨hcell, hb0, hb1⟩ := HC.out (A + d) hlt
      have hI : (A : Int) + (d : Int) < (n : Int) := by omega
      by_cases hlow : f (A + d) < 48
      · go_wp2
        go_ret
        exact ⟨d, rfl, ⟨hd, HD.out, fun _ => dg_lo hlow⟩, rfl⟩
      · by_cases hhigh : 57 < f (A + d)
        · go_wp2
          go_ret
          exact ⟨d, rfl, ⟨hd, HD.out, fun _ => dg_hi hhigh⟩, rfl⟩
        · go_wp2
          go_round
          case rel => exact ⟨d + 1, by omega, by go_num, run_more HD.out (dg_true (by omega) (by omega))⟩
          case measure => simp [intOf]; omega
    · have hI : ¬ (A : Int) + (d : Int) < (n : Int) := by omega
      go_wp2
      go_ret
      exact ⟨d, rfl, ⟨hd, HD.out, fun h => absurd h hlt⟩, rfl⟩

theorem digitsAt_goI (a : Option Addr) (b off n cap A : Nat) (f : Nat → Int) (w : World) (i : Int) (hi : i = (A : Int)) (hn47 : n ≤ 1048576) (hA : A ≤ n) (ha : 0 < n → a = some ⟨b, off, none⟩) (hc : BytesAt w b off n f) :
    Calls Try.prog 25 #[.slice a n cap, .int .i64 i] w fun e w' => ∃ d : Nat, e = .returned (.int .i64 (d : Int)) ∧ RunAt f n A d ∧ w' = w := by
  subst hi
  exact digitsAt_go a b off n cap A f w hn47 hA ha hc

/-- no minus ahead -/
theorem plain_zero (b off n cap : Nat) (f : Nat → Int) (w : World) (h0 : 0 < n) (hn47 : n ≤ 1048576) (hf : (f 0 == 45) = false) (hc : BytesAt w b off n f) :
    Calls Try.prog 24 #[.slice (some ⟨b, off, none⟩) n cap] w fun e w' => e = .returned (.bool (accB f n)) ∧ w' = w := by
  have hH : Head f n 0 := ⟨by omega, by simp at hf; first | exact .inl ⟨rfl, fun _ => hf⟩ | exact .inr ⟨rfl, hf⟩⟩
  have HH : Hid (Head f n 0) := hH
  obtain ⟨hc0, _, _⟩ := hc 0 h0
  rw [Nat.add_zero] at hc0
  have HC : Hid (BytesAt w b off n f) := hc
  have h0I : (0 : Int) < (n : Int) := by omega
  clear hc hH
  go_enter Try.func24, Try.ntmps24
  go_wp2_with fail
  refine (digitsAt_goI (some ⟨b, off, none⟩) b off n cap 0 f _ _ rfl hn47 (by omega) (fun _ => rfl) HC.out).mono ?_
  rintro e w' ⟨d, rfl, hr, hw⟩
  subst w'
  have HR : Hid (RunAt f n 0 d) := hr
  have hle : d ≤ n := by have := hr.le; omega
  clear hr
  by_cases hend : d < n
  · obtain ⟨hcell, hb0, hb1⟩ := HC.out (d) hend
    have hI : (d : Int) < (n : Int) := by omega
    by_cases hp : f (d) = 46
    · have hpI : (f (d) == 46) = true := by simpa using hp
      have HP : Hid (f (d) = 46) := hp
      clear hp
      go_wp2_with fail
      refine (digitsAt_goI (some ⟨b, off, none⟩) b off n cap (d + 1) f _ _ (by omega) hn47 (by omega) (fun _ => rfl) HC.out).mono ?_
      rintro e w' ⟨g, rfl, hr2, hw⟩
      subst w'
      have HR2 : Hid (RunAt f n (d + 1) g) := hr2
      have hle2 : d + 1 + g ≤ n := hr2.le
      clear hr2
      by_cases hg : g = 0
      · subst hg
        go_wp2
        go_ret
        refine ⟨?_, rfl⟩
        by_cases hd : 0 < d
        · rw [plain_bare HH.out HR.out hd (by omega) (by simpa using HP.out) (by simpa using HR2.out)]; rfl
        · obtain rfl : d = 0 := by omega
          rw [plain_none HH.out HR.out]; rfl
      · have hgI : ((g : Int) == 0) = false := by simpa using hg
        by_cases hd : 0 < d
        · have hdI : (0 : Int) < (d : Int) := by omega
          have ha := plain_frac HH.out HR.out hd (by simpa using HP.out) (g := g) (by simpa using HR2.out) (by omega)
          have HAc : Hid (accB f n = decide (0 + d + 1 + g = n)) := ha
          clear ha
          go_wp2
          go_ret
          refine ⟨?_, rfl⟩
          rw [HAc.out]
          refine congrArg (fun q => Ending.returned (.bool q)) ?_
          rw [Bool.eq_iff_iff]
          simp
          omega
        · have hdI : ¬ (0 : Int) < (d : Int) := by omega
          go_wp2
          go_ret
          refine ⟨?_, rfl⟩
          obtain rfl : d = 0 := by omega
          rw [plain_none HH.out HR.out]; rfl
    · have hpI : (f (d) == 46) = false := by simpa using hp
      by_cases hd : 0 < d
      · have hdI : (0 : Int) < (d : Int) := by omega
        have hneI : ((d : Int) == (n : Int)) = false := by simp; omega
        go_wp2
        go_ret
        refine ⟨?_, rfl⟩
        rw [plain_other HH.out HR.out hd (by omega) (by simpa using hp)]; rfl
      · have hdI : ¬ (0 : Int) < (d : Int) := by omega
        go_wp2
        go_ret
        refine ⟨?_, rfl⟩
        obtain rfl : d = 0 := by omega
        rw [plain_none HH.out HR.out]; rfl
  · have hI : ¬ (d : Int) < (n : Int) := by omega
    by_cases hd : 0 < d
    · have hdI : (0 : Int) < (d : Int) := by omega
      have heqI : ((d : Int) == (n : Int)) = true := by simp; omega
      go_wp2
      go_ret
      refine ⟨?_, rfl⟩
      rw [plain_end HH.out HR.out hd (by omega)]; rfl
    · have hdI : ¬ (0 : Int) < (d : Int) := by omega
      go_wp2
      go_ret
      refine ⟨?_, rfl⟩
      obtain rfl : d = 0 := by omega
      rw [plain_none HH.out HR.out]; rfl

/-- a minus ahead -/
theorem plain_one (b off n cap : Nat) (f : Nat → Int) (w : World) (h0 : 0 < n) (hn47 : n ≤ 1048576) (hf : (f 0 == 45) = true) (hc : BytesAt w b off n f) :
    Calls Try.prog 24 #[.slice (some ⟨b, off, none⟩) n cap] w fun e w' => e = .returned (.bool (accB f n)) ∧ w' = w := by
  have hH : Head f n 1 := ⟨by omega, by simp at hf; first | exact .inl ⟨rfl, fun _ => hf⟩ | exact .inr ⟨rfl, hf⟩⟩
  have HH : Hid (Head f n 1) := hH
  obtain ⟨hc0, _, _⟩ := hc 0 h0
  rw [Nat.add_zero] at hc0
  have HC : Hid (BytesAt w b off n f) := hc
  have h0I : (0 : Int) < (n : Int) := by omega
  clear hc hH
  go_enter Try.func24, Try.ntmps24
  go_wp2_with fail
  refine (digitsAt_goI (some ⟨b, off, none⟩) b off n cap 1 f _ _ rfl hn47 (by omega) (fun _ => rfl) HC.out).mono ?_
  rintro e w' ⟨d, rfl, hr, hw⟩
  subst w'
  have HR : Hid (RunAt f n 1 d) := hr
  have hle : 1 + d ≤ n := by have := hr.le; omega
  clear hr
  by_cases hend : 1 + d < n
  · obtain ⟨hcell, hb0, hb1⟩ := HC.out (1 + d) hend
    have hI : 1 + (d : Int) < (n : Int) := by omega
    by_cases hp : f (1 + d) = 46
    · have hpI : (f (1 + d) == 46) = true := by simpa using hp
      have HP : Hid (f (1 + d) = 46) := hp
      clear hp
      go_wp2_with fail
      refine (digitsAt_goI (some ⟨b, off, none⟩) b off n cap (1 + d + 1) f _ _ (by omega) hn47 (by omega) (fun _ => rfl) HC.out).mono ?_
      rintro e w' ⟨g, rfl, hr2, hw⟩
      subst w'
      have HR2 : Hid (RunAt f n (1 + d + 1) g) := hr2
      have hle2 : 1 + d + 1 + g ≤ n := hr2.le
      clear hr2
      by_cases hg : g = 0
      · subst hg
        go_wp2
        go_ret
        refine ⟨?_, rfl⟩
        by_cases hd : 0 < d
        · rw [plain_bare HH.out HR.out hd (by omega) (by simpa using HP.out) (by simpa using HR2.out)]; rfl
        · obtain rfl : d = 0 := by omega
          rw [plain_none HH.out HR.out]; rfl
      · have hgI : ((g : Int) == 0) = false := by simpa using hg
        by_cases hd : 0 < d
        · have hdI : (0 : Int) < (d : Int) := by omega
          have ha := plain_frac HH.out HR.out hd (by simpa using HP.out) (g := g) (by simpa using HR2.out) (by omega)
          have HAc : Hid (accB f n = decide (1 + d + 1 + g = n)) := ha
          clear ha
          go_wp2
          go_ret
          refine ⟨?_, rfl⟩
          rw [HAc.out]
          refine congrArg (fun q => Ending.returned (.bool q)) ?_
          rw [Bool.eq_iff_iff]
          simp
          omega
        · have hdI : ¬ (0 : Int) < (d : Int) := by omega
          go_wp2
          go_ret
          refine ⟨?_, rfl⟩
          obtain rfl : d = 0 := by omega
          rw [plain_none HH.out HR.out]; rfl
    · have hpI : (f (1 + d) == 46) = false := by simpa using hp
      by_cases hd : 0 < d
      · have hdI : (0 : Int) < (d : Int) := by omega
        have hneI : (1 + (d : Int) == (n : Int)) = false := by simp; omega
        go_wp2
        go_ret
        refine ⟨?_, rfl⟩
        rw [plain_other HH.out HR.out hd (by omega) (by simpa using hp)]; rfl
      · have hdI : ¬ (0 : Int) < (d : Int) := by omega
        go_wp2
        go_ret
        refine ⟨?_, rfl⟩
        obtain rfl : d = 0 := by omega
        rw [plain_none HH.out HR.out]; rfl
  · have hI : ¬ 1 + (d : Int) < (n : Int) := by omega
    by_cases hd : 0 < d
    · have hdI : (0 : Int) < (d : Int) := by omega
      have heqI : (1 + (d : Int) == (n : Int)) = true := by simp; omega
      go_wp2
      go_ret
      refine ⟨?_, rfl⟩
      rw [plain_end HH.out HR.out hd (by omega)]; rfl
    · have hdI : ¬ (0 : Int) < (d : Int) := by omega
      go_wp2
      go_ret
      refine ⟨?_, rfl⟩
      obtain rfl : d = 0 := by omega
      rw [plain_none HH.out HR.out]; rfl
end Go.Proofs.Qxb6604287a
