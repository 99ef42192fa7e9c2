/-
  CONTRACTS of zzMapRoot (12), zzContainsStr (13).
-/
import Derived.Test.Qxb6600859aRoot
namespace Go.Proofs.Qxb6600859a
open Go.RowKit

theorem mapRoot (b sz n : Nat) (g : ByteArray → Option ByteArray) (x : ByteArray) (w : World) (hn : n ≤ 4096) (hx : x.size ≤ maxLen) (hm : MapIs w b sz g) :
    Calls Try.prog 12 #[.map (some b), .string x, .int .i64 (n : Int)] w fun e w' => RootEnds g x n e ∧ w' = w := by
  have HM : Hid (MapIs w b sz g) := hm
  clear hm
  go_enter Try.func12, Try.ntmps12
  go_wp2
  go_loop [8, 9] (fun v i => ∃ (k : Nat) (pre : List ByteArray) (y : ByteArray), k ≤ n + 1 ∧ v = .string y ∧ i = .int .i64 (k : Int) ∧ Hid (Seg g x pre y ∧ pre.length = k ∧ y.size ≤ maxLen)) (fun _ i => n + 1 - (intOf i).toNat)
  case atStart => exact ⟨0, [], x, by omega, rfl, rfl, ⟨rfl, rfl, hx⟩⟩
  case round =>
    obtain ⟨k, pre, y, hk, rfl, rfl, HP⟩ := hrel
    by_cases hlt : (k : Int) ≤ (n : Int)
    · cases hgy : g y with
      | none =>
        have hlk := HM.out.look_none HP.out.2.2 hgy
        have HY : Hid (g y = none) := hgy
        clear hgy
        go_wp2
        go_ret2
        exact ⟨.inl ⟨pre, y, HP.out.1, HY.out, by rw [HP.out.2.1]; omega, HP.out.2.2, rfl⟩, rfl⟩
      | some z =>
        obtain ⟨hz, hlk, _⟩ := HM.out.look_some HP.out.2.2 hgy
        have HY : Hid (g y = some z) := hgy
        have HZ : Hid (z.size ≤ maxLen) := hz
        clear hgy hz
        go_wp2
        go_round
        case rel => exact ⟨k + 1, pre ++ [y], z, by omega, rfl, by go_num, seg_snoc HP.out.1 HY.out, by simp [HP.out.2.1], HZ.out⟩
        case measure => simp [intOf]; omega
    · go_wp2
      go_ret2
      exact ⟨.inr rfl, rfl⟩

/-- The cells of a row of strings, its length aside. -/
def RowAt (w : World) (b n : Nat) (S : Nat → ByteArray) : Prop := ∀ j, j < n → w.cell? ⟨b, j, none⟩ = some (.string (S j))

theorem contains_yes (b n cap t : Nat) (S : Nat → ByteArray) (s : ByteArray) (w : World) (hn : n ≤ 4096) (hrow : RowAt w b n S) (ht : t < n) (hs : S t = s) :
    Calls Try.prog 13 #[.slice (some ⟨b, 0, none⟩) n cap, .string s] w fun e w' => e = .returned (.bool true) ∧ w' = w := by
  have HR : Hid (RowAt w b n S) := hrow
  have HS : Hid (S t = s) := hs
  clear hrow hs
  go_enter Try.func13, Try.ntmps13
  go_wp2
  go_loop [5] (fun i => ∃ k : Nat, k ≤ t ∧ i = .int .i64 (k : Int)) (fun i => n - (intOf i).toNat)
  case atStart => exact ⟨0, Nat.zero_le _, rfl⟩
  case round =>
    obtain ⟨k, hk, rfl⟩ := hrel
    have hkI : (k : Int) < (n : Int) := by omega
    have hcell := HR.out k (by omega)
    by_cases e : S k = s
    · have he := seq_true e
      clear e
      go_wp2
      go_ret
      exact ⟨rfl, rfl⟩
    · have he := seq_false e
      have hkt : k < t := by
        rcases Nat.lt_or_ge k t with h | h
        · exact h
        · exact absurd (by rw [show k = t by omega]; exact HS.out) e
      clear e
      go_wp2
      go_round
      case rel => exact ⟨k + 1, by omega, by go_num⟩
      case measure => simp [intOf]; omega

theorem contains_no (b n cap : Nat) (S : Nat → ByteArray) (s : ByteArray) (w : World) (hn : n ≤ 4096) (hrow : RowAt w b n S) (hs : ∀ j, j < n → S j ≠ s) :
    Calls Try.prog 13 #[.slice (some ⟨b, 0, none⟩) n cap, .string s] w fun e w' => e = .returned (.bool false) ∧ w' = w := by
  have HR : Hid (RowAt w b n S) := hrow
  have HS : Hid (∀ j, j < n → S j ≠ s) := hs
  clear hrow hs
  go_enter Try.func13, Try.ntmps13
  go_wp2
  go_loop [5] (fun i => ∃ k : Nat, k ≤ n ∧ i = .int .i64 (k : Int)) (fun i => n - (intOf i).toNat)
  case atStart => exact ⟨0, Nat.zero_le _, rfl⟩
  case round =>
    obtain ⟨k, hk, rfl⟩ := hrel
    by_cases hkI : (k : Int) < (n : Int)
    · have hcell := HR.out k (by omega)
      have he := seq_false (HS.out k (by omega))
      go_wp2
      go_round
      case rel => exact ⟨k + 1, by omega, by go_num⟩
      case measure => simp [intOf]; omega
    · go_wp2
      go_ret
      exact ⟨rfl, rfl⟩

/-- A list of names that lies in a row. -/
theorem contains_list_yes (b cap : Nat) (ys : List ByteArray) (s : ByteArray) (w : World) (hn : ys.length ≤ 4096) (hrow : RowAt w b ys.length (fun j => ys.getD j ⟨#[]⟩)) (hs : s ∈ ys) :
    Calls Try.prog 13 #[.slice (some ⟨b, 0, none⟩) ys.length cap, .string s] w fun e w' => e = .returned (.bool true) ∧ w' = w := by
  obtain ⟨t, ht, e⟩ := List.getElem_of_mem hs
  exact contains_yes b ys.length cap t _ s w hn hrow ht (by rw [List.getD, List.getElem?_eq_getElem ht]; exact e)
theorem contains_list_no (b cap : Nat) (ys : List ByteArray) (s : ByteArray) (w : World) (hn : ys.length ≤ 4096) (hrow : RowAt w b ys.length (fun j => ys.getD j ⟨#[]⟩)) (hs : s ∉ ys) :
    Calls Try.prog 13 #[.slice (some ⟨b, 0, none⟩) ys.length cap, .string s] w fun e w' => e = .returned (.bool false) ∧ w' = w := by
  refine contains_no b ys.length cap _ s w hn hrow (fun j hj e => hs ?_)
  rw [List.getD, List.getElem?_eq_getElem hj] at e
  rw [← e]
  exact List.getElem_mem hj
theorem row_of_owned {w : World} {base b cap : Nat} {ys : List ByteArray} (h : w.ownsRow base 9 1 (.slice (some ⟨b, 0, none⟩) ys.length cap) ys.length (ys.map Value.string)) : RowAt w b ys.length (fun j => ys.getD j ⟨#[]⟩) := by
  intro j hj
  rw [h.cellAt j (by omega)]
  rw [List.getElem?_map, List.getElem?_eq_getElem hj]
  simp [List.getD, List.getElem?_eq_getElem hj]
end Go.Proofs.Qxb6600859a
