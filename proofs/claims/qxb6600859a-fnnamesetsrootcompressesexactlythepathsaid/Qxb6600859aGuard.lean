/-
  CONTRACTS of the length guards (6, 11), of zzStrsBytes (7).
-/
import Derived.Test.Qxb6600859aMap
namespace Go.Proofs.Qxb6600859a
open Go.RowKit

/-- The cells of a row of strings that lies in memory. -/
def StrsAt (w : World) (b off n : Nat) (S : Nat → ByteArray) : Prop := ∀ j, j < n → w.cell? ⟨b, off + j, none⟩ = some (.string (S j)) ∧ (S j).size ≤ maxLen

/-- some bool is answered -/
def SomeBool (e : Ending) : Prop := ∃ B, e = .returned (.bool B)

/-- zzStrsBytes answers some number within the lid -/
theorem strsBytes (a0 : Option Addr) (b0 o0 n0 c0 : Nat) (S0 : Nat → ByteArray) (w : World) (hn0 : n0 ≤ 4096) (ha0 : 0 < n0 → a0 = some ⟨b0, o0, none⟩) (hs0 : StrsAt w b0 o0 n0 S0) :
    Calls Try.prog 7 #[.slice a0 n0 c0] w fun e w' => (∃ t : Nat, t ≤ 1048577 ∧ e = .returned (.int .i64 (t : Int))) ∧ w' = w := by
  have HA0 : Hid (0 < n0 → a0 = some ⟨b0, o0, none⟩) := ha0
  have HS0 : Hid (StrsAt w b0 o0 n0 S0) := hs0
  clear ha0 hs0
  go_enter Try.func7, Try.ntmps7
  go_wp2
  go_loop [3, 4] (fun v i => ∃ k z : Nat, k ≤ n0 ∧ z ≤ 1048576 ∧ v = .int .i64 (z : Int) ∧ i = .int .i64 (k : Int)) (fun _ i => n0 - (intOf i).toNat)
  case atStart => exact ⟨0, 0, by omega, by omega, rfl, rfl⟩
  case round =>
    obtain ⟨k, z, hk, hz, rfl, rfl⟩ := hrel
    by_cases hlt : (k : Int) < (n0 : Int)
    · obtain rfl := HA0.out (by omega)
      obtain ⟨hcell, hsz⟩ := HS0.out k (by omega)
      unfold maxLen at hsz
      by_cases h1 : (1048576 : Int) < ((S0 k).size : Int)
      · go_wp2
        go_ret
        exact ⟨⟨1048577, by omega, rfl⟩, rfl⟩
      · by_cases h2 : (1048576 : Int) < (z : Int) + (16 + ((S0 k).size : Int))
        · go_wp2
          go_ret
          exact ⟨⟨1048577, by omega, rfl⟩, rfl⟩
        · go_wp2
          go_round
          case rel => exact ⟨k + 1, z + (16 + (S0 k).size), by omega, by omega, by go_num, by go_num⟩
          case measure => simp [intOf]; omega
    · go_wp2
      go_ret
      exact ⟨⟨z, by omega, rfl⟩, rfl⟩

/-- the length guard answers some bool -/
theorem zb6 (a0 a1 : Option Addr) (b0 o0 n0 c0 b1 o1 n1 c1 : Nat) (S0 S1 : Nat → ByteArray) (nm : ByteArray) (w : World) (ha0 : 0 < n0 → a0 = some ⟨b0, o0, none⟩) (hs0 : StrsAt w b0 o0 n0 S0) (ha1 : 0 < n1 → a1 = some ⟨b1, o1, none⟩) (hs1 : StrsAt w b1 o1 n1 S1) (hnm : nm.size ≤ maxLen) :
    Calls Try.prog 6 #[.slice a0 n0 c0, .slice a1 n1 c1, .string nm] w fun e w' => SomeBool e ∧ w' = w := by
  have HA0 : Hid (0 < n0 → a0 = some ⟨b0, o0, none⟩) := ha0
  have HS0 : Hid (StrsAt w b0 o0 n0 S0) := hs0
  have HA1 : Hid (0 < n1 → a1 = some ⟨b1, o1, none⟩) := ha1
  have HS1 : Hid (StrsAt w b1 o1 n1 S1) := hs1
  clear ha0 hs0 ha1 hs1
  unfold maxLen at hnm
  by_cases hl0 : (1048576 : Int) < (n0 : Int)
  · go_enter Try.func6, Try.ntmps6
    go_wp2
    go_ret
    exact ⟨⟨_, rfl⟩, rfl⟩
  go_enter Try.func6, Try.ntmps6
  go_wp2
  go_loop [7, 8] (fun v i => ∃ k z : Nat, k ≤ n0 ∧ z ≤ 1048576 ∧ v = .int .i64 (z : Int) ∧ i = .int .i64 (k : Int)) (fun _ i => n0 - (intOf i).toNat)
  case atStart => exact ⟨0, n0, by omega, by omega, by go_num, rfl⟩
  case round =>
    obtain ⟨k, z, hk, hz, rfl, rfl⟩ := hrel
    by_cases hlt : (k : Int) < (n0 : Int)
    · obtain rfl := HA0.out (by omega)
      obtain ⟨hcell, hsz⟩ := HS0.out k (by omega)
      unfold maxLen at hsz
      by_cases h1 : (1048576 : Int) < ((S0 k).size : Int)
      · go_wp2
        go_ret
        exact ⟨⟨_, rfl⟩, rfl⟩
      · by_cases h2 : (1048576 : Int) < (z : Int) + ((S0 k).size : Int)
        · go_wp2
          go_ret
          exact ⟨⟨_, rfl⟩, rfl⟩
        · go_wp2
          go_round
          case rel => exact ⟨k + 1, z + (S0 k).size, by omega, by omega, by go_num, by go_num⟩
          case measure => simp [intOf]; omega
    · by_cases hl1 : (1048576 : Int) < (n1 : Int)
      · go_wp2
        go_ret
        exact ⟨⟨_, rfl⟩, rfl⟩
      by_cases hl2 : (1048576 : Int) < (z : Int) + (n1 : Int)
      · go_wp2
        go_ret
        exact ⟨⟨_, rfl⟩, rfl⟩
      go_wp2
      go_loop [7, 9] (fun v i => ∃ k z : Nat, k ≤ n1 ∧ z ≤ 1048576 ∧ v = .int .i64 (z : Int) ∧ i = .int .i64 (k : Int)) (fun _ i => n1 - (intOf i).toNat)
      case atStart => exact ⟨0, z + n1, by omega, by omega, by go_num, rfl⟩
      case round =>
        obtain ⟨k2, z2, hk2, hz2, rfl, rfl⟩ := hrel
        by_cases hlt2 : (k2 : Int) < (n1 : Int)
        · obtain rfl := HA1.out (by omega)
          obtain ⟨hcell, hsz⟩ := HS1.out k2 (by omega)
          unfold maxLen at hsz
          by_cases h1 : (1048576 : Int) < ((S1 k2).size : Int)
          · go_wp2
            go_ret
            exact ⟨⟨_, rfl⟩, rfl⟩
          · by_cases h2 : (1048576 : Int) < (z2 : Int) + ((S1 k2).size : Int)
            · go_wp2
              go_ret
              exact ⟨⟨_, rfl⟩, rfl⟩
            · go_wp2
              go_round
              case rel => exact ⟨k2 + 1, z2 + (S1 k2).size, by omega, by omega, by go_num, by go_num⟩
              case measure => simp [intOf]; omega
        · by_cases h1 : (1048576 : Int) < (nm.size : Int)
          · go_wp2
            go_ret
            exact ⟨⟨_, rfl⟩, rfl⟩
          · by_cases h2 : (1048576 : Int) < (z2 : Int) + (nm.size : Int)
            · go_wp2
              go_ret
              exact ⟨⟨_, rfl⟩, rfl⟩
            · go_wp2
              go_ret
              exact ⟨⟨_, rfl⟩, rfl⟩

/-- the length guard answers some bool -/
theorem zb11 (a0 a1 : Option Addr) (b0 o0 n0 c0 b1 o1 n1 c1 : Nat) (S0 S1 : Nat → ByteArray) (nm : ByteArray) (w : World) (ha0 : 0 < n0 → a0 = some ⟨b0, o0, none⟩) (hs0 : StrsAt w b0 o0 n0 S0) (ha1 : 0 < n1 → a1 = some ⟨b1, o1, none⟩) (hs1 : StrsAt w b1 o1 n1 S1) (hnm : nm.size ≤ maxLen) :
    Calls Try.prog 11 #[.slice a0 n0 c0, .slice a1 n1 c1, .string nm] w fun e w' => SomeBool e ∧ w' = w := by
  have HA0 : Hid (0 < n0 → a0 = some ⟨b0, o0, none⟩) := ha0
  have HS0 : Hid (StrsAt w b0 o0 n0 S0) := hs0
  have HA1 : Hid (0 < n1 → a1 = some ⟨b1, o1, none⟩) := ha1
  have HS1 : Hid (StrsAt w b1 o1 n1 S1) := hs1
  clear ha0 hs0 ha1 hs1
  unfold maxLen at hnm
  by_cases hl0 : (1048576 : Int) < (n0 : Int)
  · go_enter Try.func11, Try.ntmps11
    go_wp2
    go_ret
    exact ⟨⟨_, rfl⟩, rfl⟩
  go_enter Try.func11, Try.ntmps11
  go_wp2
  go_loop [7, 8] (fun v i => ∃ k z : Nat, k ≤ n0 ∧ z ≤ 1048576 ∧ v = .int .i64 (z : Int) ∧ i = .int .i64 (k : Int)) (fun _ i => n0 - (intOf i).toNat)
  case atStart => exact ⟨0, n0, by omega, by omega, by go_num, rfl⟩
  case round =>
    obtain ⟨k, z, hk, hz, rfl, rfl⟩ := hrel
    by_cases hlt : (k : Int) < (n0 : Int)
    · obtain rfl := HA0.out (by omega)
      obtain ⟨hcell, hsz⟩ := HS0.out k (by omega)
      unfold maxLen at hsz
      by_cases h1 : (1048576 : Int) < ((S0 k).size : Int)
      · go_wp2
        go_ret
        exact ⟨⟨_, rfl⟩, rfl⟩
      · by_cases h2 : (1048576 : Int) < (z : Int) + ((S0 k).size : Int)
        · go_wp2
          go_ret
          exact ⟨⟨_, rfl⟩, rfl⟩
        · go_wp2
          go_round
          case rel => exact ⟨k + 1, z + (S0 k).size, by omega, by omega, by go_num, by go_num⟩
          case measure => simp [intOf]; omega
    · by_cases hl1 : (1048576 : Int) < (n1 : Int)
      · go_wp2
        go_ret
        exact ⟨⟨_, rfl⟩, rfl⟩
      by_cases hl2 : (1048576 : Int) < (z : Int) + (n1 : Int)
      · go_wp2
        go_ret
        exact ⟨⟨_, rfl⟩, rfl⟩
      go_wp2
      go_loop [7, 9] (fun v i => ∃ k z : Nat, k ≤ n1 ∧ z ≤ 1048576 ∧ v = .int .i64 (z : Int) ∧ i = .int .i64 (k : Int)) (fun _ i => n1 - (intOf i).toNat)
      case atStart => exact ⟨0, z + n1, by omega, by omega, by go_num, rfl⟩
      case round =>
        obtain ⟨k2, z2, hk2, hz2, rfl, rfl⟩ := hrel
        by_cases hlt2 : (k2 : Int) < (n1 : Int)
        · obtain rfl := HA1.out (by omega)
          obtain ⟨hcell, hsz⟩ := HS1.out k2 (by omega)
          unfold maxLen at hsz
          by_cases h1 : (1048576 : Int) < ((S1 k2).size : Int)
          · go_wp2
            go_ret
            exact ⟨⟨_, rfl⟩, rfl⟩
          · by_cases h2 : (1048576 : Int) < (z2 : Int) + ((S1 k2).size : Int)
            · go_wp2
              go_ret
              exact ⟨⟨_, rfl⟩, rfl⟩
            · go_wp2
              go_round
              case rel => exact ⟨k2 + 1, z2 + (S1 k2).size, by omega, by omega, by go_num, by go_num⟩
              case measure => simp [intOf]; omega
        · by_cases h1 : (1048576 : Int) < (nm.size : Int)
          · go_wp2
            go_ret
            exact ⟨⟨_, rfl⟩, rfl⟩
          · by_cases h2 : (1048576 : Int) < (z2 : Int) + (nm.size : Int)
            · go_wp2
              go_ret
              exact ⟨⟨_, rfl⟩, rfl⟩
            · go_wp2
              go_ret
              exact ⟨⟨_, rfl⟩, rfl⟩
end Go.Proofs.Qxb6600859a
