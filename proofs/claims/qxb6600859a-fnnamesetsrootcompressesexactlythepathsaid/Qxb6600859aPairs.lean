/-
  CONTRACTS of zzPairLookup (15), zzPairRoot (8).
-/
import Derived.Test.Qxb6600859aGuard
namespace Go.Proofs.Qxb6600859a
open Go.RowKit

theorem seq_true {a b : ByteArray} (h : a = b) : (a.toList == b.toList) = true := by rw [h]; simp
theorem seq_false {a b : ByteArray} (h : a ≠ b) : (a.toList == b.toList) = false := by
  cases hb : (a.toList == b.toList) with
  | false => rfl
  | true =>
    have e : a.toList = b.toList := by simpa using hb
    rw [ByteArray.toList_eq, ByteArray.toList_eq] at e
    exact absurd (ba_ext e) h

theorem pairLookup (a0 a1 : Option Addr) (b0 o0 n c0 b1 o1 c1 : Nat) (K V : Nat → ByteArray) (x : ByteArray) (w : World) (hn : n ≤ 4096) (ha0 : 0 < n → a0 = some ⟨b0, o0, none⟩) (hs0 : StrsAt w b0 o0 n K) (ha1 : 0 < n → a1 = some ⟨b1, o1, none⟩) (hs1 : StrsAt w b1 o1 n V) :
    Calls Try.prog 15 #[.slice a0 n c0, .slice a1 n c1, .string x] w fun e w' => e = .returned (.tuple #[.string ((plk K V n x).getD ⟨#[]⟩), .bool (plk K V n x).isSome]) ∧ w' = w := by
  have HA0 : Hid (0 < n → a0 = some ⟨b0, o0, none⟩) := ha0
  have HS0 : Hid (StrsAt w b0 o0 n K) := hs0
  have HA1 : Hid (0 < n → a1 = some ⟨b1, o1, none⟩) := ha1
  have HS1 : Hid (StrsAt w b1 o1 n V) := hs1
  obtain ⟨res, hres⟩ : ∃ res, res = plk K V n x := ⟨_, rfl⟩
  rw [← hres]
  have HR : Hid (res = plk K V n x) := hres
  clear ha0 hs0 ha1 hs1 hres
  go_enter Try.func15, Try.ntmps15
  go_wp2
  go_loop [8] (fun i => ∃ r : Nat, r ≤ n ∧ i = .int .i64 ((r : Int) - 1) ∧ Hid (res = plk K V r x)) (fun i => (intOf i + 1).toNat)
  case atStart => exact ⟨n, Nat.le_refl _, rfl, HR⟩
  case round =>
    obtain ⟨r, hr, rfl, HP⟩ := hrel
    cases r with
    | zero =>
      go_wp2
      go_ret2
      rw [show res = none from HP.out]
      exact ⟨rfl, rfl⟩
    | succ t =>
      obtain rfl := HA0.out (by omega)
      obtain rfl := HA1.out (by omega)
      obtain ⟨hc0, _⟩ := HS0.out t (by omega)
      obtain ⟨hc1, _⟩ := HS1.out t (by omega)
      have htI : (t : Int) < (n : Int) := by omega
      by_cases e : K t = x
      · have he := seq_true e
        have HE : Hid (K t = x) := e
        clear e
        go_wp2
        go_ret2
        rw [show res = some (V t) from by rw [HP.out, plk, if_pos HE.out]]
        exact ⟨rfl, rfl⟩
      · have he := seq_false e
        go_wp2
        go_round
        case rel => exact ⟨t, by omega, rfl, by rw [HP.out, plk, if_neg e]; exact rfl⟩
        case measure => simp [intOf]

/-- the walk along the links ended at r within n links, or it did not end -/
def RootEnds (g : ByteArray → Option ByteArray) (x : ByteArray) (n : Nat) (e : Ending) : Prop :=
  (∃ ys r, Seg g x ys r ∧ g r = none ∧ ys.length ≤ n ∧ r.size ≤ maxLen ∧ e = .returned (.tuple #[.string r, .bool true])) ∨ e = .returned (.tuple #[.string ⟨#[]⟩, .bool false])

theorem pairRoot (a0 a1 : Option Addr) (b0 o0 n c0 b1 o1 c1 : Nat) (K V : Nat → ByteArray) (x : ByteArray) (w : World) (hn : n ≤ 4096) (hx : x.size ≤ maxLen) (ha0 : 0 < n → a0 = some ⟨b0, o0, none⟩) (hs0 : StrsAt w b0 o0 n K) (ha1 : 0 < n → a1 = some ⟨b1, o1, none⟩) (hs1 : StrsAt w b1 o1 n V) :
    Calls Try.prog 8 #[.slice a0 n c0, .slice a1 n c1, .string x] w fun e w' => RootEnds (plk K V n) x n e ∧ w' = w := by
  have HA0 : Hid (0 < n → a0 = some ⟨b0, o0, none⟩) := ha0
  have HS0 : Hid (StrsAt w b0 o0 n K) := hs0
  have HA1 : Hid (0 < n → a1 = some ⟨b1, o1, none⟩) := ha1
  have HS1 : Hid (StrsAt w b1 o1 n V) := hs1
  clear ha0 hs0 ha1 hs1
  obtain ⟨g, hg⟩ : ∃ g, g = plk K V n := ⟨_, rfl⟩
  rw [← hg]
  have HG : Hid (g = plk K V n) := hg
  clear hg
  go_enter Try.func8, Try.ntmps8
  go_wp2
  go_loop [8, 9] (fun v i => ∃ (k : Nat) (pre : List ByteArray) (y : ByteArray), k ≤ n + 1 ∧ v = .string y ∧ i = .int .i64 (k : Int) ∧ Hid (Seg g x pre y ∧ pre.length = k ∧ y.size ≤ maxLen)) (fun _ i => n + 1 - (intOf i).toNat)
  case atStart => exact ⟨0, [], x, by omega, rfl, rfl, ⟨rfl, rfl, hx⟩⟩
  case round =>
    obtain ⟨k, pre, y, hk, rfl, rfl, HP⟩ := hrel
    by_cases hlt : (k : Int) ≤ (n : Int)
    · have hcall := pairLookup a0 a1 b0 o0 n c0 b1 o1 c1 K V y w hn HA0.out HS0.out HA1.out HS1.out
      rw [← HG.out] at hcall
      cases hgy : g y with
      | none =>
        rw [hgy] at hcall
        have HY : Hid (g y = none) := hgy
        clear hgy
        go_wp2_with fail
        refine hcall.mono ?_
        rintro e w' ⟨rfl, hw⟩
        subst w'
        clear hcall
        go_wp2
        go_ret2
        exact ⟨.inl ⟨pre, y, HP.out.1, HY.out, by rw [HP.out.2.1]; omega, HP.out.2.2, rfl⟩, rfl⟩
      | some z =>
        rw [hgy] at hcall
        have HY : Hid (g y = some z) := hgy
        have HZ : Hid (z.size ≤ maxLen) := by
          have h := hgy
          rw [HG.out] at h
          exact plk_val (p := fun s => s.size ≤ maxLen) (fun j hj => (HS1.out j hj).2) h
        clear hgy
        go_wp2_with fail
        refine hcall.mono ?_
        rintro e w' ⟨rfl, hw⟩
        subst w'
        clear hcall
        go_wp2
        go_round
        case rel => exact ⟨k + 1, pre ++ [y], z, by omega, rfl, by go_num, seg_snoc HP.out.1 HY.out, by simp [HP.out.2.1], HZ.out⟩
        case measure => simp [intOf]; omega
    · go_wp2
      go_ret2
      exact ⟨.inr rfl, rfl⟩
end Go.Proofs.Qxb6600859a
