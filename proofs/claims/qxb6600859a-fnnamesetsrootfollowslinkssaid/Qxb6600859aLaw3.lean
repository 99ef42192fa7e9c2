/-
  THE WALK of FnNameSetsRootFollowsLinks (3).
-/
import Derived.Test.Qxb6600859aRoot
namespace Go.Proofs.Qxb6600859a
open Go.RowKit

set_option maxHeartbeats 800000 in
theorem law3_go (a0 a1 : Option Addr) (b0 o0 n0 c0 b1 o1 n1 c1 : Nat) (K V : Nat → ByteArray) (nm : ByteArray) (w : World) (hnm : nm.size ≤ maxLen) (ha0 : 0 < n0 → a0 = some ⟨b0, o0, none⟩) (hs0 : StrsAt w b0 o0 n0 K) (ha1 : 0 < n1 → a1 = some ⟨b1, o1, none⟩) (hs1 : StrsAt w b1 o1 n1 V) :
    Calls Try.prog 3 #[.slice a0 n0 c0, .slice a1 n1 c1, .string nm] w fun e w' => e = .returned (.bool true) ∧ Below w.heap.size w w' := by
  have HA0 : Hid (0 < n0 → a0 = some ⟨b0, o0, none⟩) := ha0
  have HS0 : Hid (StrsAt w b0 o0 n0 K) := hs0
  have HA1 : Hid (0 < n1 → a1 = some ⟨b1, o1, none⟩) := ha1
  have HS1 : Hid (StrsAt w b1 o1 n1 V) := hs1
  have HNM : Hid (nm.size ≤ maxLen) := hnm
  clear ha0 hs0 ha1 hs1
  unfold maxLen at hnm
  go_enter Try.func3, Try.ntmps3
  go_wp2_with fail
  refine (zb6 a0 a1 b0 o0 n0 c0 b1 o1 n1 c1 K V nm w HA0.out HS0.out HA1.out HS1.out HNM.out).mono ?_
  rintro e w' ⟨⟨B, rfl⟩, hw⟩
  subst w'
  cases B with
  | false =>
    go_wp2
    go_ret
    exact ⟨rfl, Below.refl _ _⟩
  | true =>
    by_cases h1 : (4096 : Int) < (n0 : Int)
    · go_wp2
      go_ret
      exact ⟨rfl, Below.refl _ _⟩
    by_cases h2 : (4096 : Int) < (n1 : Int)
    · go_wp2
      go_ret
      exact ⟨rfl, Below.refl _ _⟩
    by_cases h3 : (1048576 : Int) < (nm.size : Int)
    · go_wp2
      go_ret
      exact ⟨rfl, Below.refl _ _⟩
    go_wp2_with fail
    refine (strsBytes a0 b0 o0 n0 c0 K w (by omega) HA0.out HS0.out).mono ?_
    rintro e w' ⟨⟨t0, ht0, rfl⟩, hw⟩
    subst w'
    go_wp2_with fail
    refine (strsBytes a1 b1 o1 n1 c1 V w (by omega) HA1.out HS1.out).mono ?_
    rintro e w' ⟨⟨t1, ht1, rfl⟩, hw⟩
    subst w'
    by_cases h4 : (1048576 : Int) < (t0 : Int) + (t1 : Int) + (nm.size : Int)
    · go_wp2
      go_ret
      exact ⟨rfl, Below.refl _ _⟩
    by_cases h5 : n0 = n1
    · subst h5
      have h5I : ((n0 : Int) == (n0 : Int)) = true := by simp
      go_wp2_with fail
      refine (pairRoot a0 a1 b0 o0 n0 c0 b1 o1 c1 K V nm w (by omega) HNM.out HA0.out HS0.out HA1.out HS1.out).mono ?_
      rintro e w' ⟨hE, hw⟩
      subst w'
      rcases hE with ⟨ys, r, hseg, hr, hlen, hrs, rfl⟩ | rfl
      · have HSG : Hid (Seg (plk K V n0) nm ys r ∧ plk K V n0 r = none ∧ r.size ≤ maxLen) := ⟨hseg, hr, hrs⟩
        clear hseg hr hlen hrs
        go_wp2_with fail
        refine (build a0 a1 b0 o0 n0 c0 b1 o1 c1 K V w (by omega) HA0.out HS0.out HA1.out HS1.out).mono ?_
        rintro e w1 ⟨rfl, hown, hbel⟩
        have HM : Hid (MapIs w1 w.heap.size (Maps.size (bld K V n0)) (plk K V n0)) := MapIs_bld (by omega) hown
        clear hown
        go_wp2_with fail
        refine (zroot_go w.heap.size _ (plk K V n0) nm r ys w1 HNM.out HM.out HSG.out.1 HSG.out.2.1 HSG.out.2.2).mono ?_
        rintro e w2 ⟨rfl, hm2, hg2⟩
        have hlk := hm2.look_none HSG.out.2.2 ((cg_out (seg_root HSG.out.1 HSG.out.2.1)).trans HSG.out.2.1)
        have heq := seq_true (rfl : r = r)
        have HB : Hid (Below w.heap.size w w2) := hbel.grown hg2 hbel.size (fun j hj => by cases hj; exact Nat.le_refl _)
        clear hm2 hg2 hbel
        go_wp2
        go_ret
        exact ⟨rfl, HB.out⟩
      · go_wp2
        go_ret
        exact ⟨rfl, Below.refl _ _⟩
    · have h5I : ((n0 : Int) == (n1 : Int)) = false := by simp; omega
      go_wp2
      go_ret
      exact ⟨rfl, Below.refl _ _⟩
end Go.Proofs.Qxb6600859a
