/-
  CONTRACTS of zzBuildSets (9), root (16), ZZNameSetsRoot (10).
-/
import Derived.Test.Qxb6600859aPairs
import Derived.RegionTactic
import Derived.BigRegion
import Derived.Deep.LoopGhost
namespace Go.Proofs.Qxb6600859a
open Go.RowKit Go.Maps Go.WideMaps
theorem makeMap28 (n : Nat) (w : World) : (Instr.makeMap 28 (some (.int .i64 (n : Int)))).run Try.prog w = .ok (.map (some w.heap.size)) (w.alloc (.map #[] 0)) := by
  simp [Instr.makeMap, run_underlying Try.underlying28, go_sem]

theorem build (a0 a1 : Option Addr) (b0 o0 n c0 b1 o1 c1 : Nat) (K V : Nat → ByteArray) (w : World) (hn : n ≤ 4096) (ha0 : 0 < n → a0 = some ⟨b0, o0, none⟩) (hs0 : StrsAt w b0 o0 n K) (ha1 : 0 < n → a1 = some ⟨b1, o1, none⟩) (hs1 : StrsAt w b1 o1 n V) :
    Calls Try.prog 9 #[.slice a0 n c0, .slice a1 n c1] w fun e w' => e = .returned (.map (some w.heap.size)) ∧ w'.ownsMap Try.prog 9 (plainElem Try.prog 9) w.heap.size n (bld K V n) ∧ Below w.heap.size w w' := by
  have HA0 : Hid (0 < n → a0 = some ⟨b0, o0, none⟩) := ha0
  have HS0 : Hid (StrsAt w b0 o0 n K) := hs0
  have HA1 : Hid (0 < n → a1 = some ⟨b1, o1, none⟩) := ha1
  have HS1 : Hid (StrsAt w b1 o1 n V) := hs1
  clear ha0 hs0 ha1 hs1
  have hmm := makeMap28 n
  go_enter Try.func9, Try.ntmps9
  go_wp2
  clear hmm
  go_loopw [6] (fun i wr => ∃ k : Nat, k ≤ n ∧ i = .int .i64 (k : Int) ∧ wr.ownsMap Try.prog 9 (plainElem Try.prog 9) w.heap.size k (bld K V k) ∧ Below w.heap.size w wr) (fun i _ => n - (intOf i).toNat)
  case atStart => exact ⟨0, Nat.zero_le _, rfl, World.ownsMap_made _ _ _ _, (Below.refl _ _).alloc (Nat.le_refl _) _⟩
  case round =>
    obtain ⟨k, hk, rfl, hown, hbel⟩ := hrel
    by_cases hlt : (k : Int) < (n : Int)
    · obtain rfl := HA0.out (by omega)
      obtain rfl := HA1.out (by omega)
      obtain ⟨hc0, hz0⟩ := HS0.out k (by omega)
      obtain ⟨hc1, hz1⟩ := HS1.out k (by omega)
      have hb0 : b0 < w.heap.size := World.block_lt_of_cell? _ _ hc0
      have hb1 : b1 < w.heap.size := World.block_lt_of_cell? _ _ hc1
      have g0 : wr.cell? ⟨b0, o0 + k, none⟩ = some (.string (K k)) := (hbel.cell (p := ⟨b0, o0 + k, none⟩) hb0).trans hc0
      have g1 : wr.cell? ⟨b1, o1 + k, none⟩ = some (.string (V k)) := (hbel.cell (p := ⟨b1, o1 + k, none⟩) hb1).trans hc1
      have hkey : keyOf Try.prog 9 (.string (K k)) = some (kl (K k)) := keyOf_string_mk Try.underlying9 hz0
      obtain ⟨w1, hrun, hown1, hgr⟩ := hown.drew.update law Try.underlying28 (by unfold maxLen; omega) hkey (plainElem_string Try.underlying9 hz1)
      clear hc0 hc1
      go_wp2
      go_region
      go_wp2
      go_roundw
      case rel =>
        refine ⟨k + 1, by omega, by go_num, hown1, ?_⟩
        exact (hbel.drew).grown hgr hbel.size (fun j hj => by cases hj; exact Nat.le_refl _)
      case measure => simp [intOf]; omega
    · obtain rfl : k = n := by omega
      go_wp2
      go_ret
      exact ⟨rfl, hown, hbel⟩

theorem root_go (b sz : Nat) (g : ByteArray → Option ByteArray) (x r : ByteArray) (ys : List ByteArray) (w : World) (hx : x.size ≤ maxLen) (hm : MapIs w b sz g) (hseg : Seg g x ys r) (hr : g r = none) (hrs : r.size ≤ maxLen) :
    Calls Try.prog 16 #[.map (some b), .string x] w fun e w' => e = .returned (.string r) ∧ MapIs w' b sz (cg g ys r) ∧ w.grownBy w' (some b) := by
  have HSG : Hid (Seg g x ys r ∧ g r = none) := ⟨hseg, hr⟩
  clear hseg hr
  go_enter Try.func16, Try.ntmps16
  go_wp2
  go_loopg [5] ys.length (fun m v wr => ∃ (y : ByteArray) (zs : List ByteArray), v = .string y ∧ Hid (Seg g y zs r ∧ zs.length = m ∧ y.size ≤ maxLen ∧ wr = w))
  case atStart => exact ⟨x, ys, rfl, ⟨HSG.out.1, rfl, hx, rfl⟩⟩
  case round =>
    obtain ⟨y, zs, rfl, HY⟩ := hrel
    obtain ⟨hsy, hlen, hys, hw⟩ := HY.out
    clear HY
    subst wr
    cases zs with
    | nil =>
      have e : y = r := hsy
      subst e
      clear hsy hlen
      have hlk := hm.look_none hys HSG.out.2
      have hnd := seg_nodup HSG.out.1 HSG.out.2
      have hno := seg_root HSG.out.1 HSG.out.2
      go_wp2
      clear hlk
      go_loopg [1] ys.length (fun m v wx => ∃ (c : ByteArray) (pre zs : List ByteArray), v = .string c ∧ Hid (pre ++ zs = ys ∧ Seg g c zs y ∧ zs.length = m ∧ c.size ≤ maxLen ∧ MapIs wx b sz (cg g pre y) ∧ w.grownBy wx (some b)))
      case atStart => exact ⟨x, [], ys, rfl, ⟨rfl, HSG.out.1, rfl, hx, hm.congr (fun _ => rfl), World.grownBy.refl _ _⟩⟩
      case round =>
        obtain ⟨c, pre, zs, rfl, HC⟩ := hrel
        cases zs with
        | nil =>
          obtain ⟨e0, hsc, hlc, hcs, hmc, hgc⟩ := HC.out
          have e : c = y := hsc
          subst e
          have HE : Hid (pre = ys) := (List.append_nil pre).symm.trans e0
          have heq := seq_true (rfl : c = c)
          clear HC e0 hsc hlc
          go_wp2
          go_ret
          rw [← HE.out]
          exact ⟨rfl, hmc, hgc⟩
        | cons y2 zs =>
          obtain ⟨e0, hsc, hlc, hcs, hmc, hgc⟩ := HC.out
          obtain ⟨e1, z, hz, hs2⟩ := hsc
          have hmem : c ∈ ys := by rw [← e0, e1]; simp
          have hne : c ≠ y := fun e => hno (by rw [← e]; exact hmem)
          have hnp : c ∉ pre := by
            rw [← e0, ← e1] at hnd
            exact mid_out hnd
          have hcg : cg g pre y c = some z := by rw [cg_out hnp]; exact hz
          obtain ⟨hzs, _, hlk⟩ := hmc.look_some hcs hcg
          obtain ⟨w2, hupd, hm2, hg2⟩ := hmc.put hcs hys hcg
          have hneq := seq_false hne
          have HN : Hid (pre ++ [c] ++ zs = ys ∧ Seg g z zs y ∧ (y2 :: zs).length = gk) := ⟨by rw [← e0, e1]; simp, hs2, hlc⟩
          have HM : Hid (MapIs w2 b sz (cg g (pre ++ [c]) y) ∧ w.grownBy w2 (some b)) := ⟨hm2.congr (fun t => cg_snoc g pre y c t), hgc.trans hg2⟩
          clear HC e0 e1 hz hs2 hlc hmem hne hnp hcg hm2 hg2 hmc hgc
          go_wp2
          go_roundg zs.length
          case measure => rw [← HN.out.2.2]; simp
          case rel => exact ⟨z, pre ++ [c], zs, rfl, ⟨HN.out.1, HN.out.2.1, rfl, hzs, HM.out.1, HM.out.2⟩⟩
    | cons y2 zs =>
      obtain ⟨e1, z, hz, hs2⟩ := hsy
      obtain ⟨hzs, hlk, _⟩ := hm.look_some hys hz
      have HZ : Hid (g y = some z) := hz
      clear hz e1
      have HL : Hid ((y2 :: zs).length = gk) := hlen
      clear hlen
      go_wp2
      go_roundg zs.length
      case measure => rw [← HL.out]; simp
      case rel => exact ⟨z, zs, rfl, ⟨hs2, rfl, hzs, rfl⟩⟩

theorem zroot_go (b sz : Nat) (g : ByteArray → Option ByteArray) (x r : ByteArray) (ys : List ByteArray) (w : World) (hx : x.size ≤ maxLen) (hm : MapIs w b sz g) (hseg : Seg g x ys r) (hr : g r = none) (hrs : r.size ≤ maxLen) :
    Calls Try.prog 10 #[.map (some b), .string x] w fun e w' => e = .returned (.string r) ∧ MapIs w' b sz (cg g ys r) ∧ w.grownBy w' (some b) := by
  have HA : Hid (MapIs w b sz g ∧ Seg g x ys r ∧ g r = none) := ⟨hm, hseg, hr⟩
  clear hm hseg hr
  go_enter Try.func10, Try.ntmps10
  go_wp2_with (go_at_call 16; refine (root_go b sz g x r ys _ hx HA.out.1 HA.out.2.1 HA.out.2.2 hrs).mono ?_; rintro e w' ⟨rfl, hm2, hg2⟩)
  go_ret
  exact ⟨rfl, hm2, hg2⟩
end Go.Proofs.Qxb6600859a
