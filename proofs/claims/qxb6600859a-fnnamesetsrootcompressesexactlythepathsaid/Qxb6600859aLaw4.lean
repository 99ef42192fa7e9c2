/-
  THE WALK of FnNameSetsRootCompressesExactlyThePath (4).
-/
import Derived.Test.Qxb6600859aMapRoot
namespace Go.Proofs.Qxb6600859a
open Go.RowKit

theorem info9 : (Try.prog.info? 9).map (fun i => (i.zero, i.size, i.bytes)) = some (some (.string ⟨#[]⟩), 1, 16) := by kernel_rfl

theorem strs_below {w w' : World} {b off n : Nat} {S : Nat → ByteArray} (h : StrsAt w b off n S) (hb : Below w.heap.size w w') : StrsAt w' b off n S := by
  intro j hj
  obtain ⟨h1, h2⟩ := h j hj
  have hlt : b < w.heap.size := World.block_lt_of_cell? _ _ h1
  exact ⟨(hb.cell (p := ⟨b, off + j, none⟩) hlt).trans h1, h2⟩
theorem grown_of_below {w w' : World} (h : Below w.heap.size w w') (row : Option Nat) : w.grownBy w' row := ⟨h.os, h.tape, h.output, h.size, fun k hk _ => h.block k hk⟩

theorem news_cell (w : World) (y : ByteArray) : ∀ j u, [Value.string y][j]? = some u → (w.alloc (.cells #[.string y] 9)).cell? ((⟨w.heap.size, 0, none⟩ : Addr).add j) = some u := by
  intro j u hj
  match j, hj with
  | 0, hj => simp at hj; subst hj; simp [Addr.add]
theorem news_one (y : ByteArray) : ∀ u ∈ [Value.string y], u.oneCell' = true := by
  intro u hu
  simp at hu
  subst hu
  rfl

set_option maxHeartbeats 3200000 in
theorem law4_go (a0 a1 : Option Addr) (b0 o0 n0 c0 b1 o1 n1 c1 : Nat) (K V : Nat → ByteArray) (nm : ByteArray) (w : World) (hnm : nm.size ≤ maxLen) (ha0 : 0 < n0 → a0 = some ⟨b0, o0, none⟩) (hs0 : StrsAt w b0 o0 n0 K) (ha1 : 0 < n1 → a1 = some ⟨b1, o1, none⟩) (hs1 : StrsAt w b1 o1 n1 V) :
    Calls Try.prog 4 #[.slice a0 n0 c0, .slice a1 n1 c1, .string nm] w fun e w' => e = .returned (.bool true) ∧ Below w.heap.size w w' := by
  have HA0 : Hid (0 < n0 → a0 = some ⟨b0, o0, none⟩) := ha0
  have HS0 : Hid (StrsAt w b0 o0 n0 K) := hs0
  have HA1 : Hid (0 < n1 → a1 = some ⟨b1, o1, none⟩) := ha1
  have HS1 : Hid (StrsAt w b1 o1 n1 V) := hs1
  have HNM : Hid (nm.size ≤ maxLen) := hnm
  clear ha0 hs0 ha1 hs1
  unfold maxLen at hnm
  go_enter Try.func4, Try.ntmps4
  go_wp2_with fail
  refine (zb11 a0 a1 b0 o0 n0 c0 b1 o1 n1 c1 K V nm w HA0.out HS0.out HA1.out HS1.out HNM.out).mono ?_
  rintro e w' ⟨⟨B, rfl⟩, hw⟩
  subst w'
  cases B with
  | false =>
    go_wp2
    go_ret
    exact ⟨rfl, Below.refl _ _⟩
  | true =>
    by_cases h1 : (4096 : Int) < (n0 : Int)
    · go_wp2
      go_ret
      exact ⟨rfl, Below.refl _ _⟩
    by_cases h2 : (4096 : Int) < (n1 : Int)
    · go_wp2
      go_ret
      exact ⟨rfl, Below.refl _ _⟩
    by_cases h3 : (1048576 : Int) < (nm.size : Int)
    · go_wp2
      go_ret
      exact ⟨rfl, Below.refl _ _⟩
    go_wp2_with fail
    refine (strsBytes a0 b0 o0 n0 c0 K w (by omega) HA0.out HS0.out).mono ?_
    rintro e w' ⟨⟨t0, ht0, rfl⟩, hw⟩
    subst w'
    go_wp2_with fail
    refine (strsBytes a1 b1 o1 n1 c1 V w (by omega) HA1.out HS1.out).mono ?_
    rintro e w' ⟨⟨t1, ht1, rfl⟩, hw⟩
    subst w'
    by_cases h4 : (1048576 : Int) < (t0 : Int) + (t1 : Int) + (nm.size : Int)
    · go_wp2
      go_ret
      exact ⟨rfl, Below.refl _ _⟩
    by_cases h5 : n0 = n1
    · subst h5
      have h5I : ((n0 : Int) == (n0 : Int)) = true := by simp
      go_wp2_with fail
      refine (build a0 a1 b0 o0 n0 c0 b1 o1 c1 K V w (by omega) HA0.out HS0.out HA1.out HS1.out).mono ?_
      rintro e w1 ⟨rfl, hown1, hbel1⟩
      obtain ⟨g, hg⟩ : ∃ g, g = plk K V n0 := ⟨_, rfl⟩
      obtain ⟨sz, hsz⟩ : ∃ sz, sz = Maps.size (bld K V n0) := ⟨_, rfl⟩
      have hm1 : MapIs w1 w.heap.size sz g := by rw [hg, hsz]; exact MapIs_bld (by omega) hown1
      have HG : Hid (g = plk K V n0 ∧ sz = Maps.size (bld K V n0)) := ⟨hg, hsz⟩
      have HB1 : Hid (Below w.heap.size w w1) := hbel1
      have HM1 : Hid (MapIs w1 w.heap.size sz g) := hm1
      clear hg hsz hown1 hbel1 hm1
      go_wp2_with fail
      refine (mapRoot w.heap.size sz n0 g nm w1 (by omega) HNM.out HM1.out).mono ?_
      rintro e w' ⟨hE, hw⟩
      subst w'
      rcases hE with ⟨ys, r, hseg, hr, hlen, hrs, rfl⟩ | rfl
      · have HSG : Hid (Seg g nm ys r ∧ g r = none ∧ r.size ≤ maxLen) := ⟨hseg, hr, hrs⟩
        clear hseg hr hrs
        obtain ⟨w3, hmk, hrow3, hg3⟩ : ∃ w3, (Instr.makeSlice 22 (.int .i64 0) (.int .i64 (n0 : Int))).run Try.prog w1 = .ok (.slice (some ⟨w1.heap.size, 0, none⟩) 0 n0) w3 ∧ w3.ownsRow w1.heap.size 9 1 (.slice (some ⟨w1.heap.size, 0, none⟩) 0 n0) 0 [] ∧ w1.grownBy w3 none := by
          obtain ⟨i0, hi, hz0, hz1, hz2⟩ := info_parts info9
          exact run_make_own (P := Try.prog) w1 w1.heap.size 22 9 i0 (.string ⟨#[]⟩) 1 Try.underlying22 hi hz0 hz1 .i64 .i64 n0 (by rw [hz2]; omega) (by unfold maxLen; omega) (Nat.le_refl _)
        have HM3 : Hid (MapIs w3 w.heap.size sz g) := HM1.out.kept hg3 (by simp)
        have HB3 : Hid (Below w.heap.size w w3) := HB1.out.grown hg3 HB1.out.size (fun j hj => by cases hj)
        have HR3 : Hid (w3.ownsRow w1.heap.size 9 1 (.slice (some ⟨w1.heap.size, 0, none⟩) 0 n0) 0 []) := hrow3
        have HLT : Hid (w.heap.size < w1.heap.size) := HM1.out.lt
        clear hrow3 hg3
        go_wp2
        clear hmk
        go_loopw [10, 11, 12] (fun p v i wr => ∃ (k : Nat) (pre zs : List ByteArray) (y : ByteArray), k ≤ n0 ∧ p = .slice (some ⟨w1.heap.size, 0, none⟩) k n0 ∧ v = .string y ∧ i = .int .i64 (k : Int) ∧
            Hid (pre ++ zs = ys ∧ pre.length = k ∧ Seg g y zs r ∧ y.size ≤ maxLen ∧ wr.ownsRow w1.heap.size 9 1 (.slice (some ⟨w1.heap.size, 0, none⟩) k n0) k (pre.map Value.string) ∧ MapIs wr w.heap.size sz g ∧ Below w.heap.size w wr)) (fun _ _ i _ => n0 + 1 - (intOf i).toNat)
        case atStart => exact ⟨0, [], ys, nm, Nat.zero_le _, rfl, rfl, rfl, ⟨rfl, rfl, HSG.out.1, HNM.out, HR3.out, HM3.out, HB3.out⟩⟩
        case round =>
          obtain ⟨k, pre, zs, y, hk, rfl, rfl, rfl, HP⟩ := hrel
          have hkI : (k : Int) ≤ (n0 : Int) := by omega
          cases zs with
          | nil =>
            obtain ⟨e0, e1, hsy, hys, hrow, hmr, hbr⟩ := HP.out
            have e2 : y = r := hsy
            subst e2
            have e3 : pre = ys := (List.append_nil pre).symm.trans e0
            subst e3
            subst e1
            have hlk := hmr.look_none hys HSG.out.2.1
            have HRW : Hid (wr.ownsRow w1.heap.size 9 1 (.slice (some ⟨w1.heap.size, 0, none⟩) pre.length n0) pre.length (pre.map Value.string)) := hrow
            have HMR : Hid (MapIs wr w.heap.size sz g) := hmr
            have HBR : Hid (Below w.heap.size w wr) := hbr
            clear HP e0 hsy hrow hmr hbr
            go_wp2_with fail
            refine (build a0 a1 b0 o0 n0 c0 b1 o1 c1 K V wr (by omega) HA0.out (strs_below HS0.out HBR.out) HA1.out (strs_below HS1.out HBR.out)).mono ?_
            rintro e w4 ⟨rfl, hown4, hbel4⟩
            have hm4 : MapIs w4 wr.heap.size sz g := by rw [HG.out.1, HG.out.2]; exact MapIs_bld (by omega) hown4
            have HM4 : Hid (MapIs w4 wr.heap.size sz g) := hm4
            have HB4 : Hid (Below wr.heap.size wr w4) := hbel4
            clear hown4 hbel4 hm4 hlk
            go_wp2_with fail
            refine (zroot_go wr.heap.size sz g nm y pre w4 HNM.out HM4.out HSG.out.1 HSG.out.2.1 hys).mono ?_
            rintro e w5 ⟨rfl, hm5, hg5⟩
            have HGL : Hid (w1.heap.size < wr.heap.size) := (HRW.out.lt _ rfl).2
            have HMB : Hid (MapIs w5 w.heap.size sz g) := (HMR.out.below HB4.out HMR.out.lt).kept hg5 (by have h6 := HMR.out.lt; simp; omega)
            have HRW5 : Hid (RowAt w5 w1.heap.size pre.length (fun j => pre.getD j ⟨#[]⟩)) :=
              row_of_owned ((HRW.out.kept (grown_of_below HB4.out none) (.inr (by simp [Value.ownBlock]))).kept hg5 (.inr (by have h6 := HGL.out; simp [Value.ownBlock]; omega)))
            have HB5 : Hid (Below w.heap.size w w5) := (HBR.out.trans (HB4.out.mono HBR.out.size)).grown hg5 (Nat.le_trans HBR.out.size HB4.out.size) (fun j hj => by cases hj; exact HBR.out.size)
            have HS5 : Hid (StrsAt w5 b0 o0 n0 K) := strs_below HS0.out HB5.out
            have HM5 : Hid (MapIs w5 wr.heap.size sz (cg g pre y)) := hm5
            have hl1 := hm5.len
            have hl2 := HMB.out.len
            have heq := seq_true (rfl : y = y)
            clear hm5 hg5 HM4 HRW HMR HBR HB4
            go_wp2
            clear hl1 hl2
            go_loop [17] (fun i => ∃ k : Nat, k ≤ n0 ∧ i = .int .i64 (k : Int)) (fun i => n0 - (intOf i).toNat)
            case atStart => exact ⟨0, Nat.zero_le _, rfl⟩
            case round =>
              obtain ⟨k, hk2, rfl⟩ := hrel
              by_cases hlt : (k : Int) < (n0 : Int)
              · obtain rfl := HA0.out (by omega)
                obtain ⟨hcell, hkz⟩ := HS5.out k (by omega)
                obtain ⟨z, hz⟩ : ∃ z, g (K k) = some z := by rw [HG.out.1]; exact plk_key (by omega)
                by_cases hin : K k ∈ pre
                · obtain ⟨_, hlk5, _⟩ := HM5.out.look_some hkz (cg_in hin)
                  have HIN : Hid (K k ∈ pre) := hin
                  clear hz hin
                  go_wp2_with fail
                  refine (contains_list_yes w1.heap.size n0 pre (K k) w5 (by omega) HRW5.out HIN.out).mono ?_
                  rintro e w' ⟨rfl, hw⟩
                  subst w'
                  go_wp2
                  go_round
                  case rel => exact ⟨k + 1, by omega, by go_num⟩
                  case measure => simp [intOf]; omega
                · obtain ⟨_, hlk5, _⟩ := HM5.out.look_some hkz ((cg_out hin).trans hz)
                  obtain ⟨_, _, hlkb⟩ := HMB.out.look_some hkz hz
                  have heqz := seq_true (rfl : z = z)
                  have HIN : Hid (K k ∉ pre) := hin
                  clear hz hin
                  go_wp2_with fail
                  refine (contains_list_no w1.heap.size n0 pre (K k) w5 (by omega) HRW5.out HIN.out).mono ?_
                  rintro e w' ⟨rfl, hw⟩
                  subst w'
                  go_wp2
                  go_round
                  case rel => exact ⟨k + 1, by omega, by go_num⟩
                  case measure => simp [intOf]; omega
              · go_wp2
                go_ret
                exact ⟨rfl, HB5.out⟩
          | cons y2 zs =>
            obtain ⟨e0, e1, hsy, hys, hrow, hmr, hbr⟩ := HP.out
            obtain ⟨e2, z, hz, hs2⟩ := hsy
            obtain ⟨hzs, hlk, _⟩ := hmr.look_some hys hz
            have hroom : k + 1 ≤ n0 := by
              have := congrArg List.length e0
              simp at this
              omega
            obtain ⟨i0, hi, hz0, hz1, hz2⟩ := info_parts info9
            have HN : Hid ((pre ++ [y]) ++ zs = ys ∧ (pre ++ [y]).length = k + 1 ∧ Seg g z zs r) := ⟨by rw [← e0, e2]; simp, by simp [e1], hs2⟩
            have HZ : Hid (z.size ≤ maxLen ∧ wr.ownsRow w1.heap.size 9 1 (.slice (some ⟨w1.heap.size, 0, none⟩) k n0) k (pre.map Value.string) ∧ MapIs wr w.heap.size sz g ∧ Below w.heap.size w wr) := ⟨hzs, hrow, hmr, hbr⟩
            clear HP e0 e1 e2 hz hs2 hrow hmr hbr hzs
            go_wp2_with (at_builtin; refine wpList_append_fits _ rfl (.tmp 84) (.tmp 86) 22 rfl w1.heap.size 9 i0 1 Try.underlying22 hi hz1 w1.heap.size k n0 (pre.map Value.string) rfl (HZ.out.2.1.alloc _) ⟨wr.heap.size, 0, none⟩ 1 1 [.string y] rfl rfl (news_cell wr y) (news_one y) hroom ?_)
            intro w2 hrow2 hg2
            have HZ2 : Hid (w2.ownsRow w1.heap.size 9 1 (.slice (some ⟨w1.heap.size, 0, none⟩) (k + 1) n0) (k + 1) ((pre ++ [y]).map Value.string) ∧ MapIs w2 w.heap.size sz g ∧ Below w.heap.size w w2) := by
              have hg3 : wr.grownBy w2 (some w1.heap.size) := (World.grownBy_alloc wr _ _).trans hg2
              refine ⟨by rw [List.map_append]; exact hrow2, HZ.out.2.2.1.kept hg3 (by have := HLT.out; simp; omega), HZ.out.2.2.2.grown hg3 HZ.out.2.2.2.size (fun j hj => by cases hj; exact Nat.le_of_lt HLT.out)⟩
            clear hrow2 hg2
            go_wp2
            go_roundw
            case rel => exact ⟨k + 1, pre ++ [y], zs, z, by omega, rfl, rfl, by go_num, ⟨HN.out.1, HN.out.2.1, HN.out.2.2, HZ.out.1, HZ2.out.1, HZ2.out.2.1, HZ2.out.2.2⟩⟩
            case measure => simp [intOf]; omega
      · go_wp2
        go_ret
        exact ⟨rfl, HB1.out⟩
    · have h5I : ((n0 : Int) == (n1 : Int)) = false := by simp; omega
      go_wp2
      go_ret
      exact ⟨rfl, Below.refl _ _⟩
end Go.Proofs.Qxb6600859a
