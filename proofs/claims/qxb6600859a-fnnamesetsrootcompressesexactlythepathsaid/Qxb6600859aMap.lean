/-
  A map of strings to strings that the call itself has made, told by the function of its links: 'MapIs'. Over the kit's 'ownsMap'.
-/
import Derived.Test.Qxb6600859aRows
import Derived.Test.Qxb6600859aPlain
import Derived.WalkKit
import Derived.WalkSpells
import Derived.WalkLawsBesides
import Derived.Maps.OwnSet
import Derived.Maps.StringElems
namespace Go.Proofs.Qxb6600859a
open Go.RowKit Go.WideMaps Go.Maps

theorem law : Keyed Try.prog 9 := string_keyed Try.underlying9
theorem zero9 (w : World) : (zeroValue 9).run Try.prog w = .ok (.string ⟨#[]⟩) w := by kernel_rfl

theorem ba_ext {a b : ByteArray} (h : a.data.toList = b.data.toList) : a = b := by
  cases a with
  | mk x =>
    cases b with
    | mk y =>
      have : x = y := Array.toList_inj.1 h
      rw [this]

/-- a name as a key -/
def kl (s : ByteArray) : Lit := .string s.data.toList
theorem kl_inj {a b : ByteArray} (h : kl a = kl b) : a = b := by
  unfold kl at h
  injection h with h
  exact ba_ext h
theorem kl_ne {a b : ByteArray} (h : a ≠ b) : kl a ≠ kl b := fun e => h (kl_inj e)
theorem kl_key (s : ByteArray) : WideAt.IsKeyLit (kl s) := trivial
def zd : DataW Unit := .lit (.string [])
def dl (s : ByteArray) : DataW Unit := .lit (.string s.data.toList)
def strD : DataW Unit → ByteArray
  | .lit (.string l) => ⟨l.toArray⟩
  | _ => ⟨#[]⟩
theorem strD_dl (s : ByteArray) : strD (dl s) = s := ba_ext (by simp [strD, dl])

/-- the link of s in the map's datum -/
def nx (D : DataW Unit) (s : ByteArray) : Option ByteArray := if has D (kl s) = true then some (strD (D.atKey (kl s) zd)) else none

theorem nx_put {D : DataW Unit} (hD : IsMap D) (k v s : ByteArray) : nx (D.put (kl k) (dl v)) s = if s = k then some v else nx D s := by
  by_cases h : s = k
  · rw [if_pos h, h]
    unfold nx
    rw [has_put_same hD (kl_key k), if_pos rfl, atKey_put_same hD (kl_key k), strD_dl]
  · rw [if_neg h]
    unfold nx
    rw [has_put_other (kl_ne h), atKey_put_other (kl_ne h)]

/-- what zzBuildSets builds -/
def bld (K V : Nat → ByteArray) : Nat → DataW Unit
  | 0 => .map []
  | n + 1 => (bld K V n).put (kl (K n)) (dl (V n))
theorem bld_isMap (K V : Nat → ByteArray) : ∀ n, IsMap (bld K V n)
  | 0 => isMap_empty
  | n + 1 => (bld_isMap K V n).put _ _
theorem nx_bld (K V : Nat → ByteArray) (n : Nat) (s : ByteArray) : nx (bld K V n) s = plk K V n s := by
  induction n with
  | zero => rfl
  | succ n ih =>
    rw [bld, nx_put (bld_isMap K V n), plk, ih]
    by_cases h : s = K n
    · rw [if_pos h, if_pos h.symm]
    · rw [if_neg h, if_neg (fun e => h e.symm)]

/-- BLOCK b IS A MAP OF STRINGS WHOSE LINKS ARE g, OF sz ENTRIES. -/
def MapIs (w : World) (b sz : Nat) (g : ByteArray → Option ByteArray) : Prop :=
  ∃ D : DataW Unit, w.ownsMap Try.prog 9 (plainElem Try.prog 9) b sz D ∧ (∀ s, nx D s = g s) ∧ size D = sz ∧ sz ≤ 4096

theorem sharp {w : World} {b n : Nat} {D : DataW Unit} (h : w.ownsMap Try.prog 9 (plainElem Try.prog 9) b n D) : w.ownsMap Try.prog 9 (plainElem Try.prog 9) b (size D) D := by
  obtain ⟨es, clock, hb, F, _, rfl⟩ := h
  exact ⟨es, clock, hb, F, by simp [size, length_sorted], rfl⟩

theorem MapIs.lt {w : World} {b sz : Nat} {g : ByteArray → Option ByteArray} (h : MapIs w b sz g) : b < w.heap.size := by
  obtain ⟨D, h1, _⟩ := h
  exact h1.lt
theorem MapIs.kept {w w' : World} {b sz : Nat} {g : ByteArray → Option ByteArray} {row : Option Nat} (h : MapIs w b sz g) (hg : w.grownBy w' row) (hne : some b ≠ row) : MapIs w' b sz g := by
  obtain ⟨D, h1, h2⟩ := h
  exact ⟨D, h1.kept hg hne, h2⟩
theorem MapIs.alloc {w : World} {b sz : Nat} {g : ByteArray → Option ByteArray} (h : MapIs w b sz g) (o : Obj) : MapIs (w.alloc o) b sz g := by
  obtain ⟨D, h1, h2⟩ := h
  exact ⟨D, h1.alloc o, h2⟩
theorem MapIs.below {w w' : World} {b sz B : Nat} {g : ByteArray → Option ByteArray} (h : MapIs w b sz g) (hb : Below B w w') (hlt : b < B) : MapIs w' b sz g := by
  obtain ⟨D, ⟨es, clock, h1, h2⟩, h3⟩ := h
  exact ⟨D, ⟨es, clock, (hb.block b hlt).trans h1, h2⟩, h3⟩
theorem MapIs.congr {w : World} {b sz : Nat} {g g' : ByteArray → Option ByteArray} (h : MapIs w b sz g) (e : ∀ s, g s = g' s) : MapIs w b sz g' := by
  obtain ⟨D, h1, h2, h3⟩ := h
  exact ⟨D, h1, fun s => (h2 s).trans (e s), h3⟩
theorem MapIs.small {w : World} {b sz : Nat} {g : ByteArray → Option ByteArray} (h : MapIs w b sz g) : sz ≤ 4096 := by
  obtain ⟨D, _, _, _, h4⟩ := h
  exact h4

theorem MapIs.look_some {w : World} {b sz : Nat} {g : ByteArray → Option ByteArray} (h : MapIs w b sz g) {s z : ByteArray} (hs : s.size ≤ maxLen) (hg : g s = some z) :
    z.size ≤ maxLen ∧ (Instr.lookup 28 (.map (some b)) (.string s) true).run Try.prog w = .ok (.tuple #[.string z, .bool true]) w ∧ (Instr.lookup 28 (.map (some b)) (.string s) false).run Try.prog w = .ok (.string z) w := by
  obtain ⟨D, h1, h2, _⟩ := h
  have hkey : keyOf Try.prog 9 (.string s) = some (kl s) := keyOf_string_mk Try.underlying9 hs
  have hz0 : plainElem (H := Unit) Try.prog 9 (.string ⟨#[]⟩) = some (zd, []) := plainElem_string Try.underlying9 (Nat.zero_le _)
  obtain ⟨v, ps, hrun, hv⟩ := h1.look_ok law Try.underlying28 (zero9 w) hz0 hkey
  obtain ⟨v', ps', hrun', hv'⟩ := h1.lookup law Try.underlying28 (zero9 w) hz0 hkey
  obtain ⟨c, rfl, hc, hsz⟩ := plainElem_string_inv Try.underlying9 hv
  obtain ⟨c', rfl, hc', _⟩ := plainElem_string_inv Try.underlying9 hv'
  have e1 : D.atKey (kl s) zd = dl c := congrArg Prod.fst hc
  have e2 : D.atKey (kl s) zd = dl c' := congrArg Prod.fst hc'
  have hn := h2 s
  rw [hg] at hn
  unfold nx at hn
  split at hn
  · rename_i hh
    rw [e1, strD_dl] at hn
    injection hn with hn
    subst hn
    have e3 : c = c' := by
      have := congrArg strD (e1.symm.trans e2)
      rwa [strD_dl, strD_dl] at this
    subst e3
    rw [hh] at hrun
    exact ⟨hsz, hrun, hrun'⟩
  · cases hn

theorem MapIs.look_none {w : World} {b sz : Nat} {g : ByteArray → Option ByteArray} (h : MapIs w b sz g) {s : ByteArray} (hs : s.size ≤ maxLen) (hg : g s = none) :
    (Instr.lookup 28 (.map (some b)) (.string s) true).run Try.prog w = .ok (.tuple #[.string ⟨#[]⟩, .bool false]) w := by
  obtain ⟨D, h1, h2, _⟩ := h
  have hkey : keyOf Try.prog 9 (.string s) = some (kl s) := keyOf_string_mk Try.underlying9 hs
  have hz0 : plainElem (H := Unit) Try.prog 9 (.string ⟨#[]⟩) = some (zd, []) := plainElem_string Try.underlying9 (Nat.zero_le _)
  obtain ⟨v, ps, hrun, hv⟩ := h1.look_ok law Try.underlying28 (zero9 w) hz0 hkey
  obtain ⟨c, rfl, hc, hsz⟩ := plainElem_string_inv Try.underlying9 hv
  have e1 : D.atKey (kl s) zd = dl c := congrArg Prod.fst hc
  have hn := h2 s
  rw [hg] at hn
  unfold nx at hn
  split at hn
  · cases hn
  · rename_i hh
    have hh' : has D (kl s) = false := by simpa using hh
    rw [atKey_of_not_has hh'] at e1
    have e2 : c = ⟨#[]⟩ := by
      have := congrArg strD e1
      rw [strD_dl] at this
      exact this.symm.trans rfl
    rw [hh', e2] at hrun
    exact hrun

/-- a store at a name that is there already -/
theorem MapIs.put {w : World} {b sz : Nat} {g : ByteArray → Option ByteArray} (h : MapIs w b sz g) {s z v : ByteArray} (hs : s.size ≤ maxLen) (hv : v.size ≤ maxLen) (hg : g s = some z) :
    ∃ w', (Instr.mapUpdate 28 (.map (some b)) (.string s) (.string v)).run Try.prog w = .ok () w' ∧ MapIs w' b sz (fun t => if t = s then some v else g t) ∧ w.grownBy w' (some b) := by
  obtain ⟨D, h1, h2, h3, h4⟩ := h
  have hkey : keyOf Try.prog 9 (.string s) = some (kl s) := keyOf_string_mk Try.underlying9 hs
  obtain ⟨w', hrun, hown, hgr⟩ := h1.update law Try.underlying28 (by unfold maxLen; omega) hkey (plainElem_string Try.underlying9 hv)
  have hh : has D (kl s) = true := by
    have hn := h2 s
    rw [hg] at hn
    unfold nx at hn
    split at hn
    · rename_i hh; exact hh
    · cases hn
  have e : size (D.put (kl s) (dl v)) = sz := by rw [size_put (h1.tidy law), hh]; exact h3
  have hown' := sharp hown
  refine ⟨w', hrun, ⟨D.put (kl s) (dl v), ?_, fun t => ?_, e, h4⟩, hgr⟩
  · have hown2 : w'.ownsMap Try.prog 9 (plainElem Try.prog 9) b (size (D.put (kl s) (dl v))) (D.put (kl s) (dl v)) := hown'
    rw [e] at hown2
    exact hown2
  · rw [nx_put h1.isMap, h2]

theorem MapIs.len {w : World} {b sz : Nat} {g : ByteArray → Option ByteArray} (h : MapIs w b sz g) (ty : TypeId) : (Builtin.len_ #[28] ty #[.map (some b)]).run Try.prog w = .ok (.int .i64 (sz : Int)) w := by
  obtain ⟨D, h1, _, h3, _⟩ := h
  have := h1.len Try.underlying28 ty
  rw [h3] at this
  exact this

/-- what zzBuildSets hands back -/
theorem MapIs_bld {w : World} {b n : Nat} {K V : Nat → ByteArray} (hn : n ≤ 4096) (h : w.ownsMap Try.prog 9 (plainElem Try.prog 9) b n (bld K V n)) : MapIs w b (size (bld K V n)) (plk K V n) :=
  ⟨bld K V n, sharp h, nx_bld K V n, rfl, Nat.le_trans h.size_le hn⟩
end Go.Proofs.Qxb6600859a
