/-
  THE PLAIN MATHEMATICS of links: the last pair wins; a path along the links; its compression. No Go in sight.
-/
namespace Go.Proofs.Qxb6600859a


/-- the link of x among the first n pairs: the last pair whose key is x -/
def plk (K V : Nat → ByteArray) : Nat → ByteArray → Option ByteArray
  | 0, _ => none
  | n + 1, x => if K n = x then some (V n) else plk K V n x

theorem plk_key {K V : Nat → ByteArray} {n i : Nat} (hi : i < n) : ∃ z, plk K V n (K i) = some z := by
  induction n with
  | zero => omega
  | succ n ih =>
    by_cases h : K n = K i
    · exact ⟨V n, by rw [plk, if_pos h]⟩
    · have hne : i ≠ n := fun e => h (by rw [e])
      obtain ⟨z, hz⟩ := ih (by omega)
      exact ⟨z, by rw [plk, if_neg h]; exact hz⟩
theorem plk_val {K V : Nat → ByteArray} {p : ByteArray → Prop} {n : Nat} {x z : ByteArray} (hV : ∀ j, j < n → p (V j)) (h : plk K V n x = some z) : p z := by
  induction n with
  | zero => cases h
  | succ n ih =>
    rw [plk] at h
    split at h
    · cases h; exact hV n (by omega)
    · exact ih (fun j hj => hV j (by omega)) h

/-- ys are the names on the way along the links from x to z (z not among them) -/
def Seg (g : ByteArray → Option ByteArray) : ByteArray → List ByteArray → ByteArray → Prop
  | x, [], z => x = z
  | x, y :: ys, z => x = y ∧ ∃ t, g x = some t ∧ Seg g t ys z

theorem seg_snoc {g : ByteArray → Option ByteArray} : ∀ {ys : List ByteArray} {a x z : ByteArray}, Seg g a ys x → g x = some z → Seg g a (ys ++ [x]) z
  | [], a, x, z, h, hg => by
    have e : a = x := h
    subst e
    exact ⟨rfl, z, hg, rfl⟩
  | y :: ys, a, x, z, h, hg => by
    obtain ⟨h1, t, h2, h3⟩ := h
    exact ⟨h1, t, h2, seg_snoc h3 hg⟩

theorem seg_mem {g : ByteArray → Option ByteArray} : ∀ {ys : List ByteArray} {a r y : ByteArray}, Seg g a ys r → y ∈ ys → ∃ z, g y = some z
  | [], _, _, _, _, hy => by cases hy
  | w :: ys, a, r, y, h, hy => by
    obtain ⟨h1, t, h2, h3⟩ := h
    rcases List.mem_cons.1 hy with e | hy
    · exact ⟨t, by rw [e, ← h1]; exact h2⟩
    · exact seg_mem h3 hy

theorem seg_det {g : ByteArray → Option ByteArray} : ∀ {ys zs : List ByteArray} {a r s : ByteArray}, Seg g a ys r → g r = none → Seg g a zs s → g s = none → ys = zs ∧ r = s
  | [], [], a, r, s, h, _, k, _ => by
    have e1 : a = r := h
    have e2 : a = s := k
    exact ⟨rfl, by rw [← e1, e2]⟩
  | [], z :: zs, a, r, s, h, hr, k, _ => by
    have e1 : a = r := h
    obtain ⟨_, t, h2, _⟩ := k
    rw [e1, hr] at h2; cases h2
  | y :: ys, [], a, r, s, h, _, k, hs => by
    have e1 : a = s := k
    obtain ⟨_, t, h2, _⟩ := h
    rw [e1, hs] at h2; cases h2
  | y :: ys, z :: zs, a, r, s, h, hr, k, hs => by
    obtain ⟨h1, t, h2, h3⟩ := h
    obtain ⟨k1, t', k2, k3⟩ := k
    rw [h2] at k2; cases k2
    obtain ⟨e1, e2⟩ := seg_det h3 hr k3 hs
    exact ⟨by rw [e1, ← h1, ← k1], e2⟩

theorem seg_split {g : ByteArray → Option ByteArray} : ∀ {p q : List ByteArray} {a r y : ByteArray}, Seg g a (p ++ y :: q) r → Seg g y (y :: q) r
  | [], q, a, r, y, h => by
    have e : a = y := h.1
    subst e; exact h
  | _ :: p, q, a, r, y, h => by
    obtain ⟨_, t, _, h3⟩ := h
    exact seg_split (p := p) h3

theorem seg_nodup {g : ByteArray → Option ByteArray} : ∀ {ys : List ByteArray} {a r : ByteArray}, Seg g a ys r → g r = none → ys.Nodup
  | [], _, _, _, _ => List.nodup_nil
  | y :: ys, a, r, h, hr => by
    have hcons := h
    obtain ⟨h1, t, h2, h3⟩ := h
    refine List.nodup_cons.2 ⟨fun hy => ?_, seg_nodup h3 hr⟩
    obtain ⟨p, q, e⟩ := List.append_of_mem hy
    rw [e] at h3
    have h4 := seg_split h3
    rw [h1] at hcons
    obtain ⟨e2, _⟩ := seg_det hcons hr h4 hr
    have := congrArg List.length e2
    rw [e] at this
    simp at this
    omega

theorem seg_root {g : ByteArray → Option ByteArray} {ys : List ByteArray} {a r : ByteArray} (h : Seg g a ys r) (hr : g r = none) : r ∉ ys := by
  intro hm
  obtain ⟨z, hz⟩ := seg_mem h hm
  rw [hr] at hz; cases hz

/-- the links behind the compression of the names of ys -/
def cg (g : ByteArray → Option ByteArray) : List ByteArray → ByteArray → ByteArray → Option ByteArray
  | [], _, s => g s
  | y :: ys, r, s => if s = y then some r else cg g ys r s

theorem cg_in {g : ByteArray → Option ByteArray} {r s : ByteArray} : ∀ {ys : List ByteArray}, s ∈ ys → cg g ys r s = some r
  | [], h => by cases h
  | y :: ys, h => by
    rw [cg]
    by_cases e : s = y
    · rw [if_pos e]
    · rw [if_neg e]
      rcases List.mem_cons.1 h with h | h
      · exact absurd h e
      · exact cg_in h
theorem cg_out {g : ByteArray → Option ByteArray} {r s : ByteArray} : ∀ {ys : List ByteArray}, s ∉ ys → cg g ys r s = g s
  | [], _ => rfl
  | y :: ys, h => by
    rw [cg, if_neg (fun e => h (by rw [e]; simp))]
    exact cg_out (fun hm => h (List.mem_cons_of_mem _ hm))
theorem cg_snoc (g : ByteArray → Option ByteArray) (ys : List ByteArray) (r x t : ByteArray) : (if t = x then some r else cg g ys r t) = cg g (ys ++ [x]) r t := by
  induction ys with
  | nil => rfl
  | cons y ys ih =>
    show _ = cg g (y :: (ys ++ [x])) r t
    rw [cg, cg, ← ih]
    by_cases h1 : t = x
    · by_cases h2 : t = y
      · rw [if_pos h1, if_pos h2]
      · rw [if_pos h1, if_neg h2, if_pos h1]
    · by_cases h2 : t = y
      · rw [if_neg h1, if_pos h2, if_pos h2]
      · rw [if_neg h1, if_neg h2, if_neg h2, if_neg h1]
/-- in the middle of the compression the next name still links where it linked -/
theorem mid_out {p q : List ByteArray} {y : ByteArray} (h : (p ++ y :: q).Nodup) : y ∉ p := by
  intro hm
  have := List.nodup_append.1 h
  exact this.2.2 y hm y (by simp) rfl
end Go.Proofs.Qxb6600859a
