import Derived.Test.Qxb6604323aWalksR
namespace Go.Proofs.Qxb6604323a
open Go.Maps

theorem fidx_mk (x : Int) : ∀ (us : List Int) (k : Nat), k < us.length → us.getD k 0 = x → (∀ j, j < k → ¬ us.getD j 0 = x) → fidx x us = k := by
  intro us
  induction us with
  | nil => intro k h; simp at h
  | cons u t ih =>
    intro k h1 h2 h3
    unfold fidx
    cases k with
    | zero =>
      have : u = x := by simpa using h2
      rw [if_pos this]; rfl
    | succ m =>
      have hu : ¬ u = x := by simpa using h3 0 (by omega)
      have := ih m (by simpa using h1) (by simpa using h2) (fun j hj => by simpa using h3 (j + 1) (by omega))
      rw [if_neg hu, this, if_neg (by omega)]
      omega
theorem fidx_le (x : Int) (us : List Int) (j : Nat) (hj : j < us.length) (hx : us.getD j 0 = x) : 0 ≤ fidx x us ∧ fidx x us ≤ j := by
  have hr := fidx_range x us
  by_cases h : fidx x us = -1
  · exact absurd hx (fidx_none x us h j hj)
  · obtain ⟨k, hk⟩ : ∃ k : Nat, fidx x us = k := ⟨(fidx x us).toNat, by omega⟩
    obtain ⟨_, _, h3⟩ := fidx_hit x us k hk
    refine ⟨by omega, ?_⟩
    rcases Nat.lt_or_ge j k with h | h
    · exact absurd hx (h3 j h)
    · omega
theorem fidx_swapped (old nw : Int) (us : List Int) (k : Nat) (hk : fidx old us = k) (hp : ¬ (0 ≤ fidx nw us ∧ fidx nw us < k)) : fidx nw (us.set k nw) = k := by
  obtain ⟨h1, h2, h3⟩ := fidx_hit old us k hk
  refine fidx_mk nw _ k (by simpa using h1) ?_ ?_
  · rw [uset_getD us k k nw h1]; simp
  · intro j hj hx
    rw [uset_getD us k j nw h1, if_neg (by omega)] at hx
    have := fidx_le nw us j (by omega) hx
    exact hp (by omega)
theorem set_back (us : List Int) (k : Nat) (old nw : Int) (h : k < us.length) (hx : us.getD k 0 = old) : (us.set k nw).set k old = us := by
  rw [List.set_set]
  apply List.ext_getElem?
  intro j
  by_cases e : j = k
  · subst e
    simp [h]
    rw [← hx]; simp [h]
  · have e' : ¬ k = j := fun h => e h.symm
    simp [e']
theorem ls_getD_map (ss : List St) (i : Nat) (h : i < ss.length) : (ss.map St.ls).getD i ls0 = (ss.getD i st0).ls := by simp [h]

/-! ### The record -/
def kU (x : Int) : Lit := .int .u32 x
def vU (x : Int) : DataW Unit := .lit (.int .u32 x)
theorem kU_key (x : Int) : WideAt.IsKeyLit (kU x) := trivial
theorem kU_ne {x y : Int} (h : x ≠ y) : kU x ≠ kU y := fun e => h (by cases e; rfl)
theorem put_has_same {D : DataW Unit} (hD : IsMap D) (x : Int) (d : DataW Unit) : Maps.has (D.put (kU x) d) (kU x) = true := has_put_same hD (kU_key x) d
theorem put_at_same {D : DataW Unit} (hD : IsMap D) (x : Int) (d z : DataW Unit) : (D.put (kU x) d).atKey (kU x) z = d := atKey_put_same hD (kU_key x) d z
theorem swap_rec (old nw : Int) (D : DataW Unit) (hD : IsMap D) :
    Maps.has ((D.put (kU old) (vU nw)).put (kU nw) (vU old)) (kU old) = true ∧ Maps.has ((D.put (kU old) (vU nw)).put (kU nw) (vU old)) (kU nw) = true ∧
    ((D.put (kU old) (vU nw)).put (kU nw) (vU old)).atKey (kU old) (vU 0) = vU nw ∧ ((D.put (kU old) (vU nw)).put (kU nw) (vU old)).atKey (kU nw) (vU 0) = vU old := by
  by_cases e : old = nw
  · subst e
    have h1 := hD.put (kU old) (vU old)
    exact ⟨put_has_same h1 _ _, put_has_same h1 _ _, put_at_same h1 _ _ _, put_at_same h1 _ _ _⟩
  · have h1 := hD.put (kU old) (vU nw)
    refine ⟨?_, put_has_same h1 _ _, ?_, put_at_same h1 _ _ _⟩
    · rw [has_put_other (kU_ne e)]; exact put_has_same hD _ _
    · rw [atKey_put_other (kU_ne e)]; exact put_at_same hD _ _ _
end Go.Proofs.Qxb6604323a
