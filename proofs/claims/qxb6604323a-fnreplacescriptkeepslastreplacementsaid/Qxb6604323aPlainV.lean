import Derived.Test.Qxb6604323aWalksS
import Derived.Test.Qxb6604323aOpen2
namespace Go.Proofs.Qxb6604323a
open Go.ChangeShapes Go.WideShapes Go.ChangeAt Go.RowKit Go.Maps

def rD (r : Rec) : DataW Unit := r.getD (.map [])
/-- The lists of keys and of values say what the record holds. -/
structure KV (ks vs : List Int) (r : Rec) : Prop where
  len : ks.length = vs.length
  tidy : Tidy (rD r)
  size : Maps.size (rD r) = ks.length
  nil : r = none → ks = []
  has : ∀ x, Maps.has (rD r) (kU x) = true ↔ ∃ j, j < ks.length ∧ ks.getD j 0 = x
  inj : ∀ i j, i < ks.length → j < ks.length → ks.getD i 0 = ks.getD j 0 → i = j
  val : ∀ j, j < ks.length → (rD r).atKey (kU (ks.getD j 0)) (vU 0) = vU (vs.getD j 0)

theorem KV.start : KV [] [] none := by
  refine ⟨rfl, tidy_empty, rfl, fun _ => rfl, ?_, ?_, ?_⟩
  · intro x
    constructor
    · intro h; cases h
    · rintro ⟨j, hj, _⟩; exact absurd hj (Nat.not_lt_zero _)
  · intro i j hi; exact absurd hi (Nat.not_lt_zero _)
  · intro j hj; exact absurd hj (Nat.not_lt_zero _)

theorem KV.found {ks vs : List Int} {r : Rec} {old nw : Int} {p : Nat} (h : KV ks vs r) (hp : fidx old ks = p) : KV ks (vs.set p nw) (some ((rD r).put (kU old) (vU nw))) := by
  obtain ⟨hpl, hpo, -⟩ := fidx_hit old ks p hp
  have hpv : p < vs.length := by rw [← h.len]; exact hpl
  have ho : Maps.has (rD r) (kU old) = true := (h.has old).2 ⟨p, hpl, hpo⟩
  refine ⟨by simpa using h.len, h.tidy.put (kU_key old) _, ?_, (fun e => nomatch e), ?_, h.inj, ?_⟩
  · show Maps.size ((rD r).put (kU old) (vU nw)) = _
    rw [size_put h.tidy, if_pos ho]; exact h.size
  · intro x
    show Maps.has ((rD r).put (kU old) (vU nw)) (kU x) = true ↔ _
    by_cases e : x = old
    · subst e
      rw [put_has_same h.tidy.isMap]
      exact ⟨fun _ => ⟨p, hpl, hpo⟩, fun _ => rfl⟩
    · rw [has_put_other (kU_ne e)]; exact h.has x
  · intro j hj
    show ((rD r).put (kU old) (vU nw)).atKey (kU (ks.getD j 0)) (vU 0) = _
    rw [uset_getD vs p j nw hpv]
    by_cases e : j = p
    · subst e
      rw [hpo, put_at_same h.tidy.isMap, if_pos rfl]
    · have hne : ks.getD j 0 ≠ old := fun x => e (h.inj j p hj hpl (x.trans hpo.symm))
      rw [atKey_put_other (kU_ne hne), if_neg e]; exact h.val j hj

theorem app_getD (us : List Int) (x : Int) (j : Nat) (hj : j < us.length + 1) : (us ++ [x]).getD j 0 = if j = us.length then x else us.getD j 0 := by
  by_cases e : j = us.length
  · subst e; simp
  · rw [if_neg e, List.getD_eq_getElem?_getD, List.getElem?_append_left (by omega), List.getD_eq_getElem?_getD]

theorem KV.fresh {ks vs : List Int} {r : Rec} {old nw : Int} (h : KV ks vs r) (hp : fidx old ks = -1) : KV (ks ++ [old]) (vs ++ [nw]) (some ((rD r).put (kU old) (vU nw))) := by
  have hno := fidx_none old ks hp
  have ho : Maps.has (rD r) (kU old) = false := by
    cases hb : Maps.has (rD r) (kU old) with
    | false => rfl
    | true =>
      obtain ⟨j, hj, e⟩ := (h.has old).1 hb
      exact absurd e (hno j hj)
  refine ⟨by simp [h.len], h.tidy.put (kU_key old) _, ?_, (fun e => nomatch e), ?_, ?_, ?_⟩
  · show Maps.size ((rD r).put (kU old) (vU nw)) = _
    rw [size_put h.tidy, if_neg (by rw [ho]; simp), h.size]; simp
  · intro x
    show Maps.has ((rD r).put (kU old) (vU nw)) (kU x) = true ↔ _
    by_cases e : x = old
    · subst e
      rw [put_has_same h.tidy.isMap]
      refine ⟨fun _ => ⟨ks.length, by simp, ?_⟩, fun _ => rfl⟩
      rw [app_getD _ _ _ (by omega), if_pos rfl]
    · rw [has_put_other (kU_ne e), h.has x]
      constructor
      · rintro ⟨j, hj, hx⟩
        exact ⟨j, by simp; omega, by rw [app_getD _ _ _ (by omega), if_neg (by omega)]; exact hx⟩
      · rintro ⟨j, hj, hx⟩
        simp only [List.length_append, List.length_singleton] at hj
        rw [app_getD _ _ _ hj] at hx
        by_cases e2 : j = ks.length
        · rw [if_pos e2] at hx; exact absurd hx.symm e
        · rw [if_neg e2] at hx; exact ⟨j, by omega, hx⟩
  · intro i j hi hj hx
    simp only [List.length_append, List.length_singleton] at hi hj
    rw [app_getD _ _ _ hi, app_getD _ _ _ hj] at hx
    by_cases e1 : i = ks.length
    · by_cases e2 : j = ks.length
      · omega
      · rw [if_pos e1, if_neg e2] at hx
        exact absurd hx.symm (hno j (by omega))
    · by_cases e2 : j = ks.length
      · rw [if_neg e1, if_pos e2] at hx
        exact absurd hx (hno i (by omega))
      · rw [if_neg e1, if_neg e2] at hx
        exact h.inj i j (by omega) (by omega) hx
  · intro j hj
    show ((rD r).put (kU old) (vU nw)).atKey (kU ((ks ++ [old]).getD j 0)) (vU 0) = _
    simp only [List.length_append, List.length_singleton] at hj
    rw [app_getD _ _ _ hj, app_getD _ _ _ (by rw [← h.len]; exact hj)]
    by_cases e : j = ks.length
    · rw [if_pos e, if_pos (by rw [← h.len]; exact e), put_at_same h.tidy.isMap]
    · rw [if_neg e, if_neg (by rw [← h.len]; exact e), atKey_put_other (kU_ne (hno j (by omega)))]
      exact h.val j (by omega)
theorem WfU.snoc {us : List Int} {x : Int} (h : WfU us) (h0 : 0 ≤ x) (h1 : x ≤ 4294967295) : WfU (us ++ [x]) := by
  intro i hi
  simp only [List.length_append, List.length_singleton] at hi
  rw [app_getD _ _ _ hi]
  by_cases e : i = us.length
  · rw [if_pos e]; exact ⟨h0, h1⟩
  · rw [if_neg e]; exact h i (by omega)
end Go.Proofs.Qxb6604323a
