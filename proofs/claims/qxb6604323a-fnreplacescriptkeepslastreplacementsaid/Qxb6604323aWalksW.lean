import Derived.Test.Qxb6604323aPlainV
import Derived.Laws.OwnMore
import Derived.Deep.AppendLies
namespace Go.Proofs.Qxb6604323a
open Go.ChangeShapes Go.WideShapes Go.ChangeAt Go.RowKit Go.Maps

def upd (rows : Nat → List Int) (i : Nat) (us : List Int) : Nat → List Int := fun j => if j = i then us else rows j

/-! ### The model's replicas: a table of rows -/
def TabU (w : World) (tag : Nat → Nat × Nat) (n tb : Nat) (rows : Nat → List Int) : Prop :=
  tag tb = (7, 0) ∧ ∃ v : Nat → Value, Blk w tb n v ∧ ∀ i, i < n → ∃ a m c, v i = .slice a m c ∧ UT w tag (10, i) a m c (rows i)
/-! ### Keys and values: tables of rows that grow -/
def TabO (w : World) (tag : Nat → Nat × Nat) (B n x y tb : Nat) (rows : Nat → List Int) : Prop :=
  tag tb = (x, 0) ∧ ∃ v : Nat → Value, Blk w tb n v ∧ ∀ i, i < n → ∃ a m c, v i = .slice a m c ∧ w.ownsRow B 25 1 (.slice a m c) m (ucells (rows i)) ∧ (rows i).length = m ∧ ∀ g, (Value.slice a m c).ownBlock = some g → tag g = (y, i)

section
variable {P : Nat × Nat → Prop} {tag tag' : Nat → Nat × Nat} {w w' : World} {B n x y tb : Nat} {rows rows' : Nat → List Int}
theorem TabU.keep (h : TabU w tag n tb rows) (k : Keep P tag w w') (h7 : ¬ P (7, 0)) (h10 : ∀ i, ¬ P (10, i)) : TabU w' tag n tb rows := by
  obtain ⟨ht, v, hb, hr⟩ := h
  refine ⟨ht, v, hb.keep k (by rw [ht]; exact h7), fun i hi => ?_⟩
  obtain ⟨a, m, c, hv, hu⟩ := hr i hi
  exact ⟨a, m, c, hv, hu.keep k (h10 i)⟩
theorem TabU.retag (h : TabU w tag n tb rows) (ht' : ∀ b, b < w.heap.size → tag' b = tag b) : TabU w tag' n tb rows := by
  obtain ⟨ht, v, hb, hr⟩ := h
  refine ⟨by rw [ht' tb hb.1]; exact ht, v, hb, fun i hi => ?_⟩
  obtain ⟨a, m, c, hv, hu⟩ := hr i hi
  exact ⟨a, m, c, hv, hu.retag ht'⟩
theorem TabU.congr (h : TabU w tag n tb rows) (e : ∀ i, i < n → rows i = rows' i) : TabU w tag n tb rows' := by
  obtain ⟨ht, v, hb, hr⟩ := h
  refine ⟨ht, v, hb, fun i hi => ?_⟩
  rw [← e i hi]; exact hr i hi
theorem TabU.row (h : TabU w tag n tb rows) {i : Nat} (hi : i < n) : ∃ a m c, w.cell? ⟨tb, i, none⟩ = some (.slice a m c) ∧ UT w tag (10, i) a m c (rows i) := by
  obtain ⟨ht, v, hb, hr⟩ := h
  obtain ⟨a, m, c, hv, hu⟩ := hr i hi
  exact ⟨a, m, c, by rw [(hb.2 i hi).1, hv], hu⟩
/-- A row laid anew: 'reps[i] = ..'. -/
theorem TabU.lay (h : TabU w tag n tb rows) {i : Nat} (hi : i < n) {a : Option Addr} {m c : Nat} {us : List Int} (hu : UT w tag (10, i) a m c us) :
    w.frozen? ⟨tb, i, none⟩ = false ∧ Keep (fun t => t = (7, 0)) tag w (w.setCell ⟨tb, i, none⟩ (.slice a m c)) ∧ TabU (w.setCell ⟨tb, i, none⟩ (.slice a m c)) tag n tb (upd rows i us) := by
  obtain ⟨ht, v, hb, hr⟩ := h
  have K : Keep (fun t => t = (7, 0)) tag w (w.setCell ⟨tb, i, none⟩ (.slice a m c)) := (Keep.refl _ _ w).setCell (p := ⟨tb, i, none⟩) ht _
  refine ⟨(hb.2 i hi).2, K, ht, _, hb.set i hi (.slice a m c), fun j hj => ?_⟩
  by_cases e : j = i
  · subst e
    exact ⟨a, m, c, by simp, by unfold upd; rw [if_pos rfl]; exact hu.keep K (fun e => nomatch e)⟩
  · obtain ⟨a', m', c', hv, hu'⟩ := hr j hj
    exact ⟨a', m', c', by simp [e, hv], by unfold upd; rw [if_neg e]; exact hu'.keep K (fun e => nomatch e)⟩
/-- 'reps[i][k] = x'. -/
theorem TabU.put (h : TabU w tag n tb rows) {i k : Nat} (hi : i < n) (hk : k < (rows i).length) :
    ∃ r m c, w.cell? ⟨tb, i, none⟩ = some (.slice (some ⟨r, 0, none⟩) m c) ∧ (rows i).length = m ∧ m ≤ c ∧ w.cell? ⟨r, k, none⟩ = some (.int .u32 ((rows i).getD k 0)) ∧ w.frozen? ⟨r, k, none⟩ = false ∧ tag r = (10, i) ∧ r < w.heap.size ∧
      ∀ z, TabU (w.setCell ⟨r, k, none⟩ (.int .u32 z)) tag n tb (upd rows i ((rows i).set k z)) := by
  obtain ⟨ht, v, hb, hr⟩ := h
  obtain ⟨a, m, c, hv, hl, hmc, hn, hx⟩ := hr i hi
  obtain ⟨r, rfl, htr, hub⟩ := hx (by omega)
  refine ⟨r, m, c, by rw [(hb.2 i hi).1, hv], hl, hmc, (hub.2 k hk).1, (hub.2 k hk).2, htr, hub.1, fun z => ?_⟩
  have K : Keep (fun t => t = (10, i)) tag w (w.setCell ⟨r, k, none⟩ (.int .u32 z)) := (Keep.refl _ _ w).setCell (p := ⟨r, k, none⟩) htr _
  refine ⟨ht, v, hb.keep K (by rw [ht]; exact fun e => nomatch e), fun j hj => ?_⟩
  by_cases e : j = i
  · subst e
    refine ⟨_, m, c, hv, ?_⟩
    unfold upd
    rw [if_pos rfl]
    exact ⟨by rw [List.length_set]; exact hl, hmc, (fun e => nomatch e), fun _ => ⟨r, rfl, htr, hub.put k hk z⟩⟩
  · obtain ⟨a', m', c', hv', hu'⟩ := hr j hj
    refine ⟨a', m', c', hv', ?_⟩
    unfold upd
    rw [if_neg e]
    exact hu'.keep K (fun x => e (by cases x; rfl))

theorem TabO.keep (h : TabO w tag B n x y tb rows) (k : Keep P tag w w') (hx : ¬ P (x, 0)) (hy : ∀ i, ¬ P (y, i)) : TabO w' tag B n x y tb rows := by
  obtain ⟨ht, v, hb, hr⟩ := h
  refine ⟨ht, v, hb.keep k (by rw [ht]; exact hx), fun i hi => ?_⟩
  obtain ⟨a, m, c, hv, ho, hl, hg⟩ := hr i hi
  exact ⟨a, m, c, hv, owns_keep ho k (fun j hj => by rw [hg j hj]; exact hy i), hl, hg⟩
theorem TabO.retag (h : TabO w tag B n x y tb rows) (ht' : ∀ b, b < w.heap.size → tag' b = tag b) : TabO w tag' B n x y tb rows := by
  obtain ⟨ht, v, hb, hr⟩ := h
  refine ⟨by rw [ht' tb hb.1]; exact ht, v, hb, fun i hi => ?_⟩
  obtain ⟨a, m, c, hv, ho, hl, hg⟩ := hr i hi
  exact ⟨a, m, c, hv, ho, hl, fun g hgo => by rw [ht' g (owns_lt ho g hgo).2]; exact hg g hgo⟩
theorem owns_us {a : Option Addr} {m c : Nat} {us : List Int} (h : w.ownsRow B 25 1 (.slice a m c) m (ucells us)) (hl : us.length = m) : US w a m c us := by
  obtain ⟨a', c', e, hu⟩ := uo_of_owns (n := m) (us := us) (by simpa using h) hl
  cases e
  exact hu.us
theorem TabO.row (h : TabO w tag B n x y tb rows) {i : Nat} (hi : i < n) : ∃ a m c, w.cell? ⟨tb, i, none⟩ = some (.slice a m c) ∧ (rows i).length = m ∧ US w a m c (rows i) ∧ w.ownsRow B 25 1 (.slice a m c) m (ucells (rows i)) := by
  obtain ⟨ht, v, hb, hr⟩ := h
  obtain ⟨a, m, c, hv, ho, hl, hg⟩ := hr i hi
  exact ⟨a, m, c, by rw [(hb.2 i hi).1, hv], hl, owns_us ho hl, ho⟩
theorem ucells_set (us : List Int) (p : Nat) (z : Int) : ucells (us.set p z) = (ucells us).set p (.int .u32 z) := by simp [ucells]
/-- 'vals[i][p] = z'. -/
theorem TabO.put (h : TabO w tag B n x y tb rows) (hxy : x ≠ y) {i p : Nat} (hi : i < n) (hp : p < (rows i).length) :
    ∃ r m c, w.cell? ⟨tb, i, none⟩ = some (.slice (some ⟨r, 0, none⟩) m c) ∧ (rows i).length = m ∧ m ≤ c ∧ w.cell? ⟨r, p, none⟩ = some (.int .u32 ((rows i).getD p 0)) ∧ w.frozen? ⟨r, p, none⟩ = false ∧ tag r = (y, i) ∧
      ∀ z, TabO (w.setCell ⟨r, p, none⟩ (.int .u32 z)) tag B n x y tb (upd rows i ((rows i).set p z)) := by
  obtain ⟨ht, v, hb, hr⟩ := h
  obtain ⟨a, m, c, hv, ho, hl, hg⟩ := hr i hi
  obtain ⟨r, c', e, -, -⟩ := ho.form (by omega)
  cases e
  have hus := owns_us ho hl
  have htr := hg r rfl
  refine ⟨r, m, c, by rw [(hb.2 i hi).1, hv], hl, hus.2.1, ?_, ho.frozenAt p, htr, fun z => ?_⟩
  · rw [ho.cellAt p (by omega)]
    simp [ucells, hp]
  have K : Keep (fun t => t = (y, i)) tag w (w.setCell ⟨r, p, none⟩ (.int .u32 z)) := (Keep.refl _ _ w).setCell (p := ⟨r, p, none⟩) htr _
  refine ⟨ht, v, hb.keep K (by rw [ht]; exact fun e => hxy (by cases e; rfl)), fun j hj => ?_⟩
  by_cases e : j = i
  · subst e
    refine ⟨_, m, c, hv, ?_⟩
    unfold upd
    rw [if_pos rfl, ucells_set]
    exact ⟨(ho.stored p (.int .u32 z)).1, by rw [List.length_set]; exact hl, hg⟩
  · obtain ⟨a', m', c', hv', ho', hl', hg'⟩ := hr j hj
    refine ⟨a', m', c', hv', ?_⟩
    unfold upd
    rw [if_neg e]
    exact ⟨owns_keep ho' K (fun q hq => by rw [hg' q hq]; exact fun x => e (by cases x; rfl)), hl', hg'⟩
theorem ucells_snoc (us : List Int) (z : Int) : ucells (us ++ [z]) = ucells us ++ [.int .u32 z] := by simp [ucells]
/-- 'keys[i] = append(keys[i], z)'. -/
theorem TabO.app (h : TabO w tag B n x y tb rows) (hxy : x ≠ y) {i : Nat} (hi : i < n) {a : Option Addr} {m c : Nat} (hcell : w.cell? ⟨tb, i, none⟩ = some (.slice a m c)) (o : Obj) {w5 : World} {g cap : Nat} {z : Int}
    (hown : w5.ownsRow B 25 1 (.slice (some ⟨g, 0, none⟩) (m + 1) cap) (m + 1) (ucells (rows i) ++ [.int .u32 z])) (hgrow : (w.alloc o).grownBy w5 (Value.slice a m c).ownBlock) (hg : (Value.slice a m c).ownBlock = some g ∨ g = w.heap.size + 1) :
    w5.frozen? ⟨tb, i, none⟩ = false ∧ w5.cell? ⟨tb, i, none⟩ = some (.slice a m c) ∧ ∃ T, (∀ b, b < w.heap.size → T b = tag b) ∧ Keep (fun t => t = (x, 0) ∨ t = (y, i)) T w (w5.setCell ⟨tb, i, none⟩ (.slice (some ⟨g, 0, none⟩) (m + 1) cap)) ∧
      TabO (w5.setCell ⟨tb, i, none⟩ (.slice (some ⟨g, 0, none⟩) (m + 1) cap)) T B n x y tb (upd rows i (rows i ++ [z])) := by
  obtain ⟨ht, v, hb, hr⟩ := h
  obtain ⟨a1, m1, c1, hv1, ho1, hl1, hg1⟩ := hr i hi
  have e1 := (hb.2 i hi).1
  rw [hcell, hv1] at e1
  cases e1
  have htag : ∀ b, b < w.heap.size → (fun b => if b < w.heap.size then tag b else (y, i)) b = tag b := fun b hb => by simp [hb]
  have hnw : ∀ b, w.heap.size ≤ b → (fun b => if b < w.heap.size then tag b else (y, i)) b = (y, i) := fun b hb => by simp [Nat.not_lt.2 hb]
  generalize (fun b => if b < w.heap.size then tag b else (y, i)) = T at *
  have ttb : T tb = (x, 0) := by rw [htag tb hb.1]; exact ht
  have hgT : ∀ k, (Value.slice a m c).ownBlock = some k → T k = (y, i) := fun k hk => by rw [htag k (owns_lt ho1 k hk).2]; exact hg1 k hk
  have tg : T g = (y, i) := by
    rcases hg with hg | hg
    · exact hgT g hg
    · exact hnw g (by omega)
  have K5 : Keep (fun t => t = (y, i)) T w w5 := ((Keep.refl _ _ w).alloc o).grown hgrow (fun k hk => hgT k hk)
  have hb5 := hb.keep K5 (by rw [ttb]; exact fun e => hxy (by cases e; rfl))
  have K6 : Keep (fun t => t = (x, 0)) T w5 (w5.setCell ⟨tb, i, none⟩ (.slice (some ⟨g, 0, none⟩) (m + 1) cap)) := (Keep.refl _ _ w5).setCell (p := ⟨tb, i, none⟩) ttb _
  have nxy : ∀ j, ¬ (y, j) = ((x, 0) : Nat × Nat) := fun j e => hxy (by cases e; rfl)
  refine ⟨(hb5.2 i hi).2, by rw [(hb5.2 i hi).1, hv1], T, htag, (K5.imp (fun t e => Or.inr e)).trans (K6.imp (fun t e => Or.inl e)), ttb, _, hb5.set i hi (.slice (some ⟨g, 0, none⟩) (m + 1) cap), fun j hj => ?_⟩
  by_cases e : j = i
  · subst e
    refine ⟨some ⟨g, 0, none⟩, m + 1, cap, by simp, ?_⟩
    unfold upd
    rw [if_pos rfl, ucells_snoc]
    refine ⟨owns_keep hown K6 (fun q hq => by cases hq; rw [tg]; exact nxy _), by simp [hl1], fun q hq => by cases hq; exact tg⟩
  · obtain ⟨a', m', c', hv', ho', hl', hg'⟩ := hr j hj
    have hT' : ∀ k, (Value.slice a' m' c').ownBlock = some k → T k = (y, j) := fun k hk => by rw [htag k (owns_lt ho' k hk).2]; exact hg' k hk
    refine ⟨a', m', c', by simp [e, hv'], ?_⟩
    unfold upd
    rw [if_neg e]
    exact ⟨owns_keep (owns_keep ho' K5 (fun q hq => by rw [hT' q hq]; exact fun x => e (by cases x; rfl))) K6 (fun q hq => by rw [hT' q hq]; exact nxy _), hl', hT'⟩
end
end Go.Proofs.Qxb6604323a
