import Derived.Test.Qxb6604323aWalksW
namespace Go.Proofs.Qxb6604323a
open Go.ChangeShapes Go.WideShapes Go.ChangeAt Go.RowKit Go.Maps

/-- The state beside the model's three tables. -/
structure Scr (w : World) (tag : Nat → Nat × Nat) (B sp n R K V N : Nat) (M : List Ls) (rr rk rv : Nat → List Int) : Prop where
  st : StateIs w tag B sp 0 0 [] M N
  reps : TabU w tag n R rr
  keys : TabO w tag B n 8 11 K rk
  vals : TabO w tag B n 9 12 V rv
/-- What the tables say. -/
structure ScrOk (n N : Nat) (M : List Ls) (rr rk rv : Nat → List Int) : Prop where
  len : M.length = n
  row : ∀ i, i < n → rr i = (M.getD i ls0).reps ∧ (rr i).length ≤ 1048576 ∧ KV (rk i) (rv i) (M.getD i ls0).rcd ∧ WfU (rk i) ∧ (rk i).length ≤ N

section
variable {P : Nat × Nat → Prop} {tag tag' : Nat → Nat × Nat} {w w' : World} {B sp n R K V N : Nat} {M : List Ls} {rr rk rv : Nat → List Int}
theorem Scr.base (h : Scr w tag B sp n R K V N M rr rk rv) : B ≤ w.heap.size := by
  have := h.st.sp_lt
  omega
theorem Scr.high (h : Scr w tag B sp n R K V N M rr rk rv) {b x y : Nat} (ht : tag b = (x, y)) (hx : x ≠ 100) : B ≤ b := by
  rcases Nat.lt_or_ge b B with hb | hb
  · have := h.st.1 b hb
    rw [ht] at this
    cases this
    exact absurd rfl hx
  · exact hb
theorem Scr.below (h : Scr w tag B sp n R K V N M rr rk rv) (hb : Below w.heap.size w w') : Scr w' tag B sp n R K V N M rr rk rv :=
  ⟨h.st.keep (P := fun _ => False) (Keep.of_below hb) (fun _ h => h.elim), h.reps.keep (P := fun _ => False) (Keep.of_below hb) id (fun _ => id), h.keys.keep (P := fun _ => False) (Keep.of_below hb) id (fun _ => id), h.vals.keep (P := fun _ => False) (Keep.of_below hb) id (fun _ => id)⟩
/-- Behind a Replace. -/
theorem Scr.replaced (h : Scr w tag B sp n R K V N M rr rk rv) {M' : List Ls} {N' i : Nat} (hs : StateIs w' tag' B sp 0 0 [] M' N') (ht : ∀ b, b < w.heap.size → tag' b = tag b) (k : Keep (replP i) tag' w w') : Scr w' tag' B sp n R K V N' M' rr rk rv := by
  have nP : ∀ a b, 4 < a → ¬ replP i (a, b) := by
    intro a b ha hx
    obtain ⟨_, hx⟩ := hx
    rcases hx with hx | hx | hx <;> simp at hx <;> omega
  exact ⟨hs, (h.reps.retag ht).keep k (nP _ _ (by omega)) (fun _ => nP _ _ (by omega)), (h.keys.retag ht).keep k (nP _ _ (by omega)) (fun _ => nP _ _ (by omega)), (h.vals.retag ht).keep k (nP _ _ (by omega)) (fun _ => nP _ _ (by omega))⟩
/-- 'reps[i] = ..', a slice of the call's own. -/
theorem Scr.lay (h : Scr w tag B sp n R K V N M rr rk rv) {i : Nat} (hi : i < n) (hb : Below w.heap.size w w') {a : Option Addr} {m c : Nat} {us : List Int} (hu : UO w' w.heap.size a m c us) :
    ∃ x, w'.cell? ⟨R, i, none⟩ = some x ∧ w'.frozen? ⟨R, i, none⟩ = false ∧ (∃ T, Scr (w'.setCell ⟨R, i, none⟩ (.slice a m c)) T B sp n R K V N M (upd rr i us) rk rv) ∧ ∀ W, Below B W w → Below B W (w'.setCell ⟨R, i, none⟩ (.slice a m c)) := by
  have hB := h.base
  have hRB := h.high h.reps.1 (by omega)
  have h' := h.below hb
  have hbs : ∀ b, b < w.heap.size → (fun b => if b < w.heap.size then tag b else (10, i)) b = tag b := fun b hb => by simp [hb]
  have hnw : ∀ b, w.heap.size ≤ b → (fun b => if b < w.heap.size then tag b else (10, i)) b = (10, i) := fun b hb => by simp [Nat.not_lt.2 hb]
  generalize (fun b => if b < w.heap.size then tag b else (10, i)) = T at *
  have h0 : Scr w T B sp n R K V N M rr rk rv := ⟨h.st.retag hbs hB, h.reps.retag hbs, h.keys.retag hbs, h.vals.retag hbs⟩
  have h1 := h0.below hb
  have hut : UT w' T (10, i) a m c us := by
    obtain ⟨u1, u2, u3, u4⟩ := hu
    refine ⟨u1, u2, u3, fun hn => ?_⟩
    obtain ⟨g, hg, hBg, hbk⟩ := u4 hn
    exact ⟨g, hg, hnw g hBg, hbk⟩
  obtain ⟨f1, K1, t1⟩ := h1.reps.lay hi hut
  obtain ⟨a0, m0, c0, e0, -⟩ := h1.reps.row hi
  refine ⟨_, e0, f1, ⟨T, h1.st.keep K1 (fun t e => by rw [e]; simp), t1, h1.keys.keep K1 (fun e => nomatch e) (fun _ e => nomatch e), h1.vals.keep K1 (fun e => nomatch e) (fun _ e => nomatch e)⟩, fun W hW => ?_⟩
  exact (hW.trans (hb.mono hB)).setCell (p := ⟨R, i, none⟩) hRB _
/-- 'reps[i][k] = z'. -/
theorem Scr.putR (h : Scr w tag B sp n R K V N M rr rk rv) {i k : Nat} (hi : i < n) (hk : k < (rr i).length) :
    ∃ r m c, w.cell? ⟨R, i, none⟩ = some (.slice (some ⟨r, 0, none⟩) m c) ∧ (rr i).length = m ∧ m ≤ c ∧ w.cell? ⟨r, k, none⟩ = some (.int .u32 ((rr i).getD k 0)) ∧ w.frozen? ⟨r, k, none⟩ = false ∧ r ≠ K ∧
      ∀ z, Scr (w.setCell ⟨r, k, none⟩ (.int .u32 z)) tag B sp n R K V N M (upd rr i ((rr i).set k z)) rk rv ∧ ∀ W, Below B W w → Below B W (w.setCell ⟨r, k, none⟩ (.int .u32 z)) := by
  obtain ⟨r, m, c, e1, e2, e3, e4, e5, e6, -, e8⟩ := h.reps.put hi hk
  refine ⟨r, m, c, e1, e2, e3, e4, e5, (fun e => by rw [e, h.keys.1] at e6; cases e6), fun z => ⟨?_, fun W hW => hW.setCell (p := ⟨r, k, none⟩) (h.high e6 (by omega)) _⟩⟩
  have K1 : Keep (fun t => t = (10, i)) tag w (w.setCell ⟨r, k, none⟩ (.int .u32 z)) := (Keep.refl _ _ w).setCell (p := ⟨r, k, none⟩) e6 _
  exact ⟨h.st.keep K1 (fun t e => by rw [e]; simp), e8 z, h.keys.keep K1 (fun e => nomatch e) (fun _ e => nomatch e), h.vals.keep K1 (fun e => nomatch e) (fun _ e => nomatch e)⟩
/-- 'vals[i][p] = z'. -/
theorem Scr.putV (h : Scr w tag B sp n R K V N M rr rk rv) {i p : Nat} (hi : i < n) (hp : p < (rv i).length) :
    ∃ r m c, w.cell? ⟨V, i, none⟩ = some (.slice (some ⟨r, 0, none⟩) m c) ∧ (rv i).length = m ∧ m ≤ c ∧ w.cell? ⟨r, p, none⟩ = some (.int .u32 ((rv i).getD p 0)) ∧ w.frozen? ⟨r, p, none⟩ = false ∧
      ∀ z, Scr (w.setCell ⟨r, p, none⟩ (.int .u32 z)) tag B sp n R K V N M rr rk (upd rv i ((rv i).set p z)) ∧ ∀ W, Below B W w → Below B W (w.setCell ⟨r, p, none⟩ (.int .u32 z)) := by
  obtain ⟨r, m, c, e1, e2, e3, e4, e5, e6, e8⟩ := h.vals.put (by omega) hi hp
  refine ⟨r, m, c, e1, e2, e3, e4, e5, fun z => ⟨?_, fun W hW => hW.setCell (p := ⟨r, p, none⟩) (h.high e6 (by omega)) _⟩⟩
  have K1 : Keep (fun t => t = (12, i)) tag w (w.setCell ⟨r, p, none⟩ (.int .u32 z)) := (Keep.refl _ _ w).setCell (p := ⟨r, p, none⟩) e6 _
  exact ⟨h.st.keep K1 (fun t e => by rw [e]; simp), h.reps.keep K1 (fun e => nomatch e) (fun _ e => nomatch e), h.keys.keep K1 (fun e => nomatch e) (fun _ e => nomatch e), e8 z⟩
theorem notP (x y i a b : Nat) (hx : a ≠ x) (hy : a ≠ y) : ¬ ((a, b) = ((x, 0) : Nat × Nat) ∨ (a, b) = ((y, i) : Nat × Nat)) := by
  rintro (e | e)
  · exact hx (by cases e; rfl)
  · exact hy (by cases e; rfl)
/-- 'keys[i] = append(keys[i], z)'. -/
theorem Scr.appK (h : Scr w tag B sp n R K V N M rr rk rv) {i : Nat} (hi : i < n) {a : Option Addr} {m c : Nat} (hcell : w.cell? ⟨K, i, none⟩ = some (.slice a m c)) (o : Obj) {w5 : World} {g cap : Nat} {z : Int}
    (hown : w5.ownsRow B 25 1 (.slice (some ⟨g, 0, none⟩) (m + 1) cap) (m + 1) (ucells (rk i) ++ [.int .u32 z])) (hgrow : (w.alloc o).grownBy w5 (Value.slice a m c).ownBlock) (hg : (Value.slice a m c).ownBlock = some g ∨ g = w.heap.size + 1) :
    w5.frozen? ⟨K, i, none⟩ = false ∧ w5.cell? ⟨K, i, none⟩ = some (.slice a m c) ∧ (∃ T, Scr (w5.setCell ⟨K, i, none⟩ (.slice (some ⟨g, 0, none⟩) (m + 1) cap)) T B sp n R K V N M rr (upd rk i (rk i ++ [z])) rv) ∧
      ∀ W, Below B W w → Below B W (w5.setCell ⟨K, i, none⟩ (.slice (some ⟨g, 0, none⟩) (m + 1) cap)) := by
  obtain ⟨f1, e1, T, hT, K1, t1⟩ := h.keys.app (by omega) hi hcell o hown hgrow hg
  have hB := h.base
  refine ⟨f1, e1, ⟨T, (h.st.retag hT hB).keep K1 (fun t e => by rcases e with e | e <;> rw [e] <;> simp), (h.reps.retag hT).keep K1 (notP _ _ _ _ _ (by omega) (by omega)) (fun _ => notP _ _ _ _ _ (by omega) (by omega)), t1, (h.vals.retag hT).keep K1 (notP _ _ _ _ _ (by omega) (by omega)) (fun _ => notP _ _ _ _ _ (by omega) (by omega))⟩, fun W hW => ?_⟩
  refine K1.below hW hB ?_
  intro b hb
  rw [hT b (by omega), h.st.1 b hb]
  exact notP _ _ _ _ _ (by omega) (by omega)
theorem Scr.appV (h : Scr w tag B sp n R K V N M rr rk rv) {i : Nat} (hi : i < n) {a : Option Addr} {m c : Nat} (hcell : w.cell? ⟨V, i, none⟩ = some (.slice a m c)) (o : Obj) {w5 : World} {g cap : Nat} {z : Int}
    (hown : w5.ownsRow B 25 1 (.slice (some ⟨g, 0, none⟩) (m + 1) cap) (m + 1) (ucells (rv i) ++ [.int .u32 z])) (hgrow : (w.alloc o).grownBy w5 (Value.slice a m c).ownBlock) (hg : (Value.slice a m c).ownBlock = some g ∨ g = w.heap.size + 1) :
    w5.frozen? ⟨V, i, none⟩ = false ∧ w5.cell? ⟨V, i, none⟩ = some (.slice a m c) ∧ (∃ T, Scr (w5.setCell ⟨V, i, none⟩ (.slice (some ⟨g, 0, none⟩) (m + 1) cap)) T B sp n R K V N M rr rk (upd rv i (rv i ++ [z]))) ∧
      ∀ W, Below B W w → Below B W (w5.setCell ⟨V, i, none⟩ (.slice (some ⟨g, 0, none⟩) (m + 1) cap)) := by
  obtain ⟨f1, e1, T, hT, K1, t1⟩ := h.vals.app (by omega) hi hcell o hown hgrow hg
  have hB := h.base
  refine ⟨f1, e1, ⟨T, (h.st.retag hT hB).keep K1 (fun t e => by rcases e with e | e <;> rw [e] <;> simp), (h.reps.retag hT).keep K1 (notP _ _ _ _ _ (by omega) (by omega)) (fun _ => notP _ _ _ _ _ (by omega) (by omega)), (h.keys.retag hT).keep K1 (notP _ _ _ _ _ (by omega) (by omega)) (fun _ => notP _ _ _ _ _ (by omega) (by omega)), t1⟩, fun W hW => ?_⟩
  refine K1.below hW hB ?_
  intro b hb
  rw [hT b (by omega), h.st.1 b hb]
  exact notP _ _ _ _ _ (by omega) (by omega)

/-! ### The plain step -/
theorem ScrOk.found (h : ScrOk n N M rr rk rv) {i k p : Nat} {old nw : Int} (hi : i < n) (hk : k < (rr i).length) (hp : fidx old (rk i) = p) :
    ScrOk n (N + 1) (M.set i ((M.getD i ls0).repl k old nw)) (upd rr i ((rr i).set k nw)) rk (upd rv i ((rv i).set p nw)) := by
  have hlen : i < M.length := by rw [h.len]; exact hi
  refine ⟨by simp [h.len], fun j hj => ?_⟩
  obtain ⟨r1, r2, r3, r4, r5⟩ := h.row j hj
  rw [set_getD _ _ _ _ hlen]
  unfold upd
  by_cases e : j = i
  · subst e
    simp only [if_pos]
    refine ⟨?_, by simpa using r2, r3.found hp, r4, by omega⟩
    show (rr j).set k nw = ((M.getD j ls0).reps).set k nw
    rw [r1]
  · simp only [if_neg e]
    exact ⟨r1, r2, r3, r4, by omega⟩
theorem ScrOk.fresh (h : ScrOk n N M rr rk rv) {i k : Nat} {old nw : Int} (hi : i < n) (hk : k < (rr i).length) (hp : fidx old (rk i) = -1) (o0 : 0 ≤ old) (o1 : old ≤ 4294967295) :
    ScrOk n (N + 1) (M.set i ((M.getD i ls0).repl k old nw)) (upd rr i ((rr i).set k nw)) (upd rk i (rk i ++ [old])) (upd rv i (rv i ++ [nw])) := by
  have hlen : i < M.length := by rw [h.len]; exact hi
  refine ⟨by simp [h.len], fun j hj => ?_⟩
  obtain ⟨r1, r2, r3, r4, r5⟩ := h.row j hj
  rw [set_getD _ _ _ _ hlen]
  unfold upd
  by_cases e : j = i
  · subst e
    simp only [if_pos]
    refine ⟨?_, by simpa using r2, r3.fresh hp, r4.snoc o0 o1, by simp; omega⟩
    show (rr j).set k nw = ((M.getD j ls0).reps).set k nw
    rw [r1]
  · simp only [if_neg e]
    exact ⟨r1, r2, r3, r4, by omega⟩
end
theorem news1 (W : World) (b : Nat) (z : Int) (t : TypeId) (hb : W.heap.size = b) : ∀ j u, [Value.int .u32 z][j]? = some u → (W.alloc (.cells #[.int .u32 z] t)).cell? ((⟨b, 0, none⟩ : Addr).add j) = some u := by
  subst hb
  intro j u hj
  match j, hj with
  | 0, hj =>
    simp at hj
    subst hj
    simp [Addr.add]
theorem info34 : (Try.prog.info? 34).map (fun i => (i.zero, i.size, i.bytes)) = some (some (.slice none 0 0), 1, 24) := by kernel_rfl

theorem made_blk {w w' : World} {B n : Nat} (hown : w'.ownsRow B 34 1 (.slice (some ⟨w.heap.size, 0, none⟩) n n) n (madeCells (Value.slice none 0 0).cells (n * 1)).toList) : Blk w' w.heap.size n (fun _ => .slice none 0 0) := by
  rcases blk_of_owns hown with ⟨hv, _⟩ | ⟨g, cap1, hv, _, _, hB1⟩
  · cases hv
  · cases hv
    rw [Nat.mul_one] at hB1
    refine hB1.congr ?_
    intro j hj
    show (madeCells #[Value.slice none 0 0] n).toList.getD j undef = _
    rw [toList_madeCells_one]
    simp [hj]
theorem scr_start {w2 w3 w4 w5 : World} {tag : Nat → Nat × Nat} {B sp n : Nat} {M : List Ls} (hst : StateIs w2 tag B sp 0 0 [] M 0) (hb3 : Below w2.heap.size w2 w3) (hB3 : Blk w3 w2.heap.size n (fun _ => .slice none 0 0)) (hb4 : Below w3.heap.size w3 w4) (hB4 : Blk w4 w3.heap.size n (fun _ => .slice none 0 0)) (hb5 : Below w4.heap.size w4 w5) (hB5 : Blk w5 w4.heap.size n (fun _ => .slice none 0 0)) :
    ∃ T, Scr w5 T B sp n w2.heap.size w3.heap.size w4.heap.size 0 M (fun _ => []) (fun _ => []) (fun _ => []) := by
  have s3 := hB3.1
  have s4 := hB4.1
  have s5 := hB5.1
  have hsp := hst.sp_lt
  have hT : ∀ b, b < w2.heap.size → (fun b => if b < w2.heap.size then tag b else if b = w2.heap.size then (7, 0) else if b = w3.heap.size then (8, 0) else (9, 0)) b = tag b := fun b hb => by simp [hb]
  have t7 : (fun b => if b < w2.heap.size then tag b else if b = w2.heap.size then (7, 0) else if b = w3.heap.size then (8, 0) else (9, 0)) w2.heap.size = (7, 0) := by simp
  have t8 : (fun b => if b < w2.heap.size then tag b else if b = w2.heap.size then (7, 0) else if b = w3.heap.size then (8, 0) else (9, 0)) w3.heap.size = (8, 0) := by
    have e1 : ¬ w3.heap.size < w2.heap.size := by omega
    have e2 : ¬ w3.heap.size = w2.heap.size := by omega
    simp [e1, e2]
  have t9 : (fun b => if b < w2.heap.size then tag b else if b = w2.heap.size then (7, 0) else if b = w3.heap.size then (8, 0) else (9, 0)) w4.heap.size = (9, 0) := by
    have e1 : ¬ w4.heap.size < w2.heap.size := by omega
    have e2 : ¬ w4.heap.size = w2.heap.size := by omega
    have e3 : ¬ w4.heap.size = w3.heap.size := by omega
    simp [e1, e2, e3]
  generalize (fun b => if b < w2.heap.size then tag b else if b = w2.heap.size then (7, 0) else if b = w3.heap.size then (8, 0) else (9, 0)) = T at *
  have hb35 : Below w3.heap.size w3 w5 := hb4.trans (hb5.mono (by omega))
  have hb25 : Below w2.heap.size w2 w5 := hb3.trans (hb35.mono (by omega))
  have hnil : ∀ y i, ∃ a m c, Value.slice none 0 0 = .slice a m c ∧ w5.ownsRow B 25 1 (.slice a m c) m (ucells ((fun _ => []) i)) ∧ ((fun _ => []) i : List Int).length = m ∧ ∀ g, (Value.slice a m c).ownBlock = some g → T g = (y, i) := fun y i => ⟨none, 0, 0, rfl, World.ownsRow_nil _ _ _ _, rfl, fun g h => by cases h⟩
  refine ⟨T, (hst.retag hT (by omega)).keep (P := fun _ => False) (Keep.of_below hb25) (fun _ h => h.elim), ⟨t7, _, hB3.below hb35 (by omega), fun i hi => ⟨none, 0, 0, rfl, rfl, Nat.le_refl _, fun _ => ⟨rfl, rfl⟩, fun h => absurd h (Nat.lt_irrefl _)⟩⟩, ⟨t8, _, hB4.below hb5 (by omega), fun i _ => hnil 11 i⟩, ⟨t9, _, hB5, fun i _ => hnil 12 i⟩⟩
def rowsTo (ss : List St) (k : Nat) : Nat → List Int := fun i => if i < k then (ss.getD i st0).reps else []
theorem rowsTo_step (ss : List St) (k : Nat) : upd (rowsTo ss k) k (ss.getD k st0).reps = rowsTo ss (k + 1) := by
  funext j
  unfold upd rowsTo
  by_cases e : j = k
  · subst e; simp
  · rw [if_neg e]
    by_cases h : j < k
    · rw [if_pos h, if_pos (by omega)]
    · rw [if_neg h, if_neg (by omega)]
theorem rowsTo_zero (ss : List St) : rowsTo ss 0 = fun _ => [] := by funext j; simp [rowsTo]
theorem scrOk_start {ss : List St} {n : Nat} (hl : ss.length = n) (hm : Mod n ss) : ScrOk n 0 (ss.map St.ls) (rowsTo ss n) (fun _ => []) (fun _ => []) := by
  refine ⟨by simp [hl], fun i hi => ?_⟩
  have e : rowsTo ss n i = (ss.getD i st0).reps := by simp [rowsTo, hi]
  rw [e, ls_getD_map ss i (by omega)]
  exact ⟨rfl, (hm.2 i hi).1, KV.start, (fun j hj => absurd hj (Nat.not_lt_zero _)), Nat.le_refl _⟩
end Go.Proofs.Qxb6604323a
