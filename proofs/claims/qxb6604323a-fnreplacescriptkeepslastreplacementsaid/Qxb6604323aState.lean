import Derived.Test.Qxb6604323aWalksK
import Derived.Maps.OwnSet
namespace Go.Proofs.Qxb6604323a
open Go.ChangeShapes Go.WideShapes Go.ChangeAt Go.RowKit

/-! ### Which blocks may turn: by their tags -/
structure Keep (P : Nat × Nat → Prop) (tag : Nat → Nat × Nat) (w w' : World) : Prop where
  os : w'.os = w.os
  tape : w'.tape = w.tape
  output : w'.output = w.output
  size : w.heap.size ≤ w'.heap.size
  block : ∀ b, b < w.heap.size → ¬ P (tag b) → w'.heap[b]? = w.heap[b]?

section
variable {P : Nat × Nat → Prop} {tag : Nat → Nat × Nat} {w w' w'' : World}
theorem Keep.refl (P : Nat × Nat → Prop) (tag : Nat → Nat × Nat) (w : World) : Keep P tag w w := ⟨rfl, rfl, rfl, Nat.le_refl _, fun _ _ _ => rfl⟩
theorem Keep.trans (h : Keep P tag w w') (k : Keep P tag w' w'') : Keep P tag w w'' :=
  ⟨k.os.trans h.os, k.tape.trans h.tape, k.output.trans h.output, Nat.le_trans h.size k.size, fun b hb hp => (k.block b (Nat.lt_of_lt_of_le hb h.size) hp).trans (h.block b hb hp)⟩
theorem Keep.of_below (h : Below w.heap.size w w') : Keep P tag w w' := ⟨h.os, h.tape, h.output, h.size, fun b hb _ => h.block b hb⟩
theorem Keep.below_step (h : Keep P tag w w') (k : Below w'.heap.size w' w'') : Keep P tag w w'' := h.trans (Keep.of_below k)
theorem Keep.alloc (h : Keep P tag w w') (o : Obj) : Keep P tag w (w'.alloc o) := h.below_step ((Below.refl _ _).alloc (Nat.le_refl _) o)
theorem Keep.drewN (h : Keep P tag w w') (q : Nat) : Keep P tag w (w'.drewN q) := h.below_step (below_drewN (Below.refl _ _) q)
theorem Keep.setCell (h : Keep P tag w w') {p : Addr} (hp : P (tag p.block)) (v : Value) : Keep P tag w (w'.setCell p v) := by
  refine h.trans ⟨rfl, rfl, rfl, by simp, fun b _ hn => ?_⟩
  exact Below.heap_setCell _ _ _ _ (fun e => hn (by rw [e]; exact hp))
theorem Keep.grown (h : Keep P tag w w') {row : Option Nat} (hg : w'.grownBy w'' row) (hr : ∀ k, row = some k → P (tag k)) : Keep P tag w w'' := by
  refine h.trans ⟨hg.os, hg.tape, hg.output, hg.size, fun b hb hn => hg.block b hb ?_⟩
  intro e
  exact hn (hr b e.symm)
theorem Keep.retag {tag' : Nat → Nat × Nat} (h : Keep P tag w w') (ht : ∀ b, b < w.heap.size → tag' b = tag b) : Keep P tag' w w' :=
  ⟨h.os, h.tape, h.output, h.size, fun b hb hn => h.block b hb (by rw [ht b hb] at hn; exact hn)⟩
theorem Keep.imp {P' : Nat × Nat → Prop} (h : Keep P tag w w') (hp : ∀ t, P t → P' t) : Keep P' tag w w' :=
  ⟨h.os, h.tape, h.output, h.size, fun b hb hn => h.block b hb (fun x => hn (hp _ x))⟩
theorem Keep.below {B : Nat} {W : World} (h : Keep P tag w w') (hb : Below B W w) (hB : B ≤ w.heap.size) (hn : ∀ b, b < B → ¬ P (tag b)) : Below B W w' :=
  hb.trans ⟨h.os, h.tape, h.output, h.size, fun k hk => h.block k (by omega) (hn k hk)⟩
theorem Blk.keep {b n : Nat} {f : Nat → Value} (h : Blk w b n f) (k : Keep P tag w w') (hn : ¬ P (tag b)) : Blk w' b n f :=
  ⟨Nat.lt_of_lt_of_le h.1 k.size, fun j hj => ⟨(World.cell?_of_block (a := ⟨b, j, none⟩) (k.block b h.1 hn)).trans (h.2 j hj).1, (World.frozen?_of_block (a := ⟨b, j, none⟩) (k.block b h.1 hn)).trans (h.2 j hj).2⟩⟩
end

/-! ### The parts of a state -/
def UT (w : World) (tag : Nat → Nat × Nat) (t : Nat × Nat) (a : Option Addr) (n cap : Nat) (us : List Int) : Prop :=
  us.length = n ∧ n ≤ cap ∧ (a = none → n = 0 ∧ cap = 0) ∧ (0 < n → ∃ g, a = some ⟨g, 0, none⟩ ∧ tag g = t ∧ UBlk w g us)
def CT (w : World) (tag : Nat → Nat × Nat) (t : Nat × Nat) (a : Option Addr) (n cap : Nat) (zs : List Cm) : Prop :=
  zs.length = n ∧ n ≤ cap ∧ (a = none → n = 0 ∧ cap = 0) ∧ (0 < n → ∃ g, a = some ⟨g, 0, none⟩ ∧ tag g = t ∧ CBlk w g zs)
abbrev Rec := Option (DataW Unit)
def MapIs (w : World) (mb n : Nat) (D : DataW Unit) : Prop := w.ownsMap Try.prog 25 (plainElem Try.prog 25) mb n D
def MT (w : World) (tag : Nat → Nat × Nat) (t : Nat × Nat) (mv : Option Nat) (r : Rec) (N : Nat) : Prop :=
  (mv = none ∧ r = none) ∨ ∃ mb D, mv = some mb ∧ r = some D ∧ tag mb = t ∧ ∃ n, n ≤ N ∧ MapIs w mb n D
structure Ls where
  reps : List Int
  com : Int
  trm : Int
  sld : Bool
  tran : Bool
  cms : List Cm
  rcd : Rec
def ls0 : Ls := ⟨[], 0, 0, false, false, [], none⟩
def St.ls (s : St) : Ls := ⟨s.reps, s.com, s.trm, s.sld, s.tran, s.cms, none⟩
def lsCells (i : Nat) (L : Ls) (ar : Option Addr) (nr cr : Nat) (ac : Option Addr) (nc cc : Nat) (mv : Option Nat) : Nat → Value
  | 0 => .int .u32 ((i : Int) + 1)
  | 1 => .slice ar nr cr
  | 2 => .int .u64 L.com
  | 3 => .int .u64 L.trm
  | 4 => .bool L.sld
  | 5 => .bool L.tran
  | 6 => .slice ac nc cc
  | _ => .map mv
def LsAt (w : World) (tag : Nat → Nat × Nat) (i p : Nat) (L : Ls) (N : Nat) : Prop :=
  ∃ ar nr cr ac nc cc mv, tag p = (2, i) ∧ Blk w p 8 (lsCells i L ar nr cr ac nc cc mv) ∧ UT w tag (3, i) ar nr cr L.reps ∧ CT w tag (5, i) ac nc cc L.cms ∧ MT w tag (4, i) mv L.rcd N
def stCells (hi tr : Int) (asl : Option Addr) (ns cs : Nat) (ac : Option Addr) (nc cc : Nat) : Nat → Value
  | 0 => .int .u64 hi
  | 1 => .int .u64 tr
  | 2 => .slice asl ns cs
  | _ => .slice ac nc cc
def ptrs (pb : Nat → Nat) (n : Nat) : List Value := (List.range n).map fun j => .pointer (some ⟨pb j, 0, none⟩)
def StateIs (w : World) (tag : Nat → Nat × Nat) (B sp : Nat) (hi tr : Int) (cms : List Cm) (Lss : List Ls) (N : Nat) : Prop :=
  (∀ b, b < B → tag b = (100, 0)) ∧ tag sp = (0, 0) ∧
  ∃ asl ns cs ac nc cc pb, Blk w sp 4 (stCells hi tr asl ns cs ac nc cc) ∧ CT w tag (6, 0) ac nc cc cms ∧ ns = Lss.length ∧ w.ownsRow B 71 1 (.slice asl ns cs) ns (ptrs pb ns) ∧
    (∀ k, (Value.slice asl ns cs).ownBlock = some k → tag k = (1, 0)) ∧ ∀ i, i < ns → LsAt w tag i (pb i) (Lss.getD i ls0) N

section
variable {P : Nat × Nat → Prop} {tag tag' : Nat → Nat × Nat} {w w' : World}
theorem UT.keep {t : Nat × Nat} {a : Option Addr} {n cap : Nat} {us : List Int} (h : UT w tag t a n cap us) (k : Keep P tag w w') (hn : ¬ P t) : UT w' tag t a n cap us := by
  obtain ⟨h1, h2, h3, h4⟩ := h
  refine ⟨h1, h2, h3, fun h0 => ?_⟩
  obtain ⟨g, ha, ht, hb⟩ := h4 h0
  exact ⟨g, ha, ht, Blk.keep hb k (by rw [ht]; exact hn)⟩
theorem CT.keep {t : Nat × Nat} {a : Option Addr} {n cap : Nat} {us : List Cm} (h : CT w tag t a n cap us) (k : Keep P tag w w') (hn : ¬ P t) : CT w' tag t a n cap us := by
  obtain ⟨h1, h2, h3, h4⟩ := h
  refine ⟨h1, h2, h3, fun h0 => ?_⟩
  obtain ⟨g, ha, ht, hb⟩ := h4 h0
  exact ⟨g, ha, ht, Blk.keep hb k (by rw [ht]; exact hn)⟩
theorem MapIs.block {mb n : Nat} {D : DataW Unit} (h : MapIs w mb n D) (hb : w'.heap[mb]? = w.heap[mb]?) : MapIs w' mb n D := by
  obtain ⟨es, clock, hh, rest⟩ := h
  exact ⟨es, clock, hb.trans hh, rest⟩
theorem MapIs.lt {mb n : Nat} {D : DataW Unit} (h : MapIs w mb n D) : mb < w.heap.size := World.ownsMap.lt h
theorem MT.keep {t : Nat × Nat} {mv : Option Nat} {r : Rec} {N : Nat} (h : MT w tag t mv r N) (k : Keep P tag w w') (hn : ¬ P t) : MT w' tag t mv r N := by
  rcases h with h | ⟨mb, D, h1, h2, h3, n, h4, h5⟩
  · exact Or.inl h
  · exact Or.inr ⟨mb, D, h1, h2, h3, n, h4, h5.block (k.block mb h5.lt (by rw [h3]; exact hn))⟩
theorem LsAt.keep {i p : Nat} {L : Ls} {N : Nat} (h : LsAt w tag i p L N) (k : Keep P tag w w') (h2 : ¬ P (2, i)) (h3 : ¬ P (3, i)) (h4 : ¬ P (4, i)) (h5 : ¬ P (5, i)) : LsAt w' tag i p L N := by
  obtain ⟨ar, nr, cr, ac, nc, cc, mv, ht, hb, hu, hc, hm⟩ := h
  exact ⟨ar, nr, cr, ac, nc, cc, mv, ht, hb.keep k (by rw [ht]; exact h2), hu.keep k h3, hc.keep k h5, hm.keep k h4⟩
theorem UT.retag {t : Nat × Nat} {a : Option Addr} {n cap : Nat} {us : List Int} (h : UT w tag t a n cap us) (ht : ∀ b, b < w.heap.size → tag' b = tag b) : UT w tag' t a n cap us := by
  obtain ⟨h1, h2, h3, h4⟩ := h
  refine ⟨h1, h2, h3, fun h0 => ?_⟩
  obtain ⟨g, ha, hg, hb⟩ := h4 h0
  exact ⟨g, ha, by rw [ht g hb.1]; exact hg, hb⟩
theorem CT.retag {t : Nat × Nat} {a : Option Addr} {n cap : Nat} {us : List Cm} (h : CT w tag t a n cap us) (ht : ∀ b, b < w.heap.size → tag' b = tag b) : CT w tag' t a n cap us := by
  obtain ⟨h1, h2, h3, h4⟩ := h
  refine ⟨h1, h2, h3, fun h0 => ?_⟩
  obtain ⟨g, ha, hg, hb⟩ := h4 h0
  exact ⟨g, ha, by rw [ht g hb.1]; exact hg, hb⟩
theorem MT.retag {t : Nat × Nat} {mv : Option Nat} {r : Rec} {N : Nat} (h : MT w tag t mv r N) (ht : ∀ b, b < w.heap.size → tag' b = tag b) : MT w tag' t mv r N := by
  rcases h with h | ⟨mb, D, h1, h2, h3, n, h4, h5⟩
  · exact Or.inl h
  · exact Or.inr ⟨mb, D, h1, h2, by rw [ht mb h5.lt]; exact h3, n, h4, h5⟩
theorem LsAt.retag {i p : Nat} {L : Ls} {N : Nat} (h : LsAt w tag i p L N) (ht : ∀ b, b < w.heap.size → tag' b = tag b) : LsAt w tag' i p L N := by
  obtain ⟨ar, nr, cr, ac, nc, cc, mv, hp, hb, hu, hc, hm⟩ := h
  exact ⟨ar, nr, cr, ac, nc, cc, mv, by rw [ht p hb.1]; exact hp, hb, hu.retag ht, hc.retag ht, hm.retag ht⟩
theorem MT.mono {t : Nat × Nat} {mv : Option Nat} {r : Rec} {N N' : Nat} (h : MT w tag t mv r N) (hN : N ≤ N') : MT w tag t mv r N' := by
  rcases h with h | ⟨mb, D, h1, h2, h3, n, h4, h5⟩
  · exact Or.inl h
  · exact Or.inr ⟨mb, D, h1, h2, h3, n, by omega, h5⟩
theorem LsAt.mono {i p : Nat} {L : Ls} {N N' : Nat} (h : LsAt w tag i p L N) (hN : N ≤ N') : LsAt w tag i p L N' := by
  obtain ⟨ar, nr, cr, ac, nc, cc, mv, hp, hb, hu, hc, hm⟩ := h
  exact ⟨ar, nr, cr, ac, nc, cc, mv, hp, hb, hu, hc, hm.mono hN⟩
theorem owns_lt {B : Nat} {e : TypeId} {sz n : Nat} {v : Value} {xs : List Value} (h : w.ownsRow B e sz v n xs) : ∀ k, v.ownBlock = some k → B ≤ k ∧ k < w.heap.size := World.ownsRow.lt h
theorem owns_keep {B : Nat} {e : TypeId} {sz n : Nat} {v : Value} {xs : List Value} (h : w.ownsRow B e sz v n xs) (k : Keep P tag w w') (hn : ∀ j, v.ownBlock = some j → ¬ P (tag j)) : w'.ownsRow B e sz v n xs := by
  obtain ⟨hl, h | ⟨g, cap, cur, hv, hB, hg, rest⟩⟩ := h
  · exact ⟨hl, Or.inl h⟩
  · refine ⟨hl, Or.inr ⟨g, cap, cur, hv, hB, ?_, rest⟩⟩
    have hlt : g < w.heap.size := by
      rcases Nat.lt_or_ge g w.heap.size with h | h
      · exact h
      · rw [Array.getElem?_eq_none h] at hg; cases hg
    rw [k.block g hlt (hn g (by rw [hv]; rfl))]; exact hg
theorem StateIs.retag {B sp : Nat} {hi tr : Int} {cms : List Cm} {Lss : List Ls} {N : Nat} (h : StateIs w tag B sp hi tr cms Lss N) (ht : ∀ b, b < w.heap.size → tag' b = tag b) (hB : B ≤ w.heap.size) : StateIs w tag' B sp hi tr cms Lss N := by
  obtain ⟨h1, h2, asl, ns, cs, ac, nc, cc, pb, hb, hc, hn, ho, ht1, hL⟩ := h
  refine ⟨fun b hb => by rw [ht b (by omega)]; exact h1 b hb, by rw [ht sp hb.1]; exact h2, asl, ns, cs, ac, nc, cc, pb, hb, hc.retag ht, hn, ho, ?_, fun i hi => (hL i hi).retag ht⟩
  intro k hk
  rw [ht k (owns_lt ho k hk).2]; exact ht1 k hk
/-- Nothing of the state turns. -/
theorem StateIs.keep {B sp : Nat} {hi tr : Int} {cms : List Cm} {Lss : List Ls} {N : Nat} (h : StateIs w tag B sp hi tr cms Lss N) (k : Keep P tag w w') (hp : ∀ t, P t → 7 ≤ t.1) : StateIs w' tag B sp hi tr cms Lss N := by
  obtain ⟨h1, h2, asl, ns, cs, ac, nc, cc, pb, hb, hc, hn, ho, ht1, hL⟩ := h
  have hno : ∀ a b, a < 7 → ¬ P (a, b) := fun a b ha hx => by have := hp _ hx; simp at this; omega
  refine ⟨h1, h2, asl, ns, cs, ac, nc, cc, pb, hb.keep k (by rw [h2]; exact hno _ _ (by omega)), hc.keep k (hno _ _ (by omega)), hn, owns_keep ho k ?_, ht1, fun i hi => (hL i hi).keep k (hno _ _ (by omega)) (hno _ _ (by omega)) (hno _ _ (by omega)) (hno _ _ (by omega))⟩
  intro j hj
  rw [ht1 j hj]; exact hno _ _ (by omega)
theorem StateIs.sp_lt {B sp : Nat} {hi tr : Int} {cms : List Cm} {Lss : List Ls} {N : Nat} (h : StateIs w tag B sp hi tr cms Lss N) : B ≤ sp ∧ sp < w.heap.size := by
  obtain ⟨h1, h2, asl, ns, cs, ac, nc, cc, pb, hb, _⟩ := h
  refine ⟨?_, hb.1⟩
  rcases Nat.lt_or_ge sp B with h | h
  · have := h1 sp h; rw [h2] at this; cases this
  · exact h
theorem UT.us {t : Nat × Nat} {a : Option Addr} {n cap : Nat} {us : List Int} (h : UT w tag t a n cap us) : US w a n cap us := by
  obtain ⟨h1, h2, h3, h4⟩ := h
  refine ⟨h1, h2, h3, fun hn => ?_⟩
  obtain ⟨g, ha, _, hb⟩ := h4 hn
  exact ⟨g, 0, ha, hb.1, fun i hi => by rw [Nat.zero_add]; exact (hb.2 i (by omega)).1⟩
theorem CT.cs {t : Nat × Nat} {a : Option Addr} {n cap : Nat} {zs : List Cm} (h : CT w tag t a n cap zs) : CS w a n cap zs := by
  obtain ⟨h1, h2, h3, h4⟩ := h
  refine ⟨h1, h2, h3, fun hn => ?_⟩
  obtain ⟨g, ha, _, hb⟩ := h4 hn
  exact ⟨g, 0, ha, hb.1, fun i hi => hb.at i (by omega)⟩
end
end Go.Proofs.Qxb6604323a
