import Derived.Test.Qxb6604323aWalksL
namespace Go.Proofs.Qxb6604323a
open Go.ChangeShapes Go.WideShapes Go.ChangeAt Go.RowKit

def addTag (tag : Nat → Nat × Nat) (m0 m1 m2 ns : Nat) : Nat → Nat × Nat := fun b =>
  if b < m0 then tag b else if b < m1 then (3, ns) else if b < m2 then (5, ns) else if b = m2 + 1 then (2, ns) else (1, 0)
def rowP : Nat × Nat → Prop := fun t => t = (0, 0) ∨ t = (1, 0)

theorem ptrs_succ (pb : Nat → Nat) (n p : Nat) : ptrs (fun j => if j = n then p else pb j) (n + 1) = ptrs pb n ++ [.pointer (some ⟨p, 0, none⟩)] := by
  unfold ptrs
  rw [List.range_succ, List.map_append]
  congr 1
  · refine List.map_congr_left fun j hj => ?_
    have : ¬ j = n := by have := List.mem_range.1 hj; omega
    simp [this]
  · simp
theorem getD_snoc (Lss : List Ls) (L : Ls) (i : Nat) : (Lss ++ [L]).getD i ls0 = if i < Lss.length then Lss.getD i ls0 else if i = Lss.length then L else ls0 := by
  by_cases h : i < Lss.length
  · rw [if_pos h]; simp [List.getD_eq_getElem?_getD, List.getElem?_append_left h]
  · by_cases e : i = Lss.length
    · subst e; simp
    · simp [h, e, List.getElem?_append_right (show Lss.length ≤ i by omega)]
      have : ¬ i - Lss.length = 0 := by omega
      cases hh : i - Lss.length with
      | zero => omega
      | succ m => simp

def AddOk (w0 : World) (tag : Nat → Nat × Nat) (B sp : Nat) (hi tr : Int) (cms : List Cm) (Lss : List Ls) (N : Nat) (L : Ls) (e : Ending) (w' : World) : Prop :=
  e = .returned (.tuple #[]) ∧ ∃ tag', StateIs w' tag' B sp hi tr cms (Lss ++ [L]) N ∧ (∀ b, b < w0.heap.size → tag' b = tag b) ∧ Keep rowP tag' w0 w'

theorem stateAdd_walk (w0 w : World) (tag : Nat → Nat × Nat) (B sp : Nat) (hi tr : Int) (cms : List Cm) (Lss : List Ls) (N : Nat) (s : St) (ar : Option Addr) (nr cr : Nat) (ac : Option Addr) (nc cc : Nat) (m1 : Nat)
    (h : StateIs w0 tag B sp hi tr cms Lss N) (hb : Below w0.heap.size w0 w) (hm0 : w0.heap.size ≤ m1) (hm1 : m1 ≤ w.heap.size) (hlen : Lss.length ≤ 1048576)
    (hu : UO w w0.heap.size ar nr cr s.reps) (hug : ∀ g, ar = some ⟨g, 0, none⟩ → 0 < nr → g < m1) (hc : CO w m1 ac nc cc s.cms) :
    Calls Try.prog 38 #[.pointer (some ⟨sp, 0, none⟩), .agg #[.int .u32 ((Lss.length : Int) + 1), .slice ar nr cr, .int .u64 s.com, .int .u64 s.trm, .bool s.sld, .bool s.tran], .slice ac nc cc] w
      fun e w' => AddOk w0 tag B sp hi tr cms Lss N s.ls e w' := by
  have hspl := h.sp_lt
  obtain ⟨h1, h2, asl, ns, cs, ac0, nc0, cc0, pb, hblk, hct, hns, hown, ht1, hL⟩ := h
  subst hns
  have hblkw := hblk.below hb hblk.1
  have hspw : sp < w.heap.size := Nat.lt_of_lt_of_le hspl.2 hb.size
  have hrowlt : ∀ k, (Value.slice asl Lss.length cs).ownBlock = some k → k < w0.heap.size := fun k hk => (owns_lt hown k hk).2
  have hrowne : ∀ k, (Value.slice asl Lss.length cs).ownBlock = some k → k ≠ sp := by
    intro k hk e
    have := ht1 k hk
    rw [e, h2] at this
    cases this
  refine (add_walk w B sp asl Lss.length cs (ptrs pb Lss.length) _ _ _ ar nr cr _ _ ac nc cc hspw (by have := hb.size; omega) hlen (hblkw.2 2 (by omega)).1 (hblkw.2 2 (by omega)).2 (owns_below hown hb) hrowne).mono ?_
  rintro e w' ⟨rfl, g1, cap1, w1, rfl, hown1, hgrow, hat⟩
  have hbA : Below w.heap.size w (addW w ((Lss.length : Int) + 1) s.com s.trm ar nr cr s.sld s.tran ac nc cc) := (((Below.refl _ _).alloc (Nat.le_refl _) _).alloc (by simp) _).alloc (by simp; omega) _
  have hsA : (addW w ((Lss.length : Int) + 1) s.com s.trm ar nr cr s.sld s.tran ac nc cc).heap.size = w.heap.size + 3 := by simp [addW]
  have hpA : Blk (addW w ((Lss.length : Int) + 1) s.com s.trm ar nr cr s.sld s.tran ac nc cc) (w.heap.size + 1) 8 (lsCells Lss.length s.ls ar nr cr ac nc cc none) := by
    refine ⟨by rw [hsA]; omega, fun j hj => ?_⟩
    unfold addW
    rw [World.cell?_alloc_past (hn := by simp), World.frozen?_alloc_past (hn := by simp), World.cell?_alloc_at (hn := by simp), World.frozen?_alloc_at (hn := by simp)]
    refine ⟨?_, rfl⟩
    match j, hj with
    | 0, _ => rfl
    | 1, _ => rfl
    | 2, _ => rfl
    | 3, _ => rfl
    | 4, _ => rfl
    | 5, _ => rfl
    | 6, _ => rfl
    | 7, _ => rfl
  generalize addW w ((Lss.length : Int) + 1) s.com s.trm ar nr cr s.sld s.tran ac nc cc = WA at *
  have htag : ∀ b, b < w0.heap.size → addTag tag w0.heap.size m1 w.heap.size Lss.length b = tag b := fun b hb => by simp [addTag, hb]
  have hsz0 := hb.size
  have tagp : addTag tag w0.heap.size m1 w.heap.size Lss.length (w.heap.size + 1) = (2, Lss.length) := by
    unfold addTag; rw [if_neg (by omega), if_neg (by omega), if_neg (by omega), if_pos rfl]
  have tagg : addTag tag w0.heap.size m1 w.heap.size Lss.length g1 = (1, 0) := by
    rcases hat with hat | hat
    · rw [htag g1 (hrowlt g1 hat)]; exact ht1 g1 hat
    · unfold addTag; rw [if_neg (by omega), if_neg (by omega), if_neg (by omega), if_neg (by omega)]
  have tagsp : addTag tag w0.heap.size m1 w.heap.size Lss.length sp = (0, 0) := by rw [htag sp hspl.2]; exact h2
  generalize hT : addTag tag w0.heap.size m1 w.heap.size Lss.length = T at *
  have hrowT : ∀ k, (Value.slice asl Lss.length cs).ownBlock = some k → rowP (T k) := fun k hk => Or.inr (by rw [htag k (hrowlt k hk)]; exact ht1 k hk)
  have kA : ∀ P : Nat × Nat → Prop, Keep P T w WA := fun P => Keep.of_below hbA
  have k1 : Keep rowP T w w1 := (kA rowP).grown hgrow hrowT
  have k2 : Keep rowP T w (w1.setCell ⟨sp, 2, none⟩ (.slice (some ⟨g1, 0, none⟩) (Lss.length + 1) cap1)) := k1.setCell (p := ⟨sp, 2, none⟩) (Or.inl tagsp) _
  have k0 : Keep rowP T w0 (w1.setCell ⟨sp, 2, none⟩ (.slice (some ⟨g1, 0, none⟩) (Lss.length + 1) cap1)) := (Keep.of_below hb).trans k2
  have n2 : ∀ a b, 2 ≤ a → ¬ rowP (a, b) := by
    intro a b ha hx
    rcases hx with hx | hx <;> (cases hx; omega)
  have kS : Keep (fun t => t = (0, 0)) T w1 (w1.setCell ⟨sp, 2, none⟩ (.slice (some ⟨g1, 0, none⟩) (Lss.length + 1) cap1)) := (Keep.refl _ _ _).setCell (p := ⟨sp, 2, none⟩) tagsp _
  refine ⟨rfl, T, ⟨fun b hb => by rw [htag b (by omega)]; exact h1 b hb, tagsp, some ⟨g1, 0, none⟩, Lss.length + 1, cap1, ac0, nc0, cc0, fun j => if j = Lss.length then w.heap.size + 1 else pb j, ?_, (hct.retag htag).keep k0 (n2 _ _ (by omega)), by simp, ?_, ?_, ?_⟩, htag, k0⟩
  · have hb1 : Blk w1 sp 4 (stCells hi tr asl Lss.length cs ac0 nc0 cc0) := by
      have hbW := hblkw.below hbA hspw
      refine ⟨by have := hgrow.size; omega, fun j hj => ?_⟩
      have hne : some sp ≠ (Value.slice asl Lss.length cs).ownBlock := fun e => hrowne sp e.symm rfl
      exact ⟨(hgrow.cell_far ⟨sp, j, none⟩ (by show sp < _; omega) hne).trans (hbW.2 j hj).1, (hgrow.frozen_far ⟨sp, j, none⟩ (by show sp < _; omega) hne).trans (hbW.2 j hj).2⟩
    refine (hb1.set 2 (by omega) _).congr ?_
    intro j hj
    match j, hj with
    | 0, _ => rfl
    | 1, _ => rfl
    | 2, _ => rfl
    | 3, _ => rfl
  · rw [ptrs_succ]
    refine owns_keep hown1 kS ?_
    intro j hj
    have : j = g1 := by simpa [Value.ownBlock] using hj.symm
    rw [this, tagg]
    intro h; cases h
  · intro k hk
    have : k = g1 := by simpa [Value.ownBlock] using hk.symm
    rw [this]; exact tagg
  · intro i hi
    rw [getD_snoc]
    by_cases e : i = Lss.length
    · subst e
      rw [if_neg (by omega), if_pos rfl]
      simp only [if_true]
      refine ⟨ar, nr, cr, ac, nc, cc, none, tagp, ?_, ?_, ?_, Or.inl ⟨rfl, rfl⟩⟩
      · have kP : Keep rowP T WA (w1.setCell ⟨sp, 2, none⟩ (.slice (some ⟨g1, 0, none⟩) (Lss.length + 1) cap1)) := ((Keep.refl _ _ _).grown hgrow hrowT).setCell (p := ⟨sp, 2, none⟩) (Or.inl tagsp) _
        exact hpA.keep kP (by rw [tagp]; exact n2 _ _ (by omega))
      · obtain ⟨u1, u2, u3, u4⟩ := hu
        refine ⟨u1, u2, u3, fun h0 => ?_⟩
        obtain ⟨g, ha, hg, hbk⟩ := u4 h0
        have hlt := hug g ha h0
        have tg : T g = (3, Lss.length) := by rw [← hT]; unfold addTag; rw [if_neg (by omega), if_pos hlt]
        exact ⟨g, ha, tg, Blk.keep hbk k2 (by rw [tg]; exact n2 _ _ (by omega))⟩
      · obtain ⟨u1, u2, ⟨rfl, u3, u4⟩ | ⟨g, ha, hg, hbk⟩⟩ := hc
        · exact ⟨u1, u2, fun _ => ⟨u3, u4⟩, fun h0 => absurd h0 (by omega)⟩
        · refine ⟨u1, u2, (fun e => by rw [ha] at e; cases e), fun h0 => ⟨g, ha, ?_, ?_⟩⟩
          · rw [← hT]; unfold addTag; rw [if_neg (by omega), if_neg (by omega), if_pos hbk.1]
          · have tg : T g = (5, Lss.length) := by rw [← hT]; unfold addTag; rw [if_neg (by omega), if_neg (by omega), if_pos hbk.1]
            exact Blk.keep hbk k2 (by rw [tg]; exact n2 _ _ (by omega))
    · rw [if_pos (by omega)]
      simp only [if_neg e]
      exact ((hL i (by omega)).retag htag).keep k0 (n2 _ _ (by omega)) (n2 _ _ (by omega)) (n2 _ _ (by omega)) (n2 _ _ (by omega))
end Go.Proofs.Qxb6604323a
