import Derived.Test.Qxb6604323aWalksP
namespace Go.Proofs.Qxb6604323a
open Go.ChangeShapes Go.WideShapes Go.ChangeAt Go.RowKit Go.Maps

def ucells (us : List Int) : List Value := us.map (Value.int .u32)
theorem ucells_cells {w : World} {b off n : Nat} {us : List Int} (hl : us.length = n) (hc : ∀ i, i < n → w.cell? ⟨b, off + i, none⟩ = some (.int .u32 (us.getD i 0))) :
    ∀ j u, (ucells us)[j]? = some u → w.cell? ((⟨b, off, none⟩ : Addr).add j) = some u := by
  intro j u hj
  have hjl : j < us.length := by
    rcases Nat.lt_or_ge j us.length with h | h
    · exact h
    · rw [List.getElem?_eq_none (by simpa [ucells] using h)] at hj; cases hj
  rw [add_plain, hc j (by omega)]
  simp [ucells, hjl] at hj
  rw [← hj]
  simp [hjl]
theorem uo_of_owns {w : World} {B n : Nat} {v : Value} {us : List Int} (h : w.ownsRow B 25 1 v (0 + n) ([] ++ ucells us)) (hl : us.length = n) : ∃ a cap, v = .slice a n cap ∧ UO w B a n cap us := by
  rw [Nat.zero_add, List.nil_append] at h
  rcases blk_of_owns h with ⟨hv, h0⟩ | ⟨g, cap, hv, hB, hc, hb⟩
  · subst h0
    exact ⟨none, 0, hv, hl, Nat.le_refl _, fun _ => ⟨rfl, rfl⟩, fun h => absurd h (Nat.lt_irrefl _)⟩
  · refine ⟨_, cap, hv, hl, hc, (fun e => nomatch e), fun _ => ⟨g, rfl, hB, ?_⟩⟩
    unfold UBlk
    rw [hl]
    rw [Nat.mul_one] at hb
    refine hb.congr ?_
    intro j hj
    simp [ucells, show j < us.length by omega]

/-- What LogStream tells of a stream. -/
def PubPost (w : World) (i : Nat) (L : Ls) (nr : Nat) (e : Ending) (w' : World) : Prop :=
  ∃ a' cap', e = .returned (.agg #[.int .u32 ((i : Int) + 1), .slice a' nr cap', .int .u64 L.com, .int .u64 L.trm, .bool L.sld, .bool L.tran]) ∧ UO w' w.heap.size a' nr cap' L.reps ∧ Below w.heap.size w w'

/-- Six cells of a block, none frozen. -/
def Sx (w : World) (b : Nat) (v0 v1 v2 v3 v4 v5 : Value) : Prop :=
  (w.cell? ⟨b, 0, none⟩ = some v0 ∧ w.cell? ⟨b, 1, none⟩ = some v1 ∧ w.cell? ⟨b, 2, none⟩ = some v2 ∧ w.cell? ⟨b, 3, none⟩ = some v3 ∧ w.cell? ⟨b, 4, none⟩ = some v4 ∧ w.cell? ⟨b, 5, none⟩ = some v5) ∧
  (w.frozen? ⟨b, 0, none⟩ = false ∧ w.frozen? ⟨b, 1, none⟩ = false ∧ w.frozen? ⟨b, 2, none⟩ = false ∧ w.frozen? ⟨b, 3, none⟩ = false ∧ w.frozen? ⟨b, 4, none⟩ = false ∧ w.frozen? ⟨b, 5, none⟩ = false)
theorem Sx.made (w : World) (t : TypeId) (v0 v1 v2 v3 v4 v5 : Value) : Sx (w.alloc (.cells #[v0, v1, v2, v3, v4, v5] t)) w.heap.size v0 v1 v2 v3 v4 v5 := by
  unfold Sx; simp
theorem Sx.below {w w' : World} {b : Nat} {v0 v1 v2 v3 v4 v5 : Value} (h : Sx w b v0 v1 v2 v3 v4 v5) (hb : Below w.heap.size w w') (hB : b < w.heap.size) : Sx w' b v0 v1 v2 v3 v4 v5 := by
  have hc := fun o => hb.cell (p := ⟨b, o, none⟩) hB
  have hf := fun o => hb.frozen (p := ⟨b, o, none⟩) hB
  unfold Sx at h ⊢
  simp only [hc, hf]
  exact h

set_option maxHeartbeats 2000000 in
theorem public_walk (w : World) (i p : Nat) (L : Ls) (ar : Option Addr) (nr cr : Nat) (hp : p < w.heap.size) (c0 : w.cell? ⟨p, 0, none⟩ = some (.int .u32 ((i : Int) + 1))) (c1 : w.cell? ⟨p, 1, none⟩ = some (.slice ar nr cr)) (c2 : w.cell? ⟨p, 2, none⟩ = some (.int .u64 L.com)) (c3 : w.cell? ⟨p, 3, none⟩ = some (.int .u64 L.trm)) (c4 : w.cell? ⟨p, 4, none⟩ = some (.bool L.sld)) (c5 : w.cell? ⟨p, 5, none⟩ = some (.bool L.tran))
    (hu : US w ar nr cr L.reps) (hnr : nr ≤ 1048576) :
    Calls Try.prog 41 #[.pointer (some ⟨p, 0, none⟩)] w fun e w' => PubPost w i L nr e w' := by
  obtain ⟨i0, hi, hz0, hz1, hz2⟩ := info_parts info25
  obtain ⟨hl, hcap, hnil, hN⟩ := hu
  have hpn1 : p < w.heap.size + 1 := by omega
  have HNIL := hide hnil
  have HN := hide hN
  clear hnil hN
  cases ar with
  | none =>
    obtain ⟨rfl, rfl⟩ := unhide HNIL rfl
    go_enter Try.func41, Try.ntmps41
    go_wp2_with (at_builtin; refine wpList_append_own_none rfl _ _ 34 rfl w.heap.size 25 i0 1 Try.underlying34 hi _ 0 [] rfl (World.ownsRow_nil _ _ _ _) rfl ?_)
    exact bodyPost_ret (v := .agg #[.int .u32 ((i : Int) + 1), .slice none 0 0, .int .u64 L.com, .int .u64 L.trm, .bool L.sld, .bool L.tran]) (by simp [results, Try.results41, go_sem]) rfl ⟨none, 0, rfl, ⟨hl, Nat.le_refl _, fun _ => ⟨rfl, rfl⟩, fun h => absurd h (Nat.lt_irrefl _)⟩, ((Below.refl _ _).alloc (Nat.le_refl _) _).alloc (by simp) _⟩
  | some ad =>
    clear HNIL
    have hcells : Hid (∀ W, Below w.heap.size w W → ∀ j u, (ucells L.reps)[j]? = some u → W.cell? (ad.add j) = some u) := hide (by
      intro W hW j u hj
      by_cases h0 : 0 < nr
      · obtain ⟨b, off, had, hbw, hcm⟩ := unhide HN h0
        cases had
        exact ucells_cells (n := nr) hl (fun i hi => (hW.cell (p := ⟨b, off + i, none⟩) hbw).trans (hcm i hi)) j u hj
      · have : L.reps = [] := List.length_eq_zero_iff.1 (by omega)
        rw [this] at hj
        simp [ucells] at hj)
    have hul : Hid ((ucells L.reps).length = nr * 1 ∧ ∀ u ∈ ucells L.reps, u.oneCell' = true) := hide ⟨by simp [ucells, hl], by intro u hu; simp [ucells] at hu; obtain ⟨x, _, rfl⟩ := hu; rfl⟩
    clear HN
    go_enter Try.func41, Try.ntmps41
    go_wp2_with (at_builtin; refine wpList_append_own _ rfl _ _ 34 rfl (w.heap.size + 2) 25 i0 _ 1 4 Try.underlying34 hi hz0 hz1 hz2 rfl (by decide) _ 0 [] rfl (World.ownsRow_nil _ _ _ _) ad nr cr (ucells L.reps) rfl (unhide hul).1 (by exact unhide hcells _ (((Below.refl _ _).alloc (Nat.le_refl _) _).alloc (by simp) _)) (unhide hul).2 (by unfold maxLen; omega) (by omega) (by simp) ?_; intro v1 w1 hown1 hgrow1 hnil1; obtain ⟨a', cap', hv, huo⟩ := uo_of_owns hown1 hl; have hbA := (Below.refl _ _).grown hgrow1 (Nat.le_refl _) (fun k h => by cases h); clear hown1 hgrow1 hnil1; subst hv; have hs1 := (Sx.made (w.alloc (.cells #[.int .u32 0, .slice none 0 0, .int .u64 0, .int .u64 0, .bool false, .bool false] 44)) 44 (.int .u32 ((i : Int) + 1)) (.slice (some ad) nr cr) (.int .u64 L.com) (.int .u64 L.trm) (.bool L.sld) (.bool L.tran)).below hbA (by simp); have hs0 := ((Sx.made w 44 (.int .u32 0) (.slice none 0 0) (.int .u64 0) (.int .u64 0) (.bool false) (.bool false)).below ((Below.refl _ _).alloc (Nat.le_refl _) (.cells #[.int .u32 ((i : Int) + 1), .slice (some ad) nr cr, .int .u64 L.com, .int .u64 L.trm, .bool L.sld, .bool L.tran] 44)) (by simp)).below hbA (by simp; omega); have hbw : Below w.heap.size w w1 := (((Below.refl _ _).alloc (Nat.le_refl _) _).alloc (by simp) _).trans (hbA.mono (by simp; omega)); simp only [World.size_alloc] at hs1; obtain ⟨⟨x0, x1, x2, x3, x4, x5⟩, y0, y1, y2, y3, y4, y5⟩ := hs1; obtain ⟨⟨z0, z1, z2, z3, z4, z5⟩, t0, t1, t2, t3, t4, t5⟩ := hs0; have Huo := hide huo; have Hbw := hide hbw; clear huo hbw hbA)
    refine bodyPost_ret (v := .agg #[.int .u32 ((i : Int) + 1), .slice a' nr cap', .int .u64 L.com, .int .u64 L.trm, .bool L.sld, .bool L.tran]) (by simp [results, Try.results41, go_sem, *]) rfl ?_
    refine ⟨a', cap', rfl, ?_, ?_⟩
    · refine UO.mono (B := w.heap.size + 2) ?_ (by omega)
      have h1 : w.heap.size < w.heap.size + 2 := by omega
      have h2 : w.heap.size + 1 < w.heap.size + 2 := by omega
      exact (((((((unhide Huo).other (p := ⟨w.heap.size + 1, 1, none⟩) h2 _).other (p := ⟨w.heap.size, 0, none⟩) h1 _).other (p := ⟨w.heap.size, 1, none⟩) h1 _).other (p := ⟨w.heap.size, 2, none⟩) h1 _).other (p := ⟨w.heap.size, 3, none⟩) h1 _).other (p := ⟨w.heap.size, 4, none⟩) h1 _).other (p := ⟨w.heap.size, 5, none⟩) h1 _
    · exact (((((((unhide Hbw).setCell (p := ⟨w.heap.size + 1, 1, none⟩) (by simp) _).setCell (p := ⟨w.heap.size, 0, none⟩) (Nat.le_refl _) _).setCell (p := ⟨w.heap.size, 1, none⟩) (Nat.le_refl _) _).setCell (p := ⟨w.heap.size, 2, none⟩) (Nat.le_refl _) _).setCell (p := ⟨w.heap.size, 3, none⟩) (Nat.le_refl _) _).setCell (p := ⟨w.heap.size, 4, none⟩) (Nat.le_refl _) _).setCell (p := ⟨w.heap.size, 5, none⟩) (Nat.le_refl _) _
end Go.Proofs.Qxb6604323a
