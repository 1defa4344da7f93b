import Derived.Test.Qxb6604323aWalksI
namespace Go.Proofs.Qxb6604323a
open Go.ChangeShapes Go.WideShapes Go.ChangeAt Go.RowKit
attribute [local go_sem] nil23 nil24

set_option maxHeartbeats 1000000 in
theorem cloneO_walk (a : Option Addr) (n cap : Nat) (zs : List Cm) (w : World) (hn : n ≤ 1048576) (h : CS w a n cap zs) :
    Calls Try.prog 10 #[.slice a n cap] w fun e w' => ∃ a', e = .returned (.slice a' n n) ∧ CO w' w.heap.size a' n n zs ∧ Below w.heap.size w w' := by
  obtain ⟨hl, hcap, hnil, hN⟩ := h
  obtain ⟨i0, hi, hz0, hz1, hz2⟩ := info_parts info68
  cases a with
  | none =>
    obtain ⟨rfl, rfl⟩ := hnil rfl
    have hzs : zs = [] := List.length_eq_zero_iff.1 hl
    subst hzs
    go_enter Try.func10, Try.ntmps10
    go_wp2
    go_ret
    exact ⟨none, rfl, ⟨rfl, Nat.le_refl _, Or.inl ⟨rfl, rfl, rfl⟩⟩, Below.refl _ _⟩
  | some ad =>
    clear hnil
    have HN := hide hN
    clear hN
    go_enter Try.func10, Try.ntmps10
    go_wp2_with (at_make; refine wpList_make_full _ rfl _ _ 23 rfl w.heap.size 68 i0 _ 5 Try.underlying23 hi hz0 hz1 _ _ _ _ n rfl rfl rfl rfl (by rw [hz2]; omega) (by unfold maxLen; omega) (Nat.le_refl _) ?_; intro w1 hown1 hgrow1)
    have hb1 : Below w.heap.size w w1 := (Below.refl _ _).grown hgrow1 (Nat.le_refl _) (fun k h => by cases h)
    rcases blk_of_owns hown1 with ⟨hv, _⟩ | ⟨g, cap1, hv, _, _, hB1⟩
    · cases hv
    cases hv
    clear hown1 hgrow1
    go_loopw [4] (fun i wr => ∃ k : Nat, k ≤ n ∧ i = .int .i64 k ∧ Below w.heap.size w wr ∧ ∃ f, Blk wr w.heap.size (n * 5) f ∧ Hid (∀ j, j < k * 5 → f j = (flat zs).getD j undef)) (fun i _ => n - (intOf i).toNat)
    case atStart => exact ⟨0, Nat.zero_le _, rfl, hb1, _, hB1, hide (fun j hj => absurd hj (by omega))⟩
    case round =>
      obtain ⟨k, hk, rfl, hbel, f, hB, hf⟩ := hrel
      clear hb1 hB1
      by_cases hlt : k < n
      · obtain ⟨b, off, had, hbw, hcm⟩ := unhide HN (by omega)
        cases had
        obtain ⟨g0, g1, g2, g3, g4⟩ := (hcm k hlt).below hbel hbw
        obtain ⟨f', hB', hf'⟩ := put5_blk hB k (by omega) zs (by omega) (unhide hf)
        obtain ⟨x0, e0, f0⟩ := hB.facts (k * 5) (by omega)
        obtain ⟨x1, e1, f1⟩ := hB.facts (k * 5 + 1) (by omega)
        obtain ⟨x2, e2, f2⟩ := hB.facts (k * 5 + 2) (by omega)
        obtain ⟨x3, e3, f3⟩ := hB.facts (k * 5 + 3) (by omega)
        obtain ⟨x4, e4, f4⟩ := hB.facts (k * 5 + 4) (by omega)
        have hb2 := put5_below (o := k * 5) (c := zs.getD k cm0) hbel (Nat.le_refl w.heap.size)
        unfold put5 at hB' hb2
        generalize zs.getD k cm0 = c at *
        have HB' := hide hB'
        have Hb2 := hide hb2
        have Hf' := hide hf'
        clear hcm hB hB' hb2 hf' hbel HN hf
        go_wp2
        go_roundw
        case rel => exact ⟨k + 1, by omega, by go_num, unhide Hb2, f', unhide HB', Hf'⟩
        case measure => simp [intOf]; omega
      · have hkn : k = n := by omega
        subst hkn
        have hcs : CO wr w.heap.size (some ⟨w.heap.size, 0, none⟩) k k zs := by
          refine ⟨hl, Nat.le_refl _, Or.inr ⟨_, rfl, Nat.le_refl _, ?_⟩⟩
          subst hl
          exact cblk_full hB (unhide hf)
        go_wp2
        go_ret
        exact ⟨_, rfl, hcs, hbel⟩

set_option maxHeartbeats 1000000 in
theorem toCutO_walk (a : Option Addr) (n cap : Nat) (zs : List Cm) (w : World) (hn : n ≤ 1048576) (h : CS w a n cap zs) :
    Calls Try.prog 20 #[.slice a n cap] w fun e w' => ∃ a', e = .returned (.slice a' n n) ∧ CO w' w.heap.size a' n n zs ∧ Below w.heap.size w w' := by
  obtain ⟨hl, hcap, hnil, hN⟩ := h
  obtain ⟨i0, hi, hz0, hz1, hz2⟩ := info_parts info64
  cases a with
  | none =>
    obtain ⟨rfl, rfl⟩ := hnil rfl
    have hzs : zs = [] := List.length_eq_zero_iff.1 hl
    subst hzs
    go_enter Try.func20, Try.ntmps20
    go_wp2
    go_ret
    exact ⟨none, rfl, ⟨rfl, Nat.le_refl _, Or.inl ⟨rfl, rfl, rfl⟩⟩, Below.refl _ _⟩
  | some ad =>
    clear hnil
    have HN := hide hN
    clear hN
    go_enter Try.func20, Try.ntmps20
    go_wp2_with (at_make; refine wpList_make_full _ rfl _ _ 40 rfl w.heap.size 64 i0 _ 5 Try.underlying40 hi hz0 hz1 _ _ _ _ n rfl rfl rfl rfl (by rw [hz2]; omega) (by unfold maxLen; omega) (Nat.le_refl _) ?_; intro w1 hown1 hgrow1)
    have hb1 : Below w.heap.size w w1 := (Below.refl _ _).grown hgrow1 (Nat.le_refl _) (fun k h => by cases h)
    rcases blk_of_owns hown1 with ⟨hv, _⟩ | ⟨g, cap1, hv, _, _, hB1⟩
    · cases hv
    cases hv
    clear hown1 hgrow1
    go_loopw [4] (fun i wr => ∃ k : Nat, k ≤ n ∧ i = .int .i64 k ∧ Below w.heap.size w wr ∧ ∃ f, Blk wr w.heap.size (n * 5) f ∧ Hid (∀ j, j < k * 5 → f j = (flat zs).getD j undef)) (fun i _ => n - (intOf i).toNat)
    case atStart => exact ⟨0, Nat.zero_le _, rfl, hb1, _, hB1, hide (fun j hj => absurd hj (by omega))⟩
    case round =>
      obtain ⟨k, hk, rfl, hbel, f, hB, hf⟩ := hrel
      clear hb1 hB1
      by_cases hlt : k < n
      · obtain ⟨b, off, had, hbw, hcm⟩ := unhide HN (by omega)
        cases had
        obtain ⟨g0, g1, g2, g3, g4⟩ := (hcm k hlt).below hbel hbw
        generalize hc : zs.getD k cm0 = c at *
        have HC := hide hc
        have Hbel := hide hbel
        clear hcm HN hc hbel
        go_wp2_with fail
        refine (toCutCommit_walk _ _ _ _ _ _).mono ?_
        rintro e w2 ⟨rfl, hb3⟩
        have hB3 := hB.below hb3 hB.1
        obtain ⟨f', hB', hf'⟩ := put5_blk hB3 k (by omega) zs (by omega) (unhide hf)
        obtain ⟨x0, e0, f0⟩ := hB3.facts (k * 5) (by omega)
        obtain ⟨x1, e1, f1⟩ := hB3.facts (k * 5 + 1) (by omega)
        obtain ⟨x2, e2, f2⟩ := hB3.facts (k * 5 + 2) (by omega)
        obtain ⟨x3, e3, f3⟩ := hB3.facts (k * 5 + 3) (by omega)
        obtain ⟨x4, e4, f4⟩ := hB3.facts (k * 5 + 4) (by omega)
        have hb2 := put5_below (o := k * 5) (c := zs.getD k cm0) ((unhide Hbel).trans (hb3.mono (unhide Hbel).size)) (Nat.le_refl w.heap.size)
        rw [unhide HC] at hB' hb2
        unfold put5 at hB' hb2
        have HB' := hide hB'
        have Hb2 := hide hb2
        have Hf' := hide hf'
        clear hB hB' hb2 hf' hf hb3 hB3 g0 g1 g2 g3 g4
        go_wp2
        go_roundw
        case rel => exact ⟨k + 1, by omega, by go_num, unhide Hb2, f', unhide HB', Hf'⟩
        case measure => simp [intOf]; omega
      · have hkn : k = n := by omega
        subst hkn
        have hcs : CO wr w.heap.size (some ⟨w.heap.size, 0, none⟩) k k zs := by
          refine ⟨hl, Nat.le_refl _, Or.inr ⟨_, rfl, Nat.le_refl _, ?_⟩⟩
          subst hl
          exact cblk_full hB (unhide hf)
        go_wp2
        go_ret
        exact ⟨_, rfl, hcs, hbel⟩


theorem UO.below {w w' : World} {B : Nat} {a : Option Addr} {n cap : Nat} {us : List Int} (h : UO w B a n cap us) (hb : Below w.heap.size w w') : UO w' B a n cap us := by
  obtain ⟨h1, h2, h3, h4⟩ := h
  refine ⟨h1, h2, h3, fun hn => ?_⟩
  obtain ⟨g, ha, hB, hu⟩ := h4 hn
  exact ⟨g, ha, hB, Blk.below hu hb hu.1⟩
theorem UO.mono {w : World} {B B' : Nat} {a : Option Addr} {n cap : Nat} {us : List Int} (h : UO w B a n cap us) (hB : B' ≤ B) : UO w B' a n cap us := by
  obtain ⟨h1, h2, h3, h4⟩ := h
  refine ⟨h1, h2, h3, fun hn => ?_⟩
  obtain ⟨g, ha, hg, hu⟩ := h4 hn
  exact ⟨g, ha, by omega, hu⟩
theorem UO.other {w : World} {B : Nat} {a : Option Addr} {n cap : Nat} {us : List Int} (h : UO w B a n cap us) {p : Addr} (hp : p.block < B) (v : Value) : UO (w.setCell p v) B a n cap us := by
  obtain ⟨h1, h2, h3, h4⟩ := h
  refine ⟨h1, h2, h3, fun hn => ?_⟩
  obtain ⟨g, ha, hB, hu⟩ := h4 hn
  exact ⟨g, ha, hB, Blk.other hu (by omega) v⟩
theorem CO.below {w w' : World} {B : Nat} {a : Option Addr} {n cap : Nat} {zs : List Cm} (h : CO w B a n cap zs) (hb : Below w.heap.size w w') : CO w' B a n cap zs := by
  obtain ⟨h1, h2, h | ⟨g, ha, hB, hu⟩⟩ := h
  · exact ⟨h1, h2, Or.inl h⟩
  · exact ⟨h1, h2, Or.inr ⟨g, ha, hB, Blk.below hu hb hu.1⟩⟩
theorem CO.mono {w : World} {B B' : Nat} {a : Option Addr} {n cap : Nat} {zs : List Cm} (h : CO w B a n cap zs) (hB : B' ≤ B) : CO w B' a n cap zs := by
  obtain ⟨h1, h2, h | ⟨g, ha, hg, hu⟩⟩ := h
  · exact ⟨h1, h2, Or.inl h⟩
  · exact ⟨h1, h2, Or.inr ⟨g, ha, by omega, hu⟩⟩
theorem CO.other {w : World} {B : Nat} {a : Option Addr} {n cap : Nat} {zs : List Cm} (h : CO w B a n cap zs) {p : Addr} (hp : p.block < B) (v : Value) : CO (w.setCell p v) B a n cap zs := by
  obtain ⟨h1, h2, h | ⟨g, ha, hB, hu⟩⟩ := h
  · exact ⟨h1, h2, Or.inl h⟩
  · exact ⟨h1, h2, Or.inr ⟨g, ha, hB, Blk.other hu (by omega) v⟩⟩

/-- A stream in memory of the call's own: its cells in block b, what it leads to from block B on. -/
def StO (w : World) (B b o : Nat) (s : St) : Prop := ∃ ar nr ac nc, w.cell? ⟨b, o, none⟩ = some (.slice ar nr nr) ∧ w.cell? ⟨b, o + 1, none⟩ = some (.int .u64 s.com) ∧ w.cell? ⟨b, o + 2, none⟩ = some (.int .u64 s.trm) ∧
  w.cell? ⟨b, o + 3, none⟩ = some (.bool s.sld) ∧ w.cell? ⟨b, o + 4, none⟩ = some (.bool s.tran) ∧ w.cell? ⟨b, o + 5, none⟩ = some (.slice ac nc nc) ∧ UO w B ar nr nr s.reps ∧ CO w B ac nc nc s.cms
theorem StO.below {w w' : World} {B b o : Nat} {s : St} (h : StO w B b o s) (hb : Below w.heap.size w w') (hB : b < w.heap.size) : StO w' B b o s := by
  obtain ⟨ar, nr, ac, nc, h0, h1, h2, h3, h4, h5, h6, h7⟩ := h
  have hc := fun o => hb.cell (p := ⟨b, o, none⟩) hB
  exact ⟨ar, nr, ac, nc, (hc _).trans h0, (hc _).trans h1, (hc _).trans h2, (hc _).trans h3, (hc _).trans h4, (hc _).trans h5, h6.below hb, h7.below hb⟩
theorem StO.other {w : World} {B b o : Nat} {s : St} (h : StO w B b o s) {x : Nat} (hx : x < o ∨ o + 6 ≤ x) (hbB : b < B) (v : Value) : StO (w.setCell ⟨b, x, none⟩ v) B b o s := by
  obtain ⟨ar, nr, ac, nc, h0, h1, h2, h3, h4, h5, h6, h7⟩ := h
  have hc : ∀ y, ¬ x = y → (w.setCell ⟨b, x, none⟩ v).cell? ⟨b, y, none⟩ = w.cell? ⟨b, y, none⟩ := fun y hy => World.cell?_setCell_other w _ _ v (fun e => hy (congrArg Addr.off e))
  exact ⟨ar, nr, ac, nc, (hc _ (by omega)).trans h0, (hc _ (by omega)).trans h1, (hc _ (by omega)).trans h2, (hc _ (by omega)).trans h3, (hc _ (by omega)).trans h4, (hc _ (by omega)).trans h5, h6.other hbB v, h7.other hbB v⟩
def put6 (w : World) (g o : Nat) (v0 v1 v2 v3 v4 v5 : Value) : World :=
  (((((w.setCell ⟨g, o, none⟩ v0).setCell ⟨g, o + 1, none⟩ v1).setCell ⟨g, o + 2, none⟩ v2).setCell ⟨g, o + 3, none⟩ v3).setCell ⟨g, o + 4, none⟩ v4).setCell ⟨g, o + 5, none⟩ v5
theorem put6_blk {w : World} {g N : Nat} {f : Nat → Value} (h : Blk w g N f) (o : Nat) (ho : o + 6 ≤ N) (v0 v1 v2 v3 v4 v5 : Value) : ∃ f', Blk (put6 w g o v0 v1 v2 v3 v4 v5) g N f' ∧ f' o = v0 ∧ f' (o + 1) = v1 ∧ f' (o + 2) = v2 ∧ f' (o + 3) = v3 ∧ f' (o + 4) = v4 ∧ f' (o + 5) = v5 :=
  ⟨_, (((((h.set o (by omega) _).set (o + 1) (by omega) _).set (o + 2) (by omega) _).set (o + 3) (by omega) _).set (o + 4) (by omega) _).set (o + 5) (by omega) _, by simp, by simp, by simp, by simp, by simp, by simp⟩
theorem put6_other {w : World} {B g o k : Nat} {s : St} (h : StO w B g o s) (hx : k + 6 ≤ o ∨ o + 6 ≤ k) (hg : g < B) (v0 v1 v2 v3 v4 v5 : Value) : StO (put6 w g k v0 v1 v2 v3 v4 v5) B g o s :=
  (((((h.other (by omega) hg _).other (by omega) hg _).other (by omega) hg _).other (by omega) hg _).other (by omega) hg _).other (by omega) hg _
theorem put6_below {B : Nat} {w0 w : World} {g o : Nat} {v0 v1 v2 v3 v4 v5 : Value} (h : Below B w0 w) (hg : B ≤ g) : Below B w0 (put6 w g o v0 v1 v2 v3 v4 v5) :=
  (((((h.setCell hg _).setCell hg _).setCell hg _).setCell hg _).setCell hg _).setCell hg _
theorem put6_uo {w : World} {B : Nat} {a : Option Addr} {n cap : Nat} {us : List Int} (h : UO w B a n cap us) {g o : Nat} (hg : g < B) (v0 v1 v2 v3 v4 v5 : Value) : UO (put6 w g o v0 v1 v2 v3 v4 v5) B a n cap us :=
  (((((h.other (p := ⟨g, _, none⟩) hg _).other (p := ⟨g, _, none⟩) hg _).other (p := ⟨g, _, none⟩) hg _).other (p := ⟨g, _, none⟩) hg _).other (p := ⟨g, _, none⟩) hg _).other (p := ⟨g, _, none⟩) hg _
theorem put6_co {w : World} {B : Nat} {a : Option Addr} {n cap : Nat} {us : List Cm} (h : CO w B a n cap us) {g o : Nat} (hg : g < B) (v0 v1 v2 v3 v4 v5 : Value) : CO (put6 w g o v0 v1 v2 v3 v4 v5) B a n cap us :=
  (((((h.other (p := ⟨g, _, none⟩) hg _).other (p := ⟨g, _, none⟩) hg _).other (p := ⟨g, _, none⟩) hg _).other (p := ⟨g, _, none⟩) hg _).other (p := ⟨g, _, none⟩) hg _).other (p := ⟨g, _, none⟩) hg _
theorem put6_new {w : World} {B g N : Nat} {f : Nat → Value} (h : Blk w g N f) (o : Nat) (ho : o + 6 ≤ N) (hg : g < B) (s : St) {ar : Option Addr} {nr : Nat} {ac : Option Addr} {nc : Nat} (hu : UO w B ar nr nr s.reps) (hc : CO w B ac nc nc s.cms) :
    StO (put6 w g o (.slice ar nr nr) (.int .u64 s.com) (.int .u64 s.trm) (.bool s.sld) (.bool s.tran) (.slice ac nc nc)) B g o s := by
  obtain ⟨f', hB, e0, e1, e2, e3, e4, e5⟩ := put6_blk h o ho (.slice ar nr nr) (.int .u64 s.com) (.int .u64 s.trm) (.bool s.sld) (.bool s.tran) (.slice ac nc nc)
  refine ⟨ar, nr, ac, nc, ?_, ?_, ?_, ?_, ?_, ?_, put6_uo hu hg _ _ _ _ _ _, put6_co hc hg _ _ _ _ _ _⟩
  · exact (hB.2 _ (by omega)).1.trans (congrArg some e0)
  · exact (hB.2 _ (by omega)).1.trans (congrArg some e1)
  · exact (hB.2 _ (by omega)).1.trans (congrArg some e2)
  · exact (hB.2 _ (by omega)).1.trans (congrArg some e3)
  · exact (hB.2 _ (by omega)).1.trans (congrArg some e4)
  · exact (hB.2 _ (by omega)).1.trans (congrArg some e5)
theorem StO.at {w : World} {B b o : Nat} {s : St} (h : StO w B b o s) : ∃ ar nr cr ac nc cc, StAt w b o s ar nr cr ac nc cc := by
  obtain ⟨ar, nr, ac, nc, h0, h1, h2, h3, h4, h5, h6, h7⟩ := h
  exact ⟨ar, nr, nr, ac, nc, nc, h0, h1, h2, h3, h4, h5, h6.us, h7.cs⟩
end Go.Proofs.Qxb6604323a
