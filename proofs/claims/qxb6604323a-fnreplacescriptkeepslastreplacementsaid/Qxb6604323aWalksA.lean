import Derived.Test.Qxb6604323aBase
namespace Go.Proofs.Qxb6604323a
open Go.ChangeShapes Go.WideShapes Go.ChangeAt Go.RowKit
attribute [local go_sem] nil23

def Cm.val (c : Cm) : Value := .agg #[.int .u32 c.id, .int .u64 c.first, .int .u64 c.count, .int .u64 c.hw, .int .u64 c.prev]

theorem toCutCommit_walk (a b c d e : Int) (w : World) :
    Calls Try.prog 40 #[.agg #[.int .u32 a, .int .u64 b, .int .u64 c, .int .u64 d, .int .u64 e]] w fun r w' => r = .returned (.agg #[.int .u32 a, .int .u64 b, .int .u64 c, .int .u64 d, .int .u64 e]) ∧ Below w.heap.size w w' := by
  go_enter Try.func40, Try.ntmps40
  go_wp2
  exact bodyPost_ret (v := .agg #[.int .u32 a, .int .u64 b, .int .u64 c, .int .u64 d, .int .u64 e]) (by simp [results, Try.results40, go_sem]) rfl ⟨rfl, ((Below.refl _ _).alloc (Nat.le_refl _) _).alloc (by simp) _⟩

/-- Five stores that lay the commit c at element k. -/
def put5 (w : World) (g o : Nat) (c : Cm) : World :=
  ((((w.setCell ⟨g, o, none⟩ (.int .u32 c.id)).setCell ⟨g, o + 1, none⟩ (.int .u64 c.first)).setCell ⟨g, o + 2, none⟩ (.int .u64 c.count)).setCell ⟨g, o + 3, none⟩ (.int .u64 c.hw)).setCell ⟨g, o + 4, none⟩ (.int .u64 c.prev)

theorem put5_blk {w : World} {g N : Nat} {f : Nat → Value} (h : Blk w g N f) (k : Nat) (hk : k * 5 + 5 ≤ N) (zs : List Cm) (hkz : k < zs.length)
    (hf : ∀ j, j < k * 5 → f j = (flat zs).getD j undef) :
    ∃ f', Blk (put5 w g (k * 5) (zs.getD k cm0)) g N f' ∧ ∀ j, j < (k + 1) * 5 → f' j = (flat zs).getD j undef := by
  refine ⟨_, ((((h.set (k * 5) (by omega) _).set (k * 5 + 1) (by omega) _).set (k * 5 + 2) (by omega) _).set (k * 5 + 3) (by omega) _).set (k * 5 + 4) (by omega) _, ?_⟩
  intro j hj
  have key : ∀ t, t < 5 → (flat zs).getD (k * 5 + t) undef = (zs.getD k cm0).cells.getD t undef := by
    intro t ht
    rw [List.getD_eq_getElem?_getD, flat_at zs k hkz t ht, ← List.getD_eq_getElem?_getD (l := (zs.getD k cm0).cells)]
  by_cases h4 : j = k * 5 + 4
  · subst h4; rw [key 4 (by omega)]; simp [Cm.cells]
  by_cases h3 : j = k * 5 + 3
  · subst h3; rw [key 3 (by omega)]; simp [Cm.cells]
  by_cases h2 : j = k * 5 + 2
  · subst h2; rw [key 2 (by omega)]; simp [Cm.cells]
  by_cases h1 : j = k * 5 + 1
  · subst h1; rw [key 1 (by omega)]; simp [Cm.cells]
  by_cases h0 : j = k * 5
  · subst h0; have := key 0 (by omega); rw [Nat.add_zero] at this; rw [this]; simp [Cm.cells]
  · simp only [if_neg h4, if_neg h3, if_neg h2, if_neg h1, if_neg h0]
    exact hf j (by omega)
theorem put5_below {B : Nat} {w0 w : World} {g o : Nat} {c : Cm} (h : Below B w0 w) (hg : B ≤ g) : Below B w0 (put5 w g o c) :=
  ((((h.setCell hg _).setCell hg _).setCell hg _).setCell hg _).setCell hg _
theorem Blk.facts {w : World} {g N : Nat} {f : Nat → Value} (h : Blk w g N f) (j : Nat) (hj : j < N) : ∃ x, w.cell? ⟨g, j, none⟩ = some x ∧ w.frozen? ⟨g, j, none⟩ = false := ⟨_, (h.2 j hj).1, (h.2 j hj).2⟩
theorem cblk_full {w : World} {g : Nat} {zs : List Cm} {f : Nat → Value} (h : Blk w g (zs.length * 5) f) (hf : ∀ j, j < zs.length * 5 → f j = (flat zs).getD j undef) : CBlk w g zs := h.congr hf

set_option maxHeartbeats 1000000 in
theorem clone_walk (a : Option Addr) (n cap : Nat) (zs : List Cm) (w : World) (hn : n ≤ 1048576) (h : CS w a n cap zs) :
    Calls Try.prog 10 #[.slice a n cap] w fun e w' => ∃ a', e = .returned (.slice a' n n) ∧ CS w' a' n n zs ∧ Below w.heap.size w w' := by
  obtain ⟨hl, hcap, hnil, hN⟩ := h
  obtain ⟨i0, hi, hz0, hz1, hz2⟩ := info_parts info68
  cases a with
  | none =>
    obtain ⟨rfl, rfl⟩ := hnil rfl
    have hzs : zs = [] := List.length_eq_zero_iff.1 hl
    subst hzs
    go_enter Try.func10, Try.ntmps10
    go_wp2
    go_ret
    exact ⟨none, rfl, CS.nil _, Below.refl _ _⟩
  | some ad =>
    clear hnil
    have HN := hide hN
    clear hN
    go_enter Try.func10, Try.ntmps10
    go_wp2_with (at_make; refine wpList_make_full _ rfl _ _ 23 rfl w.heap.size 68 i0 _ 5 Try.underlying23 hi hz0 hz1 _ _ _ _ n rfl rfl rfl rfl (by rw [hz2]; omega) (by unfold maxLen; omega) (Nat.le_refl _) ?_; intro w1 hown1 hgrow1)
    have hb1 : Below w.heap.size w w1 := (Below.refl _ _).grown hgrow1 (Nat.le_refl _) (fun k h => by cases h)
    rcases blk_of_owns hown1 with ⟨hv, _⟩ | ⟨g, cap1, hv, _, _, hB1⟩
    · cases hv
    cases hv
    clear hown1 hgrow1
    go_loopw [4] (fun i wr => ∃ k : Nat, k ≤ n ∧ i = .int .i64 k ∧ Below w.heap.size w wr ∧ ∃ f, Blk wr w.heap.size (n * 5) f ∧ Hid (∀ j, j < k * 5 → f j = (flat zs).getD j undef)) (fun i _ => n - (intOf i).toNat)
    case atStart => exact ⟨0, Nat.zero_le _, rfl, hb1, _, hB1, hide (fun j hj => absurd hj (by omega))⟩
    case round =>
      obtain ⟨k, hk, rfl, hbel, f, hB, hf⟩ := hrel
      clear hb1 hB1
      by_cases hlt : k < n
      · obtain ⟨b, off, had, hbw, hcm⟩ := unhide HN (by omega)
        cases had
        obtain ⟨g0, g1, g2, g3, g4⟩ := (hcm k hlt).below hbel hbw
        obtain ⟨f', hB', hf'⟩ := put5_blk hB k (by omega) zs (by omega) (unhide hf)
        obtain ⟨x0, e0, f0⟩ := hB.facts (k * 5) (by omega)
        obtain ⟨x1, e1, f1⟩ := hB.facts (k * 5 + 1) (by omega)
        obtain ⟨x2, e2, f2⟩ := hB.facts (k * 5 + 2) (by omega)
        obtain ⟨x3, e3, f3⟩ := hB.facts (k * 5 + 3) (by omega)
        obtain ⟨x4, e4, f4⟩ := hB.facts (k * 5 + 4) (by omega)
        have hb2 := put5_below (o := k * 5) (c := zs.getD k cm0) hbel (Nat.le_refl w.heap.size)
        unfold put5 at hB' hb2
        generalize zs.getD k cm0 = c at *
        have HB' := hide hB'
        have Hb2 := hide hb2
        have Hf' := hide hf'
        clear hcm hB hB' hb2 hf' hbel HN hf
        go_wp2
        go_roundw
        case rel => exact ⟨k + 1, by omega, by go_num, unhide Hb2, f', unhide HB', Hf'⟩
        case measure => simp [intOf]; omega
      · have hkn : k = n := by omega
        subst hkn
        have hcs : CS wr (some ⟨w.heap.size, 0, none⟩) k k zs := by
          subst hl
          exact (cblk_full hB (unhide hf)).cs (Nat.le_refl _)
        go_wp2
        go_ret
        exact ⟨_, rfl, hcs, hbel⟩

theorem bcell {W w1 : World} (hb : Below W.heap.size W w1) : (∀ b o, b < W.heap.size → w1.cell? ⟨b, o, none⟩ = W.cell? ⟨b, o, none⟩) ∧ (∀ b o, b < W.heap.size → w1.frozen? ⟨b, o, none⟩ = W.frozen? ⟨b, o, none⟩) :=
  ⟨fun b o h => hb.cell (p := ⟨b, o, none⟩) h, fun b o h => hb.frozen (p := ⟨b, o, none⟩) h⟩

set_option maxHeartbeats 1000000 in
theorem toCut_walk (a : Option Addr) (n cap : Nat) (zs : List Cm) (w : World) (hn : n ≤ 1048576) (h : CS w a n cap zs) :
    Calls Try.prog 20 #[.slice a n cap] w fun e w' => ∃ a', e = .returned (.slice a' n n) ∧ CS w' a' n n zs ∧ Below w.heap.size w w' := by
  obtain ⟨hl, hcap, hnil, hN⟩ := h
  obtain ⟨i0, hi, hz0, hz1, hz2⟩ := info_parts info64
  cases a with
  | none =>
    obtain ⟨rfl, rfl⟩ := hnil rfl
    have hzs : zs = [] := List.length_eq_zero_iff.1 hl
    subst hzs
    go_enter Try.func20, Try.ntmps20
    go_wp2
    go_ret
    exact ⟨none, rfl, CS.nil _, Below.refl _ _⟩
  | some ad =>
    clear hnil
    have HN := hide hN
    clear hN
    go_enter Try.func20, Try.ntmps20
    go_wp2_with (at_make; refine wpList_make_full _ rfl _ _ 40 rfl w.heap.size 64 i0 _ 5 Try.underlying40 hi hz0 hz1 _ _ _ _ n rfl rfl rfl rfl (by rw [hz2]; omega) (by unfold maxLen; omega) (Nat.le_refl _) ?_; intro w1 hown1 hgrow1)
    have hb1 : Below w.heap.size w w1 := (Below.refl _ _).grown hgrow1 (Nat.le_refl _) (fun k h => by cases h)
    rcases blk_of_owns hown1 with ⟨hv, _⟩ | ⟨g, cap1, hv, _, _, hB1⟩
    · cases hv
    cases hv
    clear hown1 hgrow1
    go_loopw [4] (fun i wr => ∃ k : Nat, k ≤ n ∧ i = .int .i64 k ∧ Below w.heap.size w wr ∧ ∃ f, Blk wr w.heap.size (n * 5) f ∧ Hid (∀ j, j < k * 5 → f j = (flat zs).getD j undef)) (fun i _ => n - (intOf i).toNat)
    case atStart => exact ⟨0, Nat.zero_le _, rfl, hb1, _, hB1, hide (fun j hj => absurd hj (by omega))⟩
    case round =>
      obtain ⟨k, hk, rfl, hbel, f, hB, hf⟩ := hrel
      clear hb1 hB1
      by_cases hlt : k < n
      · obtain ⟨b, off, had, hbw, hcm⟩ := unhide HN (by omega)
        cases had
        obtain ⟨g0, g1, g2, g3, g4⟩ := (hcm k hlt).below hbel hbw
        generalize hc : zs.getD k cm0 = c at *
        have HC := hide hc
        have Hbel := hide hbel
        clear hcm HN hc hbel
        go_wp2_with fail
        refine (toCutCommit_walk _ _ _ _ _ _).mono ?_
        rintro e w2 ⟨rfl, hb3⟩
        have hB3 := hB.below hb3 hB.1
        obtain ⟨f', hB', hf'⟩ := put5_blk hB3 k (by omega) zs (by omega) (unhide hf)
        obtain ⟨x0, e0, f0⟩ := hB3.facts (k * 5) (by omega)
        obtain ⟨x1, e1, f1⟩ := hB3.facts (k * 5 + 1) (by omega)
        obtain ⟨x2, e2, f2⟩ := hB3.facts (k * 5 + 2) (by omega)
        obtain ⟨x3, e3, f3⟩ := hB3.facts (k * 5 + 3) (by omega)
        obtain ⟨x4, e4, f4⟩ := hB3.facts (k * 5 + 4) (by omega)
        have hb2 := put5_below (o := k * 5) (c := zs.getD k cm0) ((unhide Hbel).trans (hb3.mono (unhide Hbel).size)) (Nat.le_refl w.heap.size)
        rw [unhide HC] at hB' hb2
        unfold put5 at hB' hb2
        have HB' := hide hB'
        have Hb2 := hide hb2
        have Hf' := hide hf'
        clear hB hB' hb2 hf' hf hb3 hB3 g0 g1 g2 g3 g4
        go_wp2
        go_roundw
        case rel => exact ⟨k + 1, by omega, by go_num, unhide Hb2, f', unhide HB', Hf'⟩
        case measure => simp [intOf]; omega
      · have hkn : k = n := by omega
        subst hkn
        have hcs : CS wr (some ⟨w.heap.size, 0, none⟩) k k zs := by
          subst hl
          exact (cblk_full hB (unhide hf)).cs (Nat.le_refl _)
        go_wp2
        go_ret
        exact ⟨_, rfl, hcs, hbel⟩


end Go.Proofs.Qxb6604323a
