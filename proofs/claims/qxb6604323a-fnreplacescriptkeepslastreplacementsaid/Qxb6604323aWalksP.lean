import Derived.Test.Qxb6604323aWalksO
namespace Go.Proofs.Qxb6604323a
open Go.ChangeShapes Go.WideShapes Go.ChangeAt Go.RowKit Go.Maps

def Ls.repl (L : Ls) (k : Nat) (old nw : Int) : Ls := { L with reps := L.reps.set k nw, rcd := some ((L.rcd.getD (.map [])).put (.int .u32 old) (.lit (.int .u32 nw))) }
def replP (i : Nat) : Nat × Nat → Prop := fun t => t.2 = i ∧ (t.1 = 2 ∨ t.1 = 3 ∨ t.1 = 4)
theorem set_getD (Lss : List Ls) (i j : Nat) (L : Ls) (hi : i < Lss.length) : (Lss.set i L).getD j ls0 = if j = i then L else Lss.getD j ls0 := by
  by_cases e : j = i
  · subst e; simp [hi]
  · have e' : ¬ i = j := fun h => e h.symm
    simp [e, e']
theorem uset_getD (us : List Int) (i j : Nat) (x : Int) (hi : i < us.length) : (us.set i x).getD j 0 = if j = i then x else us.getD j 0 := by
  by_cases e : j = i
  · subst e; simp [hi]
  · have e' : ¬ i = j := fun h => e h.symm
    simp [e, e']
theorem Blk.grown {w w' : World} {b n : Nat} {f : Nat → Value} {row : Option Nat} (h : Blk w b n f) (hg : w.grownBy w' row) (hne : some b ≠ row) : Blk w' b n f :=
  ⟨Nat.lt_of_lt_of_le h.1 hg.size, fun j hj => ⟨(World.cell?_of_block (a := ⟨b, j, none⟩) (hg.block b h.1 hne)).trans (h.2 j hj).1, (World.frozen?_of_block (a := ⟨b, j, none⟩) (hg.block b h.1 hne)).trans (h.2 j hj).2⟩⟩
theorem UBlk.put {w : World} {r : Nat} {us : List Int} (h : UBlk w r us) (k : Nat) (hk : k < us.length) (x : Int) : UBlk (w.setCell ⟨r, k, none⟩ (.int .u32 x)) r (us.set k x) := by
  unfold UBlk
  rw [List.length_set]
  refine (Blk.set h k hk _).congr ?_
  intro j _
  rw [uset_getD us k j x hk]
  by_cases e : j = k
  · simp [e]
  · simp [e]

/-- A stream of the state, laid open. -/
theorem StateIs.ls {w : World} {tag : Nat → Nat × Nat} {B sp : Nat} {hi tr : Int} {cms : List Cm} {Lss : List Ls} {N : Nat} (h : StateIs w tag B sp hi tr cms Lss N) {i : Nat} (hi' : i < Lss.length) :
    ∃ gr cs p, w.cell? ⟨sp, 2, none⟩ = some (.slice (some ⟨gr, 0, none⟩) Lss.length cs) ∧ w.cell? ⟨gr, i, none⟩ = some (.pointer (some ⟨p, 0, none⟩)) ∧ LsAt w tag i p (Lss.getD i ls0) N := by
  obtain ⟨h1, h2, asl, ns, cs, ac, nc, cc, pb, hb, hc, hn, ho, ht1, hL⟩ := h
  subst hn
  have c2 := (hb.2 2 (by omega)).1
  rcases blk_of_owns ho with ⟨_, h0⟩ | ⟨g, cap, hv, _, _, hbg⟩
  · omega
  · cases hv
    refine ⟨g, cs, pb i, c2, ?_, hL i hi'⟩
    have := (hbg.2 i (by omega)).1
    rw [this]
    simp [ptrs, hi']
theorem StateIs.c2 {w : World} {tag : Nat → Nat × Nat} {B sp : Nat} {hi tr : Int} {cms : List Cm} {Lss : List Ls} {N : Nat} (h : StateIs w tag B sp hi tr cms Lss N) : ∃ asl cs, w.cell? ⟨sp, 2, none⟩ = some (.slice asl Lss.length cs) := by
  obtain ⟨h1, h2, asl, ns, cs, ac, nc, cc, pb, hb, hc, hn, ho, ht1, hL⟩ := h
  subst hn
  exact ⟨asl, cs, (hb.2 2 (by omega)).1⟩

theorem replace_no (w : World) (tag : Nat → Nat × Nat) (B sp : Nat) (hi tr : Int) (cms : List Cm) (Lss : List Ls) (N : Nat) (id old nw : Int) (h : StateIs w tag B sp hi tr cms Lss N) (h0 : 0 ≤ id) (h1 : id ≤ 4294967295) (hn : id < 1 ∨ (Lss.length : Int) < id) :
    Calls Try.prog 15 #[.pointer (some ⟨sp, 0, none⟩), .int .u32 id, .int .u32 old, .int .u32 nw] w fun e w' => e = .returned (.bool false) ∧ w' = w := by
  obtain ⟨asl, cs, c2⟩ := h.c2
  have HS := hide (stream_no w sp asl Lss.length cs id c2 h0 h1 hn)
  clear h c2 hn
  go_enter Try.func15, Try.ntmps15
  go_wp2_with (go_at_call 39; refine (unhide HS).mono ?_; rintro e w' ⟨rfl, hw⟩; have hw2 := hw.symm; clear hw; subst hw2)
  go_ret
  exact ⟨rfl, rfl⟩
theorem replace_miss (w : World) (tag : Nat → Nat × Nat) (B sp : Nat) (hi tr : Int) (cms : List Cm) (Lss : List Ls) (N : Nat) (i : Nat) (old nw : Int) (h : StateIs w tag B sp hi tr cms Lss N) (hi' : i < Lss.length) (hlen : Lss.length ≤ 1048576) (hrep : (Lss.getD i ls0).reps.length ≤ 1048576) (hf : fidx old (Lss.getD i ls0).reps = -1) :
    Calls Try.prog 15 #[.pointer (some ⟨sp, 0, none⟩), .int .u32 ((i : Int) + 1), .int .u32 old, .int .u32 nw] w fun e w' => e = .returned (.bool false) ∧ w' = w := by
  obtain ⟨gr, cs, p, c2, cp, ar, nr, cr, ac, nc, cc, mv, ht, hb, hu, hc, hm⟩ := h.ls hi'
  exact repl_miss w sp gr Lss.length cs i p ar nr cr _ old nw c2 cp hi' hlen (hb.2 1 (by omega)).1 hu.us (by have := hu.1; omega) hf

def ReplOk (w : World) (tag : Nat → Nat × Nat) (B sp : Nat) (hi tr : Int) (cms : List Cm) (Lss : List Ls) (N i k : Nat) (old nw : Int) (e : Ending) (w' : World) : Prop :=
  e = .returned (.bool true) ∧ ∃ tag', StateIs w' tag' B sp hi tr cms (Lss.set i ((Lss.getD i ls0).repl k old nw)) (N + 1) ∧ (∀ b, b < w.heap.size → tag' b = tag b) ∧ Keep (replP i) tag' w w'

/-- The state behind a change of one stream. -/
theorem state_set {w w' : World} {tag tag' : Nat → Nat × Nat} {B sp : Nat} {hi tr : Int} {cms : List Cm} {Lss : List Ls} {N N' i : Nat} {L : Ls} (h : StateIs w tag B sp hi tr cms Lss N) (hi' : i < Lss.length) (hN : N ≤ N')
    (ht : ∀ b, b < w.heap.size → tag' b = tag b) (k : Keep (replP i) tag' w w') (hnew : ∀ gr cs p, w.cell? ⟨sp, 2, none⟩ = some (.slice (some ⟨gr, 0, none⟩) Lss.length cs) → w.cell? ⟨gr, i, none⟩ = some (.pointer (some ⟨p, 0, none⟩)) → LsAt w' tag' i p L N') :
    StateIs w' tag' B sp hi tr cms (Lss.set i L) N' := by
  have hls := h.ls hi'
  have hsp := h.sp_lt
  obtain ⟨h1, h2, asl, ns, cs, ac, nc, cc, pb, hb, hc, hn, ho, ht1, hL⟩ := h
  subst hn
  have nP : ∀ a b, a < 2 ∨ 4 < a → ¬ replP i (a, b) := by
    intro a b ha hx
    obtain ⟨_, hx⟩ := hx
    rcases hx with hx | hx | hx <;> simp at hx <;> omega
  have nI : ∀ a b, b ≠ i → ¬ replP i (a, b) := fun a b hb hx => hb hx.1
  refine ⟨fun b hb => by rw [ht b (by omega)]; exact h1 b hb, by rw [ht sp hb.1]; exact h2, asl, Lss.length, cs, ac, nc, cc, pb, hb.keep k (by rw [ht sp hb.1, h2]; exact nP _ _ (by omega)), (hc.retag ht).keep k (nP _ _ (by omega)), by simp, owns_keep ho k ?_, ?_, ?_⟩
  · intro j hj
    rw [ht j (owns_lt ho j hj).2, ht1 j hj]; exact nP _ _ (by omega)
  · intro j hj
    rw [ht j (owns_lt ho j hj).2]; exact ht1 j hj
  · intro j hj
    rw [set_getD _ _ _ _ hi']
    by_cases e : j = i
    · subst e
      rw [if_pos rfl]
      obtain ⟨gr, cs', p, c2, cp, _⟩ := hls
      have e2 := (hb.2 2 (by omega)).1
      rw [c2] at e2
      have hpe : p = pb j := by
        rcases blk_of_owns ho with ⟨_, h0⟩ | ⟨g, cap, hv, _, _, hbg⟩
        · omega
        · cases hv
          have hg : gr = g := by
            simp [stCells] at e2
            exact e2.1
          subst hg
          have := (hbg.2 j (by omega)).1
          rw [cp] at this
          simpa [ptrs, hj] using this
      rw [← hpe]
      exact hnew gr cs' p c2 cp
    · rw [if_neg e]
      exact (((hL j hj).retag ht).mono hN).keep k (nI _ _ e) (nI _ _ e) (nI _ _ e) (nI _ _ e)

theorem replace_hit (w : World) (tag : Nat → Nat × Nat) (B sp : Nat) (hi tr : Int) (cms : List Cm) (Lss : List Ls) (N : Nat) (i k : Nat) (old nw : Int) (h : StateIs w tag B sp hi tr cms Lss N) (hi' : i < Lss.length) (hlen : Lss.length ≤ 1048576) (hrep : (Lss.getD i ls0).reps.length ≤ 1048576) (hN : N < 1048576) (hf : fidx old (Lss.getD i ls0).reps = k)
    (o0 : 0 ≤ old) (o1 : old ≤ 4294967295) (n0 : 0 ≤ nw) (n1 : nw ≤ 4294967295) :
    Calls Try.prog 15 #[.pointer (some ⟨sp, 0, none⟩), .int .u32 ((i : Int) + 1), .int .u32 old, .int .u32 nw] w fun e w' => ReplOk w tag B sp hi tr cms Lss N i k old nw e w' := by
  obtain ⟨gr, cs, p, c2, cp, ar, nr, cr, ac, nc, cc, mv, ht, hb, hu, hc, hm⟩ := h.ls hi'
  obtain ⟨hk, hkx, _⟩ := fidx_hit old _ k hf
  obtain ⟨u1, u2, u3, u4⟩ := hu
  obtain ⟨r, rfl, htr, hur⟩ := u4 (by omega)
  have hrp : r ≠ p := by
    intro e
    rw [e, ht] at htr
    cases htr
  have hpw := hb.1
  have hrw := hur.1
  rcases hm with ⟨rfl, hrc⟩ | ⟨mb, D, rfl, hrc, htm, n, hn, hmap⟩
  · refine (repl_hit_nil w sp gr Lss.length cs i p r nr cr _ old nw k c2 cp hi' hlen (hb.2 1 (by omega)).1 (hb.2 7 (by omega)).1 (hb.2 7 (by omega)).2 hur u1 (by omega) hf hrp hpw o0 o1 n0 n1).mono ?_
    rintro e w' ⟨rfl, hmap, hgrow⟩
    have htag : ∀ b, b < w.heap.size → (fun b => if b = w.heap.size then (4, i) else tag b) b = tag b := fun b hb => by simp [Nat.ne_of_lt hb]
    have tm : (fun b => if b = w.heap.size then (4, i) else tag b) w.heap.size = (4, i) := by simp
    generalize hT : (fun b => if b = w.heap.size then (4, i) else tag b) = T at *
    have tr' : T r = (3, i) := by rw [htag r hrw]; exact htr
    have tp' : T p = (2, i) := by rw [htag p hpw]; exact ht
    have K : Keep (replP i) T w w' := by
      refine Keep.grown ((((Keep.refl _ _ w).setCell (p := ⟨r, k, none⟩) (show replP i (T r) from by rw [tr']; exact ⟨rfl, by simp⟩) _).setCell (p := ⟨p, 7, none⟩) (show replP i (T p) from by rw [tp']; exact ⟨rfl, by simp⟩) _).alloc _) hgrow ?_
      intro j hj
      cases hj
      rw [tm]; exact ⟨rfl, by simp⟩
    refine ⟨rfl, T, state_set h hi' (Nat.le_succ N) htag K ?_, htag, K⟩
    intro gr' cs' p' c2' cp'
    rw [c2] at c2'
    cases c2'
    rw [cp] at cp'
    cases cp'
    refine ⟨some ⟨r, 0, none⟩, nr, cr, ac, nc, cc, some w.heap.size, tp', ?_, ⟨?_, u2, (fun e => nomatch e), fun _ => ⟨r, rfl, tr', ?_⟩⟩, (hc.retag htag).keep K ?_, Or.inr ⟨w.heap.size, _, rfl, rfl, tm, 1, by omega, ?_⟩⟩
    · have b1 := ((Blk.other hb (p := ⟨r, k, none⟩) hrp (.int .u32 nw)).set 7 (by omega) (.map (some w.heap.size))).alloc (.map #[] 0)
      refine (b1.grown hgrow (by simp; omega)).congr ?_
      intro j hj
      match j, hj with
      | 0, _ => rfl
      | 1, _ => rfl
      | 2, _ => rfl
      | 3, _ => rfl
      | 4, _ => rfl
      | 5, _ => rfl
      | 6, _ => rfl
      | 7, _ => rfl
    · show ((Lss.getD i ls0).reps.set k nw).length = nr
      rw [List.length_set]; exact u1
    · have b1 := (Blk.other (hur.put k hk nw) (p := ⟨p, 7, none⟩) (fun e => hrp e.symm) (.map (some w.heap.size))).alloc (.map #[] 0)
      exact b1.grown hgrow (by simp; omega)
    · intro hx
      rcases hx.2 with h | h | h <;> simp at h
    · show MapIs w' w.heap.size 1 (((Lss.getD i ls0).rcd.getD (.map [])).put _ _)
      rw [hrc]
      exact hmap
  · have hmr : mb ≠ r := by
      intro e
      rw [e, htr] at htm
      cases htm
    have hmp : mb ≠ p := by
      intro e
      rw [e, ht] at htm
      cases htm
    refine (repl_hit_map w sp gr Lss.length cs i p r nr cr _ old nw k c2 cp hi' hlen (hb.2 1 (by omega)).1 mb n D (hb.2 7 (by omega)).1 hmap (by omega) hmr hur u1 (by omega) hf hrp o0 o1 n0 n1).mono ?_
    rintro e w' ⟨rfl, hmap', hgrow⟩
    have K : Keep (replP i) tag w w' := by
      refine Keep.grown ((Keep.refl _ _ w).setCell (p := ⟨r, k, none⟩) (show replP i (tag r) from by rw [htr]; exact ⟨rfl, by simp⟩) _) hgrow ?_
      intro j hj
      cases hj
      rw [htm]; exact ⟨rfl, by simp⟩
    refine ⟨rfl, tag, state_set h hi' (Nat.le_succ N) (fun _ _ => rfl) K ?_, fun _ _ => rfl, K⟩
    intro gr' cs' p' c2' cp'
    rw [c2] at c2'
    cases c2'
    rw [cp] at cp'
    cases cp'
    refine ⟨some ⟨r, 0, none⟩, nr, cr, ac, nc, cc, some mb, ht, ?_, ⟨?_, u2, (fun e => nomatch e), fun _ => ⟨r, rfl, htr, ?_⟩⟩, hc.keep K ?_, Or.inr ⟨mb, _, rfl, rfl, htm, n + 1, by omega, ?_⟩⟩
    · exact (Blk.other hb (p := ⟨r, k, none⟩) hrp (.int .u32 nw)).grown hgrow (by simp; omega)
    · show ((Lss.getD i ls0).reps.set k nw).length = nr
      rw [List.length_set]; exact u1
    · exact Blk.grown (hur.put k hk nw) hgrow (by simp; omega)
    · intro hx
      rcases hx.2 with h | h | h <;> simp at h
    · show MapIs w' mb (n + 1) (((Lss.getD i ls0).rcd.getD (.map [])).put _ _)
      rw [hrc]
      exact hmap'
end Go.Proofs.Qxb6604323a
