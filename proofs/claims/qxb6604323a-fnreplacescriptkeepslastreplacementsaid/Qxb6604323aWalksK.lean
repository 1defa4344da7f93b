import Derived.Test.Qxb6604323aWalksJ
namespace Go.Proofs.Qxb6604323a
open Go.ChangeShapes Go.WideShapes Go.ChangeAt Go.RowKit
attribute [local go_sem] nil24

/-- Six cells of a block, none frozen. -/
def Six (w : World) (b : Nat) (v0 v1 v2 v3 v4 v5 : Value) : Prop :=
  (w.cell? ⟨b, 0, none⟩ = some v0 ∧ w.cell? ⟨b, 1, none⟩ = some v1 ∧ w.cell? ⟨b, 2, none⟩ = some v2 ∧ w.cell? ⟨b, 3, none⟩ = some v3 ∧ w.cell? ⟨b, 4, none⟩ = some v4 ∧ w.cell? ⟨b, 5, none⟩ = some v5) ∧
  w.frozen? ⟨b, 0, none⟩ = false ∧ w.frozen? ⟨b, 5, none⟩ = false
theorem Six.made (w : World) (t : TypeId) (v0 v1 v2 v3 v4 v5 : Value) : Six (w.alloc (.cells #[v0, v1, v2, v3, v4, v5] t)) w.heap.size v0 v1 v2 v3 v4 v5 := by
  unfold Six; simp
theorem Six.below {w w' : World} {b : Nat} {v0 v1 v2 v3 v4 v5 : Value} (h : Six w b v0 v1 v2 v3 v4 v5) (hb : Below w.heap.size w w') (hB : b < w.heap.size) : Six w' b v0 v1 v2 v3 v4 v5 := by
  have hc := fun o => hb.cell (p := ⟨b, o, none⟩) hB
  have hf := fun o => hb.frozen (p := ⟨b, o, none⟩) hB
  unfold Six at h ⊢
  simp only [hc, hf]
  exact h
theorem Six.set0 {w : World} {b : Nat} {v0 v1 v2 v3 v4 v5 : Value} (h : Six w b v0 v1 v2 v3 v4 v5) (v : Value) : Six (w.setCell ⟨b, 0, none⟩ v) b v v1 v2 v3 v4 v5 := by
  obtain ⟨⟨h0, h1, h2, h3, h4, h5⟩, f0, f5⟩ := h
  refine ⟨⟨World.cell?_setCell_same _ _ _ h0, ?_, ?_, ?_, ?_, ?_⟩, by rw [World.frozen?_setCell]; exact f0, by rw [World.frozen?_setCell]; exact f5⟩
  all_goals (rw [World.cell?_setCell_other _ _ _ _ (by simp)]; assumption)

set_option maxHeartbeats 2000000 in
theorem cloneS_walk (a : Option Addr) (n cap : Nat) (ss : List St) (w : World) (h : SS w a n cap ss) (hm : Mod n ss) :
    Calls Try.prog 11 #[.slice a n cap] w fun e w' => ∃ a', e = .returned (.slice a' n n) ∧ SS w' a' n n ss ∧ Below w.heap.size w w' := by
  obtain ⟨hl, hcap, hnil, hN⟩ := h
  obtain ⟨hn, hmod⟩ := hm
  obtain ⟨i0, hi, hz0, hz1, hz2⟩ := info_parts info36
  cases a with
  | none =>
    obtain ⟨rfl, rfl⟩ := hnil rfl
    go_enter Try.func11, Try.ntmps11
    go_wp2
    go_ret
    exact ⟨none, rfl, ⟨hl, Nat.le_refl _, fun _ => ⟨rfl, rfl⟩, fun h => absurd h (Nat.lt_irrefl _)⟩, Below.refl _ _⟩
  | some ad =>
    clear hnil
    have HN := hide hN
    have HM := hide hmod
    clear hN hmod
    go_enter Try.func11, Try.ntmps11
    go_wp2_with (at_make; refine wpList_make_full _ rfl _ _ 24 rfl w.heap.size 36 i0 _ 6 Try.underlying24 hi hz0 hz1 _ _ _ _ n rfl rfl rfl rfl (by rw [hz2]; omega) (by unfold maxLen; omega) (Nat.le_refl _) ?_; intro w1 hown1 hgrow1)
    have hb1 : Below w.heap.size w w1 := (Below.refl _ _).grown hgrow1 (Nat.le_refl _) (fun k h => by cases h)
    rcases blk_of_owns hown1 with ⟨hv, _⟩ | ⟨g, cap1, hv, _, _, hB1⟩
    · cases hv
    cases hv
    clear hown1 hgrow1
    go_loopw [4] (fun i wr => ∃ k : Nat, k ≤ n ∧ i = .int .i64 k ∧ Below w.heap.size w wr ∧ (∃ f, Blk wr w.heap.size (n * 6) f) ∧ Hid (∀ j, j < k → StO wr (w.heap.size + 1) w.heap.size (0 + j * 6) (ss.getD j st0))) (fun i _ => n - (intOf i).toNat)
    case atStart => exact ⟨0, Nat.zero_le _, rfl, hb1, ⟨_, hB1⟩, hide (fun j hj => absurd hj (by omega))⟩
    case round =>
      obtain ⟨k, hk, rfl, hbel, ⟨f, hB⟩, hS⟩ := hrel
      clear hb1 hB1
      by_cases hlt : k < n
      · obtain ⟨b, off, had, hbw, hcm⟩ := unhide HN (by omega)
        cases had
        obtain ⟨ar, nr, cr, ac, nc, cc, hst⟩ := hcm k hlt
        obtain ⟨hm1, hm2⟩ := unhide HM k hlt
        have hst2 := hst.below (hbel.mono (Nat.le_refl _)) hbw
        obtain ⟨g0, g1, g2, g3, g4, g5, hus, hcs⟩ := hst2
        have hgw : w.heap.size < wr.heap.size := hB.1
        rw [hus.1] at hm1
        rw [hcs.1] at hm2
        generalize hsd : ss.getD k st0 = s at *
        have HSD := hide hsd
        have Hus := hide hus
        have Hcs := hide hcs
        have HB := hide hB
        have Hbel := hide hbel
        clear hcm HN HM hst hsd hus hcs hB hbel
        go_wp2_with fail
        -- cloneU32(st.Replicas)
        refine (cloneU_walk _ _ _ s.reps _ hm1 ((unhide Hus).below ((Below.refl _ _).alloc (Nat.le_refl _) _))).mono ?_
        rintro e w2 ⟨ar', rfl, huo, hb2⟩
        have six2 := (Six.made wr 36 (.slice ar nr cr) (.int .u64 s.com) (.int .u64 s.trm) (.bool s.sld) (.bool s.tran) (.slice ac nc cc)).below hb2 (by simp)
        have hb2w : Below wr.heap.size wr w2 := ((Below.refl _ _).alloc (Nat.le_refl _) _).trans (hb2.mono (by simp))
        have six2' := six2.set0 (.slice ar' nr nr)
        have Hb3 : Hid (Below wr.heap.size wr (w2.setCell ⟨wr.heap.size, 0, none⟩ (.slice ar' nr nr))) := hide (hb2w.setCell (Nat.le_refl _) _)
        have Huo : Hid (UO (w2.setCell ⟨wr.heap.size, 0, none⟩ (.slice ar' nr nr)) (wr.heap.size + 1) ar' nr nr s.reps) := hide ((huo.mono (by simp)).other (by simp) _)
        have Hsix := hide six2'
        obtain ⟨⟨z0, z1, z2, z3, z4, z5⟩, q0, q5⟩ := six2
        have hlt2 : wr.heap.size < w2.heap.size := by have := hb2.size; simp at this; omega
        clear huo hb2 hb2w six2' g0 g1 g2 g3 g4 g5
        go_wp2_with fail
        clear z0 z1 z2 z3 z4 z5 q0 q5
        -- cloneCommits(st.Commits)
        refine (cloneO_walk _ _ _ s.cms _ hm2 ((unhide Hcs).below (unhide Hb3))).mono ?_
        rintro e w4 ⟨ac', rfl, hco, hb4⟩
        have six4 := (unhide Hsix).below hb4 (by simpa using hlt2)
        have hb4w : Below wr.heap.size wr w4 := (unhide Hb3).trans (hb4.mono (unhide Hb3).size)
        have huo4 := (unhide Huo).below hb4
        have Hb5 : Hid (Below wr.heap.size wr (w4.setCell ⟨wr.heap.size, 5, none⟩ (.slice ac' nc nc))) := hide (hb4w.setCell (Nat.le_refl _) _)
        have hlt4 : wr.heap.size < w4.heap.size := by have := hb4.size; simp at this; omega
        have Huo5 : Hid (UO (w4.setCell ⟨wr.heap.size, 5, none⟩ (.slice ac' nc nc)) (w.heap.size + 1) ar' nr nr s.reps) := hide ((huo4.other (p := ⟨wr.heap.size, 5, none⟩) (by simp) _).mono (by omega))
        have Hco5 : Hid (CO (w4.setCell ⟨wr.heap.size, 5, none⟩ (.slice ac' nc nc)) (w.heap.size + 1) ac' nc nc s.cms) := hide ((hco.other (p := ⟨wr.heap.size, 5, none⟩) (by simp; omega) _).mono (by simp; omega))
        have hB5 := (unhide HB).below (unhide Hb5) (unhide HB).1
        have hnew := put6_new hB5 (k * 6) (by omega) (Nat.lt_succ_self _) s (unhide Huo5) (unhide Hco5)
        obtain ⟨f6, hB6, _⟩ := put6_blk hB5 (k * 6) (by omega) (.slice ar' nr nr) (.int .u64 s.com) (.int .u64 s.trm) (.bool s.sld) (.bool s.tran) (.slice ac' nc nc)
        have hold : ∀ j, j < k → StO (put6 (w4.setCell ⟨wr.heap.size, 5, none⟩ (.slice ac' nc nc)) w.heap.size (k * 6) (.slice ar' nr nr) (.int .u64 s.com) (.int .u64 s.trm) (.bool s.sld) (.bool s.tran) (.slice ac' nc nc)) (w.heap.size + 1) w.heap.size (0 + j * 6) (ss.getD j st0) := by
          intro j hj
          exact put6_other ((unhide hS j hj).below (unhide Hb5) hgw) (by omega) (Nat.lt_succ_self _) _ _ _ _ _ _
        have hfin := put6_below (o := k * 6) (v0 := .slice ar' nr nr) (v1 := .int .u64 s.com) (v2 := .int .u64 s.trm) (v3 := .bool s.sld) (v4 := .bool s.tran) (v5 := .slice ac' nc nc) ((unhide Hbel).trans ((unhide Hb5).mono (unhide Hbel).size)) (Nat.le_refl w.heap.size)
        have Hnew := hide hnew
        have HB6 := hide hB6
        have Hold := hide hold
        have Hfin := hide hfin
        obtain ⟨x0, e0, f0⟩ := hB5.facts (k * 6) (by omega)
        obtain ⟨x1, e1, f1⟩ := hB5.facts (k * 6 + 1) (by omega)
        obtain ⟨x2, e2, f2⟩ := hB5.facts (k * 6 + 2) (by omega)
        obtain ⟨x3, e3, f3⟩ := hB5.facts (k * 6 + 3) (by omega)
        obtain ⟨x4, e4, f4⟩ := hB5.facts (k * 6 + 4) (by omega)
        obtain ⟨x5, e5, f5⟩ := hB5.facts (k * 6 + 5) (by omega)
        obtain ⟨⟨z0, z1, z2, z3, z4, z5⟩, q0, q5⟩ := six4
        have hne : ¬ wr.heap.size = w.heap.size := by omega
        clear hnew hB6 hold hfin hB5 huo4 hco hb4 hb4w Huo5 Hco5 Hb5 Hsix Hb3 Huo Hcs Hus HB hS
        go_wp2
        unfold put6 at *
        go_roundw
        case rel =>
          refine ⟨k + 1, by omega, by go_num, unhide Hfin, ⟨f6, unhide HB6⟩, hide ?_⟩
          intro j hj
          by_cases e : j = k
          · subst e; rw [unhide HSD, Nat.zero_add]; exact unhide Hnew
          · exact unhide Hold j (by omega)
        case measure => simp [intOf]; omega
      · have hkn : k = n := by omega
        subst hkn
        have hss : SS wr (some ⟨w.heap.size, 0, none⟩) k k ss := ⟨hl, Nat.le_refl _, (fun e => nomatch e), fun _ => ⟨_, 0, rfl, hB.1, fun i hi => (unhide hS i hi).at⟩⟩
        go_wp2
        go_ret
        exact ⟨_, rfl, hss, hbel⟩
end Go.Proofs.Qxb6604323a
