import Derived.Test.Qxb6604323aWalksE
namespace Go.Proofs.Qxb6604323a
open Go.ChangeShapes Go.WideShapes Go.ChangeAt Go.RowKit

theorem zztrim_walk (a : Option Addr) (n : Nat) (zs : List Cm) (g : Int) (w : World) (hn : n ≤ 1048576) (h : CS w a n n zs) (hw : WfL zs) (ho : ordB zs = true) (hg0 : 0 ≤ g) (hg : g ≤ 18446744073709551614) :
    Calls Try.prog 31 #[.slice a n n, .int .u64 g] w fun e w' => ∃ a' m cap', e = .returned (.tuple #[.slice a' m cap', .int .u64 (trimN g zs)]) ∧ CO w' w.heap.size a' m cap' (trimA g zs) ∧ Below w.heap.size w w' := by
  have HC := hide (trim_walk a n zs g w hn h hw ho hg0 hg)
  clear h hw ho
  go_enter Try.func31, Try.ntmps31
  go_wp2_with fail
  refine (unhide HC).mono ?_
  rintro e w1 ⟨a', m, cap', rfl, hco, hb⟩
  have Hco := hide hco
  have Hb := hide hb
  clear hco hb HC
  go_wp2
  go_ret2
  exact ⟨_, _, _, rfl, unhide Hco, unhide Hb⟩

theorem co_split {w : World} {B : Nat} {a : Option Addr} {n cap : Nat} {zs : List Cm} (h : CO w B a n cap zs) : ∃ g3, 0 < n → (a = some ⟨g3, 0, none⟩ ∧ B ≤ g3 ∧ CBlk w g3 zs) := by
  obtain ⟨_, _, ⟨_, hn, _⟩ | ⟨g, ha, hB, hb⟩⟩ := h
  · exact ⟨0, fun h => absurd h (by omega)⟩
  · exact ⟨g, fun _ => ⟨ha, hB, hb⟩⟩

theorem CS.below' {B : Nat} {w w' : World} {a : Option Addr} {n cap : Nat} {zs : List Cm} (h : CS w a n cap zs) (hb : Below B w w') (hB : w.heap.size ≤ B) : CS w' a n cap zs := h.below (hb.mono hB)

set_option maxHeartbeats 2000000 in
theorem case_main (a : Option Addr) (n cap : Nat) (zs : List Cm) (g : Int) (w : World) (hn : n ≤ 26214) (h : CS w a n cap zs) (hw : WfL zs) (ho : ordB zs = true) (hg0 : 0 ≤ g) (hg : g ≤ 18446744073709551614) :
    Calls Try.prog 6 #[.slice a n cap, .int .u64 g] w fun e w' => e = .returned (.bool true) ∧ Below w.heap.size w w' := by
  have c30 := ordered_walk a n cap zs w (by omega) h hw
  rw [ho] at c30
  have hgb : (g == 18446744073709551615) = false := by simp; omega
  have hd : decide (n ≤ 1048576) = true := by simp; omega
  have C30 := hide c30
  have HCS := hide h
  have HW := hide hw
  have HO := hide ho
  clear c30 h hw ho
  go_enter Try.func6, Try.ntmps6
  go_wp2_with (first
    | (go_at_call 29; refine (zzBytes29_walk _ _ _ _ _ (by omega)).mono ?_; rintro e w' ⟨rfl, hw⟩; have hw2 := hw.symm; clear hw; subst hw2)
    | (go_at_call 30; refine (unhide C30).mono ?_; rintro e w' ⟨rfl, q, rfl⟩)
    | fail)
  clear C30 hgb hd
  -- cloneCommits
  refine (clone_walk _ _ _ zs _ (by omega) ((unhide HCS).drewN q)).mono ?_
  rintro e w1 ⟨a1, rfl, hcs1, hb1⟩
  have Hcs1 := hide hcs1
  have Hb1 : Hid (Below w.heap.size w w1) := hide ((below_drewN (Below.refl _ w) q).trans hb1)
  clear hcs1 hb1 HCS
  go_wp2_with fail
  -- toCut
  refine (toCut_walk _ _ _ zs _ (by omega) (unhide Hcs1)).mono ?_
  rintro e w2 ⟨a2, rfl, hcs2, hb2⟩
  have Hcs2 := hide hcs2
  have Hb2 := hide hb2
  clear hcs2 hb2
  go_wp2_with fail
  refine (zztrim_walk _ _ zs _ _ (by omega) (unhide Hcs2) (unhide HW) (unhide HO) hg0 hg).mono ?_
  rintro e w3 ⟨a3, m3, cap3, rfl, hco3, hb3⟩
  have Hco3 := hide hco3
  have Hb3 := hide hb3
  clear hco3 hb3
  have Hcs1' : Hid (CS w3 a1 n n zs) := hide (((unhide Hcs1).below (unhide Hb2)).below (unhide Hb3))
  go_wp2_with fail
  refine (model_walk _ _ _ zs _ _ (by omega) (unhide Hcs1') (unhide HW) (unhide HO) hg0 hg).mono ?_
  rintro e w4 ⟨a4, m4, cap4, rfl, hco4, hb4⟩
  have hm4 : m4 ≤ n := by have h1 := hco4.1; have h2 := model_len g zs; have h3 := (unhide Hcs1').1; omega
  have hm3 : m3 = m4 := by have h1 := hco4.1; have h2 := (unhide Hco3).1; have h3 := trim_model g zs (unhide HO) (unhide HW); rw [h3] at h2; omega
  subst hm3
  have hco3 := unhide Hco3
  rw [trim_model g zs (unhide HO) (unhide HW)] at hco3
  have hts := trim_sum g zs
  rw [trim_model g zs (unhide HO) (unhide HW), ← IntKind.wrap_u64] at hts
  have hne : (trimN g zs != IntKind.u64.wrap (sumU zs - sumU (modelT g zs))) = false := by rw [hts]; simp
  clear hts
  have hs1 := sum_walk a2 n n zs
  have hs2 := sum_walk a4 m3 cap4 (modelT g zs)
  generalize trimN g zs = tn at *
  generalize modelT g zs = Z at *
  generalize sumU zs = s1 at *
  generalize sumU Z = s2 at *
  have Hs1 := hide hs1
  have Hs2 := hide hs2
  have Hco3 := hide hco3
  have Hco4 := hide hco4
  have Hb4 := hide hb4
  clear hs1 hs2 hco3 hco4 hb4
  go_wp2_with fail
  refine (same_walk _ _ _ _ _ Z _ (by omega) ((unhide Hco3).cs.below (unhide Hb4)) (unhide Hco4).cs).mono ?_
  rintro e w5 ⟨rfl, q5, rfl⟩
  go_wp2_with fail
  refine (unhide Hs1 _ (by omega) ((((unhide Hcs2).below (unhide Hb3)).below (unhide Hb4)).drewN q5)).mono ?_
  rintro e w6 ⟨rfl, rfl⟩
  go_wp2_with fail
  refine (unhide Hs2 _ (by omega) ((unhide Hco4).cs.drewN q5)).mono ?_
  rintro e w7 ⟨rfl, rfl⟩
  obtain ⟨g3, hg3⟩ := co_split (unhide Hco3)
  have hl3 := (unhide Hco3).1
  have Hg3 := hide hg3
  have Hl3 := hide hl3
  have Hbl : Hid (∃ f, (0 < m3 → a3 = some ⟨g3, 0, none⟩ ∧ w2.heap.size ≤ g3 ∧ Blk (w4.drewN q5) g3 (m3 * 5) f) ∧ ∀ j, 0 ≤ j → f j = (flat Z).getD j undef) := hide (by
    refine ⟨fun j => (flat Z).getD j undef, fun h0 => ?_, fun _ _ => rfl⟩
    obtain ⟨h1, h2, h3⟩ := hg3 h0
    refine ⟨h1, h2, ?_⟩
    have h4 := h3.below (unhide Hb4) h3.1
    have h5 : Blk (w4.drewN q5) g3 (Z.length * 5) (fun j => (flat Z).getD j undef) := h4
    rw [hl3] at h5
    exact h5)
  have Hb24 : Hid (Below w2.heap.size w2 (w4.drewN q5)) := hide (below_drewN ((unhide Hb3).trans ((unhide Hb4).mono (unhide Hb3).size)) q5)
  clear hg3 hl3 Hs1 Hs2 Hg3 Hcs1' Hco3 Hco4 Hb3 Hb4 HW HO
  go_wp2
  go_loopw [9] (fun i wr => ∃ k : Nat, k ≤ m3 ∧ i = .int .i64 k ∧ Hid (Below w2.heap.size w2 wr) ∧ Hid (∃ f, (0 < m3 → a3 = some ⟨g3, 0, none⟩ ∧ w2.heap.size ≤ g3 ∧ Blk wr g3 (m3 * 5) f) ∧ ∀ j, k * 5 ≤ j → f j = (flat Z).getD j undef)) (fun i _ => m3 - (intOf i).toNat)
  case atStart => exact ⟨0, Nat.zero_le _, rfl, Hb24, by simpa using Hbl⟩
  case round =>
    obtain ⟨k, hk, rfl, hbel, hblk⟩ := hrel
    clear Hbl Hb24
    by_cases hlt : k < m3
    · obtain ⟨f, hf1, hf2⟩ := unhide hblk
      obtain ⟨had, hB3, hB⟩ := hf1 (by omega)
      subst had
      obtain ⟨c, hc⟩ : ∃ c, c = Z.getD k cm0 := ⟨_, rfl⟩
      have e2 : wr.cell? ⟨g3, k * 5 + 2, none⟩ = some (.int .u64 c.count) := by
        rw [(hB.2 (k * 5 + 2) (by omega)).1, hf2 _ (by omega), List.getD_eq_getElem?_getD, flat_at Z k (by have := unhide Hl3; omega) 2 (by omega), hc]
        rfl
      have f2 := (hB.2 (k * 5 + 2) (by omega)).2
      have f1 := (hB.2 (k * 5 + 1) (by omega)).2
      obtain ⟨x1, e1, _⟩ := hB.facts (k * 5 + 1) (by omega)
      have Hst : Hid (∀ v1 v2, Blk ((wr.setCell ⟨g3, k * 5 + 2, none⟩ v2).setCell ⟨g3, k * 5 + 1, none⟩ v1) g3 (m3 * 5) (fun i => if i = k * 5 + 1 then v1 else if i = k * 5 + 2 then v2 else f i)) :=
        hide (fun v1 v2 => (hB.set (k * 5 + 2) (by omega) v2).set (k * 5 + 1) (by omega) v1)
      have Hf2 := hide hf2
      clear hf1 hf2 hB hc hblk
      go_wp2
      go_roundw
      case rel =>
        refine ⟨k + 1, by omega, by go_num, ((unhide hbel).setCell hB3 _).setCell hB3 _, _, fun _ => ⟨(by first | trivial | rfl), hB3, unhide Hst _ _⟩, ?_⟩
        intro j hj
        have n1 : ¬ j = k * 5 + 1 := by omega
        have n2 : ¬ j = k * 5 + 2 := by omega
        simp only [if_neg n1, if_neg n2]
        exact unhide Hf2 j (by omega)
      case measure => simp [intOf]; omega
    · clear hblk
      have Hbb : Hid (Below w1.heap.size w1 wr) := hide ((unhide Hb2).trans ((unhide hbel).mono (unhide Hb2).size))
      go_wp2_with fail
      refine (toCut_walk _ _ _ zs _ (by omega) ((unhide Hcs1).below (unhide Hbb))).mono ?_
      rintro e w8 ⟨a8, rfl, hcs8, hb8⟩
      have Hcs8 := hide hcs8
      have Hb8 := hide hb8
      clear hcs8 hb8
      go_wp2_with fail
      refine (same_walk _ _ _ _ _ zs _ (by omega) ((((unhide Hcs2).below (unhide hbel))).below (unhide Hb8)) (unhide Hcs8)).mono ?_
      rintro e w9 ⟨rfl, q9, rfl⟩
      go_wp2
      go_ret
      exact ⟨rfl, below_drewN ((unhide Hb1).trans (((unhide Hbb).trans ((unhide Hb8).mono (unhide Hbb).size)).mono (unhide Hb1).size)) q9⟩

theorem case_walk (a : Option Addr) (n cap : Nat) (zs : List Cm) (g : Int) (w : World) (hn : n ≤ 9223372036854775807) (h : CS w a n cap zs) (hw : WfL zs) (hg0 : 0 ≤ g) (hg : g ≤ 18446744073709551615) :
    Calls Try.prog 6 #[.slice a n cap, .int .u64 g] w fun e w' => e = .returned (.bool true) ∧ Below w.heap.size w w' := by
  by_cases h0 : n ≤ 1048576
  · by_cases h1 : n ≤ 26214
    · by_cases h2 : g = 18446744073709551615
      · have h2' : (g == 18446744073709551615) = true := by rw [h2]; rfl
        clear h2 hg h hw
        go_enter Try.func6, Try.ntmps6
        go_wp2_with (go_at_call 29; refine (zzBytes29_walk _ _ _ _ _ hn).mono ?_; rintro e w' ⟨rfl, rfl⟩)
        go_ret
        exact ⟨rfl, Below.refl _ _⟩
      · cases ho : ordB zs
        · have c30 := ordered_walk a n cap zs w (by omega) h hw
          rw [ho] at c30
          have C30 := hide c30
          have h2' : (g == 18446744073709551615) = false := by simp [h2]
          clear c30 h hw ho h2 hg
          go_enter Try.func6, Try.ntmps6
          go_wp2_with (first
            | (go_at_call 29; refine (zzBytes29_walk _ _ _ _ _ (by omega)).mono ?_; rintro e w' ⟨rfl, hw⟩; have hw2 := hw.symm; clear hw; subst hw2)
            | (go_at_call 30; refine (unhide C30).mono ?_; rintro e w' ⟨rfl, q, rfl⟩))
          go_ret
          exact ⟨rfl, below_drewN (Below.refl _ w) q⟩
        · exact case_main a n cap zs g w h1 h hw ho hg0 (by omega)
    · clear h hw
      go_enter Try.func6, Try.ntmps6
      go_wp2_with (go_at_call 29; refine (zzBytes29_walk _ _ _ _ _ hn).mono ?_; rintro e w' ⟨rfl, rfl⟩)
      go_ret
      exact ⟨rfl, Below.refl _ _⟩
  · clear h hw
    go_enter Try.func6, Try.ntmps6
    go_wp2_with (go_at_call 29; refine (zzBytes29_walk _ _ _ _ _ hn).mono ?_; rintro e w' ⟨rfl, rfl⟩)
    go_ret
    exact ⟨rfl, Below.refl _ _⟩
end Go.Proofs.Qxb6604323a
