import Derived.Test.Qxb6604323aWalksD
namespace Go.Proofs.Qxb6604323a
open Go.ChangeShapes Go.WideShapes Go.ChangeAt Go.RowKit

theorem flat_drop_cells {w : World} {b off n k : Nat} {zs : List Cm} (hl : zs.length = n) (hcm : ∀ i, i < n → CmAt w b (off + i * 5) (zs.getD i cm0)) :
    ∀ j u, (flat (zs.drop k))[j]? = some u → w.cell? ((⟨b, off + k * 5, none⟩ : Addr).add j) = some u := by
  intro j u hj
  have hjl : j < (flat (zs.drop k)).length := by
    rcases Nat.lt_or_ge j (flat (zs.drop k)).length with h | h
    · exact h
    · rw [List.getElem?_eq_none h] at hj; cases hj
  rw [flat_length, List.length_drop] at hjl
  have hd : j = j / 5 * 5 + j % 5 := by omega
  have hm : j % 5 < 5 := by omega
  have hk : j / 5 < (zs.drop k).length := by rw [List.length_drop]; omega
  rw [hd, flat_at (zs.drop k) (j / 5) hk (j % 5) hm] at hj
  have e : (zs.drop k).getD (j / 5) cm0 = zs.getD (k + j / 5) cm0 := by simp [List.getD_eq_getElem?_getD]
  rw [e] at hj
  obtain ⟨h0, h1, h2, h3, h4⟩ := hcm (k + j / 5) (by omega)
  rw [add_plain]
  have ea : off + k * 5 + j = off + (k + j / 5) * 5 + j % 5 := by omega
  rw [ea]
  generalize zs.getD (k + j / 5) cm0 = c at *
  generalize off + (k + j / 5) * 5 = o at *
  generalize j % 5 = t at *
  match t, hm with
  | 0, _ => simpa [Cm.cells] using h0.trans hj
  | 1, _ => simpa [Cm.cells] using h1.trans hj
  | 2, _ => simpa [Cm.cells] using h2.trans hj
  | 3, _ => simpa [Cm.cells] using h3.trans hj
  | 4, _ => simpa [Cm.cells] using h4.trans hj

theorem own_left {w w1 : World} {q n k : Nat} {v1 : Value} {zs : List Cm} {row : Option Nat} (hl : zs.length = n) (hlt : k < n)
    (hown : w1.ownsRow w.heap.size 64 5 v1 (0 + (n - k)) ([] ++ flat (zs.drop k))) (hgrow : (w.drewN q).grownBy w1 row) (hrow : row = none) :
    Below w.heap.size w w1 ∧ ∃ g1 cap1, v1 = .slice (some ⟨g1, 0, none⟩) (n - k) cap1 ∧ w.heap.size ≤ g1 ∧ n - k ≤ cap1 ∧ CBlk w1 g1 (zs.drop k) := by
  subst hrow
  refine ⟨(below_drewN (Below.refl _ w) q).grown hgrow (Nat.le_refl _) (fun k h => by cases h), ?_⟩
  rw [Nat.zero_add, List.nil_append] at hown
  rcases blk_of_owns hown with ⟨_, h0⟩ | ⟨g, cap, hv, hB, hc, hb⟩
  · omega
  · refine ⟨g, cap, hv, hB, hc, ?_⟩
    unfold CBlk
    rw [List.length_drop, hl]
    exact hb
theorem head_put {w : World} {g : Nat} {c : Cm} {r : List Cm} (h : CBlk w g (c :: r)) (f n : Int) :
    CBlk ((w.setCell ⟨g, 1, none⟩ (.int .u64 f)).setCell ⟨g, 2, none⟩ (.int .u64 n)) g ({ c with first := f, count := n } :: r) := by
  have hl : (c :: r).length * 5 = ({ c with first := f, count := n } :: r).length * 5 := by simp
  have h2 := (h.set 1 (by simp; omega) (.int .u64 f)).set 2 (by simp; omega) (.int .u64 n)
  unfold CBlk
  rw [← hl]
  refine h2.congr ?_
  intro j _
  rw [flat_cons, flat_cons]
  match j with
  | 0 => simp [Cm.cells]
  | 1 => simp [Cm.cells]
  | 2 => simp [Cm.cells]
  | 3 => simp [Cm.cells]
  | 4 => simp [Cm.cells]
  | (j + 5) => simp [Cm.cells]
theorem head_facts {w : World} {g : Nat} {c : Cm} {r : List Cm} (h : CBlk w g (c :: r)) :
    w.cell? ⟨g, 1, none⟩ = some (.int .u64 c.first) ∧ w.cell? ⟨g, 2, none⟩ = some (.int .u64 c.count) ∧ w.frozen? ⟨g, 1, none⟩ = false ∧ w.frozen? ⟨g, 2, none⟩ = false := by
  obtain ⟨_, e1, e2, _, _⟩ := h.at 0 (by simp)
  exact ⟨e1, e2, (h.2 1 (by simp; omega)).2, (h.2 2 (by simp; omega)).2⟩
theorem sumU_mod (zs : List Cm) : sumU zs % 18446744073709551616 = sumU zs := by unfold sumU; omega

set_option maxHeartbeats 1000000 in
theorem trim_walk (a : Option Addr) (n : Nat) (zs : List Cm) (g : Int) (w : World) (hn : n ≤ 1048576) (h : CS w a n n zs) (hw : WfL zs) (ho : ordB zs = true) (hg0 : 0 ≤ g) (hg : g ≤ 18446744073709551614) :
    Calls Try.prog 42 #[.slice a n n, .int .u64 g] w fun e w' => ∃ a' m cap', e = .returned (.tuple #[.slice a' m cap', .int .u64 (trimN g zs)]) ∧ CO w' w.heap.size a' m cap' (trimA g zs) ∧ Below w.heap.size w w' := by
  obtain ⟨hl, hcap, hnil, hN⟩ := h
  have hfin := ord_all zs ho
  obtain ⟨i0, hi, hz0, hz1, hz2⟩ := info_parts info64
  have HN := hide hN
  have HW := hide hw
  have HF := hide hfin
  have HNIL := hide hnil
  clear hN hnil hw hfin ho
  go_enter Try.func42, Try.ntmps42
  go_wp2
  go_loopw [6, 7] (fun u i wr => ∃ k : Nat, k ≤ n ∧ i = .int .i64 k ∧ (∃ q, wr = w.drewN q) ∧ (∃ t, u = .int .u64 t ∧ Hid (t = sumU (zs.take k))) ∧ Hid (lead g zs = k + lead g (zs.drop k))) (fun _ i _ => n - (intOf i).toNat)
  case atStart => exact ⟨0, Nat.zero_le _, rfl, ⟨0, rfl⟩, ⟨0, rfl, hide rfl⟩, hide (by simp)⟩
  case round =>
    obtain ⟨k, hk, rfl, ⟨q, rfl⟩, ⟨t, rfl, ht⟩, hS⟩ := hrel
    by_cases hlt : k < n
    · obtain ⟨b, off, had, hbw, hcm⟩ := unhide HN (by omega)
      cases had
      obtain ⟨g0, g1, g2, g3, g4⟩ := hcm k hlt
      obtain ⟨⟨wf1, wf2⟩, ⟨wf3, wf4⟩⟩ := (unhide HW).at k (by omega)
      have hf : (zs.getD k cm0).first + (zs.getD k cm0).count ≤ 18446744073709551615 := unhide HF _ (by rw [List.getD_eq_getElem?_getD, List.getElem?_eq_getElem (by omega)]; simp)
      have hd : decide ((k : Int) < n) = true := by simp; omega
      by_cases h1 : (zs.getD k cm0).first + (zs.getD k cm0).count ≤ g + 1
      · have hS2 : Hid (lead g zs = k + 1 + lead g (zs.drop (k + 1))) := hide (by have := lead_go g zs k (by omega) h1; have := unhide hS; omega)
        have hs := sumU_step zs k (by omega)
        rw [← unhide ht] at hs
        generalize zs.getD k cm0 = c at *
        have HS := hide hs
        clear hcm HN HW HF hS hs HNIL g0 g3 g4
        go_wp2
        go_quiet (fail)
        go_wp2
        go_roundw
        case rel => exact ⟨k + 1, by omega, by go_num, ⟨_, rfl⟩, ⟨_, rfl, hide (unhide HS).symm⟩, hS2⟩
        case measure => simp [intOf]; omega
      · have hL : Hid (lead g zs = k) := hide (by have := lead_stop g zs k (by omega) h1; have := unhide hS; omega)
        have hdc := flat_drop_cells (k := k) hl hcm
        have hdr := drop_at zs k (by omega)
        have HDC := hide hdc
        clear hdc hcm hS HN HW HF HNIL g0 g3 g4
        generalize hc : zs.getD k cm0 = c at *
        have HDR := hide hdr
        clear hc hdr
        go_wp2
        go_quiet (fail)
        by_cases h2 : c.first ≤ g
        · go_wp2_with (at_builtin; refine wpList_append_own _ rfl _ _ 40 rfl w.heap.size 64 i0 _ 5 40 Try.underlying40 hi hz0 hz1 hz2 rfl (by decide) _ 0 [] rfl (World.ownsRow_nil _ _ _ _) ⟨b, off + k * 5, none⟩ (n - k) (n - k) (flat (zs.drop k)) rfl (by rw [flat_length]; simp; omega) (by exact unhide HDC) (flat_oneCell _) (by unfold maxLen; omega) (by omega) (by exact Nat.le_refl _) ?_; intro v1 w1 hown1 hgrow1 hnil1; obtain ⟨hbel1, g1, cap1, hv, hB1, hc1, hblk⟩ := own_left hl hlt hown1 hgrow1 rfl; clear hown1 hgrow1 hnil1; subst hv; rw [unhide HDR] at hblk; obtain ⟨e1, e2, f1, f2⟩ := head_facts hblk; have HBLK := hide hblk; have Hbel1 := hide hbel1; clear hblk hbel1)
          go_ret2
          refine ⟨_, _, _, congrArg Ending.returned ?_, ⟨?_, hc1, Or.inr ⟨g1, rfl, hB1, ?_⟩⟩, ((unhide Hbel1).setCell hB1 _).setCell hB1 _⟩
          · show Value.tuple #[_, Value.int .u64 _] = Value.tuple #[_, Value.int .u64 _]
            have e : trimN g zs = IntKind.u64.wrap (t + (g - c.first + 1)) := by
              unfold trimN
              rw [unhide hL, unhide HDR, ← unhide ht, IntKind.wrap_u64]
              simp only [headN, if_pos h2]
            rw [e]; rfl
          · unfold trimA
            rw [headCut_length, unhide hL, List.length_drop]; omega
          · unfold trimA
            rw [unhide hL, unhide HDR]
            have hp := head_put (unhide HBLK) (c.first + (g - c.first + 1)) (c.count - (g - c.first + 1))
            have ec : headCut g (c :: zs.drop (k + 1)) = { c with first := c.first + (g - c.first + 1), count := c.count - (g - c.first + 1) } :: zs.drop (k + 1) := by
              have x1 : c.first + (g - c.first + 1) = g + 1 := by omega
              have x2 : c.count - (g - c.first + 1) = c.first + c.count - (g + 1) := by omega
              rw [x1, x2]
              simp only [headCut, if_pos h2, cutC]
            rw [ec]
            exact hp
        · go_wp2_with (at_builtin; refine wpList_append_own _ rfl _ _ 40 rfl w.heap.size 64 i0 _ 5 40 Try.underlying40 hi hz0 hz1 hz2 rfl (by decide) _ 0 [] rfl (World.ownsRow_nil _ _ _ _) ⟨b, off + k * 5, none⟩ (n - k) (n - k) (flat (zs.drop k)) rfl (by rw [flat_length]; simp; omega) (by exact unhide HDC) (flat_oneCell _) (by unfold maxLen; omega) (by omega) (by exact Nat.le_refl _) ?_; intro v1 w1 hown1 hgrow1 hnil1; obtain ⟨hbel1, g1, cap1, hv, hB1, hc1, hblk⟩ := own_left hl hlt hown1 hgrow1 rfl; clear hown1 hgrow1 hnil1; subst hv; rw [unhide HDR] at hblk; obtain ⟨e1, e2, f1, f2⟩ := head_facts hblk; have HBLK := hide hblk; have Hbel1 := hide hbel1; clear hblk hbel1)
          go_ret2
          refine ⟨_, _, _, congrArg Ending.returned ?_, ⟨?_, hc1, Or.inr ⟨g1, rfl, hB1, ?_⟩⟩, unhide Hbel1⟩
          · show Value.tuple #[_, Value.int .u64 _] = Value.tuple #[_, Value.int .u64 _]
            have e : trimN g zs = t := by
              unfold trimN
              rw [unhide hL, unhide HDR]
              simp only [headN, if_neg (Int.not_le.2 h2), Int.add_zero]
              rw [sumU_mod, ← unhide ht]
            rw [e]; rfl
          · unfold trimA
            rw [headCut_length, unhide hL, List.length_drop]; omega
          · unfold trimA
            rw [unhide hL, unhide HDR]
            simp only [headCut, if_neg (Int.not_le.2 h2)]
            exact unhide HBLK
    · have hkn : k = n := by omega
      subst hkn
      have hd : decide ((k : Int) < k) = false := by simp
      have hL : Hid (lead g zs = k ∧ zs.drop k = []) := hide (by
        have e : zs.drop k = [] := List.drop_eq_nil_of_le (by omega)
        have := unhide hS
        rw [e] at this
        exact ⟨by simpa [lead] using this, e⟩)
      have hT : Hid (trimN g zs = t ∧ trimA g zs = []) := hide (by
        unfold trimN trimA
        rw [(unhide hL).1, (unhide hL).2]
        simp only [headN, headCut, Int.add_zero, and_true]
        rw [sumU_mod, ← unhide ht])
      clear hS HN HW HF hL
      cases a with
      | none =>
        obtain ⟨rfl, _⟩ := unhide HNIL rfl
        clear HNIL
        go_wp2
        go_quiet (fail)
        go_wp2_with (at_builtin; refine wpList_append_own_none rfl _ _ 40 rfl w.heap.size 64 i0 5 Try.underlying40 hi _ 0 [] rfl (World.ownsRow_nil _ _ _ _) rfl ?_)
        go_ret2
        refine ⟨none, 0, 0, congrArg Ending.returned ?_, ?_, below_drewN (Below.refl _ w) _⟩
        · rw [(unhide hT).1]; rfl
        · rw [(unhide hT).2]; exact ⟨rfl, Nat.le_refl _, Or.inl ⟨rfl, rfl, rfl⟩⟩
      | some ad =>
        clear HNIL
        go_wp2
        go_quiet (fail)
        go_wp2_with (at_builtin; (refine wpList_append_own _ rfl _ _ 40 rfl w.heap.size 64 i0 _ 5 40 Try.underlying40 hi hz0 hz1 hz2 rfl (by decide) _ 0 [] rfl (World.ownsRow_nil _ _ _ _) ad 0 0 [] rfl rfl (by intro j u hj; simp at hj) (by intro u hu; cases hu) (by unfold maxLen; omega) (by omega) (by exact Nat.le_refl _) ?_); intro v1 w1 hown1 hgrow1 hnil1; have hv := hnil1.2 ⟨rfl, rfl⟩; have hbel1 : Below w.heap.size w w1 := (below_drewN (Below.refl _ w) _).grown hgrow1 (Nat.le_refl _) (fun k h => by cases h); clear hnil1 hown1 hgrow1; subst hv)
        go_ret2
        refine ⟨none, 0, 0, congrArg Ending.returned ?_, ?_, hbel1⟩
        · rw [(unhide hT).1]; rfl
        · rw [(unhide hT).2]; exact ⟨rfl, Nat.le_refl _, Or.inl ⟨rfl, rfl, rfl⟩⟩
end Go.Proofs.Qxb6604323a
