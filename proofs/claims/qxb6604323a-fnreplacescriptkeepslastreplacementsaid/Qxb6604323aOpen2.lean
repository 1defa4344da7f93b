import Derived.Test.Qxb6604323aOpen
import Derived.Test.Qxb6604323aWalksI
namespace Go.Proofs.Qxb6604323a
open Go.ChangeShapes Go.WideShapes Go.ChangeAt Go.RowKit Go.Deep

theorem cells36 : Try.prog.cellsOf 36 = 6 := by kernel_rfl
theorem cells34 : Try.prog.cellsOf 34 = 1 := by kernel_rfl
theorem cells23 : Try.prog.cellsOf 23 = 1 := by kernel_rfl
theorem cells4 : Try.prog.cellsOf 4 = 1 := by kernel_rfl

theorem block_lt' {w : World} {b o : Nat} {v : Value} (h : w.cell? ⟨b, o, none⟩ = some v) : b < w.heap.size := by
  apply Decidable.byContradiction
  intro hn
  simp [World.cell?, Array.getElem?_eq_none (show w.heap.size ≤ b by omega)] at h

def WfU (us : List Int) : Prop := ∀ i, i < us.length → 0 ≤ us.getD i 0 ∧ us.getD i 0 ≤ 4294967295
def WfSt (s : St) : Prop := s.reps.length ≤ maxLen ∧ s.cms.length ≤ maxLen ∧ WfU s.reps ∧ WfL s.cms ∧ (0 ≤ s.com ∧ s.com ≤ 18446744073709551615) ∧ (0 ≤ s.trm ∧ s.trm ≤ 18446744073709551615)
def WfSS (n : Nat) (ss : List St) : Prop := ∀ i, i < n → WfSt (ss.getD i st0)
theorem WfSS.max63 {n : Nat} {ss : List St} (h : WfSS n ss) : Max63 n ss := by
  intro i hi
  obtain ⟨h1, h2, -⟩ := h i hi
  unfold maxLen at h1 h2
  omega

section
variable {H : Type} {enc : TypeId × Value → H} {w : World} {base : Nat} {spare : Nat → Bool} {held : Bool}

theorem open_u32s {fuel : Nat} {v : Value} {x : DataW H × List MemPlace} (h : DataW.trod enc Try.prog w base spare held fuel 34 [v] = some x) :
    ∃ a n cap us, v = .slice a n cap ∧ US w a n cap us ∧ WfU us ∧ n ≤ maxLen := by
  rcases open_slice1 Try.underlying34 cells25 h with ⟨hcs, _⟩ | ⟨a, len, cap, m, n', V, D, Pl, hcs, hb, hl, hm, hmm, hx, hall⟩
  · simp at hcs
    exact ⟨none, 0, 0, [], hcs, US.nil w, (fun i hi => nomatch hi), Nat.zero_le _⟩
  · simp at hcs
    have hlm : len ≤ m := by rw [hmm]; split <;> omega
    have hc : ∀ i, i < len → ∃ c : Int, w.cell? (a.add i) = some (.int .u32 c) ∧ (0 ≤ c ∧ c ≤ 4294967295) := by
      intro i hi
      obtain ⟨h1, h2⟩ := hall i (by omega)
      obtain ⟨c, e, _, w1⟩ := DataW.trod_int Try.underlying25 h2
      simp at e
      rw [e] at h1
      exact ⟨c, h1, wf_u32 w1⟩
    obtain ⟨f, hf⟩ := choose_lt hc
    have hget : ∀ i, i < len → ((List.range len).map f).getD i 0 = f i := by
      intro i hi
      simp [hi]
    refine ⟨some a, len, cap, (List.range len).map f, hcs, ⟨by simp, hl, (fun e => nomatch e), fun h0 => ?_⟩, ?_, Nat.le_trans hl hm⟩
    · obtain ⟨b, off, spot⟩ := a
      have hspot : spot = none := by
        have h1 := (hf 0 h0).1
        simpa [Addr.add] using World.cell?_spot h1
      subst hspot
      refine ⟨b, off, rfl, ?_, fun i hi => ?_⟩
      · have h1 := (hf 0 h0).1
        rw [add_plain] at h1
        exact block_lt' h1
      · rw [hget i hi]
        have := (hf i hi).1
        rwa [add_plain] at this
    · intro i hi
      simp only [List.length_map, List.length_range] at hi
      rw [hget i hi]
      exact (hf i hi).2

theorem open_st {fuel : Nat} {cs : List Value} {x : DataW H × List MemPlace} (h : DataW.trod enc Try.prog w base spare held fuel 36 cs = some x) :
    ∃ (s : St) (ar : Option Addr) (nr cr : Nat) (ac : Option Addr) (nc cc : Nat), cs = [.slice ar nr cr, .int .u64 s.com, .int .u64 s.trm, .bool s.sld, .bool s.tran, .slice ac nc cc] ∧ US w ar nr cr s.reps ∧ CS w ac nc cc s.cms ∧ WfSt s := by
  obtain ⟨xs, n, _, rfl, hl, hlen, hf⟩ := DataW.trod_struct Try.underlying36 h
  rw [cells36] at hl
  match cs, hl with
  | [v0, v1, v2, v3, v4, v5], _ =>
    match xs, hlen with
    | [y0, y1, y2, y3, y4, y5], _ =>
      have h0 : DataW.trod enc Try.prog w base spare held n 34 [v0] = some y0 := by simpa [cells34] using hf 0 _ rfl
      have h1 : DataW.trod enc Try.prog w base spare held n 22 [v1] = some y1 := by simpa [cells22] using hf 1 _ rfl
      have h2 : DataW.trod enc Try.prog w base spare held n 22 [v2] = some y2 := by simpa [cells22] using hf 2 _ rfl
      have h3 : DataW.trod enc Try.prog w base spare held n 4 [v3] = some y3 := by simpa [cells4] using hf 3 _ rfl
      have h4 : DataW.trod enc Try.prog w base spare held n 4 [v4] = some y4 := by simpa [cells4] using hf 4 _ rfl
      have h5 : DataW.trod enc Try.prog w base spare held n 23 [v5] = some y5 := by simpa [cells23] using hf 5 _ rfl
      obtain ⟨ar, nr, cr, us, e0, hus, hwu, hmu⟩ := open_u32s h0
      obtain ⟨a1, e1, _, w1⟩ := DataW.trod_int Try.underlying22 h1
      obtain ⟨a2, e2, _, w2⟩ := DataW.trod_int Try.underlying22 h2
      obtain ⟨b3, e3, _⟩ := DataW.trod_bool Try.underlying4 h3
      obtain ⟨b4, e4, _⟩ := DataW.trod_bool Try.underlying4 h4
      obtain ⟨ac, nc, cc, zs, e5, hcs, hwl, hmc⟩ := open_commits h5
      simp at e1 e2 e3 e4
      refine ⟨⟨us, a1, a2, b3, b4, zs⟩, ar, nr, cr, ac, nc, cc, ?_, hus, hcs, ?_⟩
      · rw [e0, e1, e2, e3, e4, e5]
      · exact ⟨by rw [hus.1]; exact hmu, by rw [hcs.1]; exact hmc, hwu, hwl, wf_u64 w1, wf_u64 w2⟩

theorem open_streams {fuel : Nat} {v : Value} {x : DataW H × List MemPlace} (h : DataW.trod enc Try.prog w base spare held fuel 24 [v] = some x) :
    ∃ a n cap ss, v = .slice a n cap ∧ SS w a n cap ss ∧ WfSS n ss ∧ n ≤ maxLen := by
  rcases open_slice Try.underlying24 h with ⟨hcs, _⟩ | ⟨a, len, cap, m, n', D, Pl, hcs, hb, hl, hm, hmm, hx, hall⟩
  · simp at hcs
    exact ⟨none, 0, 0, [], hcs, ⟨rfl, Nat.le_refl _, fun _ => ⟨rfl, rfl⟩, fun h => absurd h (Nat.lt_irrefl _)⟩, (fun i hi => absurd hi (Nat.not_lt_zero _)), Nat.zero_le _⟩
  · simp at hcs
    have hlm : len ≤ m := by rw [hmm]; split <;> omega
    rw [cells36] at hall
    have hc : ∀ i, i < len → ∃ s : St, ∃ ar nr cr ac nc cc, w.cells? base (a.add (i * 6)) 6 = some [.slice ar nr cr, .int .u64 s.com, .int .u64 s.trm, .bool s.sld, .bool s.tran, .slice ac nc cc] ∧ US w ar nr cr s.reps ∧ CS w ac nc cc s.cms ∧ WfSt s := by
      intro i hi
      obtain ⟨cs', h1, h2⟩ := hall i (by omega)
      obtain ⟨s, ar, nr, cr, ac, nc, cc, rfl, h3⟩ := open_st h2
      exact ⟨s, ar, nr, cr, ac, nc, cc, h1, h3⟩
    have : Inhabited St := ⟨st0⟩
    obtain ⟨f, hf⟩ := choose_lt hc
    have hget : ∀ i, i < len → ((List.range len).map f).getD i st0 = f i := by
      intro i hi
      simp [hi]
    refine ⟨some a, len, cap, (List.range len).map f, hcs, ⟨by simp, hl, (fun e => nomatch e), fun h0 => ?_⟩, ?_, Nat.le_trans hl hm⟩
    · obtain ⟨b, off, spot⟩ := a
      have hspot : spot = none := by
        obtain ⟨ar, nr, cr, ac, nc, cc, h1, -⟩ := hf 0 h0
        have := (World.cells?_some h1).2.2 0 (by omega)
        simpa [Addr.add] using World.cell?_spot this
      subst hspot
      refine ⟨b, off, rfl, ?_, fun i hi => ?_⟩
      · obtain ⟨ar, nr, cr, ac, nc, cc, h1, -⟩ := hf 0 h0
        have h1 := World.cells?_block h1 (by omega)
        simpa [Addr.add] using h1
      · rw [hget i hi]
        obtain ⟨ar, nr, cr, ac, nc, cc, h1, hus, hcs', -⟩ := hf i hi
        have key : ∀ t, t < 6 → w.cell? ⟨b, off + i * 6 + t, none⟩ = [Value.slice ar nr cr, .int .u64 (f i).com, .int .u64 (f i).trm, .bool (f i).sld, .bool (f i).tran, .slice ac nc cc][t]? := by
          intro t ht
          have := (World.cells?_some h1).2.2 t ht
          rw [add_add, add_plain] at this
          rw [Nat.add_assoc]; exact this
        exact ⟨ar, nr, cr, ac, nc, cc, key 0 (by omega), key 1 (by omega), key 2 (by omega), key 3 (by omega), key 4 (by omega), key 5 (by omega), hus, hcs'⟩
    · intro i hi
      rw [hget i hi]
      obtain ⟨ar, nr, cr, ac, nc, cc, -, -, -, h⟩ := hf i hi
      exact h
end
end Go.Proofs.Qxb6604323a
