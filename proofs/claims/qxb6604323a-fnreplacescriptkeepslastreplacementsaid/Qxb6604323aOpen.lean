import Derived.Test.Qxb6604323aWalksC
import Derived.Deep.Slices
namespace Go.Proofs.Qxb6604323a
open Go.ChangeShapes Go.WideShapes Go.ChangeAt Go.RowKit Go.Deep

theorem cells25 : Try.prog.cellsOf 25 = 1 := by kernel_rfl
theorem cells22 : Try.prog.cellsOf 22 = 1 := by kernel_rfl
theorem cells68 : Try.prog.cellsOf 68 = 5 := by kernel_rfl
theorem wf_u64 {n : Int} (h : (Lit.int .u64 n).wf = true) : 0 ≤ n ∧ n ≤ 18446744073709551615 := bounds_u64 h
theorem wf_u32 {n : Int} (h : (Lit.int .u32 n).wf = true) : 0 ≤ n ∧ n ≤ 4294967295 := bounds_u32 h

section
variable {H : Type} {enc : TypeId × Value → H} {w : World} {base : Nat} {spare : Nat → Bool} {held : Bool}

theorem open_cm {fuel : Nat} {cs : List Value} {x : DataW H × List MemPlace} (h : DataW.trod enc Try.prog w base spare held fuel 68 cs = some x) : ∃ c : Cm, cs = c.cells ∧ c.wf := by
  obtain ⟨xs, n, _, rfl, hl, hlen, hf⟩ := DataW.trod_struct Try.underlying68 h
  rw [cells68] at hl
  match cs, hl with
  | [v0, v1, v2, v3, v4], _ =>
    match xs, hlen with
    | [y0, y1, y2, y3, y4], _ =>
      have h0 : DataW.trod enc Try.prog w base spare held n 25 [v0] = some y0 := by simpa [cells25] using hf 0 _ rfl
      have h1 : DataW.trod enc Try.prog w base spare held n 22 [v1] = some y1 := by simpa [cells22] using hf 1 _ rfl
      have h2 : DataW.trod enc Try.prog w base spare held n 22 [v2] = some y2 := by simpa [cells22] using hf 2 _ rfl
      have h3 : DataW.trod enc Try.prog w base spare held n 22 [v3] = some y3 := by simpa [cells22] using hf 3 _ rfl
      have h4 : DataW.trod enc Try.prog w base spare held n 22 [v4] = some y4 := by simpa [cells22] using hf 4 _ rfl
      obtain ⟨a0, e0, _, _⟩ := DataW.trod_int Try.underlying25 h0
      obtain ⟨a1, e1, _, w1⟩ := DataW.trod_int Try.underlying22 h1
      obtain ⟨a2, e2, _, w2⟩ := DataW.trod_int Try.underlying22 h2
      obtain ⟨a3, e3, _, _⟩ := DataW.trod_int Try.underlying22 h3
      obtain ⟨a4, e4, _, _⟩ := DataW.trod_int Try.underlying22 h4
      simp at e0 e1 e2 e3 e4
      refine ⟨⟨a0, a1, a2, a3, a4⟩, ?_, wf_u64 w1, wf_u64 w2⟩
      rw [e0, e1, e2, e3, e4]; rfl

theorem open_commits {fuel : Nat} {v : Value} {x : DataW H × List MemPlace} (h : DataW.trod enc Try.prog w base spare held fuel 23 [v] = some x) :
    ∃ a n cap zs, v = .slice a n cap ∧ CS w a n cap zs ∧ WfL zs ∧ n ≤ maxLen := by
  rcases open_slice Try.underlying23 h with ⟨hcs, _⟩ | ⟨a, len, cap, m, n', D, Pl, hcs, hb, hl, hm, hmm, hx, hall⟩
  · simp at hcs
    exact ⟨none, 0, 0, [], hcs, CS.nil w, (fun c hc => nomatch hc), Nat.zero_le _⟩
  · simp at hcs
    have hlm : len ≤ m := by rw [hmm]; split <;> omega
    rw [cells68] at hall
    have hc : ∀ i, i < len → ∃ c : Cm, w.cells? base (a.add (i * 5)) 5 = some c.cells ∧ c.wf := by
      intro i hi
      obtain ⟨cs', h1, h2⟩ := hall i (by omega)
      obtain ⟨c, rfl, hw⟩ := open_cm h2
      exact ⟨c, h1, hw⟩
    have : Inhabited Cm := ⟨cm0⟩
    obtain ⟨f, hf⟩ := choose_lt hc
    have hget : ∀ i, i < len → ((List.range len).map f).getD i cm0 = f i := by
      intro i hi
      simp [hi]
    refine ⟨some a, len, cap, (List.range len).map f, hcs, ⟨by simp, hl, (fun e => nomatch e), fun h0 => ?_⟩, ?_, Nat.le_trans hl hm⟩
    · have hcell : ∀ i t, i < len → t < 5 → w.cell? ((a.add (i * 5)).add t) = (f i).cells[t]? := by
        intro i t hi ht
        exact (World.cells?_some (hf i hi).1).2.2 t ht
      obtain ⟨b, off, spot⟩ := a
      have hspot : spot = none := by
        have h1 := hcell 0 0 h0 (by omega)
        have h2 : (f 0).cells[0]? = some (.int .u32 (f 0).id) := rfl
        rw [h2] at h1
        simpa [Addr.add] using World.cell?_spot h1
      subst hspot
      refine ⟨b, off, rfl, ?_, fun i hi => ?_⟩
      · have h1 := World.cells?_block (hf 0 h0).1 (by omega)
        simpa [Addr.add] using h1
      · rw [hget i hi]
        have key : ∀ t, t < 5 → w.cell? ⟨b, off + i * 5 + t, none⟩ = (f i).cells[t]? := by
          intro t ht
          have := hcell i t hi ht
          rw [add_add, add_plain] at this
          rw [Nat.add_assoc]; exact this
        exact ⟨key 0 (by omega), key 1 (by omega), key 2 (by omega), key 3 (by omega), key 4 (by omega)⟩
    · intro c hc
      simp only [List.mem_map, List.mem_range] at hc
      obtain ⟨i, hi, rfl⟩ := hc
      exact (hf i hi).2
end
end Go.Proofs.Qxb6604323a
