import Derived.Test.Qxb6604323aPlainT
namespace Go.Proofs.Qxb6604323a
open Go.ChangeShapes Go.WideShapes Go.ChangeAt Go.RowKit

theorem owns_below {w w' : World} {B : Nat} {e : TypeId} {sz n : Nat} {v : Value} {xs : List Value} (h : w.ownsRow B e sz v n xs) (hb : Below w.heap.size w w') : w'.ownsRow B e sz v n xs := by
  obtain ⟨hl, h | ⟨g, cap, cur, hv, hB, hg, rest⟩⟩ := h
  · exact ⟨hl, Or.inl h⟩
  · refine ⟨hl, Or.inr ⟨g, cap, cur, hv, hB, ?_, rest⟩⟩
    have : g < w.heap.size := by
      rcases Nat.lt_or_ge g w.heap.size with h | h
      · exact h
      · rw [Array.getElem?_eq_none h] at hg; cases hg
    rw [hb.block g this]; exact hg

/-- Commits in memory of the call's own (from block B on). -/
def CO (w : World) (B : Nat) (a : Option Addr) (n cap : Nat) (zs : List Cm) : Prop :=
  zs.length = n ∧ n ≤ cap ∧ ((a = none ∧ n = 0 ∧ cap = 0) ∨ ∃ g, a = some ⟨g, 0, none⟩ ∧ B ≤ g ∧ CBlk w g zs)
theorem CO.cs {w : World} {B : Nat} {a : Option Addr} {n cap : Nat} {zs : List Cm} (h : CO w B a n cap zs) : CS w a n cap zs := by
  obtain ⟨hl, hc, ⟨rfl, hn, hcap⟩ | ⟨g, rfl, _, hB⟩⟩ := h
  · exact ⟨hl, hc, fun _ => ⟨hn, hcap⟩, fun h => absurd h (by omega)⟩
  · subst hl
    exact hB.cs hc
theorem co_of_owns {w : World} {B n : Nat} {v : Value} {zs : List Cm} (h : w.ownsRow B 64 5 v n (flat zs)) (hn : n = zs.length) : ∃ a cap, v = .slice a n cap ∧ CO w B a n cap zs := by
  rcases blk_of_owns h with ⟨hv, h0⟩ | ⟨g, cap, hv, hB, hc, hb⟩
  · exact ⟨none, 0, by rw [hv, h0], hn.symm, by omega, Or.inl ⟨rfl, h0, rfl⟩⟩
  · subst hn
    exact ⟨_, cap, hv, rfl, hc, Or.inr ⟨g, rfl, hB, hb⟩⟩

/-- 'kept = append(kept, c)': the commit lies in the block that the statement has just laid. -/
theorem wpList_append_cm {ops : Array Oper} {rest : List Oper} {o : Oper} {a : Act} {Q : Exit → Act → World → Prop} (hgd : o.guard = none) (s x : Operand)
    (ho : o.op = .call { callee := .builtin .append, args := #[s, x], argTypes := #[40, 40] })
    (B : Nat) (i : TypeInfo) (hi : Try.prog.info? 64 = some i) (hz : i.zero = some (.agg #[.int .u32 0, .int .u64 0, .int .u64 0, .int .u64 0, .int .u64 0])) (hsize : i.size = 5) (hby : i.bytes = 40)
    (v : Value) (n : Nat) (xs : List Value) (hs : a.eval s = v) (W0 w0 : World) (c0 c1 c2 c3 c4 : Int) (hown : w0.ownsRow B 64 5 v n xs) (hbel : Below B W0 w0) (hB : B ≤ w0.heap.size)
    (N : Nat) (hx : a.eval x = .slice (some ⟨N, 0, none⟩) 1 1) (hN : N = w0.heap.size) (hlen : n + 1 ≤ 1099511627776)
    (h : ∀ v' w', w'.ownsRow B 64 5 v' (n + 1) (xs ++ [.int .u32 c0, .int .u64 c1, .int .u64 c2, .int .u64 c3, .int .u64 c4]) → Below B W0 w' → wpList Try.prog ops Q rest (a.put o.dst v') w') :
    wpList Try.prog ops Q (o :: rest) a (w0.alloc (.cells #[.int .u32 c0, .int .u64 c1, .int .u64 c2, .int .u64 c3, .int .u64 c4] 64)) := by
  subst hN
  have hown' := hown.alloc (.cells #[.int .u32 c0, .int .u64 c1, .int .u64 c2, .int .u64 c3, .int .u64 c4] 64)
  refine wpList_append_own _ hgd s x 40 ho B 64 i _ 5 40 Try.underlying40 hi hz hsize hby rfl (by decide) v n xs hs hown' ⟨w0.heap.size, 0, none⟩ 1 1 [.int .u32 c0, .int .u64 c1, .int .u64 c2, .int .u64 c3, .int .u64 c4] hx rfl ?_ ?_ (by unfold maxLen; omega) (by omega) (by simp; omega) ?_
  · intro j u hj
    match j, hj with
    | 0, hj => simp at hj; subst hj; simp [Addr.add]
    | 1, hj => simp at hj; subst hj; simp [Addr.add]
    | 2, hj => simp at hj; subst hj; simp [Addr.add]
    | 3, hj => simp at hj; subst hj; simp [Addr.add]
    | 4, hj => simp at hj; subst hj; simp [Addr.add]
    | (j + 5), hj => simp at hj
  · intro u hu
    simp at hu
    rcases hu with rfl | rfl | rfl | rfl | rfl <;> rfl
  · intro v' w' ho' hg _
    exact h v' w' ho' ((hbel.alloc hB _).grown hg (by simp; omega) (fun k hk => (hown'.lt k hk).1))

theorem model_step (g : Int) (zs : List Cm) (k : Nat) (h : k < zs.length) : modelT g (zs.take (k + 1)) = modelT g (zs.take k) ++ keep1 g (zs.getD k cm0) := by
  rw [take_snoc zs k h]; simp [modelT]
theorem model_len (g : Int) (zs : List Cm) : (modelT g zs).length ≤ zs.length := by
  induction zs with
  | nil => simp [modelT]
  | cons c t ih =>
    have e : modelT g (c :: t) = keep1 g c ++ modelT g t := by simp [modelT]
    have : (keep1 g c).length ≤ 1 := by unfold keep1; split <;> simp
    rw [e]; simp; omega

set_option maxHeartbeats 1000000 in
theorem model_walk (a : Option Addr) (n cap : Nat) (zs : List Cm) (g : Int) (w : World) (hn : n ≤ 1048576) (h : CS w a n cap zs) (hw : WfL zs) (ho : ordB zs = true) (hg0 : 0 ≤ g) (hg : g ≤ 18446744073709551614) :
    Calls Try.prog 32 #[.slice a n cap, .int .u64 g] w fun e w' => ∃ a' m cap', e = .returned (.slice a' m cap') ∧ CO w' w.heap.size a' m cap' (modelT g zs) ∧ Below w.heap.size w w' := by
  obtain ⟨hl, hcap, hnil, hN⟩ := h
  have hfin := ord_all zs ho
  obtain ⟨i0, hi, hz0, hz1, hz2⟩ := info_parts info64
  have HN := hide hN
  have HW := hide hw
  have HF := hide hfin
  clear hN hnil hw hfin ho
  go_enter Try.func32, Try.ntmps32
  go_wp2
  go_loopw [5, 6] (fun v i wr => ∃ k : Nat, k ≤ n ∧ i = .int .i64 k ∧ Below w.heap.size w wr ∧ ∃ m, wr.ownsRow w.heap.size 64 5 v m (flat (modelT g (zs.take k))) ∧ Hid (m = (modelT g (zs.take k)).length)) (fun _ i _ => n - (intOf i).toNat)
  case atStart => exact ⟨0, Nat.zero_le _, rfl, Below.refl _ _, 0, World.ownsRow_nil _ _ _ _, hide rfl⟩
  case round =>
    obtain ⟨k, hk, rfl, hbel, m, hown, hm⟩ := hrel
    have hml : m ≤ n := by
      have h1 := model_len g (zs.take k)
      have h2 : (zs.take k).length ≤ zs.length := by simp; omega
      rw [unhide hm]; omega
    by_cases hlt : k < n
    · obtain ⟨b, off, had, hbw, hcm⟩ := unhide HN (by omega)
      cases had
      obtain ⟨g0, g1, g2, g3, g4⟩ := (hcm k hlt).below hbel hbw
      obtain ⟨⟨wf1, wf2⟩, ⟨wf3, wf4⟩⟩ := (unhide HW).at k (by omega)
      have hf : (zs.getD k cm0).first + (zs.getD k cm0).count ≤ 18446744073709551615 := unhide HF _ (by rw [List.getD_eq_getElem?_getD, List.getElem?_eq_getElem (by omega)]; simp)
      have hst := model_step g zs k (by omega)
      generalize hc : zs.getD k cm0 = c at *
      have HC := hide hc
      have HST := hide hst
      have Hbel := hide hbel
      clear hcm HN HW HF hc hst hbel
      go_wp2_with fail
      refine (toCutCommit_walk _ _ _ _ _ _).mono ?_
      rintro e w2 ⟨rfl, hb3⟩
      clear g0 g1 g2 g3 g4
      have Hb3 := hide hb3
      have Hbs := hide ((unhide Hbel).trans (hb3.mono (unhide Hbel).size))
      clear hb3
      by_cases h1 : c.first + c.count ≤ g + 1
      · have e1 : keep1 g c = [] := by unfold keep1; rw [if_pos h1]
        rw [e1, List.append_nil] at HST
        clear e1
        go_wp2
        go_roundw
        case rel =>
          refine ⟨k + 1, by omega, by go_num, (unhide Hbs).alloc (unhide Hbs).size _, m, ?_, ?_⟩
          · rw [unhide HST]; exact owns_below hown ((unhide Hb3).alloc (unhide Hb3).size _)
          · rw [unhide HST]; exact hm
        case measure => simp [intOf]; omega
      · by_cases h2 : c.first ≤ g
        · have e1 : keep1 g c = [cutC g c] := by unfold keep1; rw [if_neg h1, if_pos h2]
          rw [e1] at HST
          clear e1
          go_wp2_with (at_builtin; (refine wpList_append_cm rfl _ _ rfl w.heap.size i0 hi hz0 hz1 hz2 _ _ _ rfl w _ _ _ _ _ _ (owns_below hown ((unhide Hb3).alloc (unhide Hb3).size _)) ((unhide Hbs).alloc (unhide Hbs).size _) (by have := (unhide Hbs).size; simp; omega) _ rfl (by simp) (by omega) ?_); intro v1 w1 hown1 hbel1)
          go_roundw
          case rel =>
            refine ⟨k + 1, by omega, by go_num, hbel1, m + 1, ?_, ?_⟩
            · rw [unhide HST, flat_append]; exact hown1
            · rw [unhide HST, unhide hm]; exact hide (by simp)
          case measure => simp [intOf]; omega
        · have e1 : keep1 g c = [c] := by unfold keep1; rw [if_neg h1, if_neg h2]
          rw [e1] at HST
          clear e1
          go_wp2_with (at_builtin; (refine wpList_append_cm rfl _ _ rfl w.heap.size i0 hi hz0 hz1 hz2 _ _ _ rfl w _ _ _ _ _ _ (owns_below hown ((unhide Hb3).alloc (unhide Hb3).size _)) ((unhide Hbs).alloc (unhide Hbs).size _) (by have := (unhide Hbs).size; simp; omega) _ rfl (by simp) (by omega) ?_); intro v1 w1 hown1 hbel1)
          go_roundw
          case rel =>
            refine ⟨k + 1, by omega, by go_num, hbel1, m + 1, ?_, ?_⟩
            · rw [unhide HST, flat_append]; exact hown1
            · rw [unhide HST, unhide hm]; exact hide (by simp)
          case measure => simp [intOf]; omega
    · have e : zs.take k = zs := List.take_of_length_le (by omega)
      rw [e] at hown hm
      obtain ⟨a', cap', hv, hco⟩ := co_of_owns hown (unhide hm)
      subst hv
      go_wp2
      go_ret
      exact ⟨_, _, _, rfl, hco, hbel⟩
end Go.Proofs.Qxb6604323a
