import Derived.Test.Qxb6603854aCutWalks
import Derived.Test.Qxb6603854aPlainB
import Derived.Lib.BufSteps
import Derived.Laws.IdiomStrings
import Derived.Lib.BufferRead
namespace Go.Proofs.Qxb6603854a
open Go.ChangeShapes Go.WideShapes Go.ChangeAt Go.RowKit Go.PlainAid

def cellsU (l : List UInt8) : List Value := l.map fun b => Value.int .u8 (b.toNat : Int)
theorem cellsU_len (l : List UInt8) : (cellsU l).length = l.length := by simp [cellsU]
theorem info5 : (Try.prog.info? 5).map (fun i => (i.zero, i.size, i.bytes)) = some (some (.int .u8 0), 1, 1) := by kernel_rfl

theorem conv_own {w W0 : World} {B : Nat} {v : Value} {l : List UInt8} (h : Lib.OwnBuf B 5 v l.length (cellsU l) W0 w) :
    (convert 27 9 v).run Try.prog w = .ok (.string (mkS l)) w := by
  obtain ⟨hl, h | h⟩ := h.1
  · obtain ⟨rfl, hn⟩ := h
    have : l = [] := List.length_eq_zero_iff.1 hn
    subst this
    exact Lib.run_convert_nil_bytes w 27 9 5 0 Try.underlying27 Try.underlying5 Try.underlying9
  · obtain ⟨g, cap, cur, fz, hv, rest⟩ := h
    subst hv
    refine run_convert_bytes_back w 27 9 5 ⟨g, 0, none⟩ cap l Try.underlying27 Try.underlying5 Try.underlying9 ?_
    intro j hj
    have hF : w.ownsRowF B 5 1 (.slice (some ⟨g, 0, none⟩) l.length cap) l.length (cellsU l) := h.1
    exact hF.cells (g := g) rfl j _ (by simp [cellsU, hj])

theorem esc_step_two {B k : Nat} {v : Value} {W0 w : World} (x : ByteArray) (h : k < x.size) (hc : x[k].toNat = 34 ∨ x[k].toNat = 92)
    (hb : Lib.OwnBuf B 5 v ((esc (x.data.toList.take k)).length + 1 + 1) (cellsU (esc (x.data.toList.take k)) ++ [.int .u8 92] ++ [.int .u8 (x[k].toNat : Int)]) W0 w) :
    Lib.OwnBuf B 5 v (esc (x.data.toList.take (k + 1))).length (cellsU (esc (x.data.toList.take (k + 1)))) W0 w := by
  have e : esc1 x[k] = [92, x[k]] := by unfold esc1; rw [if_pos hc]
  rw [take_snoc x k h, esc_snoc, e]
  have e2 : cellsU (esc (x.data.toList.take k) ++ [92, x[k]]) = cellsU (esc (x.data.toList.take k)) ++ [.int .u8 92] ++ [.int .u8 (x[k].toNat : Int)] := by
    simp [cellsU]
  rw [e2]
  have e3 : (esc (x.data.toList.take k) ++ [92, x[k]]).length = (esc (x.data.toList.take k)).length + 1 + 1 := by simp
  rw [e3]
  exact hb
theorem esc_step_one {B k : Nat} {v : Value} {W0 w : World} (x : ByteArray) (h : k < x.size) (hc : ¬ (x[k].toNat = 34 ∨ x[k].toNat = 92))
    (hb : Lib.OwnBuf B 5 v ((esc (x.data.toList.take k)).length + 1) (cellsU (esc (x.data.toList.take k)) ++ [.int .u8 (x[k].toNat : Int)]) W0 w) :
    Lib.OwnBuf B 5 v (esc (x.data.toList.take (k + 1))).length (cellsU (esc (x.data.toList.take (k + 1)))) W0 w := by
  have e : esc1 x[k] = [x[k]] := by unfold esc1; rw [if_neg hc]
  rw [take_snoc x k h, esc_snoc, e]
  have e2 : cellsU (esc (x.data.toList.take k) ++ [x[k]]) = cellsU (esc (x.data.toList.take k)) ++ [.int .u8 (x[k].toNat : Int)] := by
    simp [cellsU]
  rw [e2]
  have e3 : (esc (x.data.toList.take k) ++ [x[k]]).length = (esc (x.data.toList.take k)).length + 1 := by simp
  rw [e3]
  exact hb

set_option maxHeartbeats 1000000 in
theorem esc_walk (x : ByteArray) (w : World) (ha : x.size ≤ 65536) :
    Calls Try.prog 10 #[.string x] w fun e w' => e = .returned (.string (mkS (esc x.data.toList))) ∧ Below w.heap.size w w' := by
  obtain ⟨i0, hi, hz0, hz1, hz2⟩ := info_parts info5
  go_enter Try.func10, Try.ntmps10
  go_wp2_with (at_make; refine wpList_make_own _ rfl _ _ 27 rfl w.heap.size 5 i0 (.int .u8 0) 1 Try.underlying27 hi hz0 hz1 _ _ _ (2 * x.size) rfl rfl (by omega) (by rw [hz2]; omega) (by unfold maxLen; omega) (Nat.le_refl _) ?_; intro w0 hown0 hgrow0)
  go_loopw [3, 4] (fun v i wr => ∃ k : Nat, k ≤ x.size ∧ i = .int .i64 k ∧ Lib.OwnBuf w.heap.size 5 v (esc (x.data.toList.take k)).length (cellsU (esc (x.data.toList.take k))) w wr) (fun _ i _ => x.size - (intOf i).toNat)
  case atStart =>
    refine ⟨0, Nat.zero_le _, rfl, World.ownsRowF_of hown0, ?_, hgrow0.size⟩
    exact (Below.refl _ _).grown hgrow0 (Nat.le_refl _) (fun k h => by cases h)
  case round =>
    obtain ⟨k, hk, rfl, hown⟩ := hrel
    have hel := esc_len (x.data.toList.take k)
    have htl : (x.data.toList.take k).length ≤ k := List.length_take_le _ _
    by_cases hlt : k < x.size
    · by_cases hc : x[k].toNat = 34 ∨ x[k].toNat = 92
      · have hs2 := fun (v : Value) (wz : World) => esc_step_two (B := w.heap.size) (v := v) (W0 := w) (w := wz) x hlt hc
        have HS := hide hs2
        clear hs2
        by_cases hq : x[k].toNat = 34
        · have hc1 : ((x[k].toNat : Int) == 34) = true := by simp; omega
          clear hc hq
          go_wp2_with (first
            | (at_builtin; refine Lib.wpList_append_byte rfl _ _ 27 rfl w.heap.size 5 i0 Try.underlying27 hi hz0 hz1 hz2 _ _ _ rfl w _ _ (by assumption) rfl (by omega) ?_; intro _ _ hb))
          go_roundw
          case rel => exact ⟨k + 1, by omega, by go_num, unhide HS _ _ hb⟩
          case measure => simp [intOf]; omega
        · have hc1 : ((x[k].toNat : Int) == 34) = false := by simp; omega
          have hc2 : ((x[k].toNat : Int) == 92) = true := by simp; omega
          clear hc hq
          go_wp2_with (first
            | (at_builtin; refine Lib.wpList_append_byte rfl _ _ 27 rfl w.heap.size 5 i0 Try.underlying27 hi hz0 hz1 hz2 _ _ _ rfl w _ _ (by assumption) rfl (by omega) ?_; intro _ _ hb))
          go_roundw
          case rel => exact ⟨k + 1, by omega, by go_num, unhide HS _ _ hb⟩
          case measure => simp [intOf]; omega
      · have hc1 : ((x[k].toNat : Int) == 34) = false := by simp; omega
        have hc2 : ((x[k].toNat : Int) == 92) = false := by simp; omega
        go_wp2_with (first
          | (at_builtin; refine Lib.wpList_append_byte rfl _ _ 27 rfl w.heap.size 5 i0 Try.underlying27 hi hz0 hz1 hz2 _ _ _ rfl w _ _ (by assumption) rfl (by omega) ?_; intro _ _ hb))
        go_roundw
        case rel => exact ⟨k + 1, by omega, by go_num, esc_step_one x hlt hc hb⟩
        case measure => simp [intOf]; omega
    · have hconv := conv_own hown
      have HE : Hid (x.data.toList.take k = x.data.toList) := hide (List.take_of_length_le (by simp; omega))
      go_wp2
      go_ret
      refine ⟨?_, hown.2.1⟩
      show Ending.returned (Value.string (mkS (esc (x.data.toList.take k)))) = _
      rw [unhide HE]

/-- 'buf = append(buf, c, d)': the two new bytes lie in the block that the statement has just laid. -/
theorem wpList_append_two {ops : Array Oper} {rest : List Oper} {o : Oper} {a : Act} {Q : Exit → Act → World → Prop} (hgd : o.guard = none) (s x : Operand)
    (ho : o.op = .call { callee := .builtin .append, args := #[s, x], argTypes := #[27, 27] })
    (B : Nat) (i : TypeInfo) (hi : Try.prog.info? 5 = some i) (hz : i.zero = some (.int .u8 0)) (hsize : i.size = 1) (hby : i.bytes = 1)
    (v : Value) (n : Nat) (xs : List Value) (hs : a.eval s = v) (W0 w0 : World) (c d : Int) (hb : Lib.OwnBuf B 5 v n xs W0 w0)
    (hx : a.eval x = .slice (some ⟨w0.heap.size, 0, none⟩) 2 2) (hlen : n + 2 ≤ 140737488355328)
    (h : ∀ v' w', Lib.OwnBuf B 5 v' (n + 2) (xs ++ [.int .u8 c, .int .u8 d]) W0 w' → wpList Try.prog ops Q rest (a.put o.dst v') w') : wpList Try.prog ops Q (o :: rest) a (w0.alloc (.cells #[.int .u8 c, .int .u8 d] 5)) := by
  have hb' := hb.alloc (.cells #[.int .u8 c, .int .u8 d] 5)
  refine wpList_append_ownF _ hgd s x 27 ho B 5 i (.int .u8 0) 1 1 Try.underlying27 hi hz hsize hby rfl (by decide) v n xs hs hb'.1 ⟨w0.heap.size, 0, none⟩ 2 2 [.int .u8 c, .int .u8 d] hx rfl ?_ ?_ (by unfold maxLen; omega) (by omega) hb'.2.2 ?_
  · intro j u hj
    match j, hj with
    | 0, hj => simp at hj; subst hj; simp [Addr.add]
    | 1, hj => simp at hj; subst hj; simp [Addr.add]
    | (j + 2), hj => simp at hj
  · intro u hu
    simp at hu
    rcases hu with rfl | rfl <;> rfl
  · intro v' w' ho' hg _
    exact h v' w' (hb'.grown ho' hg)

theorem strCells_mkS (l : List UInt8) : Lib.strCells (mkS l) = cellsU l := by simp [Lib.strCells, cellsU, mkS_data]

theorem line_own {B : Nat} {v : Value} {W0 w : World} (x tail : ByteArray) {E : ByteArray} (hE : mkS (esc x.data.toList) = E)
    (hb : Lib.OwnBuf B 5 v (0 + 1 + E.size + 2 + tail.size) ([] ++ [.int .u8 34] ++ Lib.strCells E ++ [.int .u8 34, .int .u8 32] ++ Lib.strCells tail) W0 w) :
    Lib.OwnBuf B 5 v (lineOf x.data.toList tail.data.toList).length (cellsU (lineOf x.data.toList tail.data.toList)) W0 w := by
  subst hE
  have e1 : cellsU (lineOf x.data.toList tail.data.toList) = [] ++ [.int .u8 34] ++ Lib.strCells (mkS (esc x.data.toList)) ++ [.int .u8 34, .int .u8 32] ++ Lib.strCells tail := by
    rw [strCells_mkS]
    simp [lineOf, cellsU, Lib.strCells]
  have e2 : (lineOf x.data.toList tail.data.toList).length = 0 + 1 + (mkS (esc x.data.toList)).size + 2 + tail.size := by
    rw [mkS_size]
    simp [lineOf]; omega
  rw [e1, e2]
  exact hb

theorem bytes9_walk (a b : ByteArray) (w : World) (ha : a.size ≤ maxLen) (hb : b.size ≤ maxLen) :
    Calls Try.prog 9 #[.string a, .string b] w fun e w' => e = .returned (.bool (decide (a.size + b.size ≤ 1048576))) ∧ w' = w := by
  unfold maxLen at ha hb
  go_enter Try.func9, Try.ntmps9
  go_wp2
  all_goals go_ret
  all_goals exact ⟨congrArg (fun b => Ending.returned (.bool b)) (by simp; omega), rfl⟩

set_option maxHeartbeats 1000000 in
theorem inverts_walk (x tail : ByteArray) (w : World) (ha : x.size ≤ 65536) (hb : tail.size ≤ 65536) :
    Calls Try.prog 4 #[.string x, .string tail] w fun e w' => e = .returned (.bool true) ∧ Below w.heap.size w w' := by
  obtain ⟨i0, hi, hz0, hz1, hz2⟩ := info_parts info5
  have hesc := esc_walk x w ha
  have hEs : (mkS (esc x.data.toList)).size ≤ 131072 := by rw [mkS_size]; have := esc_len x.data.toList; simp at this; omega
  have hF := line_field x.data.toList tail.data.toList
  have hR := line_rest x.data.toList tail.data.toList
  have hO := line_ok x.data.toList tail.data.toList
  rw [mkS_eta] at hR
  have hLs : (mkS (lineOf x.data.toList tail.data.toList)).size ≤ 1048576000 := by rw [mkS_size]; have := esc_len x.data.toList; simp [lineOf] at this ⊢; omega
  have hline := fun (v : Value) (wz : World) => line_own (B := w.heap.size) (v := v) (W0 := w) (w := wz) x tail (E := mkS (esc x.data.toList)) rfl
  generalize mkS (esc x.data.toList) = E at *
  generalize lineOf x.data.toList tail.data.toList = L at *
  have Hesc := hide hesc
  have HF := hide hF
  have HR := hide hR
  have HO := hide hO
  have Hline := hide hline
  clear hesc hF hR hO hline
  have hd : decide (x.size + tail.size ≤ 1048576) = true := by simp; omega
  go_enter Try.func4, Try.ntmps4
  go_wp2_with (first
    | (go_at_call 9; refine (bytes9_walk _ _ _ (by unfold maxLen; omega) (by unfold maxLen; omega)).mono ?_; rintro e w' ⟨rfl, hw⟩; have hw2 := hw.symm; clear hw; subst hw2)
    | (go_at_call 10; refine (unhide Hesc).mono ?_; rintro e w1 ⟨rfl, hb1⟩; have hb1s := hb1.size)
    | (at_make; refine wpList_make_own _ rfl _ _ 27 rfl w.heap.size 5 i0 (.int .u8 0) 1 Try.underlying27 hi hz0 hz1 _ _ _ (E.size + tail.size + 3) rfl rfl (by omega) (by rw [hz2]; omega) (by unfold maxLen; omega) hb1s ?_; intro w2 hown0 hgrow0; have hb2 : Lib.OwnBuf w.heap.size 5 _ _ _ w _ := ⟨World.ownsRowF_of hown0, hb1.grown hgrow0 hb1s (fun k h => by cases h), Nat.le_trans hb1s hgrow0.size⟩; clear hown0 hgrow0)
    | (at_builtin; refine Lib.wpList_append_byte rfl (.tmp 31) (.tmp 32) 27 rfl w.heap.size 5 i0 Try.underlying27 hi hz0 hz1 hz2 _ _ _ rfl w _ _ hb2 rfl (by omega) ?_; intro v3 w3 hb3)
    | (at_builtin; refine Lib.wpList_append_text rfl (.tmp 34) (.tmp 35) 27 9 rfl w.heap.size 5 i0 Try.underlying27 Try.underlying9 hi hz0 hz1 hz2 _ _ _ rfl w hb3 E rfl (by omega) ?_; intro v4 w4 hb4)
    | (at_builtin; refine wpList_append_two rfl (.tmp 37) (.tmp 38) rfl w.heap.size i0 hi hz0 hz1 hz2 _ _ _ rfl w _ _ _ hb4 rfl (by omega) ?_; intro v5 w5 hb5)
    | (at_builtin; refine Lib.wpList_append_text rfl (.tmp 40) (.tmp 41) 27 9 rfl w.heap.size 5 i0 Try.underlying27 Try.underlying9 hi hz0 hz1 hz2 _ _ _ rfl w hb5 tail rfl (by omega) ?_; intro v6 w6 hb6; have hconv := conv_own (unhide Hline _ _ hb6); have hb7 := hb6.2.1; clear hb3 hb4 hb5 hb6)
    | (go_at_call 7; refine (zzcut_walk _ _ hLs).mono ?_; rintro e w7 ⟨rfl, hw⟩; have hw2 := hw.symm; clear hw; subst hw2; rw [unhide HF, unhide HR, unhide HO]))
  go_ret
  exact ⟨rfl, hb7⟩

theorem inverts_any (x tail : ByteArray) (w : World) (ha : x.size ≤ maxLen) (hb : tail.size ≤ maxLen) :
    Calls Try.prog 4 #[.string x, .string tail] w fun e w' => e = .returned (.bool true) ∧ Below w.heap.size w w' := by
  by_cases h : x.size ≤ 65536 ∧ tail.size ≤ 65536
  · exact inverts_walk x tail w h.1 h.2
  · go_enter Try.func4, Try.ntmps4
    go_wp2_with (go_at_call 9; refine (bytes9_walk _ _ _ ha hb).mono ?_; rintro e w' ⟨rfl, rfl⟩)
    all_goals go_ret
    all_goals exact ⟨rfl, Below.refl _ _⟩
end Go.Proofs.Qxb6603854a
