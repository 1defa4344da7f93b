import Derived.Test.Qxb6604323aWalksG
namespace Go.Proofs.Qxb6604323a
open Go.ChangeShapes Go.WideShapes Go.ChangeAt Go.RowKit
attribute [local go_sem] nil24

theorem info36 : (Try.prog.info? 36).map (fun i => (i.zero, i.size, i.bytes)) = some (some (.agg #[.slice none 0 0, .int .u64 0, .int .u64 0, .bool false, .bool false, .slice none 0 0]), 6, 72) := by kernel_rfl

/-- A stream as a law is handed it. -/
structure St where
  reps : List Int
  com : Int
  trm : Int
  sld : Bool
  tran : Bool
  cms : List Cm
def st0 : St := ⟨[], 0, 0, false, false, []⟩

/-- The six cells of a stream, at its two slices' values. -/
def StAt (w : World) (b o : Nat) (s : St) (ar : Option Addr) (nr cr : Nat) (ac : Option Addr) (nc cc : Nat) : Prop :=
  w.cell? ⟨b, o, none⟩ = some (.slice ar nr cr) ∧ w.cell? ⟨b, o + 1, none⟩ = some (.int .u64 s.com) ∧ w.cell? ⟨b, o + 2, none⟩ = some (.int .u64 s.trm) ∧
  w.cell? ⟨b, o + 3, none⟩ = some (.bool s.sld) ∧ w.cell? ⟨b, o + 4, none⟩ = some (.bool s.tran) ∧ w.cell? ⟨b, o + 5, none⟩ = some (.slice ac nc cc) ∧ US w ar nr cr s.reps ∧ CS w ac nc cc s.cms

theorem StAt.below {w w' : World} {b o : Nat} {s : St} {ar : Option Addr} {nr cr : Nat} {ac : Option Addr} {nc cc : Nat} (h : StAt w b o s ar nr cr ac nc cc) (hb : Below w.heap.size w w') (hB : b < w.heap.size) : StAt w' b o s ar nr cr ac nc cc := by
  obtain ⟨h0, h1, h2, h3, h4, h5, h6, h7⟩ := h
  have hc := fun o => hb.cell (p := ⟨b, o, none⟩) hB
  exact ⟨(hc _).trans h0, (hc _).trans h1, (hc _).trans h2, (hc _).trans h3, (hc _).trans h4, (hc _).trans h5, h6.below hb, h7.below hb⟩

/-- The slice value '.slice a n cap' leads in w to the streams ss. -/
def SS (w : World) (a : Option Addr) (n cap : Nat) (ss : List St) : Prop :=
  ss.length = n ∧ n ≤ cap ∧ (a = none → n = 0 ∧ cap = 0) ∧ (0 < n → ∃ b off, a = some ⟨b, off, none⟩ ∧ b < w.heap.size ∧ ∀ i, i < n → ∃ ar nr cr ac nc cc, StAt w b (off + i * 6) (ss.getD i st0) ar nr cr ac nc cc)
theorem SS.below {w w' : World} {a : Option Addr} {n cap : Nat} {ss : List St} (h : SS w a n cap ss) (hb : Below w.heap.size w w') : SS w' a n cap ss := by
  obtain ⟨h1, h2, h3, h4⟩ := h
  refine ⟨h1, h2, h3, fun hn => ?_⟩
  obtain ⟨b, off, ha, hlt, hc⟩ := h4 hn
  refine ⟨b, off, ha, Nat.lt_of_lt_of_le hlt hb.size, fun i hi => ?_⟩
  obtain ⟨ar, nr, cr, ac, nc, cc, h⟩ := hc i hi
  exact ⟨ar, nr, cr, ac, nc, cc, h.below hb hlt⟩
theorem SS.drewN {w : World} {a : Option Addr} {n cap : Nat} {ss : List St} (h : SS w a n cap ss) (q : Nat) : SS (w.drewN q) a n cap ss := h

/-- All lengths are modest. -/
def Mod (n : Nat) (ss : List St) : Prop := n ≤ 14563 ∧ ∀ i, i < n → (ss.getD i st0).reps.length ≤ 1048576 ∧ (ss.getD i st0).cms.length ≤ 1048576

def BigPost (n : Nat) (ss : List St) (nc : Nat) (x : Int) (w : World) (e : Ending) (w' : World) : Prop :=
  ∃ b, e = .returned (.bool b) ∧ (b = false → Mod n ss ∧ nc ≤ 26214 ∧ 0 ≤ x) ∧ ∃ q, w' = w.drewN q
theorem big_true (n : Nat) (ss : List St) (nc : Nat) (x : Int) (w : World) (q : Nat) : BigPost n ss nc x w (.returned (.bool true)) (w.drewN q) := ⟨true, rfl, (fun h => nomatch h), q, rfl⟩

set_option maxHeartbeats 2000000 in
theorem tooBig_walk (ac : Option Addr) (nc cc : Nat) (a : Option Addr) (n cap : Nat) (ss : List St) (x : Int) (w : World) (hn : n ≤ 9223372036854775807) (hnc : nc ≤ 9223372036854775807) (hx0 : -9223372036854775808 ≤ x) (hx1 : x ≤ 9223372036854775807) (h : SS w a n cap ss)
    (hmax : ∀ i, i < n → (ss.getD i st0).reps.length ≤ 9223372036854775807 ∧ (ss.getD i st0).cms.length ≤ 9223372036854775807) :
    Calls Try.prog 9 #[.slice ac nc cc, .slice a n cap, .int .i64 x] w fun e w' => BigPost n ss nc x w e w' := by
  by_cases c1 : ¬ (0 ≤ x ∧ x ≤ 1048576)
  · go_enter Try.func9, Try.ntmps9
    go_wp2
    all_goals first
      | (exfalso; omega)
      | (go_ret; exact big_true _ _ _ _ _ 0)
  by_cases c2 : ¬ (nc ≤ 1048576 ∧ n ≤ 1048576)
  · go_enter Try.func9, Try.ntmps9
    go_wp2
    all_goals first
      | (exfalso; omega)
      | (go_ret; exact big_true _ _ _ _ _ 0)
  obtain ⟨hl, hcap, hnil, hN⟩ := h
  obtain ⟨x0, x1⟩ := Classical.not_not.1 c1
  obtain ⟨y0, y1⟩ := Classical.not_not.1 c2
  clear c1 c2
  have HN := hide hN
  have HM := hide hmax
  clear hN hnil hmax
  go_enter Try.func9, Try.ntmps9
  go_wp2
  go_loopw [7, 8] (fun u i wr => ∃ k : Nat, k ≤ n ∧ i = .int .i64 k ∧ (∃ q, wr = w.drewN q) ∧ ∃ t : Int, u = .int .i64 t ∧ (n : Int) * 72 + (nc : Int) * 40 ≤ t ∧ t ≤ 200000000 ∧ Hid (∀ i, i < k → (ss.getD i st0).reps.length ≤ 1048576 ∧ (ss.getD i st0).cms.length ≤ 1048576)) (fun _ i _ => n - (intOf i).toNat)
  case atStart => exact ⟨0, Nat.zero_le _, rfl, ⟨0, rfl⟩, _, rfl, by omega, by omega, hide (fun i hi => absurd hi (by omega))⟩
  case round =>
    obtain ⟨k, hk, rfl, ⟨q, rfl⟩, t, rfl, ht0, ht1, hS⟩ := hrel
    by_cases hlt : k < n
    · obtain ⟨b, off, had, hbw, hcm⟩ := unhide HN (by omega)
      cases had
      obtain ⟨ar, nr, cr, ac', nc', cc', h0, h1, h2, h3, h4, h5, h6, h7⟩ := hcm k hlt
      obtain ⟨m1, m2⟩ := unhide HM k hlt
      have hnr := h6.1
      have hncc := h7.1
      rw [hnr] at m1
      rw [hncc] at m2
      by_cases c3 : t ≤ 1048576
      · by_cases c4 : nr ≤ 1048576 ∧ nc' ≤ 1048576
        · obtain ⟨c4a, c4b⟩ := c4
          have hS2 : Hid (∀ i, i < k + 1 → (ss.getD i st0).reps.length ≤ 1048576 ∧ (ss.getD i st0).cms.length ≤ 1048576) := hide (by
            intro i hi
            by_cases e : i = k
            · subst e; exact ⟨by omega, by omega⟩
            · exact unhide hS i (by omega))
          clear hcm HN HM h1 h2 h3 h4 h6 h7 hnr hncc hS m1 m2
          go_wp2
          go_quiet (fail)
          go_wp2
          go_roundw
          case rel => exact ⟨k + 1, by omega, by go_num, ⟨_, rfl⟩, _, rfl, by omega, by omega, hS2⟩
          case measure => simp [intOf]; omega
        · clear hcm HN HM h1 h2 h3 h4 h6 h7 hnr hncc hS
          go_wp2
          all_goals first
            | (exfalso; omega)
            | (go_ret; exact big_true _ _ _ _ _ q)
      · clear hcm HN HM h1 h2 h3 h4 h6 h7 hnr hncc hS
        go_wp2
        go_ret
        exact big_true _ _ _ _ _ q
    · have hkn : k = n := by omega
      subst hkn
      go_wp2
      go_ret
      refine ⟨_, rfl, (fun h => ?_), q, rfl⟩
      have h' : ¬ (1048576 < t) := by simpa using h
      exact ⟨⟨by omega, unhide hS⟩, by omega, x0⟩
end Go.Proofs.Qxb6604323a
