import Derived.Test.Qxb6604323aWalksH
namespace Go.Proofs.Qxb6604323a
open Go.ChangeShapes Go.WideShapes Go.ChangeAt Go.RowKit

def BoolPost (w : World) (e : Ending) (w' : World) : Prop := ∃ b, e = .returned (.bool b) ∧ w' = w
theorem bp (w : World) (b : Bool) : BoolPost w (.returned (.bool b)) w := ⟨b, rfl, rfl⟩
def Max63 (n : Nat) (ss : List St) : Prop := ∀ i, i < n → (ss.getD i st0).reps.length ≤ 9223372036854775807 ∧ (ss.getD i st0).cms.length ≤ 9223372036854775807

set_option maxHeartbeats 1000000 in
theorem zz25_walk (a : Option Addr) (n cap : Nat) (ss : List St) (x y z : Int) (w : World) (hn : n ≤ 9223372036854775807) (h : SS w a n cap ss) (hmax : Max63 n ss) :
    Calls Try.prog 25 #[.slice a n cap, .int .u32 x, .int .u32 y, .int .u32 z] w fun e w' => BoolPost w e w' := by
  obtain ⟨hl, hcap, hnil, hN⟩ := h
  have HN := hide hN
  have HM := hide hmax
  clear hN hnil hmax
  by_cases c1 : 1048576 < n
  · go_enter Try.func25, Try.ntmps25
    go_wp2
    go_ret
    exact bp w _
  go_enter Try.func25, Try.ntmps25
  go_wp2
  go_loop [9, 10] (fun u i => ∃ k : Nat, k ≤ n ∧ i = .int .i64 k ∧ ∃ t : Int, u = .int .i64 t ∧ 0 ≤ t ∧ t ≤ 1048576) (fun _ i => n - (intOf i).toNat)
  case atStart => exact ⟨0, Nat.zero_le _, rfl, _, rfl, by omega, by omega⟩
  case round =>
    obtain ⟨k, hk, rfl, t, rfl, ht0, ht1⟩ := hrel
    by_cases hlt : k < n
    · obtain ⟨b, off, had, hbw, hcm⟩ := unhide HN (by omega)
      cases had
      obtain ⟨ar, nr, cr, ac', nc', cc', h0, h1, h2, h3, h4, h5, h6, h7⟩ := hcm k hlt
      obtain ⟨m1, m2⟩ := unhide HM k hlt
      have hnr := h6.1
      have hncc := h7.1
      rw [hnr] at m1
      rw [hncc] at m2
      clear hcm HN HM h1 h2 h3 h4 h6 h7 hnr hncc
      go_wp2
      all_goals first
        | (go_ret; exact bp w _)
        | (go_round
           case rel => exact ⟨k + 1, by omega, by go_num, _, rfl, by omega, by omega⟩
           case measure => simp [intOf]; omega)
    · go_wp2
      go_ret
      exact bp w _
set_option maxHeartbeats 1000000 in
theorem zz8_walk (x1 x2 : Int) (ac : Option Addr) (nc cc : Nat) (a : Option Addr) (n cap : Nat) (ss : List St) (x y z : Int) (w : World) (hnc : nc ≤ 9223372036854775807) (hn : n ≤ 9223372036854775807) (h : SS w a n cap ss) (hmax : Max63 n ss) :
    Calls Try.prog 8 #[.int .u64 x1, .int .u64 x2, .slice ac nc cc, .slice a n cap, .int .u32 x, .int .u32 y, .int .u32 z] w fun e w' => BoolPost w e w' := by
  obtain ⟨hl, hcap, hnil, hN⟩ := h
  have HN := hide hN
  have HM := hide hmax
  clear hN hnil hmax
  by_cases c1 : 1048576 < nc
  · go_enter Try.func8, Try.ntmps8
    go_wp2
    go_ret
    exact bp w _
  by_cases c2 : 1048576 < n
  · go_enter Try.func8, Try.ntmps8
    go_wp2
    go_ret
    exact bp w _
  by_cases c3 : 1048576 < nc + n
  · go_enter Try.func8, Try.ntmps8
    go_wp2
    go_ret
    exact bp w _
  go_enter Try.func8, Try.ntmps8
  go_wp2
  go_loop [15, 16] (fun u i => ∃ k : Nat, k ≤ n ∧ i = .int .i64 k ∧ ∃ t : Int, u = .int .i64 t ∧ 0 ≤ t ∧ t ≤ 1048576) (fun _ i => n - (intOf i).toNat)
  case atStart => exact ⟨0, Nat.zero_le _, rfl, _, rfl, by omega, by omega⟩
  case round =>
    obtain ⟨k, hk, rfl, t, rfl, ht0, ht1⟩ := hrel
    by_cases hlt : k < n
    · obtain ⟨b, off, had, hbw, hcm⟩ := unhide HN (by omega)
      cases had
      obtain ⟨ar, nr, cr, ac', nc', cc', h0, h1, h2, h3, h4, h5, h6, h7⟩ := hcm k hlt
      obtain ⟨m1, m2⟩ := unhide HM k hlt
      have hnr := h6.1
      have hncc := h7.1
      rw [hnr] at m1
      rw [hncc] at m2
      clear hcm HN HM h1 h2 h3 h4 h6 h7 hnr hncc
      go_wp2
      all_goals first
        | (go_ret; exact bp w _)
        | (go_round
           case rel => exact ⟨k + 1, by omega, by go_num, _, rfl, by omega, by omega⟩
           case measure => simp [intOf]; omega)
    · go_wp2
      go_ret
      exact bp w _
set_option maxHeartbeats 1000000 in
theorem zz34_walk (x1 x2 : Int) (ac : Option Addr) (nc cc : Nat) (a : Option Addr) (n cap : Nat) (ss : List St) (x : Int) (w : World) (hnc : nc ≤ 9223372036854775807) (hn : n ≤ 9223372036854775807) (h : SS w a n cap ss) (hmax : Max63 n ss) :
    Calls Try.prog 34 #[.int .u64 x1, .int .u64 x2, .slice ac nc cc, .slice a n cap, .int .u64 x] w fun e w' => BoolPost w e w' := by
  obtain ⟨hl, hcap, hnil, hN⟩ := h
  have HN := hide hN
  have HM := hide hmax
  clear hN hnil hmax
  by_cases c1 : 1048576 < nc
  · go_enter Try.func34, Try.ntmps34
    go_wp2
    go_ret
    exact bp w _
  by_cases c2 : 1048576 < n
  · go_enter Try.func34, Try.ntmps34
    go_wp2
    go_ret
    exact bp w _
  by_cases c3 : 1048576 < nc + n
  · go_enter Try.func34, Try.ntmps34
    go_wp2
    go_ret
    exact bp w _
  go_enter Try.func34, Try.ntmps34
  go_wp2
  go_loop [11, 12] (fun u i => ∃ k : Nat, k ≤ n ∧ i = .int .i64 k ∧ ∃ t : Int, u = .int .i64 t ∧ 0 ≤ t ∧ t ≤ 1048576) (fun _ i => n - (intOf i).toNat)
  case atStart => exact ⟨0, Nat.zero_le _, rfl, _, rfl, by omega, by omega⟩
  case round =>
    obtain ⟨k, hk, rfl, t, rfl, ht0, ht1⟩ := hrel
    by_cases hlt : k < n
    · obtain ⟨b, off, had, hbw, hcm⟩ := unhide HN (by omega)
      cases had
      obtain ⟨ar, nr, cr, ac', nc', cc', h0, h1, h2, h3, h4, h5, h6, h7⟩ := hcm k hlt
      obtain ⟨m1, m2⟩ := unhide HM k hlt
      have hnr := h6.1
      have hncc := h7.1
      rw [hnr] at m1
      rw [hncc] at m2
      clear hcm HN HM h1 h2 h3 h4 h6 h7 hnr hncc
      go_wp2
      all_goals first
        | (go_ret; exact bp w _)
        | (go_round
           case rel => exact ⟨k + 1, by omega, by go_num, _, rfl, by omega, by omega⟩
           case measure => simp [intOf]; omega)
    · go_wp2
      go_ret
      exact bp w _
set_option maxHeartbeats 1000000 in
theorem zz27_walk (a : Option Addr) (n cap : Nat) (ss : List St) (a1 : Option Addr) (n1 c1 : Nat) (a2 : Option Addr) (n2 c2 : Nat) (a3 : Option Addr) (n3 c3 : Nat) (w : World) (hn : n ≤ 9223372036854775807) (hn1 : n1 ≤ 9223372036854775807) (hn2 : n2 ≤ 9223372036854775807) (hn3 : n3 ≤ 9223372036854775807) (h : SS w a n cap ss) (hmax : Max63 n ss) :
    Calls Try.prog 27 #[.slice a n cap, .slice a1 n1 c1, .slice a2 n2 c2, .slice a3 n3 c3] w fun e w' => BoolPost w e w' := by
  obtain ⟨hl, hcap, hnil, hN⟩ := h
  have HN := hide hN
  have HM := hide hmax
  clear hN hnil hmax
  by_cases d1 : 1048576 < n
  · go_enter Try.func27, Try.ntmps27
    go_wp2
    go_ret
    exact bp w _
  go_enter Try.func27, Try.ntmps27
  go_wp2
  go_loop [9, 10] (fun u i => ∃ k : Nat, k ≤ n ∧ i = .int .i64 k ∧ ∃ t : Int, u = .int .i64 t ∧ 0 ≤ t ∧ t ≤ 1048576) (fun _ i => n - (intOf i).toNat)
  case atStart => exact ⟨0, Nat.zero_le _, rfl, _, rfl, by omega, by omega⟩
  case round =>
    obtain ⟨k, hk, rfl, t, rfl, ht0, ht1⟩ := hrel
    by_cases hlt : k < n
    · obtain ⟨b, off, had, hbw, hcm⟩ := unhide HN (by omega)
      cases had
      obtain ⟨ar, nr, cr, ac', nc', cc', h0, h1, h2, h3, h4, h5, h6, h7⟩ := hcm k hlt
      obtain ⟨m1, m2⟩ := unhide HM k hlt
      have hnr := h6.1
      have hncc := h7.1
      rw [hnr] at m1
      rw [hncc] at m2
      clear hcm HN HM h1 h2 h3 h4 h6 h7 hnr hncc
      go_wp2
      all_goals first
        | (go_ret; exact bp w _)
        | (go_round
           case rel => exact ⟨k + 1, by omega, by go_num, _, rfl, by omega, by omega⟩
           case measure => simp [intOf]; omega)
    · go_wp2
      all_goals (go_ret; exact bp w _)
end Go.Proofs.Qxb6604323a
